import JvmDerived
import JvmDerived.Pilot.@@N@@Statement
import JvmDerived.Pilot.@@N@@Code
set_option linter.unusedVariables false
set_option linter.unusedSimpArgs false
namespace Jvm.RoadKit
open Sem ClassFile Op Lib Jvm.Stand Jvm.Free Jvm.LawKit
section New
variable {p : Program} {l : Launch} {e : Env} {R : Room} {s : State} {m : MethodId} {args : Array Value} {below : List Frame} {meth : Method} {c : Code} {T : State} {locs : List Loc} {cells slots : Nat}
theorem retI (X : Stand p l e R s m args below meth c T locs cells slots) (hx : p.tables.exec = Jvm.exec) {pc : Nat} {Ls : Array Slot} {z : Int32} {rest : List Value} (hret : meth.sig.returnType = some .int) (hd : decode c.code pc = .ok (.ireturn, 1)) {fs : List Frame}
    (hl : ∀ (f : JFrame) (acts : List Action), f.method = m → f.locked = none → f.entered = [] → (doReturn e (T.setTop f) acts (some (.int z))).1 = T.setFrames fs) : Steps p.tables e below (T.setTop (mkF m pc Ls (.int z :: rest))) (T.setFrames fs) := by
  have hm' : T.vm.method? m = some meth := X.method'
  have hn : narrow .int (.int z) = .int z := rfl
  show Steps p.tables e below (T.setTop { method := m, pc := pc, locals := Ls, stack := _ :: rest, locked := none }) _
  jvm_step X.here [X.here.top, hx, hd, hm', hret, hn]
  first | (intro acts; rw [hl _ acts rfl rfl rfl]) | rw [hl _ _ rfl rfl rfl]
  exact Steps.refl _
end New
end Jvm.RoadKit
namespace Jvm.Pilot.@@N@@
open Jvm Jvm.ClassFile Sem Op Lib Jvm.Free Jvm.Stand Jvm.LawKit Jvm.RoadKit Bundle Jvm.Pilot.@@N@@.Jvm.D
section Own
variable {p : Program} {l : Launch} {e : Env} {R : Room} {s : State} {m : MethodId} {args : Array Value} {below : List Frame} {meth : Method} {c : Code} {T : State} {locs : List Loc} {cells slots : Nat} {Z : State} {a0 : Array Value} {h h' : Heap} {n0 : Nat} {Q : Option Value → Heap → Prop} {kc ks : Nat} {Ls : Array Slot} {St : List Value} {pc : Nat} {own nm : String} {bytes : ByteArray} {maxL : Nat} {ret : Option FieldType}
/-- the rest of a run: from S the method ends by returning; Q says what it returns and leaves; nothing below n0 is written -/
def OGo (p : Program) (e : Env) (below : List Frame) (s : State) (n0 : Nat) (Q : Option Value → Heap → Prop) (kc ks : Nat) (S : State) : Prop :=
  ∃ U o, Steps p.tables e below S U ∧ U.status = .running ∧ Ended U below o ∧ ∃ v L, o = .returned v ∧ (Q v U.heap ∧ Fr n0 L) ∧ FrameEnd s o U L kc ks
theorem OGo.st {A B : State} (k : ∀ t, Steps p.tables e below A t → Steps p.tables e below B t) (g : OGo p e below s n0 Q kc ks A) : OGo p e below s n0 Q kc ks B := by
  obtain ⟨U, o, h1, r⟩ := g
  exact ⟨U, o, k U h1, r⟩
theorem OGo.imp {A : State} {Q' : Option Value → Heap → Prop} (k : ∀ v h, Q' v h → Q v h) (g : OGo p e below s n0 Q' kc ks A) : OGo p e below s n0 Q kc ks A := by
  obtain ⟨U, o, h1, h2, h3, v, L, h4, ⟨h5, h6⟩, h7⟩ := g
  exact ⟨U, o, h1, h2, h3, v, L, h4, ⟨k _ _ h5, h6⟩, h7⟩
/-- what a walk knows of the method in which it stands -/
def OCx (p : Program) (s : State) (m : MethodId) (meth : Method) (c : Code) (Z : State) (own nm : String) (bytes : ByteArray) (maxL : Nat) (ret : Option FieldType) : Prop :=
  p.tables.exec = Jvm.exec ∧ Z.Warmed39 s.vm ∧ c.code = bytes ∧ c.maxLocals = maxL ∧ s.vm.findClass own = some m.cls ∧ meth.name = nm ∧ meth.sig.returnType = ret ∧ meth.locks = false
theorem OCx.hx (K : OCx p s m meth c Z own nm bytes maxL ret) : p.tables.exec = Jvm.exec := K.1
theorem OCx.hZ (K : OCx p s m meth c Z own nm bytes maxL ret) : Z.Warmed39 s.vm := K.2.1
theorem OCx.hby (K : OCx p s m meth c Z own nm bytes maxL ret) : c.code = bytes := K.2.2.1
theorem OCx.hml (K : OCx p s m meth c Z own nm bytes maxL ret) : c.maxLocals = maxL := K.2.2.2.1
theorem OCx.hown (K : OCx p s m meth c Z own nm bytes maxL ret) : s.vm.findClass own = some m.cls := K.2.2.2.2.1
theorem OCx.hnm (K : OCx p s m meth c Z own nm bytes maxL ret) : meth.name = nm := K.2.2.2.2.2.1
theorem OCx.hret (K : OCx p s m meth c Z own nm bytes maxL ret) : meth.sig.returnType = ret := K.2.2.2.2.2.2.1
theorem OCx.hlk (K : OCx p s m meth c Z own nm bytes maxL ret) : meth.locks = false := K.2.2.2.2.2.2.2
/-- a body's contract: called with these arguments at this heap it returns, and Q -/
def OCon (l : Launch) (Z : State) (n0 : Nat) (y : MethodName) (bytes : ByteArray) (maxL : Nat) (ret : Option FieldType) (rm : Room) (as : Array Value) (h0 : Heap) (Q : Option Value → Heap → Prop) : Prop :=
  ∀ ws, MetFree l y (head1 (Jvm.Cond.code y bytes maxL ret :: ws) rm) (fun a U => a = as ∧ Z.Warmed39 U.vm ∧ U.heap = h0) (fun _ _ _ _ _ => True) (fun _ U o U' => ∃ v L, o = .returned v ∧ (Q v U'.heap ∧ Fr n0 L) ∧ FrameEnd U o U' L rm.cells rm.slots)
theorem OCon.of {y : MethodName} {rm : Room} {as : Array Value} {h0 : Heap} {Ls : Array Slot} (hpl : plainFor y = true) (ho : y.cls = own) (hn : y.name = nm) (hen : ∀ m, entryFrame m as maxL = mkF m 0 Ls [])
    (H : ∀ (p : Program) (e : Env) (s : State) (m : MethodId) (below : List Frame) (meth : Method) (c : Code) (T : State), Stand p l e rm s m as below meth c T [] 0 0 → OCx p s m meth c Z own nm bytes maxL ret → T.heap = h0 → OGo p e below s n0 Q rm.cells rm.slots (T.setTop (mkF m 0 Ls []))) : OCon l Z n0 y bytes maxL ret rm as h0 Q := by
  intro ws
  refine MetFree.of_bodySF hpl hisR ?_
  intro p e s m args below meth c s₁ Bd hml0 hP hK
  obtain ⟨rfl, hZ, hh⟩ := hP
  subst ho hn
  obtain ⟨U, o, h1, r⟩ := H p e s m below meth c s₁ (Stand.of_body Bd) ⟨Bd.exec, hZ, Bd.bytes, hml0, findClass_of_methodNamed Bd.named, (name_of_methodNamed Bd.named Bd.method).1, Bd.returns, Bd.notSynchronized⟩ (by rw [← hh, Bd.state]; rfl)
  exact ⟨U, o, castTop (hen m) h1, r⟩
theorem OCon.imp {y : MethodName} {rm : Room} {as : Array Value} {h0 : Heap} {Q' : Option Value → Heap → Prop} (g : OCon l Z n0 y bytes maxL ret rm as h0 Q) (k : ∀ v h, Q v h → Q' v h) : OCon l Z n0 y bytes maxL ret rm as h0 Q' := by
  intro ws p e ha hc hk s m args below hf happ hP hK
  obtain ⟨n, o, h1, h2, h3, v, L, h4, ⟨h5, h6⟩, h7⟩ := g ws p e ha hc hk s m args below hf happ hP hK
  exact ⟨n, o, h1, h2, h3, v, L, h4, ⟨k _ _ h5, h6⟩, h7⟩

theorem o_iload (X : Stand p l e R s m args below meth c T locs cells slots) (K : OCx p s m meth c Z own nm bytes maxL ret) {k : Nat} {v : Int32} (hd : decode bytes pc = .ok (.iload k, 2)) (pc' : Nat) (hp : pc + 2 = pc') (hl : Ls[k]? = some (.val (.int v))) (hr : OGo p e below s n0 Q kc ks (T.setTop (mkF m pc' Ls (.int v :: St)))) : OGo p e below s n0 Q kc ks (T.setTop (mkF m pc Ls St)) := by
  subst hp
  exact OGo.st (fun _ k => XS.iload X.here K.hx rfl (hb K.hby hd) hl k) hr
theorem o_iloadN (X : Stand p l e R s m args below meth c T locs cells slots) (K : OCx p s m meth c Z own nm bytes maxL ret) {k : Fin 4} {v : Int32} (hd : decode bytes pc = .ok (.iload_n k, 1)) (pc' : Nat) (hp : pc + 1 = pc') (hl : Ls[k.val]? = some (.val (.int v))) (hr : OGo p e below s n0 Q kc ks (T.setTop (mkF m pc' Ls (.int v :: St)))) : OGo p e below s n0 Q kc ks (T.setTop (mkF m pc Ls St)) := by
  subst hp
  exact OGo.st (fun _ k => XS.iloadN X.here K.hx rfl (hb K.hby hd) hl k) hr
theorem o_lload (X : Stand p l e R s m args below meth c T locs cells slots) (K : OCx p s m meth c Z own nm bytes maxL ret) {k : Nat} {v : Int64} (hd : decode bytes pc = .ok (.lload k, 2)) (pc' : Nat) (hp : pc + 2 = pc') (hl : Ls[k]? = some (.val (.long v))) (hr : OGo p e below s n0 Q kc ks (T.setTop (mkF m pc' Ls (.long v :: St)))) : OGo p e below s n0 Q kc ks (T.setTop (mkF m pc Ls St)) := by
  subst hp
  exact OGo.st (fun _ k => XS.lload X.here K.hx rfl (hb K.hby hd) hl k) hr
theorem o_lloadN (X : Stand p l e R s m args below meth c T locs cells slots) (K : OCx p s m meth c Z own nm bytes maxL ret) {k : Fin 4} {v : Int64} (hd : decode bytes pc = .ok (.lload_n k, 1)) (pc' : Nat) (hp : pc + 1 = pc') (hl : Ls[k.val]? = some (.val (.long v))) (hr : OGo p e below s n0 Q kc ks (T.setTop (mkF m pc' Ls (.long v :: St)))) : OGo p e below s n0 Q kc ks (T.setTop (mkF m pc Ls St)) := by
  subst hp
  exact OGo.st (fun _ k => XS.lloadN X.here K.hx rfl (hb K.hby hd) hl k) hr
theorem o_aload (X : Stand p l e R s m args below meth c T locs cells slots) (K : OCx p s m meth c Z own nm bytes maxL ret) {k : Nat} {v : Value} (hd : decode bytes pc = .ok (.aload k, 2)) (pc' : Nat) (hp : pc + 2 = pc') (hl : Ls[k]? = some (.val v)) (hv : v.isRef = true) (hr : OGo p e below s n0 Q kc ks (T.setTop (mkF m pc' Ls (v :: St)))) : OGo p e below s n0 Q kc ks (T.setTop (mkF m pc Ls St)) := by
  subst hp
  exact OGo.st (fun _ k => XS.aload X.here K.hx rfl (hb K.hby hd) hl hv k) hr
theorem o_aloadN (X : Stand p l e R s m args below meth c T locs cells slots) (K : OCx p s m meth c Z own nm bytes maxL ret) {k : Fin 4} {v : Value} (hd : decode bytes pc = .ok (.aload_n k, 1)) (pc' : Nat) (hp : pc + 1 = pc') (hl : Ls[k.val]? = some (.val v)) (hv : v.isRef = true) (hr : OGo p e below s n0 Q kc ks (T.setTop (mkF m pc' Ls (v :: St)))) : OGo p e below s n0 Q kc ks (T.setTop (mkF m pc Ls St)) := by
  subst hp
  exact OGo.st (fun _ k => XS.aloadN X.here K.hx rfl (hb K.hby hd) hl hv k) hr
theorem o_istore (X : Stand p l e R s m args below meth c T locs cells slots) (K : OCx p s m meth c Z own nm bytes maxL ret) {k : Nat} {x x' : Int32} (hd : decode bytes pc = .ok (.istore k, 2)) (pc' : Nat) (hp : pc + 2 = pc') (Ls' : Array Slot) (hv : x = x') (hl : storeLocals Ls k (.int x') = some Ls') (hr : OGo p e below s n0 Q kc ks (T.setTop (mkF m pc' Ls' St))) : OGo p e below s n0 Q kc ks (T.setTop (mkF m pc Ls (.int x :: St))) := by
  subst hp
  exact OGo.st (fun _ k => XS.istore X.here K.hx rfl (hb K.hby hd) rfl (hv ▸ hl) k) hr
theorem o_istoreN (X : Stand p l e R s m args below meth c T locs cells slots) (K : OCx p s m meth c Z own nm bytes maxL ret) {k : Fin 4} {x x' : Int32} (hd : decode bytes pc = .ok (.istore_n k, 1)) (pc' : Nat) (hp : pc + 1 = pc') (Ls' : Array Slot) (hv : x = x') (hl : storeLocals Ls k.val (.int x') = some Ls') (hr : OGo p e below s n0 Q kc ks (T.setTop (mkF m pc' Ls' St))) : OGo p e below s n0 Q kc ks (T.setTop (mkF m pc Ls (.int x :: St))) := by
  subst hp
  exact OGo.st (fun _ k => XS.istoreN X.here K.hx rfl (hb K.hby hd) rfl (hv ▸ hl) k) hr
theorem o_lstore (X : Stand p l e R s m args below meth c T locs cells slots) (K : OCx p s m meth c Z own nm bytes maxL ret) {k : Nat} {x x' : Int64} (hd : decode bytes pc = .ok (.lstore k, 2)) (pc' : Nat) (hp : pc + 2 = pc') (Ls' : Array Slot) (hv : x = x') (hl : storeLocals Ls k (.long x') = some Ls') (hr : OGo p e below s n0 Q kc ks (T.setTop (mkF m pc' Ls' St))) : OGo p e below s n0 Q kc ks (T.setTop (mkF m pc Ls (.long x :: St))) := by
  subst hp
  exact OGo.st (fun _ k => XS.lstore X.here K.hx rfl (hb K.hby hd) rfl (hv ▸ hl) k) hr
theorem o_lstoreN (X : Stand p l e R s m args below meth c T locs cells slots) (K : OCx p s m meth c Z own nm bytes maxL ret) {k : Fin 4} {x x' : Int64} (hd : decode bytes pc = .ok (.lstore_n k, 1)) (pc' : Nat) (hp : pc + 1 = pc') (Ls' : Array Slot) (hv : x = x') (hl : storeLocals Ls k.val (.long x') = some Ls') (hr : OGo p e below s n0 Q kc ks (T.setTop (mkF m pc' Ls' St))) : OGo p e below s n0 Q kc ks (T.setTop (mkF m pc Ls (.long x :: St))) := by
  subst hp
  exact OGo.st (fun _ k => XS.lstoreN X.here K.hx rfl (hb K.hby hd) rfl (hv ▸ hl) k) hr
theorem o_astore (X : Stand p l e R s m args below meth c T locs cells slots) (K : OCx p s m meth c Z own nm bytes maxL ret) {k : Nat} {x : Value} (hd : decode bytes pc = .ok (.astore k, 2)) (pc' : Nat) (hp : pc + 2 = pc') (Ls' : Array Slot) (hv : x.isRef = true) (hl : storeLocals Ls k x = some Ls') (hr : OGo p e below s n0 Q kc ks (T.setTop (mkF m pc' Ls' St))) : OGo p e below s n0 Q kc ks (T.setTop (mkF m pc Ls (x :: St))) := by
  subst hp
  exact OGo.st (fun _ k => XS.astore X.here K.hx rfl (hb K.hby hd) rfl hv hl k) hr
theorem o_astoreN (X : Stand p l e R s m args below meth c T locs cells slots) (K : OCx p s m meth c Z own nm bytes maxL ret) {k : Fin 4} {x : Value} (hd : decode bytes pc = .ok (.astore_n k, 1)) (pc' : Nat) (hp : pc + 1 = pc') (Ls' : Array Slot) (hv : x.isRef = true) (hl : storeLocals Ls k.val x = some Ls') (hr : OGo p e below s n0 Q kc ks (T.setTop (mkF m pc' Ls' St))) : OGo p e below s n0 Q kc ks (T.setTop (mkF m pc Ls (x :: St))) := by
  subst hp
  exact OGo.st (fun _ k => XS.astoreN X.here K.hx rfl (hb K.hby hd) rfl hv hl k) hr
theorem o_iinc (X : Stand p l e R s m args below meth c T locs cells slots) (K : OCx p s m meth c Z own nm bytes maxL ret) {k : Nat} {cst : Int} {x x' : Int32} (hd : decode bytes pc = .ok (.iinc k cst, 3)) (pc' : Nat) (hp : pc + 3 = pc') (Ls' : Array Slot) (hl : Ls[k]? = some (.val (.int x))) (hv : x + Int32.ofInt cst = x') (hl' : storeLocals Ls k (.int x') = some Ls') (hr : OGo p e below s n0 Q kc ks (T.setTop (mkF m pc' Ls' St))) : OGo p e below s n0 Q kc ks (T.setTop (mkF m pc Ls St)) := by
  subst hp
  exact OGo.st (fun _ k => XS.iinc X.here K.hx rfl (hb K.hby hd) hl (hv ▸ hl') k) hr
theorem o_iconst (X : Stand p l e R s m args below meth c T locs cells slots) (K : OCx p s m meth c Z own nm bytes maxL ret) {i : Int} (v : Int32) (hd : decode bytes pc = .ok (.iconst i, 1)) (pc' : Nat) (hp : pc + 1 = pc') (hv : Int32.ofInt i = v) (hr : OGo p e below s n0 Q kc ks (T.setTop (mkF m pc' Ls (.int v :: St)))) : OGo p e below s n0 Q kc ks (T.setTop (mkF m pc Ls St)) := by
  subst hp
  exact OGo.st (fun _ k => XS.iconst X.here K.hx rfl (hb K.hby hd) (by rw [hv]; exact k)) hr
theorem o_bipush (X : Stand p l e R s m args below meth c T locs cells slots) (K : OCx p s m meth c Z own nm bytes maxL ret) {i : Int} (v : Int32) (hd : decode bytes pc = .ok (.bipush i, 2)) (pc' : Nat) (hp : pc + 2 = pc') (hv : (Int8.ofInt i).toInt32 = v) (hr : OGo p e below s n0 Q kc ks (T.setTop (mkF m pc' Ls (.int v :: St)))) : OGo p e below s n0 Q kc ks (T.setTop (mkF m pc Ls St)) := by
  subst hp
  exact OGo.st (fun _ k => XS.bipush X.here K.hx rfl (hb K.hby hd) (by rw [hv]; exact k)) hr
theorem o_sipush (X : Stand p l e R s m args below meth c T locs cells slots) (K : OCx p s m meth c Z own nm bytes maxL ret) {i : Int} (v : Int32) (hd : decode bytes pc = .ok (.sipush i, 3)) (pc' : Nat) (hp : pc + 3 = pc') (hv : (Int16.ofInt i).toInt32 = v) (hr : OGo p e below s n0 Q kc ks (T.setTop (mkF m pc' Ls (.int v :: St)))) : OGo p e below s n0 Q kc ks (T.setTop (mkF m pc Ls St)) := by
  subst hp
  exact OGo.st (fun _ k => XS.sipush X.here K.hx rfl (hb K.hby hd) (by rw [hv]; exact k)) hr
theorem o_lconst (X : Stand p l e R s m args below meth c T locs cells slots) (K : OCx p s m meth c Z own nm bytes maxL ret) {i : Fin 2} (v : Int64) (hd : decode bytes pc = .ok (.lconst i, 1)) (pc' : Nat) (hp : pc + 1 = pc') (hv : Int64.ofNat i = v) (hr : OGo p e below s n0 Q kc ks (T.setTop (mkF m pc' Ls (.long v :: St)))) : OGo p e below s n0 Q kc ks (T.setTop (mkF m pc Ls St)) := by
  subst hp
  exact OGo.st (fun _ k => XS.lconst X.here K.hx rfl (hb K.hby hd) (by rw [hv]; exact k)) hr
theorem o_aconst_null (X : Stand p l e R s m args below meth c T locs cells slots) (K : OCx p s m meth c Z own nm bytes maxL ret) (hd : decode bytes pc = .ok (.aconst_null, 1)) (pc' : Nat) (hp : pc + 1 = pc') (hr : OGo p e below s n0 Q kc ks (T.setTop (mkF m pc' Ls (.null :: St)))) : OGo p e below s n0 Q kc ks (T.setTop (mkF m pc Ls St)) := by
  subst hp
  exact OGo.st (fun _ k => XS.aconstNull X.here K.hx rfl (hb K.hby hd) k) hr
theorem o_ldcI (X : Stand p l e R s m args below meth c T locs cells slots) (K : OCx p s m meth c Z own nm bytes maxL ret) {index : Nat} {v : Int32} (hd : decode bytes pc = .ok (.ldc index, 2)) (pc' : Nat) (hp : pc + 2 = pc') (w : (Jvm.Cond.constant own index v).before a0 Z = true) (hr : OGo p e below s n0 Q kc ks (T.setTop (mkF m pc' Ls (.int v :: St)))) : OGo p e below s n0 Q kc ks (T.setTop (mkF m pc Ls St)) := by
  subst hp
  exact OGo.st (fun _ k => Stand.ldcI X K.hx K.hown (mvT K.hZ w) rfl (hb K.hby hd) k) hr
theorem o_ldcWI (X : Stand p l e R s m args below meth c T locs cells slots) (K : OCx p s m meth c Z own nm bytes maxL ret) {index : Nat} {v : Int32} (hd : decode bytes pc = .ok (.ldc_w index, 3)) (pc' : Nat) (hp : pc + 3 = pc') (w : (Jvm.Cond.constant own index v).before a0 Z = true) (hr : OGo p e below s n0 Q kc ks (T.setTop (mkF m pc' Ls (.int v :: St)))) : OGo p e below s n0 Q kc ks (T.setTop (mkF m pc Ls St)) := by
  subst hp
  exact OGo.st (fun _ k => Stand.ldcWI X K.hx K.hown (mvT K.hZ w) rfl (hb K.hby hd) k) hr
theorem o_ldc2J (X : Stand p l e R s m args below meth c T locs cells slots) (K : OCx p s m meth c Z own nm bytes maxL ret) {index : Nat} {v : Int64} (hd : decode bytes pc = .ok (.ldc2_w index, 3)) (pc' : Nat) (hp : pc + 3 = pc') (w : (Jvm.Cond.constantLong own index v).before a0 Z = true) (hr : OGo p e below s n0 Q kc ks (T.setTop (mkF m pc' Ls (.long v :: St)))) : OGo p e below s n0 Q kc ks (T.setTop (mkF m pc Ls St)) := by
  subst hp
  exact OGo.st (fun _ k => Stand.ldc2J X K.hx K.hown (mvT K.hZ w) rfl (hb K.hby hd) k) hr
theorem o_iadd (X : Stand p l e R s m args below meth c T locs cells slots) (K : OCx p s m meth c Z own nm bytes maxL ret) {x y : Int32} (hd : decode bytes pc = .ok (.iadd, 1)) (pc' : Nat) (hp : pc + 1 = pc') (hr : OGo p e below s n0 Q kc ks (T.setTop (mkF m pc' Ls (.int (x + y) :: St)))) : OGo p e below s n0 Q kc ks (T.setTop (mkF m pc Ls (.int y :: .int x :: St))) := by
  subst hp
  exact OGo.st (fun _ k => XS.iadd X.here K.hx rfl (hb K.hby hd) rfl k) hr
theorem o_isub (X : Stand p l e R s m args below meth c T locs cells slots) (K : OCx p s m meth c Z own nm bytes maxL ret) {x y : Int32} (hd : decode bytes pc = .ok (.isub, 1)) (pc' : Nat) (hp : pc + 1 = pc') (hr : OGo p e below s n0 Q kc ks (T.setTop (mkF m pc' Ls (.int (x - y) :: St)))) : OGo p e below s n0 Q kc ks (T.setTop (mkF m pc Ls (.int y :: .int x :: St))) := by
  subst hp
  exact OGo.st (fun _ k => XS.isub X.here K.hx rfl (hb K.hby hd) rfl k) hr
theorem o_imul (X : Stand p l e R s m args below meth c T locs cells slots) (K : OCx p s m meth c Z own nm bytes maxL ret) {x y : Int32} (hd : decode bytes pc = .ok (.imul, 1)) (pc' : Nat) (hp : pc + 1 = pc') (hr : OGo p e below s n0 Q kc ks (T.setTop (mkF m pc' Ls (.int (x * y) :: St)))) : OGo p e below s n0 Q kc ks (T.setTop (mkF m pc Ls (.int y :: .int x :: St))) := by
  subst hp
  exact OGo.st (fun _ k => XS.imul X.here K.hx rfl (hb K.hby hd) rfl k) hr
theorem o_iand (X : Stand p l e R s m args below meth c T locs cells slots) (K : OCx p s m meth c Z own nm bytes maxL ret) {x y : Int32} (hd : decode bytes pc = .ok (.iand, 1)) (pc' : Nat) (hp : pc + 1 = pc') (hr : OGo p e below s n0 Q kc ks (T.setTop (mkF m pc' Ls (.int (x &&& y) :: St)))) : OGo p e below s n0 Q kc ks (T.setTop (mkF m pc Ls (.int y :: .int x :: St))) := by
  subst hp
  exact OGo.st (fun _ k => XS.iand X.here K.hx rfl (hb K.hby hd) rfl k) hr
theorem o_ior (X : Stand p l e R s m args below meth c T locs cells slots) (K : OCx p s m meth c Z own nm bytes maxL ret) {x y : Int32} (hd : decode bytes pc = .ok (.ior, 1)) (pc' : Nat) (hp : pc + 1 = pc') (hr : OGo p e below s n0 Q kc ks (T.setTop (mkF m pc' Ls (.int (x ||| y) :: St)))) : OGo p e below s n0 Q kc ks (T.setTop (mkF m pc Ls (.int y :: .int x :: St))) := by
  subst hp
  exact OGo.st (fun _ k => XS.ior X.here K.hx rfl (hb K.hby hd) rfl k) hr
theorem o_ixor (X : Stand p l e R s m args below meth c T locs cells slots) (K : OCx p s m meth c Z own nm bytes maxL ret) {x y : Int32} (hd : decode bytes pc = .ok (.ixor, 1)) (pc' : Nat) (hp : pc + 1 = pc') (hr : OGo p e below s n0 Q kc ks (T.setTop (mkF m pc' Ls (.int (x ^^^ y) :: St)))) : OGo p e below s n0 Q kc ks (T.setTop (mkF m pc Ls (.int y :: .int x :: St))) := by
  subst hp
  exact OGo.st (fun _ k => XS.ixor X.here K.hx rfl (hb K.hby hd) rfl k) hr
theorem o_ishl (X : Stand p l e R s m args below meth c T locs cells slots) (K : OCx p s m meth c Z own nm bytes maxL ret) {x y : Int32} (hd : decode bytes pc = .ok (.ishl, 1)) (pc' : Nat) (hp : pc + 1 = pc') (hr : OGo p e below s n0 Q kc ks (T.setTop (mkF m pc' Ls (.int (x <<< (y &&& 31)) :: St)))) : OGo p e below s n0 Q kc ks (T.setTop (mkF m pc Ls (.int y :: .int x :: St))) := by
  subst hp
  exact OGo.st (fun _ k => XS.ishl X.here K.hx rfl (hb K.hby hd) rfl k) hr
theorem o_ishr (X : Stand p l e R s m args below meth c T locs cells slots) (K : OCx p s m meth c Z own nm bytes maxL ret) {x y : Int32} (hd : decode bytes pc = .ok (.ishr, 1)) (pc' : Nat) (hp : pc + 1 = pc') (hr : OGo p e below s n0 Q kc ks (T.setTop (mkF m pc' Ls (.int (x >>> (y &&& 31)) :: St)))) : OGo p e below s n0 Q kc ks (T.setTop (mkF m pc Ls (.int y :: .int x :: St))) := by
  subst hp
  exact OGo.st (fun _ k => XS.ishr X.here K.hx rfl (hb K.hby hd) rfl k) hr
theorem o_iushr (X : Stand p l e R s m args below meth c T locs cells slots) (K : OCx p s m meth c Z own nm bytes maxL ret) {x y : Int32} (hd : decode bytes pc = .ok (.iushr, 1)) (pc' : Nat) (hp : pc + 1 = pc') (hr : OGo p e below s n0 Q kc ks (T.setTop (mkF m pc' Ls (.int ((x.toUInt32 >>> (y &&& 31).toUInt32).toInt32) :: St)))) : OGo p e below s n0 Q kc ks (T.setTop (mkF m pc Ls (.int y :: .int x :: St))) := by
  subst hp
  exact OGo.st (fun _ k => XS.iushr X.here K.hx rfl (hb K.hby hd) rfl k) hr
theorem o_ladd (X : Stand p l e R s m args below meth c T locs cells slots) (K : OCx p s m meth c Z own nm bytes maxL ret) {x y : Int64} (hd : decode bytes pc = .ok (.ladd, 1)) (pc' : Nat) (hp : pc + 1 = pc') (hr : OGo p e below s n0 Q kc ks (T.setTop (mkF m pc' Ls (.long (x + y) :: St)))) : OGo p e below s n0 Q kc ks (T.setTop (mkF m pc Ls (.long y :: .long x :: St))) := by
  subst hp
  exact OGo.st (fun _ k => XS.ladd X.here K.hx rfl (hb K.hby hd) rfl k) hr
theorem o_lsub (X : Stand p l e R s m args below meth c T locs cells slots) (K : OCx p s m meth c Z own nm bytes maxL ret) {x y : Int64} (hd : decode bytes pc = .ok (.lsub, 1)) (pc' : Nat) (hp : pc + 1 = pc') (hr : OGo p e below s n0 Q kc ks (T.setTop (mkF m pc' Ls (.long (x - y) :: St)))) : OGo p e below s n0 Q kc ks (T.setTop (mkF m pc Ls (.long y :: .long x :: St))) := by
  subst hp
  exact OGo.st (fun _ k => XS.lsub X.here K.hx rfl (hb K.hby hd) rfl k) hr
theorem o_lmul (X : Stand p l e R s m args below meth c T locs cells slots) (K : OCx p s m meth c Z own nm bytes maxL ret) {x y : Int64} (hd : decode bytes pc = .ok (.lmul, 1)) (pc' : Nat) (hp : pc + 1 = pc') (hr : OGo p e below s n0 Q kc ks (T.setTop (mkF m pc' Ls (.long (x * y) :: St)))) : OGo p e below s n0 Q kc ks (T.setTop (mkF m pc Ls (.long y :: .long x :: St))) := by
  subst hp
  exact OGo.st (fun _ k => XS.lmul X.here K.hx rfl (hb K.hby hd) rfl k) hr
theorem o_land (X : Stand p l e R s m args below meth c T locs cells slots) (K : OCx p s m meth c Z own nm bytes maxL ret) {x y : Int64} (hd : decode bytes pc = .ok (.land, 1)) (pc' : Nat) (hp : pc + 1 = pc') (hr : OGo p e below s n0 Q kc ks (T.setTop (mkF m pc' Ls (.long (x &&& y) :: St)))) : OGo p e below s n0 Q kc ks (T.setTop (mkF m pc Ls (.long y :: .long x :: St))) := by
  subst hp
  exact OGo.st (fun _ k => XS.land X.here K.hx rfl (hb K.hby hd) rfl k) hr
theorem o_lor (X : Stand p l e R s m args below meth c T locs cells slots) (K : OCx p s m meth c Z own nm bytes maxL ret) {x y : Int64} (hd : decode bytes pc = .ok (.lor, 1)) (pc' : Nat) (hp : pc + 1 = pc') (hr : OGo p e below s n0 Q kc ks (T.setTop (mkF m pc' Ls (.long (x ||| y) :: St)))) : OGo p e below s n0 Q kc ks (T.setTop (mkF m pc Ls (.long y :: .long x :: St))) := by
  subst hp
  exact OGo.st (fun _ k => XS.lor X.here K.hx rfl (hb K.hby hd) rfl k) hr
theorem o_lxor (X : Stand p l e R s m args below meth c T locs cells slots) (K : OCx p s m meth c Z own nm bytes maxL ret) {x y : Int64} (hd : decode bytes pc = .ok (.lxor, 1)) (pc' : Nat) (hp : pc + 1 = pc') (hr : OGo p e below s n0 Q kc ks (T.setTop (mkF m pc' Ls (.long (x ^^^ y) :: St)))) : OGo p e below s n0 Q kc ks (T.setTop (mkF m pc Ls (.long y :: .long x :: St))) := by
  subst hp
  exact OGo.st (fun _ k => XS.lxor X.here K.hx rfl (hb K.hby hd) rfl k) hr
theorem o_lshl (X : Stand p l e R s m args below meth c T locs cells slots) (K : OCx p s m meth c Z own nm bytes maxL ret) {x : Int64} {y : Int32} (hd : decode bytes pc = .ok (.lshl, 1)) (pc' : Nat) (hp : pc + 1 = pc') (hr : OGo p e below s n0 Q kc ks (T.setTop (mkF m pc' Ls (.long (x <<< (y &&& 0x3f).toInt64) :: St)))) : OGo p e below s n0 Q kc ks (T.setTop (mkF m pc Ls (.int y :: .long x :: St))) := by
  subst hp
  exact OGo.st (fun _ k => XS.lshl X.here K.hx rfl (hb K.hby hd) rfl k) hr
theorem o_lshr (X : Stand p l e R s m args below meth c T locs cells slots) (K : OCx p s m meth c Z own nm bytes maxL ret) {x : Int64} {y : Int32} (hd : decode bytes pc = .ok (.lshr, 1)) (pc' : Nat) (hp : pc + 1 = pc') (hr : OGo p e below s n0 Q kc ks (T.setTop (mkF m pc' Ls (.long (x >>> (y &&& 0x3f).toInt64) :: St)))) : OGo p e below s n0 Q kc ks (T.setTop (mkF m pc Ls (.int y :: .long x :: St))) := by
  subst hp
  exact OGo.st (fun _ k => XS.lshr X.here K.hx rfl (hb K.hby hd) rfl k) hr
theorem o_lushr (X : Stand p l e R s m args below meth c T locs cells slots) (K : OCx p s m meth c Z own nm bytes maxL ret) {x : Int64} {y : Int32} (hd : decode bytes pc = .ok (.lushr, 1)) (pc' : Nat) (hp : pc + 1 = pc') (hr : OGo p e below s n0 Q kc ks (T.setTop (mkF m pc' Ls (.long ((x.toUInt64 >>> (y &&& 0x3f).toInt64.toUInt64).toInt64) :: St)))) : OGo p e below s n0 Q kc ks (T.setTop (mkF m pc Ls (.int y :: .long x :: St))) := by
  subst hp
  exact OGo.st (fun _ k => XS.lushr X.here K.hx rfl (hb K.hby hd) rfl k) hr
theorem o_ldiv (X : Stand p l e R s m args below meth c T locs cells slots) (K : OCx p s m meth c Z own nm bytes maxL ret) {x y : Int64} (hd : decode bytes pc = .ok (.ldiv, 1)) (pc' : Nat) (hp : pc + 1 = pc') (hy : y ≠ 0) (hr : OGo p e below s n0 Q kc ks (T.setTop (mkF m pc' Ls (.long (x / y) :: St)))) : OGo p e below s n0 Q kc ks (T.setTop (mkF m pc Ls (.long y :: .long x :: St))) := by
  subst hp
  exact OGo.st (fun _ k => XS.ldiv X.here K.hx rfl (hb K.hby hd) rfl hy k) hr
theorem o_idiv (X : Stand p l e R s m args below meth c T locs cells slots) (K : OCx p s m meth c Z own nm bytes maxL ret) {x y : Int32} (hd : decode bytes pc = .ok (.idiv, 1)) (pc' : Nat) (hp : pc + 1 = pc') (hy : y ≠ 0) (hr : OGo p e below s n0 Q kc ks (T.setTop (mkF m pc' Ls (.int (x / y) :: St)))) : OGo p e below s n0 Q kc ks (T.setTop (mkF m pc Ls (.int y :: .int x :: St))) := by
  subst hp
  exact OGo.st (fun _ k => XS.idiv X.here K.hx rfl (hb K.hby hd) rfl hy k) hr
theorem o_irem (X : Stand p l e R s m args below meth c T locs cells slots) (K : OCx p s m meth c Z own nm bytes maxL ret) {x y : Int32} (hd : decode bytes pc = .ok (.irem, 1)) (pc' : Nat) (hp : pc + 1 = pc') (hy : y ≠ 0) (hr : OGo p e below s n0 Q kc ks (T.setTop (mkF m pc' Ls (.int (x % y) :: St)))) : OGo p e below s n0 Q kc ks (T.setTop (mkF m pc Ls (.int y :: .int x :: St))) := by
  subst hp
  exact OGo.st (fun _ k => iremM X K.hx rfl (hb K.hby hd) rfl hy k) hr
theorem o_ineg (X : Stand p l e R s m args below meth c T locs cells slots) (K : OCx p s m meth c Z own nm bytes maxL ret) {x : Int32} (hd : decode bytes pc = .ok (.ineg, 1)) (pc' : Nat) (hp : pc + 1 = pc') (hr : OGo p e below s n0 Q kc ks (T.setTop (mkF m pc' Ls (.int (-x) :: St)))) : OGo p e below s n0 Q kc ks (T.setTop (mkF m pc Ls (.int x :: St))) := by
  subst hp
  exact OGo.st (fun _ k => XS.ineg X.here K.hx rfl (hb K.hby hd) rfl k) hr
theorem o_lneg (X : Stand p l e R s m args below meth c T locs cells slots) (K : OCx p s m meth c Z own nm bytes maxL ret) {x : Int64} (hd : decode bytes pc = .ok (.lneg, 1)) (pc' : Nat) (hp : pc + 1 = pc') (hr : OGo p e below s n0 Q kc ks (T.setTop (mkF m pc' Ls (.long (-x) :: St)))) : OGo p e below s n0 Q kc ks (T.setTop (mkF m pc Ls (.long x :: St))) := by
  subst hp
  exact OGo.st (fun _ k => XS.lneg X.here K.hx rfl (hb K.hby hd) rfl k) hr
theorem o_i2b (X : Stand p l e R s m args below meth c T locs cells slots) (K : OCx p s m meth c Z own nm bytes maxL ret) {x : Int32} (hd : decode bytes pc = .ok (.i2b, 1)) (pc' : Nat) (hp : pc + 1 = pc') (hr : OGo p e below s n0 Q kc ks (T.setTop (mkF m pc' Ls (.int (x.toInt8.toInt32) :: St)))) : OGo p e below s n0 Q kc ks (T.setTop (mkF m pc Ls (.int x :: St))) := by
  subst hp
  exact OGo.st (fun _ k => XS.i2b X.here K.hx rfl (hb K.hby hd) rfl k) hr
theorem o_i2c (X : Stand p l e R s m args below meth c T locs cells slots) (K : OCx p s m meth c Z own nm bytes maxL ret) {x : Int32} (hd : decode bytes pc = .ok (.i2c, 1)) (pc' : Nat) (hp : pc + 1 = pc') (hr : OGo p e below s n0 Q kc ks (T.setTop (mkF m pc' Ls (.int (x.toUInt32.toUInt16.toUInt32.toInt32) :: St)))) : OGo p e below s n0 Q kc ks (T.setTop (mkF m pc Ls (.int x :: St))) := by
  subst hp
  exact OGo.st (fun _ k => XS.i2c X.here K.hx rfl (hb K.hby hd) rfl k) hr
theorem o_i2s (X : Stand p l e R s m args below meth c T locs cells slots) (K : OCx p s m meth c Z own nm bytes maxL ret) {x : Int32} (hd : decode bytes pc = .ok (.i2s, 1)) (pc' : Nat) (hp : pc + 1 = pc') (hr : OGo p e below s n0 Q kc ks (T.setTop (mkF m pc' Ls (.int (x.toInt16.toInt32) :: St)))) : OGo p e below s n0 Q kc ks (T.setTop (mkF m pc Ls (.int x :: St))) := by
  subst hp
  exact OGo.st (fun _ k => XS.i2s X.here K.hx rfl (hb K.hby hd) rfl k) hr
theorem o_i2l (X : Stand p l e R s m args below meth c T locs cells slots) (K : OCx p s m meth c Z own nm bytes maxL ret) {x : Int32} (hd : decode bytes pc = .ok (.i2l, 1)) (pc' : Nat) (hp : pc + 1 = pc') (hr : OGo p e below s n0 Q kc ks (T.setTop (mkF m pc' Ls (.long (x.toInt64) :: St)))) : OGo p e below s n0 Q kc ks (T.setTop (mkF m pc Ls (.int x :: St))) := by
  subst hp
  exact OGo.st (fun _ k => XS.i2l X.here K.hx rfl (hb K.hby hd) rfl k) hr
theorem o_l2i (X : Stand p l e R s m args below meth c T locs cells slots) (K : OCx p s m meth c Z own nm bytes maxL ret) {x : Int64} (hd : decode bytes pc = .ok (.l2i, 1)) (pc' : Nat) (hp : pc + 1 = pc') (hr : OGo p e below s n0 Q kc ks (T.setTop (mkF m pc' Ls (.int (x.toInt32) :: St)))) : OGo p e below s n0 Q kc ks (T.setTop (mkF m pc Ls (.long x :: St))) := by
  subst hp
  exact OGo.st (fun _ k => XS.l2i X.here K.hx rfl (hb K.hby hd) rfl k) hr
theorem o_lcmp (X : Stand p l e R s m args below meth c T locs cells slots) (K : OCx p s m meth c Z own nm bytes maxL ret) {x y : Int64} (hd : decode bytes pc = .ok (.lcmp, 1)) (pc' : Nat) (hp : pc + 1 = pc') (hr : OGo p e below s n0 Q kc ks (T.setTop (mkF m pc' Ls (.int (lcmpW x y) :: St)))) : OGo p e below s n0 Q kc ks (T.setTop (mkF m pc Ls (.long y :: .long x :: St))) := by
  subst hp
  exact OGo.st (fun _ k => XS.lcmp X.here K.hx rfl (hb K.hby hd) rfl k) hr
theorem o_dup (X : Stand p l e R s m args below meth c T locs cells slots) (K : OCx p s m meth c Z own nm bytes maxL ret) {x : Value} (hd : decode bytes pc = .ok (.dup, 1)) (pc' : Nat) (hp : pc + 1 = pc') (hc : x.category = 1) (hr : OGo p e below s n0 Q kc ks (T.setTop (mkF m pc' Ls (x :: x :: St)))) : OGo p e below s n0 Q kc ks (T.setTop (mkF m pc Ls (x :: St))) := by
  subst hp
  exact OGo.st (fun _ k => XS.dup X.here K.hx rfl (hb K.hby hd) rfl hc k) hr
theorem o_pop (X : Stand p l e R s m args below meth c T locs cells slots) (K : OCx p s m meth c Z own nm bytes maxL ret) {x : Value} (hd : decode bytes pc = .ok (.pop, 1)) (pc' : Nat) (hp : pc + 1 = pc') (hc : x.category = 1) (hr : OGo p e below s n0 Q kc ks (T.setTop (mkF m pc' Ls St))) : OGo p e below s n0 Q kc ks (T.setTop (mkF m pc Ls (x :: St))) := by
  subst hp
  exact OGo.st (fun _ k => XS.pop X.here K.hx rfl (hb K.hby hd) rfl hc k) hr
theorem o_dupX1 (X : Stand p l e R s m args below meth c T locs cells slots) (K : OCx p s m meth c Z own nm bytes maxL ret) {x y : Value} (hd : decode bytes pc = .ok (.dup_x1, 1)) (pc' : Nat) (hp : pc + 1 = pc') (hc : x.category = 1) (hc' : y.category = 1) (hr : OGo p e below s n0 Q kc ks (T.setTop (mkF m pc' Ls (x :: y :: x :: St)))) : OGo p e below s n0 Q kc ks (T.setTop (mkF m pc Ls (x :: y :: St))) := by
  subst hp
  exact OGo.st (fun _ k => XS.dupX1 X.here K.hx rfl (hb K.hby hd) rfl hc hc' k) hr
theorem o_dup2 (X : Stand p l e R s m args below meth c T locs cells slots) (K : OCx p s m meth c Z own nm bytes maxL ret) {x y : Value} (hd : decode bytes pc = .ok (.dup2, 1)) (pc' : Nat) (hp : pc + 1 = pc') (hc : x.category = 1) (hc' : y.category = 1) (hr : OGo p e below s n0 Q kc ks (T.setTop (mkF m pc' Ls (x :: y :: x :: y :: St)))) : OGo p e below s n0 Q kc ks (T.setTop (mkF m pc Ls (x :: y :: St))) := by
  subst hp
  exact OGo.st (fun _ k => Jvm.Free.XT.dup2 X.here K.hx rfl (hb K.hby hd) rfl hc hc' k) hr
theorem o_dup2L (X : Stand p l e R s m args below meth c T locs cells slots) (K : OCx p s m meth c Z own nm bytes maxL ret) {x : Int64} (hd : decode bytes pc = .ok (.dup2, 1)) (pc' : Nat) (hp : pc + 1 = pc') (hr : OGo p e below s n0 Q kc ks (T.setTop (mkF m pc' Ls (.long x :: .long x :: St)))) : OGo p e below s n0 Q kc ks (T.setTop (mkF m pc Ls (.long x :: St))) := by
  subst hp
  exact OGo.st (fun _ k => Jvm.Free.XT.dup2L X.here K.hx rfl (hb K.hby hd) rfl k) hr
theorem o_goto (X : Stand p l e R s m args below meth c T locs cells slots) (K : OCx p s m meth c Z own nm bytes maxL ret) {o : Int} (hd : decode bytes pc = .ok (.goto o, 3)) (pc' : Nat) (ho : 0 ≤ (pc : Int) + o) (hp : ((pc : Int) + o).toNat = pc') (hr : OGo p e below s n0 Q kc ks (T.setTop (mkF m pc' Ls St))) : OGo p e below s n0 Q kc ks (T.setTop (mkF m pc Ls St)) :=
  OGo.st (fun _ k => XS.goto X.here K.hx rfl (pc0 := pc) rfl (hb K.hby hd) ho hp k) hr
theorem o_icmp_lt_t (X : Stand p l e R s m args below meth c T locs cells slots) (K : OCx p s m meth c Z own nm bytes maxL ret) {x y : Int32} {o : Int} (hd : decode bytes pc = .ok (.if_icmp .lt o, 3)) (pt : Nat) (ho : 0 ≤ (pc : Int) + o) (hp : ((pc : Int) + o).toNat = pt) (q : x.toInt < y.toInt) (hr : OGo p e below s n0 Q kc ks (T.setTop (mkF m pt Ls St))) : OGo p e below s n0 Q kc ks (T.setTop (mkF m pc Ls (.int y :: .int x :: St))) :=
  OGo.st (fun _ k => XS.icmpYes X.here K.hx rfl (pc0 := pc) rfl (hb K.hby hd) rfl ((tlt (Int32.lt_iff_toInt_lt.mpr q)).1) ho hp k) hr
theorem o_icmp_lt_f (X : Stand p l e R s m args below meth c T locs cells slots) (K : OCx p s m meth c Z own nm bytes maxL ret) {x y : Int32} {o : Int} (hd : decode bytes pc = .ok (.if_icmp .lt o, 3)) (pc' : Nat) (hp : pc + 3 = pc') (q : y.toInt ≤ x.toInt) (hr : OGo p e below s n0 Q kc ks (T.setTop (mkF m pc' Ls St))) : OGo p e below s n0 Q kc ks (T.setTop (mkF m pc Ls (.int y :: .int x :: St))) := by
  subst hp
  exact OGo.st (fun _ k => XS.icmpNo X.here K.hx rfl (hb K.hby hd) rfl ((flt (fun r => Int.not_lt.mpr q (Int32.lt_iff_toInt_lt.mp r))).1) k) hr
theorem o_icmp_lt (X : Stand p l e R s m args below meth c T locs cells slots) (K : OCx p s m meth c Z own nm bytes maxL ret) {x y : Int32} {o : Int} (hd : decode bytes pc = .ok (.if_icmp .lt o, 3)) (pt : Nat) (ho : 0 ≤ (pc : Int) + o) (hp : ((pc : Int) + o).toNat = pt) (pc' : Nat) (hp' : pc + 3 = pc') (h1 : x.toInt < y.toInt → OGo p e below s n0 Q kc ks (T.setTop (mkF m pt Ls St))) (h2 : y.toInt ≤ x.toInt → OGo p e below s n0 Q kc ks (T.setTop (mkF m pc' Ls St))) : OGo p e below s n0 Q kc ks (T.setTop (mkF m pc Ls (.int y :: .int x :: St))) :=
  (Classical.em (x.toInt < y.toInt)).elim (fun q => o_icmp_lt_t X K hd pt ho hp q (h1 q)) (fun q => o_icmp_lt_f X K hd pc' hp' (Int.not_lt.mp q) (h2 (Int.not_lt.mp q)))
theorem o_if_lt_t (X : Stand p l e R s m args below meth c T locs cells slots) (K : OCx p s m meth c Z own nm bytes maxL ret) {x : Int32} {o : Int} (hd : decode bytes pc = .ok (.ifCond .lt o, 3)) (pt : Nat) (ho : 0 ≤ (pc : Int) + o) (hp : ((pc : Int) + o).toNat = pt) (q : x.toInt < 0) (hr : OGo p e below s n0 Q kc ks (T.setTop (mkF m pt Ls St))) : OGo p e below s n0 Q kc ks (T.setTop (mkF m pc Ls (.int x :: St))) :=
  OGo.st (fun _ k => XS.ifYes X.here K.hx rfl (pc0 := pc) rfl (hb K.hby hd) rfl ((if0 _ _).trans (tlt (Int32.lt_iff_toInt_lt.mpr (show x.toInt < (0 : Int32).toInt from q))).1) ho hp k) hr
theorem o_if_lt_f (X : Stand p l e R s m args below meth c T locs cells slots) (K : OCx p s m meth c Z own nm bytes maxL ret) {x : Int32} {o : Int} (hd : decode bytes pc = .ok (.ifCond .lt o, 3)) (pc' : Nat) (hp : pc + 3 = pc') (q : 0 ≤ x.toInt) (hr : OGo p e below s n0 Q kc ks (T.setTop (mkF m pc' Ls St))) : OGo p e below s n0 Q kc ks (T.setTop (mkF m pc Ls (.int x :: St))) := by
  subst hp
  exact OGo.st (fun _ k => XS.ifNo X.here K.hx rfl (hb K.hby hd) rfl ((if0 _ _).trans (flt (fun r => Int.not_lt.mpr (show (0 : Int32).toInt ≤ x.toInt from q) (Int32.lt_iff_toInt_lt.mp r))).1) k) hr
theorem o_if_lt (X : Stand p l e R s m args below meth c T locs cells slots) (K : OCx p s m meth c Z own nm bytes maxL ret) {x : Int32} {o : Int} (hd : decode bytes pc = .ok (.ifCond .lt o, 3)) (pt : Nat) (ho : 0 ≤ (pc : Int) + o) (hp : ((pc : Int) + o).toNat = pt) (pc' : Nat) (hp' : pc + 3 = pc') (h1 : x.toInt < 0 → OGo p e below s n0 Q kc ks (T.setTop (mkF m pt Ls St))) (h2 : 0 ≤ x.toInt → OGo p e below s n0 Q kc ks (T.setTop (mkF m pc' Ls St))) : OGo p e below s n0 Q kc ks (T.setTop (mkF m pc Ls (.int x :: St))) :=
  (Classical.em (x.toInt < 0)).elim (fun q => o_if_lt_t X K hd pt ho hp q (h1 q)) (fun q => o_if_lt_f X K hd pc' hp' (Int.not_lt.mp q) (h2 (Int.not_lt.mp q)))
theorem o_icmp_ge_t (X : Stand p l e R s m args below meth c T locs cells slots) (K : OCx p s m meth c Z own nm bytes maxL ret) {x y : Int32} {o : Int} (hd : decode bytes pc = .ok (.if_icmp .ge o, 3)) (pt : Nat) (ho : 0 ≤ (pc : Int) + o) (hp : ((pc : Int) + o).toNat = pt) (q : y.toInt ≤ x.toInt) (hr : OGo p e below s n0 Q kc ks (T.setTop (mkF m pt Ls St))) : OGo p e below s n0 Q kc ks (T.setTop (mkF m pc Ls (.int y :: .int x :: St))) :=
  OGo.st (fun _ k => XS.icmpYes X.here K.hx rfl (pc0 := pc) rfl (hb K.hby hd) rfl ((flt (fun r => Int.not_lt.mpr q (Int32.lt_iff_toInt_lt.mp r))).2.1) ho hp k) hr
theorem o_icmp_ge_f (X : Stand p l e R s m args below meth c T locs cells slots) (K : OCx p s m meth c Z own nm bytes maxL ret) {x y : Int32} {o : Int} (hd : decode bytes pc = .ok (.if_icmp .ge o, 3)) (pc' : Nat) (hp : pc + 3 = pc') (q : x.toInt < y.toInt) (hr : OGo p e below s n0 Q kc ks (T.setTop (mkF m pc' Ls St))) : OGo p e below s n0 Q kc ks (T.setTop (mkF m pc Ls (.int y :: .int x :: St))) := by
  subst hp
  exact OGo.st (fun _ k => XS.icmpNo X.here K.hx rfl (hb K.hby hd) rfl ((tlt (Int32.lt_iff_toInt_lt.mpr q)).2.1) k) hr
theorem o_icmp_ge (X : Stand p l e R s m args below meth c T locs cells slots) (K : OCx p s m meth c Z own nm bytes maxL ret) {x y : Int32} {o : Int} (hd : decode bytes pc = .ok (.if_icmp .ge o, 3)) (pt : Nat) (ho : 0 ≤ (pc : Int) + o) (hp : ((pc : Int) + o).toNat = pt) (pc' : Nat) (hp' : pc + 3 = pc') (h1 : y.toInt ≤ x.toInt → OGo p e below s n0 Q kc ks (T.setTop (mkF m pt Ls St))) (h2 : x.toInt < y.toInt → OGo p e below s n0 Q kc ks (T.setTop (mkF m pc' Ls St))) : OGo p e below s n0 Q kc ks (T.setTop (mkF m pc Ls (.int y :: .int x :: St))) :=
  (Classical.em (y.toInt ≤ x.toInt)).elim (fun q => o_icmp_ge_t X K hd pt ho hp q (h1 q)) (fun q => o_icmp_ge_f X K hd pc' hp' (Int.not_le.mp q) (h2 (Int.not_le.mp q)))
theorem o_if_ge_t (X : Stand p l e R s m args below meth c T locs cells slots) (K : OCx p s m meth c Z own nm bytes maxL ret) {x : Int32} {o : Int} (hd : decode bytes pc = .ok (.ifCond .ge o, 3)) (pt : Nat) (ho : 0 ≤ (pc : Int) + o) (hp : ((pc : Int) + o).toNat = pt) (q : 0 ≤ x.toInt) (hr : OGo p e below s n0 Q kc ks (T.setTop (mkF m pt Ls St))) : OGo p e below s n0 Q kc ks (T.setTop (mkF m pc Ls (.int x :: St))) :=
  OGo.st (fun _ k => XS.ifYes X.here K.hx rfl (pc0 := pc) rfl (hb K.hby hd) rfl ((if0 _ _).trans (flt (fun r => Int.not_lt.mpr (show (0 : Int32).toInt ≤ x.toInt from q) (Int32.lt_iff_toInt_lt.mp r))).2.1) ho hp k) hr
theorem o_if_ge_f (X : Stand p l e R s m args below meth c T locs cells slots) (K : OCx p s m meth c Z own nm bytes maxL ret) {x : Int32} {o : Int} (hd : decode bytes pc = .ok (.ifCond .ge o, 3)) (pc' : Nat) (hp : pc + 3 = pc') (q : x.toInt < 0) (hr : OGo p e below s n0 Q kc ks (T.setTop (mkF m pc' Ls St))) : OGo p e below s n0 Q kc ks (T.setTop (mkF m pc Ls (.int x :: St))) := by
  subst hp
  exact OGo.st (fun _ k => XS.ifNo X.here K.hx rfl (hb K.hby hd) rfl ((if0 _ _).trans (tlt (Int32.lt_iff_toInt_lt.mpr (show x.toInt < (0 : Int32).toInt from q))).2.1) k) hr
theorem o_if_ge (X : Stand p l e R s m args below meth c T locs cells slots) (K : OCx p s m meth c Z own nm bytes maxL ret) {x : Int32} {o : Int} (hd : decode bytes pc = .ok (.ifCond .ge o, 3)) (pt : Nat) (ho : 0 ≤ (pc : Int) + o) (hp : ((pc : Int) + o).toNat = pt) (pc' : Nat) (hp' : pc + 3 = pc') (h1 : 0 ≤ x.toInt → OGo p e below s n0 Q kc ks (T.setTop (mkF m pt Ls St))) (h2 : x.toInt < 0 → OGo p e below s n0 Q kc ks (T.setTop (mkF m pc' Ls St))) : OGo p e below s n0 Q kc ks (T.setTop (mkF m pc Ls (.int x :: St))) :=
  (Classical.em (0 ≤ x.toInt)).elim (fun q => o_if_ge_t X K hd pt ho hp q (h1 q)) (fun q => o_if_ge_f X K hd pc' hp' (Int.not_le.mp q) (h2 (Int.not_le.mp q)))
theorem o_icmp_gt_t (X : Stand p l e R s m args below meth c T locs cells slots) (K : OCx p s m meth c Z own nm bytes maxL ret) {x y : Int32} {o : Int} (hd : decode bytes pc = .ok (.if_icmp .gt o, 3)) (pt : Nat) (ho : 0 ≤ (pc : Int) + o) (hp : ((pc : Int) + o).toNat = pt) (q : y.toInt < x.toInt) (hr : OGo p e below s n0 Q kc ks (T.setTop (mkF m pt Ls St))) : OGo p e below s n0 Q kc ks (T.setTop (mkF m pc Ls (.int y :: .int x :: St))) :=
  OGo.st (fun _ k => XS.icmpYes X.here K.hx rfl (pc0 := pc) rfl (hb K.hby hd) rfl ((tlt (Int32.lt_iff_toInt_lt.mpr q)).2.2.1) ho hp k) hr
theorem o_icmp_gt_f (X : Stand p l e R s m args below meth c T locs cells slots) (K : OCx p s m meth c Z own nm bytes maxL ret) {x y : Int32} {o : Int} (hd : decode bytes pc = .ok (.if_icmp .gt o, 3)) (pc' : Nat) (hp : pc + 3 = pc') (q : x.toInt ≤ y.toInt) (hr : OGo p e below s n0 Q kc ks (T.setTop (mkF m pc' Ls St))) : OGo p e below s n0 Q kc ks (T.setTop (mkF m pc Ls (.int y :: .int x :: St))) := by
  subst hp
  exact OGo.st (fun _ k => XS.icmpNo X.here K.hx rfl (hb K.hby hd) rfl ((flt (fun r => Int.not_lt.mpr q (Int32.lt_iff_toInt_lt.mp r))).2.2.1) k) hr
theorem o_icmp_gt (X : Stand p l e R s m args below meth c T locs cells slots) (K : OCx p s m meth c Z own nm bytes maxL ret) {x y : Int32} {o : Int} (hd : decode bytes pc = .ok (.if_icmp .gt o, 3)) (pt : Nat) (ho : 0 ≤ (pc : Int) + o) (hp : ((pc : Int) + o).toNat = pt) (pc' : Nat) (hp' : pc + 3 = pc') (h1 : y.toInt < x.toInt → OGo p e below s n0 Q kc ks (T.setTop (mkF m pt Ls St))) (h2 : x.toInt ≤ y.toInt → OGo p e below s n0 Q kc ks (T.setTop (mkF m pc' Ls St))) : OGo p e below s n0 Q kc ks (T.setTop (mkF m pc Ls (.int y :: .int x :: St))) :=
  (Classical.em (y.toInt < x.toInt)).elim (fun q => o_icmp_gt_t X K hd pt ho hp q (h1 q)) (fun q => o_icmp_gt_f X K hd pc' hp' (Int.not_lt.mp q) (h2 (Int.not_lt.mp q)))
theorem o_if_gt_t (X : Stand p l e R s m args below meth c T locs cells slots) (K : OCx p s m meth c Z own nm bytes maxL ret) {x : Int32} {o : Int} (hd : decode bytes pc = .ok (.ifCond .gt o, 3)) (pt : Nat) (ho : 0 ≤ (pc : Int) + o) (hp : ((pc : Int) + o).toNat = pt) (q : 0 < x.toInt) (hr : OGo p e below s n0 Q kc ks (T.setTop (mkF m pt Ls St))) : OGo p e below s n0 Q kc ks (T.setTop (mkF m pc Ls (.int x :: St))) :=
  OGo.st (fun _ k => XS.ifYes X.here K.hx rfl (pc0 := pc) rfl (hb K.hby hd) rfl ((if0 _ _).trans (tlt (Int32.lt_iff_toInt_lt.mpr (show (0 : Int32).toInt < x.toInt from q))).2.2.1) ho hp k) hr
theorem o_if_gt_f (X : Stand p l e R s m args below meth c T locs cells slots) (K : OCx p s m meth c Z own nm bytes maxL ret) {x : Int32} {o : Int} (hd : decode bytes pc = .ok (.ifCond .gt o, 3)) (pc' : Nat) (hp : pc + 3 = pc') (q : x.toInt ≤ 0) (hr : OGo p e below s n0 Q kc ks (T.setTop (mkF m pc' Ls St))) : OGo p e below s n0 Q kc ks (T.setTop (mkF m pc Ls (.int x :: St))) := by
  subst hp
  exact OGo.st (fun _ k => XS.ifNo X.here K.hx rfl (hb K.hby hd) rfl ((if0 _ _).trans (flt (fun r => Int.not_lt.mpr (show x.toInt ≤ (0 : Int32).toInt from q) (Int32.lt_iff_toInt_lt.mp r))).2.2.1) k) hr
theorem o_if_gt (X : Stand p l e R s m args below meth c T locs cells slots) (K : OCx p s m meth c Z own nm bytes maxL ret) {x : Int32} {o : Int} (hd : decode bytes pc = .ok (.ifCond .gt o, 3)) (pt : Nat) (ho : 0 ≤ (pc : Int) + o) (hp : ((pc : Int) + o).toNat = pt) (pc' : Nat) (hp' : pc + 3 = pc') (h1 : 0 < x.toInt → OGo p e below s n0 Q kc ks (T.setTop (mkF m pt Ls St))) (h2 : x.toInt ≤ 0 → OGo p e below s n0 Q kc ks (T.setTop (mkF m pc' Ls St))) : OGo p e below s n0 Q kc ks (T.setTop (mkF m pc Ls (.int x :: St))) :=
  (Classical.em (0 < x.toInt)).elim (fun q => o_if_gt_t X K hd pt ho hp q (h1 q)) (fun q => o_if_gt_f X K hd pc' hp' (Int.not_lt.mp q) (h2 (Int.not_lt.mp q)))
theorem o_icmp_le_t (X : Stand p l e R s m args below meth c T locs cells slots) (K : OCx p s m meth c Z own nm bytes maxL ret) {x y : Int32} {o : Int} (hd : decode bytes pc = .ok (.if_icmp .le o, 3)) (pt : Nat) (ho : 0 ≤ (pc : Int) + o) (hp : ((pc : Int) + o).toNat = pt) (q : x.toInt ≤ y.toInt) (hr : OGo p e below s n0 Q kc ks (T.setTop (mkF m pt Ls St))) : OGo p e below s n0 Q kc ks (T.setTop (mkF m pc Ls (.int y :: .int x :: St))) :=
  OGo.st (fun _ k => XS.icmpYes X.here K.hx rfl (pc0 := pc) rfl (hb K.hby hd) rfl ((flt (fun r => Int.not_lt.mpr q (Int32.lt_iff_toInt_lt.mp r))).2.2.2) ho hp k) hr
theorem o_icmp_le_f (X : Stand p l e R s m args below meth c T locs cells slots) (K : OCx p s m meth c Z own nm bytes maxL ret) {x y : Int32} {o : Int} (hd : decode bytes pc = .ok (.if_icmp .le o, 3)) (pc' : Nat) (hp : pc + 3 = pc') (q : y.toInt < x.toInt) (hr : OGo p e below s n0 Q kc ks (T.setTop (mkF m pc' Ls St))) : OGo p e below s n0 Q kc ks (T.setTop (mkF m pc Ls (.int y :: .int x :: St))) := by
  subst hp
  exact OGo.st (fun _ k => XS.icmpNo X.here K.hx rfl (hb K.hby hd) rfl ((tlt (Int32.lt_iff_toInt_lt.mpr q)).2.2.2) k) hr
theorem o_icmp_le (X : Stand p l e R s m args below meth c T locs cells slots) (K : OCx p s m meth c Z own nm bytes maxL ret) {x y : Int32} {o : Int} (hd : decode bytes pc = .ok (.if_icmp .le o, 3)) (pt : Nat) (ho : 0 ≤ (pc : Int) + o) (hp : ((pc : Int) + o).toNat = pt) (pc' : Nat) (hp' : pc + 3 = pc') (h1 : x.toInt ≤ y.toInt → OGo p e below s n0 Q kc ks (T.setTop (mkF m pt Ls St))) (h2 : y.toInt < x.toInt → OGo p e below s n0 Q kc ks (T.setTop (mkF m pc' Ls St))) : OGo p e below s n0 Q kc ks (T.setTop (mkF m pc Ls (.int y :: .int x :: St))) :=
  (Classical.em (x.toInt ≤ y.toInt)).elim (fun q => o_icmp_le_t X K hd pt ho hp q (h1 q)) (fun q => o_icmp_le_f X K hd pc' hp' (Int.not_le.mp q) (h2 (Int.not_le.mp q)))
theorem o_if_le_t (X : Stand p l e R s m args below meth c T locs cells slots) (K : OCx p s m meth c Z own nm bytes maxL ret) {x : Int32} {o : Int} (hd : decode bytes pc = .ok (.ifCond .le o, 3)) (pt : Nat) (ho : 0 ≤ (pc : Int) + o) (hp : ((pc : Int) + o).toNat = pt) (q : x.toInt ≤ 0) (hr : OGo p e below s n0 Q kc ks (T.setTop (mkF m pt Ls St))) : OGo p e below s n0 Q kc ks (T.setTop (mkF m pc Ls (.int x :: St))) :=
  OGo.st (fun _ k => XS.ifYes X.here K.hx rfl (pc0 := pc) rfl (hb K.hby hd) rfl ((if0 _ _).trans (flt (fun r => Int.not_lt.mpr (show x.toInt ≤ (0 : Int32).toInt from q) (Int32.lt_iff_toInt_lt.mp r))).2.2.2) ho hp k) hr
theorem o_if_le_f (X : Stand p l e R s m args below meth c T locs cells slots) (K : OCx p s m meth c Z own nm bytes maxL ret) {x : Int32} {o : Int} (hd : decode bytes pc = .ok (.ifCond .le o, 3)) (pc' : Nat) (hp : pc + 3 = pc') (q : 0 < x.toInt) (hr : OGo p e below s n0 Q kc ks (T.setTop (mkF m pc' Ls St))) : OGo p e below s n0 Q kc ks (T.setTop (mkF m pc Ls (.int x :: St))) := by
  subst hp
  exact OGo.st (fun _ k => XS.ifNo X.here K.hx rfl (hb K.hby hd) rfl ((if0 _ _).trans (tlt (Int32.lt_iff_toInt_lt.mpr (show (0 : Int32).toInt < x.toInt from q))).2.2.2) k) hr
theorem o_if_le (X : Stand p l e R s m args below meth c T locs cells slots) (K : OCx p s m meth c Z own nm bytes maxL ret) {x : Int32} {o : Int} (hd : decode bytes pc = .ok (.ifCond .le o, 3)) (pt : Nat) (ho : 0 ≤ (pc : Int) + o) (hp : ((pc : Int) + o).toNat = pt) (pc' : Nat) (hp' : pc + 3 = pc') (h1 : x.toInt ≤ 0 → OGo p e below s n0 Q kc ks (T.setTop (mkF m pt Ls St))) (h2 : 0 < x.toInt → OGo p e below s n0 Q kc ks (T.setTop (mkF m pc' Ls St))) : OGo p e below s n0 Q kc ks (T.setTop (mkF m pc Ls (.int x :: St))) :=
  (Classical.em (x.toInt ≤ 0)).elim (fun q => o_if_le_t X K hd pt ho hp q (h1 q)) (fun q => o_if_le_f X K hd pc' hp' (Int.not_le.mp q) (h2 (Int.not_le.mp q)))
theorem o_icmp_eq_t (X : Stand p l e R s m args below meth c T locs cells slots) (K : OCx p s m meth c Z own nm bytes maxL ret) {x y : Int32} {o : Int} (hd : decode bytes pc = .ok (.if_icmp .eq o, 3)) (pt : Nat) (ho : 0 ≤ (pc : Int) + o) (hp : ((pc : Int) + o).toNat = pt) (q : x = y) (hr : OGo p e below s n0 Q kc ks (T.setTop (mkF m pt Ls St))) : OGo p e below s n0 Q kc ks (T.setTop (mkF m pc Ls (.int y :: .int x :: St))) :=
  OGo.st (fun _ k => XS.icmpYes X.here K.hx rfl (pc0 := pc) rfl (hb K.hby hd) rfl ((teq q).1) ho hp k) hr
theorem o_icmp_eq_f (X : Stand p l e R s m args below meth c T locs cells slots) (K : OCx p s m meth c Z own nm bytes maxL ret) {x y : Int32} {o : Int} (hd : decode bytes pc = .ok (.if_icmp .eq o, 3)) (pc' : Nat) (hp : pc + 3 = pc') (q : ¬ x = y) (hr : OGo p e below s n0 Q kc ks (T.setTop (mkF m pc' Ls St))) : OGo p e below s n0 Q kc ks (T.setTop (mkF m pc Ls (.int y :: .int x :: St))) := by
  subst hp
  exact OGo.st (fun _ k => XS.icmpNo X.here K.hx rfl (hb K.hby hd) rfl ((feq q).1) k) hr
theorem o_icmp_eq (X : Stand p l e R s m args below meth c T locs cells slots) (K : OCx p s m meth c Z own nm bytes maxL ret) {x y : Int32} {o : Int} (hd : decode bytes pc = .ok (.if_icmp .eq o, 3)) (pt : Nat) (ho : 0 ≤ (pc : Int) + o) (hp : ((pc : Int) + o).toNat = pt) (pc' : Nat) (hp' : pc + 3 = pc') (h1 : x = y → OGo p e below s n0 Q kc ks (T.setTop (mkF m pt Ls St))) (h2 : ¬ x = y → OGo p e below s n0 Q kc ks (T.setTop (mkF m pc' Ls St))) : OGo p e below s n0 Q kc ks (T.setTop (mkF m pc Ls (.int y :: .int x :: St))) :=
  (Classical.em (x = y)).elim (fun q => o_icmp_eq_t X K hd pt ho hp q (h1 q)) (fun q => o_icmp_eq_f X K hd pc' hp' (id q) (h2 (id q)))
theorem o_if_eq_t (X : Stand p l e R s m args below meth c T locs cells slots) (K : OCx p s m meth c Z own nm bytes maxL ret) {x : Int32} {o : Int} (hd : decode bytes pc = .ok (.ifCond .eq o, 3)) (pt : Nat) (ho : 0 ≤ (pc : Int) + o) (hp : ((pc : Int) + o).toNat = pt) (q : x = 0) (hr : OGo p e below s n0 Q kc ks (T.setTop (mkF m pt Ls St))) : OGo p e below s n0 Q kc ks (T.setTop (mkF m pc Ls (.int x :: St))) :=
  OGo.st (fun _ k => XS.ifYes X.here K.hx rfl (pc0 := pc) rfl (hb K.hby hd) rfl ((if0 _ _).trans (teq (show x = (0 : Int32) from q)).1) ho hp k) hr
theorem o_if_eq_f (X : Stand p l e R s m args below meth c T locs cells slots) (K : OCx p s m meth c Z own nm bytes maxL ret) {x : Int32} {o : Int} (hd : decode bytes pc = .ok (.ifCond .eq o, 3)) (pc' : Nat) (hp : pc + 3 = pc') (q : ¬ x = 0) (hr : OGo p e below s n0 Q kc ks (T.setTop (mkF m pc' Ls St))) : OGo p e below s n0 Q kc ks (T.setTop (mkF m pc Ls (.int x :: St))) := by
  subst hp
  exact OGo.st (fun _ k => XS.ifNo X.here K.hx rfl (hb K.hby hd) rfl ((if0 _ _).trans (feq (show ¬ x = (0 : Int32) from q)).1) k) hr
theorem o_if_eq (X : Stand p l e R s m args below meth c T locs cells slots) (K : OCx p s m meth c Z own nm bytes maxL ret) {x : Int32} {o : Int} (hd : decode bytes pc = .ok (.ifCond .eq o, 3)) (pt : Nat) (ho : 0 ≤ (pc : Int) + o) (hp : ((pc : Int) + o).toNat = pt) (pc' : Nat) (hp' : pc + 3 = pc') (h1 : x = 0 → OGo p e below s n0 Q kc ks (T.setTop (mkF m pt Ls St))) (h2 : ¬ x = 0 → OGo p e below s n0 Q kc ks (T.setTop (mkF m pc' Ls St))) : OGo p e below s n0 Q kc ks (T.setTop (mkF m pc Ls (.int x :: St))) :=
  (Classical.em (x = 0)).elim (fun q => o_if_eq_t X K hd pt ho hp q (h1 q)) (fun q => o_if_eq_f X K hd pc' hp' (id q) (h2 (id q)))
theorem o_icmp_ne_t (X : Stand p l e R s m args below meth c T locs cells slots) (K : OCx p s m meth c Z own nm bytes maxL ret) {x y : Int32} {o : Int} (hd : decode bytes pc = .ok (.if_icmp .ne o, 3)) (pt : Nat) (ho : 0 ≤ (pc : Int) + o) (hp : ((pc : Int) + o).toNat = pt) (q : ¬ x = y) (hr : OGo p e below s n0 Q kc ks (T.setTop (mkF m pt Ls St))) : OGo p e below s n0 Q kc ks (T.setTop (mkF m pc Ls (.int y :: .int x :: St))) :=
  OGo.st (fun _ k => XS.icmpYes X.here K.hx rfl (pc0 := pc) rfl (hb K.hby hd) rfl ((feq q).2) ho hp k) hr
theorem o_icmp_ne_f (X : Stand p l e R s m args below meth c T locs cells slots) (K : OCx p s m meth c Z own nm bytes maxL ret) {x y : Int32} {o : Int} (hd : decode bytes pc = .ok (.if_icmp .ne o, 3)) (pc' : Nat) (hp : pc + 3 = pc') (q : x = y) (hr : OGo p e below s n0 Q kc ks (T.setTop (mkF m pc' Ls St))) : OGo p e below s n0 Q kc ks (T.setTop (mkF m pc Ls (.int y :: .int x :: St))) := by
  subst hp
  exact OGo.st (fun _ k => XS.icmpNo X.here K.hx rfl (hb K.hby hd) rfl ((teq q).2) k) hr
theorem o_icmp_ne (X : Stand p l e R s m args below meth c T locs cells slots) (K : OCx p s m meth c Z own nm bytes maxL ret) {x y : Int32} {o : Int} (hd : decode bytes pc = .ok (.if_icmp .ne o, 3)) (pt : Nat) (ho : 0 ≤ (pc : Int) + o) (hp : ((pc : Int) + o).toNat = pt) (pc' : Nat) (hp' : pc + 3 = pc') (h1 : ¬ x = y → OGo p e below s n0 Q kc ks (T.setTop (mkF m pt Ls St))) (h2 : x = y → OGo p e below s n0 Q kc ks (T.setTop (mkF m pc' Ls St))) : OGo p e below s n0 Q kc ks (T.setTop (mkF m pc Ls (.int y :: .int x :: St))) :=
  (Classical.em (¬ x = y)).elim (fun q => o_icmp_ne_t X K hd pt ho hp q (h1 q)) (fun q => o_icmp_ne_f X K hd pc' hp' (Classical.not_not.mp q) (h2 (Classical.not_not.mp q)))
theorem o_if_ne_t (X : Stand p l e R s m args below meth c T locs cells slots) (K : OCx p s m meth c Z own nm bytes maxL ret) {x : Int32} {o : Int} (hd : decode bytes pc = .ok (.ifCond .ne o, 3)) (pt : Nat) (ho : 0 ≤ (pc : Int) + o) (hp : ((pc : Int) + o).toNat = pt) (q : ¬ x = 0) (hr : OGo p e below s n0 Q kc ks (T.setTop (mkF m pt Ls St))) : OGo p e below s n0 Q kc ks (T.setTop (mkF m pc Ls (.int x :: St))) :=
  OGo.st (fun _ k => XS.ifYes X.here K.hx rfl (pc0 := pc) rfl (hb K.hby hd) rfl ((if0 _ _).trans (feq (show ¬ x = (0 : Int32) from q)).2) ho hp k) hr
theorem o_if_ne_f (X : Stand p l e R s m args below meth c T locs cells slots) (K : OCx p s m meth c Z own nm bytes maxL ret) {x : Int32} {o : Int} (hd : decode bytes pc = .ok (.ifCond .ne o, 3)) (pc' : Nat) (hp : pc + 3 = pc') (q : x = 0) (hr : OGo p e below s n0 Q kc ks (T.setTop (mkF m pc' Ls St))) : OGo p e below s n0 Q kc ks (T.setTop (mkF m pc Ls (.int x :: St))) := by
  subst hp
  exact OGo.st (fun _ k => XS.ifNo X.here K.hx rfl (hb K.hby hd) rfl ((if0 _ _).trans (teq (show x = (0 : Int32) from q)).2) k) hr
theorem o_if_ne (X : Stand p l e R s m args below meth c T locs cells slots) (K : OCx p s m meth c Z own nm bytes maxL ret) {x : Int32} {o : Int} (hd : decode bytes pc = .ok (.ifCond .ne o, 3)) (pt : Nat) (ho : 0 ≤ (pc : Int) + o) (hp : ((pc : Int) + o).toNat = pt) (pc' : Nat) (hp' : pc + 3 = pc') (h1 : ¬ x = 0 → OGo p e below s n0 Q kc ks (T.setTop (mkF m pt Ls St))) (h2 : x = 0 → OGo p e below s n0 Q kc ks (T.setTop (mkF m pc' Ls St))) : OGo p e below s n0 Q kc ks (T.setTop (mkF m pc Ls (.int x :: St))) :=
  (Classical.em (¬ x = 0)).elim (fun q => o_if_ne_t X K hd pt ho hp q (h1 q)) (fun q => o_if_ne_f X K hd pc' hp' (Classical.not_not.mp q) (h2 (Classical.not_not.mp q)))
theorem o_lw_lt {x y : Int64} : (lcmpW x y).toInt < 0 ↔ x.toInt < y.toInt := by
  have q := lw_lt x y
  rw [Int32.lt_iff_toInt_lt, Int64.lt_iff_toInt_lt] at q
  exact q
theorem o_lw_gt {x y : Int64} : 0 < (lcmpW x y).toInt ↔ y.toInt < x.toInt := by
  have q := lw_gt x y
  rw [Int32.lt_iff_toInt_lt, Int64.lt_iff_toInt_lt] at q
  exact q
theorem o_lw_le {x y : Int64} : (lcmpW x y).toInt ≤ 0 ↔ x.toInt ≤ y.toInt := by
  have q := @o_lw_gt x y
  omega
theorem o_lw_ge {x y : Int64} : 0 ≤ (lcmpW x y).toInt ↔ y.toInt ≤ x.toInt := by
  have q := @o_lw_lt x y
  omega
theorem o_lw_eq {x y : Int64} : lcmpW x y = 0 ↔ x = y := lw_eq x y
theorem o_ifnull_t (X : Stand p l e R s m args below meth c T locs cells slots) (K : OCx p s m meth c Z own nm bytes maxL ret) {o : Int} (hd : decode bytes pc = .ok (.ifnull o, 3)) (pt : Nat) (ho : 0 ≤ (pc : Int) + o) (hp : ((pc : Int) + o).toNat = pt) (hr : OGo p e below s n0 Q kc ks (T.setTop (mkF m pt Ls St))) : OGo p e below s n0 Q kc ks (T.setTop (mkF m pc Ls (.null :: St))) :=
  OGo.st (fun _ k => XS.ifnullYes X.here K.hx rfl (pc0 := pc) rfl (hb K.hby hd) rfl ho hp k) hr
theorem o_ifnull_f (X : Stand p l e R s m args below meth c T locs cells slots) (K : OCx p s m meth c Z own nm bytes maxL ret) {o : Int} {b : Addr} (hd : decode bytes pc = .ok (.ifnull o, 3)) (pc' : Nat) (hp : pc + 3 = pc') (hr : OGo p e below s n0 Q kc ks (T.setTop (mkF m pc' Ls St))) : OGo p e below s n0 Q kc ks (T.setTop (mkF m pc Ls (.ref b :: St))) := by
  subst hp
  exact OGo.st (fun _ k => XS.ifnullNo X.here K.hx rfl (hb K.hby hd) rfl k) hr
theorem o_ifnonnull_t (X : Stand p l e R s m args below meth c T locs cells slots) (K : OCx p s m meth c Z own nm bytes maxL ret) {o : Int} {b : Addr} (hd : decode bytes pc = .ok (.ifnonnull o, 3)) (pt : Nat) (ho : 0 ≤ (pc : Int) + o) (hp : ((pc : Int) + o).toNat = pt) (hr : OGo p e below s n0 Q kc ks (T.setTop (mkF m pt Ls St))) : OGo p e below s n0 Q kc ks (T.setTop (mkF m pc Ls (.ref b :: St))) :=
  OGo.st (fun _ k => XS.ifnonnullYes X.here K.hx rfl (pc0 := pc) rfl (hb K.hby hd) rfl ho hp k) hr
theorem o_ifnonnull_f (X : Stand p l e R s m args below meth c T locs cells slots) (K : OCx p s m meth c Z own nm bytes maxL ret) {o : Int} (hd : decode bytes pc = .ok (.ifnonnull o, 3)) (pc' : Nat) (hp : pc + 3 = pc') (hr : OGo p e below s n0 Q kc ks (T.setTop (mkF m pc' Ls St))) : OGo p e below s n0 Q kc ks (T.setTop (mkF m pc Ls (.null :: St))) := by
  subst hp
  exact OGo.st (fun _ k => XS.ifnonnullNo X.here K.hx rfl (hb K.hby hd) rfl k) hr
theorem o_acmp (X : Stand p l e R s m args below meth c T locs cells slots) (K : OCx p s m meth c Z own nm bytes maxL ret) {cd : ACond} {x y : Value} {o : Int} (hd : decode bytes pc = .ok (.if_acmp cd o, 3)) (pc' : Nat) (h1 : x.isRef = true) (h2 : y.isRef = true) (same : Bool) (hq : decide (x = y) = same) (ho : 0 ≤ (pc : Int) + o) (hp : pc' = if acV cd same = true then ((pc : Int) + o).toNat else pc + 3) (hr : OGo p e below s n0 Q kc ks (T.setTop (mkF m pc' Ls St))) : OGo p e below s n0 Q kc ks (T.setTop (mkF m pc Ls (y :: x :: St))) :=
  OGo.st (fun _ k => Jvm.RoadKit.acmp (g := mkF m pc Ls (y :: x :: St)) X K.hx rfl h1 h2 (pc0 := pc) rfl (hb K.hby hd) rfl hq ho hp k) hr
theorem o_leave (X : Stand p l e R s m args below meth c T locs cells slots) (hlk : meth.locks = false) {v : Option Value} (hv : meth.sig.returnType = none → v = none) {S : State} (hc : cells ≤ kc) (hs : slots ≤ ks) (N : Fr n0 locs) (hQ : Q v T.heap)
    (k : ∀ fs, (∀ (f : JFrame) (acts : List Action), f.method = m → f.locked = none → f.entered = [] → (doReturn e (T.setTop f) acts v).1 = T.setFrames fs) → Steps p.tables e below S (T.setFrames fs)) : OGo p e below s n0 Q kc ks S := by
  obtain ⟨fs, hr, hrun, hended, hW, hsame⟩ := X.leave (v := v) hv
  exact ⟨_, _, k fs hr, hrun, hended, v, locs, rfl, ⟨hQ, N⟩, ⟨v, rfl⟩, hW, hsame.mono hc hs⟩
theorem o_ireturn (X : Stand p l e R s m args below meth c T locs cells slots) (K : OCx p s m meth c Z own nm bytes maxL (some .int)) {z : Int32} (hd : decode bytes pc = .ok (.ireturn, 1)) (hc : cells ≤ kc) (hs : slots ≤ ks) (N : Fr n0 locs) (hQ : Q (some (.int z)) T.heap) : OGo p e below s n0 Q kc ks (T.setTop (mkF m pc Ls (.int z :: St))) :=
  o_leave X K.hlk (fun h => by rw [K.hret] at h; cases h) hc hs N hQ (fun fs hr => retI X K.hx K.hret (hb K.hby hd) hr)
theorem o_ireturnN {t : FieldType} (X : Stand p l e R s m args below meth c T locs cells slots) (K : OCx p s m meth c Z own nm bytes maxL (some t)) (ht : t = .boolean ∨ t = .byte ∨ t = .char ∨ t = .short) {z : Int32} (hd : decode bytes pc = .ok (.ireturn, 1)) (hc : cells ≤ kc) (hs : slots ≤ ks) (N : Fr n0 locs) (hQ : Q (some (.int (nar t z))) T.heap) : OGo p e below s n0 Q kc ks (T.setTop (mkF m pc Ls (.int z :: St))) :=
  o_leave X K.hlk (fun h => by rw [K.hret] at h; cases h) hc hs N hQ (fun fs hr => retN X K.hx K.hret ht (hb K.hby hd) hr)
theorem o_lreturn (X : Stand p l e R s m args below meth c T locs cells slots) (K : OCx p s m meth c Z own nm bytes maxL (some .long)) {z : Int64} (hd : decode bytes pc = .ok (.lreturn, 1)) (hc : cells ≤ kc) (hs : slots ≤ ks) (N : Fr n0 locs) (hQ : Q (some (.long z)) T.heap) : OGo p e below s n0 Q kc ks (T.setTop (mkF m pc Ls (.long z :: St))) :=
  o_leave X K.hlk (fun h => by rw [K.hret] at h; cases h) hc hs N hQ (fun fs hr => retOut X K.hx K.hret rfl (Or.inr (Or.inl ⟨rfl, rfl, z, rfl⟩)) (hb K.hby hd) hr)
theorem o_areturn {t : FieldType} (X : Stand p l e R s m args below meth c T locs cells slots) (K : OCx p s m meth c Z own nm bytes maxL (some t)) (ht : t.isReference = true) {z : Value} (hn : narrow t z = z) (hz : z.isRef = true) (hd : decode bytes pc = .ok (.areturn, 1)) (hc : cells ≤ kc) (hs : slots ≤ ks) (N : Fr n0 locs) (hQ : Q (some z) T.heap) : OGo p e below s n0 Q kc ks (T.setTop (mkF m pc Ls (z :: St))) :=
  o_leave X K.hlk (fun h => by rw [K.hret] at h; cases h) hc hs N hQ (fun fs hr => retOut X K.hx K.hret hn (Or.inr (Or.inr (Or.inr (Or.inr ⟨rfl, ht, hz⟩)))) (hb K.hby hd) hr)
theorem o_return (X : Stand p l e R s m args below meth c T locs cells slots) (K : OCx p s m meth c Z own nm bytes maxL none) (hd : decode bytes pc = .ok (.return_, 1)) (hc : cells ≤ kc) (hs : slots ≤ ks) (N : Fr n0 locs) (hQ : Q none T.heap) : OGo p e below s n0 Q kc ks (T.setTop (mkF m pc Ls [])) :=
  o_leave X K.hlk (fun _ => rfl) hc hs N hQ (fun fs hr => X.returnOut K.hx K.hret (hb K.hby hd) hr)
/-- an array: its kind, its length, what each place holds -/
def OAr (Z : State) (h : Heap) (a : Addr) (ty : FieldType) (n : Nat) (f : Nat → Value) : Prop := ∃ c : Cell, Arr Z h a c ty ∧ c.slots.size = n ∧ n < 2147483648 ∧ (∀ j, j < n → c.slots[j]? = some (f j)) ∧ ∀ j, j < n → fits ty (f j) = true
theorem OAr.lt {a : Addr} {ty : FieldType} {n : Nat} {f : Nat → Value} (A : OAr Z h a ty n f) : a < h.size := by obtain ⟨c, A, -⟩ := A; exact A.lt
theorem OAr.len {a : Addr} {ty : FieldType} {n : Nat} {f : Nat → Value} (A : OAr Z h a ty n f) : n < 2147483648 := by obtain ⟨c, -, -, A, -⟩ := A; exact A
theorem OAr.fit {a : Addr} {ty : FieldType} {n : Nat} {f : Nat → Value} (A : OAr Z h a ty n f) {j : Nat} (hj : j < n) : fits ty (f j) = true := by obtain ⟨c, -, -, -, -, A⟩ := A; exact A j hj
theorem OAr.ext {a : Addr} {ty : FieldType} {n : Nat} {f : Nat → Value} (A : OAr Z h a ty n f) (E : Ext h h') : OAr Z h' a ty n f := by obtain ⟨c, A, r⟩ := A; exact ⟨c, A.ext E, r⟩
theorem OAr.other {a b : Addr} {ty : FieldType} {n sl : Nat} {f : Nat → Value} {v : Value} (A : OAr Z h b ty n f) (W : Wr h h' a sl v) (q : b ≠ a) : OAr Z h' b ty n f := by obtain ⟨c, A, r⟩ := A; exact ⟨c, A.other W q, r⟩
theorem OAr.keep {a : Addr} {ty : FieldType} {n : Nat} {f : Nat → Value} {ws : List Addr} (A : OAr Z h a ty n f) (E : Keep h h' ws) (q : a ∉ ws) : OAr Z h' a ty n f := by obtain ⟨c, A, r⟩ := A; exact ⟨c, ⟨E.2.1 _ _ A.1 q, A.2⟩, r⟩
theorem OAr.congr {a : Addr} {ty : FieldType} {n : Nat} {f g : Nat → Value} (A : OAr Z h a ty n f) (q : ∀ j, j < n → f j = g j) : OAr Z h a ty n g := by
  obtain ⟨c, A, r1, r2, r3, r4⟩ := A
  exact ⟨c, A, r1, r2, fun j hj => by rw [← q j hj]; exact r3 j hj, fun j hj => by rw [← q j hj]; exact r4 j hj⟩
theorem OAr.same {a : Addr} {ty : FieldType} {n i : Nat} {f : Nat → Value} {v : Value} (A : OAr Z h a ty n f) (W : Wr h h' a i v) (hv : fits ty v = true) : OAr Z h' a ty n (fun q => if q = i then v else f q) := by
  obtain ⟨c, A, r1, r2, r3, r4⟩ := A
  refine ⟨_, A.same W, by rw [sz_set]; exact r1, r2, fun j hj => ?_, fun j hj => ?_⟩
  · by_cases e : j = i
    · subst e; simp [Cell.setSlot, r1, hj]
    · have e' : ¬ i = j := fun z => e z.symm
      simp [Cell.setSlot, e, e', r3 j hj]
  · by_cases e : j = i
    · simp [e, hv]
    · simp [e, r4 j hj]
theorem o_idx {j : Int32} {i n : Nat} {c : Cell} (hj : j.toInt = (i : Int)) (hi : i < n) (r1 : c.slots.size = n) : ¬ (j < 0 ∨ c.slots.size ≤ j.toNatClampNeg) ∧ j.toNatClampNeg = i := by
  have e : j.toNatClampNeg = i := by rw [← Int32.toNat_toInt, hj]; rfl
  refine ⟨?_, e⟩
  rw [e, r1, Int32.lt_iff_toInt_lt, hj]
  intro q
  rcases q with q | q
  · have : (0 : Int32).toInt = 0 := rfl
    omega
  · omega
theorem o_len {n : Nat} (h : n < 2147483648) : (n.toInt32).toInt = n := by
  have := len_toInt (n := n) (by omega)
  exact this
theorem o_arraylength (X : Stand p l e R s m args below meth c T locs cells slots) (K : OCx p s m meth c Z own nm bytes maxL ret) {a : Addr} {ty : FieldType} {n : Nat} {f : Nat → Value} (hd : decode bytes pc = .ok (.arraylength, 1)) (pc' : Nat) (hp : pc + 1 = pc') (eT : T.heap = h) (A : OAr Z h a ty n f) {v : Int32} (hv : v.toInt = n) (hr : OGo p e below s n0 Q kc ks (T.setTop (mkF m pc' Ls (.int v :: St)))) : OGo p e below s n0 Q kc ks (T.setTop (mkF m pc Ls (.ref a :: St))) := by
  subst hp
  obtain ⟨cl, A, r1, r2, -⟩ := A
  have e1 : cl.slots.size.toInt32 = v := by rw [← Int32.toInt_inj, hv, r1]; exact o_len r2
  refine OGo.st (fun t k => ?_) hr
  refine X.arraylength K.hx (g := mkF m pc Ls (.ref a :: St)) (by rw [eT]; exact A.1) (State.isArrayOf_alike K.hZ.alike A.2.1) rfl rfl (hb K.hby hd) t ?_
  rw [e1]
  exact k
theorem o_iaload (X : Stand p l e R s m args below meth c T locs cells slots) (K : OCx p s m meth c Z own nm bytes maxL ret) {a : Addr} {n i : Nat} {f : Nat → Value} {j : Int32} {v : Value} (hd : decode bytes pc = .ok (.iaload, 1)) (pc' : Nat) (hp : pc + 1 = pc') (eT : T.heap = h) (A : OAr Z h a .int n f) (hj : j.toInt = (i : Int)) (hi : i < n) (hv : f i = v) (hr : OGo p e below s n0 Q kc ks (T.setTop (mkF m pc' Ls (v :: St)))) : OGo p e below s n0 Q kc ks (T.setTop (mkF m pc Ls (.int j :: .ref a :: St))) := by
  subst hp
  obtain ⟨cl, A, r1, r2, r3, -⟩ := A
  obtain ⟨q1, q2⟩ := o_idx (c := cl) hj hi r1
  exact OGo.st (fun t k => X.iaload K.hx (g := mkF m pc Ls (.int j :: .ref a :: St)) (by rw [eT]; exact A.1) (State.isArrayOf_alike K.hZ.alike A.2.1) A.2.2 q1 (by rw [q2, r3 i hi, hv]) rfl rfl (hb K.hby hd) t k) hr
theorem o_laload (X : Stand p l e R s m args below meth c T locs cells slots) (K : OCx p s m meth c Z own nm bytes maxL ret) {a : Addr} {n i : Nat} {f : Nat → Value} {j : Int32} {v : Value} (hd : decode bytes pc = .ok (.laload, 1)) (pc' : Nat) (hp : pc + 1 = pc') (eT : T.heap = h) (A : OAr Z h a .long n f) (hj : j.toInt = (i : Int)) (hi : i < n) (hv : f i = v) (hr : OGo p e below s n0 Q kc ks (T.setTop (mkF m pc' Ls (v :: St)))) : OGo p e below s n0 Q kc ks (T.setTop (mkF m pc Ls (.int j :: .ref a :: St))) := by
  subst hp
  obtain ⟨cl, A, r1, r2, r3, -⟩ := A
  obtain ⟨q1, q2⟩ := o_idx (c := cl) hj hi r1
  exact OGo.st (fun t k => X.laload K.hx (g := mkF m pc Ls (.int j :: .ref a :: St)) (by rw [eT]; exact A.1) (State.isArrayOf_alike K.hZ.alike A.2.1) A.2.2 q1 (by rw [q2, r3 i hi, hv]) rfl rfl (hb K.hby hd) t k) hr
theorem o_caload (X : Stand p l e R s m args below meth c T locs cells slots) (K : OCx p s m meth c Z own nm bytes maxL ret) {a : Addr} {n i : Nat} {f : Nat → Value} {j : Int32} {v : Value} (hd : decode bytes pc = .ok (.caload, 1)) (pc' : Nat) (hp : pc + 1 = pc') (eT : T.heap = h) (A : OAr Z h a .char n f) (hj : j.toInt = (i : Int)) (hi : i < n) (hv : f i = v) (hr : OGo p e below s n0 Q kc ks (T.setTop (mkF m pc' Ls (v :: St)))) : OGo p e below s n0 Q kc ks (T.setTop (mkF m pc Ls (.int j :: .ref a :: St))) := by
  subst hp
  obtain ⟨cl, A, r1, r2, r3, -⟩ := A
  obtain ⟨q1, q2⟩ := o_idx (c := cl) hj hi r1
  exact OGo.st (fun t k => X.caload K.hx (g := mkF m pc Ls (.int j :: .ref a :: St)) (by rw [eT]; exact A.1) (State.isArrayOf_alike K.hZ.alike A.2.1) A.2.2 q1 (by rw [q2, r3 i hi, hv]) rfl rfl (hb K.hby hd) t k) hr
theorem o_saload (X : Stand p l e R s m args below meth c T locs cells slots) (K : OCx p s m meth c Z own nm bytes maxL ret) {a : Addr} {n i : Nat} {f : Nat → Value} {j : Int32} {v : Value} (hd : decode bytes pc = .ok (.saload, 1)) (pc' : Nat) (hp : pc + 1 = pc') (eT : T.heap = h) (A : OAr Z h a .short n f) (hj : j.toInt = (i : Int)) (hi : i < n) (hv : f i = v) (hr : OGo p e below s n0 Q kc ks (T.setTop (mkF m pc' Ls (v :: St)))) : OGo p e below s n0 Q kc ks (T.setTop (mkF m pc Ls (.int j :: .ref a :: St))) := by
  subst hp
  obtain ⟨cl, A, r1, r2, r3, -⟩ := A
  obtain ⟨q1, q2⟩ := o_idx (c := cl) hj hi r1
  exact OGo.st (fun t k => X.saload K.hx (g := mkF m pc Ls (.int j :: .ref a :: St)) (by rw [eT]; exact A.1) (State.isArrayOf_alike K.hZ.alike A.2.1) A.2.2 q1 (by rw [q2, r3 i hi, hv]) rfl rfl (hb K.hby hd) t k) hr
theorem o_baload (X : Stand p l e R s m args below meth c T locs cells slots) (K : OCx p s m meth c Z own nm bytes maxL ret) {a : Addr} {n i : Nat} {f : Nat → Value} {j : Int32} {v : Value} (hd : decode bytes pc = .ok (.baload, 1)) (pc' : Nat) (hp : pc + 1 = pc') (eT : T.heap = h) (A : OAr Z h a .byte n f) (hj : j.toInt = (i : Int)) (hi : i < n) (hv : f i = v) (hr : OGo p e below s n0 Q kc ks (T.setTop (mkF m pc' Ls (v :: St)))) : OGo p e below s n0 Q kc ks (T.setTop (mkF m pc Ls (.int j :: .ref a :: St))) := by
  subst hp
  obtain ⟨cl, A, r1, r2, r3, -⟩ := A
  obtain ⟨q1, q2⟩ := o_idx (c := cl) hj hi r1
  exact OGo.st (fun t k => X.baloadBytes K.hx (g := mkF m pc Ls (.int j :: .ref a :: St)) (by rw [eT]; exact A.1) (State.isArrayOf_alike K.hZ.alike A.2.1) A.2.2 q1 (by rw [q2, r3 i hi, hv]) rfl rfl (hb K.hby hd) t k) hr
theorem o_zaload (X : Stand p l e R s m args below meth c T locs cells slots) (K : OCx p s m meth c Z own nm bytes maxL ret) {a : Addr} {n i : Nat} {f : Nat → Value} {j : Int32} {v : Value} (hd : decode bytes pc = .ok (.baload, 1)) (pc' : Nat) (hp : pc + 1 = pc') (eT : T.heap = h) (A : OAr Z h a .boolean n f) (hj : j.toInt = (i : Int)) (hi : i < n) (hv : f i = v) (hr : OGo p e below s n0 Q kc ks (T.setTop (mkF m pc' Ls (v :: St)))) : OGo p e below s n0 Q kc ks (T.setTop (mkF m pc Ls (.int j :: .ref a :: St))) := by
  subst hp
  obtain ⟨cl, A, r1, r2, r3, -⟩ := A
  obtain ⟨q1, q2⟩ := o_idx (c := cl) hj hi r1
  exact OGo.st (fun t k => X.baloadBooleans K.hx (g := mkF m pc Ls (.int j :: .ref a :: St)) (by rw [eT]; exact A.1) (State.isArrayOf_alike K.hZ.alike A.2.1) A.2.2 q1 (by rw [q2, r3 i hi, hv]) rfl rfl (hb K.hby hd) t k) hr
theorem o_aaload (X : Stand p l e R s m args below meth c T locs cells slots) (K : OCx p s m meth c Z own nm bytes maxL ret) {a : Addr} {ty : FieldType} {n i : Nat} {f : Nat → Value} {j : Int32} {v : Value} (hd : decode bytes pc = .ok (.aaload, 1)) (pc' : Nat) (hp : pc + 1 = pc') (eT : T.heap = h) (A : OAr Z h a ty n f) (hty : ty.isReference = true) (hj : j.toInt = (i : Int)) (hi : i < n) (hv : f i = v) (hr : OGo p e below s n0 Q kc ks (T.setTop (mkF m pc' Ls (v :: St)))) : OGo p e below s n0 Q kc ks (T.setTop (mkF m pc Ls (.int j :: .ref a :: St))) := by
  subst hp
  obtain ⟨cl, A, r1, r2, r3, -⟩ := A
  obtain ⟨q1, q2⟩ := o_idx (c := cl) hj hi r1
  exact OGo.st (fun t k => X.aaload K.hx (g := mkF m pc Ls (.int j :: .ref a :: St)) (by rw [eT]; exact A.1) (State.isArrayOf_alike K.hZ.alike A.2.1) hty A.2.2 q1 (by rw [q2, r3 i hi, hv]) rfl rfl (hb K.hby hd) t k) hr
theorem o_bastore (X : Stand p l e R s m args below meth c T locs cells slots) (K : OCx p s m meth c Z own nm bytes maxL ret) {a : Addr} {n i : Nat} {f : Nat → Value} {j : Int32} {x x' : Int32} (hd : decode bytes pc = .ok (.bastore, 1)) (pc' : Nat) (hp : pc + 1 = pc') (eT : T.heap = h) (A : OAr Z h a .byte n f) (hj : j.toInt = (i : Int)) (hi : i < n) (hv : nar .byte x = x') (N : Fr n0 locs) (ge : n0 ≤ a)
    (hr : ∀ T' h' locs', Stand p l e R s m args below meth c T' locs' cells slots → T'.heap = h' → Wr h h' a i (.int x') → OAr Z h' a .byte n (fun q => if q = i then (.int x') else f q) → Fr n0 locs' → OGo p e below s n0 Q kc ks (T'.setTop (mkF m pc' Ls St))) : OGo p e below s n0 Q kc ks (T.setTop (mkF m pc Ls (.int x :: .int j :: .ref a :: St))) := by
  subst hp hv
  obtain ⟨cl, B, r1, r2, r3, -⟩ := id A
  obtain ⟨q1, q2⟩ := o_idx (c := cl) hj hi r1
  obtain ⟨T', h', X', e', W', st'⟩ := stB X K.hx K.hZ eT B q1 (g := mkF m pc Ls (.int x :: .int j :: .ref a :: St)) rfl rfl (hb K.hby hd)
  have N' := Fr.snoc X' N ge
  rw [q2] at W'
  exact OGo.st st' (hr T' h' _ X' e' W' (A.same W' (fits_nar_byte x)) N')
theorem o_castore (X : Stand p l e R s m args below meth c T locs cells slots) (K : OCx p s m meth c Z own nm bytes maxL ret) {a : Addr} {n i : Nat} {f : Nat → Value} {j : Int32} {x x' : Int32} (hd : decode bytes pc = .ok (.castore, 1)) (pc' : Nat) (hp : pc + 1 = pc') (eT : T.heap = h) (A : OAr Z h a .char n f) (hj : j.toInt = (i : Int)) (hi : i < n) (hv : nar .char x = x') (N : Fr n0 locs) (ge : n0 ≤ a)
    (hr : ∀ T' h' locs', Stand p l e R s m args below meth c T' locs' cells slots → T'.heap = h' → Wr h h' a i (.int x') → OAr Z h' a .char n (fun q => if q = i then (.int x') else f q) → Fr n0 locs' → OGo p e below s n0 Q kc ks (T'.setTop (mkF m pc' Ls St))) : OGo p e below s n0 Q kc ks (T.setTop (mkF m pc Ls (.int x :: .int j :: .ref a :: St))) := by
  subst hp hv
  obtain ⟨cl, B, r1, r2, r3, -⟩ := id A
  obtain ⟨q1, q2⟩ := o_idx (c := cl) hj hi r1
  obtain ⟨T', h', X', e', W', st'⟩ := stC X K.hx K.hZ eT B q1 (g := mkF m pc Ls (.int x :: .int j :: .ref a :: St)) rfl rfl (hb K.hby hd)
  have N' := Fr.snoc X' N ge
  rw [q2] at W'
  exact OGo.st st' (hr T' h' _ X' e' W' (A.same W' (fits_nar_char x)) N')
theorem o_sastore (X : Stand p l e R s m args below meth c T locs cells slots) (K : OCx p s m meth c Z own nm bytes maxL ret) {a : Addr} {n i : Nat} {f : Nat → Value} {j : Int32} {x x' : Int32} (hd : decode bytes pc = .ok (.sastore, 1)) (pc' : Nat) (hp : pc + 1 = pc') (eT : T.heap = h) (A : OAr Z h a .short n f) (hj : j.toInt = (i : Int)) (hi : i < n) (hv : nar .short x = x') (N : Fr n0 locs) (ge : n0 ≤ a)
    (hr : ∀ T' h' locs', Stand p l e R s m args below meth c T' locs' cells slots → T'.heap = h' → Wr h h' a i (.int x') → OAr Z h' a .short n (fun q => if q = i then (.int x') else f q) → Fr n0 locs' → OGo p e below s n0 Q kc ks (T'.setTop (mkF m pc' Ls St))) : OGo p e below s n0 Q kc ks (T.setTop (mkF m pc Ls (.int x :: .int j :: .ref a :: St))) := by
  subst hp hv
  obtain ⟨cl, B, r1, r2, r3, -⟩ := id A
  obtain ⟨q1, q2⟩ := o_idx (c := cl) hj hi r1
  obtain ⟨T', h', X', e', W', st'⟩ := stS X K.hx K.hZ eT B q1 (g := mkF m pc Ls (.int x :: .int j :: .ref a :: St)) rfl rfl (hb K.hby hd)
  have N' := Fr.snoc X' N ge
  rw [q2] at W'
  exact OGo.st st' (hr T' h' _ X' e' W' (A.same W' (fits_nar_short x)) N')
theorem o_zastore (X : Stand p l e R s m args below meth c T locs cells slots) (K : OCx p s m meth c Z own nm bytes maxL ret) {a : Addr} {n i : Nat} {f : Nat → Value} {j : Int32} {x x' : Int32} (hd : decode bytes pc = .ok (.bastore, 1)) (pc' : Nat) (hp : pc + 1 = pc') (eT : T.heap = h) (A : OAr Z h a .boolean n f) (hj : j.toInt = (i : Int)) (hi : i < n) (hv : nar .boolean x = x') (N : Fr n0 locs) (ge : n0 ≤ a)
    (hr : ∀ T' h' locs', Stand p l e R s m args below meth c T' locs' cells slots → T'.heap = h' → Wr h h' a i (.int x') → OAr Z h' a .boolean n (fun q => if q = i then (.int x') else f q) → Fr n0 locs' → OGo p e below s n0 Q kc ks (T'.setTop (mkF m pc' Ls St))) : OGo p e below s n0 Q kc ks (T.setTop (mkF m pc Ls (.int x :: .int j :: .ref a :: St))) := by
  subst hp hv
  obtain ⟨cl, B, r1, r2, r3, -⟩ := id A
  obtain ⟨q1, q2⟩ := o_idx (c := cl) hj hi r1
  obtain ⟨T', h', X', e', W', st'⟩ := stZ X K.hx K.hZ eT B q1 (g := mkF m pc Ls (.int x :: .int j :: .ref a :: St)) rfl rfl (hb K.hby hd)
  have N' := Fr.snoc X' N ge
  rw [q2] at W'
  exact OGo.st st' (hr T' h' _ X' e' W' (A.same W' (fits_nar_bool x)) N')
theorem o_iastore (X : Stand p l e R s m args below meth c T locs cells slots) (K : OCx p s m meth c Z own nm bytes maxL ret) {a : Addr} {n i : Nat} {f : Nat → Value} {j : Int32} {x x' : Int32} (hd : decode bytes pc = .ok (.iastore, 1)) (pc' : Nat) (hp : pc + 1 = pc') (eT : T.heap = h) (A : OAr Z h a .int n f) (hj : j.toInt = (i : Int)) (hi : i < n) (hv : x = x') (N : Fr n0 locs) (ge : n0 ≤ a)
    (hr : ∀ T' h' locs', Stand p l e R s m args below meth c T' locs' cells slots → T'.heap = h' → Wr h h' a i (.int x') → OAr Z h' a .int n (fun q => if q = i then (.int x') else f q) → Fr n0 locs' → OGo p e below s n0 Q kc ks (T'.setTop (mkF m pc' Ls St))) : OGo p e below s n0 Q kc ks (T.setTop (mkF m pc Ls (.int x :: .int j :: .ref a :: St))) := by
  subst hp hv
  obtain ⟨cl, B, r1, r2, r3, -⟩ := id A
  obtain ⟨q1, q2⟩ := o_idx (c := cl) hj hi r1
  obtain ⟨T', h', X', e', W', st'⟩ := stI X K.hx K.hZ eT B q1 (g := mkF m pc Ls (.int x :: .int j :: .ref a :: St)) rfl rfl (hb K.hby hd)
  have N' := Fr.snoc X' N ge
  rw [q2] at W'
  exact OGo.st st' (hr T' h' _ X' e' W' (A.same W' (rfl)) N')
theorem o_lastore (X : Stand p l e R s m args below meth c T locs cells slots) (K : OCx p s m meth c Z own nm bytes maxL ret) {a : Addr} {n i : Nat} {f : Nat → Value} {j : Int32} {x x' : Int64} (hd : decode bytes pc = .ok (.lastore, 1)) (pc' : Nat) (hp : pc + 1 = pc') (eT : T.heap = h) (A : OAr Z h a .long n f) (hj : j.toInt = (i : Int)) (hi : i < n) (hv : x = x') (N : Fr n0 locs) (ge : n0 ≤ a)
    (hr : ∀ T' h' locs', Stand p l e R s m args below meth c T' locs' cells slots → T'.heap = h' → Wr h h' a i (.long x') → OAr Z h' a .long n (fun q => if q = i then (.long x') else f q) → Fr n0 locs' → OGo p e below s n0 Q kc ks (T'.setTop (mkF m pc' Ls St))) : OGo p e below s n0 Q kc ks (T.setTop (mkF m pc Ls (.long x :: .int j :: .ref a :: St))) := by
  subst hp hv
  obtain ⟨cl, B, r1, r2, r3, -⟩ := id A
  obtain ⟨q1, q2⟩ := o_idx (c := cl) hj hi r1
  obtain ⟨T', h', X', e', W', st'⟩ := stJ X K.hx K.hZ eT B q1 (g := mkF m pc Ls (.long x :: .int j :: .ref a :: St)) rfl rfl (hb K.hby hd)
  have N' := Fr.snoc X' N ge
  rw [q2] at W'
  exact OGo.st st' (hr T' h' _ X' e' W' (A.same W' (rfl)) N')
theorem o_newarray (X : Stand p l e R s m args below meth c T locs cells slots) (K : OCx p s m meth c Z own nm bytes maxL ret) {aty : ArrayType} {z : Int32} {n : Nat} (hd : decode bytes pc = .ok (.newarray aty, 2)) (pc' : Nat) (hp : pc + 2 = pc') (w : (Jvm.Cond.arrayClass (newarray.typeOf aty)).before a0 Z = true) (eT : T.heap = h) (hz : z.toInt = (n : Int)) (cap : Nat) (hcap : n ≤ cap) (hb8 : cap * 8 ≤ 536870912) (hc : cells + 1 ≤ R.cells) (hl : slots + cap ≤ R.slots)
    (hdv : fits (newarray.typeOf aty) (defaultValue (newarray.typeOf aty)) = true)
    (hr : ∀ T' h' a, a = h.size → Stand p l e R s m args below meth c T' locs (cells + 1) (slots + cap) → T'.heap = h' → Ext h h' → OAr Z h' a (newarray.typeOf aty) n (fun _ => defaultValue (newarray.typeOf aty)) → OGo p e below s n0 Q kc ks (T'.setTop (mkF m pc' Ls (.ref a :: St)))) : OGo p e below s n0 Q kc ks (T.setTop (mkF m pc Ls (.int z :: St))) := by
  subst hp
  have e1 : z.toNatClampNeg = n := by rw [← Int32.toNat_toInt, hz]; rfl
  have hneg : ¬ z < 0 := by
    rw [Int32.lt_iff_toInt_lt, hz]
    have : (0 : Int32).toInt = 0 := rfl
    omega
  obtain ⟨T', h', cA, X', e', E', A', st'⟩ := newP X K.hx K.hZ w eT (g := mkF m pc Ls (.int z :: St)) rfl (hb K.hby hd) rfl hneg (cap := cap) (by omega) hb8 hc hl
  refine OGo.st st' (hr T' h' _ rfl X' e' E' ⟨_, A', (sz_new _ _ _).trans e1, ?_, fun j hj => ?_, fun j _ => hdv⟩)
  · have := (rng32 z).2
    omega
  · simp [newA, e1, hj]
theorem o_anewarray (X : Stand p l e R s m args below meth c T locs cells slots) (K : OCx p s m meth c Z own nm bytes maxL ret) {C : String} {index : Nat} {z : Int32} {n : Nat} (hd : decode bytes pc = .ok (.anewarray index, 3)) (pc' : Nat) (hp : pc + 3 = pc') (w1 : (Jvm.Cond.classLink own index C).before a0 Z = true) (w2 : (Jvm.Cond.arrayOver (.object C)).before a0 Z = true) (eT : T.heap = h) (hz : z.toInt = (n : Int)) (cap : Nat) (hcap : n ≤ cap) (hb8 : cap * 8 ≤ 536870912) (hc : cells + 1 ≤ R.cells) (hl : slots + cap ≤ R.slots)
    (hr : ∀ T' h' a, a = h.size → Stand p l e R s m args below meth c T' locs (cells + 1) (slots + cap) → T'.heap = h' → Ext h h' → OAr Z h' a (.object C) n (fun _ => .null) → (∃ cl : Cell, h'[a]? = some cl ∧ Ovr Z cl.cls C) → OGo p e below s n0 Q kc ks (T'.setTop (mkF m pc' Ls (.ref a :: St)))) : OGo p e below s n0 Q kc ks (T.setTop (mkF m pc Ls (.int z :: St))) := by
  subst hp
  have e1 : z.toNatClampNeg = n := by rw [← Int32.toNat_toInt, hz]; rfl
  have hneg : ¬ z < 0 := by
    rw [Int32.lt_iff_toInt_lt, hz]
    have : (0 : Int32).toInt = 0 := rfl
    omega
  obtain ⟨T', h', cA, X', e', E', A', O', st'⟩ := newR X K.hx K.hZ K.hown w1 w2 eT (g := mkF m pc Ls (.int z :: St)) rfl (hb K.hby hd) rfl hneg (cap := cap) (by omega) hb8 hc hl
  refine OGo.st st' (hr T' h' _ rfl X' e' E' ⟨_, A', (sz_new _ _ _).trans e1, ?_, fun j hj => ?_, fun j _ => rfl⟩ ⟨_, A'.1, O'⟩)
  · have := (rng32 z).2
    omega
  · simp [newA, e1, hj, defaultValue]
theorem o_new (X : Stand p l e R s m args below meth c T locs cells slots) (K : OCx p s m meth c Z own nm bytes maxL ret) {C : String} {index k : Nat} (hd : decode bytes pc = .ok (.new index, 3)) (pc' : Nat) (hp : pc + 3 = pc') (w : (Jvm.Cond.classLink own index C).before a0 Z = true) (wi : (Jvm.Cond.instantiable C k).before a0 Z = true) (wz : (Jvm.Cond.initialized C).before a0 Z = true) (eT : T.heap = h) (hc : cells + 1 ≤ R.cells) (hl : slots + k ≤ R.slots)
    (hr : ∀ T' h' a, a = h.size → Stand p l e R s m args below meth c T' locs (cells + 1) (slots + k) → T'.heap = h' → Ext h h' → Exa Z h' a C → (∀ {O nm d : String} {ty : FieldType}, Laid Z a0 C O nm d → parseFieldDescriptor d = some ty → Fld Z h' a O nm d (defaultValue ty)) → OGo p e below s n0 Q kc ks (T'.setTop (mkF m pc' Ls (.ref a :: St)))) : OGo p e below s n0 Q kc ks (T.setTop (mkF m pc Ls St)) := by
  subst hp
  obtain ⟨T', h', X', e', E', A', D', -, st'⟩ := newO X K.hx K.hZ K.hown w wi wz eT (g := mkF m pc Ls St) rfl (hb K.hby hd) hc hl
  exact OGo.st st' (hr T' h' _ rfl X' e' E' A' D')
theorem o_initO (X : Stand p l e R s m args below meth c T locs cells slots) (K : OCx p s m meth c Z own nm bytes maxL ret) {idx : Nat} {a : Addr} (hd : decode bytes pc = .ok (.invokespecial idx, 3)) (pc' : Nat) (hp : pc + 3 = pc') (w1 : (Jvm.Cond.methodLink own idx Lib.objectInit).before a0 Z = true) (w2 : (Jvm.Cond.instanceMethod Lib.objectInit).before a0 Z = true) (w3 : (Jvm.Cond.code Lib.objectInit ⟨#[0xb1]⟩ 1 none).before a0 Z = true) (eT : T.heap = h) (hsz : Ls.size = maxL)
    (hf : 1 ≤ R.frames) (W : Nat) (hW : (St.map fun v => v.category).sum ≤ W) (hl : W + 12 ≤ R.locals) (hr : ∀ T', Stand p l e R s m args below meth c T' locs cells slots → T'.heap = h → OGo p e below s n0 Q kc ks (T'.setTop (mkF m pc' Ls St))) : OGo p e below s n0 Q kc ks (T.setTop (mkF m pc Ls (.ref a :: St))) := by
  subst hp
  obtain ⟨T', X', e', st'⟩ := initO X K.hx K.hZ K.hown w1 w2 w3 eT (g := mkF m pc Ls (.ref a :: St)) rfl (by rw [K.hml]; exact hsz) rfl (hb K.hby hd) hf (W := W) (by show 2 * 0 + _ ≤ _; omega) hl
  exact OGo.st st' (hr T' X' e')
theorem o_getfield (X : Stand p l e R s m args below meth c T locs cells slots) (K : OCx p s m meth c Z own nm bytes maxL ret) {index : Nat} {R0 O n d host : String} {a : Addr} {v : Value} (hd : decode bytes pc = .ok (.getfield index, 3)) (pc' : Nat) (hp : pc + 3 = pc') (w : (Jvm.Cond.fieldLink own index R0 n d).before a0 Z = true ∨ (Jvm.Cond.fieldLinkNest own index R0 n d host).before a0 Z = true) (via : Via Z R0 O n d) (eT : T.heap = h) (F : Fld Z h a O n d v)
    (hr : ∀ T', Stand p l e R s m args below meth c T' locs cells slots → T'.heap = h → OGo p e below s n0 Q kc ks (T'.setTop (mkF m pc' Ls (v :: St)))) : OGo p e below s n0 Q kc ks (T.setTop (mkF m pc Ls (.ref a :: St))) := by
  subst hp
  obtain ⟨T', X', e', st'⟩ := getF X K.hx K.hZ K.hown w via eT F (g := mkF m pc Ls (.ref a :: St)) rfl rfl (hb K.hby hd)
  exact OGo.st st' (hr T' X' e')
theorem o_getstatic (X : Stand p l e R s m args below meth c T locs cells slots) (K : OCx p s m meth c Z own nm bytes maxL ret) {index : Nat} {R0 O n d host : String} {v : Value} (hd : decode bytes pc = .ok (.getstatic index, 3)) (pc' : Nat) (hp : pc + 3 = pc') (w : (Jvm.Cond.fieldLink own index R0 n d).before a0 Z = true ∨ (Jvm.Cond.fieldLinkNest own index R0 n d host).before a0 Z = true) (via : Via Z R0 O n d) (eT : T.heap = h) (F : Sta Z h O n d v)
    (hr : ∀ T', Stand p l e R s m args below meth c T' locs cells slots → T'.heap = h → OGo p e below s n0 Q kc ks (T'.setTop (mkF m pc' Ls (v :: St)))) : OGo p e below s n0 Q kc ks (T.setTop (mkF m pc Ls St)) := by
  subst hp
  obtain ⟨T', X', e', st'⟩ := getS2 X K.hx K.hZ K.hown w via eT F (g := mkF m pc Ls St) rfl (hb K.hby hd)
  exact OGo.st st' (hr T' X' e')
theorem o_putfield (X : Stand p l e R s m args below meth c T locs cells slots) (K : OCx p s m meth c Z own nm bytes maxL ret) {index kk : Nat} {R0 O n d host C : String} {a : Addr} {v old : Value} {ty : FieldType} (hd : decode bytes pc = .ok (.putfield index, 3)) (pc' : Nat) (hp : pc + 3 = pc') (w : (Jvm.Cond.fieldLink own index R0 n d).before a0 Z = true ∨ (Jvm.Cond.fieldLinkNest own index R0 n d host).before a0 Z = true) (via : Via Z R0 O n d) (eT : T.heap = h) (F : Fld Z h a O n d old) (E : Exa Z h a C)
    (L : (Jvm.Cond.lays C O n d).before a0 Z = true ∨ ((Jvm.Cond.laysFinal C O n d).before a0 Z = true ∧ own = O ∧ nm = "<init>")) (wi : (Jvm.Cond.instantiable C kk).before a0 Z = true) (hty : parseFieldDescriptor d = some ty) (hn : narrow ty v = v) (hf : fits ty v = true) (N : Fr n0 locs) (ge : n0 ≤ a)
    (hr : ∀ T' h' locs', Stand p l e R s m args below meth c T' locs' cells slots → T'.heap = h' → Wr h h' a (Jvm.RoadKit.slotOf Z O n d) v → Fr n0 locs' → OGo p e below s n0 Q kc ks (T'.setTop (mkF m pc' Ls St))) : OGo p e below s n0 Q kc ks (T.setTop (mkF m pc Ls (v :: .ref a :: St))) := by
  subst hp
  obtain ⟨T', h', X', e', W', st'⟩ := putF X K.hx K.hZ K.hown w via eT F E (L.imp id fun q => ⟨q.1, q.2.1, K.hnm.trans q.2.2⟩) wi hty hn hf (g := mkF m pc Ls (v :: .ref a :: St)) rfl rfl (hb K.hby hd)
  exact OGo.st st' (hr T' h' _ X' e' W' (Fr.snoc X' N ge))
theorem o_putfieldN (X : Stand p l e R s m args below meth c T locs cells slots) (K : OCx p s m meth c Z own nm bytes maxL ret) {index kk : Nat} {R0 O n d C : String} {a : Addr} {v v' old : Value} {ty : FieldType} (hd : decode bytes pc = .ok (.putfield index, 3)) (pc' : Nat) (hp : pc + 3 = pc') (w : (Jvm.Cond.fieldLink own index R0 n d).before a0 Z = true) (via : Via Z R0 O n d) (eT : T.heap = h) (F : Fld Z h a O n d old) (E : Exa Z h a C)
    (L : (Jvm.Cond.lays C O n d).before a0 Z = true ∨ ((Jvm.Cond.laysFinal C O n d).before a0 Z = true ∧ own = O ∧ nm = "<init>")) (wi : (Jvm.Cond.instantiable C kk).before a0 Z = true) (hty : parseFieldDescriptor d = some ty) (hn : narrow ty v = v') (hf : fits ty v' = true) (N : Fr n0 locs) (ge : n0 ≤ a)
    (hr : ∀ T' h' locs', Stand p l e R s m args below meth c T' locs' cells slots → T'.heap = h' → Wr h h' a (Jvm.RoadKit.slotOf Z O n d) v' → Fr n0 locs' → OGo p e below s n0 Q kc ks (T'.setTop (mkF m pc' Ls St))) : OGo p e below s n0 Q kc ks (T.setTop (mkF m pc Ls (v :: .ref a :: St))) := by
  subst hp
  obtain ⟨T', h', X', e', W', st'⟩ := putFN X K.hx K.hZ K.hown w via eT F E (L.imp id fun q => ⟨q.1, q.2.1, K.hnm.trans q.2.2⟩) wi hty hn hf (g := mkF m pc Ls (v :: .ref a :: St)) rfl rfl (hb K.hby hd)
  exact OGo.st st' (hr T' h' _ X' e' W' (Fr.snoc X' N ge))
theorem o_invokestatic (X : Stand p l e R s m args below meth c T locs cells slots) (K : OCx p s m meth c Z own nm bytes maxL ret) {index : Nat} {y : MethodName} {bytes' : ByteArray} {maxL' : Nat} {ret' : Option FieldType} {rm : Room} {Q' : Option Value → Heap → Prop} (hd : decode bytes pc = .ok (.invokestatic index, 3)) (pc' : Nat) (hp : pc + 3 = pc') (w1 : (Jvm.Cond.methodLink own index y).before a0 Z = true) (w2 : (Jvm.Cond.static y).before a0 Z = true) (w3 : (Jvm.Cond.initialized y.cls).before a0 Z = true) (w4 : (Jvm.Cond.code y bytes' maxL' ret').before a0 Z = true) (hy : y.cls ≠ "java/lang/invoke/MethodHandle" ∧ y.cls ≠ "java/lang/invoke/VarHandle")
    (argsL rest : List Value) (hst : St = argsL.reverse ++ rest) (con : OCon l Z n0 y bytes' maxL' ret' rm argsL.toArray h Q') (eT : T.heap = h) (hsz : Ls.size = maxL) (hlen : ∀ sig, parseMethodDescriptor y.desc = some sig → argsL.length = sig.parameters.length) (hf : rm.frames + 1 ≤ R.frames) (W : Nat) (hW : (rest.map fun v => v.category).sum ≤ W) (hlo : W + (maxL' + 11) + rm.locals ≤ R.locals) (hc : cells + rm.cells ≤ R.cells) (hs : slots + rm.slots ≤ R.slots) (N : Fr n0 locs)
    (hr : ∀ v T' h' locs', Stand p l e R s m args below meth c T' locs' (cells + rm.cells) (slots + rm.slots) → T'.heap = h' → Q' v h' → Fr n0 locs' → OGo p e below s n0 Q kc ks (T'.setTop (mkF m pc' Ls (v.toList ++ rest)))) : OGo p e below s n0 Q kc ks (T.setTop (mkF m pc Ls St)) := by
  subst hp hst
  obtain ⟨v, vm₁, ⟨T', L', k', n'⟩, -, X', ⟨Lc, ⟨hQ, hF⟩, l1, y1, z1⟩, st⟩ := Jvm.LawKit.callS X K.hx K.hown (mvT K.hZ w1) (mvT K.hZ w2) (mvT K.hZ w3) (mvT K.hZ w4) hy (backOf (W := W) (Q := fun v h L => Q' v h ∧ Fr n0 L) (con []) K.hZ w4 w3 hf hlo) (g := mkF m pc Ls (argsL.reverse ++ rest)) rfl (by rw [K.hml]; exact hsz) (argsL := argsL) (rest := rest) hlen rfl (by show 2 * 0 + _ ≤ _; omega) (hb K.hby hd) (fun _ _ => ⟨rfl, eT, hc, hs⟩)
  dsimp only [Pt.U, Pt.locs, Pt.cells, Pt.slots] at X' l1 y1 z1 st hQ
  subst l1 y1 z1
  exact OGo.st st (hr v T' _ _ X' rfl hQ (Fr.app N hF))
theorem o_invokespecial (X : Stand p l e R s m args below meth c T locs cells slots) (K : OCx p s m meth c Z own nm bytes maxL ret) {index : Nat} {y : MethodName} {bytes' : ByteArray} {maxL' : Nat} {rm : Room} {Q' : Option Value → Heap → Prop} {a : Addr} (hd : decode bytes pc = .ok (.invokespecial index, 3)) (pc' : Nat) (hp : pc + 3 = pc') (hy1 : y.name = "<init>") (w1 : (Jvm.Cond.methodLink own index y).before a0 Z = true) (w2 : (Jvm.Cond.instanceMethod y).before a0 Z = true) (w3 : (Jvm.Cond.initialized y.cls).before a0 Z = true) (w4 : (Jvm.Cond.code y bytes' maxL' none).before a0 Z = true) (hy : y.cls ≠ "java/lang/invoke/MethodHandle" ∧ y.cls ≠ "java/lang/invoke/VarHandle")
    (argsL rest : List Value) (hst : St = argsL.reverse ++ .ref a :: rest) (con : OCon l Z n0 y bytes' maxL' none rm (.ref a :: argsL).toArray h Q') (eT : T.heap = h) (hsz : Ls.size = maxL) (hlen : ∀ sig, parseMethodDescriptor y.desc = some sig → argsL.length = sig.parameters.length) (hf : rm.frames + 1 ≤ R.frames) (W : Nat) (hW : (rest.map fun v => v.category).sum ≤ W) (hlo : W + (maxL' + 11) + rm.locals ≤ R.locals) (hc : cells + rm.cells ≤ R.cells) (hs : slots + rm.slots ≤ R.slots) (N : Fr n0 locs)
    (hr : ∀ v T' h' locs', Stand p l e R s m args below meth c T' locs' (cells + rm.cells) (slots + rm.slots) → T'.heap = h' → Q' v h' → Fr n0 locs' → OGo p e below s n0 Q kc ks (T'.setTop (mkF m pc' Ls (v.toList ++ rest)))) : OGo p e below s n0 Q kc ks (T.setTop (mkF m pc Ls St)) := by
  subst hp hst
  obtain ⟨v, vm₁, ⟨T', L', k', n'⟩, -, X', ⟨Lc, ⟨hQ, hF⟩, l1, y1, z1⟩, st⟩ := X.specialBack K.hx hy1 K.hown (mvT K.hZ w1) (mvT K.hZ w2) (mvT K.hZ w4) hy (backOf (W := W) (Q := fun v h L => Q' v h ∧ Fr n0 L) (con []) K.hZ w4 w3 hf hlo) (g := mkF m pc Ls (argsL.reverse ++ .ref a :: rest)) rfl (by rw [K.hml]; exact hsz) (Steps.refl _) (argsL := argsL) (rest := rest) hlen rfl (by show 2 * 0 + _ ≤ _; omega) (hb K.hby hd) (fun _ _ => ⟨rfl, eT, hc, hs⟩)
  dsimp only [Pt.U, Pt.locs, Pt.cells, Pt.slots] at X' l1 y1 z1 st hQ
  subst l1 y1 z1
  exact OGo.st (fun t k => st.trans k) (hr v T' _ _ X' rfl hQ (Fr.app N hF))
theorem o_invokevirtual (X : Stand p l e R s m args below meth c T locs cells slots) (K : OCx p s m meth c Z own nm bytes maxL ret) {index : Nat} {y : MethodName} {bytes' : ByteArray} {maxL' : Nat} {ret' : Option FieldType} {rm : Room} {Q' : Option Value → Heap → Prop} {C : String} {a : Addr} (hd : decode bytes pc = .ok (.invokevirtual index, 3)) (pc' : Nat) (hp : pc + 3 = pc') (w1 : (Jvm.Cond.methodLink own index y).before a0 Z = true) (w2 : (Jvm.Cond.declares y).before a0 Z = true) (wsel : (Jvm.Cond.selects C y y).before a0 Z = true) (w5 : (Jvm.Cond.instanceMethod y).before a0 Z = true) (w3 : (Jvm.Cond.initialized y.cls).before a0 Z = true) (w4 : (Jvm.Cond.code y bytes' maxL' ret').before a0 Z = true) (hy : y.cls ≠ "java/lang/invoke/MethodHandle" ∧ y.cls ≠ "java/lang/invoke/VarHandle")
    (E : Exa Z h a C) (argsL rest : List Value) (hst : St = argsL.reverse ++ .ref a :: rest) (con : OCon l Z n0 y bytes' maxL' ret' rm (.ref a :: argsL).toArray h Q') (eT : T.heap = h) (hsz : Ls.size = maxL) (hlen : ∀ sig, parseMethodDescriptor y.desc = some sig → argsL.length = sig.parameters.length) (hf : rm.frames + 1 ≤ R.frames) (W : Nat) (hW : (rest.map fun v => v.category).sum ≤ W) (hlo : W + (maxL' + 11) + rm.locals ≤ R.locals) (hc : cells + rm.cells ≤ R.cells) (hs : slots + rm.slots ≤ R.slots) (N : Fr n0 locs)
    (hr : ∀ v T' h' locs', Stand p l e R s m args below meth c T' locs' (cells + rm.cells) (slots + rm.slots) → T'.heap = h' → Q' v h' → Fr n0 locs' → OGo p e below s n0 Q kc ks (T'.setTop (mkF m pc' Ls (v.toList ++ rest)))) : OGo p e below s n0 Q kc ks (T.setTop (mkF m pc Ls St)) := by
  subst hp hst
  obtain ⟨cq, kq, qa, qb, qc⟩ := isOf K.hZ eT E
  obtain ⟨v, vm₁, ⟨T', L', k', n'⟩, -, X', ⟨Lc, ⟨hQ, hF⟩, l1, y1, z1⟩, st⟩ := X.virtualBack K.hx K.hown (mvT K.hZ w1) (mvT K.hZ w2) (notFace_of_selects (args := #[]) (mvT K.hZ wsel)) (mvT K.hZ wsel) (mvT K.hZ w5) hy (backOf (W := W) (Q := fun v h L => Q' v h ∧ Fr n0 L) (con []) K.hZ w4 w3 hf hlo) qa qc (g := mkF m pc Ls (argsL.reverse ++ .ref a :: rest)) rfl (by rw [K.hml]; exact hsz) (Steps.refl _) (argsL := argsL) (rest := rest) hlen rfl (by show 2 * 0 + _ ≤ _; omega) (hb K.hby hd) (fun _ _ => ⟨rfl, eT, hc, hs⟩)
  dsimp only [Pt.U, Pt.locs, Pt.cells, Pt.slots] at X' l1 y1 z1 st hQ
  subst l1 y1 z1
  exact OGo.st (fun t k => st.trans k) (hr v T' _ _ X' rfl hQ (Fr.app N hF))
theorem o_nb (x : Int32) : nar .byte (x.toInt8.toInt32) = x.toInt8.toInt32 := by
  show x.toInt8.toInt32.toInt8.toInt32 = _
  simp
theorem o_join {α : Type} (F : α → State) (P : α → Prop) {S : State} (hgo : (∀ b, P b → OGo p e below s n0 Q kc ks (F b)) → OGo p e below s n0 Q kc ks S) (hrest : ∀ b, P b → OGo p e below s n0 Q kc ks (F b)) : OGo p e below s n0 Q kc ks S := hgo hrest
theorem o_ind {α : Type} (F : α → State) (Inv : Nat → α → Prop) (hz : ∀ a, Inv 0 a → OGo p e below s n0 Q kc ks (F a)) (hs : ∀ d, (∀ a, Inv d a → OGo p e below s n0 Q kc ks (F a)) → ∀ a, Inv (d + 1) a → OGo p e below s n0 Q kc ks (F a)) (d : Nat) (a : α) (i : Inv d a) : OGo p e below s n0 Q kc ks (F a) := by
  induction d generalizing a with
  | zero => exact hz a i
  | succ d ih => exact hs d ih a i
theorem o_sta_keep {C n d : String} {v : Value} {ws : List Addr} (F : Sta Z h C n d v) (k : Keep h h' ws) (q : ∀ x ∈ ws, ∀ cell : Cell, h[x]? = some cell → cell.vm.isStatics = false) : Sta Z h' C n d v := by
  obtain ⟨cf, i, kk, f, st, cell, h1, h2, h3, h4, h5, h6, h7⟩ := F
  refine ⟨cf, i, kk, f, st, cell, h1, h2, h3, h4, k.2.1 _ _ h5 (fun z => ?_), h6, h7⟩
  rw [q st z cell h5] at h6
  cases h6
abbrev OW (Z : State) (a0 : Array Value) : Prop := ∀ d ∈ tables_1, d.before a0 Z = true
end Own
set_option maxRecDepth 65536
theorem w_0 {Z : State} {a0 : Array Value} (hw : OW Z a0) : (Jvm.Cond.arrayClass Jvm.ClassFile.FieldType.byte).before a0 Z = true := hw _ (List.mem_of_getElem? (i := 0) rfl)
theorem w_1 {Z : State} {a0 : Array Value} (hw : OW Z a0) : (Jvm.Cond.constant "com/example/vikt/vikt/graph/LinkListReaderIsUtf8PinLaw" (7 : Nat) (2147483647 : Int32)).before a0 Z = true := hw _ (List.mem_of_getElem? (i := 1) rfl)
theorem w_2 {Z : State} {a0 : Array Value} (hw : OW Z a0) : (Jvm.Cond.methodLink "com/example/vikt/vikt/graph/LinkListReaderIsUtf8PinLaw" (8 : Nat) ({ cls := "com/example/vikt/vikt/graph/LinkListReaderIsUtf8PinLaw", name := "next", desc := "([BII)I" } : Jvm.MethodName)).before a0 Z = true := hw _ (List.mem_of_getElem? (i := 2) rfl)
theorem w_3 {Z : State} {a0 : Array Value} (hw : OW Z a0) : (Jvm.Cond.static ({ cls := "com/example/vikt/vikt/graph/LinkListReaderIsUtf8PinLaw", name := "next", desc := "([BII)I" } : Jvm.MethodName)).before a0 Z = true := hw _ (List.mem_of_getElem? (i := 3) rfl)
theorem w_4 {Z : State} {a0 : Array Value} (hw : OW Z a0) : (Jvm.Cond.initialized "com/example/vikt/vikt/graph/LinkListReaderIsUtf8PinLaw").before a0 Z = true := hw _ (List.mem_of_getElem? (i := 4) rfl)
theorem w_5 {Z : State} {a0 : Array Value} (hw : OW Z a0) : (Jvm.Cond.code ({ cls := "com/example/vikt/vikt/graph/LinkListReaderIsUtf8PinLaw", name := "next", desc := "([BII)I" } : Jvm.MethodName) method_3_code (4 : Nat) (Option.some Jvm.ClassFile.FieldType.int)).before a0 Z = true := hw _ (List.mem_of_getElem? (i := 5) rfl)
theorem w_6 {Z : State} {a0 : Array Value} (hw : OW Z a0) : (Jvm.Cond.methodLink "com/example/vikt/vikt/graph/LinkListReaderIsUtf8PinLaw" (20 : Nat) ({ cls := "com/example/vikt/vikt/graph/LinkListReaderIsUtf8PinLaw", name := "seq", desc := "([BII)I" } : Jvm.MethodName)).before a0 Z = true := hw _ (List.mem_of_getElem? (i := 6) rfl)
theorem w_7 {Z : State} {a0 : Array Value} (hw : OW Z a0) : (Jvm.Cond.static ({ cls := "com/example/vikt/vikt/graph/LinkListReaderIsUtf8PinLaw", name := "seq", desc := "([BII)I" } : Jvm.MethodName)).before a0 Z = true := hw _ (List.mem_of_getElem? (i := 7) rfl)
theorem w_8 {Z : State} {a0 : Array Value} (hw : OW Z a0) : (Jvm.Cond.code ({ cls := "com/example/vikt/vikt/graph/LinkListReaderIsUtf8PinLaw", name := "seq", desc := "([BII)I" } : Jvm.MethodName) method_4_code (8 : Nat) (Option.some Jvm.ClassFile.FieldType.int)).before a0 Z = true := hw _ (List.mem_of_getElem? (i := 8) rfl)
theorem w_9 {Z : State} {a0 : Array Value} (hw : OW Z a0) : (Jvm.Cond.methodLink "com/example/vikt/vikt/graph/LinkListReaderIsUtf8PinLaw" (14 : Nat) ({ cls := "com/example/vikt/vikt/graph/LinkListReader", name := "isUtf8", desc := "([BII)Z" } : Jvm.MethodName)).before a0 Z = true := hw _ (List.mem_of_getElem? (i := 9) rfl)
theorem w_10 {Z : State} {a0 : Array Value} (hw : OW Z a0) : (Jvm.Cond.static ({ cls := "com/example/vikt/vikt/graph/LinkListReader", name := "isUtf8", desc := "([BII)Z" } : Jvm.MethodName)).before a0 Z = true := hw _ (List.mem_of_getElem? (i := 10) rfl)
theorem w_11 {Z : State} {a0 : Array Value} (hw : OW Z a0) : (Jvm.Cond.initialized "com/example/vikt/vikt/graph/LinkListReader").before a0 Z = true := hw _ (List.mem_of_getElem? (i := 11) rfl)
theorem w_12 {Z : State} {a0 : Array Value} (hw : OW Z a0) : (Jvm.Cond.code ({ cls := "com/example/vikt/vikt/graph/LinkListReader", name := "isUtf8", desc := "([BII)Z" } : Jvm.MethodName) prog_6_method_3_code (10 : Nat) (Option.some Jvm.ClassFile.FieldType.boolean)).before a0 Z = true := hw _ (List.mem_of_getElem? (i := 12) rfl)
theorem w_13 {Z : State} {a0 : Array Value} (hw : OW Z a0) : (Jvm.Cond.constant "com/example/vikt/vikt/graph/LinkListReaderIsUtf8PinLaw" (23 : Nat) (55296 : Int32)).before a0 Z = true := hw _ (List.mem_of_getElem? (i := 13) rfl)
theorem w_14 {Z : State} {a0 : Array Value} (hw : OW Z a0) : (Jvm.Cond.constant "com/example/vikt/vikt/graph/LinkListReaderIsUtf8PinLaw" (24 : Nat) (57343 : Int32)).before a0 Z = true := hw _ (List.mem_of_getElem? (i := 14) rfl)
theorem w_15 {Z : State} {a0 : Array Value} (hw : OW Z a0) : (Jvm.Cond.constant "com/example/vikt/vikt/graph/LinkListReaderIsUtf8PinLaw" (25 : Nat) (65536 : Int32)).before a0 Z = true := hw _ (List.mem_of_getElem? (i := 15) rfl)
theorem w_16 {Z : State} {a0 : Array Value} (hw : OW Z a0) : (Jvm.Cond.constant "com/example/vikt/vikt/graph/LinkListReaderIsUtf8PinLaw" (26 : Nat) (1114111 : Int32)).before a0 Z = true := hw _ (List.mem_of_getElem? (i := 16) rfl)
def own_len (b0 b1 b2 b3 av : Int) : Int :=
  if 194 ≤ b0 ∧ b0 ≤ 223 ∧ 2 ≤ av ∧ 128 ≤ b1 ∧ b1 ≤ 191 then 2
  else if 224 ≤ b0 ∧ b0 ≤ 239 ∧ 3 ≤ av ∧ 128 ≤ b1 ∧ b1 ≤ 191 ∧ (b0 = 224 → 160 ≤ b1) ∧ (b0 = 237 → b1 ≤ 159) ∧ 128 ≤ b2 ∧ b2 ≤ 191 then 3
  else if 240 ≤ b0 ∧ b0 ≤ 244 ∧ 4 ≤ av ∧ 128 ≤ b1 ∧ b1 ≤ 191 ∧ (b0 = 240 → 144 ≤ b1) ∧ (b0 = 244 → b1 ≤ 143) ∧ 128 ≤ b2 ∧ b2 ≤ 191 ∧ 128 ≤ b3 ∧ b3 ≤ 191 then 4 else 0
def own_sq (b0 b1 b2 b3 av : Int) : Int := if b0 < 128 then 1 else own_len b0 b1 b2 b3 av
theorem own_sq_r (b0 b1 b2 b3 av : Int) (h : 1 ≤ av) : 0 ≤ own_sq b0 b1 b2 b3 av ∧ own_sq b0 b1 b2 b3 av ≤ 4 ∧ own_sq b0 b1 b2 b3 av ≤ av := by
  simp only [own_sq, own_len]
  repeat' split
  all_goals omega
def own_at (g : Nat → Int32) (to i : Int) : Int := own_sq (g i.toNat &&& 255).toInt (g (i.toNat + 1) &&& 255).toInt (g (i.toNat + 2) &&& 255).toInt (g (i.toNat + 3) &&& 255).toInt (to - i)
def own_next (g : Nat → Int32) (to i : Int) : Int := if i < 0 ∨ to ≤ i then i else if own_at g to i = 0 then -1 else i + own_at g to i
def own_it (g : Nat → Int32) (to : Int) : Nat → Int → Int
  | 0, i => i
  | d + 1, i => own_it g to d (own_next g to i)
theorem own_it_fix (g : Nat → Int32) (to : Int) : ∀ d i, (i < 0 ∨ to ≤ i) → own_it g to d i = i := by
  intro d
  induction d with
  | zero => intro i h; rfl
  | succ d ih => intro i h; rw [own_it, own_next, if_pos h]; exact ih i h
theorem own_m256 : ∀ k : Fin 256, (Int32.ofInt (k.1 : Int) &&& 192 = 128 ↔ (128 ≤ k.1 ∧ k.1 ≤ 191)) ∧ (Int32.ofInt (k.1 : Int) &&& 224 = 192 ↔ (192 ≤ k.1 ∧ k.1 ≤ 223)) ∧ (Int32.ofInt (k.1 : Int) &&& 240 = 224 ↔ (224 ≤ k.1 ∧ k.1 ≤ 239)) ∧ (Int32.ofInt (k.1 : Int) &&& 248 = 240 ↔ (240 ≤ k.1 ∧ k.1 ≤ 247)) := by decide +kernel
theorem own_msk {b : Int32} (h : 0 ≤ b.toInt ∧ b.toInt ≤ 255) : (b &&& 192 = 128 ↔ (128 ≤ b.toInt ∧ b.toInt ≤ 191)) ∧ (b &&& 224 = 192 ↔ (192 ≤ b.toInt ∧ b.toInt ≤ 223)) ∧ (b &&& 240 = 224 ↔ (224 ≤ b.toInt ∧ b.toInt ≤ 239)) ∧ (b &&& 248 = 240 ↔ (240 ≤ b.toInt ∧ b.toInt ≤ 247)) := by
  have q := own_m256 ⟨b.toInt.toNat, by omega⟩
  have e : Int32.ofInt ((b.toInt.toNat : Nat) : Int) = b := by
    rw [show ((b.toInt.toNat : Nat) : Int) = b.toInt from by omega]
    exact Int32.ofInt_toInt b
  simp only [e] at q
  refine ⟨q.1.trans (by omega), q.2.1.trans (by omega), q.2.2.1.trans (by omega), q.2.2.2.trans (by omega)⟩
theorem own_s256 : ∀ k : Fin 256, (Int32.ofInt ((k.1 : Int) - 128) &&& 192 = 128 ↔ (128 ≤ (Int32.ofInt ((k.1 : Int) - 128) &&& 255).toInt ∧ (Int32.ofInt ((k.1 : Int) - 128) &&& 255).toInt ≤ 191)) := by decide +kernel
theorem own_contS {b : Int32} (h : fits .byte (.int b) = true) : b &&& 192 = 128 ↔ (128 ≤ (b &&& 255).toInt ∧ (b &&& 255).toInt ≤ 191) := by
  have r := rng_byte h
  simp only [Int32.lt_iff_toInt_lt] at r
  have q1 : (-128 : Int32).toInt = -128 := rfl
  have q2 : (127 : Int32).toInt = 127 := rfl
  have q := own_s256 ⟨(b.toInt + 128).toNat, by omega⟩
  have e : Int32.ofInt ((((b.toInt + 128).toNat : Nat) : Int) - 128) = b := by
    rw [show ((((b.toInt + 128).toNat : Nat) : Int) - 128) = b.toInt from by omega]
    exact Int32.ofInt_toInt b
  simp only [e] at q
  exact q
theorem own_m63 (b : Int32) : (b &&& 63).toInt = b.toInt % 64 := c_mask b 63 6 (by decide) (by decide)
theorem own_m31 (b : Int32) : (b &&& 31).toInt = b.toInt % 32 := c_mask b 31 5 (by decide) (by decide)
theorem own_m15 (b : Int32) : (b &&& 15).toInt = b.toInt % 16 := c_mask b 15 4 (by decide) (by decide)
theorem own_m7 (b : Int32) : (b &&& 7).toInt = b.toInt % 8 := c_mask b 7 3 (by decide) (by decide)
theorem own_m255 (b : Int32) : (b &&& 255).toInt = b.toInt % 256 := c_mask b 255 8 (by decide) (by decide)
theorem own_acc (x y : Int32) (h : 0 ≤ x.toInt ∧ x.toInt < 1048576) : ((x <<< ((6 : Int32) &&& 31)) ||| (y &&& 63)).toInt = x.toInt * 64 + y.toInt % 64 := by
  have q := c_ishl x 6 6 (by decide)
  have r := rng32 (x <<< ((6 : Int32) &&& 31))
  have q2 := own_m63 y
  have q3 : (x <<< ((6 : Int32) &&& 31)).toInt = x.toInt * 64 := by omega
  have q4 := c_or (x <<< ((6 : Int32) &&& 31)) (y &&& 63) 6 (by decide) 64 (by decide) (by omega) (by omega) (by omega)
  have r4 := rng32 ((x <<< ((6 : Int32) &&& 31)) ||| (y &&& 63))
  omega
def own_g (b0 b1 b2 b3 b4 b5 : Int32) : Nat → Int32
  | 0 => b0 | 1 => b1 | 2 => b2 | 3 => b3 | 4 => b4 | _ => b5
theorem d2_0 : decode method_4_code 0 = .ok (.aload_n 0, 1) := by decide +kernel
theorem d2_1 : decode method_4_code 1 = .ok (.iload_n 1, 1) := by decide +kernel
theorem d2_2 : decode method_4_code 2 = .ok (.baload, 1) := by decide +kernel
theorem d2_3 : decode method_4_code 3 = .ok (.sipush 255, 3) := by decide +kernel
theorem d2_6 : decode method_4_code 6 = .ok (.iand, 1) := by decide +kernel
theorem d2_7 : decode method_4_code 7 = .ok (.istore_n 3, 1) := by decide +kernel
theorem d2_8 : decode method_4_code 8 = .ok (.iload_n 3, 1) := by decide +kernel
theorem d2_9 : decode method_4_code 9 = .ok (.sipush 128, 3) := by decide +kernel
theorem d2_12 : decode method_4_code 12 = .ok (.if_icmp .ge 5, 3) := by decide +kernel
theorem d2_17 : decode method_4_code 17 = .ok (.iload_n 3, 1) := by decide +kernel
theorem d2_18 : decode method_4_code 18 = .ok (.sipush 224, 3) := by decide +kernel
theorem d2_21 : decode method_4_code 21 = .ok (.iand, 1) := by decide +kernel
theorem d2_22 : decode method_4_code 22 = .ok (.sipush 192, 3) := by decide +kernel
theorem d2_25 : decode method_4_code 25 = .ok (.if_icmp .ne 15, 3) := by decide +kernel
theorem d2_40 : decode method_4_code 40 = .ok (.iload_n 3, 1) := by decide +kernel
theorem d2_41 : decode method_4_code 41 = .ok (.sipush 240, 3) := by decide +kernel
theorem d2_44 : decode method_4_code 44 = .ok (.iand, 1) := by decide +kernel
theorem d2_45 : decode method_4_code 45 = .ok (.sipush 224, 3) := by decide +kernel
theorem d2_48 : decode method_4_code 48 = .ok (.if_icmp .ne 15, 3) := by decide +kernel
theorem d2_63 : decode method_4_code 63 = .ok (.iload_n 3, 1) := by decide +kernel
theorem d2_64 : decode method_4_code 64 = .ok (.sipush 248, 3) := by decide +kernel
theorem d2_67 : decode method_4_code 67 = .ok (.iand, 1) := by decide +kernel
theorem d2_68 : decode method_4_code 68 = .ok (.sipush 240, 3) := by decide +kernel
theorem d2_71 : decode method_4_code 71 = .ok (.if_icmp .ne 15, 3) := by decide +kernel
theorem d2_86 : decode method_4_code 86 = .ok (.iconst 0, 1) := by decide +kernel
theorem d2_87 : decode method_4_code 87 = .ok (.ireturn, 1) := by decide +kernel
theorem d2_74 : decode method_4_code 74 = .ok (.iconst 4, 1) := by decide +kernel
theorem d2_75 : decode method_4_code 75 = .ok (.istore 4, 2) := by decide +kernel
theorem d2_77 : decode method_4_code 77 = .ok (.iload_n 3, 1) := by decide +kernel
theorem d2_78 : decode method_4_code 78 = .ok (.bipush 7, 2) := by decide +kernel
theorem d2_80 : decode method_4_code 80 = .ok (.iand, 1) := by decide +kernel
theorem d2_81 : decode method_4_code 81 = .ok (.istore 5, 2) := by decide +kernel
theorem d2_83 : decode method_4_code 83 = .ok (.goto 5, 3) := by decide +kernel
theorem d2_88 : decode method_4_code 88 = .ok (.iload_n 2, 1) := by decide +kernel
theorem d2_89 : decode method_4_code 89 = .ok (.iload_n 1, 1) := by decide +kernel
theorem d2_90 : decode method_4_code 90 = .ok (.isub, 1) := by decide +kernel
theorem d2_91 : decode method_4_code 91 = .ok (.iload 4, 2) := by decide +kernel
theorem d2_93 : decode method_4_code 93 = .ok (.if_icmp .ge 5, 3) := by decide +kernel
theorem d2_98 : decode method_4_code 98 = .ok (.aload_n 0, 1) := by decide +kernel
theorem d2_99 : decode method_4_code 99 = .ok (.iload_n 1, 1) := by decide +kernel
theorem d2_100 : decode method_4_code 100 = .ok (.iconst 1, 1) := by decide +kernel
theorem d2_101 : decode method_4_code 101 = .ok (.iadd, 1) := by decide +kernel
theorem d2_102 : decode method_4_code 102 = .ok (.baload, 1) := by decide +kernel
theorem d2_103 : decode method_4_code 103 = .ok (.sipush 255, 3) := by decide +kernel
theorem d2_106 : decode method_4_code 106 = .ok (.iand, 1) := by decide +kernel
theorem d2_107 : decode method_4_code 107 = .ok (.istore 6, 2) := by decide +kernel
theorem d2_109 : decode method_4_code 109 = .ok (.iload 6, 2) := by decide +kernel
theorem d2_111 : decode method_4_code 111 = .ok (.sipush 192, 3) := by decide +kernel
theorem d2_114 : decode method_4_code 114 = .ok (.iand, 1) := by decide +kernel
theorem d2_115 : decode method_4_code 115 = .ok (.sipush 128, 3) := by decide +kernel
theorem d2_118 : decode method_4_code 118 = .ok (.if_icmp .eq 5, 3) := by decide +kernel
theorem d2_123 : decode method_4_code 123 = .ok (.iload 5, 2) := by decide +kernel
theorem d2_125 : decode method_4_code 125 = .ok (.bipush 6, 2) := by decide +kernel
theorem d2_127 : decode method_4_code 127 = .ok (.ishl, 1) := by decide +kernel
theorem d2_128 : decode method_4_code 128 = .ok (.iload 6, 2) := by decide +kernel
theorem d2_130 : decode method_4_code 130 = .ok (.bipush 63, 2) := by decide +kernel
theorem d2_132 : decode method_4_code 132 = .ok (.iand, 1) := by decide +kernel
theorem d2_133 : decode method_4_code 133 = .ok (.ior, 1) := by decide +kernel
theorem d2_134 : decode method_4_code 134 = .ok (.istore 5, 2) := by decide +kernel
theorem d2_136 : decode method_4_code 136 = .ok (.iload 4, 2) := by decide +kernel
theorem d2_138 : decode method_4_code 138 = .ok (.iconst 3, 1) := by decide +kernel
theorem d2_139 : decode method_4_code 139 = .ok (.if_icmp .lt 41, 3) := by decide +kernel
theorem d2_142 : decode method_4_code 142 = .ok (.aload_n 0, 1) := by decide +kernel
theorem d2_143 : decode method_4_code 143 = .ok (.iload_n 1, 1) := by decide +kernel
theorem d2_144 : decode method_4_code 144 = .ok (.iconst 2, 1) := by decide +kernel
theorem d2_145 : decode method_4_code 145 = .ok (.iadd, 1) := by decide +kernel
theorem d2_146 : decode method_4_code 146 = .ok (.baload, 1) := by decide +kernel
theorem d2_147 : decode method_4_code 147 = .ok (.sipush 255, 3) := by decide +kernel
theorem d2_150 : decode method_4_code 150 = .ok (.iand, 1) := by decide +kernel
theorem d2_151 : decode method_4_code 151 = .ok (.istore 7, 2) := by decide +kernel
theorem d2_153 : decode method_4_code 153 = .ok (.iload 7, 2) := by decide +kernel
theorem d2_155 : decode method_4_code 155 = .ok (.sipush 192, 3) := by decide +kernel
theorem d2_158 : decode method_4_code 158 = .ok (.iand, 1) := by decide +kernel
theorem d2_159 : decode method_4_code 159 = .ok (.sipush 128, 3) := by decide +kernel
theorem d2_162 : decode method_4_code 162 = .ok (.if_icmp .eq 5, 3) := by decide +kernel
theorem d2_167 : decode method_4_code 167 = .ok (.iload 5, 2) := by decide +kernel
theorem d2_169 : decode method_4_code 169 = .ok (.bipush 6, 2) := by decide +kernel
theorem d2_171 : decode method_4_code 171 = .ok (.ishl, 1) := by decide +kernel
theorem d2_172 : decode method_4_code 172 = .ok (.iload 7, 2) := by decide +kernel
theorem d2_174 : decode method_4_code 174 = .ok (.bipush 63, 2) := by decide +kernel
theorem d2_176 : decode method_4_code 176 = .ok (.iand, 1) := by decide +kernel
theorem d2_177 : decode method_4_code 177 = .ok (.ior, 1) := by decide +kernel
theorem d2_178 : decode method_4_code 178 = .ok (.istore 5, 2) := by decide +kernel
theorem d2_180 : decode method_4_code 180 = .ok (.iload 4, 2) := by decide +kernel
theorem d2_182 : decode method_4_code 182 = .ok (.iconst 4, 1) := by decide +kernel
theorem d2_183 : decode method_4_code 183 = .ok (.if_icmp .ne 41, 3) := by decide +kernel
theorem d2_186 : decode method_4_code 186 = .ok (.aload_n 0, 1) := by decide +kernel
theorem d2_187 : decode method_4_code 187 = .ok (.iload_n 1, 1) := by decide +kernel
theorem d2_188 : decode method_4_code 188 = .ok (.iconst 3, 1) := by decide +kernel
theorem d2_189 : decode method_4_code 189 = .ok (.iadd, 1) := by decide +kernel
theorem d2_190 : decode method_4_code 190 = .ok (.baload, 1) := by decide +kernel
theorem d2_191 : decode method_4_code 191 = .ok (.sipush 255, 3) := by decide +kernel
theorem d2_194 : decode method_4_code 194 = .ok (.iand, 1) := by decide +kernel
theorem d2_195 : decode method_4_code 195 = .ok (.istore 7, 2) := by decide +kernel
theorem d2_197 : decode method_4_code 197 = .ok (.iload 7, 2) := by decide +kernel
theorem d2_199 : decode method_4_code 199 = .ok (.sipush 192, 3) := by decide +kernel
theorem d2_202 : decode method_4_code 202 = .ok (.iand, 1) := by decide +kernel
theorem d2_203 : decode method_4_code 203 = .ok (.sipush 128, 3) := by decide +kernel
theorem d2_206 : decode method_4_code 206 = .ok (.if_icmp .eq 5, 3) := by decide +kernel
theorem d2_211 : decode method_4_code 211 = .ok (.iload 5, 2) := by decide +kernel
theorem d2_213 : decode method_4_code 213 = .ok (.bipush 6, 2) := by decide +kernel
theorem d2_215 : decode method_4_code 215 = .ok (.ishl, 1) := by decide +kernel
theorem d2_216 : decode method_4_code 216 = .ok (.iload 7, 2) := by decide +kernel
theorem d2_218 : decode method_4_code 218 = .ok (.bipush 63, 2) := by decide +kernel
theorem d2_220 : decode method_4_code 220 = .ok (.iand, 1) := by decide +kernel
theorem d2_221 : decode method_4_code 221 = .ok (.ior, 1) := by decide +kernel
theorem d2_222 : decode method_4_code 222 = .ok (.istore 5, 2) := by decide +kernel
theorem d2_224 : decode method_4_code 224 = .ok (.iload 4, 2) := by decide +kernel
theorem d2_226 : decode method_4_code 226 = .ok (.iconst 2, 1) := by decide +kernel
theorem d2_227 : decode method_4_code 227 = .ok (.if_icmp .ne 17, 3) := by decide +kernel
theorem d2_244 : decode method_4_code 244 = .ok (.iload 4, 2) := by decide +kernel
theorem d2_246 : decode method_4_code 246 = .ok (.iconst 3, 1) := by decide +kernel
theorem d2_247 : decode method_4_code 247 = .ok (.if_icmp .ne 31, 3) := by decide +kernel
theorem d2_278 : decode method_4_code 278 = .ok (.iload 5, 2) := by decide +kernel
theorem d2_280 : decode method_4_code 280 = .ok (.ldc 25, 2) := by decide +kernel
theorem d2_282 : decode method_4_code 282 = .ok (.if_icmp .lt 10, 3) := by decide +kernel
theorem d2_292 : decode method_4_code 292 = .ok (.iconst 0, 1) := by decide +kernel
theorem d2_293 : decode method_4_code 293 = .ok (.ireturn, 1) := by decide +kernel
theorem d2_285 : decode method_4_code 285 = .ok (.iload 5, 2) := by decide +kernel
theorem d2_287 : decode method_4_code 287 = .ok (.ldc 26, 2) := by decide +kernel
theorem d2_289 : decode method_4_code 289 = .ok (.if_icmp .le 5, 3) := by decide +kernel
theorem d2_294 : decode method_4_code 294 = .ok (.iconst 4, 1) := by decide +kernel
theorem d2_295 : decode method_4_code 295 = .ok (.ireturn, 1) := by decide +kernel
theorem d2_209 : decode method_4_code 209 = .ok (.iconst 0, 1) := by decide +kernel
theorem d2_210 : decode method_4_code 210 = .ok (.ireturn, 1) := by decide +kernel
theorem d2_165 : decode method_4_code 165 = .ok (.iconst 0, 1) := by decide +kernel
theorem d2_166 : decode method_4_code 166 = .ok (.ireturn, 1) := by decide +kernel
theorem d2_121 : decode method_4_code 121 = .ok (.iconst 0, 1) := by decide +kernel
theorem d2_122 : decode method_4_code 122 = .ok (.ireturn, 1) := by decide +kernel
theorem d2_96 : decode method_4_code 96 = .ok (.iconst 0, 1) := by decide +kernel
theorem d2_97 : decode method_4_code 97 = .ok (.ireturn, 1) := by decide +kernel
theorem d2_51 : decode method_4_code 51 = .ok (.iconst 3, 1) := by decide +kernel
theorem d2_52 : decode method_4_code 52 = .ok (.istore 4, 2) := by decide +kernel
theorem d2_54 : decode method_4_code 54 = .ok (.iload_n 3, 1) := by decide +kernel
theorem d2_55 : decode method_4_code 55 = .ok (.bipush 15, 2) := by decide +kernel
theorem d2_57 : decode method_4_code 57 = .ok (.iand, 1) := by decide +kernel
theorem d2_58 : decode method_4_code 58 = .ok (.istore 5, 2) := by decide +kernel
theorem d2_60 : decode method_4_code 60 = .ok (.goto 28, 3) := by decide +kernel
theorem d2_250 : decode method_4_code 250 = .ok (.iload 5, 2) := by decide +kernel
theorem d2_252 : decode method_4_code 252 = .ok (.sipush 2048, 3) := by decide +kernel
theorem d2_255 : decode method_4_code 255 = .ok (.if_icmp .ge 5, 3) := by decide +kernel
theorem d2_260 : decode method_4_code 260 = .ok (.iload 5, 2) := by decide +kernel
theorem d2_262 : decode method_4_code 262 = .ok (.ldc 23, 2) := by decide +kernel
theorem d2_264 : decode method_4_code 264 = .ok (.if_icmp .lt 12, 3) := by decide +kernel
theorem d2_276 : decode method_4_code 276 = .ok (.iconst 3, 1) := by decide +kernel
theorem d2_277 : decode method_4_code 277 = .ok (.ireturn, 1) := by decide +kernel
theorem d2_267 : decode method_4_code 267 = .ok (.iload 5, 2) := by decide +kernel
theorem d2_269 : decode method_4_code 269 = .ok (.ldc 24, 2) := by decide +kernel
theorem d2_271 : decode method_4_code 271 = .ok (.if_icmp .gt 5, 3) := by decide +kernel
theorem d2_274 : decode method_4_code 274 = .ok (.iconst 0, 1) := by decide +kernel
theorem d2_275 : decode method_4_code 275 = .ok (.ireturn, 1) := by decide +kernel
theorem d2_258 : decode method_4_code 258 = .ok (.iconst 0, 1) := by decide +kernel
theorem d2_259 : decode method_4_code 259 = .ok (.ireturn, 1) := by decide +kernel
theorem d2_28 : decode method_4_code 28 = .ok (.iconst 2, 1) := by decide +kernel
theorem d2_29 : decode method_4_code 29 = .ok (.istore 4, 2) := by decide +kernel
theorem d2_31 : decode method_4_code 31 = .ok (.iload_n 3, 1) := by decide +kernel
theorem d2_32 : decode method_4_code 32 = .ok (.bipush 31, 2) := by decide +kernel
theorem d2_34 : decode method_4_code 34 = .ok (.iand, 1) := by decide +kernel
theorem d2_35 : decode method_4_code 35 = .ok (.istore 5, 2) := by decide +kernel
theorem d2_37 : decode method_4_code 37 = .ok (.goto 51, 3) := by decide +kernel
theorem d2_230 : decode method_4_code 230 = .ok (.iload 5, 2) := by decide +kernel
theorem d2_232 : decode method_4_code 232 = .ok (.sipush 128, 3) := by decide +kernel
theorem d2_235 : decode method_4_code 235 = .ok (.if_icmp .lt 7, 3) := by decide +kernel
theorem d2_242 : decode method_4_code 242 = .ok (.iconst 0, 1) := by decide +kernel
theorem d2_243 : decode method_4_code 243 = .ok (.ireturn, 1) := by decide +kernel
theorem d2_238 : decode method_4_code 238 = .ok (.iconst 2, 1) := by decide +kernel
theorem d2_239 : decode method_4_code 239 = .ok (.goto 4, 3) := by decide +kernel
theorem d2_15 : decode method_4_code 15 = .ok (.iconst 1, 1) := by decide +kernel
theorem d2_16 : decode method_4_code 16 = .ok (.ireturn, 1) := by decide +kernel
theorem pn_2 : plainFor (⟨"com/example/vikt/vikt/graph/LinkListReaderIsUtf8PinLaw", "seq", "([BII)I"⟩ : MethodName) = true := plainFor_of_name (by first | (simp [plainName, overriddenIn]; done) | decide +kernel)
set_option maxHeartbeats 4000000 in
theorem c_seq (l : Launch) (Z : State) (a0 : Array Value) (hw : OW Z a0) (n0 : Nat) (a : Addr) (g : Nat → Int32) (i to : Int32) (h0 : Heap) (Z0 : n0 ≤ h0.size) (A_a : OAr Z h0 a .byte 6 (fun j => .int (g j))) (hi : 0 ≤ i.toInt ∧ i.toInt < to.toInt ∧ to.toInt ≤ 6) :
    OCon l Z n0 (⟨"com/example/vikt/vikt/graph/LinkListReaderIsUtf8PinLaw", "seq", "([BII)I"⟩ : MethodName) method_4_code 8 (some .int) ({ frames := 0, cells := 0, slots := 0, locals := 0 } : Room) #[(.ref a), (.int i), (.int to)] h0 (fun v h => ∃ r : Int32, v = some (.int r) ∧ r.toInt = own_at g to.toInt i.toInt ∧ h = h0) := by
  refine OCon.of (Ls := #[.val (.ref a), .val (.int i), .val (.int to), .unset, .unset, .unset, .unset, .unset]) pn_2 rfl rfl (fun m => by first | (simp [entryFrame, mkF, argsToLocals, Value.category]; done) | rfl) ?_
  intro p e s m below meth c T0 X0 K e0
  have N0 := Fr.nil n0
  have l0 : (0 : Int32).toInt = 0 := rfl
  have l1 : (1 : Int32).toInt = 1 := rfl
  have l2 : (2 : Int32).toInt = 2 := rfl
  have l3 : (3 : Int32).toInt = 3 := rfl
  have l4 : (4 : Int32).toInt = 4 := rfl
  have l6 : (6 : Int32).toInt = 6 := rfl
  have l7 : (7 : Int32).toInt = 7 := rfl
  have l15 : (15 : Int32).toInt = 15 := rfl
  have l31 : (31 : Int32).toInt = 31 := rfl
  have l63 : (63 : Int32).toInt = 63 := rfl
  have l128 : (128 : Int32).toInt = 128 := rfl
  have l192 : (192 : Int32).toInt = 192 := rfl
  have l224 : (224 : Int32).toInt = 224 := rfl
  have l240 : (240 : Int32).toInt = 240 := rfl
  have l248 : (248 : Int32).toInt = 248 := rfl
  have l255 : (255 : Int32).toInt = 255 := rfl
  have l2048 : (2048 : Int32).toInt = 2048 := rfl
  have l55296 : (55296 : Int32).toInt = 55296 := rfl
  have l57343 : (57343 : Int32).toInt = 57343 := rfl
  have l65536 : (65536 : Int32).toInt = 65536 := rfl
  have l1114111 : (1114111 : Int32).toInt = 1114111 := rfl
  obtain ⟨iN, hiN⟩ : ∃ k, k = i.toInt.toNat := ⟨_, rfl⟩
  have hto : (to - i).toInt = to.toInt - i.toInt := by have q1 := c_isub to i; have q2 := rng32 (to - i); omega
  have hp1 : (i + (1 : Int32)).toInt = i.toInt + 1 := by have q1 := c_iadd i 1; have q2 := rng32 (i + 1); omega
  have hp2 : (i + (2 : Int32)).toInt = i.toInt + 2 := by have q1 := c_iadd i 2; have q2 := rng32 (i + 2); omega
  have hp3 : (i + (3 : Int32)).toInt = i.toInt + 3 := by have q1 := c_iadd i 3; have q2 := rng32 (i + 3); omega
  refine o_aloadN X0 K d2_0 1 rfl rfl rfl ?_
  refine o_iloadN X0 K d2_1 2 rfl rfl ?_
  refine o_baload X0 K (i := iN) (v := (.int (g iN))) d2_2 3 rfl e0 A_a (by omega) (by omega) (rfl) ?_
  refine o_sipush X0 K (255 : Int32) d2_3 6 rfl rfl ?_
  refine o_iand X0 K d2_6 7 rfl ?_
  obtain ⟨b0, h_b0⟩ : ∃ z_ : Int32, z_ = ((g iN) &&& (255 : Int32)) := ⟨_, rfl⟩
  refine o_istoreN X0 K d2_7 8 rfl #[.val (.ref a), .val (.int i), .val (.int to), .val (.int b0), .unset, .unset, .unset, .unset] h_b0.symm rfl ?_
  have hq_b0 := own_m255 (g (iN))
  rw [← h_b0] at hq_b0
  have hm_b0 := own_msk (b := b0) (by omega)
  refine o_iloadN X0 K d2_8 9 rfl rfl ?_
  refine o_sipush X0 K (128 : Int32) d2_9 12 rfl rfl ?_
  refine o_icmp_ge X0 K d2_12 17 (by decide) (by decide) 15 rfl (fun hc12 => ?_) (fun hc12 => ?_)
  · refine o_iloadN X0 K d2_17 18 rfl rfl ?_
    refine o_sipush X0 K (224 : Int32) d2_18 21 rfl rfl ?_
    refine o_iand X0 K d2_21 22 rfl ?_
    refine o_sipush X0 K (192 : Int32) d2_22 25 rfl rfl ?_
    refine o_icmp_ne X0 K d2_25 40 (by decide) (by decide) 28 rfl (fun hc25 => ?_) (fun hc25 => ?_)
    · rw [hm_b0.2.1] at hc25
      refine o_iloadN X0 K d2_40 41 rfl rfl ?_
      refine o_sipush X0 K (240 : Int32) d2_41 44 rfl rfl ?_
      refine o_iand X0 K d2_44 45 rfl ?_
      refine o_sipush X0 K (224 : Int32) d2_45 48 rfl rfl ?_
      refine o_icmp_ne X0 K d2_48 63 (by decide) (by decide) 51 rfl (fun hc48 => ?_) (fun hc48 => ?_)
      · rw [hm_b0.2.2.1] at hc48
        refine o_iloadN X0 K d2_63 64 rfl rfl ?_
        refine o_sipush X0 K (248 : Int32) d2_64 67 rfl rfl ?_
        refine o_iand X0 K d2_67 68 rfl ?_
        refine o_sipush X0 K (240 : Int32) d2_68 71 rfl rfl ?_
        refine o_icmp_ne X0 K d2_71 86 (by decide) (by decide) 74 rfl (fun hc71 => ?_) (fun hc71 => ?_)
        · rw [hm_b0.2.2.2] at hc71
          refine o_iconst X0 K (0 : Int32) d2_86 87 rfl rfl ?_
          refine o_ireturn X0 K d2_87 (by decide) (by decide) N0 ?_
          refine ⟨_, rfl, ?_, e0⟩
          clear X0 K e0 N0
          rw [own_at, ← hiN]
          have hq_c1 := own_m255 (g (iN + 1))
          have hq_c2 := own_m255 (g (iN + 2))
          have hq_c3 := own_m255 (g (iN + 3))
          rw [← h_b0]
          simp only [own_sq, own_len]
          repeat' split
          all_goals omega
        · rw [hm_b0.2.2.2] at hc71
          refine o_iconst X0 K (4 : Int32) d2_74 75 rfl rfl ?_
          refine o_istore X0 K d2_75 77 rfl #[.val (.ref a), .val (.int i), .val (.int to), .val (.int b0), .val (.int (4 : Int32)), .unset, .unset, .unset] rfl rfl ?_
          refine o_iloadN X0 K d2_77 78 rfl rfl ?_
          refine o_bipush X0 K (7 : Int32) d2_78 80 rfl rfl ?_
          refine o_iand X0 K d2_80 81 rfl ?_
          obtain ⟨cp0, h_cp0⟩ : ∃ z_ : Int32, z_ = (b0 &&& (7 : Int32)) := ⟨_, rfl⟩
          refine o_istore X0 K d2_81 83 rfl #[.val (.ref a), .val (.int i), .val (.int to), .val (.int b0), .val (.int (4 : Int32)), .val (.int cp0), .unset, .unset] h_cp0.symm rfl ?_
          refine o_goto X0 K d2_83 88 (by decide) (by decide) ?_
          have hcp0 := own_m7 b0; rw [← h_cp0] at hcp0
          refine o_iloadN X0 K d2_88 89 rfl rfl ?_
          refine o_iloadN X0 K d2_89 90 rfl rfl ?_
          refine o_isub X0 K d2_90 91 rfl ?_
          refine o_iload X0 K d2_91 93 rfl rfl ?_
          refine o_icmp_ge X0 K d2_93 98 (by decide) (by decide) 96 rfl (fun hc93 => ?_) (fun hc93 => ?_)
          · refine o_aloadN X0 K d2_98 99 rfl rfl rfl ?_
            refine o_iloadN X0 K d2_99 100 rfl rfl ?_
            refine o_iconst X0 K (1 : Int32) d2_100 101 rfl rfl ?_
            refine o_iadd X0 K d2_101 102 rfl ?_
            refine o_baload X0 K (i := (iN + 1)) (v := (.int (g (iN + 1)))) d2_102 103 rfl e0 A_a (by omega) (by omega) (rfl) ?_
            refine o_sipush X0 K (255 : Int32) d2_103 106 rfl rfl ?_
            refine o_iand X0 K d2_106 107 rfl ?_
            obtain ⟨c1, h_c1⟩ : ∃ z_ : Int32, z_ = ((g (iN + 1)) &&& (255 : Int32)) := ⟨_, rfl⟩
            refine o_istore X0 K d2_107 109 rfl #[.val (.ref a), .val (.int i), .val (.int to), .val (.int b0), .val (.int (4 : Int32)), .val (.int cp0), .val (.int c1), .unset] h_c1.symm rfl ?_
            have hq_c1 := own_m255 (g (iN + 1))
            rw [← h_c1] at hq_c1
            have hm_c1 := own_msk (b := c1) (by omega)
            refine o_iload X0 K d2_109 111 rfl rfl ?_
            refine o_sipush X0 K (192 : Int32) d2_111 114 rfl rfl ?_
            refine o_iand X0 K d2_114 115 rfl ?_
            refine o_sipush X0 K (128 : Int32) d2_115 118 rfl rfl ?_
            refine o_icmp_eq X0 K d2_118 123 (by decide) (by decide) 121 rfl (fun hc118 => ?_) (fun hc118 => ?_)
            · rw [hm_c1.1] at hc118
              refine o_iload X0 K d2_123 125 rfl rfl ?_
              refine o_bipush X0 K (6 : Int32) d2_125 127 rfl rfl ?_
              refine o_ishl X0 K d2_127 128 rfl ?_
              refine o_iload X0 K d2_128 130 rfl rfl ?_
              refine o_bipush X0 K (63 : Int32) d2_130 132 rfl rfl ?_
              refine o_iand X0 K d2_132 133 rfl ?_
              refine o_ior X0 K d2_133 134 rfl ?_
              obtain ⟨cp1, h_cp1⟩ : ∃ z_ : Int32, z_ = ((cp0 <<< ((6 : Int32) &&& 31)) ||| (c1 &&& (63 : Int32))) := ⟨_, rfl⟩
              refine o_istore X0 K d2_134 136 rfl #[.val (.ref a), .val (.int i), .val (.int to), .val (.int b0), .val (.int (4 : Int32)), .val (.int cp1), .val (.int c1), .unset] h_cp1.symm rfl ?_
              have hcp1 := own_acc cp0 c1 (by omega); rw [← h_cp1] at hcp1
              refine o_iload X0 K d2_136 138 rfl rfl ?_
              refine o_iconst X0 K (3 : Int32) d2_138 139 rfl rfl ?_
              refine o_icmp_lt_f X0 K d2_139 142 rfl (by decide) ?_
              refine o_aloadN X0 K d2_142 143 rfl rfl rfl ?_
              refine o_iloadN X0 K d2_143 144 rfl rfl ?_
              refine o_iconst X0 K (2 : Int32) d2_144 145 rfl rfl ?_
              refine o_iadd X0 K d2_145 146 rfl ?_
              refine o_baload X0 K (i := (iN + 2)) (v := (.int (g (iN + 2)))) d2_146 147 rfl e0 A_a (by omega) (by omega) (rfl) ?_
              refine o_sipush X0 K (255 : Int32) d2_147 150 rfl rfl ?_
              refine o_iand X0 K d2_150 151 rfl ?_
              obtain ⟨c2, h_c2⟩ : ∃ z_ : Int32, z_ = ((g (iN + 2)) &&& (255 : Int32)) := ⟨_, rfl⟩
              refine o_istore X0 K d2_151 153 rfl #[.val (.ref a), .val (.int i), .val (.int to), .val (.int b0), .val (.int (4 : Int32)), .val (.int cp1), .val (.int c1), .val (.int c2)] h_c2.symm rfl ?_
              have hq_c2 := own_m255 (g (iN + 2))
              rw [← h_c2] at hq_c2
              have hm_c2 := own_msk (b := c2) (by omega)
              refine o_iload X0 K d2_153 155 rfl rfl ?_
              refine o_sipush X0 K (192 : Int32) d2_155 158 rfl rfl ?_
              refine o_iand X0 K d2_158 159 rfl ?_
              refine o_sipush X0 K (128 : Int32) d2_159 162 rfl rfl ?_
              refine o_icmp_eq X0 K d2_162 167 (by decide) (by decide) 165 rfl (fun hc162 => ?_) (fun hc162 => ?_)
              · rw [hm_c2.1] at hc162
                refine o_iload X0 K d2_167 169 rfl rfl ?_
                refine o_bipush X0 K (6 : Int32) d2_169 171 rfl rfl ?_
                refine o_ishl X0 K d2_171 172 rfl ?_
                refine o_iload X0 K d2_172 174 rfl rfl ?_
                refine o_bipush X0 K (63 : Int32) d2_174 176 rfl rfl ?_
                refine o_iand X0 K d2_176 177 rfl ?_
                refine o_ior X0 K d2_177 178 rfl ?_
                obtain ⟨cp2, h_cp2⟩ : ∃ z_ : Int32, z_ = ((cp1 <<< ((6 : Int32) &&& 31)) ||| (c2 &&& (63 : Int32))) := ⟨_, rfl⟩
                refine o_istore X0 K d2_178 180 rfl #[.val (.ref a), .val (.int i), .val (.int to), .val (.int b0), .val (.int (4 : Int32)), .val (.int cp2), .val (.int c1), .val (.int c2)] h_cp2.symm rfl ?_
                have hcp2 := own_acc cp1 c2 (by omega); rw [← h_cp2] at hcp2
                refine o_iload X0 K d2_180 182 rfl rfl ?_
                refine o_iconst X0 K (4 : Int32) d2_182 183 rfl rfl ?_
                refine o_icmp_ne_f X0 K d2_183 186 rfl (by decide) ?_
                refine o_aloadN X0 K d2_186 187 rfl rfl rfl ?_
                refine o_iloadN X0 K d2_187 188 rfl rfl ?_
                refine o_iconst X0 K (3 : Int32) d2_188 189 rfl rfl ?_
                refine o_iadd X0 K d2_189 190 rfl ?_
                refine o_baload X0 K (i := (iN + 3)) (v := (.int (g (iN + 3)))) d2_190 191 rfl e0 A_a (by omega) (by omega) (rfl) ?_
                refine o_sipush X0 K (255 : Int32) d2_191 194 rfl rfl ?_
                refine o_iand X0 K d2_194 195 rfl ?_
                obtain ⟨c3, h_c3⟩ : ∃ z_ : Int32, z_ = ((g (iN + 3)) &&& (255 : Int32)) := ⟨_, rfl⟩
                refine o_istore X0 K d2_195 197 rfl #[.val (.ref a), .val (.int i), .val (.int to), .val (.int b0), .val (.int (4 : Int32)), .val (.int cp2), .val (.int c1), .val (.int c3)] h_c3.symm rfl ?_
                have hq_c3 := own_m255 (g (iN + 3))
                rw [← h_c3] at hq_c3
                have hm_c3 := own_msk (b := c3) (by omega)
                refine o_iload X0 K d2_197 199 rfl rfl ?_
                refine o_sipush X0 K (192 : Int32) d2_199 202 rfl rfl ?_
                refine o_iand X0 K d2_202 203 rfl ?_
                refine o_sipush X0 K (128 : Int32) d2_203 206 rfl rfl ?_
                refine o_icmp_eq X0 K d2_206 211 (by decide) (by decide) 209 rfl (fun hc206 => ?_) (fun hc206 => ?_)
                · rw [hm_c3.1] at hc206
                  refine o_iload X0 K d2_211 213 rfl rfl ?_
                  refine o_bipush X0 K (6 : Int32) d2_213 215 rfl rfl ?_
                  refine o_ishl X0 K d2_215 216 rfl ?_
                  refine o_iload X0 K d2_216 218 rfl rfl ?_
                  refine o_bipush X0 K (63 : Int32) d2_218 220 rfl rfl ?_
                  refine o_iand X0 K d2_220 221 rfl ?_
                  refine o_ior X0 K d2_221 222 rfl ?_
                  obtain ⟨cp3, h_cp3⟩ : ∃ z_ : Int32, z_ = ((cp2 <<< ((6 : Int32) &&& 31)) ||| (c3 &&& (63 : Int32))) := ⟨_, rfl⟩
                  refine o_istore X0 K d2_222 224 rfl #[.val (.ref a), .val (.int i), .val (.int to), .val (.int b0), .val (.int (4 : Int32)), .val (.int cp3), .val (.int c1), .val (.int c3)] h_cp3.symm rfl ?_
                  have hcp3 := own_acc cp2 c3 (by omega); rw [← h_cp3] at hcp3
                  refine o_iload X0 K d2_224 226 rfl rfl ?_
                  refine o_iconst X0 K (2 : Int32) d2_226 227 rfl rfl ?_
                  refine o_icmp_ne_t X0 K d2_227 244 (by decide) (by decide) (by decide) ?_
                  refine o_iload X0 K d2_244 246 rfl rfl ?_
                  refine o_iconst X0 K (3 : Int32) d2_246 247 rfl rfl ?_
                  refine o_icmp_ne_t X0 K d2_247 278 (by decide) (by decide) (by decide) ?_
                  refine o_iload X0 K d2_278 280 rfl rfl ?_
                  refine o_ldcI X0 K d2_280 282 rfl (w_15 hw) ?_
                  refine o_icmp_lt X0 K d2_282 292 (by decide) (by decide) 285 rfl (fun hc282 => ?_) (fun hc282 => ?_)
                  · refine o_iconst X0 K (0 : Int32) d2_292 293 rfl rfl ?_
                    refine o_ireturn X0 K d2_293 (by decide) (by decide) N0 ?_
                    refine ⟨_, rfl, ?_, e0⟩
                    clear X0 K e0 N0
                    rw [own_at, ← hiN]
                    rw [← h_c1]
                    rw [← h_c2]
                    rw [← h_c3]
                    rw [← h_b0]
                    simp only [own_sq, own_len]
                    repeat' split
                    all_goals omega
                  · refine o_iload X0 K d2_285 287 rfl rfl ?_
                    refine o_ldcI X0 K d2_287 289 rfl (w_16 hw) ?_
                    refine o_icmp_le X0 K d2_289 294 (by decide) (by decide) 292 rfl (fun hc289 => ?_) (fun hc289 => ?_)
                    · refine o_iconst X0 K (4 : Int32) d2_294 295 rfl rfl ?_
                      refine o_ireturn X0 K d2_295 (by decide) (by decide) N0 ?_
                      refine ⟨_, rfl, ?_, e0⟩
                      clear X0 K e0 N0
                      rw [own_at, ← hiN]
                      rw [← h_c1]
                      rw [← h_c2]
                      rw [← h_c3]
                      rw [← h_b0]
                      simp only [own_sq, own_len]
                      repeat' split
                      all_goals omega
                    · refine o_iconst X0 K (0 : Int32) d2_292 293 rfl rfl ?_
                      refine o_ireturn X0 K d2_293 (by decide) (by decide) N0 ?_
                      refine ⟨_, rfl, ?_, e0⟩
                      clear X0 K e0 N0
                      rw [own_at, ← hiN]
                      rw [← h_c1]
                      rw [← h_c2]
                      rw [← h_c3]
                      rw [← h_b0]
                      simp only [own_sq, own_len]
                      repeat' split
                      all_goals omega
                · rw [hm_c3.1] at hc206
                  refine o_iconst X0 K (0 : Int32) d2_209 210 rfl rfl ?_
                  refine o_ireturn X0 K d2_210 (by decide) (by decide) N0 ?_
                  refine ⟨_, rfl, ?_, e0⟩
                  clear X0 K e0 N0
                  rw [own_at, ← hiN]
                  rw [← h_c1]
                  rw [← h_c2]
                  rw [← h_c3]
                  rw [← h_b0]
                  simp only [own_sq, own_len]
                  repeat' split
                  all_goals omega
              · rw [hm_c2.1] at hc162
                refine o_iconst X0 K (0 : Int32) d2_165 166 rfl rfl ?_
                refine o_ireturn X0 K d2_166 (by decide) (by decide) N0 ?_
                refine ⟨_, rfl, ?_, e0⟩
                clear X0 K e0 N0
                rw [own_at, ← hiN]
                rw [← h_c1]
                rw [← h_c2]
                have hq_c3 := own_m255 (g (iN + 3))
                rw [← h_b0]
                simp only [own_sq, own_len]
                repeat' split
                all_goals omega
            · rw [hm_c1.1] at hc118
              refine o_iconst X0 K (0 : Int32) d2_121 122 rfl rfl ?_
              refine o_ireturn X0 K d2_122 (by decide) (by decide) N0 ?_
              refine ⟨_, rfl, ?_, e0⟩
              clear X0 K e0 N0
              rw [own_at, ← hiN]
              rw [← h_c1]
              have hq_c2 := own_m255 (g (iN + 2))
              have hq_c3 := own_m255 (g (iN + 3))
              rw [← h_b0]
              simp only [own_sq, own_len]
              repeat' split
              all_goals omega
          · refine o_iconst X0 K (0 : Int32) d2_96 97 rfl rfl ?_
            refine o_ireturn X0 K d2_97 (by decide) (by decide) N0 ?_
            refine ⟨_, rfl, ?_, e0⟩
            clear X0 K e0 N0
            rw [own_at, ← hiN]
            have hq_c1 := own_m255 (g (iN + 1))
            have hq_c2 := own_m255 (g (iN + 2))
            have hq_c3 := own_m255 (g (iN + 3))
            rw [← h_b0]
            simp only [own_sq, own_len]
            repeat' split
            all_goals omega
      · rw [hm_b0.2.2.1] at hc48
        refine o_iconst X0 K (3 : Int32) d2_51 52 rfl rfl ?_
        refine o_istore X0 K d2_52 54 rfl #[.val (.ref a), .val (.int i), .val (.int to), .val (.int b0), .val (.int (3 : Int32)), .unset, .unset, .unset] rfl rfl ?_
        refine o_iloadN X0 K d2_54 55 rfl rfl ?_
        refine o_bipush X0 K (15 : Int32) d2_55 57 rfl rfl ?_
        refine o_iand X0 K d2_57 58 rfl ?_
        obtain ⟨cp0, h_cp0⟩ : ∃ z_ : Int32, z_ = (b0 &&& (15 : Int32)) := ⟨_, rfl⟩
        refine o_istore X0 K d2_58 60 rfl #[.val (.ref a), .val (.int i), .val (.int to), .val (.int b0), .val (.int (3 : Int32)), .val (.int cp0), .unset, .unset] h_cp0.symm rfl ?_
        refine o_goto X0 K d2_60 88 (by decide) (by decide) ?_
        have hcp0 := own_m15 b0; rw [← h_cp0] at hcp0
        refine o_iloadN X0 K d2_88 89 rfl rfl ?_
        refine o_iloadN X0 K d2_89 90 rfl rfl ?_
        refine o_isub X0 K d2_90 91 rfl ?_
        refine o_iload X0 K d2_91 93 rfl rfl ?_
        refine o_icmp_ge X0 K d2_93 98 (by decide) (by decide) 96 rfl (fun hc93 => ?_) (fun hc93 => ?_)
        · refine o_aloadN X0 K d2_98 99 rfl rfl rfl ?_
          refine o_iloadN X0 K d2_99 100 rfl rfl ?_
          refine o_iconst X0 K (1 : Int32) d2_100 101 rfl rfl ?_
          refine o_iadd X0 K d2_101 102 rfl ?_
          refine o_baload X0 K (i := (iN + 1)) (v := (.int (g (iN + 1)))) d2_102 103 rfl e0 A_a (by omega) (by omega) (rfl) ?_
          refine o_sipush X0 K (255 : Int32) d2_103 106 rfl rfl ?_
          refine o_iand X0 K d2_106 107 rfl ?_
          obtain ⟨c1, h_c1⟩ : ∃ z_ : Int32, z_ = ((g (iN + 1)) &&& (255 : Int32)) := ⟨_, rfl⟩
          refine o_istore X0 K d2_107 109 rfl #[.val (.ref a), .val (.int i), .val (.int to), .val (.int b0), .val (.int (3 : Int32)), .val (.int cp0), .val (.int c1), .unset] h_c1.symm rfl ?_
          have hq_c1 := own_m255 (g (iN + 1))
          rw [← h_c1] at hq_c1
          have hm_c1 := own_msk (b := c1) (by omega)
          refine o_iload X0 K d2_109 111 rfl rfl ?_
          refine o_sipush X0 K (192 : Int32) d2_111 114 rfl rfl ?_
          refine o_iand X0 K d2_114 115 rfl ?_
          refine o_sipush X0 K (128 : Int32) d2_115 118 rfl rfl ?_
          refine o_icmp_eq X0 K d2_118 123 (by decide) (by decide) 121 rfl (fun hc118 => ?_) (fun hc118 => ?_)
          · rw [hm_c1.1] at hc118
            refine o_iload X0 K d2_123 125 rfl rfl ?_
            refine o_bipush X0 K (6 : Int32) d2_125 127 rfl rfl ?_
            refine o_ishl X0 K d2_127 128 rfl ?_
            refine o_iload X0 K d2_128 130 rfl rfl ?_
            refine o_bipush X0 K (63 : Int32) d2_130 132 rfl rfl ?_
            refine o_iand X0 K d2_132 133 rfl ?_
            refine o_ior X0 K d2_133 134 rfl ?_
            obtain ⟨cp1, h_cp1⟩ : ∃ z_ : Int32, z_ = ((cp0 <<< ((6 : Int32) &&& 31)) ||| (c1 &&& (63 : Int32))) := ⟨_, rfl⟩
            refine o_istore X0 K d2_134 136 rfl #[.val (.ref a), .val (.int i), .val (.int to), .val (.int b0), .val (.int (3 : Int32)), .val (.int cp1), .val (.int c1), .unset] h_cp1.symm rfl ?_
            have hcp1 := own_acc cp0 c1 (by omega); rw [← h_cp1] at hcp1
            refine o_iload X0 K d2_136 138 rfl rfl ?_
            refine o_iconst X0 K (3 : Int32) d2_138 139 rfl rfl ?_
            refine o_icmp_lt_f X0 K d2_139 142 rfl (by decide) ?_
            refine o_aloadN X0 K d2_142 143 rfl rfl rfl ?_
            refine o_iloadN X0 K d2_143 144 rfl rfl ?_
            refine o_iconst X0 K (2 : Int32) d2_144 145 rfl rfl ?_
            refine o_iadd X0 K d2_145 146 rfl ?_
            refine o_baload X0 K (i := (iN + 2)) (v := (.int (g (iN + 2)))) d2_146 147 rfl e0 A_a (by omega) (by omega) (rfl) ?_
            refine o_sipush X0 K (255 : Int32) d2_147 150 rfl rfl ?_
            refine o_iand X0 K d2_150 151 rfl ?_
            obtain ⟨c2, h_c2⟩ : ∃ z_ : Int32, z_ = ((g (iN + 2)) &&& (255 : Int32)) := ⟨_, rfl⟩
            refine o_istore X0 K d2_151 153 rfl #[.val (.ref a), .val (.int i), .val (.int to), .val (.int b0), .val (.int (3 : Int32)), .val (.int cp1), .val (.int c1), .val (.int c2)] h_c2.symm rfl ?_
            have hq_c2 := own_m255 (g (iN + 2))
            rw [← h_c2] at hq_c2
            have hm_c2 := own_msk (b := c2) (by omega)
            refine o_iload X0 K d2_153 155 rfl rfl ?_
            refine o_sipush X0 K (192 : Int32) d2_155 158 rfl rfl ?_
            refine o_iand X0 K d2_158 159 rfl ?_
            refine o_sipush X0 K (128 : Int32) d2_159 162 rfl rfl ?_
            refine o_icmp_eq X0 K d2_162 167 (by decide) (by decide) 165 rfl (fun hc162 => ?_) (fun hc162 => ?_)
            · rw [hm_c2.1] at hc162
              refine o_iload X0 K d2_167 169 rfl rfl ?_
              refine o_bipush X0 K (6 : Int32) d2_169 171 rfl rfl ?_
              refine o_ishl X0 K d2_171 172 rfl ?_
              refine o_iload X0 K d2_172 174 rfl rfl ?_
              refine o_bipush X0 K (63 : Int32) d2_174 176 rfl rfl ?_
              refine o_iand X0 K d2_176 177 rfl ?_
              refine o_ior X0 K d2_177 178 rfl ?_
              obtain ⟨cp2, h_cp2⟩ : ∃ z_ : Int32, z_ = ((cp1 <<< ((6 : Int32) &&& 31)) ||| (c2 &&& (63 : Int32))) := ⟨_, rfl⟩
              refine o_istore X0 K d2_178 180 rfl #[.val (.ref a), .val (.int i), .val (.int to), .val (.int b0), .val (.int (3 : Int32)), .val (.int cp2), .val (.int c1), .val (.int c2)] h_cp2.symm rfl ?_
              have hcp2 := own_acc cp1 c2 (by omega); rw [← h_cp2] at hcp2
              refine o_iload X0 K d2_180 182 rfl rfl ?_
              refine o_iconst X0 K (4 : Int32) d2_182 183 rfl rfl ?_
              refine o_icmp_ne_t X0 K d2_183 224 (by decide) (by decide) (by decide) ?_
              refine o_iload X0 K d2_224 226 rfl rfl ?_
              refine o_iconst X0 K (2 : Int32) d2_226 227 rfl rfl ?_
              refine o_icmp_ne_t X0 K d2_227 244 (by decide) (by decide) (by decide) ?_
              refine o_iload X0 K d2_244 246 rfl rfl ?_
              refine o_iconst X0 K (3 : Int32) d2_246 247 rfl rfl ?_
              refine o_icmp_ne_f X0 K d2_247 250 rfl (by decide) ?_
              refine o_iload X0 K d2_250 252 rfl rfl ?_
              refine o_sipush X0 K (2048 : Int32) d2_252 255 rfl rfl ?_
              refine o_icmp_ge X0 K d2_255 260 (by decide) (by decide) 258 rfl (fun hc255 => ?_) (fun hc255 => ?_)
              · refine o_iload X0 K d2_260 262 rfl rfl ?_
                refine o_ldcI X0 K d2_262 264 rfl (w_13 hw) ?_
                refine o_icmp_lt X0 K d2_264 276 (by decide) (by decide) 267 rfl (fun hc264 => ?_) (fun hc264 => ?_)
                · refine o_iconst X0 K (3 : Int32) d2_276 277 rfl rfl ?_
                  refine o_ireturn X0 K d2_277 (by decide) (by decide) N0 ?_
                  refine ⟨_, rfl, ?_, e0⟩
                  clear X0 K e0 N0
                  rw [own_at, ← hiN]
                  rw [← h_c1]
                  rw [← h_c2]
                  have hq_c3 := own_m255 (g (iN + 3))
                  rw [← h_b0]
                  simp only [own_sq, own_len]
                  repeat' split
                  all_goals omega
                · refine o_iload X0 K d2_267 269 rfl rfl ?_
                  refine o_ldcI X0 K d2_269 271 rfl (w_14 hw) ?_
                  refine o_icmp_gt X0 K d2_271 276 (by decide) (by decide) 274 rfl (fun hc271 => ?_) (fun hc271 => ?_)
                  · refine o_iconst X0 K (3 : Int32) d2_276 277 rfl rfl ?_
                    refine o_ireturn X0 K d2_277 (by decide) (by decide) N0 ?_
                    refine ⟨_, rfl, ?_, e0⟩
                    clear X0 K e0 N0
                    rw [own_at, ← hiN]
                    rw [← h_c1]
                    rw [← h_c2]
                    have hq_c3 := own_m255 (g (iN + 3))
                    rw [← h_b0]
                    simp only [own_sq, own_len]
                    repeat' split
                    all_goals omega
                  · refine o_iconst X0 K (0 : Int32) d2_274 275 rfl rfl ?_
                    refine o_ireturn X0 K d2_275 (by decide) (by decide) N0 ?_
                    refine ⟨_, rfl, ?_, e0⟩
                    clear X0 K e0 N0
                    rw [own_at, ← hiN]
                    rw [← h_c1]
                    rw [← h_c2]
                    have hq_c3 := own_m255 (g (iN + 3))
                    rw [← h_b0]
                    simp only [own_sq, own_len]
                    repeat' split
                    all_goals omega
              · refine o_iconst X0 K (0 : Int32) d2_258 259 rfl rfl ?_
                refine o_ireturn X0 K d2_259 (by decide) (by decide) N0 ?_
                refine ⟨_, rfl, ?_, e0⟩
                clear X0 K e0 N0
                rw [own_at, ← hiN]
                rw [← h_c1]
                rw [← h_c2]
                have hq_c3 := own_m255 (g (iN + 3))
                rw [← h_b0]
                simp only [own_sq, own_len]
                repeat' split
                all_goals omega
            · rw [hm_c2.1] at hc162
              refine o_iconst X0 K (0 : Int32) d2_165 166 rfl rfl ?_
              refine o_ireturn X0 K d2_166 (by decide) (by decide) N0 ?_
              refine ⟨_, rfl, ?_, e0⟩
              clear X0 K e0 N0
              rw [own_at, ← hiN]
              rw [← h_c1]
              rw [← h_c2]
              have hq_c3 := own_m255 (g (iN + 3))
              rw [← h_b0]
              simp only [own_sq, own_len]
              repeat' split
              all_goals omega
          · rw [hm_c1.1] at hc118
            refine o_iconst X0 K (0 : Int32) d2_121 122 rfl rfl ?_
            refine o_ireturn X0 K d2_122 (by decide) (by decide) N0 ?_
            refine ⟨_, rfl, ?_, e0⟩
            clear X0 K e0 N0
            rw [own_at, ← hiN]
            rw [← h_c1]
            have hq_c2 := own_m255 (g (iN + 2))
            have hq_c3 := own_m255 (g (iN + 3))
            rw [← h_b0]
            simp only [own_sq, own_len]
            repeat' split
            all_goals omega
        · refine o_iconst X0 K (0 : Int32) d2_96 97 rfl rfl ?_
          refine o_ireturn X0 K d2_97 (by decide) (by decide) N0 ?_
          refine ⟨_, rfl, ?_, e0⟩
          clear X0 K e0 N0
          rw [own_at, ← hiN]
          have hq_c1 := own_m255 (g (iN + 1))
          have hq_c2 := own_m255 (g (iN + 2))
          have hq_c3 := own_m255 (g (iN + 3))
          rw [← h_b0]
          simp only [own_sq, own_len]
          repeat' split
          all_goals omega
    · rw [hm_b0.2.1] at hc25
      refine o_iconst X0 K (2 : Int32) d2_28 29 rfl rfl ?_
      refine o_istore X0 K d2_29 31 rfl #[.val (.ref a), .val (.int i), .val (.int to), .val (.int b0), .val (.int (2 : Int32)), .unset, .unset, .unset] rfl rfl ?_
      refine o_iloadN X0 K d2_31 32 rfl rfl ?_
      refine o_bipush X0 K (31 : Int32) d2_32 34 rfl rfl ?_
      refine o_iand X0 K d2_34 35 rfl ?_
      obtain ⟨cp0, h_cp0⟩ : ∃ z_ : Int32, z_ = (b0 &&& (31 : Int32)) := ⟨_, rfl⟩
      refine o_istore X0 K d2_35 37 rfl #[.val (.ref a), .val (.int i), .val (.int to), .val (.int b0), .val (.int (2 : Int32)), .val (.int cp0), .unset, .unset] h_cp0.symm rfl ?_
      refine o_goto X0 K d2_37 88 (by decide) (by decide) ?_
      have hcp0 := own_m31 b0; rw [← h_cp0] at hcp0
      refine o_iloadN X0 K d2_88 89 rfl rfl ?_
      refine o_iloadN X0 K d2_89 90 rfl rfl ?_
      refine o_isub X0 K d2_90 91 rfl ?_
      refine o_iload X0 K d2_91 93 rfl rfl ?_
      refine o_icmp_ge X0 K d2_93 98 (by decide) (by decide) 96 rfl (fun hc93 => ?_) (fun hc93 => ?_)
      · refine o_aloadN X0 K d2_98 99 rfl rfl rfl ?_
        refine o_iloadN X0 K d2_99 100 rfl rfl ?_
        refine o_iconst X0 K (1 : Int32) d2_100 101 rfl rfl ?_
        refine o_iadd X0 K d2_101 102 rfl ?_
        refine o_baload X0 K (i := (iN + 1)) (v := (.int (g (iN + 1)))) d2_102 103 rfl e0 A_a (by omega) (by omega) (rfl) ?_
        refine o_sipush X0 K (255 : Int32) d2_103 106 rfl rfl ?_
        refine o_iand X0 K d2_106 107 rfl ?_
        obtain ⟨c1, h_c1⟩ : ∃ z_ : Int32, z_ = ((g (iN + 1)) &&& (255 : Int32)) := ⟨_, rfl⟩
        refine o_istore X0 K d2_107 109 rfl #[.val (.ref a), .val (.int i), .val (.int to), .val (.int b0), .val (.int (2 : Int32)), .val (.int cp0), .val (.int c1), .unset] h_c1.symm rfl ?_
        have hq_c1 := own_m255 (g (iN + 1))
        rw [← h_c1] at hq_c1
        have hm_c1 := own_msk (b := c1) (by omega)
        refine o_iload X0 K d2_109 111 rfl rfl ?_
        refine o_sipush X0 K (192 : Int32) d2_111 114 rfl rfl ?_
        refine o_iand X0 K d2_114 115 rfl ?_
        refine o_sipush X0 K (128 : Int32) d2_115 118 rfl rfl ?_
        refine o_icmp_eq X0 K d2_118 123 (by decide) (by decide) 121 rfl (fun hc118 => ?_) (fun hc118 => ?_)
        · rw [hm_c1.1] at hc118
          refine o_iload X0 K d2_123 125 rfl rfl ?_
          refine o_bipush X0 K (6 : Int32) d2_125 127 rfl rfl ?_
          refine o_ishl X0 K d2_127 128 rfl ?_
          refine o_iload X0 K d2_128 130 rfl rfl ?_
          refine o_bipush X0 K (63 : Int32) d2_130 132 rfl rfl ?_
          refine o_iand X0 K d2_132 133 rfl ?_
          refine o_ior X0 K d2_133 134 rfl ?_
          obtain ⟨cp1, h_cp1⟩ : ∃ z_ : Int32, z_ = ((cp0 <<< ((6 : Int32) &&& 31)) ||| (c1 &&& (63 : Int32))) := ⟨_, rfl⟩
          refine o_istore X0 K d2_134 136 rfl #[.val (.ref a), .val (.int i), .val (.int to), .val (.int b0), .val (.int (2 : Int32)), .val (.int cp1), .val (.int c1), .unset] h_cp1.symm rfl ?_
          have hcp1 := own_acc cp0 c1 (by omega); rw [← h_cp1] at hcp1
          refine o_iload X0 K d2_136 138 rfl rfl ?_
          refine o_iconst X0 K (3 : Int32) d2_138 139 rfl rfl ?_
          refine o_icmp_lt_t X0 K d2_139 180 (by decide) (by decide) (by decide) ?_
          refine o_iload X0 K d2_180 182 rfl rfl ?_
          refine o_iconst X0 K (4 : Int32) d2_182 183 rfl rfl ?_
          refine o_icmp_ne_t X0 K d2_183 224 (by decide) (by decide) (by decide) ?_
          refine o_iload X0 K d2_224 226 rfl rfl ?_
          refine o_iconst X0 K (2 : Int32) d2_226 227 rfl rfl ?_
          refine o_icmp_ne_f X0 K d2_227 230 rfl (by decide) ?_
          refine o_iload X0 K d2_230 232 rfl rfl ?_
          refine o_sipush X0 K (128 : Int32) d2_232 235 rfl rfl ?_
          refine o_icmp_lt X0 K d2_235 242 (by decide) (by decide) 238 rfl (fun hc235 => ?_) (fun hc235 => ?_)
          · refine o_iconst X0 K (0 : Int32) d2_242 243 rfl rfl ?_
            refine o_ireturn X0 K d2_243 (by decide) (by decide) N0 ?_
            refine ⟨_, rfl, ?_, e0⟩
            clear X0 K e0 N0
            rw [own_at, ← hiN]
            rw [← h_c1]
            have hq_c2 := own_m255 (g (iN + 2))
            have hq_c3 := own_m255 (g (iN + 3))
            rw [← h_b0]
            simp only [own_sq, own_len]
            repeat' split
            all_goals omega
          · refine o_iconst X0 K (2 : Int32) d2_238 239 rfl rfl ?_
            refine o_goto X0 K d2_239 243 (by decide) (by decide) ?_
            refine o_ireturn X0 K d2_243 (by decide) (by decide) N0 ?_
            refine ⟨_, rfl, ?_, e0⟩
            clear X0 K e0 N0
            rw [own_at, ← hiN]
            rw [← h_c1]
            have hq_c2 := own_m255 (g (iN + 2))
            have hq_c3 := own_m255 (g (iN + 3))
            rw [← h_b0]
            simp only [own_sq, own_len]
            repeat' split
            all_goals omega
        · rw [hm_c1.1] at hc118
          refine o_iconst X0 K (0 : Int32) d2_121 122 rfl rfl ?_
          refine o_ireturn X0 K d2_122 (by decide) (by decide) N0 ?_
          refine ⟨_, rfl, ?_, e0⟩
          clear X0 K e0 N0
          rw [own_at, ← hiN]
          rw [← h_c1]
          have hq_c2 := own_m255 (g (iN + 2))
          have hq_c3 := own_m255 (g (iN + 3))
          rw [← h_b0]
          simp only [own_sq, own_len]
          repeat' split
          all_goals omega
      · refine o_iconst X0 K (0 : Int32) d2_96 97 rfl rfl ?_
        refine o_ireturn X0 K d2_97 (by decide) (by decide) N0 ?_
        refine ⟨_, rfl, ?_, e0⟩
        clear X0 K e0 N0
        rw [own_at, ← hiN]
        have hq_c1 := own_m255 (g (iN + 1))
        have hq_c2 := own_m255 (g (iN + 2))
        have hq_c3 := own_m255 (g (iN + 3))
        rw [← h_b0]
        simp only [own_sq, own_len]
        repeat' split
        all_goals omega
  · refine o_iconst X0 K (1 : Int32) d2_15 16 rfl rfl ?_
    refine o_ireturn X0 K d2_16 (by decide) (by decide) N0 ?_
    refine ⟨_, rfl, ?_, e0⟩
    clear X0 K e0 N0
    rw [own_at, ← hiN]
    have hq_c1 := own_m255 (g (iN + 1))
    have hq_c2 := own_m255 (g (iN + 2))
    have hq_c3 := own_m255 (g (iN + 3))
    rw [← h_b0]
    simp only [own_sq, own_len]
    repeat' split
    all_goals omega
theorem d1_0 : decode method_3_code 0 = .ok (.iload_n 1, 1) := by decide +kernel
theorem d1_1 : decode method_3_code 1 = .ok (.ifCond .lt 8, 3) := by decide +kernel
theorem d1_9 : decode method_3_code 9 = .ok (.iload_n 1, 1) := by decide +kernel
theorem d1_10 : decode method_3_code 10 = .ok (.ireturn, 1) := by decide +kernel
theorem d1_4 : decode method_3_code 4 = .ok (.iload_n 1, 1) := by decide +kernel
theorem d1_5 : decode method_3_code 5 = .ok (.iload_n 2, 1) := by decide +kernel
theorem d1_6 : decode method_3_code 6 = .ok (.if_icmp .lt 5, 3) := by decide +kernel
theorem d1_11 : decode method_3_code 11 = .ok (.aload_n 0, 1) := by decide +kernel
theorem d1_12 : decode method_3_code 12 = .ok (.iload_n 1, 1) := by decide +kernel
theorem d1_13 : decode method_3_code 13 = .ok (.iload_n 2, 1) := by decide +kernel
theorem d1_14 : decode method_3_code 14 = .ok (.invokestatic 20, 3) := by decide +kernel
theorem pd___BII_I : parseMethodDescriptor "([BII)I" = some ⟨[(.array .byte), .int, .int], some .int⟩ := by decide +kernel
theorem d1_17 : decode method_3_code 17 = .ok (.istore_n 3, 1) := by decide +kernel
theorem d1_18 : decode method_3_code 18 = .ok (.iload_n 3, 1) := by decide +kernel
theorem d1_19 : decode method_3_code 19 = .ok (.ifCond .ne 5, 3) := by decide +kernel
theorem d1_24 : decode method_3_code 24 = .ok (.iload_n 1, 1) := by decide +kernel
theorem d1_25 : decode method_3_code 25 = .ok (.iload_n 3, 1) := by decide +kernel
theorem d1_26 : decode method_3_code 26 = .ok (.iadd, 1) := by decide +kernel
theorem d1_27 : decode method_3_code 27 = .ok (.ireturn, 1) := by decide +kernel
theorem d1_22 : decode method_3_code 22 = .ok (.iconst (-1), 1) := by decide +kernel
theorem d1_23 : decode method_3_code 23 = .ok (.ireturn, 1) := by decide +kernel
theorem pn_1 : plainFor (⟨"com/example/vikt/vikt/graph/LinkListReaderIsUtf8PinLaw", "next", "([BII)I"⟩ : MethodName) = true := plainFor_of_name (by first | (simp [plainName, overriddenIn]; done) | decide +kernel)
set_option maxHeartbeats 4000000 in
theorem c_next (l : Launch) (Z : State) (a0 : Array Value) (hw : OW Z a0) (n0 : Nat) (a : Addr) (g : Nat → Int32) (i to : Int32) (h0 : Heap) (Z0 : n0 ≤ h0.size) (A_a : OAr Z h0 a .byte 6 (fun j => .int (g j))) (ht : to.toInt ≤ 6) :
    OCon l Z n0 (⟨"com/example/vikt/vikt/graph/LinkListReaderIsUtf8PinLaw", "next", "([BII)I"⟩ : MethodName) method_3_code 4 (some .int) ({ frames := 1, cells := 0, slots := 0, locals := 20 } : Room) #[(.ref a), (.int i), (.int to)] h0 (fun v h => ∃ r : Int32, v = some (.int r) ∧ r.toInt = own_next g to.toInt i.toInt ∧ h = h0) := by
  refine OCon.of (Ls := #[.val (.ref a), .val (.int i), .val (.int to), .unset]) pn_1 rfl rfl (fun m => by first | (simp [entryFrame, mkF, argsToLocals, Value.category]; done) | rfl) ?_
  intro p e s m below meth c T0 X0 K e0
  have N0 := Fr.nil n0
  have lm1 : ((-1) : Int32).toInt = -1 := rfl
  have l0 : (0 : Int32).toInt = 0 := rfl
  have l1 : (1 : Int32).toInt = 1 := rfl
  refine o_iloadN X0 K d1_0 1 rfl rfl ?_
  refine o_if_lt X0 K d1_1 9 (by decide) (by decide) 4 rfl (fun hc1 => ?_) (fun hc1 => ?_)
  · refine o_iloadN X0 K d1_9 10 rfl rfl ?_
    refine o_ireturn X0 K d1_10 (by decide) (by decide) N0 ?_
    exact ⟨_, rfl, by rw [own_next, if_pos (by omega)], e0⟩
  · refine o_iloadN X0 K d1_4 5 rfl rfl ?_
    refine o_iloadN X0 K d1_5 6 rfl rfl ?_
    refine o_icmp_lt X0 K d1_6 11 (by decide) (by decide) 9 rfl (fun hc6 => ?_) (fun hc6 => ?_)
    · refine o_aloadN X0 K d1_11 12 rfl rfl rfl ?_
      refine o_iloadN X0 K d1_12 13 rfl rfl ?_
      refine o_iloadN X0 K d1_13 14 rfl rfl ?_
      refine o_invokestatic X0 K d1_14 17 rfl (w_6 hw) (w_7 hw) (w_4 hw) (w_8 hw) (by decide) [(.ref a), (.int i), (.int to)] [] rfl  (c_seq l Z a0 hw n0 a g i to h0 Z0 A_a (by omega)) e0 rfl (lenOf pd___BII_I rfl) (by decide) 0 (Nat.le_of_eq rfl) (by decide) (by decide) (by decide) N0 ?_
      rintro _ T_1 h_1 locs_1 X_1 q_1 ⟨rv_1, rfl, hb_1, r_1⟩ N_1
      have e_1 := q_1.trans r_1
      show OGo p e below s n0 _ _ _ (T_1.setTop (mkF m 17 #[.val (.ref a), .val (.int i), .val (.int to), .unset] [(.int rv_1)]))
      refine o_istoreN X_1 K d1_17 18 rfl #[.val (.ref a), .val (.int i), .val (.int to), .val (.int rv_1)] rfl rfl ?_
      refine o_iloadN X_1 K d1_18 19 rfl rfl ?_
      refine o_if_ne X_1 K d1_19 24 (by decide) (by decide) 22 rfl (fun hc19 => ?_) (fun hc19 => ?_)
      · rw [← Int32.toInt_inj] at hc19
        refine o_iloadN X_1 K d1_24 25 rfl rfl ?_
        refine o_iloadN X_1 K d1_25 26 rfl rfl ?_
        refine o_iadd X_1 K d1_26 27 rfl ?_
        refine o_ireturn X_1 K d1_27 (by decide) (by decide) N_1 ?_
        have hr := own_sq_r (g i.toInt.toNat &&& 255).toInt (g (i.toInt.toNat + 1) &&& 255).toInt (g (i.toInt.toNat + 2) &&& 255).toInt (g (i.toInt.toNat + 3) &&& 255).toInt (to.toInt - i.toInt) (by omega)
        change 0 ≤ own_at g to.toInt i.toInt ∧ own_at g to.toInt i.toInt ≤ 4 ∧ own_at g to.toInt i.toInt ≤ to.toInt - i.toInt at hr
        have q1 := c_iadd i rv_1
        have q2 := rng32 (i + rv_1)
        exact ⟨_, rfl, by rw [own_next, if_neg (by omega), if_neg (by omega)]; omega, e_1⟩
      · rw [← Int32.toInt_inj] at hc19
        refine o_iconst X_1 K (-1 : Int32) d1_22 23 rfl rfl ?_
        refine o_ireturn X_1 K d1_23 (by decide) (by decide) N_1 ?_
        exact ⟨_, rfl, by rw [own_next, if_neg (by omega), if_pos (by omega)]; rfl, e_1⟩
    · refine o_iloadN X0 K d1_9 10 rfl rfl ?_
      refine o_ireturn X0 K d1_10 (by decide) (by decide) N0 ?_
      exact ⟨_, rfl, by rw [own_next, if_pos (by omega)], e0⟩
theorem d3_0 : decode prog_6_method_3_code 0 = .ok (.iload_n 1, 1) := by decide +kernel
theorem d3_1 : decode prog_6_method_3_code 1 = .ok (.istore_n 3, 1) := by decide +kernel
theorem d3_2 : decode prog_6_method_3_code 2 = .ok (.iload_n 3, 1) := by decide +kernel
theorem d3_3 : decode prog_6_method_3_code 3 = .ok (.iload_n 2, 1) := by decide +kernel
theorem d3_4 : decode prog_6_method_3_code 4 = .ok (.if_icmp .ge 253, 3) := by decide +kernel
theorem d3_257 : decode prog_6_method_3_code 257 = .ok (.iconst 1, 1) := by decide +kernel
theorem d3_258 : decode prog_6_method_3_code 258 = .ok (.ireturn, 1) := by decide +kernel
theorem d3_7 : decode prog_6_method_3_code 7 = .ok (.aload_n 0, 1) := by decide +kernel
theorem d3_8 : decode prog_6_method_3_code 8 = .ok (.iload_n 3, 1) := by decide +kernel
theorem d3_9 : decode prog_6_method_3_code 9 = .ok (.baload, 1) := by decide +kernel
theorem d3_10 : decode prog_6_method_3_code 10 = .ok (.sipush 255, 3) := by decide +kernel
theorem d3_13 : decode prog_6_method_3_code 13 = .ok (.iand, 1) := by decide +kernel
theorem d3_14 : decode prog_6_method_3_code 14 = .ok (.istore 4, 2) := by decide +kernel
theorem d3_16 : decode prog_6_method_3_code 16 = .ok (.sipush 128, 3) := by decide +kernel
theorem d3_19 : decode prog_6_method_3_code 19 = .ok (.istore 6, 2) := by decide +kernel
theorem d3_21 : decode prog_6_method_3_code 21 = .ok (.sipush 191, 3) := by decide +kernel
theorem d3_24 : decode prog_6_method_3_code 24 = .ok (.istore 7, 2) := by decide +kernel
theorem d3_26 : decode prog_6_method_3_code 26 = .ok (.iload 4, 2) := by decide +kernel
theorem d3_28 : decode prog_6_method_3_code 28 = .ok (.sipush 128, 3) := by decide +kernel
theorem d3_31 : decode prog_6_method_3_code 31 = .ok (.if_icmp .ge 9, 3) := by decide +kernel
theorem d3_40 : decode prog_6_method_3_code 40 = .ok (.iload 4, 2) := by decide +kernel
theorem d3_42 : decode prog_6_method_3_code 42 = .ok (.sipush 194, 3) := by decide +kernel
theorem d3_45 : decode prog_6_method_3_code 45 = .ok (.if_icmp .ge 5, 3) := by decide +kernel
theorem d3_50 : decode prog_6_method_3_code 50 = .ok (.iload 4, 2) := by decide +kernel
theorem d3_52 : decode prog_6_method_3_code 52 = .ok (.sipush 224, 3) := by decide +kernel
theorem d3_55 : decode prog_6_method_3_code 55 = .ok (.if_icmp .ge 9, 3) := by decide +kernel
theorem d3_64 : decode prog_6_method_3_code 64 = .ok (.iload 4, 2) := by decide +kernel
theorem d3_66 : decode prog_6_method_3_code 66 = .ok (.sipush 240, 3) := by decide +kernel
theorem d3_69 : decode prog_6_method_3_code 69 = .ok (.if_icmp .ge 47, 3) := by decide +kernel
theorem d3_116 : decode prog_6_method_3_code 116 = .ok (.iload 4, 2) := by decide +kernel
theorem d3_118 : decode prog_6_method_3_code 118 = .ok (.sipush 245, 3) := by decide +kernel
theorem d3_121 : decode prog_6_method_3_code 121 = .ok (.if_icmp .ge 47, 3) := by decide +kernel
theorem d3_168 : decode prog_6_method_3_code 168 = .ok (.iconst 0, 1) := by decide +kernel
theorem d3_169 : decode prog_6_method_3_code 169 = .ok (.ireturn, 1) := by decide +kernel
theorem d3_124 : decode prog_6_method_3_code 124 = .ok (.iconst 4, 1) := by decide +kernel
theorem d3_125 : decode prog_6_method_3_code 125 = .ok (.istore 5, 2) := by decide +kernel
theorem d3_127 : decode prog_6_method_3_code 127 = .ok (.iload 4, 2) := by decide +kernel
theorem d3_129 : decode prog_6_method_3_code 129 = .ok (.sipush 240, 3) := by decide +kernel
theorem d3_132 : decode prog_6_method_3_code 132 = .ok (.if_icmp .ne 9, 3) := by decide +kernel
theorem d3_141 : decode prog_6_method_3_code 141 = .ok (.sipush 128, 3) := by decide +kernel
theorem d3_144 : decode prog_6_method_3_code 144 = .ok (.istore 6, 2) := by decide +kernel
theorem d3_146 : decode prog_6_method_3_code 146 = .ok (.iload 4, 2) := by decide +kernel
theorem d3_148 : decode prog_6_method_3_code 148 = .ok (.sipush 244, 3) := by decide +kernel
theorem d3_151 : decode prog_6_method_3_code 151 = .ok (.if_icmp .ne 9, 3) := by decide +kernel
theorem d3_160 : decode prog_6_method_3_code 160 = .ok (.sipush 191, 3) := by decide +kernel
theorem d3_163 : decode prog_6_method_3_code 163 = .ok (.istore 7, 2) := by decide +kernel
theorem d3_165 : decode prog_6_method_3_code 165 = .ok (.goto 5, 3) := by decide +kernel
theorem d3_170 : decode prog_6_method_3_code 170 = .ok (.iload 5, 2) := by decide +kernel
theorem d3_172 : decode prog_6_method_3_code 172 = .ok (.iconst 1, 1) := by decide +kernel
theorem d3_173 : decode prog_6_method_3_code 173 = .ok (.if_icmp .le 76, 3) := by decide +kernel
theorem d3_176 : decode prog_6_method_3_code 176 = .ok (.iload_n 2, 1) := by decide +kernel
theorem d3_177 : decode prog_6_method_3_code 177 = .ok (.iload_n 3, 1) := by decide +kernel
theorem d3_178 : decode prog_6_method_3_code 178 = .ok (.isub, 1) := by decide +kernel
theorem d3_179 : decode prog_6_method_3_code 179 = .ok (.iload 5, 2) := by decide +kernel
theorem d3_181 : decode prog_6_method_3_code 181 = .ok (.if_icmp .ge 5, 3) := by decide +kernel
theorem d3_186 : decode prog_6_method_3_code 186 = .ok (.aload_n 0, 1) := by decide +kernel
theorem d3_187 : decode prog_6_method_3_code 187 = .ok (.iload_n 3, 1) := by decide +kernel
theorem d3_188 : decode prog_6_method_3_code 188 = .ok (.iconst 1, 1) := by decide +kernel
theorem d3_189 : decode prog_6_method_3_code 189 = .ok (.iadd, 1) := by decide +kernel
theorem d3_190 : decode prog_6_method_3_code 190 = .ok (.baload, 1) := by decide +kernel
theorem d3_191 : decode prog_6_method_3_code 191 = .ok (.sipush 255, 3) := by decide +kernel
theorem d3_194 : decode prog_6_method_3_code 194 = .ok (.iand, 1) := by decide +kernel
theorem d3_195 : decode prog_6_method_3_code 195 = .ok (.istore 8, 2) := by decide +kernel
theorem d3_197 : decode prog_6_method_3_code 197 = .ok (.iload 8, 2) := by decide +kernel
theorem d3_199 : decode prog_6_method_3_code 199 = .ok (.iload 6, 2) := by decide +kernel
theorem d3_201 : decode prog_6_method_3_code 201 = .ok (.if_icmp .lt 10, 3) := by decide +kernel
theorem d3_211 : decode prog_6_method_3_code 211 = .ok (.iconst 0, 1) := by decide +kernel
theorem d3_212 : decode prog_6_method_3_code 212 = .ok (.ireturn, 1) := by decide +kernel
theorem d3_204 : decode prog_6_method_3_code 204 = .ok (.iload 8, 2) := by decide +kernel
theorem d3_206 : decode prog_6_method_3_code 206 = .ok (.iload 7, 2) := by decide +kernel
theorem d3_208 : decode prog_6_method_3_code 208 = .ok (.if_icmp .le 5, 3) := by decide +kernel
theorem d3_213 : decode prog_6_method_3_code 213 = .ok (.iload_n 3, 1) := by decide +kernel
theorem d3_214 : decode prog_6_method_3_code 214 = .ok (.iconst 2, 1) := by decide +kernel
theorem d3_215 : decode prog_6_method_3_code 215 = .ok (.iadd, 1) := by decide +kernel
theorem d3_216 : decode prog_6_method_3_code 216 = .ok (.istore 9, 2) := by decide +kernel
theorem d3_218 : decode prog_6_method_3_code 218 = .ok (.iload 9, 2) := by decide +kernel
theorem d3_220 : decode prog_6_method_3_code 220 = .ok (.iload_n 3, 1) := by decide +kernel
theorem d3_221 : decode prog_6_method_3_code 221 = .ok (.iload 5, 2) := by decide +kernel
theorem d3_223 : decode prog_6_method_3_code 223 = .ok (.iadd, 1) := by decide +kernel
theorem d3_224 : decode prog_6_method_3_code 224 = .ok (.if_icmp .ge 25, 3) := by decide +kernel
theorem d3_227 : decode prog_6_method_3_code 227 = .ok (.aload_n 0, 1) := by decide +kernel
theorem d3_228 : decode prog_6_method_3_code 228 = .ok (.iload 9, 2) := by decide +kernel
theorem d3_230 : decode prog_6_method_3_code 230 = .ok (.baload, 1) := by decide +kernel
theorem d3_231 : decode prog_6_method_3_code 231 = .ok (.sipush 192, 3) := by decide +kernel
theorem d3_234 : decode prog_6_method_3_code 234 = .ok (.iand, 1) := by decide +kernel
theorem d3_235 : decode prog_6_method_3_code 235 = .ok (.sipush 128, 3) := by decide +kernel
theorem d3_238 : decode prog_6_method_3_code 238 = .ok (.if_icmp .eq 5, 3) := by decide +kernel
theorem d3_243 : decode prog_6_method_3_code 243 = .ok (.iinc 9 1, 3) := by decide +kernel
theorem d3_246 : decode prog_6_method_3_code 246 = .ok (.goto (-28), 3) := by decide +kernel
theorem d3_249 : decode prog_6_method_3_code 249 = .ok (.iload_n 3, 1) := by decide +kernel
theorem d3_250 : decode prog_6_method_3_code 250 = .ok (.iload 5, 2) := by decide +kernel
theorem d3_252 : decode prog_6_method_3_code 252 = .ok (.iadd, 1) := by decide +kernel
theorem d3_253 : decode prog_6_method_3_code 253 = .ok (.istore_n 3, 1) := by decide +kernel
theorem d3_254 : decode prog_6_method_3_code 254 = .ok (.goto (-252), 3) := by decide +kernel
theorem d3_241 : decode prog_6_method_3_code 241 = .ok (.iconst 0, 1) := by decide +kernel
theorem d3_242 : decode prog_6_method_3_code 242 = .ok (.ireturn, 1) := by decide +kernel
theorem d3_184 : decode prog_6_method_3_code 184 = .ok (.iconst 0, 1) := by decide +kernel
theorem d3_185 : decode prog_6_method_3_code 185 = .ok (.ireturn, 1) := by decide +kernel
theorem d3_154 : decode prog_6_method_3_code 154 = .ok (.sipush 143, 3) := by decide +kernel
theorem d3_157 : decode prog_6_method_3_code 157 = .ok (.goto 6, 3) := by decide +kernel
theorem d3_135 : decode prog_6_method_3_code 135 = .ok (.sipush 144, 3) := by decide +kernel
theorem d3_138 : decode prog_6_method_3_code 138 = .ok (.goto 6, 3) := by decide +kernel
theorem d3_72 : decode prog_6_method_3_code 72 = .ok (.iconst 3, 1) := by decide +kernel
theorem d3_73 : decode prog_6_method_3_code 73 = .ok (.istore 5, 2) := by decide +kernel
theorem d3_75 : decode prog_6_method_3_code 75 = .ok (.iload 4, 2) := by decide +kernel
theorem d3_77 : decode prog_6_method_3_code 77 = .ok (.sipush 224, 3) := by decide +kernel
theorem d3_80 : decode prog_6_method_3_code 80 = .ok (.if_icmp .ne 9, 3) := by decide +kernel
theorem d3_89 : decode prog_6_method_3_code 89 = .ok (.sipush 128, 3) := by decide +kernel
theorem d3_92 : decode prog_6_method_3_code 92 = .ok (.istore 6, 2) := by decide +kernel
theorem d3_94 : decode prog_6_method_3_code 94 = .ok (.iload 4, 2) := by decide +kernel
theorem d3_96 : decode prog_6_method_3_code 96 = .ok (.sipush 237, 3) := by decide +kernel
theorem d3_99 : decode prog_6_method_3_code 99 = .ok (.if_icmp .ne 9, 3) := by decide +kernel
theorem d3_108 : decode prog_6_method_3_code 108 = .ok (.sipush 191, 3) := by decide +kernel
theorem d3_111 : decode prog_6_method_3_code 111 = .ok (.istore 7, 2) := by decide +kernel
theorem d3_113 : decode prog_6_method_3_code 113 = .ok (.goto 57, 3) := by decide +kernel
theorem d3_102 : decode prog_6_method_3_code 102 = .ok (.sipush 159, 3) := by decide +kernel
theorem d3_105 : decode prog_6_method_3_code 105 = .ok (.goto 6, 3) := by decide +kernel
theorem d3_83 : decode prog_6_method_3_code 83 = .ok (.sipush 160, 3) := by decide +kernel
theorem d3_86 : decode prog_6_method_3_code 86 = .ok (.goto 6, 3) := by decide +kernel
theorem d3_58 : decode prog_6_method_3_code 58 = .ok (.iconst 2, 1) := by decide +kernel
theorem d3_59 : decode prog_6_method_3_code 59 = .ok (.istore 5, 2) := by decide +kernel
theorem d3_61 : decode prog_6_method_3_code 61 = .ok (.goto 109, 3) := by decide +kernel
theorem d3_48 : decode prog_6_method_3_code 48 = .ok (.iconst 0, 1) := by decide +kernel
theorem d3_49 : decode prog_6_method_3_code 49 = .ok (.ireturn, 1) := by decide +kernel
theorem d3_34 : decode prog_6_method_3_code 34 = .ok (.iconst 1, 1) := by decide +kernel
theorem d3_35 : decode prog_6_method_3_code 35 = .ok (.istore 5, 2) := by decide +kernel
theorem d3_37 : decode prog_6_method_3_code 37 = .ok (.goto 133, 3) := by decide +kernel
theorem pn_3 : plainFor (⟨"com/example/vikt/vikt/graph/LinkListReader", "isUtf8", "([BII)Z"⟩ : MethodName) = true := plainFor_of_name (by first | (simp [plainName, overriddenIn]; done) | decide +kernel)
set_option maxHeartbeats 4000000 in
theorem c_is (l : Launch) (Z : State) (a0 : Array Value) (hw : OW Z a0) (n0 : Nat) (a : Addr) (g : Nat → Int32) (fr to : Int32) (h0 : Heap) (Z0 : n0 ≤ h0.size) (A_a : OAr Z h0 a .byte 6 (fun j => .int (g j))) (hft : 0 ≤ fr.toInt ∧ fr.toInt ≤ to.toInt ∧ to.toInt ≤ 6 ∧ to.toInt - fr.toInt ≤ 5) :
    OCon l Z n0 (⟨"com/example/vikt/vikt/graph/LinkListReader", "isUtf8", "([BII)Z"⟩ : MethodName) prog_6_method_3_code 10 (some .boolean) ({ frames := 0, cells := 0, slots := 0, locals := 0 } : Room) #[(.ref a), (.int fr), (.int to)] h0 (fun v h => ∃ r : Int32, v = some (.int r) ∧ ((r = 1 ∧ own_it g to.toInt 5 fr.toInt = to.toInt) ∨ (r = 0 ∧ ¬ own_it g to.toInt 5 fr.toInt = to.toInt)) ∧ h = h0) := by
  refine OCon.of (Ls := #[.val (.ref a), .val (.int fr), .val (.int to), .unset, .unset, .unset, .unset, .unset, .unset, .unset]) pn_3 rfl rfl (fun m => by first | (simp [entryFrame, mkF, argsToLocals, Value.category]; done) | rfl) ?_
  intro p e s m below meth c T0 X0 K e0
  have N0 := Fr.nil n0
  have l0 : (0 : Int32).toInt = 0 := rfl
  have l1 : (1 : Int32).toInt = 1 := rfl
  have l2 : (2 : Int32).toInt = 2 := rfl
  have l3 : (3 : Int32).toInt = 3 := rfl
  have l4 : (4 : Int32).toInt = 4 := rfl
  have l128 : (128 : Int32).toInt = 128 := rfl
  have l143 : (143 : Int32).toInt = 143 := rfl
  have l144 : (144 : Int32).toInt = 144 := rfl
  have l159 : (159 : Int32).toInt = 159 := rfl
  have l160 : (160 : Int32).toInt = 160 := rfl
  have l191 : (191 : Int32).toInt = 191 := rfl
  have l192 : (192 : Int32).toInt = 192 := rfl
  have l194 : (194 : Int32).toInt = 194 := rfl
  have l224 : (224 : Int32).toInt = 224 := rfl
  have l237 : (237 : Int32).toInt = 237 := rfl
  have l240 : (240 : Int32).toInt = 240 := rfl
  have l244 : (244 : Int32).toInt = 244 := rfl
  have l245 : (245 : Int32).toInt = 245 := rfl
  have l255 : (255 : Int32).toInt = 255 := rfl
  refine o_iloadN X0 K d3_0 1 rfl rfl ?_
  refine o_istoreN X0 K d3_1 2 rfl #[.val (.ref a), .val (.int fr), .val (.int to), .val (.int fr), .unset, .unset, .unset, .unset, .unset, .unset] rfl rfl ?_
  refine o_ind (fun (t : Int32 × Slot × Slot × Slot × Slot × Slot × Slot) => T0.setTop (mkF m 2 #[.val (.ref a), .val (.int fr), .val (.int to), .val (.int t.1), t.2.1, t.2.2.1, t.2.2.2.1, t.2.2.2.2.1, t.2.2.2.2.2.1, t.2.2.2.2.2.2] [])) (fun d t => 0 ≤ t.1.toInt ∧ t.1.toInt ≤ to.toInt ∧ to.toInt - t.1.toInt ≤ d ∧ own_it g to.toInt d t.1.toInt = own_it g to.toInt 5 fr.toInt ∧ One (t.2.1) ∧ One (t.2.2.1) ∧ One (t.2.2.2.1) ∧ One (t.2.2.2.2.1) ∧ One (t.2.2.2.2.2.1) ∧ One (t.2.2.2.2.2.2)) ?_ ?_ 5 (fr, .unset, .unset, .unset, .unset, .unset, .unset) ⟨by show 0 ≤ fr.toInt; omega, by show fr.toInt ≤ _; omega, by show to.toInt - fr.toInt ≤ 5; omega, rfl, Or.inl rfl, Or.inl rfl, Or.inl rfl, Or.inl rfl, Or.inl rfl, Or.inl rfl⟩
  · rintro ⟨i, s4, s5, s6, s7, s8, s9⟩ ⟨hi0, hi1, hi2, hR, h_s4, h_s5, h_s6, h_s7, h_s8, h_s9⟩
    dsimp only at hi0 hi1 hi2 hR h_s4 h_s5 h_s6 h_s7 h_s8 h_s9
    show OGo p e below s n0 _ _ _ (T0.setTop (mkF m 2 #[.val (.ref a), .val (.int fr), .val (.int to), .val (.int i), s4, s5, s6, s7, s8, s9] []))
    refine o_iloadN X0 K d3_2 3 rfl rfl ?_
    refine o_iloadN X0 K d3_3 4 rfl rfl ?_
    refine o_icmp_ge_t X0 K d3_4 257 (by decide) (by decide) (by omega) ?_
    refine o_iconst X0 K (1 : Int32) d3_257 258 rfl rfl ?_
    refine o_ireturnN X0 K (by decide) d3_258 (by decide) (by decide) N0 ?_
    refine ⟨_, rfl, Or.inl ⟨rfl, ?_⟩, e0⟩
    rw [← hR]
    show i.toInt = to.toInt
    omega
  · rintro d ih ⟨i, s4, s5, s6, s7, s8, s9⟩ ⟨hi0, hi1, hi2, hR, h_s4, h_s5, h_s6, h_s7, h_s8, h_s9⟩
    dsimp only at hi0 hi1 hi2 hR h_s4 h_s5 h_s6 h_s7 h_s8 h_s9
    show OGo p e below s n0 _ _ _ (T0.setTop (mkF m 2 #[.val (.ref a), .val (.int fr), .val (.int to), .val (.int i), s4, s5, s6, s7, s8, s9] []))
    refine o_iloadN X0 K d3_2 3 rfl rfl ?_
    refine o_iloadN X0 K d3_3 4 rfl rfl ?_
    refine o_icmp_ge X0 K d3_4 257 (by decide) (by decide) 7 rfl (fun hc4 => ?_) (fun hc4 => ?_)
    · refine o_iconst X0 K (1 : Int32) d3_257 258 rfl rfl ?_
      refine o_ireturnN X0 K (by decide) d3_258 (by decide) (by decide) N0 ?_
      rw [own_it_fix _ _ _ _ (Or.inr hc4)] at hR
      exact ⟨_, rfl, Or.inl ⟨rfl, by rw [← hR]; omega⟩, e0⟩
    · obtain ⟨iN, hiN⟩ : ∃ k, k = i.toInt.toNat := ⟨_, rfl⟩
      have hto : (to - i).toInt = to.toInt - i.toInt := by have q1 := c_isub to i; have q2 := rng32 (to - i); omega
      have hp1 : (i + (1 : Int32)).toInt = i.toInt + 1 := by have q1 := c_iadd i 1; have q2 := rng32 (i + 1); omega
      have hp2 : (i + (2 : Int32)).toInt = i.toInt + 2 := by have q1 := c_iadd i 2; have q2 := rng32 (i + 2); omega
      have hp3 : (i + (3 : Int32)).toInt = i.toInt + 3 := by have q1 := c_iadd i 3; have q2 := rng32 (i + 3); omega
      have hp4 : (i + (4 : Int32)).toInt = i.toInt + 4 := by have q1 := c_iadd i 4; have q2 := rng32 (i + 4); omega
      have hq0 := own_m255 (g iN)
      have hq1 := own_m255 (g (iN + 1))
      have hq2 := own_m255 (g (iN + 2))
      have hq3 := own_m255 (g (iN + 3))
      have hsq : own_at g to.toInt i.toInt = own_sq (g iN &&& 255).toInt (g (iN + 1) &&& 255).toInt (g (iN + 2) &&& 255).toInt (g (iN + 3) &&& 255).toInt (to.toInt - i.toInt) := by rw [own_at, hiN]
      rw [own_it, own_next, if_neg (by omega), hsq] at hR
      refine o_aloadN X0 K d3_7 8 rfl rfl rfl ?_
      refine o_iloadN X0 K d3_8 9 rfl rfl ?_
      refine o_baload X0 K (i := iN) (v := (.int (g iN))) d3_9 10 rfl e0 A_a (by omega) (by omega) (rfl) ?_
      refine o_sipush X0 K (255 : Int32) d3_10 13 rfl rfl ?_
      refine o_iand X0 K d3_13 14 rfl ?_
      obtain ⟨ld, h_ld⟩ : ∃ z_ : Int32, z_ = ((g iN) &&& (255 : Int32)) := ⟨_, rfl⟩
      refine o_istore X0 K d3_14 16 rfl #[.val (.ref a), .val (.int fr), .val (.int to), .val (.int i), .val (.int ld), s5, s6, s7, s8, s9] h_ld.symm (XS.store1 rfl h_s4 rfl) ?_
      refine o_sipush X0 K (128 : Int32) d3_16 19 rfl rfl ?_
      refine o_istore X0 K d3_19 21 rfl #[.val (.ref a), .val (.int fr), .val (.int to), .val (.int i), .val (.int ld), s5, .val (.int (128 : Int32)), s7, s8, s9] rfl (XS.store1 rfl h_s6 rfl) ?_
      refine o_sipush X0 K (191 : Int32) d3_21 24 rfl rfl ?_
      refine o_istore X0 K d3_24 26 rfl #[.val (.ref a), .val (.int fr), .val (.int to), .val (.int i), .val (.int ld), s5, .val (.int (128 : Int32)), .val (.int (191 : Int32)), s8, s9] rfl (XS.store1 rfl h_s7 rfl) ?_
      refine o_iload X0 K d3_26 28 rfl rfl ?_
      refine o_sipush X0 K (128 : Int32) d3_28 31 rfl rfl ?_
      refine o_icmp_ge X0 K d3_31 40 (by decide) (by decide) 34 rfl (fun hc31 => ?_) (fun hc31 => ?_)
      · refine o_iload X0 K d3_40 42 rfl rfl ?_
        refine o_sipush X0 K (194 : Int32) d3_42 45 rfl rfl ?_
        refine o_icmp_ge X0 K d3_45 50 (by decide) (by decide) 48 rfl (fun hc45 => ?_) (fun hc45 => ?_)
        · refine o_iload X0 K d3_50 52 rfl rfl ?_
          refine o_sipush X0 K (224 : Int32) d3_52 55 rfl rfl ?_
          refine o_icmp_ge X0 K d3_55 64 (by decide) (by decide) 58 rfl (fun hc55 => ?_) (fun hc55 => ?_)
          · refine o_iload X0 K d3_64 66 rfl rfl ?_
            refine o_sipush X0 K (240 : Int32) d3_66 69 rfl rfl ?_
            refine o_icmp_ge X0 K d3_69 116 (by decide) (by decide) 72 rfl (fun hc69 => ?_) (fun hc69 => ?_)
            · refine o_iload X0 K d3_116 118 rfl rfl ?_
              refine o_sipush X0 K (245 : Int32) d3_118 121 rfl rfl ?_
              refine o_icmp_ge X0 K d3_121 168 (by decide) (by decide) 124 rfl (fun hc121 => ?_) (fun hc121 => ?_)
              · refine o_iconst X0 K (0 : Int32) d3_168 169 rfl rfl ?_
                refine o_ireturnN X0 K (by decide) d3_169 (by decide) (by decide) N0 ?_
                refine ⟨_, rfl, Or.inr ⟨rfl, ?_⟩, e0⟩
                clear X0 K e0 N0
                rw [← hR]
                subst h_ld
                have hz : own_sq (g iN &&& 255).toInt (g (iN + 1) &&& 255).toInt (g (iN + 2) &&& 255).toInt (g (iN + 3) &&& 255).toInt (to.toInt - i.toInt) = 0 := by
                  simp only [own_sq, own_len]
                  (repeat' split) <;> omega
                rw [if_pos hz, own_it_fix _ _ _ _ (Or.inl (by decide))]
                omega
              · refine o_iconst X0 K (4 : Int32) d3_124 125 rfl rfl ?_
                refine o_istore X0 K d3_125 127 rfl #[.val (.ref a), .val (.int fr), .val (.int to), .val (.int i), .val (.int ld), .val (.int (4 : Int32)), .val (.int (128 : Int32)), .val (.int (191 : Int32)), s8, s9] rfl (XS.store1 rfl h_s5 rfl) ?_
                refine o_iload X0 K d3_127 129 rfl rfl ?_
                refine o_sipush X0 K (240 : Int32) d3_129 132 rfl rfl ?_
                refine o_icmp_ne X0 K d3_132 141 (by decide) (by decide) 135 rfl (fun hc132 => ?_) (fun hc132 => ?_)
                · rw [← Int32.toInt_inj] at hc132
                  refine o_sipush X0 K (128 : Int32) d3_141 144 rfl rfl ?_
                  refine o_istore X0 K d3_144 146 rfl #[.val (.ref a), .val (.int fr), .val (.int to), .val (.int i), .val (.int ld), .val (.int (4 : Int32)), .val (.int (128 : Int32)), .val (.int (191 : Int32)), s8, s9] rfl rfl ?_
                  refine o_iload X0 K d3_146 148 rfl rfl ?_
                  refine o_sipush X0 K (244 : Int32) d3_148 151 rfl rfl ?_
                  refine o_icmp_ne X0 K d3_151 160 (by decide) (by decide) 154 rfl (fun hc151 => ?_) (fun hc151 => ?_)
                  · rw [← Int32.toInt_inj] at hc151
                    refine o_sipush X0 K (191 : Int32) d3_160 163 rfl rfl ?_
                    refine o_istore X0 K d3_163 165 rfl #[.val (.ref a), .val (.int fr), .val (.int to), .val (.int i), .val (.int ld), .val (.int (4 : Int32)), .val (.int (128 : Int32)), .val (.int (191 : Int32)), s8, s9] rfl rfl ?_
                    refine o_goto X0 K d3_165 170 (by decide) (by decide) ?_
                    refine o_iload X0 K d3_170 172 rfl rfl ?_
                    refine o_iconst X0 K (1 : Int32) d3_172 173 rfl rfl ?_
                    refine o_icmp_le_f X0 K d3_173 176 rfl (by decide) ?_
                    refine o_iloadN X0 K d3_176 177 rfl rfl ?_
                    refine o_iloadN X0 K d3_177 178 rfl rfl ?_
                    refine o_isub X0 K d3_178 179 rfl ?_
                    refine o_iload X0 K d3_179 181 rfl rfl ?_
                    refine o_icmp_ge X0 K d3_181 186 (by decide) (by decide) 184 rfl (fun hc181 => ?_) (fun hc181 => ?_)
                    · refine o_aloadN X0 K d3_186 187 rfl rfl rfl ?_
                      refine o_iloadN X0 K d3_187 188 rfl rfl ?_
                      refine o_iconst X0 K (1 : Int32) d3_188 189 rfl rfl ?_
                      refine o_iadd X0 K d3_189 190 rfl ?_
                      refine o_baload X0 K (i := (iN + 1)) (v := (.int (g (iN + 1)))) d3_190 191 rfl e0 A_a (by omega) (by omega) (rfl) ?_
                      refine o_sipush X0 K (255 : Int32) d3_191 194 rfl rfl ?_
                      refine o_iand X0 K d3_194 195 rfl ?_
                      obtain ⟨sc, h_sc⟩ : ∃ z_ : Int32, z_ = ((g (iN + 1)) &&& (255 : Int32)) := ⟨_, rfl⟩
                      refine o_istore X0 K d3_195 197 rfl #[.val (.ref a), .val (.int fr), .val (.int to), .val (.int i), .val (.int ld), .val (.int (4 : Int32)), .val (.int (128 : Int32)), .val (.int (191 : Int32)), .val (.int sc), s9] h_sc.symm (XS.store1 rfl h_s8 rfl) ?_
                      refine o_iload X0 K d3_197 199 rfl rfl ?_
                      refine o_iload X0 K d3_199 201 rfl rfl ?_
                      refine o_icmp_lt X0 K d3_201 211 (by decide) (by decide) 204 rfl (fun hc201 => ?_) (fun hc201 => ?_)
                      · refine o_iconst X0 K (0 : Int32) d3_211 212 rfl rfl ?_
                        refine o_ireturnN X0 K (by decide) d3_212 (by decide) (by decide) N0 ?_
                        refine ⟨_, rfl, Or.inr ⟨rfl, ?_⟩, e0⟩
                        clear X0 K e0 N0
                        rw [← hR]
                        subst h_sc
                        subst h_ld
                        have hz : own_sq (g iN &&& 255).toInt (g (iN + 1) &&& 255).toInt (g (iN + 2) &&& 255).toInt (g (iN + 3) &&& 255).toInt (to.toInt - i.toInt) = 0 := by
                          simp only [own_sq, own_len]
                          (repeat' split) <;> omega
                        rw [if_pos hz, own_it_fix _ _ _ _ (Or.inl (by decide))]
                        omega
                      · refine o_iload X0 K d3_204 206 rfl rfl ?_
                        refine o_iload X0 K d3_206 208 rfl rfl ?_
                        refine o_icmp_le X0 K d3_208 213 (by decide) (by decide) 211 rfl (fun hc208 => ?_) (fun hc208 => ?_)
                        · refine o_iloadN X0 K d3_213 214 rfl rfl ?_
                          refine o_iconst X0 K (2 : Int32) d3_214 215 rfl rfl ?_
                          refine o_iadd X0 K d3_215 216 rfl ?_
                          obtain ⟨k2, h_k2⟩ : ∃ z_ : Int32, z_ = (i + (2 : Int32)) := ⟨_, rfl⟩
                          refine o_istore X0 K d3_216 218 rfl #[.val (.ref a), .val (.int fr), .val (.int to), .val (.int i), .val (.int ld), .val (.int (4 : Int32)), .val (.int (128 : Int32)), .val (.int (191 : Int32)), .val (.int sc), .val (.int k2)] h_k2.symm (XS.store1 rfl h_s9 rfl) ?_
                          have hk2 : k2.toInt = i.toInt + 2 := by rw [h_k2]; exact hp2
                          refine o_iload X0 K d3_218 220 rfl rfl ?_
                          refine o_iloadN X0 K d3_220 221 rfl rfl ?_
                          refine o_iload X0 K d3_221 223 rfl rfl ?_
                          refine o_iadd X0 K d3_223 224 rfl ?_
                          refine o_icmp_ge_f X0 K d3_224 227 rfl (by omega) ?_
                          refine o_aloadN X0 K d3_227 228 rfl rfl rfl ?_
                          refine o_iload X0 K d3_228 230 rfl rfl ?_
                          refine o_baload X0 K (i := (iN + 2)) (v := (.int (g (iN + 2)))) d3_230 231 rfl e0 A_a (by omega) (by omega) (rfl) ?_
                          refine o_sipush X0 K (192 : Int32) d3_231 234 rfl rfl ?_
                          refine o_iand X0 K d3_234 235 rfl ?_
                          refine o_sipush X0 K (128 : Int32) d3_235 238 rfl rfl ?_
                          refine o_icmp_eq X0 K d3_238 243 (by decide) (by decide) 241 rfl (fun hc238 => ?_) (fun hc238 => ?_)
                          · rw [← Int32.toInt_inj] at hc238
                            rw [Int32.toInt_inj, own_contS (A_a.fit (j := iN + 2) (by omega))] at hc238
                            have hcc2 := hc238
                            obtain ⟨k3, h_k3⟩ : ∃ z_ : Int32, z_ = (k2 + (1 : Int32)) := ⟨_, rfl⟩
                            refine o_iinc X0 K d3_243 246 rfl #[.val (.ref a), .val (.int fr), .val (.int to), .val (.int i), .val (.int ld), .val (.int (4 : Int32)), .val (.int (128 : Int32)), .val (.int (191 : Int32)), .val (.int sc), .val (.int k3)] rfl h_k3.symm rfl ?_
                            have hk3 : k3.toInt = i.toInt + 3 := by rw [h_k3]; have q1 := c_iadd k2 1; have q2 := rng32 (k2 + 1); omega
                            refine o_goto X0 K d3_246 218 (by decide) (by decide) ?_
                            refine o_iload X0 K d3_218 220 rfl rfl ?_
                            refine o_iloadN X0 K d3_220 221 rfl rfl ?_
                            refine o_iload X0 K d3_221 223 rfl rfl ?_
                            refine o_iadd X0 K d3_223 224 rfl ?_
                            refine o_icmp_ge_f X0 K d3_224 227 rfl (by omega) ?_
                            refine o_aloadN X0 K d3_227 228 rfl rfl rfl ?_
                            refine o_iload X0 K d3_228 230 rfl rfl ?_
                            refine o_baload X0 K (i := (iN + 3)) (v := (.int (g (iN + 3)))) d3_230 231 rfl e0 A_a (by omega) (by omega) (rfl) ?_
                            refine o_sipush X0 K (192 : Int32) d3_231 234 rfl rfl ?_
                            refine o_iand X0 K d3_234 235 rfl ?_
                            refine o_sipush X0 K (128 : Int32) d3_235 238 rfl rfl ?_
                            refine o_icmp_eq X0 K d3_238 243 (by decide) (by decide) 241 rfl (fun hc238 => ?_) (fun hc238 => ?_)
                            · rw [← Int32.toInt_inj] at hc238
                              rw [Int32.toInt_inj, own_contS (A_a.fit (j := iN + 3) (by omega))] at hc238
                              have hcc3 := hc238
                              obtain ⟨k4, h_k4⟩ : ∃ z_ : Int32, z_ = (k3 + (1 : Int32)) := ⟨_, rfl⟩
                              refine o_iinc X0 K d3_243 246 rfl #[.val (.ref a), .val (.int fr), .val (.int to), .val (.int i), .val (.int ld), .val (.int (4 : Int32)), .val (.int (128 : Int32)), .val (.int (191 : Int32)), .val (.int sc), .val (.int k4)] rfl h_k4.symm rfl ?_
                              have hk4 : k4.toInt = i.toInt + 4 := by rw [h_k4]; have q1 := c_iadd k3 1; have q2 := rng32 (k3 + 1); omega
                              refine o_goto X0 K d3_246 218 (by decide) (by decide) ?_
                              refine o_iload X0 K d3_218 220 rfl rfl ?_
                              refine o_iloadN X0 K d3_220 221 rfl rfl ?_
                              refine o_iload X0 K d3_221 223 rfl rfl ?_
                              refine o_iadd X0 K d3_223 224 rfl ?_
                              refine o_icmp_ge_t X0 K d3_224 249 (by decide) (by decide) (by omega) ?_
                              refine o_iloadN X0 K d3_249 250 rfl rfl ?_
                              refine o_iload X0 K d3_250 252 rfl rfl ?_
                              refine o_iadd X0 K d3_252 253 rfl ?_
                              obtain ⟨i2, h_i2⟩ : ∃ z_ : Int32, z_ = (i + (4 : Int32)) := ⟨_, rfl⟩
                              refine o_istoreN X0 K d3_253 254 rfl #[.val (.ref a), .val (.int fr), .val (.int to), .val (.int i2), .val (.int ld), .val (.int (4 : Int32)), .val (.int (128 : Int32)), .val (.int (191 : Int32)), .val (.int sc), .val (.int k4)] h_i2.symm rfl ?_
                              refine o_goto X0 K d3_254 2 (by decide) (by decide) ?_
                              have hi2' : i2.toInt = i.toInt + 4 := by rw [h_i2]; exact hp4
                              refine ih (i2, _, _, _, _, _, _) ⟨by show 0 ≤ i2.toInt; omega, by show i2.toInt ≤ _; omega, by show to.toInt - i2.toInt ≤ d; omega, ?_, Or.inr ⟨_, rfl, rfl⟩, Or.inr ⟨_, rfl, rfl⟩, Or.inr ⟨_, rfl, rfl⟩, Or.inr ⟨_, rfl, rfl⟩, Or.inr ⟨_, rfl, rfl⟩, Or.inr ⟨_, rfl, rfl⟩⟩
                              show own_it g to.toInt d i2.toInt = _
                              clear X0 K e0 N0 ih
                              subst h_sc
                              subst h_ld
                              have hz : own_sq (g iN &&& 255).toInt (g (iN + 1) &&& 255).toInt (g (iN + 2) &&& 255).toInt (g (iN + 3) &&& 255).toInt (to.toInt - i.toInt) = 4 := by
                                simp only [own_sq, own_len]
                                (repeat' split) <;> omega
                              rw [hz, if_neg (by decide)] at hR
                              rw [← hR, hi2']
                            · rw [← Int32.toInt_inj] at hc238
                              rw [Int32.toInt_inj, own_contS (A_a.fit (j := iN + 3) (by omega))] at hc238
                              have hcc3 := hc238
                              refine o_iconst X0 K (0 : Int32) d3_241 242 rfl rfl ?_
                              refine o_ireturnN X0 K (by decide) d3_242 (by decide) (by decide) N0 ?_
                              refine ⟨_, rfl, Or.inr ⟨rfl, ?_⟩, e0⟩
                              clear X0 K e0 N0
                              rw [← hR]
                              subst h_sc
                              subst h_ld
                              have hz : own_sq (g iN &&& 255).toInt (g (iN + 1) &&& 255).toInt (g (iN + 2) &&& 255).toInt (g (iN + 3) &&& 255).toInt (to.toInt - i.toInt) = 0 := by
                                simp only [own_sq, own_len]
                                (repeat' split) <;> omega
                              rw [if_pos hz, own_it_fix _ _ _ _ (Or.inl (by decide))]
                              omega
                          · rw [← Int32.toInt_inj] at hc238
                            rw [Int32.toInt_inj, own_contS (A_a.fit (j := iN + 2) (by omega))] at hc238
                            have hcc2 := hc238
                            refine o_iconst X0 K (0 : Int32) d3_241 242 rfl rfl ?_
                            refine o_ireturnN X0 K (by decide) d3_242 (by decide) (by decide) N0 ?_
                            refine ⟨_, rfl, Or.inr ⟨rfl, ?_⟩, e0⟩
                            clear X0 K e0 N0
                            rw [← hR]
                            subst h_sc
                            subst h_ld
                            have hz : own_sq (g iN &&& 255).toInt (g (iN + 1) &&& 255).toInt (g (iN + 2) &&& 255).toInt (g (iN + 3) &&& 255).toInt (to.toInt - i.toInt) = 0 := by
                              simp only [own_sq, own_len]
                              (repeat' split) <;> omega
                            rw [if_pos hz, own_it_fix _ _ _ _ (Or.inl (by decide))]
                            omega
                        · refine o_iconst X0 K (0 : Int32) d3_211 212 rfl rfl ?_
                          refine o_ireturnN X0 K (by decide) d3_212 (by decide) (by decide) N0 ?_
                          refine ⟨_, rfl, Or.inr ⟨rfl, ?_⟩, e0⟩
                          clear X0 K e0 N0
                          rw [← hR]
                          subst h_sc
                          subst h_ld
                          have hz : own_sq (g iN &&& 255).toInt (g (iN + 1) &&& 255).toInt (g (iN + 2) &&& 255).toInt (g (iN + 3) &&& 255).toInt (to.toInt - i.toInt) = 0 := by
                            simp only [own_sq, own_len]
                            (repeat' split) <;> omega
                          rw [if_pos hz, own_it_fix _ _ _ _ (Or.inl (by decide))]
                          omega
                    · refine o_iconst X0 K (0 : Int32) d3_184 185 rfl rfl ?_
                      refine o_ireturnN X0 K (by decide) d3_185 (by decide) (by decide) N0 ?_
                      refine ⟨_, rfl, Or.inr ⟨rfl, ?_⟩, e0⟩
                      clear X0 K e0 N0
                      rw [← hR]
                      subst h_ld
                      have hz : own_sq (g iN &&& 255).toInt (g (iN + 1) &&& 255).toInt (g (iN + 2) &&& 255).toInt (g (iN + 3) &&& 255).toInt (to.toInt - i.toInt) = 0 := by
                        simp only [own_sq, own_len]
                        (repeat' split) <;> omega
                      rw [if_pos hz, own_it_fix _ _ _ _ (Or.inl (by decide))]
                      omega
                  · rw [← Int32.toInt_inj] at hc151
                    refine o_sipush X0 K (143 : Int32) d3_154 157 rfl rfl ?_
                    refine o_goto X0 K d3_157 163 (by decide) (by decide) ?_
                    refine o_istore X0 K d3_163 165 rfl #[.val (.ref a), .val (.int fr), .val (.int to), .val (.int i), .val (.int ld), .val (.int (4 : Int32)), .val (.int (128 : Int32)), .val (.int (143 : Int32)), s8, s9] rfl rfl ?_
                    refine o_goto X0 K d3_165 170 (by decide) (by decide) ?_
                    refine o_iload X0 K d3_170 172 rfl rfl ?_
                    refine o_iconst X0 K (1 : Int32) d3_172 173 rfl rfl ?_
                    refine o_icmp_le_f X0 K d3_173 176 rfl (by decide) ?_
                    refine o_iloadN X0 K d3_176 177 rfl rfl ?_
                    refine o_iloadN X0 K d3_177 178 rfl rfl ?_
                    refine o_isub X0 K d3_178 179 rfl ?_
                    refine o_iload X0 K d3_179 181 rfl rfl ?_
                    refine o_icmp_ge X0 K d3_181 186 (by decide) (by decide) 184 rfl (fun hc181 => ?_) (fun hc181 => ?_)
                    · refine o_aloadN X0 K d3_186 187 rfl rfl rfl ?_
                      refine o_iloadN X0 K d3_187 188 rfl rfl ?_
                      refine o_iconst X0 K (1 : Int32) d3_188 189 rfl rfl ?_
                      refine o_iadd X0 K d3_189 190 rfl ?_
                      refine o_baload X0 K (i := (iN + 1)) (v := (.int (g (iN + 1)))) d3_190 191 rfl e0 A_a (by omega) (by omega) (rfl) ?_
                      refine o_sipush X0 K (255 : Int32) d3_191 194 rfl rfl ?_
                      refine o_iand X0 K d3_194 195 rfl ?_
                      obtain ⟨sc, h_sc⟩ : ∃ z_ : Int32, z_ = ((g (iN + 1)) &&& (255 : Int32)) := ⟨_, rfl⟩
                      refine o_istore X0 K d3_195 197 rfl #[.val (.ref a), .val (.int fr), .val (.int to), .val (.int i), .val (.int ld), .val (.int (4 : Int32)), .val (.int (128 : Int32)), .val (.int (143 : Int32)), .val (.int sc), s9] h_sc.symm (XS.store1 rfl h_s8 rfl) ?_
                      refine o_iload X0 K d3_197 199 rfl rfl ?_
                      refine o_iload X0 K d3_199 201 rfl rfl ?_
                      refine o_icmp_lt X0 K d3_201 211 (by decide) (by decide) 204 rfl (fun hc201 => ?_) (fun hc201 => ?_)
                      · refine o_iconst X0 K (0 : Int32) d3_211 212 rfl rfl ?_
                        refine o_ireturnN X0 K (by decide) d3_212 (by decide) (by decide) N0 ?_
                        refine ⟨_, rfl, Or.inr ⟨rfl, ?_⟩, e0⟩
                        clear X0 K e0 N0
                        rw [← hR]
                        subst h_sc
                        subst h_ld
                        have hz : own_sq (g iN &&& 255).toInt (g (iN + 1) &&& 255).toInt (g (iN + 2) &&& 255).toInt (g (iN + 3) &&& 255).toInt (to.toInt - i.toInt) = 0 := by
                          simp only [own_sq, own_len]
                          (repeat' split) <;> omega
                        rw [if_pos hz, own_it_fix _ _ _ _ (Or.inl (by decide))]
                        omega
                      · refine o_iload X0 K d3_204 206 rfl rfl ?_
                        refine o_iload X0 K d3_206 208 rfl rfl ?_
                        refine o_icmp_le X0 K d3_208 213 (by decide) (by decide) 211 rfl (fun hc208 => ?_) (fun hc208 => ?_)
                        · refine o_iloadN X0 K d3_213 214 rfl rfl ?_
                          refine o_iconst X0 K (2 : Int32) d3_214 215 rfl rfl ?_
                          refine o_iadd X0 K d3_215 216 rfl ?_
                          obtain ⟨k2, h_k2⟩ : ∃ z_ : Int32, z_ = (i + (2 : Int32)) := ⟨_, rfl⟩
                          refine o_istore X0 K d3_216 218 rfl #[.val (.ref a), .val (.int fr), .val (.int to), .val (.int i), .val (.int ld), .val (.int (4 : Int32)), .val (.int (128 : Int32)), .val (.int (143 : Int32)), .val (.int sc), .val (.int k2)] h_k2.symm (XS.store1 rfl h_s9 rfl) ?_
                          have hk2 : k2.toInt = i.toInt + 2 := by rw [h_k2]; exact hp2
                          refine o_iload X0 K d3_218 220 rfl rfl ?_
                          refine o_iloadN X0 K d3_220 221 rfl rfl ?_
                          refine o_iload X0 K d3_221 223 rfl rfl ?_
                          refine o_iadd X0 K d3_223 224 rfl ?_
                          refine o_icmp_ge_f X0 K d3_224 227 rfl (by omega) ?_
                          refine o_aloadN X0 K d3_227 228 rfl rfl rfl ?_
                          refine o_iload X0 K d3_228 230 rfl rfl ?_
                          refine o_baload X0 K (i := (iN + 2)) (v := (.int (g (iN + 2)))) d3_230 231 rfl e0 A_a (by omega) (by omega) (rfl) ?_
                          refine o_sipush X0 K (192 : Int32) d3_231 234 rfl rfl ?_
                          refine o_iand X0 K d3_234 235 rfl ?_
                          refine o_sipush X0 K (128 : Int32) d3_235 238 rfl rfl ?_
                          refine o_icmp_eq X0 K d3_238 243 (by decide) (by decide) 241 rfl (fun hc238 => ?_) (fun hc238 => ?_)
                          · rw [← Int32.toInt_inj] at hc238
                            rw [Int32.toInt_inj, own_contS (A_a.fit (j := iN + 2) (by omega))] at hc238
                            have hcc2 := hc238
                            obtain ⟨k3, h_k3⟩ : ∃ z_ : Int32, z_ = (k2 + (1 : Int32)) := ⟨_, rfl⟩
                            refine o_iinc X0 K d3_243 246 rfl #[.val (.ref a), .val (.int fr), .val (.int to), .val (.int i), .val (.int ld), .val (.int (4 : Int32)), .val (.int (128 : Int32)), .val (.int (143 : Int32)), .val (.int sc), .val (.int k3)] rfl h_k3.symm rfl ?_
                            have hk3 : k3.toInt = i.toInt + 3 := by rw [h_k3]; have q1 := c_iadd k2 1; have q2 := rng32 (k2 + 1); omega
                            refine o_goto X0 K d3_246 218 (by decide) (by decide) ?_
                            refine o_iload X0 K d3_218 220 rfl rfl ?_
                            refine o_iloadN X0 K d3_220 221 rfl rfl ?_
                            refine o_iload X0 K d3_221 223 rfl rfl ?_
                            refine o_iadd X0 K d3_223 224 rfl ?_
                            refine o_icmp_ge_f X0 K d3_224 227 rfl (by omega) ?_
                            refine o_aloadN X0 K d3_227 228 rfl rfl rfl ?_
                            refine o_iload X0 K d3_228 230 rfl rfl ?_
                            refine o_baload X0 K (i := (iN + 3)) (v := (.int (g (iN + 3)))) d3_230 231 rfl e0 A_a (by omega) (by omega) (rfl) ?_
                            refine o_sipush X0 K (192 : Int32) d3_231 234 rfl rfl ?_
                            refine o_iand X0 K d3_234 235 rfl ?_
                            refine o_sipush X0 K (128 : Int32) d3_235 238 rfl rfl ?_
                            refine o_icmp_eq X0 K d3_238 243 (by decide) (by decide) 241 rfl (fun hc238 => ?_) (fun hc238 => ?_)
                            · rw [← Int32.toInt_inj] at hc238
                              rw [Int32.toInt_inj, own_contS (A_a.fit (j := iN + 3) (by omega))] at hc238
                              have hcc3 := hc238
                              obtain ⟨k4, h_k4⟩ : ∃ z_ : Int32, z_ = (k3 + (1 : Int32)) := ⟨_, rfl⟩
                              refine o_iinc X0 K d3_243 246 rfl #[.val (.ref a), .val (.int fr), .val (.int to), .val (.int i), .val (.int ld), .val (.int (4 : Int32)), .val (.int (128 : Int32)), .val (.int (143 : Int32)), .val (.int sc), .val (.int k4)] rfl h_k4.symm rfl ?_
                              have hk4 : k4.toInt = i.toInt + 4 := by rw [h_k4]; have q1 := c_iadd k3 1; have q2 := rng32 (k3 + 1); omega
                              refine o_goto X0 K d3_246 218 (by decide) (by decide) ?_
                              refine o_iload X0 K d3_218 220 rfl rfl ?_
                              refine o_iloadN X0 K d3_220 221 rfl rfl ?_
                              refine o_iload X0 K d3_221 223 rfl rfl ?_
                              refine o_iadd X0 K d3_223 224 rfl ?_
                              refine o_icmp_ge_t X0 K d3_224 249 (by decide) (by decide) (by omega) ?_
                              refine o_iloadN X0 K d3_249 250 rfl rfl ?_
                              refine o_iload X0 K d3_250 252 rfl rfl ?_
                              refine o_iadd X0 K d3_252 253 rfl ?_
                              obtain ⟨i2, h_i2⟩ : ∃ z_ : Int32, z_ = (i + (4 : Int32)) := ⟨_, rfl⟩
                              refine o_istoreN X0 K d3_253 254 rfl #[.val (.ref a), .val (.int fr), .val (.int to), .val (.int i2), .val (.int ld), .val (.int (4 : Int32)), .val (.int (128 : Int32)), .val (.int (143 : Int32)), .val (.int sc), .val (.int k4)] h_i2.symm rfl ?_
                              refine o_goto X0 K d3_254 2 (by decide) (by decide) ?_
                              have hi2' : i2.toInt = i.toInt + 4 := by rw [h_i2]; exact hp4
                              refine ih (i2, _, _, _, _, _, _) ⟨by show 0 ≤ i2.toInt; omega, by show i2.toInt ≤ _; omega, by show to.toInt - i2.toInt ≤ d; omega, ?_, Or.inr ⟨_, rfl, rfl⟩, Or.inr ⟨_, rfl, rfl⟩, Or.inr ⟨_, rfl, rfl⟩, Or.inr ⟨_, rfl, rfl⟩, Or.inr ⟨_, rfl, rfl⟩, Or.inr ⟨_, rfl, rfl⟩⟩
                              show own_it g to.toInt d i2.toInt = _
                              clear X0 K e0 N0 ih
                              subst h_sc
                              subst h_ld
                              have hz : own_sq (g iN &&& 255).toInt (g (iN + 1) &&& 255).toInt (g (iN + 2) &&& 255).toInt (g (iN + 3) &&& 255).toInt (to.toInt - i.toInt) = 4 := by
                                simp only [own_sq, own_len]
                                (repeat' split) <;> omega
                              rw [hz, if_neg (by decide)] at hR
                              rw [← hR, hi2']
                            · rw [← Int32.toInt_inj] at hc238
                              rw [Int32.toInt_inj, own_contS (A_a.fit (j := iN + 3) (by omega))] at hc238
                              have hcc3 := hc238
                              refine o_iconst X0 K (0 : Int32) d3_241 242 rfl rfl ?_
                              refine o_ireturnN X0 K (by decide) d3_242 (by decide) (by decide) N0 ?_
                              refine ⟨_, rfl, Or.inr ⟨rfl, ?_⟩, e0⟩
                              clear X0 K e0 N0
                              rw [← hR]
                              subst h_sc
                              subst h_ld
                              have hz : own_sq (g iN &&& 255).toInt (g (iN + 1) &&& 255).toInt (g (iN + 2) &&& 255).toInt (g (iN + 3) &&& 255).toInt (to.toInt - i.toInt) = 0 := by
                                simp only [own_sq, own_len]
                                (repeat' split) <;> omega
                              rw [if_pos hz, own_it_fix _ _ _ _ (Or.inl (by decide))]
                              omega
                          · rw [← Int32.toInt_inj] at hc238
                            rw [Int32.toInt_inj, own_contS (A_a.fit (j := iN + 2) (by omega))] at hc238
                            have hcc2 := hc238
                            refine o_iconst X0 K (0 : Int32) d3_241 242 rfl rfl ?_
                            refine o_ireturnN X0 K (by decide) d3_242 (by decide) (by decide) N0 ?_
                            refine ⟨_, rfl, Or.inr ⟨rfl, ?_⟩, e0⟩
                            clear X0 K e0 N0
                            rw [← hR]
                            subst h_sc
                            subst h_ld
                            have hz : own_sq (g iN &&& 255).toInt (g (iN + 1) &&& 255).toInt (g (iN + 2) &&& 255).toInt (g (iN + 3) &&& 255).toInt (to.toInt - i.toInt) = 0 := by
                              simp only [own_sq, own_len]
                              (repeat' split) <;> omega
                            rw [if_pos hz, own_it_fix _ _ _ _ (Or.inl (by decide))]
                            omega
                        · refine o_iconst X0 K (0 : Int32) d3_211 212 rfl rfl ?_
                          refine o_ireturnN X0 K (by decide) d3_212 (by decide) (by decide) N0 ?_
                          refine ⟨_, rfl, Or.inr ⟨rfl, ?_⟩, e0⟩
                          clear X0 K e0 N0
                          rw [← hR]
                          subst h_sc
                          subst h_ld
                          have hz : own_sq (g iN &&& 255).toInt (g (iN + 1) &&& 255).toInt (g (iN + 2) &&& 255).toInt (g (iN + 3) &&& 255).toInt (to.toInt - i.toInt) = 0 := by
                            simp only [own_sq, own_len]
                            (repeat' split) <;> omega
                          rw [if_pos hz, own_it_fix _ _ _ _ (Or.inl (by decide))]
                          omega
                    · refine o_iconst X0 K (0 : Int32) d3_184 185 rfl rfl ?_
                      refine o_ireturnN X0 K (by decide) d3_185 (by decide) (by decide) N0 ?_
                      refine ⟨_, rfl, Or.inr ⟨rfl, ?_⟩, e0⟩
                      clear X0 K e0 N0
                      rw [← hR]
                      subst h_ld
                      have hz : own_sq (g iN &&& 255).toInt (g (iN + 1) &&& 255).toInt (g (iN + 2) &&& 255).toInt (g (iN + 3) &&& 255).toInt (to.toInt - i.toInt) = 0 := by
                        simp only [own_sq, own_len]
                        (repeat' split) <;> omega
                      rw [if_pos hz, own_it_fix _ _ _ _ (Or.inl (by decide))]
                      omega
                · rw [← Int32.toInt_inj] at hc132
                  refine o_sipush X0 K (144 : Int32) d3_135 138 rfl rfl ?_
                  refine o_goto X0 K d3_138 144 (by decide) (by decide) ?_
                  refine o_istore X0 K d3_144 146 rfl #[.val (.ref a), .val (.int fr), .val (.int to), .val (.int i), .val (.int ld), .val (.int (4 : Int32)), .val (.int (144 : Int32)), .val (.int (191 : Int32)), s8, s9] rfl rfl ?_
                  refine o_iload X0 K d3_146 148 rfl rfl ?_
                  refine o_sipush X0 K (244 : Int32) d3_148 151 rfl rfl ?_
                  refine o_icmp_ne X0 K d3_151 160 (by decide) (by decide) 154 rfl (fun hc151 => ?_) (fun hc151 => ?_)
                  · rw [← Int32.toInt_inj] at hc151
                    refine o_sipush X0 K (191 : Int32) d3_160 163 rfl rfl ?_
                    refine o_istore X0 K d3_163 165 rfl #[.val (.ref a), .val (.int fr), .val (.int to), .val (.int i), .val (.int ld), .val (.int (4 : Int32)), .val (.int (144 : Int32)), .val (.int (191 : Int32)), s8, s9] rfl rfl ?_
                    refine o_goto X0 K d3_165 170 (by decide) (by decide) ?_
                    refine o_iload X0 K d3_170 172 rfl rfl ?_
                    refine o_iconst X0 K (1 : Int32) d3_172 173 rfl rfl ?_
                    refine o_icmp_le_f X0 K d3_173 176 rfl (by decide) ?_
                    refine o_iloadN X0 K d3_176 177 rfl rfl ?_
                    refine o_iloadN X0 K d3_177 178 rfl rfl ?_
                    refine o_isub X0 K d3_178 179 rfl ?_
                    refine o_iload X0 K d3_179 181 rfl rfl ?_
                    refine o_icmp_ge X0 K d3_181 186 (by decide) (by decide) 184 rfl (fun hc181 => ?_) (fun hc181 => ?_)
                    · refine o_aloadN X0 K d3_186 187 rfl rfl rfl ?_
                      refine o_iloadN X0 K d3_187 188 rfl rfl ?_
                      refine o_iconst X0 K (1 : Int32) d3_188 189 rfl rfl ?_
                      refine o_iadd X0 K d3_189 190 rfl ?_
                      refine o_baload X0 K (i := (iN + 1)) (v := (.int (g (iN + 1)))) d3_190 191 rfl e0 A_a (by omega) (by omega) (rfl) ?_
                      refine o_sipush X0 K (255 : Int32) d3_191 194 rfl rfl ?_
                      refine o_iand X0 K d3_194 195 rfl ?_
                      obtain ⟨sc, h_sc⟩ : ∃ z_ : Int32, z_ = ((g (iN + 1)) &&& (255 : Int32)) := ⟨_, rfl⟩
                      refine o_istore X0 K d3_195 197 rfl #[.val (.ref a), .val (.int fr), .val (.int to), .val (.int i), .val (.int ld), .val (.int (4 : Int32)), .val (.int (144 : Int32)), .val (.int (191 : Int32)), .val (.int sc), s9] h_sc.symm (XS.store1 rfl h_s8 rfl) ?_
                      refine o_iload X0 K d3_197 199 rfl rfl ?_
                      refine o_iload X0 K d3_199 201 rfl rfl ?_
                      refine o_icmp_lt X0 K d3_201 211 (by decide) (by decide) 204 rfl (fun hc201 => ?_) (fun hc201 => ?_)
                      · refine o_iconst X0 K (0 : Int32) d3_211 212 rfl rfl ?_
                        refine o_ireturnN X0 K (by decide) d3_212 (by decide) (by decide) N0 ?_
                        refine ⟨_, rfl, Or.inr ⟨rfl, ?_⟩, e0⟩
                        clear X0 K e0 N0
                        rw [← hR]
                        subst h_sc
                        subst h_ld
                        have hz : own_sq (g iN &&& 255).toInt (g (iN + 1) &&& 255).toInt (g (iN + 2) &&& 255).toInt (g (iN + 3) &&& 255).toInt (to.toInt - i.toInt) = 0 := by
                          simp only [own_sq, own_len]
                          (repeat' split) <;> omega
                        rw [if_pos hz, own_it_fix _ _ _ _ (Or.inl (by decide))]
                        omega
                      · refine o_iload X0 K d3_204 206 rfl rfl ?_
                        refine o_iload X0 K d3_206 208 rfl rfl ?_
                        refine o_icmp_le X0 K d3_208 213 (by decide) (by decide) 211 rfl (fun hc208 => ?_) (fun hc208 => ?_)
                        · refine o_iloadN X0 K d3_213 214 rfl rfl ?_
                          refine o_iconst X0 K (2 : Int32) d3_214 215 rfl rfl ?_
                          refine o_iadd X0 K d3_215 216 rfl ?_
                          obtain ⟨k2, h_k2⟩ : ∃ z_ : Int32, z_ = (i + (2 : Int32)) := ⟨_, rfl⟩
                          refine o_istore X0 K d3_216 218 rfl #[.val (.ref a), .val (.int fr), .val (.int to), .val (.int i), .val (.int ld), .val (.int (4 : Int32)), .val (.int (144 : Int32)), .val (.int (191 : Int32)), .val (.int sc), .val (.int k2)] h_k2.symm (XS.store1 rfl h_s9 rfl) ?_
                          have hk2 : k2.toInt = i.toInt + 2 := by rw [h_k2]; exact hp2
                          refine o_iload X0 K d3_218 220 rfl rfl ?_
                          refine o_iloadN X0 K d3_220 221 rfl rfl ?_
                          refine o_iload X0 K d3_221 223 rfl rfl ?_
                          refine o_iadd X0 K d3_223 224 rfl ?_
                          refine o_icmp_ge_f X0 K d3_224 227 rfl (by omega) ?_
                          refine o_aloadN X0 K d3_227 228 rfl rfl rfl ?_
                          refine o_iload X0 K d3_228 230 rfl rfl ?_
                          refine o_baload X0 K (i := (iN + 2)) (v := (.int (g (iN + 2)))) d3_230 231 rfl e0 A_a (by omega) (by omega) (rfl) ?_
                          refine o_sipush X0 K (192 : Int32) d3_231 234 rfl rfl ?_
                          refine o_iand X0 K d3_234 235 rfl ?_
                          refine o_sipush X0 K (128 : Int32) d3_235 238 rfl rfl ?_
                          refine o_icmp_eq X0 K d3_238 243 (by decide) (by decide) 241 rfl (fun hc238 => ?_) (fun hc238 => ?_)
                          · rw [← Int32.toInt_inj] at hc238
                            rw [Int32.toInt_inj, own_contS (A_a.fit (j := iN + 2) (by omega))] at hc238
                            have hcc2 := hc238
                            obtain ⟨k3, h_k3⟩ : ∃ z_ : Int32, z_ = (k2 + (1 : Int32)) := ⟨_, rfl⟩
                            refine o_iinc X0 K d3_243 246 rfl #[.val (.ref a), .val (.int fr), .val (.int to), .val (.int i), .val (.int ld), .val (.int (4 : Int32)), .val (.int (144 : Int32)), .val (.int (191 : Int32)), .val (.int sc), .val (.int k3)] rfl h_k3.symm rfl ?_
                            have hk3 : k3.toInt = i.toInt + 3 := by rw [h_k3]; have q1 := c_iadd k2 1; have q2 := rng32 (k2 + 1); omega
                            refine o_goto X0 K d3_246 218 (by decide) (by decide) ?_
                            refine o_iload X0 K d3_218 220 rfl rfl ?_
                            refine o_iloadN X0 K d3_220 221 rfl rfl ?_
                            refine o_iload X0 K d3_221 223 rfl rfl ?_
                            refine o_iadd X0 K d3_223 224 rfl ?_
                            refine o_icmp_ge_f X0 K d3_224 227 rfl (by omega) ?_
                            refine o_aloadN X0 K d3_227 228 rfl rfl rfl ?_
                            refine o_iload X0 K d3_228 230 rfl rfl ?_
                            refine o_baload X0 K (i := (iN + 3)) (v := (.int (g (iN + 3)))) d3_230 231 rfl e0 A_a (by omega) (by omega) (rfl) ?_
                            refine o_sipush X0 K (192 : Int32) d3_231 234 rfl rfl ?_
                            refine o_iand X0 K d3_234 235 rfl ?_
                            refine o_sipush X0 K (128 : Int32) d3_235 238 rfl rfl ?_
                            refine o_icmp_eq X0 K d3_238 243 (by decide) (by decide) 241 rfl (fun hc238 => ?_) (fun hc238 => ?_)
                            · rw [← Int32.toInt_inj] at hc238
                              rw [Int32.toInt_inj, own_contS (A_a.fit (j := iN + 3) (by omega))] at hc238
                              have hcc3 := hc238
                              obtain ⟨k4, h_k4⟩ : ∃ z_ : Int32, z_ = (k3 + (1 : Int32)) := ⟨_, rfl⟩
                              refine o_iinc X0 K d3_243 246 rfl #[.val (.ref a), .val (.int fr), .val (.int to), .val (.int i), .val (.int ld), .val (.int (4 : Int32)), .val (.int (144 : Int32)), .val (.int (191 : Int32)), .val (.int sc), .val (.int k4)] rfl h_k4.symm rfl ?_
                              have hk4 : k4.toInt = i.toInt + 4 := by rw [h_k4]; have q1 := c_iadd k3 1; have q2 := rng32 (k3 + 1); omega
                              refine o_goto X0 K d3_246 218 (by decide) (by decide) ?_
                              refine o_iload X0 K d3_218 220 rfl rfl ?_
                              refine o_iloadN X0 K d3_220 221 rfl rfl ?_
                              refine o_iload X0 K d3_221 223 rfl rfl ?_
                              refine o_iadd X0 K d3_223 224 rfl ?_
                              refine o_icmp_ge_t X0 K d3_224 249 (by decide) (by decide) (by omega) ?_
                              refine o_iloadN X0 K d3_249 250 rfl rfl ?_
                              refine o_iload X0 K d3_250 252 rfl rfl ?_
                              refine o_iadd X0 K d3_252 253 rfl ?_
                              obtain ⟨i2, h_i2⟩ : ∃ z_ : Int32, z_ = (i + (4 : Int32)) := ⟨_, rfl⟩
                              refine o_istoreN X0 K d3_253 254 rfl #[.val (.ref a), .val (.int fr), .val (.int to), .val (.int i2), .val (.int ld), .val (.int (4 : Int32)), .val (.int (144 : Int32)), .val (.int (191 : Int32)), .val (.int sc), .val (.int k4)] h_i2.symm rfl ?_
                              refine o_goto X0 K d3_254 2 (by decide) (by decide) ?_
                              have hi2' : i2.toInt = i.toInt + 4 := by rw [h_i2]; exact hp4
                              refine ih (i2, _, _, _, _, _, _) ⟨by show 0 ≤ i2.toInt; omega, by show i2.toInt ≤ _; omega, by show to.toInt - i2.toInt ≤ d; omega, ?_, Or.inr ⟨_, rfl, rfl⟩, Or.inr ⟨_, rfl, rfl⟩, Or.inr ⟨_, rfl, rfl⟩, Or.inr ⟨_, rfl, rfl⟩, Or.inr ⟨_, rfl, rfl⟩, Or.inr ⟨_, rfl, rfl⟩⟩
                              show own_it g to.toInt d i2.toInt = _
                              clear X0 K e0 N0 ih
                              subst h_sc
                              subst h_ld
                              have hz : own_sq (g iN &&& 255).toInt (g (iN + 1) &&& 255).toInt (g (iN + 2) &&& 255).toInt (g (iN + 3) &&& 255).toInt (to.toInt - i.toInt) = 4 := by
                                simp only [own_sq, own_len]
                                (repeat' split) <;> omega
                              rw [hz, if_neg (by decide)] at hR
                              rw [← hR, hi2']
                            · rw [← Int32.toInt_inj] at hc238
                              rw [Int32.toInt_inj, own_contS (A_a.fit (j := iN + 3) (by omega))] at hc238
                              have hcc3 := hc238
                              refine o_iconst X0 K (0 : Int32) d3_241 242 rfl rfl ?_
                              refine o_ireturnN X0 K (by decide) d3_242 (by decide) (by decide) N0 ?_
                              refine ⟨_, rfl, Or.inr ⟨rfl, ?_⟩, e0⟩
                              clear X0 K e0 N0
                              rw [← hR]
                              subst h_sc
                              subst h_ld
                              have hz : own_sq (g iN &&& 255).toInt (g (iN + 1) &&& 255).toInt (g (iN + 2) &&& 255).toInt (g (iN + 3) &&& 255).toInt (to.toInt - i.toInt) = 0 := by
                                simp only [own_sq, own_len]
                                (repeat' split) <;> omega
                              rw [if_pos hz, own_it_fix _ _ _ _ (Or.inl (by decide))]
                              omega
                          · rw [← Int32.toInt_inj] at hc238
                            rw [Int32.toInt_inj, own_contS (A_a.fit (j := iN + 2) (by omega))] at hc238
                            have hcc2 := hc238
                            refine o_iconst X0 K (0 : Int32) d3_241 242 rfl rfl ?_
                            refine o_ireturnN X0 K (by decide) d3_242 (by decide) (by decide) N0 ?_
                            refine ⟨_, rfl, Or.inr ⟨rfl, ?_⟩, e0⟩
                            clear X0 K e0 N0
                            rw [← hR]
                            subst h_sc
                            subst h_ld
                            have hz : own_sq (g iN &&& 255).toInt (g (iN + 1) &&& 255).toInt (g (iN + 2) &&& 255).toInt (g (iN + 3) &&& 255).toInt (to.toInt - i.toInt) = 0 := by
                              simp only [own_sq, own_len]
                              (repeat' split) <;> omega
                            rw [if_pos hz, own_it_fix _ _ _ _ (Or.inl (by decide))]
                            omega
                        · refine o_iconst X0 K (0 : Int32) d3_211 212 rfl rfl ?_
                          refine o_ireturnN X0 K (by decide) d3_212 (by decide) (by decide) N0 ?_
                          refine ⟨_, rfl, Or.inr ⟨rfl, ?_⟩, e0⟩
                          clear X0 K e0 N0
                          rw [← hR]
                          subst h_sc
                          subst h_ld
                          have hz : own_sq (g iN &&& 255).toInt (g (iN + 1) &&& 255).toInt (g (iN + 2) &&& 255).toInt (g (iN + 3) &&& 255).toInt (to.toInt - i.toInt) = 0 := by
                            simp only [own_sq, own_len]
                            (repeat' split) <;> omega
                          rw [if_pos hz, own_it_fix _ _ _ _ (Or.inl (by decide))]
                          omega
                    · refine o_iconst X0 K (0 : Int32) d3_184 185 rfl rfl ?_
                      refine o_ireturnN X0 K (by decide) d3_185 (by decide) (by decide) N0 ?_
                      refine ⟨_, rfl, Or.inr ⟨rfl, ?_⟩, e0⟩
                      clear X0 K e0 N0
                      rw [← hR]
                      subst h_ld
                      have hz : own_sq (g iN &&& 255).toInt (g (iN + 1) &&& 255).toInt (g (iN + 2) &&& 255).toInt (g (iN + 3) &&& 255).toInt (to.toInt - i.toInt) = 0 := by
                        simp only [own_sq, own_len]
                        (repeat' split) <;> omega
                      rw [if_pos hz, own_it_fix _ _ _ _ (Or.inl (by decide))]
                      omega
                  · rw [← Int32.toInt_inj] at hc151
                    refine o_sipush X0 K (143 : Int32) d3_154 157 rfl rfl ?_
                    refine o_goto X0 K d3_157 163 (by decide) (by decide) ?_
                    refine o_istore X0 K d3_163 165 rfl #[.val (.ref a), .val (.int fr), .val (.int to), .val (.int i), .val (.int ld), .val (.int (4 : Int32)), .val (.int (144 : Int32)), .val (.int (143 : Int32)), s8, s9] rfl rfl ?_
                    refine o_goto X0 K d3_165 170 (by decide) (by decide) ?_
                    refine o_iload X0 K d3_170 172 rfl rfl ?_
                    refine o_iconst X0 K (1 : Int32) d3_172 173 rfl rfl ?_
                    refine o_icmp_le_f X0 K d3_173 176 rfl (by decide) ?_
                    refine o_iloadN X0 K d3_176 177 rfl rfl ?_
                    refine o_iloadN X0 K d3_177 178 rfl rfl ?_
                    refine o_isub X0 K d3_178 179 rfl ?_
                    refine o_iload X0 K d3_179 181 rfl rfl ?_
                    refine o_icmp_ge X0 K d3_181 186 (by decide) (by decide) 184 rfl (fun hc181 => ?_) (fun hc181 => ?_)
                    · refine o_aloadN X0 K d3_186 187 rfl rfl rfl ?_
                      refine o_iloadN X0 K d3_187 188 rfl rfl ?_
                      refine o_iconst X0 K (1 : Int32) d3_188 189 rfl rfl ?_
                      refine o_iadd X0 K d3_189 190 rfl ?_
                      refine o_baload X0 K (i := (iN + 1)) (v := (.int (g (iN + 1)))) d3_190 191 rfl e0 A_a (by omega) (by omega) (rfl) ?_
                      refine o_sipush X0 K (255 : Int32) d3_191 194 rfl rfl ?_
                      refine o_iand X0 K d3_194 195 rfl ?_
                      obtain ⟨sc, h_sc⟩ : ∃ z_ : Int32, z_ = ((g (iN + 1)) &&& (255 : Int32)) := ⟨_, rfl⟩
                      refine o_istore X0 K d3_195 197 rfl #[.val (.ref a), .val (.int fr), .val (.int to), .val (.int i), .val (.int ld), .val (.int (4 : Int32)), .val (.int (144 : Int32)), .val (.int (143 : Int32)), .val (.int sc), s9] h_sc.symm (XS.store1 rfl h_s8 rfl) ?_
                      refine o_iload X0 K d3_197 199 rfl rfl ?_
                      refine o_iload X0 K d3_199 201 rfl rfl ?_
                      refine o_icmp_lt X0 K d3_201 211 (by decide) (by decide) 204 rfl (fun hc201 => ?_) (fun hc201 => ?_)
                      · refine o_iconst X0 K (0 : Int32) d3_211 212 rfl rfl ?_
                        refine o_ireturnN X0 K (by decide) d3_212 (by decide) (by decide) N0 ?_
                        refine ⟨_, rfl, Or.inr ⟨rfl, ?_⟩, e0⟩
                        clear X0 K e0 N0
                        rw [← hR]
                        subst h_sc
                        subst h_ld
                        have hz : own_sq (g iN &&& 255).toInt (g (iN + 1) &&& 255).toInt (g (iN + 2) &&& 255).toInt (g (iN + 3) &&& 255).toInt (to.toInt - i.toInt) = 0 := by
                          simp only [own_sq, own_len]
                          (repeat' split) <;> omega
                        rw [if_pos hz, own_it_fix _ _ _ _ (Or.inl (by decide))]
                        omega
                      · refine o_iload X0 K d3_204 206 rfl rfl ?_
                        refine o_iload X0 K d3_206 208 rfl rfl ?_
                        refine o_icmp_le X0 K d3_208 213 (by decide) (by decide) 211 rfl (fun hc208 => ?_) (fun hc208 => ?_)
                        · refine o_iloadN X0 K d3_213 214 rfl rfl ?_
                          refine o_iconst X0 K (2 : Int32) d3_214 215 rfl rfl ?_
                          refine o_iadd X0 K d3_215 216 rfl ?_
                          obtain ⟨k2, h_k2⟩ : ∃ z_ : Int32, z_ = (i + (2 : Int32)) := ⟨_, rfl⟩
                          refine o_istore X0 K d3_216 218 rfl #[.val (.ref a), .val (.int fr), .val (.int to), .val (.int i), .val (.int ld), .val (.int (4 : Int32)), .val (.int (144 : Int32)), .val (.int (143 : Int32)), .val (.int sc), .val (.int k2)] h_k2.symm (XS.store1 rfl h_s9 rfl) ?_
                          have hk2 : k2.toInt = i.toInt + 2 := by rw [h_k2]; exact hp2
                          refine o_iload X0 K d3_218 220 rfl rfl ?_
                          refine o_iloadN X0 K d3_220 221 rfl rfl ?_
                          refine o_iload X0 K d3_221 223 rfl rfl ?_
                          refine o_iadd X0 K d3_223 224 rfl ?_
                          refine o_icmp_ge_f X0 K d3_224 227 rfl (by omega) ?_
                          refine o_aloadN X0 K d3_227 228 rfl rfl rfl ?_
                          refine o_iload X0 K d3_228 230 rfl rfl ?_
                          refine o_baload X0 K (i := (iN + 2)) (v := (.int (g (iN + 2)))) d3_230 231 rfl e0 A_a (by omega) (by omega) (rfl) ?_
                          refine o_sipush X0 K (192 : Int32) d3_231 234 rfl rfl ?_
                          refine o_iand X0 K d3_234 235 rfl ?_
                          refine o_sipush X0 K (128 : Int32) d3_235 238 rfl rfl ?_
                          refine o_icmp_eq X0 K d3_238 243 (by decide) (by decide) 241 rfl (fun hc238 => ?_) (fun hc238 => ?_)
                          · rw [← Int32.toInt_inj] at hc238
                            rw [Int32.toInt_inj, own_contS (A_a.fit (j := iN + 2) (by omega))] at hc238
                            have hcc2 := hc238
                            obtain ⟨k3, h_k3⟩ : ∃ z_ : Int32, z_ = (k2 + (1 : Int32)) := ⟨_, rfl⟩
                            refine o_iinc X0 K d3_243 246 rfl #[.val (.ref a), .val (.int fr), .val (.int to), .val (.int i), .val (.int ld), .val (.int (4 : Int32)), .val (.int (144 : Int32)), .val (.int (143 : Int32)), .val (.int sc), .val (.int k3)] rfl h_k3.symm rfl ?_
                            have hk3 : k3.toInt = i.toInt + 3 := by rw [h_k3]; have q1 := c_iadd k2 1; have q2 := rng32 (k2 + 1); omega
                            refine o_goto X0 K d3_246 218 (by decide) (by decide) ?_
                            refine o_iload X0 K d3_218 220 rfl rfl ?_
                            refine o_iloadN X0 K d3_220 221 rfl rfl ?_
                            refine o_iload X0 K d3_221 223 rfl rfl ?_
                            refine o_iadd X0 K d3_223 224 rfl ?_
                            refine o_icmp_ge_f X0 K d3_224 227 rfl (by omega) ?_
                            refine o_aloadN X0 K d3_227 228 rfl rfl rfl ?_
                            refine o_iload X0 K d3_228 230 rfl rfl ?_
                            refine o_baload X0 K (i := (iN + 3)) (v := (.int (g (iN + 3)))) d3_230 231 rfl e0 A_a (by omega) (by omega) (rfl) ?_
                            refine o_sipush X0 K (192 : Int32) d3_231 234 rfl rfl ?_
                            refine o_iand X0 K d3_234 235 rfl ?_
                            refine o_sipush X0 K (128 : Int32) d3_235 238 rfl rfl ?_
                            refine o_icmp_eq X0 K d3_238 243 (by decide) (by decide) 241 rfl (fun hc238 => ?_) (fun hc238 => ?_)
                            · rw [← Int32.toInt_inj] at hc238
                              rw [Int32.toInt_inj, own_contS (A_a.fit (j := iN + 3) (by omega))] at hc238
                              have hcc3 := hc238
                              obtain ⟨k4, h_k4⟩ : ∃ z_ : Int32, z_ = (k3 + (1 : Int32)) := ⟨_, rfl⟩
                              refine o_iinc X0 K d3_243 246 rfl #[.val (.ref a), .val (.int fr), .val (.int to), .val (.int i), .val (.int ld), .val (.int (4 : Int32)), .val (.int (144 : Int32)), .val (.int (143 : Int32)), .val (.int sc), .val (.int k4)] rfl h_k4.symm rfl ?_
                              have hk4 : k4.toInt = i.toInt + 4 := by rw [h_k4]; have q1 := c_iadd k3 1; have q2 := rng32 (k3 + 1); omega
                              refine o_goto X0 K d3_246 218 (by decide) (by decide) ?_
                              refine o_iload X0 K d3_218 220 rfl rfl ?_
                              refine o_iloadN X0 K d3_220 221 rfl rfl ?_
                              refine o_iload X0 K d3_221 223 rfl rfl ?_
                              refine o_iadd X0 K d3_223 224 rfl ?_
                              refine o_icmp_ge_t X0 K d3_224 249 (by decide) (by decide) (by omega) ?_
                              refine o_iloadN X0 K d3_249 250 rfl rfl ?_
                              refine o_iload X0 K d3_250 252 rfl rfl ?_
                              refine o_iadd X0 K d3_252 253 rfl ?_
                              obtain ⟨i2, h_i2⟩ : ∃ z_ : Int32, z_ = (i + (4 : Int32)) := ⟨_, rfl⟩
                              refine o_istoreN X0 K d3_253 254 rfl #[.val (.ref a), .val (.int fr), .val (.int to), .val (.int i2), .val (.int ld), .val (.int (4 : Int32)), .val (.int (144 : Int32)), .val (.int (143 : Int32)), .val (.int sc), .val (.int k4)] h_i2.symm rfl ?_
                              refine o_goto X0 K d3_254 2 (by decide) (by decide) ?_
                              have hi2' : i2.toInt = i.toInt + 4 := by rw [h_i2]; exact hp4
                              refine ih (i2, _, _, _, _, _, _) ⟨by show 0 ≤ i2.toInt; omega, by show i2.toInt ≤ _; omega, by show to.toInt - i2.toInt ≤ d; omega, ?_, Or.inr ⟨_, rfl, rfl⟩, Or.inr ⟨_, rfl, rfl⟩, Or.inr ⟨_, rfl, rfl⟩, Or.inr ⟨_, rfl, rfl⟩, Or.inr ⟨_, rfl, rfl⟩, Or.inr ⟨_, rfl, rfl⟩⟩
                              show own_it g to.toInt d i2.toInt = _
                              clear X0 K e0 N0 ih
                              subst h_sc
                              subst h_ld
                              have hz : own_sq (g iN &&& 255).toInt (g (iN + 1) &&& 255).toInt (g (iN + 2) &&& 255).toInt (g (iN + 3) &&& 255).toInt (to.toInt - i.toInt) = 4 := by
                                simp only [own_sq, own_len]
                                (repeat' split) <;> omega
                              rw [hz, if_neg (by decide)] at hR
                              rw [← hR, hi2']
                            · rw [← Int32.toInt_inj] at hc238
                              rw [Int32.toInt_inj, own_contS (A_a.fit (j := iN + 3) (by omega))] at hc238
                              have hcc3 := hc238
                              refine o_iconst X0 K (0 : Int32) d3_241 242 rfl rfl ?_
                              refine o_ireturnN X0 K (by decide) d3_242 (by decide) (by decide) N0 ?_
                              refine ⟨_, rfl, Or.inr ⟨rfl, ?_⟩, e0⟩
                              clear X0 K e0 N0
                              rw [← hR]
                              subst h_sc
                              subst h_ld
                              have hz : own_sq (g iN &&& 255).toInt (g (iN + 1) &&& 255).toInt (g (iN + 2) &&& 255).toInt (g (iN + 3) &&& 255).toInt (to.toInt - i.toInt) = 0 := by
                                simp only [own_sq, own_len]
                                (repeat' split) <;> omega
                              rw [if_pos hz, own_it_fix _ _ _ _ (Or.inl (by decide))]
                              omega
                          · rw [← Int32.toInt_inj] at hc238
                            rw [Int32.toInt_inj, own_contS (A_a.fit (j := iN + 2) (by omega))] at hc238
                            have hcc2 := hc238
                            refine o_iconst X0 K (0 : Int32) d3_241 242 rfl rfl ?_
                            refine o_ireturnN X0 K (by decide) d3_242 (by decide) (by decide) N0 ?_
                            refine ⟨_, rfl, Or.inr ⟨rfl, ?_⟩, e0⟩
                            clear X0 K e0 N0
                            rw [← hR]
                            subst h_sc
                            subst h_ld
                            have hz : own_sq (g iN &&& 255).toInt (g (iN + 1) &&& 255).toInt (g (iN + 2) &&& 255).toInt (g (iN + 3) &&& 255).toInt (to.toInt - i.toInt) = 0 := by
                              simp only [own_sq, own_len]
                              (repeat' split) <;> omega
                            rw [if_pos hz, own_it_fix _ _ _ _ (Or.inl (by decide))]
                            omega
                        · refine o_iconst X0 K (0 : Int32) d3_211 212 rfl rfl ?_
                          refine o_ireturnN X0 K (by decide) d3_212 (by decide) (by decide) N0 ?_
                          refine ⟨_, rfl, Or.inr ⟨rfl, ?_⟩, e0⟩
                          clear X0 K e0 N0
                          rw [← hR]
                          subst h_sc
                          subst h_ld
                          have hz : own_sq (g iN &&& 255).toInt (g (iN + 1) &&& 255).toInt (g (iN + 2) &&& 255).toInt (g (iN + 3) &&& 255).toInt (to.toInt - i.toInt) = 0 := by
                            simp only [own_sq, own_len]
                            (repeat' split) <;> omega
                          rw [if_pos hz, own_it_fix _ _ _ _ (Or.inl (by decide))]
                          omega
                    · refine o_iconst X0 K (0 : Int32) d3_184 185 rfl rfl ?_
                      refine o_ireturnN X0 K (by decide) d3_185 (by decide) (by decide) N0 ?_
                      refine ⟨_, rfl, Or.inr ⟨rfl, ?_⟩, e0⟩
                      clear X0 K e0 N0
                      rw [← hR]
                      subst h_ld
                      have hz : own_sq (g iN &&& 255).toInt (g (iN + 1) &&& 255).toInt (g (iN + 2) &&& 255).toInt (g (iN + 3) &&& 255).toInt (to.toInt - i.toInt) = 0 := by
                        simp only [own_sq, own_len]
                        (repeat' split) <;> omega
                      rw [if_pos hz, own_it_fix _ _ _ _ (Or.inl (by decide))]
                      omega
            · refine o_iconst X0 K (3 : Int32) d3_72 73 rfl rfl ?_
              refine o_istore X0 K d3_73 75 rfl #[.val (.ref a), .val (.int fr), .val (.int to), .val (.int i), .val (.int ld), .val (.int (3 : Int32)), .val (.int (128 : Int32)), .val (.int (191 : Int32)), s8, s9] rfl (XS.store1 rfl h_s5 rfl) ?_
              refine o_iload X0 K d3_75 77 rfl rfl ?_
              refine o_sipush X0 K (224 : Int32) d3_77 80 rfl rfl ?_
              refine o_icmp_ne X0 K d3_80 89 (by decide) (by decide) 83 rfl (fun hc80 => ?_) (fun hc80 => ?_)
              · rw [← Int32.toInt_inj] at hc80
                refine o_sipush X0 K (128 : Int32) d3_89 92 rfl rfl ?_
                refine o_istore X0 K d3_92 94 rfl #[.val (.ref a), .val (.int fr), .val (.int to), .val (.int i), .val (.int ld), .val (.int (3 : Int32)), .val (.int (128 : Int32)), .val (.int (191 : Int32)), s8, s9] rfl rfl ?_
                refine o_iload X0 K d3_94 96 rfl rfl ?_
                refine o_sipush X0 K (237 : Int32) d3_96 99 rfl rfl ?_
                refine o_icmp_ne X0 K d3_99 108 (by decide) (by decide) 102 rfl (fun hc99 => ?_) (fun hc99 => ?_)
                · rw [← Int32.toInt_inj] at hc99
                  refine o_sipush X0 K (191 : Int32) d3_108 111 rfl rfl ?_
                  refine o_istore X0 K d3_111 113 rfl #[.val (.ref a), .val (.int fr), .val (.int to), .val (.int i), .val (.int ld), .val (.int (3 : Int32)), .val (.int (128 : Int32)), .val (.int (191 : Int32)), s8, s9] rfl rfl ?_
                  refine o_goto X0 K d3_113 170 (by decide) (by decide) ?_
                  refine o_iload X0 K d3_170 172 rfl rfl ?_
                  refine o_iconst X0 K (1 : Int32) d3_172 173 rfl rfl ?_
                  refine o_icmp_le_f X0 K d3_173 176 rfl (by decide) ?_
                  refine o_iloadN X0 K d3_176 177 rfl rfl ?_
                  refine o_iloadN X0 K d3_177 178 rfl rfl ?_
                  refine o_isub X0 K d3_178 179 rfl ?_
                  refine o_iload X0 K d3_179 181 rfl rfl ?_
                  refine o_icmp_ge X0 K d3_181 186 (by decide) (by decide) 184 rfl (fun hc181 => ?_) (fun hc181 => ?_)
                  · refine o_aloadN X0 K d3_186 187 rfl rfl rfl ?_
                    refine o_iloadN X0 K d3_187 188 rfl rfl ?_
                    refine o_iconst X0 K (1 : Int32) d3_188 189 rfl rfl ?_
                    refine o_iadd X0 K d3_189 190 rfl ?_
                    refine o_baload X0 K (i := (iN + 1)) (v := (.int (g (iN + 1)))) d3_190 191 rfl e0 A_a (by omega) (by omega) (rfl) ?_
                    refine o_sipush X0 K (255 : Int32) d3_191 194 rfl rfl ?_
                    refine o_iand X0 K d3_194 195 rfl ?_
                    obtain ⟨sc, h_sc⟩ : ∃ z_ : Int32, z_ = ((g (iN + 1)) &&& (255 : Int32)) := ⟨_, rfl⟩
                    refine o_istore X0 K d3_195 197 rfl #[.val (.ref a), .val (.int fr), .val (.int to), .val (.int i), .val (.int ld), .val (.int (3 : Int32)), .val (.int (128 : Int32)), .val (.int (191 : Int32)), .val (.int sc), s9] h_sc.symm (XS.store1 rfl h_s8 rfl) ?_
                    refine o_iload X0 K d3_197 199 rfl rfl ?_
                    refine o_iload X0 K d3_199 201 rfl rfl ?_
                    refine o_icmp_lt X0 K d3_201 211 (by decide) (by decide) 204 rfl (fun hc201 => ?_) (fun hc201 => ?_)
                    · refine o_iconst X0 K (0 : Int32) d3_211 212 rfl rfl ?_
                      refine o_ireturnN X0 K (by decide) d3_212 (by decide) (by decide) N0 ?_
                      refine ⟨_, rfl, Or.inr ⟨rfl, ?_⟩, e0⟩
                      clear X0 K e0 N0
                      rw [← hR]
                      subst h_sc
                      subst h_ld
                      have hz : own_sq (g iN &&& 255).toInt (g (iN + 1) &&& 255).toInt (g (iN + 2) &&& 255).toInt (g (iN + 3) &&& 255).toInt (to.toInt - i.toInt) = 0 := by
                        simp only [own_sq, own_len]
                        (repeat' split) <;> omega
                      rw [if_pos hz, own_it_fix _ _ _ _ (Or.inl (by decide))]
                      omega
                    · refine o_iload X0 K d3_204 206 rfl rfl ?_
                      refine o_iload X0 K d3_206 208 rfl rfl ?_
                      refine o_icmp_le X0 K d3_208 213 (by decide) (by decide) 211 rfl (fun hc208 => ?_) (fun hc208 => ?_)
                      · refine o_iloadN X0 K d3_213 214 rfl rfl ?_
                        refine o_iconst X0 K (2 : Int32) d3_214 215 rfl rfl ?_
                        refine o_iadd X0 K d3_215 216 rfl ?_
                        obtain ⟨k2, h_k2⟩ : ∃ z_ : Int32, z_ = (i + (2 : Int32)) := ⟨_, rfl⟩
                        refine o_istore X0 K d3_216 218 rfl #[.val (.ref a), .val (.int fr), .val (.int to), .val (.int i), .val (.int ld), .val (.int (3 : Int32)), .val (.int (128 : Int32)), .val (.int (191 : Int32)), .val (.int sc), .val (.int k2)] h_k2.symm (XS.store1 rfl h_s9 rfl) ?_
                        have hk2 : k2.toInt = i.toInt + 2 := by rw [h_k2]; exact hp2
                        refine o_iload X0 K d3_218 220 rfl rfl ?_
                        refine o_iloadN X0 K d3_220 221 rfl rfl ?_
                        refine o_iload X0 K d3_221 223 rfl rfl ?_
                        refine o_iadd X0 K d3_223 224 rfl ?_
                        refine o_icmp_ge_f X0 K d3_224 227 rfl (by omega) ?_
                        refine o_aloadN X0 K d3_227 228 rfl rfl rfl ?_
                        refine o_iload X0 K d3_228 230 rfl rfl ?_
                        refine o_baload X0 K (i := (iN + 2)) (v := (.int (g (iN + 2)))) d3_230 231 rfl e0 A_a (by omega) (by omega) (rfl) ?_
                        refine o_sipush X0 K (192 : Int32) d3_231 234 rfl rfl ?_
                        refine o_iand X0 K d3_234 235 rfl ?_
                        refine o_sipush X0 K (128 : Int32) d3_235 238 rfl rfl ?_
                        refine o_icmp_eq X0 K d3_238 243 (by decide) (by decide) 241 rfl (fun hc238 => ?_) (fun hc238 => ?_)
                        · rw [← Int32.toInt_inj] at hc238
                          rw [Int32.toInt_inj, own_contS (A_a.fit (j := iN + 2) (by omega))] at hc238
                          have hcc2 := hc238
                          obtain ⟨k3, h_k3⟩ : ∃ z_ : Int32, z_ = (k2 + (1 : Int32)) := ⟨_, rfl⟩
                          refine o_iinc X0 K d3_243 246 rfl #[.val (.ref a), .val (.int fr), .val (.int to), .val (.int i), .val (.int ld), .val (.int (3 : Int32)), .val (.int (128 : Int32)), .val (.int (191 : Int32)), .val (.int sc), .val (.int k3)] rfl h_k3.symm rfl ?_
                          have hk3 : k3.toInt = i.toInt + 3 := by rw [h_k3]; have q1 := c_iadd k2 1; have q2 := rng32 (k2 + 1); omega
                          refine o_goto X0 K d3_246 218 (by decide) (by decide) ?_
                          refine o_iload X0 K d3_218 220 rfl rfl ?_
                          refine o_iloadN X0 K d3_220 221 rfl rfl ?_
                          refine o_iload X0 K d3_221 223 rfl rfl ?_
                          refine o_iadd X0 K d3_223 224 rfl ?_
                          refine o_icmp_ge_t X0 K d3_224 249 (by decide) (by decide) (by omega) ?_
                          refine o_iloadN X0 K d3_249 250 rfl rfl ?_
                          refine o_iload X0 K d3_250 252 rfl rfl ?_
                          refine o_iadd X0 K d3_252 253 rfl ?_
                          obtain ⟨i2, h_i2⟩ : ∃ z_ : Int32, z_ = (i + (3 : Int32)) := ⟨_, rfl⟩
                          refine o_istoreN X0 K d3_253 254 rfl #[.val (.ref a), .val (.int fr), .val (.int to), .val (.int i2), .val (.int ld), .val (.int (3 : Int32)), .val (.int (128 : Int32)), .val (.int (191 : Int32)), .val (.int sc), .val (.int k3)] h_i2.symm rfl ?_
                          refine o_goto X0 K d3_254 2 (by decide) (by decide) ?_
                          have hi2' : i2.toInt = i.toInt + 3 := by rw [h_i2]; exact hp3
                          refine ih (i2, _, _, _, _, _, _) ⟨by show 0 ≤ i2.toInt; omega, by show i2.toInt ≤ _; omega, by show to.toInt - i2.toInt ≤ d; omega, ?_, Or.inr ⟨_, rfl, rfl⟩, Or.inr ⟨_, rfl, rfl⟩, Or.inr ⟨_, rfl, rfl⟩, Or.inr ⟨_, rfl, rfl⟩, Or.inr ⟨_, rfl, rfl⟩, Or.inr ⟨_, rfl, rfl⟩⟩
                          show own_it g to.toInt d i2.toInt = _
                          clear X0 K e0 N0 ih
                          subst h_sc
                          subst h_ld
                          have hz : own_sq (g iN &&& 255).toInt (g (iN + 1) &&& 255).toInt (g (iN + 2) &&& 255).toInt (g (iN + 3) &&& 255).toInt (to.toInt - i.toInt) = 3 := by
                            simp only [own_sq, own_len]
                            (repeat' split) <;> omega
                          rw [hz, if_neg (by decide)] at hR
                          rw [← hR, hi2']
                        · rw [← Int32.toInt_inj] at hc238
                          rw [Int32.toInt_inj, own_contS (A_a.fit (j := iN + 2) (by omega))] at hc238
                          have hcc2 := hc238
                          refine o_iconst X0 K (0 : Int32) d3_241 242 rfl rfl ?_
                          refine o_ireturnN X0 K (by decide) d3_242 (by decide) (by decide) N0 ?_
                          refine ⟨_, rfl, Or.inr ⟨rfl, ?_⟩, e0⟩
                          clear X0 K e0 N0
                          rw [← hR]
                          subst h_sc
                          subst h_ld
                          have hz : own_sq (g iN &&& 255).toInt (g (iN + 1) &&& 255).toInt (g (iN + 2) &&& 255).toInt (g (iN + 3) &&& 255).toInt (to.toInt - i.toInt) = 0 := by
                            simp only [own_sq, own_len]
                            (repeat' split) <;> omega
                          rw [if_pos hz, own_it_fix _ _ _ _ (Or.inl (by decide))]
                          omega
                      · refine o_iconst X0 K (0 : Int32) d3_211 212 rfl rfl ?_
                        refine o_ireturnN X0 K (by decide) d3_212 (by decide) (by decide) N0 ?_
                        refine ⟨_, rfl, Or.inr ⟨rfl, ?_⟩, e0⟩
                        clear X0 K e0 N0
                        rw [← hR]
                        subst h_sc
                        subst h_ld
                        have hz : own_sq (g iN &&& 255).toInt (g (iN + 1) &&& 255).toInt (g (iN + 2) &&& 255).toInt (g (iN + 3) &&& 255).toInt (to.toInt - i.toInt) = 0 := by
                          simp only [own_sq, own_len]
                          (repeat' split) <;> omega
                        rw [if_pos hz, own_it_fix _ _ _ _ (Or.inl (by decide))]
                        omega
                  · refine o_iconst X0 K (0 : Int32) d3_184 185 rfl rfl ?_
                    refine o_ireturnN X0 K (by decide) d3_185 (by decide) (by decide) N0 ?_
                    refine ⟨_, rfl, Or.inr ⟨rfl, ?_⟩, e0⟩
                    clear X0 K e0 N0
                    rw [← hR]
                    subst h_ld
                    have hz : own_sq (g iN &&& 255).toInt (g (iN + 1) &&& 255).toInt (g (iN + 2) &&& 255).toInt (g (iN + 3) &&& 255).toInt (to.toInt - i.toInt) = 0 := by
                      simp only [own_sq, own_len]
                      (repeat' split) <;> omega
                    rw [if_pos hz, own_it_fix _ _ _ _ (Or.inl (by decide))]
                    omega
                · rw [← Int32.toInt_inj] at hc99
                  refine o_sipush X0 K (159 : Int32) d3_102 105 rfl rfl ?_
                  refine o_goto X0 K d3_105 111 (by decide) (by decide) ?_
                  refine o_istore X0 K d3_111 113 rfl #[.val (.ref a), .val (.int fr), .val (.int to), .val (.int i), .val (.int ld), .val (.int (3 : Int32)), .val (.int (128 : Int32)), .val (.int (159 : Int32)), s8, s9] rfl rfl ?_
                  refine o_goto X0 K d3_113 170 (by decide) (by decide) ?_
                  refine o_iload X0 K d3_170 172 rfl rfl ?_
                  refine o_iconst X0 K (1 : Int32) d3_172 173 rfl rfl ?_
                  refine o_icmp_le_f X0 K d3_173 176 rfl (by decide) ?_
                  refine o_iloadN X0 K d3_176 177 rfl rfl ?_
                  refine o_iloadN X0 K d3_177 178 rfl rfl ?_
                  refine o_isub X0 K d3_178 179 rfl ?_
                  refine o_iload X0 K d3_179 181 rfl rfl ?_
                  refine o_icmp_ge X0 K d3_181 186 (by decide) (by decide) 184 rfl (fun hc181 => ?_) (fun hc181 => ?_)
                  · refine o_aloadN X0 K d3_186 187 rfl rfl rfl ?_
                    refine o_iloadN X0 K d3_187 188 rfl rfl ?_
                    refine o_iconst X0 K (1 : Int32) d3_188 189 rfl rfl ?_
                    refine o_iadd X0 K d3_189 190 rfl ?_
                    refine o_baload X0 K (i := (iN + 1)) (v := (.int (g (iN + 1)))) d3_190 191 rfl e0 A_a (by omega) (by omega) (rfl) ?_
                    refine o_sipush X0 K (255 : Int32) d3_191 194 rfl rfl ?_
                    refine o_iand X0 K d3_194 195 rfl ?_
                    obtain ⟨sc, h_sc⟩ : ∃ z_ : Int32, z_ = ((g (iN + 1)) &&& (255 : Int32)) := ⟨_, rfl⟩
                    refine o_istore X0 K d3_195 197 rfl #[.val (.ref a), .val (.int fr), .val (.int to), .val (.int i), .val (.int ld), .val (.int (3 : Int32)), .val (.int (128 : Int32)), .val (.int (159 : Int32)), .val (.int sc), s9] h_sc.symm (XS.store1 rfl h_s8 rfl) ?_
                    refine o_iload X0 K d3_197 199 rfl rfl ?_
                    refine o_iload X0 K d3_199 201 rfl rfl ?_
                    refine o_icmp_lt X0 K d3_201 211 (by decide) (by decide) 204 rfl (fun hc201 => ?_) (fun hc201 => ?_)
                    · refine o_iconst X0 K (0 : Int32) d3_211 212 rfl rfl ?_
                      refine o_ireturnN X0 K (by decide) d3_212 (by decide) (by decide) N0 ?_
                      refine ⟨_, rfl, Or.inr ⟨rfl, ?_⟩, e0⟩
                      clear X0 K e0 N0
                      rw [← hR]
                      subst h_sc
                      subst h_ld
                      have hz : own_sq (g iN &&& 255).toInt (g (iN + 1) &&& 255).toInt (g (iN + 2) &&& 255).toInt (g (iN + 3) &&& 255).toInt (to.toInt - i.toInt) = 0 := by
                        simp only [own_sq, own_len]
                        (repeat' split) <;> omega
                      rw [if_pos hz, own_it_fix _ _ _ _ (Or.inl (by decide))]
                      omega
                    · refine o_iload X0 K d3_204 206 rfl rfl ?_
                      refine o_iload X0 K d3_206 208 rfl rfl ?_
                      refine o_icmp_le X0 K d3_208 213 (by decide) (by decide) 211 rfl (fun hc208 => ?_) (fun hc208 => ?_)
                      · refine o_iloadN X0 K d3_213 214 rfl rfl ?_
                        refine o_iconst X0 K (2 : Int32) d3_214 215 rfl rfl ?_
                        refine o_iadd X0 K d3_215 216 rfl ?_
                        obtain ⟨k2, h_k2⟩ : ∃ z_ : Int32, z_ = (i + (2 : Int32)) := ⟨_, rfl⟩
                        refine o_istore X0 K d3_216 218 rfl #[.val (.ref a), .val (.int fr), .val (.int to), .val (.int i), .val (.int ld), .val (.int (3 : Int32)), .val (.int (128 : Int32)), .val (.int (159 : Int32)), .val (.int sc), .val (.int k2)] h_k2.symm (XS.store1 rfl h_s9 rfl) ?_
                        have hk2 : k2.toInt = i.toInt + 2 := by rw [h_k2]; exact hp2
                        refine o_iload X0 K d3_218 220 rfl rfl ?_
                        refine o_iloadN X0 K d3_220 221 rfl rfl ?_
                        refine o_iload X0 K d3_221 223 rfl rfl ?_
                        refine o_iadd X0 K d3_223 224 rfl ?_
                        refine o_icmp_ge_f X0 K d3_224 227 rfl (by omega) ?_
                        refine o_aloadN X0 K d3_227 228 rfl rfl rfl ?_
                        refine o_iload X0 K d3_228 230 rfl rfl ?_
                        refine o_baload X0 K (i := (iN + 2)) (v := (.int (g (iN + 2)))) d3_230 231 rfl e0 A_a (by omega) (by omega) (rfl) ?_
                        refine o_sipush X0 K (192 : Int32) d3_231 234 rfl rfl ?_
                        refine o_iand X0 K d3_234 235 rfl ?_
                        refine o_sipush X0 K (128 : Int32) d3_235 238 rfl rfl ?_
                        refine o_icmp_eq X0 K d3_238 243 (by decide) (by decide) 241 rfl (fun hc238 => ?_) (fun hc238 => ?_)
                        · rw [← Int32.toInt_inj] at hc238
                          rw [Int32.toInt_inj, own_contS (A_a.fit (j := iN + 2) (by omega))] at hc238
                          have hcc2 := hc238
                          obtain ⟨k3, h_k3⟩ : ∃ z_ : Int32, z_ = (k2 + (1 : Int32)) := ⟨_, rfl⟩
                          refine o_iinc X0 K d3_243 246 rfl #[.val (.ref a), .val (.int fr), .val (.int to), .val (.int i), .val (.int ld), .val (.int (3 : Int32)), .val (.int (128 : Int32)), .val (.int (159 : Int32)), .val (.int sc), .val (.int k3)] rfl h_k3.symm rfl ?_
                          have hk3 : k3.toInt = i.toInt + 3 := by rw [h_k3]; have q1 := c_iadd k2 1; have q2 := rng32 (k2 + 1); omega
                          refine o_goto X0 K d3_246 218 (by decide) (by decide) ?_
                          refine o_iload X0 K d3_218 220 rfl rfl ?_
                          refine o_iloadN X0 K d3_220 221 rfl rfl ?_
                          refine o_iload X0 K d3_221 223 rfl rfl ?_
                          refine o_iadd X0 K d3_223 224 rfl ?_
                          refine o_icmp_ge_t X0 K d3_224 249 (by decide) (by decide) (by omega) ?_
                          refine o_iloadN X0 K d3_249 250 rfl rfl ?_
                          refine o_iload X0 K d3_250 252 rfl rfl ?_
                          refine o_iadd X0 K d3_252 253 rfl ?_
                          obtain ⟨i2, h_i2⟩ : ∃ z_ : Int32, z_ = (i + (3 : Int32)) := ⟨_, rfl⟩
                          refine o_istoreN X0 K d3_253 254 rfl #[.val (.ref a), .val (.int fr), .val (.int to), .val (.int i2), .val (.int ld), .val (.int (3 : Int32)), .val (.int (128 : Int32)), .val (.int (159 : Int32)), .val (.int sc), .val (.int k3)] h_i2.symm rfl ?_
                          refine o_goto X0 K d3_254 2 (by decide) (by decide) ?_
                          have hi2' : i2.toInt = i.toInt + 3 := by rw [h_i2]; exact hp3
                          refine ih (i2, _, _, _, _, _, _) ⟨by show 0 ≤ i2.toInt; omega, by show i2.toInt ≤ _; omega, by show to.toInt - i2.toInt ≤ d; omega, ?_, Or.inr ⟨_, rfl, rfl⟩, Or.inr ⟨_, rfl, rfl⟩, Or.inr ⟨_, rfl, rfl⟩, Or.inr ⟨_, rfl, rfl⟩, Or.inr ⟨_, rfl, rfl⟩, Or.inr ⟨_, rfl, rfl⟩⟩
                          show own_it g to.toInt d i2.toInt = _
                          clear X0 K e0 N0 ih
                          subst h_sc
                          subst h_ld
                          have hz : own_sq (g iN &&& 255).toInt (g (iN + 1) &&& 255).toInt (g (iN + 2) &&& 255).toInt (g (iN + 3) &&& 255).toInt (to.toInt - i.toInt) = 3 := by
                            simp only [own_sq, own_len]
                            (repeat' split) <;> omega
                          rw [hz, if_neg (by decide)] at hR
                          rw [← hR, hi2']
                        · rw [← Int32.toInt_inj] at hc238
                          rw [Int32.toInt_inj, own_contS (A_a.fit (j := iN + 2) (by omega))] at hc238
                          have hcc2 := hc238
                          refine o_iconst X0 K (0 : Int32) d3_241 242 rfl rfl ?_
                          refine o_ireturnN X0 K (by decide) d3_242 (by decide) (by decide) N0 ?_
                          refine ⟨_, rfl, Or.inr ⟨rfl, ?_⟩, e0⟩
                          clear X0 K e0 N0
                          rw [← hR]
                          subst h_sc
                          subst h_ld
                          have hz : own_sq (g iN &&& 255).toInt (g (iN + 1) &&& 255).toInt (g (iN + 2) &&& 255).toInt (g (iN + 3) &&& 255).toInt (to.toInt - i.toInt) = 0 := by
                            simp only [own_sq, own_len]
                            (repeat' split) <;> omega
                          rw [if_pos hz, own_it_fix _ _ _ _ (Or.inl (by decide))]
                          omega
                      · refine o_iconst X0 K (0 : Int32) d3_211 212 rfl rfl ?_
                        refine o_ireturnN X0 K (by decide) d3_212 (by decide) (by decide) N0 ?_
                        refine ⟨_, rfl, Or.inr ⟨rfl, ?_⟩, e0⟩
                        clear X0 K e0 N0
                        rw [← hR]
                        subst h_sc
                        subst h_ld
                        have hz : own_sq (g iN &&& 255).toInt (g (iN + 1) &&& 255).toInt (g (iN + 2) &&& 255).toInt (g (iN + 3) &&& 255).toInt (to.toInt - i.toInt) = 0 := by
                          simp only [own_sq, own_len]
                          (repeat' split) <;> omega
                        rw [if_pos hz, own_it_fix _ _ _ _ (Or.inl (by decide))]
                        omega
                  · refine o_iconst X0 K (0 : Int32) d3_184 185 rfl rfl ?_
                    refine o_ireturnN X0 K (by decide) d3_185 (by decide) (by decide) N0 ?_
                    refine ⟨_, rfl, Or.inr ⟨rfl, ?_⟩, e0⟩
                    clear X0 K e0 N0
                    rw [← hR]
                    subst h_ld
                    have hz : own_sq (g iN &&& 255).toInt (g (iN + 1) &&& 255).toInt (g (iN + 2) &&& 255).toInt (g (iN + 3) &&& 255).toInt (to.toInt - i.toInt) = 0 := by
                      simp only [own_sq, own_len]
                      (repeat' split) <;> omega
                    rw [if_pos hz, own_it_fix _ _ _ _ (Or.inl (by decide))]
                    omega
              · rw [← Int32.toInt_inj] at hc80
                refine o_sipush X0 K (160 : Int32) d3_83 86 rfl rfl ?_
                refine o_goto X0 K d3_86 92 (by decide) (by decide) ?_
                refine o_istore X0 K d3_92 94 rfl #[.val (.ref a), .val (.int fr), .val (.int to), .val (.int i), .val (.int ld), .val (.int (3 : Int32)), .val (.int (160 : Int32)), .val (.int (191 : Int32)), s8, s9] rfl rfl ?_
                refine o_iload X0 K d3_94 96 rfl rfl ?_
                refine o_sipush X0 K (237 : Int32) d3_96 99 rfl rfl ?_
                refine o_icmp_ne X0 K d3_99 108 (by decide) (by decide) 102 rfl (fun hc99 => ?_) (fun hc99 => ?_)
                · rw [← Int32.toInt_inj] at hc99
                  refine o_sipush X0 K (191 : Int32) d3_108 111 rfl rfl ?_
                  refine o_istore X0 K d3_111 113 rfl #[.val (.ref a), .val (.int fr), .val (.int to), .val (.int i), .val (.int ld), .val (.int (3 : Int32)), .val (.int (160 : Int32)), .val (.int (191 : Int32)), s8, s9] rfl rfl ?_
                  refine o_goto X0 K d3_113 170 (by decide) (by decide) ?_
                  refine o_iload X0 K d3_170 172 rfl rfl ?_
                  refine o_iconst X0 K (1 : Int32) d3_172 173 rfl rfl ?_
                  refine o_icmp_le_f X0 K d3_173 176 rfl (by decide) ?_
                  refine o_iloadN X0 K d3_176 177 rfl rfl ?_
                  refine o_iloadN X0 K d3_177 178 rfl rfl ?_
                  refine o_isub X0 K d3_178 179 rfl ?_
                  refine o_iload X0 K d3_179 181 rfl rfl ?_
                  refine o_icmp_ge X0 K d3_181 186 (by decide) (by decide) 184 rfl (fun hc181 => ?_) (fun hc181 => ?_)
                  · refine o_aloadN X0 K d3_186 187 rfl rfl rfl ?_
                    refine o_iloadN X0 K d3_187 188 rfl rfl ?_
                    refine o_iconst X0 K (1 : Int32) d3_188 189 rfl rfl ?_
                    refine o_iadd X0 K d3_189 190 rfl ?_
                    refine o_baload X0 K (i := (iN + 1)) (v := (.int (g (iN + 1)))) d3_190 191 rfl e0 A_a (by omega) (by omega) (rfl) ?_
                    refine o_sipush X0 K (255 : Int32) d3_191 194 rfl rfl ?_
                    refine o_iand X0 K d3_194 195 rfl ?_
                    obtain ⟨sc, h_sc⟩ : ∃ z_ : Int32, z_ = ((g (iN + 1)) &&& (255 : Int32)) := ⟨_, rfl⟩
                    refine o_istore X0 K d3_195 197 rfl #[.val (.ref a), .val (.int fr), .val (.int to), .val (.int i), .val (.int ld), .val (.int (3 : Int32)), .val (.int (160 : Int32)), .val (.int (191 : Int32)), .val (.int sc), s9] h_sc.symm (XS.store1 rfl h_s8 rfl) ?_
                    refine o_iload X0 K d3_197 199 rfl rfl ?_
                    refine o_iload X0 K d3_199 201 rfl rfl ?_
                    refine o_icmp_lt X0 K d3_201 211 (by decide) (by decide) 204 rfl (fun hc201 => ?_) (fun hc201 => ?_)
                    · refine o_iconst X0 K (0 : Int32) d3_211 212 rfl rfl ?_
                      refine o_ireturnN X0 K (by decide) d3_212 (by decide) (by decide) N0 ?_
                      refine ⟨_, rfl, Or.inr ⟨rfl, ?_⟩, e0⟩
                      clear X0 K e0 N0
                      rw [← hR]
                      subst h_sc
                      subst h_ld
                      have hz : own_sq (g iN &&& 255).toInt (g (iN + 1) &&& 255).toInt (g (iN + 2) &&& 255).toInt (g (iN + 3) &&& 255).toInt (to.toInt - i.toInt) = 0 := by
                        simp only [own_sq, own_len]
                        (repeat' split) <;> omega
                      rw [if_pos hz, own_it_fix _ _ _ _ (Or.inl (by decide))]
                      omega
                    · refine o_iload X0 K d3_204 206 rfl rfl ?_
                      refine o_iload X0 K d3_206 208 rfl rfl ?_
                      refine o_icmp_le X0 K d3_208 213 (by decide) (by decide) 211 rfl (fun hc208 => ?_) (fun hc208 => ?_)
                      · refine o_iloadN X0 K d3_213 214 rfl rfl ?_
                        refine o_iconst X0 K (2 : Int32) d3_214 215 rfl rfl ?_
                        refine o_iadd X0 K d3_215 216 rfl ?_
                        obtain ⟨k2, h_k2⟩ : ∃ z_ : Int32, z_ = (i + (2 : Int32)) := ⟨_, rfl⟩
                        refine o_istore X0 K d3_216 218 rfl #[.val (.ref a), .val (.int fr), .val (.int to), .val (.int i), .val (.int ld), .val (.int (3 : Int32)), .val (.int (160 : Int32)), .val (.int (191 : Int32)), .val (.int sc), .val (.int k2)] h_k2.symm (XS.store1 rfl h_s9 rfl) ?_
                        have hk2 : k2.toInt = i.toInt + 2 := by rw [h_k2]; exact hp2
                        refine o_iload X0 K d3_218 220 rfl rfl ?_
                        refine o_iloadN X0 K d3_220 221 rfl rfl ?_
                        refine o_iload X0 K d3_221 223 rfl rfl ?_
                        refine o_iadd X0 K d3_223 224 rfl ?_
                        refine o_icmp_ge_f X0 K d3_224 227 rfl (by omega) ?_
                        refine o_aloadN X0 K d3_227 228 rfl rfl rfl ?_
                        refine o_iload X0 K d3_228 230 rfl rfl ?_
                        refine o_baload X0 K (i := (iN + 2)) (v := (.int (g (iN + 2)))) d3_230 231 rfl e0 A_a (by omega) (by omega) (rfl) ?_
                        refine o_sipush X0 K (192 : Int32) d3_231 234 rfl rfl ?_
                        refine o_iand X0 K d3_234 235 rfl ?_
                        refine o_sipush X0 K (128 : Int32) d3_235 238 rfl rfl ?_
                        refine o_icmp_eq X0 K d3_238 243 (by decide) (by decide) 241 rfl (fun hc238 => ?_) (fun hc238 => ?_)
                        · rw [← Int32.toInt_inj] at hc238
                          rw [Int32.toInt_inj, own_contS (A_a.fit (j := iN + 2) (by omega))] at hc238
                          have hcc2 := hc238
                          obtain ⟨k3, h_k3⟩ : ∃ z_ : Int32, z_ = (k2 + (1 : Int32)) := ⟨_, rfl⟩
                          refine o_iinc X0 K d3_243 246 rfl #[.val (.ref a), .val (.int fr), .val (.int to), .val (.int i), .val (.int ld), .val (.int (3 : Int32)), .val (.int (160 : Int32)), .val (.int (191 : Int32)), .val (.int sc), .val (.int k3)] rfl h_k3.symm rfl ?_
                          have hk3 : k3.toInt = i.toInt + 3 := by rw [h_k3]; have q1 := c_iadd k2 1; have q2 := rng32 (k2 + 1); omega
                          refine o_goto X0 K d3_246 218 (by decide) (by decide) ?_
                          refine o_iload X0 K d3_218 220 rfl rfl ?_
                          refine o_iloadN X0 K d3_220 221 rfl rfl ?_
                          refine o_iload X0 K d3_221 223 rfl rfl ?_
                          refine o_iadd X0 K d3_223 224 rfl ?_
                          refine o_icmp_ge_t X0 K d3_224 249 (by decide) (by decide) (by omega) ?_
                          refine o_iloadN X0 K d3_249 250 rfl rfl ?_
                          refine o_iload X0 K d3_250 252 rfl rfl ?_
                          refine o_iadd X0 K d3_252 253 rfl ?_
                          obtain ⟨i2, h_i2⟩ : ∃ z_ : Int32, z_ = (i + (3 : Int32)) := ⟨_, rfl⟩
                          refine o_istoreN X0 K d3_253 254 rfl #[.val (.ref a), .val (.int fr), .val (.int to), .val (.int i2), .val (.int ld), .val (.int (3 : Int32)), .val (.int (160 : Int32)), .val (.int (191 : Int32)), .val (.int sc), .val (.int k3)] h_i2.symm rfl ?_
                          refine o_goto X0 K d3_254 2 (by decide) (by decide) ?_
                          have hi2' : i2.toInt = i.toInt + 3 := by rw [h_i2]; exact hp3
                          refine ih (i2, _, _, _, _, _, _) ⟨by show 0 ≤ i2.toInt; omega, by show i2.toInt ≤ _; omega, by show to.toInt - i2.toInt ≤ d; omega, ?_, Or.inr ⟨_, rfl, rfl⟩, Or.inr ⟨_, rfl, rfl⟩, Or.inr ⟨_, rfl, rfl⟩, Or.inr ⟨_, rfl, rfl⟩, Or.inr ⟨_, rfl, rfl⟩, Or.inr ⟨_, rfl, rfl⟩⟩
                          show own_it g to.toInt d i2.toInt = _
                          clear X0 K e0 N0 ih
                          subst h_sc
                          subst h_ld
                          have hz : own_sq (g iN &&& 255).toInt (g (iN + 1) &&& 255).toInt (g (iN + 2) &&& 255).toInt (g (iN + 3) &&& 255).toInt (to.toInt - i.toInt) = 3 := by
                            simp only [own_sq, own_len]
                            (repeat' split) <;> omega
                          rw [hz, if_neg (by decide)] at hR
                          rw [← hR, hi2']
                        · rw [← Int32.toInt_inj] at hc238
                          rw [Int32.toInt_inj, own_contS (A_a.fit (j := iN + 2) (by omega))] at hc238
                          have hcc2 := hc238
                          refine o_iconst X0 K (0 : Int32) d3_241 242 rfl rfl ?_
                          refine o_ireturnN X0 K (by decide) d3_242 (by decide) (by decide) N0 ?_
                          refine ⟨_, rfl, Or.inr ⟨rfl, ?_⟩, e0⟩
                          clear X0 K e0 N0
                          rw [← hR]
                          subst h_sc
                          subst h_ld
                          have hz : own_sq (g iN &&& 255).toInt (g (iN + 1) &&& 255).toInt (g (iN + 2) &&& 255).toInt (g (iN + 3) &&& 255).toInt (to.toInt - i.toInt) = 0 := by
                            simp only [own_sq, own_len]
                            (repeat' split) <;> omega
                          rw [if_pos hz, own_it_fix _ _ _ _ (Or.inl (by decide))]
                          omega
                      · refine o_iconst X0 K (0 : Int32) d3_211 212 rfl rfl ?_
                        refine o_ireturnN X0 K (by decide) d3_212 (by decide) (by decide) N0 ?_
                        refine ⟨_, rfl, Or.inr ⟨rfl, ?_⟩, e0⟩
                        clear X0 K e0 N0
                        rw [← hR]
                        subst h_sc
                        subst h_ld
                        have hz : own_sq (g iN &&& 255).toInt (g (iN + 1) &&& 255).toInt (g (iN + 2) &&& 255).toInt (g (iN + 3) &&& 255).toInt (to.toInt - i.toInt) = 0 := by
                          simp only [own_sq, own_len]
                          (repeat' split) <;> omega
                        rw [if_pos hz, own_it_fix _ _ _ _ (Or.inl (by decide))]
                        omega
                  · refine o_iconst X0 K (0 : Int32) d3_184 185 rfl rfl ?_
                    refine o_ireturnN X0 K (by decide) d3_185 (by decide) (by decide) N0 ?_
                    refine ⟨_, rfl, Or.inr ⟨rfl, ?_⟩, e0⟩
                    clear X0 K e0 N0
                    rw [← hR]
                    subst h_ld
                    have hz : own_sq (g iN &&& 255).toInt (g (iN + 1) &&& 255).toInt (g (iN + 2) &&& 255).toInt (g (iN + 3) &&& 255).toInt (to.toInt - i.toInt) = 0 := by
                      simp only [own_sq, own_len]
                      (repeat' split) <;> omega
                    rw [if_pos hz, own_it_fix _ _ _ _ (Or.inl (by decide))]
                    omega
                · rw [← Int32.toInt_inj] at hc99
                  refine o_sipush X0 K (159 : Int32) d3_102 105 rfl rfl ?_
                  refine o_goto X0 K d3_105 111 (by decide) (by decide) ?_
                  refine o_istore X0 K d3_111 113 rfl #[.val (.ref a), .val (.int fr), .val (.int to), .val (.int i), .val (.int ld), .val (.int (3 : Int32)), .val (.int (160 : Int32)), .val (.int (159 : Int32)), s8, s9] rfl rfl ?_
                  refine o_goto X0 K d3_113 170 (by decide) (by decide) ?_
                  refine o_iload X0 K d3_170 172 rfl rfl ?_
                  refine o_iconst X0 K (1 : Int32) d3_172 173 rfl rfl ?_
                  refine o_icmp_le_f X0 K d3_173 176 rfl (by decide) ?_
                  refine o_iloadN X0 K d3_176 177 rfl rfl ?_
                  refine o_iloadN X0 K d3_177 178 rfl rfl ?_
                  refine o_isub X0 K d3_178 179 rfl ?_
                  refine o_iload X0 K d3_179 181 rfl rfl ?_
                  refine o_icmp_ge X0 K d3_181 186 (by decide) (by decide) 184 rfl (fun hc181 => ?_) (fun hc181 => ?_)
                  · refine o_aloadN X0 K d3_186 187 rfl rfl rfl ?_
                    refine o_iloadN X0 K d3_187 188 rfl rfl ?_
                    refine o_iconst X0 K (1 : Int32) d3_188 189 rfl rfl ?_
                    refine o_iadd X0 K d3_189 190 rfl ?_
                    refine o_baload X0 K (i := (iN + 1)) (v := (.int (g (iN + 1)))) d3_190 191 rfl e0 A_a (by omega) (by omega) (rfl) ?_
                    refine o_sipush X0 K (255 : Int32) d3_191 194 rfl rfl ?_
                    refine o_iand X0 K d3_194 195 rfl ?_
                    obtain ⟨sc, h_sc⟩ : ∃ z_ : Int32, z_ = ((g (iN + 1)) &&& (255 : Int32)) := ⟨_, rfl⟩
                    refine o_istore X0 K d3_195 197 rfl #[.val (.ref a), .val (.int fr), .val (.int to), .val (.int i), .val (.int ld), .val (.int (3 : Int32)), .val (.int (160 : Int32)), .val (.int (159 : Int32)), .val (.int sc), s9] h_sc.symm (XS.store1 rfl h_s8 rfl) ?_
                    refine o_iload X0 K d3_197 199 rfl rfl ?_
                    refine o_iload X0 K d3_199 201 rfl rfl ?_
                    refine o_icmp_lt X0 K d3_201 211 (by decide) (by decide) 204 rfl (fun hc201 => ?_) (fun hc201 => ?_)
                    · refine o_iconst X0 K (0 : Int32) d3_211 212 rfl rfl ?_
                      refine o_ireturnN X0 K (by decide) d3_212 (by decide) (by decide) N0 ?_
                      refine ⟨_, rfl, Or.inr ⟨rfl, ?_⟩, e0⟩
                      clear X0 K e0 N0
                      rw [← hR]
                      subst h_sc
                      subst h_ld
                      have hz : own_sq (g iN &&& 255).toInt (g (iN + 1) &&& 255).toInt (g (iN + 2) &&& 255).toInt (g (iN + 3) &&& 255).toInt (to.toInt - i.toInt) = 0 := by
                        simp only [own_sq, own_len]
                        (repeat' split) <;> omega
                      rw [if_pos hz, own_it_fix _ _ _ _ (Or.inl (by decide))]
                      omega
                    · refine o_iload X0 K d3_204 206 rfl rfl ?_
                      refine o_iload X0 K d3_206 208 rfl rfl ?_
                      refine o_icmp_le X0 K d3_208 213 (by decide) (by decide) 211 rfl (fun hc208 => ?_) (fun hc208 => ?_)
                      · refine o_iloadN X0 K d3_213 214 rfl rfl ?_
                        refine o_iconst X0 K (2 : Int32) d3_214 215 rfl rfl ?_
                        refine o_iadd X0 K d3_215 216 rfl ?_
                        obtain ⟨k2, h_k2⟩ : ∃ z_ : Int32, z_ = (i + (2 : Int32)) := ⟨_, rfl⟩
                        refine o_istore X0 K d3_216 218 rfl #[.val (.ref a), .val (.int fr), .val (.int to), .val (.int i), .val (.int ld), .val (.int (3 : Int32)), .val (.int (160 : Int32)), .val (.int (159 : Int32)), .val (.int sc), .val (.int k2)] h_k2.symm (XS.store1 rfl h_s9 rfl) ?_
                        have hk2 : k2.toInt = i.toInt + 2 := by rw [h_k2]; exact hp2
                        refine o_iload X0 K d3_218 220 rfl rfl ?_
                        refine o_iloadN X0 K d3_220 221 rfl rfl ?_
                        refine o_iload X0 K d3_221 223 rfl rfl ?_
                        refine o_iadd X0 K d3_223 224 rfl ?_
                        refine o_icmp_ge_f X0 K d3_224 227 rfl (by omega) ?_
                        refine o_aloadN X0 K d3_227 228 rfl rfl rfl ?_
                        refine o_iload X0 K d3_228 230 rfl rfl ?_
                        refine o_baload X0 K (i := (iN + 2)) (v := (.int (g (iN + 2)))) d3_230 231 rfl e0 A_a (by omega) (by omega) (rfl) ?_
                        refine o_sipush X0 K (192 : Int32) d3_231 234 rfl rfl ?_
                        refine o_iand X0 K d3_234 235 rfl ?_
                        refine o_sipush X0 K (128 : Int32) d3_235 238 rfl rfl ?_
                        refine o_icmp_eq X0 K d3_238 243 (by decide) (by decide) 241 rfl (fun hc238 => ?_) (fun hc238 => ?_)
                        · rw [← Int32.toInt_inj] at hc238
                          rw [Int32.toInt_inj, own_contS (A_a.fit (j := iN + 2) (by omega))] at hc238
                          have hcc2 := hc238
                          obtain ⟨k3, h_k3⟩ : ∃ z_ : Int32, z_ = (k2 + (1 : Int32)) := ⟨_, rfl⟩
                          refine o_iinc X0 K d3_243 246 rfl #[.val (.ref a), .val (.int fr), .val (.int to), .val (.int i), .val (.int ld), .val (.int (3 : Int32)), .val (.int (160 : Int32)), .val (.int (159 : Int32)), .val (.int sc), .val (.int k3)] rfl h_k3.symm rfl ?_
                          have hk3 : k3.toInt = i.toInt + 3 := by rw [h_k3]; have q1 := c_iadd k2 1; have q2 := rng32 (k2 + 1); omega
                          refine o_goto X0 K d3_246 218 (by decide) (by decide) ?_
                          refine o_iload X0 K d3_218 220 rfl rfl ?_
                          refine o_iloadN X0 K d3_220 221 rfl rfl ?_
                          refine o_iload X0 K d3_221 223 rfl rfl ?_
                          refine o_iadd X0 K d3_223 224 rfl ?_
                          refine o_icmp_ge_t X0 K d3_224 249 (by decide) (by decide) (by omega) ?_
                          refine o_iloadN X0 K d3_249 250 rfl rfl ?_
                          refine o_iload X0 K d3_250 252 rfl rfl ?_
                          refine o_iadd X0 K d3_252 253 rfl ?_
                          obtain ⟨i2, h_i2⟩ : ∃ z_ : Int32, z_ = (i + (3 : Int32)) := ⟨_, rfl⟩
                          refine o_istoreN X0 K d3_253 254 rfl #[.val (.ref a), .val (.int fr), .val (.int to), .val (.int i2), .val (.int ld), .val (.int (3 : Int32)), .val (.int (160 : Int32)), .val (.int (159 : Int32)), .val (.int sc), .val (.int k3)] h_i2.symm rfl ?_
                          refine o_goto X0 K d3_254 2 (by decide) (by decide) ?_
                          have hi2' : i2.toInt = i.toInt + 3 := by rw [h_i2]; exact hp3
                          refine ih (i2, _, _, _, _, _, _) ⟨by show 0 ≤ i2.toInt; omega, by show i2.toInt ≤ _; omega, by show to.toInt - i2.toInt ≤ d; omega, ?_, Or.inr ⟨_, rfl, rfl⟩, Or.inr ⟨_, rfl, rfl⟩, Or.inr ⟨_, rfl, rfl⟩, Or.inr ⟨_, rfl, rfl⟩, Or.inr ⟨_, rfl, rfl⟩, Or.inr ⟨_, rfl, rfl⟩⟩
                          show own_it g to.toInt d i2.toInt = _
                          clear X0 K e0 N0 ih
                          subst h_sc
                          subst h_ld
                          have hz : own_sq (g iN &&& 255).toInt (g (iN + 1) &&& 255).toInt (g (iN + 2) &&& 255).toInt (g (iN + 3) &&& 255).toInt (to.toInt - i.toInt) = 3 := by
                            simp only [own_sq, own_len]
                            (repeat' split) <;> omega
                          rw [hz, if_neg (by decide)] at hR
                          rw [← hR, hi2']
                        · rw [← Int32.toInt_inj] at hc238
                          rw [Int32.toInt_inj, own_contS (A_a.fit (j := iN + 2) (by omega))] at hc238
                          have hcc2 := hc238
                          refine o_iconst X0 K (0 : Int32) d3_241 242 rfl rfl ?_
                          refine o_ireturnN X0 K (by decide) d3_242 (by decide) (by decide) N0 ?_
                          refine ⟨_, rfl, Or.inr ⟨rfl, ?_⟩, e0⟩
                          clear X0 K e0 N0
                          rw [← hR]
                          subst h_sc
                          subst h_ld
                          have hz : own_sq (g iN &&& 255).toInt (g (iN + 1) &&& 255).toInt (g (iN + 2) &&& 255).toInt (g (iN + 3) &&& 255).toInt (to.toInt - i.toInt) = 0 := by
                            simp only [own_sq, own_len]
                            (repeat' split) <;> omega
                          rw [if_pos hz, own_it_fix _ _ _ _ (Or.inl (by decide))]
                          omega
                      · refine o_iconst X0 K (0 : Int32) d3_211 212 rfl rfl ?_
                        refine o_ireturnN X0 K (by decide) d3_212 (by decide) (by decide) N0 ?_
                        refine ⟨_, rfl, Or.inr ⟨rfl, ?_⟩, e0⟩
                        clear X0 K e0 N0
                        rw [← hR]
                        subst h_sc
                        subst h_ld
                        have hz : own_sq (g iN &&& 255).toInt (g (iN + 1) &&& 255).toInt (g (iN + 2) &&& 255).toInt (g (iN + 3) &&& 255).toInt (to.toInt - i.toInt) = 0 := by
                          simp only [own_sq, own_len]
                          (repeat' split) <;> omega
                        rw [if_pos hz, own_it_fix _ _ _ _ (Or.inl (by decide))]
                        omega
                  · refine o_iconst X0 K (0 : Int32) d3_184 185 rfl rfl ?_
                    refine o_ireturnN X0 K (by decide) d3_185 (by decide) (by decide) N0 ?_
                    refine ⟨_, rfl, Or.inr ⟨rfl, ?_⟩, e0⟩
                    clear X0 K e0 N0
                    rw [← hR]
                    subst h_ld
                    have hz : own_sq (g iN &&& 255).toInt (g (iN + 1) &&& 255).toInt (g (iN + 2) &&& 255).toInt (g (iN + 3) &&& 255).toInt (to.toInt - i.toInt) = 0 := by
                      simp only [own_sq, own_len]
                      (repeat' split) <;> omega
                    rw [if_pos hz, own_it_fix _ _ _ _ (Or.inl (by decide))]
                    omega
          · refine o_iconst X0 K (2 : Int32) d3_58 59 rfl rfl ?_
            refine o_istore X0 K d3_59 61 rfl #[.val (.ref a), .val (.int fr), .val (.int to), .val (.int i), .val (.int ld), .val (.int (2 : Int32)), .val (.int (128 : Int32)), .val (.int (191 : Int32)), s8, s9] rfl (XS.store1 rfl h_s5 rfl) ?_
            refine o_goto X0 K d3_61 170 (by decide) (by decide) ?_
            refine o_iload X0 K d3_170 172 rfl rfl ?_
            refine o_iconst X0 K (1 : Int32) d3_172 173 rfl rfl ?_
            refine o_icmp_le_f X0 K d3_173 176 rfl (by decide) ?_
            refine o_iloadN X0 K d3_176 177 rfl rfl ?_
            refine o_iloadN X0 K d3_177 178 rfl rfl ?_
            refine o_isub X0 K d3_178 179 rfl ?_
            refine o_iload X0 K d3_179 181 rfl rfl ?_
            refine o_icmp_ge X0 K d3_181 186 (by decide) (by decide) 184 rfl (fun hc181 => ?_) (fun hc181 => ?_)
            · refine o_aloadN X0 K d3_186 187 rfl rfl rfl ?_
              refine o_iloadN X0 K d3_187 188 rfl rfl ?_
              refine o_iconst X0 K (1 : Int32) d3_188 189 rfl rfl ?_
              refine o_iadd X0 K d3_189 190 rfl ?_
              refine o_baload X0 K (i := (iN + 1)) (v := (.int (g (iN + 1)))) d3_190 191 rfl e0 A_a (by omega) (by omega) (rfl) ?_
              refine o_sipush X0 K (255 : Int32) d3_191 194 rfl rfl ?_
              refine o_iand X0 K d3_194 195 rfl ?_
              obtain ⟨sc, h_sc⟩ : ∃ z_ : Int32, z_ = ((g (iN + 1)) &&& (255 : Int32)) := ⟨_, rfl⟩
              refine o_istore X0 K d3_195 197 rfl #[.val (.ref a), .val (.int fr), .val (.int to), .val (.int i), .val (.int ld), .val (.int (2 : Int32)), .val (.int (128 : Int32)), .val (.int (191 : Int32)), .val (.int sc), s9] h_sc.symm (XS.store1 rfl h_s8 rfl) ?_
              refine o_iload X0 K d3_197 199 rfl rfl ?_
              refine o_iload X0 K d3_199 201 rfl rfl ?_
              refine o_icmp_lt X0 K d3_201 211 (by decide) (by decide) 204 rfl (fun hc201 => ?_) (fun hc201 => ?_)
              · refine o_iconst X0 K (0 : Int32) d3_211 212 rfl rfl ?_
                refine o_ireturnN X0 K (by decide) d3_212 (by decide) (by decide) N0 ?_
                refine ⟨_, rfl, Or.inr ⟨rfl, ?_⟩, e0⟩
                clear X0 K e0 N0
                rw [← hR]
                subst h_sc
                subst h_ld
                have hz : own_sq (g iN &&& 255).toInt (g (iN + 1) &&& 255).toInt (g (iN + 2) &&& 255).toInt (g (iN + 3) &&& 255).toInt (to.toInt - i.toInt) = 0 := by
                  simp only [own_sq, own_len]
                  (repeat' split) <;> omega
                rw [if_pos hz, own_it_fix _ _ _ _ (Or.inl (by decide))]
                omega
              · refine o_iload X0 K d3_204 206 rfl rfl ?_
                refine o_iload X0 K d3_206 208 rfl rfl ?_
                refine o_icmp_le X0 K d3_208 213 (by decide) (by decide) 211 rfl (fun hc208 => ?_) (fun hc208 => ?_)
                · refine o_iloadN X0 K d3_213 214 rfl rfl ?_
                  refine o_iconst X0 K (2 : Int32) d3_214 215 rfl rfl ?_
                  refine o_iadd X0 K d3_215 216 rfl ?_
                  obtain ⟨k2, h_k2⟩ : ∃ z_ : Int32, z_ = (i + (2 : Int32)) := ⟨_, rfl⟩
                  refine o_istore X0 K d3_216 218 rfl #[.val (.ref a), .val (.int fr), .val (.int to), .val (.int i), .val (.int ld), .val (.int (2 : Int32)), .val (.int (128 : Int32)), .val (.int (191 : Int32)), .val (.int sc), .val (.int k2)] h_k2.symm (XS.store1 rfl h_s9 rfl) ?_
                  have hk2 : k2.toInt = i.toInt + 2 := by rw [h_k2]; exact hp2
                  refine o_iload X0 K d3_218 220 rfl rfl ?_
                  refine o_iloadN X0 K d3_220 221 rfl rfl ?_
                  refine o_iload X0 K d3_221 223 rfl rfl ?_
                  refine o_iadd X0 K d3_223 224 rfl ?_
                  refine o_icmp_ge_t X0 K d3_224 249 (by decide) (by decide) (by omega) ?_
                  refine o_iloadN X0 K d3_249 250 rfl rfl ?_
                  refine o_iload X0 K d3_250 252 rfl rfl ?_
                  refine o_iadd X0 K d3_252 253 rfl ?_
                  obtain ⟨i2, h_i2⟩ : ∃ z_ : Int32, z_ = (i + (2 : Int32)) := ⟨_, rfl⟩
                  refine o_istoreN X0 K d3_253 254 rfl #[.val (.ref a), .val (.int fr), .val (.int to), .val (.int i2), .val (.int ld), .val (.int (2 : Int32)), .val (.int (128 : Int32)), .val (.int (191 : Int32)), .val (.int sc), .val (.int k2)] h_i2.symm rfl ?_
                  refine o_goto X0 K d3_254 2 (by decide) (by decide) ?_
                  have hi2' : i2.toInt = i.toInt + 2 := by rw [h_i2]; exact hp2
                  refine ih (i2, _, _, _, _, _, _) ⟨by show 0 ≤ i2.toInt; omega, by show i2.toInt ≤ _; omega, by show to.toInt - i2.toInt ≤ d; omega, ?_, Or.inr ⟨_, rfl, rfl⟩, Or.inr ⟨_, rfl, rfl⟩, Or.inr ⟨_, rfl, rfl⟩, Or.inr ⟨_, rfl, rfl⟩, Or.inr ⟨_, rfl, rfl⟩, Or.inr ⟨_, rfl, rfl⟩⟩
                  show own_it g to.toInt d i2.toInt = _
                  clear X0 K e0 N0 ih
                  subst h_sc
                  subst h_ld
                  have hz : own_sq (g iN &&& 255).toInt (g (iN + 1) &&& 255).toInt (g (iN + 2) &&& 255).toInt (g (iN + 3) &&& 255).toInt (to.toInt - i.toInt) = 2 := by
                    simp only [own_sq, own_len]
                    (repeat' split) <;> omega
                  rw [hz, if_neg (by decide)] at hR
                  rw [← hR, hi2']
                · refine o_iconst X0 K (0 : Int32) d3_211 212 rfl rfl ?_
                  refine o_ireturnN X0 K (by decide) d3_212 (by decide) (by decide) N0 ?_
                  refine ⟨_, rfl, Or.inr ⟨rfl, ?_⟩, e0⟩
                  clear X0 K e0 N0
                  rw [← hR]
                  subst h_sc
                  subst h_ld
                  have hz : own_sq (g iN &&& 255).toInt (g (iN + 1) &&& 255).toInt (g (iN + 2) &&& 255).toInt (g (iN + 3) &&& 255).toInt (to.toInt - i.toInt) = 0 := by
                    simp only [own_sq, own_len]
                    (repeat' split) <;> omega
                  rw [if_pos hz, own_it_fix _ _ _ _ (Or.inl (by decide))]
                  omega
            · refine o_iconst X0 K (0 : Int32) d3_184 185 rfl rfl ?_
              refine o_ireturnN X0 K (by decide) d3_185 (by decide) (by decide) N0 ?_
              refine ⟨_, rfl, Or.inr ⟨rfl, ?_⟩, e0⟩
              clear X0 K e0 N0
              rw [← hR]
              subst h_ld
              have hz : own_sq (g iN &&& 255).toInt (g (iN + 1) &&& 255).toInt (g (iN + 2) &&& 255).toInt (g (iN + 3) &&& 255).toInt (to.toInt - i.toInt) = 0 := by
                simp only [own_sq, own_len]
                (repeat' split) <;> omega
              rw [if_pos hz, own_it_fix _ _ _ _ (Or.inl (by decide))]
              omega
        · refine o_iconst X0 K (0 : Int32) d3_48 49 rfl rfl ?_
          refine o_ireturnN X0 K (by decide) d3_49 (by decide) (by decide) N0 ?_
          refine ⟨_, rfl, Or.inr ⟨rfl, ?_⟩, e0⟩
          clear X0 K e0 N0
          rw [← hR]
          subst h_ld
          have hz : own_sq (g iN &&& 255).toInt (g (iN + 1) &&& 255).toInt (g (iN + 2) &&& 255).toInt (g (iN + 3) &&& 255).toInt (to.toInt - i.toInt) = 0 := by
            simp only [own_sq, own_len]
            (repeat' split) <;> omega
          rw [if_pos hz, own_it_fix _ _ _ _ (Or.inl (by decide))]
          omega
      · refine o_iconst X0 K (1 : Int32) d3_34 35 rfl rfl ?_
        refine o_istore X0 K d3_35 37 rfl #[.val (.ref a), .val (.int fr), .val (.int to), .val (.int i), .val (.int ld), .val (.int (1 : Int32)), .val (.int (128 : Int32)), .val (.int (191 : Int32)), s8, s9] rfl (XS.store1 rfl h_s5 rfl) ?_
        refine o_goto X0 K d3_37 170 (by decide) (by decide) ?_
        refine o_iload X0 K d3_170 172 rfl rfl ?_
        refine o_iconst X0 K (1 : Int32) d3_172 173 rfl rfl ?_
        refine o_icmp_le_t X0 K d3_173 249 (by decide) (by decide) (by decide) ?_
        refine o_iloadN X0 K d3_249 250 rfl rfl ?_
        refine o_iload X0 K d3_250 252 rfl rfl ?_
        refine o_iadd X0 K d3_252 253 rfl ?_
        obtain ⟨i2, h_i2⟩ : ∃ z_ : Int32, z_ = (i + (1 : Int32)) := ⟨_, rfl⟩
        refine o_istoreN X0 K d3_253 254 rfl #[.val (.ref a), .val (.int fr), .val (.int to), .val (.int i2), .val (.int ld), .val (.int (1 : Int32)), .val (.int (128 : Int32)), .val (.int (191 : Int32)), s8, s9] h_i2.symm rfl ?_
        refine o_goto X0 K d3_254 2 (by decide) (by decide) ?_
        have hi2' : i2.toInt = i.toInt + 1 := by rw [h_i2]; exact hp1
        refine ih (i2, _, _, _, _, _, _) ⟨by show 0 ≤ i2.toInt; omega, by show i2.toInt ≤ _; omega, by show to.toInt - i2.toInt ≤ d; omega, ?_, Or.inr ⟨_, rfl, rfl⟩, Or.inr ⟨_, rfl, rfl⟩, Or.inr ⟨_, rfl, rfl⟩, Or.inr ⟨_, rfl, rfl⟩, h_s8, h_s9⟩
        show own_it g to.toInt d i2.toInt = _
        clear X0 K e0 N0 ih
        subst h_ld
        have hz : own_sq (g iN &&& 255).toInt (g (iN + 1) &&& 255).toInt (g (iN + 2) &&& 255).toInt (g (iN + 3) &&& 255).toInt (to.toInt - i.toInt) = 1 := by
          simp only [own_sq, own_len]
          (repeat' split) <;> omega
        rw [hz, if_neg (by decide)] at hR
        rw [← hR, hi2']
theorem pd___BII_Z : parseMethodDescriptor "([BII)Z" = some ⟨[(.array .byte), .int, .int], some .boolean⟩ := by decide +kernel
theorem pn_0 : plainFor x = true := plainFor_of_name (by first | (simp [plainName, overriddenIn, x]; done) | decide +kernel)
set_option maxHeartbeats 4000000 in
theorem rm0 (l : Launch) (Z : State) (a0 : Array Value) (hw : OW Z a0) (n0 : Nat) (p0 p1 p2 p3 : Int32) (h0 : Heap) (Z0 : n0 ≤ h0.size) :
    OCon l Z n0 x code maxLocals ret room_1 #[(.int p0), (.int p1), (.int p2), (.int p3)] h0 (fun v _ => v = some (.int 1)) := by
  refine OCon.of (Ls := #[.val (.int p0), .val (.int p1), .val (.int p2), .val (.int p3), .unset, .unset, .unset, .unset, .unset, .unset]) pn_0 rfl rfl (fun m => by first | (simp [entryFrame, mkF, argsToLocals, Value.category, maxLocals]; done) | rfl) ?_
  intro p e s m below meth c T0 X0 K e0
  have N0 := Fr.nil n0
  have l0 : (0 : Int32).toInt = 0 := rfl
  have l1 : (1 : Int32).toInt = 1 := rfl
  have l2 : (2 : Int32).toInt = 2 := rfl
  have l3 : (3 : Int32).toInt = 3 := rfl
  have l4 : (4 : Int32).toInt = 4 := rfl
  have l5 : (5 : Int32).toInt = 5 := rfl
  have l6 : (6 : Int32).toInt = 6 := rfl
  have l8 : (8 : Int32).toInt = 8 := rfl
  have l16 : (16 : Int32).toInt = 16 := rfl
  have l24 : (24 : Int32).toInt = 24 := rfl
  have l2147483647 : (2147483647 : Int32).toInt = 2147483647 := rfl
  refine o_bipush X0 K (6 : Int32) at_0 2 rfl rfl ?_
  refine o_newarray X0 K (n := 6) at_2 4 rfl (w_0 hw) e0 (by decide) 6 (by decide) (by decide) (by decide) (by decide) rfl ?_
  intro T_2 h_2 b g_2 X_2 e_2 E_2 A_2
  dsimp only [newarray.typeOf, defaultValue] at A_2
  have Z_2 : n0 ≤ h_2.size := Nat.le_trans Z0 E_2.1
  have g_b : n0 ≤ b := by rw [g_2]; exact Z0
  refine o_astore X_2 K at_4 6 rfl #[.val (.int p0), .val (.int p1), .val (.int p2), .val (.int p3), .val (.ref b), .unset, .unset, .unset, .unset, .unset] rfl rfl ?_
  refine o_aload X_2 K at_6 8 rfl rfl rfl ?_
  refine o_iconst X_2 K (0 : Int32) at_8 9 rfl rfl ?_
  refine o_iloadN X_2 K at_9 10 rfl rfl ?_
  refine o_i2b X_2 K at_10 11 rfl ?_
  refine o_bastore X_2 K (i := 0) (x' := (p0.toInt8.toInt32)) at_11 12 rfl e_2 A_2 (by decide) (by decide) (o_nb _) N0 g_b ?_
  intro T_3 h_3 locs_3 X_3 e_3 W_3 A_3 N_3
  have Z_3 : n0 ≤ h_3.size := by rw [Wr.size W_3]; exact Z_2
  refine o_aload X_3 K at_12 14 rfl rfl rfl ?_
  refine o_iconst X_3 K (1 : Int32) at_14 15 rfl rfl ?_
  refine o_iloadN X_3 K at_15 16 rfl rfl ?_
  refine o_bipush X_3 K (8 : Int32) at_16 18 rfl rfl ?_
  refine o_iushr X_3 K at_18 19 rfl ?_
  refine o_i2b X_3 K at_19 20 rfl ?_
  refine o_bastore X_3 K (i := 1) (x' := (((p0.toUInt32 >>> ((8 : Int32) &&& 31).toUInt32).toInt32).toInt8.toInt32)) at_20 21 rfl e_3 A_3 (by decide) (by decide) (o_nb _) N_3 g_b ?_
  intro T_4 h_4 locs_4 X_4 e_4 W_4 A_4 N_4
  have Z_4 : n0 ≤ h_4.size := by rw [Wr.size W_4]; exact Z_3
  refine o_aload X_4 K at_21 23 rfl rfl rfl ?_
  refine o_iconst X_4 K (2 : Int32) at_23 24 rfl rfl ?_
  refine o_iloadN X_4 K at_24 25 rfl rfl ?_
  refine o_bipush X_4 K (16 : Int32) at_25 27 rfl rfl ?_
  refine o_iushr X_4 K at_27 28 rfl ?_
  refine o_i2b X_4 K at_28 29 rfl ?_
  refine o_bastore X_4 K (i := 2) (x' := (((p0.toUInt32 >>> ((16 : Int32) &&& 31).toUInt32).toInt32).toInt8.toInt32)) at_29 30 rfl e_4 A_4 (by decide) (by decide) (o_nb _) N_4 g_b ?_
  intro T_5 h_5 locs_5 X_5 e_5 W_5 A_5 N_5
  have Z_5 : n0 ≤ h_5.size := by rw [Wr.size W_5]; exact Z_4
  refine o_aload X_5 K at_30 32 rfl rfl rfl ?_
  refine o_iconst X_5 K (3 : Int32) at_32 33 rfl rfl ?_
  refine o_iloadN X_5 K at_33 34 rfl rfl ?_
  refine o_bipush X_5 K (24 : Int32) at_34 36 rfl rfl ?_
  refine o_iushr X_5 K at_36 37 rfl ?_
  refine o_i2b X_5 K at_37 38 rfl ?_
  refine o_bastore X_5 K (i := 3) (x' := (((p0.toUInt32 >>> ((24 : Int32) &&& 31).toUInt32).toInt32).toInt8.toInt32)) at_38 39 rfl e_5 A_5 (by decide) (by decide) (o_nb _) N_5 g_b ?_
  intro T_6 h_6 locs_6 X_6 e_6 W_6 A_6 N_6
  have Z_6 : n0 ≤ h_6.size := by rw [Wr.size W_6]; exact Z_5
  refine o_aload X_6 K at_39 41 rfl rfl rfl ?_
  refine o_iconst X_6 K (4 : Int32) at_41 42 rfl rfl ?_
  refine o_iloadN X_6 K at_42 43 rfl rfl ?_
  refine o_i2b X_6 K at_43 44 rfl ?_
  refine o_bastore X_6 K (i := 4) (x' := (p1.toInt8.toInt32)) at_44 45 rfl e_6 A_6 (by decide) (by decide) (o_nb _) N_6 g_b ?_
  intro T_7 h_7 locs_7 X_7 e_7 W_7 A_7 N_7
  have Z_7 : n0 ≤ h_7.size := by rw [Wr.size W_7]; exact Z_6
  refine o_aload X_7 K at_45 47 rfl rfl rfl ?_
  refine o_iconst X_7 K (5 : Int32) at_47 48 rfl rfl ?_
  refine o_iloadN X_7 K at_48 49 rfl rfl ?_
  refine o_bipush X_7 K (8 : Int32) at_49 51 rfl rfl ?_
  refine o_iushr X_7 K at_51 52 rfl ?_
  refine o_i2b X_7 K at_52 53 rfl ?_
  refine o_bastore X_7 K (i := 5) (x' := (((p1.toUInt32 >>> ((8 : Int32) &&& 31).toUInt32).toInt32).toInt8.toInt32)) at_53 54 rfl e_7 A_7 (by decide) (by decide) (o_nb _) N_7 g_b ?_
  intro T_8 h_8 locs_8 X_8 e_8 W_8 A_8 N_8
  have Z_8 : n0 ≤ h_8.size := by rw [Wr.size W_8]; exact Z_7
  have AA : OAr Z h_8 b .byte 6 (fun j => .int ((own_g (p0.toInt8.toInt32) (((p0.toUInt32 >>> ((8 : Int32) &&& 31).toUInt32).toInt32).toInt8.toInt32) (((p0.toUInt32 >>> ((16 : Int32) &&& 31).toUInt32).toInt32).toInt8.toInt32) (((p0.toUInt32 >>> ((24 : Int32) &&& 31).toUInt32).toInt32).toInt8.toInt32) (p1.toInt8.toInt32) (((p1.toUInt32 >>> ((8 : Int32) &&& 31).toUInt32).toInt32).toInt8.toInt32)) j)) := A_8.congr (fun j hj => by rcases (by omega : j = 0 ∨ j = 1 ∨ j = 2 ∨ j = 3 ∨ j = 4 ∨ j = 5) with rfl | rfl | rfl | rfl | rfl | rfl <;> rfl)
  refine o_iloadN X_8 K at_54 55 rfl rfl ?_
  refine o_ldcI X_8 K at_55 57 rfl (w_1 hw) ?_
  refine o_iand X_8 K at_57 58 rfl ?_
  refine o_iconst X_8 K (2 : Int32) at_58 59 rfl rfl ?_
  refine o_irem X_8 K at_59 60 rfl (by decide) ?_
  obtain ⟨fr, h_fr⟩ : ∃ z_ : Int32, z_ = ((p2 &&& (2147483647 : Int32)) % (2 : Int32)) := ⟨_, rfl⟩
  refine o_istore X_8 K at_60 62 rfl #[.val (.int p0), .val (.int p1), .val (.int p2), .val (.int p3), .val (.ref b), .val (.int fr), .unset, .unset, .unset, .unset] h_fr.symm rfl ?_
  have hr_fr : 0 ≤ fr.toInt ∧ fr.toInt ≤ 1 := by
    rw [h_fr]
    have q1 := c_and p2 2147483647 (by decide)
    have q2 := (c_iremV (p2 &&& 2147483647) 2).1 q1.1 (by decide)
    omega
  refine o_iloadN X_8 K at_62 63 rfl rfl ?_
  refine o_ldcI X_8 K at_63 65 rfl (w_1 hw) ?_
  refine o_iand X_8 K at_65 66 rfl ?_
  refine o_bipush X_8 K (6 : Int32) at_66 68 rfl rfl ?_
  refine o_irem X_8 K at_68 69 rfl (by decide) ?_
  obtain ⟨len, h_len⟩ : ∃ z_ : Int32, z_ = ((p3 &&& (2147483647 : Int32)) % (6 : Int32)) := ⟨_, rfl⟩
  refine o_istore X_8 K at_69 71 rfl #[.val (.int p0), .val (.int p1), .val (.int p2), .val (.int p3), .val (.ref b), .val (.int fr), .val (.int len), .unset, .unset, .unset] h_len.symm rfl ?_
  have hr_len : 0 ≤ len.toInt ∧ len.toInt ≤ 5 := by
    rw [h_len]
    have q1 := c_and p3 2147483647 (by decide)
    have q2 := (c_iremV (p3 &&& 2147483647) 6).1 q1.1 (by decide)
    omega
  refine o_iload X_8 K at_71 73 rfl rfl ?_
  refine o_iload X_8 K at_73 75 rfl rfl ?_
  refine o_iadd X_8 K at_75 76 rfl ?_
  refine o_bipush X_8 K (6 : Int32) at_76 78 rfl rfl ?_
  have hsum : (fr + len).toInt = fr.toInt + len.toInt := by have q1 := c_iadd fr len; have q2 := rng32 (fr + len); omega
  refine o_icmp_le_t X_8 K at_78 88 (by decide) (by decide) (by omega) ?_
  refine o_iload X_8 K at_88 90 rfl rfl ?_
  refine o_iload X_8 K at_90 92 rfl rfl ?_
  refine o_iadd X_8 K at_92 93 rfl ?_
  obtain ⟨to, h_to⟩ : ∃ z_ : Int32, z_ = (fr + len) := ⟨_, rfl⟩
  refine o_istore X_8 K at_93 95 rfl #[.val (.int p0), .val (.int p1), .val (.int p2), .val (.int p3), .val (.ref b), .val (.int fr), .val (.int len), .val (.int to), .unset, .unset] h_to.symm rfl ?_
  have hto : to.toInt = fr.toInt + len.toInt := by rw [h_to]; exact hsum
  refine o_iload X_8 K at_95 97 rfl rfl ?_
  refine o_istore X_8 K at_97 99 rfl #[.val (.int p0), .val (.int p1), .val (.int p2), .val (.int p3), .val (.ref b), .val (.int fr), .val (.int len), .val (.int to), .val (.int fr), .unset] rfl rfl ?_
  refine o_aload X_8 K at_99 101 rfl rfl rfl ?_
  refine o_iload X_8 K at_101 103 rfl rfl ?_
  refine o_iload X_8 K at_103 105 rfl rfl ?_
  refine o_invokestatic X_8 K at_105 108 rfl (w_2 hw) (w_3 hw) (w_4 hw) (w_5 hw) (by decide) [(.ref b), (.int fr), (.int to)] [] rfl  (c_next l Z a0 hw n0 b (own_g (p0.toInt8.toInt32) (((p0.toUInt32 >>> ((8 : Int32) &&& 31).toUInt32).toInt32).toInt8.toInt32) (((p0.toUInt32 >>> ((16 : Int32) &&& 31).toUInt32).toInt32).toInt8.toInt32) (((p0.toUInt32 >>> ((24 : Int32) &&& 31).toUInt32).toInt32).toInt8.toInt32) (p1.toInt8.toInt32) (((p1.toUInt32 >>> ((8 : Int32) &&& 31).toUInt32).toInt32).toInt8.toInt32)) fr to h_8 Z_8 AA (by omega)) e_8 rfl (lenOf pd___BII_I rfl) (by decide) 0 (Nat.le_of_eq rfl) (by decide) (by decide) (by decide) N_8 ?_
  rintro _ T_9 h_9 locs_9 X_9 q_9 ⟨rv_9, rfl, hb_9, r_9⟩ N_9
  have e_9 := q_9.trans r_9
  show OGo p e below s n0 _ _ _ (T_9.setTop (mkF m 108 #[.val (.int p0), .val (.int p1), .val (.int p2), .val (.int p3), .val (.ref b), .val (.int fr), .val (.int len), .val (.int to), .val (.int fr), .unset] [(.int rv_9)]))
  refine o_istore X_9 K at_108 110 rfl #[.val (.int p0), .val (.int p1), .val (.int p2), .val (.int p3), .val (.ref b), .val (.int fr), .val (.int len), .val (.int to), .val (.int rv_9), .unset] rfl rfl ?_
  refine o_aload X_9 K at_110 112 rfl rfl rfl ?_
  refine o_iload X_9 K at_112 114 rfl rfl ?_
  refine o_iload X_9 K at_114 116 rfl rfl ?_
  refine o_invokestatic X_9 K at_116 119 rfl (w_2 hw) (w_3 hw) (w_4 hw) (w_5 hw) (by decide) [(.ref b), (.int rv_9), (.int to)] [] rfl  (c_next l Z a0 hw n0 b (own_g (p0.toInt8.toInt32) (((p0.toUInt32 >>> ((8 : Int32) &&& 31).toUInt32).toInt32).toInt8.toInt32) (((p0.toUInt32 >>> ((16 : Int32) &&& 31).toUInt32).toInt32).toInt8.toInt32) (((p0.toUInt32 >>> ((24 : Int32) &&& 31).toUInt32).toInt32).toInt8.toInt32) (p1.toInt8.toInt32) (((p1.toUInt32 >>> ((8 : Int32) &&& 31).toUInt32).toInt32).toInt8.toInt32)) rv_9 to h_8 Z_8 AA (by omega)) e_9 rfl (lenOf pd___BII_I rfl) (by decide) 0 (Nat.le_of_eq rfl) (by decide) (by decide) (by decide) N_9 ?_
  rintro _ T_10 h_10 locs_10 X_10 q_10 ⟨rv_10, rfl, hb_10, r_10⟩ N_10
  have e_10 := q_10.trans r_10
  show OGo p e below s n0 _ _ _ (T_10.setTop (mkF m 119 #[.val (.int p0), .val (.int p1), .val (.int p2), .val (.int p3), .val (.ref b), .val (.int fr), .val (.int len), .val (.int to), .val (.int rv_9), .unset] [(.int rv_10)]))
  refine o_istore X_10 K at_119 121 rfl #[.val (.int p0), .val (.int p1), .val (.int p2), .val (.int p3), .val (.ref b), .val (.int fr), .val (.int len), .val (.int to), .val (.int rv_10), .unset] rfl rfl ?_
  refine o_aload X_10 K at_121 123 rfl rfl rfl ?_
  refine o_iload X_10 K at_123 125 rfl rfl ?_
  refine o_iload X_10 K at_125 127 rfl rfl ?_
  refine o_invokestatic X_10 K at_127 130 rfl (w_2 hw) (w_3 hw) (w_4 hw) (w_5 hw) (by decide) [(.ref b), (.int rv_10), (.int to)] [] rfl  (c_next l Z a0 hw n0 b (own_g (p0.toInt8.toInt32) (((p0.toUInt32 >>> ((8 : Int32) &&& 31).toUInt32).toInt32).toInt8.toInt32) (((p0.toUInt32 >>> ((16 : Int32) &&& 31).toUInt32).toInt32).toInt8.toInt32) (((p0.toUInt32 >>> ((24 : Int32) &&& 31).toUInt32).toInt32).toInt8.toInt32) (p1.toInt8.toInt32) (((p1.toUInt32 >>> ((8 : Int32) &&& 31).toUInt32).toInt32).toInt8.toInt32)) rv_10 to h_8 Z_8 AA (by omega)) e_10 rfl (lenOf pd___BII_I rfl) (by decide) 0 (Nat.le_of_eq rfl) (by decide) (by decide) (by decide) N_10 ?_
  rintro _ T_11 h_11 locs_11 X_11 q_11 ⟨rv_11, rfl, hb_11, r_11⟩ N_11
  have e_11 := q_11.trans r_11
  show OGo p e below s n0 _ _ _ (T_11.setTop (mkF m 130 #[.val (.int p0), .val (.int p1), .val (.int p2), .val (.int p3), .val (.ref b), .val (.int fr), .val (.int len), .val (.int to), .val (.int rv_10), .unset] [(.int rv_11)]))
  refine o_istore X_11 K at_130 132 rfl #[.val (.int p0), .val (.int p1), .val (.int p2), .val (.int p3), .val (.ref b), .val (.int fr), .val (.int len), .val (.int to), .val (.int rv_11), .unset] rfl rfl ?_
  refine o_aload X_11 K at_132 134 rfl rfl rfl ?_
  refine o_iload X_11 K at_134 136 rfl rfl ?_
  refine o_iload X_11 K at_136 138 rfl rfl ?_
  refine o_invokestatic X_11 K at_138 141 rfl (w_2 hw) (w_3 hw) (w_4 hw) (w_5 hw) (by decide) [(.ref b), (.int rv_11), (.int to)] [] rfl  (c_next l Z a0 hw n0 b (own_g (p0.toInt8.toInt32) (((p0.toUInt32 >>> ((8 : Int32) &&& 31).toUInt32).toInt32).toInt8.toInt32) (((p0.toUInt32 >>> ((16 : Int32) &&& 31).toUInt32).toInt32).toInt8.toInt32) (((p0.toUInt32 >>> ((24 : Int32) &&& 31).toUInt32).toInt32).toInt8.toInt32) (p1.toInt8.toInt32) (((p1.toUInt32 >>> ((8 : Int32) &&& 31).toUInt32).toInt32).toInt8.toInt32)) rv_11 to h_8 Z_8 AA (by omega)) e_11 rfl (lenOf pd___BII_I rfl) (by decide) 0 (Nat.le_of_eq rfl) (by decide) (by decide) (by decide) N_11 ?_
  rintro _ T_12 h_12 locs_12 X_12 q_12 ⟨rv_12, rfl, hb_12, r_12⟩ N_12
  have e_12 := q_12.trans r_12
  show OGo p e below s n0 _ _ _ (T_12.setTop (mkF m 141 #[.val (.int p0), .val (.int p1), .val (.int p2), .val (.int p3), .val (.ref b), .val (.int fr), .val (.int len), .val (.int to), .val (.int rv_11), .unset] [(.int rv_12)]))
  refine o_istore X_12 K at_141 143 rfl #[.val (.int p0), .val (.int p1), .val (.int p2), .val (.int p3), .val (.ref b), .val (.int fr), .val (.int len), .val (.int to), .val (.int rv_12), .unset] rfl rfl ?_
  refine o_aload X_12 K at_143 145 rfl rfl rfl ?_
  refine o_iload X_12 K at_145 147 rfl rfl ?_
  refine o_iload X_12 K at_147 149 rfl rfl ?_
  refine o_invokestatic X_12 K at_149 152 rfl (w_2 hw) (w_3 hw) (w_4 hw) (w_5 hw) (by decide) [(.ref b), (.int rv_12), (.int to)] [] rfl  (c_next l Z a0 hw n0 b (own_g (p0.toInt8.toInt32) (((p0.toUInt32 >>> ((8 : Int32) &&& 31).toUInt32).toInt32).toInt8.toInt32) (((p0.toUInt32 >>> ((16 : Int32) &&& 31).toUInt32).toInt32).toInt8.toInt32) (((p0.toUInt32 >>> ((24 : Int32) &&& 31).toUInt32).toInt32).toInt8.toInt32) (p1.toInt8.toInt32) (((p1.toUInt32 >>> ((8 : Int32) &&& 31).toUInt32).toInt32).toInt8.toInt32)) rv_12 to h_8 Z_8 AA (by omega)) e_12 rfl (lenOf pd___BII_I rfl) (by decide) 0 (Nat.le_of_eq rfl) (by decide) (by decide) (by decide) N_12 ?_
  rintro _ T_13 h_13 locs_13 X_13 q_13 ⟨rv_13, rfl, hb_13, r_13⟩ N_13
  have e_13 := q_13.trans r_13
  show OGo p e below s n0 _ _ _ (T_13.setTop (mkF m 152 #[.val (.int p0), .val (.int p1), .val (.int p2), .val (.int p3), .val (.ref b), .val (.int fr), .val (.int len), .val (.int to), .val (.int rv_12), .unset] [(.int rv_13)]))
  refine o_istore X_13 K at_152 154 rfl #[.val (.int p0), .val (.int p1), .val (.int p2), .val (.int p3), .val (.ref b), .val (.int fr), .val (.int len), .val (.int to), .val (.int rv_13), .unset] rfl rfl ?_
  refine o_iload X_13 K at_154 156 rfl rfl ?_
  refine o_iload X_13 K at_156 158 rfl rfl ?_
  refine o_icmp_ne X_13 K at_158 165 (by decide) (by decide) 161 rfl (fun hc158 => ?_) (fun hc158 => ?_)
  · rw [← Int32.toInt_inj] at hc158
    refine o_iconst X_13 K (0 : Int32) at_165 166 rfl rfl ?_
    refine o_istore X_13 K at_166 168 rfl #[.val (.int p0), .val (.int p1), .val (.int p2), .val (.int p3), .val (.ref b), .val (.int fr), .val (.int len), .val (.int to), .val (.int rv_13), .val (.int (0 : Int32))] rfl rfl ?_
    refine o_aload X_13 K at_168 170 rfl rfl rfl ?_
    refine o_iload X_13 K at_170 172 rfl rfl ?_
    refine o_iload X_13 K at_172 174 rfl rfl ?_
    refine o_invokestatic X_13 K at_174 177 rfl (w_9 hw) (w_10 hw) (w_11 hw) (w_12 hw) (by decide) [(.ref b), (.int fr), (.int to)] [] rfl  (c_is l Z a0 hw n0 b (own_g (p0.toInt8.toInt32) (((p0.toUInt32 >>> ((8 : Int32) &&& 31).toUInt32).toInt32).toInt8.toInt32) (((p0.toUInt32 >>> ((16 : Int32) &&& 31).toUInt32).toInt32).toInt8.toInt32) (((p0.toUInt32 >>> ((24 : Int32) &&& 31).toUInt32).toInt32).toInt8.toInt32) (p1.toInt8.toInt32) (((p1.toUInt32 >>> ((8 : Int32) &&& 31).toUInt32).toInt32).toInt8.toInt32)) fr to h_8 Z_8 AA (by omega)) e_13 rfl (lenOf pd___BII_Z rfl) (by decide) 0 (Nat.le_of_eq rfl) (by decide) (by decide) (by decide) N_13 ?_
    rintro _ T_14 h_14 locs_14 X_14 q_14 ⟨rv_14, rfl, hb_14, r_14⟩ N_14
    have e_14 := q_14.trans r_14
    show OGo p e below s n0 _ _ _ (T_14.setTop (mkF m 177 #[.val (.int p0), .val (.int p1), .val (.int p2), .val (.int p3), .val (.ref b), .val (.int fr), .val (.int len), .val (.int to), .val (.int rv_13), .val (.int (0 : Int32))] [(.int rv_14)]))
    refine o_iload X_14 K at_177 179 rfl rfl ?_
    have hit : own_it (own_g (p0.toInt8.toInt32) (((p0.toUInt32 >>> ((8 : Int32) &&& 31).toUInt32).toInt32).toInt8.toInt32) (((p0.toUInt32 >>> ((16 : Int32) &&& 31).toUInt32).toInt32).toInt8.toInt32) (((p0.toUInt32 >>> ((24 : Int32) &&& 31).toUInt32).toInt32).toInt8.toInt32) (p1.toInt8.toInt32) (((p1.toUInt32 >>> ((8 : Int32) &&& 31).toUInt32).toInt32).toInt8.toInt32)) to.toInt 5 fr.toInt = rv_13.toInt := by
      show own_next (own_g (p0.toInt8.toInt32) (((p0.toUInt32 >>> ((8 : Int32) &&& 31).toUInt32).toInt32).toInt8.toInt32) (((p0.toUInt32 >>> ((16 : Int32) &&& 31).toUInt32).toInt32).toInt8.toInt32) (((p0.toUInt32 >>> ((24 : Int32) &&& 31).toUInt32).toInt32).toInt8.toInt32) (p1.toInt8.toInt32) (((p1.toUInt32 >>> ((8 : Int32) &&& 31).toUInt32).toInt32).toInt8.toInt32)) to.toInt (own_next (own_g (p0.toInt8.toInt32) (((p0.toUInt32 >>> ((8 : Int32) &&& 31).toUInt32).toInt32).toInt8.toInt32) (((p0.toUInt32 >>> ((16 : Int32) &&& 31).toUInt32).toInt32).toInt8.toInt32) (((p0.toUInt32 >>> ((24 : Int32) &&& 31).toUInt32).toInt32).toInt8.toInt32) (p1.toInt8.toInt32) (((p1.toUInt32 >>> ((8 : Int32) &&& 31).toUInt32).toInt32).toInt8.toInt32)) to.toInt (own_next (own_g (p0.toInt8.toInt32) (((p0.toUInt32 >>> ((8 : Int32) &&& 31).toUInt32).toInt32).toInt8.toInt32) (((p0.toUInt32 >>> ((16 : Int32) &&& 31).toUInt32).toInt32).toInt8.toInt32) (((p0.toUInt32 >>> ((24 : Int32) &&& 31).toUInt32).toInt32).toInt8.toInt32) (p1.toInt8.toInt32) (((p1.toUInt32 >>> ((8 : Int32) &&& 31).toUInt32).toInt32).toInt8.toInt32)) to.toInt (own_next (own_g (p0.toInt8.toInt32) (((p0.toUInt32 >>> ((8 : Int32) &&& 31).toUInt32).toInt32).toInt8.toInt32) (((p0.toUInt32 >>> ((16 : Int32) &&& 31).toUInt32).toInt32).toInt8.toInt32) (((p0.toUInt32 >>> ((24 : Int32) &&& 31).toUInt32).toInt32).toInt8.toInt32) (p1.toInt8.toInt32) (((p1.toUInt32 >>> ((8 : Int32) &&& 31).toUInt32).toInt32).toInt8.toInt32)) to.toInt (own_next (own_g (p0.toInt8.toInt32) (((p0.toUInt32 >>> ((8 : Int32) &&& 31).toUInt32).toInt32).toInt8.toInt32) (((p0.toUInt32 >>> ((16 : Int32) &&& 31).toUInt32).toInt32).toInt8.toInt32) (((p0.toUInt32 >>> ((24 : Int32) &&& 31).toUInt32).toInt32).toInt8.toInt32) (p1.toInt8.toInt32) (((p1.toUInt32 >>> ((8 : Int32) &&& 31).toUInt32).toInt32).toInt8.toInt32)) to.toInt fr.toInt)))) = _
      rw [← hb_9, ← hb_10, ← hb_11, ← hb_12, ← hb_13]
    rw [hit] at hb_14
    have hfin : rv_14 = 0 := by
      rcases hb_14 with ⟨q1, q2⟩ | ⟨q1, q2⟩
      · exact absurd q2 hc158
      · exact q1
    refine o_icmp_ne_f X_14 K at_179 182 rfl (hfin) ?_
    refine o_iconst X_14 K (1 : Int32) at_182 183 rfl rfl ?_
    refine o_goto X_14 K at_183 187 (by decide) (by decide) ?_
    refine o_ireturnN X_14 K (by decide) at_187 (by decide) (by decide) N_14 ?_
    exact rfl
  · rw [← Int32.toInt_inj] at hc158
    refine o_iconst X_13 K (1 : Int32) at_161 162 rfl rfl ?_
    refine o_goto X_13 K at_162 166 (by decide) (by decide) ?_
    refine o_istore X_13 K at_166 168 rfl #[.val (.int p0), .val (.int p1), .val (.int p2), .val (.int p3), .val (.ref b), .val (.int fr), .val (.int len), .val (.int to), .val (.int rv_13), .val (.int (1 : Int32))] rfl rfl ?_
    refine o_aload X_13 K at_168 170 rfl rfl rfl ?_
    refine o_iload X_13 K at_170 172 rfl rfl ?_
    refine o_iload X_13 K at_172 174 rfl rfl ?_
    refine o_invokestatic X_13 K at_174 177 rfl (w_9 hw) (w_10 hw) (w_11 hw) (w_12 hw) (by decide) [(.ref b), (.int fr), (.int to)] [] rfl  (c_is l Z a0 hw n0 b (own_g (p0.toInt8.toInt32) (((p0.toUInt32 >>> ((8 : Int32) &&& 31).toUInt32).toInt32).toInt8.toInt32) (((p0.toUInt32 >>> ((16 : Int32) &&& 31).toUInt32).toInt32).toInt8.toInt32) (((p0.toUInt32 >>> ((24 : Int32) &&& 31).toUInt32).toInt32).toInt8.toInt32) (p1.toInt8.toInt32) (((p1.toUInt32 >>> ((8 : Int32) &&& 31).toUInt32).toInt32).toInt8.toInt32)) fr to h_8 Z_8 AA (by omega)) e_13 rfl (lenOf pd___BII_Z rfl) (by decide) 0 (Nat.le_of_eq rfl) (by decide) (by decide) (by decide) N_13 ?_
    rintro _ T_15 h_15 locs_15 X_15 q_15 ⟨rv_15, rfl, hb_15, r_15⟩ N_15
    have e_15 := q_15.trans r_15
    show OGo p e below s n0 _ _ _ (T_15.setTop (mkF m 177 #[.val (.int p0), .val (.int p1), .val (.int p2), .val (.int p3), .val (.ref b), .val (.int fr), .val (.int len), .val (.int to), .val (.int rv_13), .val (.int (1 : Int32))] [(.int rv_15)]))
    refine o_iload X_15 K at_177 179 rfl rfl ?_
    have hit : own_it (own_g (p0.toInt8.toInt32) (((p0.toUInt32 >>> ((8 : Int32) &&& 31).toUInt32).toInt32).toInt8.toInt32) (((p0.toUInt32 >>> ((16 : Int32) &&& 31).toUInt32).toInt32).toInt8.toInt32) (((p0.toUInt32 >>> ((24 : Int32) &&& 31).toUInt32).toInt32).toInt8.toInt32) (p1.toInt8.toInt32) (((p1.toUInt32 >>> ((8 : Int32) &&& 31).toUInt32).toInt32).toInt8.toInt32)) to.toInt 5 fr.toInt = rv_13.toInt := by
      show own_next (own_g (p0.toInt8.toInt32) (((p0.toUInt32 >>> ((8 : Int32) &&& 31).toUInt32).toInt32).toInt8.toInt32) (((p0.toUInt32 >>> ((16 : Int32) &&& 31).toUInt32).toInt32).toInt8.toInt32) (((p0.toUInt32 >>> ((24 : Int32) &&& 31).toUInt32).toInt32).toInt8.toInt32) (p1.toInt8.toInt32) (((p1.toUInt32 >>> ((8 : Int32) &&& 31).toUInt32).toInt32).toInt8.toInt32)) to.toInt (own_next (own_g (p0.toInt8.toInt32) (((p0.toUInt32 >>> ((8 : Int32) &&& 31).toUInt32).toInt32).toInt8.toInt32) (((p0.toUInt32 >>> ((16 : Int32) &&& 31).toUInt32).toInt32).toInt8.toInt32) (((p0.toUInt32 >>> ((24 : Int32) &&& 31).toUInt32).toInt32).toInt8.toInt32) (p1.toInt8.toInt32) (((p1.toUInt32 >>> ((8 : Int32) &&& 31).toUInt32).toInt32).toInt8.toInt32)) to.toInt (own_next (own_g (p0.toInt8.toInt32) (((p0.toUInt32 >>> ((8 : Int32) &&& 31).toUInt32).toInt32).toInt8.toInt32) (((p0.toUInt32 >>> ((16 : Int32) &&& 31).toUInt32).toInt32).toInt8.toInt32) (((p0.toUInt32 >>> ((24 : Int32) &&& 31).toUInt32).toInt32).toInt8.toInt32) (p1.toInt8.toInt32) (((p1.toUInt32 >>> ((8 : Int32) &&& 31).toUInt32).toInt32).toInt8.toInt32)) to.toInt (own_next (own_g (p0.toInt8.toInt32) (((p0.toUInt32 >>> ((8 : Int32) &&& 31).toUInt32).toInt32).toInt8.toInt32) (((p0.toUInt32 >>> ((16 : Int32) &&& 31).toUInt32).toInt32).toInt8.toInt32) (((p0.toUInt32 >>> ((24 : Int32) &&& 31).toUInt32).toInt32).toInt8.toInt32) (p1.toInt8.toInt32) (((p1.toUInt32 >>> ((8 : Int32) &&& 31).toUInt32).toInt32).toInt8.toInt32)) to.toInt (own_next (own_g (p0.toInt8.toInt32) (((p0.toUInt32 >>> ((8 : Int32) &&& 31).toUInt32).toInt32).toInt8.toInt32) (((p0.toUInt32 >>> ((16 : Int32) &&& 31).toUInt32).toInt32).toInt8.toInt32) (((p0.toUInt32 >>> ((24 : Int32) &&& 31).toUInt32).toInt32).toInt8.toInt32) (p1.toInt8.toInt32) (((p1.toUInt32 >>> ((8 : Int32) &&& 31).toUInt32).toInt32).toInt8.toInt32)) to.toInt fr.toInt)))) = _
      rw [← hb_9, ← hb_10, ← hb_11, ← hb_12, ← hb_13]
    rw [hit] at hb_15
    have hfin : rv_15 = 1 := by
      rcases hb_15 with ⟨q1, q2⟩ | ⟨q1, q2⟩
      · exact q1
      · exact absurd hc158 q2
    refine o_icmp_ne_f X_15 K at_179 182 rfl (hfin) ?_
    refine o_iconst X_15 K (1 : Int32) at_182 183 rfl rfl ?_
    refine o_goto X_15 K at_183 187 (by decide) (by decide) ?_
    refine o_ireturnN X_15 K (by decide) at_187 (by decide) (by decide) N_15 ?_
    exact rfl
set_option maxHeartbeats 4000000 in
theorem comes_1 {Post : Tables → Env → Array Value → State → Outcome → State → Prop} (hpost : ∀ tb e args s v u, (limb_1_1.after args s (.returned v) u = true ∧ limb_1_2.after args s (.returned v) u = true ∧ True) → FrameEnd s (.returned v) u (Jvm.fieldLocs frame_1_writes args s ++ Jvm.arrayLocs frame_1_arrays args s ++ Jvm.staticLocs frame_1_statics s) 16 128 → Post tb e args s (.returned v) u) :
    ArmFor flags0 classFile x code maxLocals ret World_1 tables_1 room_1 Calls_1 rest_1 Pre_1 Post := by
  intro l hfl _ _ p e ha hc hk s m args below hf hA hF happ hP
  obtain ⟨hcalls, hrest, hpre⟩ := hP
  obtain ⟨-, -, -, hnamed, -, -, -, hat⟩ := (Spec.applies_iff hf).mp happ
  obtain ⟨hg, hn⟩ := and_e (Cond.before_iff.mp (show (Jvm.Cond.and given_1 narrow_1).before args s = true from hpre))
  obtain ⟨g1, g2⟩ := and_e hg
  obtain ⟨g3, g4⟩ := and_e g2
  obtain ⟨g5, g6⟩ := and_e g4
  obtain ⟨g7, g8⟩ := and_e g6
  obtain ⟨w0, w1, w2, w3, rfl⟩ : ∃ w0 w1 w2 w3 : Value, args = #[w0, w1, w2, w3] := by
    have hs : args.size = 4 := by simpa [Cond.value, given_1] using g1
    obtain ⟨L⟩ := args
    match L, hs with
    | [w0, w1, w2, w3], _ => exact ⟨w0, w1, w2, w3, rfl⟩
  have hw := fun d (hd : d ∈ tables_1) => atoms_spec (ws := Jvm.Cond.code x code maxLocals ret :: tables_1) hat d (List.mem_cons_of_mem _ hd)
  have hfit : Fit s := fun {y c} hc i hi => by
    obtain ⟨ha, rfl⟩ := Array.getElem?_eq_some_iff.mp hc
    have q := List.all_eq_true.mp ((Array.all_eq_true_iff_forall_mem.mp hF) _ (Array.getElem_mem ha)) i (List.mem_range.mpr hi)
    simpa [Array.getElem?_eq_getElem hi] using q
  obtain ⟨i0, ei0⟩ := is_v g3
  obtain rfl : w0 = (.int i0) := Option.some.inj ei0
  obtain ⟨i1, ei1⟩ := is_v g5
  obtain rfl : w1 = (.int i1) := Option.some.inj ei1
  obtain ⟨i2, ei2⟩ := is_v g7
  obtain rfl : w2 = (.int i2) := Option.some.inj ei2
  obtain ⟨i3, ei3⟩ := is_v g8
  obtain rfl : w3 = (.int i3) := Option.some.inj ei3
  obtain ⟨n, o, h1, h2, h3, _, L, rfl, ⟨rfl, N⟩, hq⟩ := rm0 l s _ hw s.heap.size i0 i1 i2 i3 s.heap (Nat.le_refl _)  tables_1 p e ha hc hk s m _ below hf ((Spec.applies_iff_loose hf).mp happ).1 ⟨rfl, State.Warmed39.refl s, rfl⟩ trivial
  refine ⟨n, _, h1, h2, h3, hpost _ _ _ _ _ _ ⟨Cond.after_iff.mpr rfl, Cond.after_iff.mpr (eq_i res_at (Term.int_eval (1)) rfl), trivial⟩ ⟨hq.1, hq.2.1, (hq.2.2.sift fun y hy => Or.inr (N y hy)).mono (by decide) (by decide)⟩⟩
theorem main_1_1 : Claimed_1_1 := comes_1 fun _ _ _ _ _ _ h hF => ⟨h.1, hF⟩
theorem main_1_2 : Claimed_1_2 := comes_1 fun _ _ _ _ _ _ h hF => ⟨h.2.1, hF⟩
end Jvm.Pilot.@@N@@
namespace Jvm.Pilot.@@N@@
open Jvm Jvm.ClassFile Sem Op Lib Jvm.Free Jvm.Stand Jvm.Pilot.@@N@@.Jvm.D
/-! MADE BY PROGRAM (witnessworld.py) out of the Statement's table words and the real class files: 9 classes; the members and pool entries that the words name. The judged class is class 1, her method 1. -/
namespace start1
open Jvm.ClassFile
def u (s : String) : CpInfo := .utf8 (stringToUtf16 s)
/-- a pool by its gaps: so many unusable entries, then the entry; so many at the end -/
def gap : Nat → List CpInfo → List CpInfo
  | 0, r => r
  | n + 1, r => .unusable :: gap n r
def poolList (es : List (Nat × CpInfo)) (last : Nat) : List CpInfo := es.foldr (fun e r => gap e.1 (e.2 :: r)) (gap last [])
def pool (es : List (Nat × CpInfo)) (last : Nat) : Array CpInfo := ⟨poolList es last⟩
def fileOf (pool : Array CpInfo) (this : Nat) (attrs : Array Attribute := #[]) (ms : Array MethodInfo := #[]) (fl : Nat := 33) (sup : Nat := 0) (ifs : Array Nat := #[]) (fds : Array FieldInfo := #[]) : ClassFile where
  minorVersion := 0
  majorVersion := 65
  constantPool := pool
  accessFlags := fl
  thisClass := this
  superClass := sup
  interfaces := ifs
  fields := fds
  methods := ms
  attributes := attrs
def plain (name : String) (sup : Option ClassId) : Class where
  name := name
  kind := .ordinary
  loader := none
  accessFlags := 33
  super := sup
  interfaces := #[]
  cf := none
  fields := #[]
  methods := #[]
  instanceTypes := #[]
  staticTypes := #[]
  resolved := #[]
  callSites := []
  init := .initialized
  statics := none
  mirror := none

def pool0 : Array CpInfo := pool [(5, u "<init>"), (0, u "()V"), (1, .class_ 10), (1, u "java/lang/Object")] 113

def k0m0 : Method := { name := "<init>", desc := "()V", sig := { parameters := [], returnType := none }, accessFlags := 1, code := none }
/-- java/lang/Object -/
def k0 : Class := { plain "java/lang/Object" none with
  accessFlags := 33
  interfaces := #[]
  cf := some (fileOf pool0 8 #[] #[{ accessFlags := 1, nameIndex := 5, descriptorIndex := 6, attributes := #[] }] 33 0 #[] #[])
  fields := #[]
  methods := #[k0m0]
  instanceTypes := #[]
  staticTypes := #[]
  resolved := Array.replicate 124 none
  statics := none }

def pool1 : Array CpInfo := pool [(2, .class_ 4), (1, u "java/lang/Object"), (0, u "<init>"), (0, u "()V"), (0, .integer 2147483647), (0, .methodref 9 10), (0, .class_ 11), (0, .nameAndType 12 13), (0, u "com/example/vikt/vikt/graph/LinkListReaderIsUtf8PinLaw"), (0, u "next"), (0, u "([BII)I"), (0, .methodref 15 16), (0, .class_ 17), (0, .nameAndType 18 19), (0, u "com/example/vikt/vikt/graph/LinkListReader"), (0, u "isUtf8"), (0, u "([BII)Z"), (0, .methodref 9 21), (0, .nameAndType 22 13), (0, u "seq"), (0, .integer 55296), (0, .integer 57343), (0, .integer 65536), (0, .integer 1114111), (2, u "law"), (0, u "(IIII)Z")] 5

def k1m0 : Method := { name := "<init>", desc := "()V", sig := { parameters := [], returnType := none }, accessFlags := 2, code := none }
def k1c1 : Code := { maxStack := 4, maxLocals := 10, code := code, exceptionTable := #[], attributes := #[] }
def k1m1 : Method := { name := "law", desc := "(IIII)Z", sig := { parameters := [.int, .int, .int, .int], returnType := some .boolean }, accessFlags := 9, code := some k1c1 }
def k1c2 : Code := { maxStack := 3, maxLocals := 4, code := method_3_code, exceptionTable := #[], attributes := #[] }
def k1m2 : Method := { name := "next", desc := "([BII)I", sig := { parameters := [(.array .byte), .int, .int], returnType := some .int }, accessFlags := 10, code := some k1c2 }
def k1c3 : Code := { maxStack := 3, maxLocals := 8, code := method_4_code, exceptionTable := #[], attributes := #[] }
def k1m3 : Method := { name := "seq", desc := "([BII)I", sig := { parameters := [(.array .byte), .int, .int], returnType := some .int }, accessFlags := 10, code := some k1c3 }
/-- com/example/vikt/vikt/graph/LinkListReaderIsUtf8PinLaw -/
def k1 : Class := { plain "com/example/vikt/vikt/graph/LinkListReaderIsUtf8PinLaw" (some 0) with
  accessFlags := 49
  interfaces := #[]
  cf := some (fileOf pool1 9 #[] #[{ accessFlags := 2, nameIndex := 5, descriptorIndex := 6, attributes := #[] }, { accessFlags := 9, nameIndex := 29, descriptorIndex := 30, attributes := #[] }, { accessFlags := 10, nameIndex := 12, descriptorIndex := 13, attributes := #[] }, { accessFlags := 10, nameIndex := 22, descriptorIndex := 13, attributes := #[] }] 49 2 #[] #[])
  fields := #[]
  methods := #[k1m0, k1m1, k1m2, k1m3]
  instanceTypes := #[]
  staticTypes := #[]
  resolved := Array.replicate 36 none
  statics := none }

def pool2 : Array CpInfo := pool [(2, .class_ 4), (1, u "java/lang/Object"), (2, .class_ 8), (0, u "com/example/vikt/vikt/graph/LinkListReader"), (3, u "buffer"), (0, u "[B"), (2, u "bounds"), (0, u "[I"), (2, u "hashes"), (2, u "in"), (0, u "Ljava/io/InputStream;"), (2, u "source"), (0, u "Ljava/lang/String;"), (2, u "builder"), (0, u "Lcom/example/vikt/vikt/graph/LinkGraph$Builder;"), (2, u "filled"), (0, u "I"), (41, u "lineNumber"), (0, u "J"), (2, u "isUtf8"), (0, u "([BII)Z"), (15, u "batched"), (50, u "READ_SIZE"), (1, u "BATCH")] 33

def k2c0 : Code := { maxStack := 3, maxLocals := 10, code := prog_6_method_3_code, exceptionTable := #[], attributes := #[] }
def k2m0 : Method := { name := "isUtf8", desc := "([BII)Z", sig := { parameters := [(.array .byte), .int, .int], returnType := some .boolean }, accessFlags := 8, code := some k2c0 }
/-- com/example/vikt/vikt/graph/LinkListReader -/
def k2 : Class := { plain "com/example/vikt/vikt/graph/LinkListReader" (some 0) with
  accessFlags := 48
  interfaces := #[]
  cf := some (fileOf pool2 7 #[] #[{ accessFlags := 8, nameIndex := 82, descriptorIndex := 83, attributes := #[] }] 48 2 #[] #[{ accessFlags := 24, nameIndex := 150, descriptorIndex := 36, attributes := #[] }, { accessFlags := 26, nameIndex := 152, descriptorIndex := 36, attributes := #[] }, { accessFlags := 18, nameIndex := 23, descriptorIndex := 24, attributes := #[] }, { accessFlags := 18, nameIndex := 27, descriptorIndex := 28, attributes := #[] }, { accessFlags := 18, nameIndex := 31, descriptorIndex := 32, attributes := #[] }, { accessFlags := 2, nameIndex := 12, descriptorIndex := 13, attributes := #[] }, { accessFlags := 2, nameIndex := 35, descriptorIndex := 36, attributes := #[] }, { accessFlags := 2, nameIndex := 78, descriptorIndex := 79, attributes := #[] }, { accessFlags := 18, nameIndex := 16, descriptorIndex := 17, attributes := #[] }, { accessFlags := 18, nameIndex := 20, descriptorIndex := 17, attributes := #[] }, { accessFlags := 2, nameIndex := 99, descriptorIndex := 36, attributes := #[] }])
  fields := #[{ name := "READ_SIZE", type := .int, accessFlags := 24, slot := 0, constantValue := 0 }, { name := "BATCH", type := .int, accessFlags := 26, slot := 1, constantValue := 0 }, { name := "in", type := (.object "java/io/InputStream"), accessFlags := 18, slot := 0, constantValue := 0 }, { name := "source", type := (.object "java/lang/String"), accessFlags := 18, slot := 1, constantValue := 0 }, { name := "builder", type := (.object "com/example/vikt/vikt/graph/LinkGraph$Builder"), accessFlags := 18, slot := 2, constantValue := 0 }, { name := "buffer", type := (.array .byte), accessFlags := 2, slot := 3, constantValue := 0 }, { name := "filled", type := .int, accessFlags := 2, slot := 4, constantValue := 0 }, { name := "lineNumber", type := .long, accessFlags := 2, slot := 5, constantValue := 0 }, { name := "bounds", type := (.array .int), accessFlags := 18, slot := 6, constantValue := 0 }, { name := "hashes", type := (.array .int), accessFlags := 18, slot := 7, constantValue := 0 }, { name := "batched", type := .int, accessFlags := 2, slot := 8, constantValue := 0 }]
  methods := #[k2m0]
  instanceTypes := #[(.object "java/io/InputStream"), (.object "java/lang/String"), (.object "com/example/vikt/vikt/graph/LinkGraph$Builder"), (.array .byte), .int, .long, (.array .int), (.array .int), .int]
  staticTypes := #[.int, .int]
  resolved := Array.replicate 186 none
  statics := none }

def pool3 : Array CpInfo := pool [(1, u "java/lang/Cloneable"), (0, .class_ 1), (0, u "java/lang/Object"), (0, .class_ 3)] 3

/-- java/lang/Cloneable -/
def k3 : Class := { plain "java/lang/Cloneable" (some 0) with
  accessFlags := 1537
  interfaces := #[]
  cf := some (fileOf pool3 2 #[] #[] 1537 4 #[] #[])
  fields := #[]
  methods := #[]
  instanceTypes := #[]
  staticTypes := #[]
  resolved := Array.replicate 8 none
  statics := none }

def pool4 : Array CpInfo := pool [(1, u "java/io/Serializable"), (0, .class_ 1), (0, u "java/lang/Object"), (0, .class_ 3)] 3

/-- java/io/Serializable -/
def k4 : Class := { plain "java/io/Serializable" (some 0) with
  accessFlags := 1537
  interfaces := #[]
  cf := some (fileOf pool4 2 #[] #[] 1537 4 #[] #[])
  fields := #[]
  methods := #[]
  instanceTypes := #[]
  staticTypes := #[]
  resolved := Array.replicate 8 none
  statics := none }

/-- the primitive byte -/
def k5 : Class := { plain "byte" none with kind := .primitive 'B', accessFlags := 0x411 }
/-- [B -/
def k6 : Class := { plain "[B" (some 0) with kind := .array 5 .byte, interfaces := #[3, 4], accessFlags := 1041 }

/-- the primitive int -/
def k7 : Class := { plain "int" none with kind := .primitive 'I', accessFlags := 0x411 }
/-- [I -/
def k8 : Class := { plain "[I" (some 0) with kind := .array 7 .int, interfaces := #[3, 4], accessFlags := 1041 }

def heap : Heap := #[]
def classes : Array Class := #[k0, k1, k2, k3, k4, k5, k6, k7, k8]
def interned : List (Array UInt16 × Addr) := []
def slotsUsed : Nat := 0
def theMethod : MethodId := ⟨1, 1⟩
def args0 : Array Value := #[.int 5, .int 3, .int 5, .int 3]
def aboutOver (below : List Frame) : State where
  vm := { classes := classes, interned := interned.toArray }
  heap := heap
  slotsUsed := slotsUsed
  threads := #[{ frames := .invoking theMethod args0 :: below }]
def below0 : List Frame := [.native { method := ⟨0, 0⟩, args := #[] }]
def about1 : State := aboutOver below0
def p0 : Program := .bare "" "" ""
def e0 : Env := launch0.env 0 0 0
theorem w_frames : about1.frames = Frame.invoking theMethod args0 :: below0 := rfl
set_option maxRecDepth 65536 in
theorem w_args : argsFit about1.vm theMethod args0 = true := by decide +kernel
set_option maxRecDepth 65536 in
theorem w_heap : heapFits about1 = true := by decide +kernel
set_option maxRecDepth 65536 in
theorem w_runnable : about1.curStatus? = some .runnable := by decide +kernel
set_option maxRecDepth 65536 in
theorem w_alone : about1.alone = true := by decide +kernel
set_option maxRecDepth 65536 in
theorem w_named : about1.methodNamed? x = some theMethod := by decide +kernel
set_option maxRecDepth 65536 in
theorem w_hears : about1.hears theMethod below0 = true := by decide +kernel
set_option maxRecDepth 65536 in
theorem w_ripe : about1.ripe theMethod args0 below0 = true := by decide +kernel
theorem w_running : about1.status = .running := rfl
set_option maxRecDepth 65536 in
theorem w_room : about1.hasRoom e0.platform room_1 = true :=
  launch0.hasRoom_least _ room_1 (by decide +kernel) (by decide +kernel) (by decide +kernel) (by decide +kernel) (by decide +kernel) (by decide +kernel)
theorem allAtoms_all (ts : List Jvm.Cond) (a : Array Jvm.Value) (st : Jvm.State) : (allAtoms ts).before a st = ts.all (fun c => c.before a st) := by
  induction ts with
  | nil => rfl
  | cons c t ih =>
    show (Jvm.Cond.and c (allAtoms t)).before a st = _
    rw [Jvm.Cond.before_and, ih, List.all_cons]
def words1 : List Jvm.Cond := Jvm.Cond.code x code maxLocals ret :: tables_1
/-- a 'code' word, met by the world's own term for the bytes: nothing is compared byte by byte -/
theorem code_word {y : MethodName} {bytes : ByteArray} {mx : Nat} {rt : Option FieldType} {a : Array Value} {s : State} {m : MethodId} {meth : Method} {c : Code} (h1 : s.methodNamed? y = some m) (h2 : s.vm.method? m = some meth) (h3 : meth.code = some c) (h4 : c.code = bytes)
    (h5 : (c.maxLocals == mx && c.exceptionTable.isEmpty && decide (c.maxStack ≤ mostOperands) && decide (meth.sig.returnType = rt) && !meth.locks && decide (parseMethodDescriptor y.desc = some meth.sig)) = true) : (Jvm.Cond.code y bytes mx rt).before a s = true := by
  simp only [Bool.and_eq_true, beq_iff_eq, Bool.not_eq_true', decide_eq_true_eq] at h5
  obtain ⟨⟨⟨⟨⟨g1, g2⟩, g3⟩, g4⟩, g5⟩, g6⟩ := h5
  simp [Cond.before, Cond.holds, Cond.value, h1, h2, h3, h4, g1, g2, g3, g4, g5, g6]
def isCode : Jvm.Cond → Bool
  | .code _ _ _ _ => true
  | _ => false
theorem all_split {L : List Jvm.Cond} {P : Jvm.Cond → Bool} (h1 : L.all (fun c => isCode c || P c) = true) (h2 : ∀ c ∈ L.filter isCode, P c = true) : L.all P = true := by
  refine List.all_eq_true.mpr fun c hc => ?_
  have h := List.all_eq_true.mp h1 c hc
  rcases Bool.eq_false_or_eq_true (isCode c) with hi | hi
  · exact h2 c (List.mem_filter.mpr ⟨hc, hi⟩)
  · simpa [hi] using h
set_option maxRecDepth 65536 in
theorem w_c0 : (Jvm.Cond.code x code maxLocals ret).before args0 about1 = true := code_word (m := ⟨1, 1⟩) (meth := k1m1) (c := k1c1) (by decide +kernel) rfl rfl rfl (by decide +kernel)
set_option maxRecDepth 65536 in
theorem w_c1 : (Jvm.Cond.code ({ cls := "com/example/vikt/vikt/graph/LinkListReaderIsUtf8PinLaw", name := "next", desc := "([BII)I" } : Jvm.MethodName) method_3_code (4 : Nat) (Option.some Jvm.ClassFile.FieldType.int)).before args0 about1 = true := code_word (m := ⟨1, 2⟩) (meth := k1m2) (c := k1c2) (by decide +kernel) rfl rfl rfl (by decide +kernel)
set_option maxRecDepth 65536 in
theorem w_c2 : (Jvm.Cond.code ({ cls := "com/example/vikt/vikt/graph/LinkListReaderIsUtf8PinLaw", name := "seq", desc := "([BII)I" } : Jvm.MethodName) method_4_code (8 : Nat) (Option.some Jvm.ClassFile.FieldType.int)).before args0 about1 = true := code_word (m := ⟨1, 3⟩) (meth := k1m3) (c := k1c3) (by decide +kernel) rfl rfl rfl (by decide +kernel)
set_option maxRecDepth 65536 in
theorem w_c3 : (Jvm.Cond.code ({ cls := "com/example/vikt/vikt/graph/LinkListReader", name := "isUtf8", desc := "([BII)Z" } : Jvm.MethodName) prog_6_method_3_code (10 : Nat) (Option.some Jvm.ClassFile.FieldType.boolean)).before args0 about1 = true := code_word (m := ⟨2, 0⟩) (meth := k2m0) (c := k2c0) (by decide +kernel) rfl rfl rfl (by decide +kernel)
def codes1 : List Jvm.Cond := [Jvm.Cond.code x code maxLocals ret, Jvm.Cond.code ({ cls := "com/example/vikt/vikt/graph/LinkListReaderIsUtf8PinLaw", name := "next", desc := "([BII)I" } : Jvm.MethodName) method_3_code (4 : Nat) (Option.some Jvm.ClassFile.FieldType.int), Jvm.Cond.code ({ cls := "com/example/vikt/vikt/graph/LinkListReaderIsUtf8PinLaw", name := "seq", desc := "([BII)I" } : Jvm.MethodName) method_4_code (8 : Nat) (Option.some Jvm.ClassFile.FieldType.int), Jvm.Cond.code ({ cls := "com/example/vikt/vikt/graph/LinkListReader", name := "isUtf8", desc := "([BII)Z" } : Jvm.MethodName) prog_6_method_3_code (10 : Nat) (Option.some Jvm.ClassFile.FieldType.boolean)]
set_option maxRecDepth 65536 in
theorem codes_eq : words1.filter isCode = codes1 := rfl
theorem w_codes : ∀ c ∈ words1.filter isCode, c.before args0 about1 = true := by
  rw [codes_eq]
  intro c hc
  simp only [codes1, List.mem_cons, List.not_mem_nil, or_false] at hc
  rcases hc with rfl | rfl | rfl | rfl
  · exact w_c0
  · exact w_c1
  · exact w_c2
  · exact w_c3
set_option maxRecDepth 65536 in
theorem w_t1 : words1.all (fun c => isCode c || c.before args0 about1) = true := by decide +kernel
theorem w_tables : (allAtoms (Jvm.Cond.code x code maxLocals ret :: tables_1)).before args0 about1 = true := by
  rw [allAtoms_all]
  show words1.all (fun c => c.before args0 about1) = true
  refine all_split ?_ w_codes
  rw [w_t1]
set_option maxRecDepth 65536 in
theorem w_case : (Jvm.Cond.and given_1 narrow_1).before args0 about1 = true := by decide +kernel
theorem w_applies : (headSpec (Jvm.Cond.code x code maxLocals ret :: tables_1) room_1).applies x e0.platform about1 = true :=
  (Spec.applies_iff w_frames).mpr ⟨w_running, w_runnable, w_alone, w_named, w_hears, w_ripe, w_room, w_tables⟩
theorem atStart : AtStart classFile x code maxLocals ret World_1 tables_1 room_1 Calls_1 rest_1 Pre_1 launch0 p0 e0 about1 theMethod args0 below0 :=
  ⟨lists_1, trivial, launch0.admits_env _ _ _, launch0.least_env, fairChoices_fair.cas, fairChoices_fair.clock, w_frames, w_args, w_heap, w_applies, trivial, trivial, w_case⟩
end start1
theorem witness_1 : WitnessClaimed_1 := ⟨start1.p0, start1.e0, start1.about1, start1.theMethod, start1.args0, start1.below0, start1.atStart⟩
end Jvm.Pilot.@@N@@
