import JvmDerived
import JvmDerived.Pilot.@@N@@Statement
import JvmDerived.Pilot.@@N@@Code
set_option linter.unusedVariables false
set_option linter.unusedSimpArgs false
namespace Jvm.RoadKit
open Sem ClassFile Op Lib Jvm.Stand Jvm.Free Jvm.LawKit
section New
variable {p : Program} {l : Launch} {e : Env} {R : Room} {s : State} {m : MethodId} {args : Array Value} {below : List Frame} {meth : Method} {c : Code} {T : State} {locs : List Loc} {cells slots : Nat}
theorem retI (X : Stand p l e R s m args below meth c T locs cells slots) (hx : p.tables.exec = Jvm.exec) {pc : Nat} {Ls : Array Slot} {z : Int32} {rest : List Value} (hret : meth.sig.returnType = some .int) (hd : decode c.code pc = .ok (.ireturn, 1)) {fs : List Frame}
    (hl : ∀ (f : JFrame) (acts : List Action), f.method = m → f.locked = none → f.entered = [] → (doReturn e (T.setTop f) acts (some (.int z))).1 = T.setFrames fs) : Steps p.tables e below (T.setTop (mkF m pc Ls (.int z :: rest))) (T.setFrames fs) := by
  have hm' : T.vm.method? m = some meth := X.method'
  have hn : narrow .int (.int z) = .int z := rfl
  show Steps p.tables e below (T.setTop { method := m, pc := pc, locals := Ls, stack := _ :: rest, locked := none }) _
  jvm_step X.here [X.here.top, hx, hd, hm', hret, hn]
  first | (intro acts; rw [hl _ acts rfl rfl rfl]) | rw [hl _ _ rfl rfl rfl]
  exact Steps.refl _
end New
end Jvm.RoadKit
namespace Jvm.Pilot.@@N@@
open Jvm Jvm.ClassFile Sem Op Lib Jvm.Free Jvm.Stand Jvm.LawKit Jvm.RoadKit Bundle Jvm.Pilot.@@N@@.Jvm.D
section Own
variable {p : Program} {l : Launch} {e : Env} {R : Room} {s : State} {m : MethodId} {args : Array Value} {below : List Frame} {meth : Method} {c : Code} {T : State} {locs : List Loc} {cells slots : Nat} {Z : State} {a0 : Array Value} {h h' : Heap} {n0 : Nat} {Q : Option Value → Heap → Prop} {kc ks : Nat} {Fn : Outcome → State → List Loc → Prop} {Ls : Array Slot} {St : List Value} {pc : Nat} {own nm : String} {bytes : ByteArray} {maxL : Nat} {ret : Option FieldType}
/-- the rest of a run: from S the method ends by returning; Q says what it returns and leaves; nothing below n0 is written -/
def OGo (p : Program) (e : Env) (below : List Frame) (Fn : Outcome → State → List Loc → Prop) (n0 : Nat) (Q : Option Value → Heap → Prop) (S : State) : Prop :=
  ∃ U o, Steps p.tables e below S U ∧ U.status = .running ∧ Ended U below o ∧ ∃ v L, o = .returned v ∧ (Q v U.heap ∧ Fr n0 L) ∧ Fn o U L
/-- the end's frame: as FrameEnd has it; or the wide one, where String constants may have been interned -/
def OFin (s : State) (kc ks : Nat) (o : Outcome) (U : State) (L : List Loc) : Prop := FrameEnd s o U L kc ks
def OFinW (s : State) (kc ks : Nat) (o : Outcome) (U : State) (L : List Loc) : Prop := Jvm.ReturnedEndW s o U L kc ks
theorem OGo.st {A B : State} (k : ∀ t, Steps p.tables e below A t → Steps p.tables e below B t) (g : OGo p e below Fn n0 Q A) : OGo p e below Fn n0 Q B := by
  obtain ⟨U, o, h1, r⟩ := g
  exact ⟨U, o, k U h1, r⟩
theorem OGo.imp {A : State} {Q' : Option Value → Heap → Prop} (k : ∀ v h, Q' v h → Q v h) (g : OGo p e below Fn n0 Q' A) : OGo p e below Fn n0 Q A := by
  obtain ⟨U, o, h1, h2, h3, v, L, h4, ⟨h5, h6⟩, h7⟩ := g
  exact ⟨U, o, h1, h2, h3, v, L, h4, ⟨k _ _ h5, h6⟩, h7⟩
/-- what a walk knows of the method in which it stands -/
def OCx (p : Program) (s : State) (m : MethodId) (meth : Method) (c : Code) (Z : State) (own nm : String) (bytes : ByteArray) (maxL : Nat) (ret : Option FieldType) : Prop :=
  p.tables.exec = Jvm.exec ∧ Z.Warmed39 s.vm ∧ c.code = bytes ∧ c.maxLocals = maxL ∧ s.vm.findClass own = some m.cls ∧ meth.name = nm ∧ meth.sig.returnType = ret ∧ meth.locks = false
theorem OCx.hx (K : OCx p s m meth c Z own nm bytes maxL ret) : p.tables.exec = Jvm.exec := K.1
theorem OCx.hZ (K : OCx p s m meth c Z own nm bytes maxL ret) : Z.Warmed39 s.vm := K.2.1
theorem OCx.hby (K : OCx p s m meth c Z own nm bytes maxL ret) : c.code = bytes := K.2.2.1
theorem OCx.hml (K : OCx p s m meth c Z own nm bytes maxL ret) : c.maxLocals = maxL := K.2.2.2.1
theorem OCx.hown (K : OCx p s m meth c Z own nm bytes maxL ret) : s.vm.findClass own = some m.cls := K.2.2.2.2.1
theorem OCx.hnm (K : OCx p s m meth c Z own nm bytes maxL ret) : meth.name = nm := K.2.2.2.2.2.1
theorem OCx.hret (K : OCx p s m meth c Z own nm bytes maxL ret) : meth.sig.returnType = ret := K.2.2.2.2.2.2.1
theorem OCx.hlk (K : OCx p s m meth c Z own nm bytes maxL ret) : meth.locks = false := K.2.2.2.2.2.2.2
/-- a body's contract: called with these arguments at this heap it returns, and Q -/
def OCon (l : Launch) (Z : State) (n0 : Nat) (y : MethodName) (bytes : ByteArray) (maxL : Nat) (ret : Option FieldType) (rm : Room) (as : Array Value) (h0 : Heap) (Q : Option Value → Heap → Prop) : Prop :=
  ∀ ws, MetFree l y (head1 (Jvm.Cond.code y bytes maxL ret :: ws) rm) (fun a U => a = as ∧ Z.Warmed39 U.vm ∧ U.heap = h0) (fun _ _ _ _ _ => True) (fun _ U o U' => ∃ v L, o = .returned v ∧ (Q v U'.heap ∧ Fr n0 L) ∧ FrameEnd U o U' L rm.cells rm.slots)
theorem OCon.of {y : MethodName} {rm : Room} {as : Array Value} {h0 : Heap} {Ls : Array Slot} (hpl : plainFor y = true) (ho : y.cls = own) (hn : y.name = nm) (hen : ∀ m, entryFrame m as maxL = mkF m 0 Ls [])
    (H : ∀ (p : Program) (e : Env) (s : State) (m : MethodId) (below : List Frame) (meth : Method) (c : Code) (T : State), Stand p l e rm s m as below meth c T [] 0 0 → OCx p s m meth c Z own nm bytes maxL ret → T.heap = h0 → OGo p e below (OFin s rm.cells rm.slots) n0 Q (T.setTop (mkF m 0 Ls []))) : OCon l Z n0 y bytes maxL ret rm as h0 Q := by
  intro ws
  refine MetFree.of_bodySF hpl hisR ?_
  intro p e s m args below meth c s₁ Bd hml0 hP hK
  obtain ⟨rfl, hZ, hh⟩ := hP
  subst ho hn
  obtain ⟨U, o, h1, r⟩ := H p e s m below meth c s₁ (Stand.of_body Bd) ⟨Bd.exec, hZ, Bd.bytes, hml0, findClass_of_methodNamed Bd.named, (name_of_methodNamed Bd.named Bd.method).1, Bd.returns, Bd.notSynchronized⟩ (by rw [← hh, Bd.state]; rfl)
  exact ⟨U, o, castTop (hen m) h1, r⟩
theorem OCon.imp {y : MethodName} {rm : Room} {as : Array Value} {h0 : Heap} {Q' : Option Value → Heap → Prop} (g : OCon l Z n0 y bytes maxL ret rm as h0 Q) (k : ∀ v h, Q v h → Q' v h) : OCon l Z n0 y bytes maxL ret rm as h0 Q' := by
  intro ws p e ha hc hk s m args below hf happ hP hK
  obtain ⟨n, o, h1, h2, h3, v, L, h4, ⟨h5, h6⟩, h7⟩ := g ws p e ha hc hk s m args below hf happ hP hK
  exact ⟨n, o, h1, h2, h3, v, L, h4, ⟨k _ _ h5, h6⟩, h7⟩

theorem o_iload (X : Stand p l e R s m args below meth c T locs cells slots) (K : OCx p s m meth c Z own nm bytes maxL ret) {k : Nat} {v : Int32} (hd : decode bytes pc = .ok (.iload k, 2)) (pc' : Nat) (hp : pc + 2 = pc') (hl : Ls[k]? = some (.val (.int v))) (hr : OGo p e below Fn n0 Q (T.setTop (mkF m pc' Ls (.int v :: St)))) : OGo p e below Fn n0 Q (T.setTop (mkF m pc Ls St)) := by
  subst hp
  exact OGo.st (fun _ k => XS.iload X.here K.hx rfl (hb K.hby hd) hl k) hr
theorem o_iloadN (X : Stand p l e R s m args below meth c T locs cells slots) (K : OCx p s m meth c Z own nm bytes maxL ret) {k : Fin 4} {v : Int32} (hd : decode bytes pc = .ok (.iload_n k, 1)) (pc' : Nat) (hp : pc + 1 = pc') (hl : Ls[k.val]? = some (.val (.int v))) (hr : OGo p e below Fn n0 Q (T.setTop (mkF m pc' Ls (.int v :: St)))) : OGo p e below Fn n0 Q (T.setTop (mkF m pc Ls St)) := by
  subst hp
  exact OGo.st (fun _ k => XS.iloadN X.here K.hx rfl (hb K.hby hd) hl k) hr
theorem o_lload (X : Stand p l e R s m args below meth c T locs cells slots) (K : OCx p s m meth c Z own nm bytes maxL ret) {k : Nat} {v : Int64} (hd : decode bytes pc = .ok (.lload k, 2)) (pc' : Nat) (hp : pc + 2 = pc') (hl : Ls[k]? = some (.val (.long v))) (hr : OGo p e below Fn n0 Q (T.setTop (mkF m pc' Ls (.long v :: St)))) : OGo p e below Fn n0 Q (T.setTop (mkF m pc Ls St)) := by
  subst hp
  exact OGo.st (fun _ k => XS.lload X.here K.hx rfl (hb K.hby hd) hl k) hr
theorem o_lloadN (X : Stand p l e R s m args below meth c T locs cells slots) (K : OCx p s m meth c Z own nm bytes maxL ret) {k : Fin 4} {v : Int64} (hd : decode bytes pc = .ok (.lload_n k, 1)) (pc' : Nat) (hp : pc + 1 = pc') (hl : Ls[k.val]? = some (.val (.long v))) (hr : OGo p e below Fn n0 Q (T.setTop (mkF m pc' Ls (.long v :: St)))) : OGo p e below Fn n0 Q (T.setTop (mkF m pc Ls St)) := by
  subst hp
  exact OGo.st (fun _ k => XS.lloadN X.here K.hx rfl (hb K.hby hd) hl k) hr
theorem o_aload (X : Stand p l e R s m args below meth c T locs cells slots) (K : OCx p s m meth c Z own nm bytes maxL ret) {k : Nat} {v : Value} (hd : decode bytes pc = .ok (.aload k, 2)) (pc' : Nat) (hp : pc + 2 = pc') (hl : Ls[k]? = some (.val v)) (hv : v.isRef = true) (hr : OGo p e below Fn n0 Q (T.setTop (mkF m pc' Ls (v :: St)))) : OGo p e below Fn n0 Q (T.setTop (mkF m pc Ls St)) := by
  subst hp
  exact OGo.st (fun _ k => XS.aload X.here K.hx rfl (hb K.hby hd) hl hv k) hr
theorem o_aloadN (X : Stand p l e R s m args below meth c T locs cells slots) (K : OCx p s m meth c Z own nm bytes maxL ret) {k : Fin 4} {v : Value} (hd : decode bytes pc = .ok (.aload_n k, 1)) (pc' : Nat) (hp : pc + 1 = pc') (hl : Ls[k.val]? = some (.val v)) (hv : v.isRef = true) (hr : OGo p e below Fn n0 Q (T.setTop (mkF m pc' Ls (v :: St)))) : OGo p e below Fn n0 Q (T.setTop (mkF m pc Ls St)) := by
  subst hp
  exact OGo.st (fun _ k => XS.aloadN X.here K.hx rfl (hb K.hby hd) hl hv k) hr
theorem o_istore (X : Stand p l e R s m args below meth c T locs cells slots) (K : OCx p s m meth c Z own nm bytes maxL ret) {k : Nat} {x x' : Int32} (hd : decode bytes pc = .ok (.istore k, 2)) (pc' : Nat) (hp : pc + 2 = pc') (Ls' : Array Slot) (hv : x = x') (hl : storeLocals Ls k (.int x') = some Ls') (hr : OGo p e below Fn n0 Q (T.setTop (mkF m pc' Ls' St))) : OGo p e below Fn n0 Q (T.setTop (mkF m pc Ls (.int x :: St))) := by
  subst hp
  exact OGo.st (fun _ k => XS.istore X.here K.hx rfl (hb K.hby hd) rfl (hv ▸ hl) k) hr
theorem o_istoreN (X : Stand p l e R s m args below meth c T locs cells slots) (K : OCx p s m meth c Z own nm bytes maxL ret) {k : Fin 4} {x x' : Int32} (hd : decode bytes pc = .ok (.istore_n k, 1)) (pc' : Nat) (hp : pc + 1 = pc') (Ls' : Array Slot) (hv : x = x') (hl : storeLocals Ls k.val (.int x') = some Ls') (hr : OGo p e below Fn n0 Q (T.setTop (mkF m pc' Ls' St))) : OGo p e below Fn n0 Q (T.setTop (mkF m pc Ls (.int x :: St))) := by
  subst hp
  exact OGo.st (fun _ k => XS.istoreN X.here K.hx rfl (hb K.hby hd) rfl (hv ▸ hl) k) hr
theorem o_lstore (X : Stand p l e R s m args below meth c T locs cells slots) (K : OCx p s m meth c Z own nm bytes maxL ret) {k : Nat} {x x' : Int64} (hd : decode bytes pc = .ok (.lstore k, 2)) (pc' : Nat) (hp : pc + 2 = pc') (Ls' : Array Slot) (hv : x = x') (hl : storeLocals Ls k (.long x') = some Ls') (hr : OGo p e below Fn n0 Q (T.setTop (mkF m pc' Ls' St))) : OGo p e below Fn n0 Q (T.setTop (mkF m pc Ls (.long x :: St))) := by
  subst hp
  exact OGo.st (fun _ k => XS.lstore X.here K.hx rfl (hb K.hby hd) rfl (hv ▸ hl) k) hr
theorem o_lstoreN (X : Stand p l e R s m args below meth c T locs cells slots) (K : OCx p s m meth c Z own nm bytes maxL ret) {k : Fin 4} {x x' : Int64} (hd : decode bytes pc = .ok (.lstore_n k, 1)) (pc' : Nat) (hp : pc + 1 = pc') (Ls' : Array Slot) (hv : x = x') (hl : storeLocals Ls k.val (.long x') = some Ls') (hr : OGo p e below Fn n0 Q (T.setTop (mkF m pc' Ls' St))) : OGo p e below Fn n0 Q (T.setTop (mkF m pc Ls (.long x :: St))) := by
  subst hp
  exact OGo.st (fun _ k => XS.lstoreN X.here K.hx rfl (hb K.hby hd) rfl (hv ▸ hl) k) hr
theorem o_astore (X : Stand p l e R s m args below meth c T locs cells slots) (K : OCx p s m meth c Z own nm bytes maxL ret) {k : Nat} {x : Value} (hd : decode bytes pc = .ok (.astore k, 2)) (pc' : Nat) (hp : pc + 2 = pc') (Ls' : Array Slot) (hv : x.isRef = true) (hl : storeLocals Ls k x = some Ls') (hr : OGo p e below Fn n0 Q (T.setTop (mkF m pc' Ls' St))) : OGo p e below Fn n0 Q (T.setTop (mkF m pc Ls (x :: St))) := by
  subst hp
  exact OGo.st (fun _ k => XS.astore X.here K.hx rfl (hb K.hby hd) rfl hv hl k) hr
theorem o_astoreN (X : Stand p l e R s m args below meth c T locs cells slots) (K : OCx p s m meth c Z own nm bytes maxL ret) {k : Fin 4} {x : Value} (hd : decode bytes pc = .ok (.astore_n k, 1)) (pc' : Nat) (hp : pc + 1 = pc') (Ls' : Array Slot) (hv : x.isRef = true) (hl : storeLocals Ls k.val x = some Ls') (hr : OGo p e below Fn n0 Q (T.setTop (mkF m pc' Ls' St))) : OGo p e below Fn n0 Q (T.setTop (mkF m pc Ls (x :: St))) := by
  subst hp
  exact OGo.st (fun _ k => XS.astoreN X.here K.hx rfl (hb K.hby hd) rfl hv hl k) hr
theorem o_iinc (X : Stand p l e R s m args below meth c T locs cells slots) (K : OCx p s m meth c Z own nm bytes maxL ret) {k : Nat} {cst : Int} {x x' : Int32} (hd : decode bytes pc = .ok (.iinc k cst, 3)) (pc' : Nat) (hp : pc + 3 = pc') (Ls' : Array Slot) (hl : Ls[k]? = some (.val (.int x))) (hv : x + Int32.ofInt cst = x') (hl' : storeLocals Ls k (.int x') = some Ls') (hr : OGo p e below Fn n0 Q (T.setTop (mkF m pc' Ls' St))) : OGo p e below Fn n0 Q (T.setTop (mkF m pc Ls St)) := by
  subst hp
  exact OGo.st (fun _ k => XS.iinc X.here K.hx rfl (hb K.hby hd) hl (hv ▸ hl') k) hr
theorem o_iconst (X : Stand p l e R s m args below meth c T locs cells slots) (K : OCx p s m meth c Z own nm bytes maxL ret) {i : Int} (v : Int32) (hd : decode bytes pc = .ok (.iconst i, 1)) (pc' : Nat) (hp : pc + 1 = pc') (hv : Int32.ofInt i = v) (hr : OGo p e below Fn n0 Q (T.setTop (mkF m pc' Ls (.int v :: St)))) : OGo p e below Fn n0 Q (T.setTop (mkF m pc Ls St)) := by
  subst hp
  exact OGo.st (fun _ k => XS.iconst X.here K.hx rfl (hb K.hby hd) (by rw [hv]; exact k)) hr
theorem o_bipush (X : Stand p l e R s m args below meth c T locs cells slots) (K : OCx p s m meth c Z own nm bytes maxL ret) {i : Int} (v : Int32) (hd : decode bytes pc = .ok (.bipush i, 2)) (pc' : Nat) (hp : pc + 2 = pc') (hv : (Int8.ofInt i).toInt32 = v) (hr : OGo p e below Fn n0 Q (T.setTop (mkF m pc' Ls (.int v :: St)))) : OGo p e below Fn n0 Q (T.setTop (mkF m pc Ls St)) := by
  subst hp
  exact OGo.st (fun _ k => XS.bipush X.here K.hx rfl (hb K.hby hd) (by rw [hv]; exact k)) hr
theorem o_sipush (X : Stand p l e R s m args below meth c T locs cells slots) (K : OCx p s m meth c Z own nm bytes maxL ret) {i : Int} (v : Int32) (hd : decode bytes pc = .ok (.sipush i, 3)) (pc' : Nat) (hp : pc + 3 = pc') (hv : (Int16.ofInt i).toInt32 = v) (hr : OGo p e below Fn n0 Q (T.setTop (mkF m pc' Ls (.int v :: St)))) : OGo p e below Fn n0 Q (T.setTop (mkF m pc Ls St)) := by
  subst hp
  exact OGo.st (fun _ k => XS.sipush X.here K.hx rfl (hb K.hby hd) (by rw [hv]; exact k)) hr
theorem o_lconst (X : Stand p l e R s m args below meth c T locs cells slots) (K : OCx p s m meth c Z own nm bytes maxL ret) {i : Fin 2} (v : Int64) (hd : decode bytes pc = .ok (.lconst i, 1)) (pc' : Nat) (hp : pc + 1 = pc') (hv : Int64.ofNat i = v) (hr : OGo p e below Fn n0 Q (T.setTop (mkF m pc' Ls (.long v :: St)))) : OGo p e below Fn n0 Q (T.setTop (mkF m pc Ls St)) := by
  subst hp
  exact OGo.st (fun _ k => XS.lconst X.here K.hx rfl (hb K.hby hd) (by rw [hv]; exact k)) hr
theorem o_aconst_null (X : Stand p l e R s m args below meth c T locs cells slots) (K : OCx p s m meth c Z own nm bytes maxL ret) (hd : decode bytes pc = .ok (.aconst_null, 1)) (pc' : Nat) (hp : pc + 1 = pc') (hr : OGo p e below Fn n0 Q (T.setTop (mkF m pc' Ls (.null :: St)))) : OGo p e below Fn n0 Q (T.setTop (mkF m pc Ls St)) := by
  subst hp
  exact OGo.st (fun _ k => XS.aconstNull X.here K.hx rfl (hb K.hby hd) k) hr
theorem o_ldcI (X : Stand p l e R s m args below meth c T locs cells slots) (K : OCx p s m meth c Z own nm bytes maxL ret) {index : Nat} {v : Int32} (hd : decode bytes pc = .ok (.ldc index, 2)) (pc' : Nat) (hp : pc + 2 = pc') (w : (Jvm.Cond.constant own index v).before a0 Z = true) (hr : OGo p e below Fn n0 Q (T.setTop (mkF m pc' Ls (.int v :: St)))) : OGo p e below Fn n0 Q (T.setTop (mkF m pc Ls St)) := by
  subst hp
  exact OGo.st (fun _ k => Stand.ldcI X K.hx K.hown (mvT K.hZ w) rfl (hb K.hby hd) k) hr
theorem o_ldcWI (X : Stand p l e R s m args below meth c T locs cells slots) (K : OCx p s m meth c Z own nm bytes maxL ret) {index : Nat} {v : Int32} (hd : decode bytes pc = .ok (.ldc_w index, 3)) (pc' : Nat) (hp : pc + 3 = pc') (w : (Jvm.Cond.constant own index v).before a0 Z = true) (hr : OGo p e below Fn n0 Q (T.setTop (mkF m pc' Ls (.int v :: St)))) : OGo p e below Fn n0 Q (T.setTop (mkF m pc Ls St)) := by
  subst hp
  exact OGo.st (fun _ k => Stand.ldcWI X K.hx K.hown (mvT K.hZ w) rfl (hb K.hby hd) k) hr
theorem o_ldc2J (X : Stand p l e R s m args below meth c T locs cells slots) (K : OCx p s m meth c Z own nm bytes maxL ret) {index : Nat} {v : Int64} (hd : decode bytes pc = .ok (.ldc2_w index, 3)) (pc' : Nat) (hp : pc + 3 = pc') (w : (Jvm.Cond.constantLong own index v).before a0 Z = true) (hr : OGo p e below Fn n0 Q (T.setTop (mkF m pc' Ls (.long v :: St)))) : OGo p e below Fn n0 Q (T.setTop (mkF m pc Ls St)) := by
  subst hp
  exact OGo.st (fun _ k => Stand.ldc2J X K.hx K.hown (mvT K.hZ w) rfl (hb K.hby hd) k) hr
theorem o_iadd (X : Stand p l e R s m args below meth c T locs cells slots) (K : OCx p s m meth c Z own nm bytes maxL ret) {x y : Int32} (hd : decode bytes pc = .ok (.iadd, 1)) (pc' : Nat) (hp : pc + 1 = pc') (hr : OGo p e below Fn n0 Q (T.setTop (mkF m pc' Ls (.int (x + y) :: St)))) : OGo p e below Fn n0 Q (T.setTop (mkF m pc Ls (.int y :: .int x :: St))) := by
  subst hp
  exact OGo.st (fun _ k => XS.iadd X.here K.hx rfl (hb K.hby hd) rfl k) hr
theorem o_isub (X : Stand p l e R s m args below meth c T locs cells slots) (K : OCx p s m meth c Z own nm bytes maxL ret) {x y : Int32} (hd : decode bytes pc = .ok (.isub, 1)) (pc' : Nat) (hp : pc + 1 = pc') (hr : OGo p e below Fn n0 Q (T.setTop (mkF m pc' Ls (.int (x - y) :: St)))) : OGo p e below Fn n0 Q (T.setTop (mkF m pc Ls (.int y :: .int x :: St))) := by
  subst hp
  exact OGo.st (fun _ k => XS.isub X.here K.hx rfl (hb K.hby hd) rfl k) hr
theorem o_imul (X : Stand p l e R s m args below meth c T locs cells slots) (K : OCx p s m meth c Z own nm bytes maxL ret) {x y : Int32} (hd : decode bytes pc = .ok (.imul, 1)) (pc' : Nat) (hp : pc + 1 = pc') (hr : OGo p e below Fn n0 Q (T.setTop (mkF m pc' Ls (.int (x * y) :: St)))) : OGo p e below Fn n0 Q (T.setTop (mkF m pc Ls (.int y :: .int x :: St))) := by
  subst hp
  exact OGo.st (fun _ k => XS.imul X.here K.hx rfl (hb K.hby hd) rfl k) hr
theorem o_iand (X : Stand p l e R s m args below meth c T locs cells slots) (K : OCx p s m meth c Z own nm bytes maxL ret) {x y : Int32} (hd : decode bytes pc = .ok (.iand, 1)) (pc' : Nat) (hp : pc + 1 = pc') (hr : OGo p e below Fn n0 Q (T.setTop (mkF m pc' Ls (.int (x &&& y) :: St)))) : OGo p e below Fn n0 Q (T.setTop (mkF m pc Ls (.int y :: .int x :: St))) := by
  subst hp
  exact OGo.st (fun _ k => XS.iand X.here K.hx rfl (hb K.hby hd) rfl k) hr
theorem o_ior (X : Stand p l e R s m args below meth c T locs cells slots) (K : OCx p s m meth c Z own nm bytes maxL ret) {x y : Int32} (hd : decode bytes pc = .ok (.ior, 1)) (pc' : Nat) (hp : pc + 1 = pc') (hr : OGo p e below Fn n0 Q (T.setTop (mkF m pc' Ls (.int (x ||| y) :: St)))) : OGo p e below Fn n0 Q (T.setTop (mkF m pc Ls (.int y :: .int x :: St))) := by
  subst hp
  exact OGo.st (fun _ k => XS.ior X.here K.hx rfl (hb K.hby hd) rfl k) hr
theorem o_ixor (X : Stand p l e R s m args below meth c T locs cells slots) (K : OCx p s m meth c Z own nm bytes maxL ret) {x y : Int32} (hd : decode bytes pc = .ok (.ixor, 1)) (pc' : Nat) (hp : pc + 1 = pc') (hr : OGo p e below Fn n0 Q (T.setTop (mkF m pc' Ls (.int (x ^^^ y) :: St)))) : OGo p e below Fn n0 Q (T.setTop (mkF m pc Ls (.int y :: .int x :: St))) := by
  subst hp
  exact OGo.st (fun _ k => XS.ixor X.here K.hx rfl (hb K.hby hd) rfl k) hr
theorem o_ishl (X : Stand p l e R s m args below meth c T locs cells slots) (K : OCx p s m meth c Z own nm bytes maxL ret) {x y : Int32} (hd : decode bytes pc = .ok (.ishl, 1)) (pc' : Nat) (hp : pc + 1 = pc') (hr : OGo p e below Fn n0 Q (T.setTop (mkF m pc' Ls (.int (x <<< (y &&& 31)) :: St)))) : OGo p e below Fn n0 Q (T.setTop (mkF m pc Ls (.int y :: .int x :: St))) := by
  subst hp
  exact OGo.st (fun _ k => XS.ishl X.here K.hx rfl (hb K.hby hd) rfl k) hr
theorem o_ishr (X : Stand p l e R s m args below meth c T locs cells slots) (K : OCx p s m meth c Z own nm bytes maxL ret) {x y : Int32} (hd : decode bytes pc = .ok (.ishr, 1)) (pc' : Nat) (hp : pc + 1 = pc') (hr : OGo p e below Fn n0 Q (T.setTop (mkF m pc' Ls (.int (x >>> (y &&& 31)) :: St)))) : OGo p e below Fn n0 Q (T.setTop (mkF m pc Ls (.int y :: .int x :: St))) := by
  subst hp
  exact OGo.st (fun _ k => XS.ishr X.here K.hx rfl (hb K.hby hd) rfl k) hr
theorem o_iushr (X : Stand p l e R s m args below meth c T locs cells slots) (K : OCx p s m meth c Z own nm bytes maxL ret) {x y : Int32} (hd : decode bytes pc = .ok (.iushr, 1)) (pc' : Nat) (hp : pc + 1 = pc') (hr : OGo p e below Fn n0 Q (T.setTop (mkF m pc' Ls (.int ((x.toUInt32 >>> (y &&& 31).toUInt32).toInt32) :: St)))) : OGo p e below Fn n0 Q (T.setTop (mkF m pc Ls (.int y :: .int x :: St))) := by
  subst hp
  exact OGo.st (fun _ k => XS.iushr X.here K.hx rfl (hb K.hby hd) rfl k) hr
theorem o_ladd (X : Stand p l e R s m args below meth c T locs cells slots) (K : OCx p s m meth c Z own nm bytes maxL ret) {x y : Int64} (hd : decode bytes pc = .ok (.ladd, 1)) (pc' : Nat) (hp : pc + 1 = pc') (hr : OGo p e below Fn n0 Q (T.setTop (mkF m pc' Ls (.long (x + y) :: St)))) : OGo p e below Fn n0 Q (T.setTop (mkF m pc Ls (.long y :: .long x :: St))) := by
  subst hp
  exact OGo.st (fun _ k => XS.ladd X.here K.hx rfl (hb K.hby hd) rfl k) hr
theorem o_lsub (X : Stand p l e R s m args below meth c T locs cells slots) (K : OCx p s m meth c Z own nm bytes maxL ret) {x y : Int64} (hd : decode bytes pc = .ok (.lsub, 1)) (pc' : Nat) (hp : pc + 1 = pc') (hr : OGo p e below Fn n0 Q (T.setTop (mkF m pc' Ls (.long (x - y) :: St)))) : OGo p e below Fn n0 Q (T.setTop (mkF m pc Ls (.long y :: .long x :: St))) := by
  subst hp
  exact OGo.st (fun _ k => XS.lsub X.here K.hx rfl (hb K.hby hd) rfl k) hr
theorem o_lmul (X : Stand p l e R s m args below meth c T locs cells slots) (K : OCx p s m meth c Z own nm bytes maxL ret) {x y : Int64} (hd : decode bytes pc = .ok (.lmul, 1)) (pc' : Nat) (hp : pc + 1 = pc') (hr : OGo p e below Fn n0 Q (T.setTop (mkF m pc' Ls (.long (x * y) :: St)))) : OGo p e below Fn n0 Q (T.setTop (mkF m pc Ls (.long y :: .long x :: St))) := by
  subst hp
  exact OGo.st (fun _ k => XS.lmul X.here K.hx rfl (hb K.hby hd) rfl k) hr
theorem o_land (X : Stand p l e R s m args below meth c T locs cells slots) (K : OCx p s m meth c Z own nm bytes maxL ret) {x y : Int64} (hd : decode bytes pc = .ok (.land, 1)) (pc' : Nat) (hp : pc + 1 = pc') (hr : OGo p e below Fn n0 Q (T.setTop (mkF m pc' Ls (.long (x &&& y) :: St)))) : OGo p e below Fn n0 Q (T.setTop (mkF m pc Ls (.long y :: .long x :: St))) := by
  subst hp
  exact OGo.st (fun _ k => XS.land X.here K.hx rfl (hb K.hby hd) rfl k) hr
theorem o_lor (X : Stand p l e R s m args below meth c T locs cells slots) (K : OCx p s m meth c Z own nm bytes maxL ret) {x y : Int64} (hd : decode bytes pc = .ok (.lor, 1)) (pc' : Nat) (hp : pc + 1 = pc') (hr : OGo p e below Fn n0 Q (T.setTop (mkF m pc' Ls (.long (x ||| y) :: St)))) : OGo p e below Fn n0 Q (T.setTop (mkF m pc Ls (.long y :: .long x :: St))) := by
  subst hp
  exact OGo.st (fun _ k => XS.lor X.here K.hx rfl (hb K.hby hd) rfl k) hr
theorem o_lxor (X : Stand p l e R s m args below meth c T locs cells slots) (K : OCx p s m meth c Z own nm bytes maxL ret) {x y : Int64} (hd : decode bytes pc = .ok (.lxor, 1)) (pc' : Nat) (hp : pc + 1 = pc') (hr : OGo p e below Fn n0 Q (T.setTop (mkF m pc' Ls (.long (x ^^^ y) :: St)))) : OGo p e below Fn n0 Q (T.setTop (mkF m pc Ls (.long y :: .long x :: St))) := by
  subst hp
  exact OGo.st (fun _ k => XS.lxor X.here K.hx rfl (hb K.hby hd) rfl k) hr
theorem o_lshl (X : Stand p l e R s m args below meth c T locs cells slots) (K : OCx p s m meth c Z own nm bytes maxL ret) {x : Int64} {y : Int32} (hd : decode bytes pc = .ok (.lshl, 1)) (pc' : Nat) (hp : pc + 1 = pc') (hr : OGo p e below Fn n0 Q (T.setTop (mkF m pc' Ls (.long (x <<< (y &&& 0x3f).toInt64) :: St)))) : OGo p e below Fn n0 Q (T.setTop (mkF m pc Ls (.int y :: .long x :: St))) := by
  subst hp
  exact OGo.st (fun _ k => XS.lshl X.here K.hx rfl (hb K.hby hd) rfl k) hr
theorem o_lshr (X : Stand p l e R s m args below meth c T locs cells slots) (K : OCx p s m meth c Z own nm bytes maxL ret) {x : Int64} {y : Int32} (hd : decode bytes pc = .ok (.lshr, 1)) (pc' : Nat) (hp : pc + 1 = pc') (hr : OGo p e below Fn n0 Q (T.setTop (mkF m pc' Ls (.long (x >>> (y &&& 0x3f).toInt64) :: St)))) : OGo p e below Fn n0 Q (T.setTop (mkF m pc Ls (.int y :: .long x :: St))) := by
  subst hp
  exact OGo.st (fun _ k => XS.lshr X.here K.hx rfl (hb K.hby hd) rfl k) hr
theorem o_lushr (X : Stand p l e R s m args below meth c T locs cells slots) (K : OCx p s m meth c Z own nm bytes maxL ret) {x : Int64} {y : Int32} (hd : decode bytes pc = .ok (.lushr, 1)) (pc' : Nat) (hp : pc + 1 = pc') (hr : OGo p e below Fn n0 Q (T.setTop (mkF m pc' Ls (.long ((x.toUInt64 >>> (y &&& 0x3f).toInt64.toUInt64).toInt64) :: St)))) : OGo p e below Fn n0 Q (T.setTop (mkF m pc Ls (.int y :: .long x :: St))) := by
  subst hp
  exact OGo.st (fun _ k => XS.lushr X.here K.hx rfl (hb K.hby hd) rfl k) hr
theorem o_ldiv (X : Stand p l e R s m args below meth c T locs cells slots) (K : OCx p s m meth c Z own nm bytes maxL ret) {x y : Int64} (hd : decode bytes pc = .ok (.ldiv, 1)) (pc' : Nat) (hp : pc + 1 = pc') (hy : y ≠ 0) (hr : OGo p e below Fn n0 Q (T.setTop (mkF m pc' Ls (.long (x / y) :: St)))) : OGo p e below Fn n0 Q (T.setTop (mkF m pc Ls (.long y :: .long x :: St))) := by
  subst hp
  exact OGo.st (fun _ k => XS.ldiv X.here K.hx rfl (hb K.hby hd) rfl hy k) hr
theorem o_idiv (X : Stand p l e R s m args below meth c T locs cells slots) (K : OCx p s m meth c Z own nm bytes maxL ret) {x y : Int32} (hd : decode bytes pc = .ok (.idiv, 1)) (pc' : Nat) (hp : pc + 1 = pc') (hy : y ≠ 0) (hr : OGo p e below Fn n0 Q (T.setTop (mkF m pc' Ls (.int (x / y) :: St)))) : OGo p e below Fn n0 Q (T.setTop (mkF m pc Ls (.int y :: .int x :: St))) := by
  subst hp
  exact OGo.st (fun _ k => XS.idiv X.here K.hx rfl (hb K.hby hd) rfl hy k) hr
theorem o_irem (X : Stand p l e R s m args below meth c T locs cells slots) (K : OCx p s m meth c Z own nm bytes maxL ret) {x y : Int32} (hd : decode bytes pc = .ok (.irem, 1)) (pc' : Nat) (hp : pc + 1 = pc') (hy : y ≠ 0) (hr : OGo p e below Fn n0 Q (T.setTop (mkF m pc' Ls (.int (x % y) :: St)))) : OGo p e below Fn n0 Q (T.setTop (mkF m pc Ls (.int y :: .int x :: St))) := by
  subst hp
  exact OGo.st (fun _ k => iremM X K.hx rfl (hb K.hby hd) rfl hy k) hr
theorem o_ineg (X : Stand p l e R s m args below meth c T locs cells slots) (K : OCx p s m meth c Z own nm bytes maxL ret) {x : Int32} (hd : decode bytes pc = .ok (.ineg, 1)) (pc' : Nat) (hp : pc + 1 = pc') (hr : OGo p e below Fn n0 Q (T.setTop (mkF m pc' Ls (.int (-x) :: St)))) : OGo p e below Fn n0 Q (T.setTop (mkF m pc Ls (.int x :: St))) := by
  subst hp
  exact OGo.st (fun _ k => XS.ineg X.here K.hx rfl (hb K.hby hd) rfl k) hr
theorem o_lneg (X : Stand p l e R s m args below meth c T locs cells slots) (K : OCx p s m meth c Z own nm bytes maxL ret) {x : Int64} (hd : decode bytes pc = .ok (.lneg, 1)) (pc' : Nat) (hp : pc + 1 = pc') (hr : OGo p e below Fn n0 Q (T.setTop (mkF m pc' Ls (.long (-x) :: St)))) : OGo p e below Fn n0 Q (T.setTop (mkF m pc Ls (.long x :: St))) := by
  subst hp
  exact OGo.st (fun _ k => XS.lneg X.here K.hx rfl (hb K.hby hd) rfl k) hr
theorem o_i2b (X : Stand p l e R s m args below meth c T locs cells slots) (K : OCx p s m meth c Z own nm bytes maxL ret) {x : Int32} (hd : decode bytes pc = .ok (.i2b, 1)) (pc' : Nat) (hp : pc + 1 = pc') (hr : OGo p e below Fn n0 Q (T.setTop (mkF m pc' Ls (.int (x.toInt8.toInt32) :: St)))) : OGo p e below Fn n0 Q (T.setTop (mkF m pc Ls (.int x :: St))) := by
  subst hp
  exact OGo.st (fun _ k => XS.i2b X.here K.hx rfl (hb K.hby hd) rfl k) hr
theorem o_i2c (X : Stand p l e R s m args below meth c T locs cells slots) (K : OCx p s m meth c Z own nm bytes maxL ret) {x : Int32} (hd : decode bytes pc = .ok (.i2c, 1)) (pc' : Nat) (hp : pc + 1 = pc') (hr : OGo p e below Fn n0 Q (T.setTop (mkF m pc' Ls (.int (x.toUInt32.toUInt16.toUInt32.toInt32) :: St)))) : OGo p e below Fn n0 Q (T.setTop (mkF m pc Ls (.int x :: St))) := by
  subst hp
  exact OGo.st (fun _ k => XS.i2c X.here K.hx rfl (hb K.hby hd) rfl k) hr
theorem o_i2s (X : Stand p l e R s m args below meth c T locs cells slots) (K : OCx p s m meth c Z own nm bytes maxL ret) {x : Int32} (hd : decode bytes pc = .ok (.i2s, 1)) (pc' : Nat) (hp : pc + 1 = pc') (hr : OGo p e below Fn n0 Q (T.setTop (mkF m pc' Ls (.int (x.toInt16.toInt32) :: St)))) : OGo p e below Fn n0 Q (T.setTop (mkF m pc Ls (.int x :: St))) := by
  subst hp
  exact OGo.st (fun _ k => XS.i2s X.here K.hx rfl (hb K.hby hd) rfl k) hr
theorem o_i2l (X : Stand p l e R s m args below meth c T locs cells slots) (K : OCx p s m meth c Z own nm bytes maxL ret) {x : Int32} (hd : decode bytes pc = .ok (.i2l, 1)) (pc' : Nat) (hp : pc + 1 = pc') (hr : OGo p e below Fn n0 Q (T.setTop (mkF m pc' Ls (.long (x.toInt64) :: St)))) : OGo p e below Fn n0 Q (T.setTop (mkF m pc Ls (.int x :: St))) := by
  subst hp
  exact OGo.st (fun _ k => XS.i2l X.here K.hx rfl (hb K.hby hd) rfl k) hr
theorem o_l2i (X : Stand p l e R s m args below meth c T locs cells slots) (K : OCx p s m meth c Z own nm bytes maxL ret) {x : Int64} (hd : decode bytes pc = .ok (.l2i, 1)) (pc' : Nat) (hp : pc + 1 = pc') (hr : OGo p e below Fn n0 Q (T.setTop (mkF m pc' Ls (.int (x.toInt32) :: St)))) : OGo p e below Fn n0 Q (T.setTop (mkF m pc Ls (.long x :: St))) := by
  subst hp
  exact OGo.st (fun _ k => XS.l2i X.here K.hx rfl (hb K.hby hd) rfl k) hr
theorem o_lcmp (X : Stand p l e R s m args below meth c T locs cells slots) (K : OCx p s m meth c Z own nm bytes maxL ret) {x y : Int64} (hd : decode bytes pc = .ok (.lcmp, 1)) (pc' : Nat) (hp : pc + 1 = pc') (hr : OGo p e below Fn n0 Q (T.setTop (mkF m pc' Ls (.int (lcmpW x y) :: St)))) : OGo p e below Fn n0 Q (T.setTop (mkF m pc Ls (.long y :: .long x :: St))) := by
  subst hp
  exact OGo.st (fun _ k => XS.lcmp X.here K.hx rfl (hb K.hby hd) rfl k) hr
theorem o_dup (X : Stand p l e R s m args below meth c T locs cells slots) (K : OCx p s m meth c Z own nm bytes maxL ret) {x : Value} (hd : decode bytes pc = .ok (.dup, 1)) (pc' : Nat) (hp : pc + 1 = pc') (hc : x.category = 1) (hr : OGo p e below Fn n0 Q (T.setTop (mkF m pc' Ls (x :: x :: St)))) : OGo p e below Fn n0 Q (T.setTop (mkF m pc Ls (x :: St))) := by
  subst hp
  exact OGo.st (fun _ k => XS.dup X.here K.hx rfl (hb K.hby hd) rfl hc k) hr
theorem o_pop (X : Stand p l e R s m args below meth c T locs cells slots) (K : OCx p s m meth c Z own nm bytes maxL ret) {x : Value} (hd : decode bytes pc = .ok (.pop, 1)) (pc' : Nat) (hp : pc + 1 = pc') (hc : x.category = 1) (hr : OGo p e below Fn n0 Q (T.setTop (mkF m pc' Ls St))) : OGo p e below Fn n0 Q (T.setTop (mkF m pc Ls (x :: St))) := by
  subst hp
  exact OGo.st (fun _ k => XS.pop X.here K.hx rfl (hb K.hby hd) rfl hc k) hr
theorem o_dupX1 (X : Stand p l e R s m args below meth c T locs cells slots) (K : OCx p s m meth c Z own nm bytes maxL ret) {x y : Value} (hd : decode bytes pc = .ok (.dup_x1, 1)) (pc' : Nat) (hp : pc + 1 = pc') (hc : x.category = 1) (hc' : y.category = 1) (hr : OGo p e below Fn n0 Q (T.setTop (mkF m pc' Ls (x :: y :: x :: St)))) : OGo p e below Fn n0 Q (T.setTop (mkF m pc Ls (x :: y :: St))) := by
  subst hp
  exact OGo.st (fun _ k => XS.dupX1 X.here K.hx rfl (hb K.hby hd) rfl hc hc' k) hr
theorem o_dup2 (X : Stand p l e R s m args below meth c T locs cells slots) (K : OCx p s m meth c Z own nm bytes maxL ret) {x y : Value} (hd : decode bytes pc = .ok (.dup2, 1)) (pc' : Nat) (hp : pc + 1 = pc') (hc : x.category = 1) (hc' : y.category = 1) (hr : OGo p e below Fn n0 Q (T.setTop (mkF m pc' Ls (x :: y :: x :: y :: St)))) : OGo p e below Fn n0 Q (T.setTop (mkF m pc Ls (x :: y :: St))) := by
  subst hp
  exact OGo.st (fun _ k => Jvm.Free.XT.dup2 X.here K.hx rfl (hb K.hby hd) rfl hc hc' k) hr
theorem o_dup2L (X : Stand p l e R s m args below meth c T locs cells slots) (K : OCx p s m meth c Z own nm bytes maxL ret) {x : Int64} (hd : decode bytes pc = .ok (.dup2, 1)) (pc' : Nat) (hp : pc + 1 = pc') (hr : OGo p e below Fn n0 Q (T.setTop (mkF m pc' Ls (.long x :: .long x :: St)))) : OGo p e below Fn n0 Q (T.setTop (mkF m pc Ls (.long x :: St))) := by
  subst hp
  exact OGo.st (fun _ k => Jvm.Free.XT.dup2L X.here K.hx rfl (hb K.hby hd) rfl k) hr
theorem o_goto (X : Stand p l e R s m args below meth c T locs cells slots) (K : OCx p s m meth c Z own nm bytes maxL ret) {o : Int} (hd : decode bytes pc = .ok (.goto o, 3)) (pc' : Nat) (ho : 0 ≤ (pc : Int) + o) (hp : ((pc : Int) + o).toNat = pc') (hr : OGo p e below Fn n0 Q (T.setTop (mkF m pc' Ls St))) : OGo p e below Fn n0 Q (T.setTop (mkF m pc Ls St)) :=
  OGo.st (fun _ k => XS.goto X.here K.hx rfl (pc0 := pc) rfl (hb K.hby hd) ho hp k) hr
theorem o_icmp_lt_t (X : Stand p l e R s m args below meth c T locs cells slots) (K : OCx p s m meth c Z own nm bytes maxL ret) {x y : Int32} {o : Int} (hd : decode bytes pc = .ok (.if_icmp .lt o, 3)) (pt : Nat) (ho : 0 ≤ (pc : Int) + o) (hp : ((pc : Int) + o).toNat = pt) (q : x.toInt < y.toInt) (hr : OGo p e below Fn n0 Q (T.setTop (mkF m pt Ls St))) : OGo p e below Fn n0 Q (T.setTop (mkF m pc Ls (.int y :: .int x :: St))) :=
  OGo.st (fun _ k => XS.icmpYes X.here K.hx rfl (pc0 := pc) rfl (hb K.hby hd) rfl ((tlt (Int32.lt_iff_toInt_lt.mpr q)).1) ho hp k) hr
theorem o_icmp_lt_f (X : Stand p l e R s m args below meth c T locs cells slots) (K : OCx p s m meth c Z own nm bytes maxL ret) {x y : Int32} {o : Int} (hd : decode bytes pc = .ok (.if_icmp .lt o, 3)) (pc' : Nat) (hp : pc + 3 = pc') (q : y.toInt ≤ x.toInt) (hr : OGo p e below Fn n0 Q (T.setTop (mkF m pc' Ls St))) : OGo p e below Fn n0 Q (T.setTop (mkF m pc Ls (.int y :: .int x :: St))) := by
  subst hp
  exact OGo.st (fun _ k => XS.icmpNo X.here K.hx rfl (hb K.hby hd) rfl ((flt (fun r => Int.not_lt.mpr q (Int32.lt_iff_toInt_lt.mp r))).1) k) hr
theorem o_icmp_lt (X : Stand p l e R s m args below meth c T locs cells slots) (K : OCx p s m meth c Z own nm bytes maxL ret) {x y : Int32} {o : Int} (hd : decode bytes pc = .ok (.if_icmp .lt o, 3)) (pt : Nat) (ho : 0 ≤ (pc : Int) + o) (hp : ((pc : Int) + o).toNat = pt) (pc' : Nat) (hp' : pc + 3 = pc') (h1 : x.toInt < y.toInt → OGo p e below Fn n0 Q (T.setTop (mkF m pt Ls St))) (h2 : y.toInt ≤ x.toInt → OGo p e below Fn n0 Q (T.setTop (mkF m pc' Ls St))) : OGo p e below Fn n0 Q (T.setTop (mkF m pc Ls (.int y :: .int x :: St))) :=
  (Classical.em (x.toInt < y.toInt)).elim (fun q => o_icmp_lt_t X K hd pt ho hp q (h1 q)) (fun q => o_icmp_lt_f X K hd pc' hp' (Int.not_lt.mp q) (h2 (Int.not_lt.mp q)))
theorem o_if_lt_t (X : Stand p l e R s m args below meth c T locs cells slots) (K : OCx p s m meth c Z own nm bytes maxL ret) {x : Int32} {o : Int} (hd : decode bytes pc = .ok (.ifCond .lt o, 3)) (pt : Nat) (ho : 0 ≤ (pc : Int) + o) (hp : ((pc : Int) + o).toNat = pt) (q : x.toInt < 0) (hr : OGo p e below Fn n0 Q (T.setTop (mkF m pt Ls St))) : OGo p e below Fn n0 Q (T.setTop (mkF m pc Ls (.int x :: St))) :=
  OGo.st (fun _ k => XS.ifYes X.here K.hx rfl (pc0 := pc) rfl (hb K.hby hd) rfl ((if0 _ _).trans (tlt (Int32.lt_iff_toInt_lt.mpr (show x.toInt < (0 : Int32).toInt from q))).1) ho hp k) hr
theorem o_if_lt_f (X : Stand p l e R s m args below meth c T locs cells slots) (K : OCx p s m meth c Z own nm bytes maxL ret) {x : Int32} {o : Int} (hd : decode bytes pc = .ok (.ifCond .lt o, 3)) (pc' : Nat) (hp : pc + 3 = pc') (q : 0 ≤ x.toInt) (hr : OGo p e below Fn n0 Q (T.setTop (mkF m pc' Ls St))) : OGo p e below Fn n0 Q (T.setTop (mkF m pc Ls (.int x :: St))) := by
  subst hp
  exact OGo.st (fun _ k => XS.ifNo X.here K.hx rfl (hb K.hby hd) rfl ((if0 _ _).trans (flt (fun r => Int.not_lt.mpr (show (0 : Int32).toInt ≤ x.toInt from q) (Int32.lt_iff_toInt_lt.mp r))).1) k) hr
theorem o_if_lt (X : Stand p l e R s m args below meth c T locs cells slots) (K : OCx p s m meth c Z own nm bytes maxL ret) {x : Int32} {o : Int} (hd : decode bytes pc = .ok (.ifCond .lt o, 3)) (pt : Nat) (ho : 0 ≤ (pc : Int) + o) (hp : ((pc : Int) + o).toNat = pt) (pc' : Nat) (hp' : pc + 3 = pc') (h1 : x.toInt < 0 → OGo p e below Fn n0 Q (T.setTop (mkF m pt Ls St))) (h2 : 0 ≤ x.toInt → OGo p e below Fn n0 Q (T.setTop (mkF m pc' Ls St))) : OGo p e below Fn n0 Q (T.setTop (mkF m pc Ls (.int x :: St))) :=
  (Classical.em (x.toInt < 0)).elim (fun q => o_if_lt_t X K hd pt ho hp q (h1 q)) (fun q => o_if_lt_f X K hd pc' hp' (Int.not_lt.mp q) (h2 (Int.not_lt.mp q)))
theorem o_icmp_ge_t (X : Stand p l e R s m args below meth c T locs cells slots) (K : OCx p s m meth c Z own nm bytes maxL ret) {x y : Int32} {o : Int} (hd : decode bytes pc = .ok (.if_icmp .ge o, 3)) (pt : Nat) (ho : 0 ≤ (pc : Int) + o) (hp : ((pc : Int) + o).toNat = pt) (q : y.toInt ≤ x.toInt) (hr : OGo p e below Fn n0 Q (T.setTop (mkF m pt Ls St))) : OGo p e below Fn n0 Q (T.setTop (mkF m pc Ls (.int y :: .int x :: St))) :=
  OGo.st (fun _ k => XS.icmpYes X.here K.hx rfl (pc0 := pc) rfl (hb K.hby hd) rfl ((flt (fun r => Int.not_lt.mpr q (Int32.lt_iff_toInt_lt.mp r))).2.1) ho hp k) hr
theorem o_icmp_ge_f (X : Stand p l e R s m args below meth c T locs cells slots) (K : OCx p s m meth c Z own nm bytes maxL ret) {x y : Int32} {o : Int} (hd : decode bytes pc = .ok (.if_icmp .ge o, 3)) (pc' : Nat) (hp : pc + 3 = pc') (q : x.toInt < y.toInt) (hr : OGo p e below Fn n0 Q (T.setTop (mkF m pc' Ls St))) : OGo p e below Fn n0 Q (T.setTop (mkF m pc Ls (.int y :: .int x :: St))) := by
  subst hp
  exact OGo.st (fun _ k => XS.icmpNo X.here K.hx rfl (hb K.hby hd) rfl ((tlt (Int32.lt_iff_toInt_lt.mpr q)).2.1) k) hr
theorem o_icmp_ge (X : Stand p l e R s m args below meth c T locs cells slots) (K : OCx p s m meth c Z own nm bytes maxL ret) {x y : Int32} {o : Int} (hd : decode bytes pc = .ok (.if_icmp .ge o, 3)) (pt : Nat) (ho : 0 ≤ (pc : Int) + o) (hp : ((pc : Int) + o).toNat = pt) (pc' : Nat) (hp' : pc + 3 = pc') (h1 : y.toInt ≤ x.toInt → OGo p e below Fn n0 Q (T.setTop (mkF m pt Ls St))) (h2 : x.toInt < y.toInt → OGo p e below Fn n0 Q (T.setTop (mkF m pc' Ls St))) : OGo p e below Fn n0 Q (T.setTop (mkF m pc Ls (.int y :: .int x :: St))) :=
  (Classical.em (y.toInt ≤ x.toInt)).elim (fun q => o_icmp_ge_t X K hd pt ho hp q (h1 q)) (fun q => o_icmp_ge_f X K hd pc' hp' (Int.not_le.mp q) (h2 (Int.not_le.mp q)))
theorem o_if_ge_t (X : Stand p l e R s m args below meth c T locs cells slots) (K : OCx p s m meth c Z own nm bytes maxL ret) {x : Int32} {o : Int} (hd : decode bytes pc = .ok (.ifCond .ge o, 3)) (pt : Nat) (ho : 0 ≤ (pc : Int) + o) (hp : ((pc : Int) + o).toNat = pt) (q : 0 ≤ x.toInt) (hr : OGo p e below Fn n0 Q (T.setTop (mkF m pt Ls St))) : OGo p e below Fn n0 Q (T.setTop (mkF m pc Ls (.int x :: St))) :=
  OGo.st (fun _ k => XS.ifYes X.here K.hx rfl (pc0 := pc) rfl (hb K.hby hd) rfl ((if0 _ _).trans (flt (fun r => Int.not_lt.mpr (show (0 : Int32).toInt ≤ x.toInt from q) (Int32.lt_iff_toInt_lt.mp r))).2.1) ho hp k) hr
theorem o_if_ge_f (X : Stand p l e R s m args below meth c T locs cells slots) (K : OCx p s m meth c Z own nm bytes maxL ret) {x : Int32} {o : Int} (hd : decode bytes pc = .ok (.ifCond .ge o, 3)) (pc' : Nat) (hp : pc + 3 = pc') (q : x.toInt < 0) (hr : OGo p e below Fn n0 Q (T.setTop (mkF m pc' Ls St))) : OGo p e below Fn n0 Q (T.setTop (mkF m pc Ls (.int x :: St))) := by
  subst hp
  exact OGo.st (fun _ k => XS.ifNo X.here K.hx rfl (hb K.hby hd) rfl ((if0 _ _).trans (tlt (Int32.lt_iff_toInt_lt.mpr (show x.toInt < (0 : Int32).toInt from q))).2.1) k) hr
theorem o_if_ge (X : Stand p l e R s m args below meth c T locs cells slots) (K : OCx p s m meth c Z own nm bytes maxL ret) {x : Int32} {o : Int} (hd : decode bytes pc = .ok (.ifCond .ge o, 3)) (pt : Nat) (ho : 0 ≤ (pc : Int) + o) (hp : ((pc : Int) + o).toNat = pt) (pc' : Nat) (hp' : pc + 3 = pc') (h1 : 0 ≤ x.toInt → OGo p e below Fn n0 Q (T.setTop (mkF m pt Ls St))) (h2 : x.toInt < 0 → OGo p e below Fn n0 Q (T.setTop (mkF m pc' Ls St))) : OGo p e below Fn n0 Q (T.setTop (mkF m pc Ls (.int x :: St))) :=
  (Classical.em (0 ≤ x.toInt)).elim (fun q => o_if_ge_t X K hd pt ho hp q (h1 q)) (fun q => o_if_ge_f X K hd pc' hp' (Int.not_le.mp q) (h2 (Int.not_le.mp q)))
theorem o_icmp_gt_t (X : Stand p l e R s m args below meth c T locs cells slots) (K : OCx p s m meth c Z own nm bytes maxL ret) {x y : Int32} {o : Int} (hd : decode bytes pc = .ok (.if_icmp .gt o, 3)) (pt : Nat) (ho : 0 ≤ (pc : Int) + o) (hp : ((pc : Int) + o).toNat = pt) (q : y.toInt < x.toInt) (hr : OGo p e below Fn n0 Q (T.setTop (mkF m pt Ls St))) : OGo p e below Fn n0 Q (T.setTop (mkF m pc Ls (.int y :: .int x :: St))) :=
  OGo.st (fun _ k => XS.icmpYes X.here K.hx rfl (pc0 := pc) rfl (hb K.hby hd) rfl ((tlt (Int32.lt_iff_toInt_lt.mpr q)).2.2.1) ho hp k) hr
theorem o_icmp_gt_f (X : Stand p l e R s m args below meth c T locs cells slots) (K : OCx p s m meth c Z own nm bytes maxL ret) {x y : Int32} {o : Int} (hd : decode bytes pc = .ok (.if_icmp .gt o, 3)) (pc' : Nat) (hp : pc + 3 = pc') (q : x.toInt ≤ y.toInt) (hr : OGo p e below Fn n0 Q (T.setTop (mkF m pc' Ls St))) : OGo p e below Fn n0 Q (T.setTop (mkF m pc Ls (.int y :: .int x :: St))) := by
  subst hp
  exact OGo.st (fun _ k => XS.icmpNo X.here K.hx rfl (hb K.hby hd) rfl ((flt (fun r => Int.not_lt.mpr q (Int32.lt_iff_toInt_lt.mp r))).2.2.1) k) hr
theorem o_icmp_gt (X : Stand p l e R s m args below meth c T locs cells slots) (K : OCx p s m meth c Z own nm bytes maxL ret) {x y : Int32} {o : Int} (hd : decode bytes pc = .ok (.if_icmp .gt o, 3)) (pt : Nat) (ho : 0 ≤ (pc : Int) + o) (hp : ((pc : Int) + o).toNat = pt) (pc' : Nat) (hp' : pc + 3 = pc') (h1 : y.toInt < x.toInt → OGo p e below Fn n0 Q (T.setTop (mkF m pt Ls St))) (h2 : x.toInt ≤ y.toInt → OGo p e below Fn n0 Q (T.setTop (mkF m pc' Ls St))) : OGo p e below Fn n0 Q (T.setTop (mkF m pc Ls (.int y :: .int x :: St))) :=
  (Classical.em (y.toInt < x.toInt)).elim (fun q => o_icmp_gt_t X K hd pt ho hp q (h1 q)) (fun q => o_icmp_gt_f X K hd pc' hp' (Int.not_lt.mp q) (h2 (Int.not_lt.mp q)))
theorem o_if_gt_t (X : Stand p l e R s m args below meth c T locs cells slots) (K : OCx p s m meth c Z own nm bytes maxL ret) {x : Int32} {o : Int} (hd : decode bytes pc = .ok (.ifCond .gt o, 3)) (pt : Nat) (ho : 0 ≤ (pc : Int) + o) (hp : ((pc : Int) + o).toNat = pt) (q : 0 < x.toInt) (hr : OGo p e below Fn n0 Q (T.setTop (mkF m pt Ls St))) : OGo p e below Fn n0 Q (T.setTop (mkF m pc Ls (.int x :: St))) :=
  OGo.st (fun _ k => XS.ifYes X.here K.hx rfl (pc0 := pc) rfl (hb K.hby hd) rfl ((if0 _ _).trans (tlt (Int32.lt_iff_toInt_lt.mpr (show (0 : Int32).toInt < x.toInt from q))).2.2.1) ho hp k) hr
theorem o_if_gt_f (X : Stand p l e R s m args below meth c T locs cells slots) (K : OCx p s m meth c Z own nm bytes maxL ret) {x : Int32} {o : Int} (hd : decode bytes pc = .ok (.ifCond .gt o, 3)) (pc' : Nat) (hp : pc + 3 = pc') (q : x.toInt ≤ 0) (hr : OGo p e below Fn n0 Q (T.setTop (mkF m pc' Ls St))) : OGo p e below Fn n0 Q (T.setTop (mkF m pc Ls (.int x :: St))) := by
  subst hp
  exact OGo.st (fun _ k => XS.ifNo X.here K.hx rfl (hb K.hby hd) rfl ((if0 _ _).trans (flt (fun r => Int.not_lt.mpr (show x.toInt ≤ (0 : Int32).toInt from q) (Int32.lt_iff_toInt_lt.mp r))).2.2.1) k) hr
theorem o_if_gt (X : Stand p l e R s m args below meth c T locs cells slots) (K : OCx p s m meth c Z own nm bytes maxL ret) {x : Int32} {o : Int} (hd : decode bytes pc = .ok (.ifCond .gt o, 3)) (pt : Nat) (ho : 0 ≤ (pc : Int) + o) (hp : ((pc : Int) + o).toNat = pt) (pc' : Nat) (hp' : pc + 3 = pc') (h1 : 0 < x.toInt → OGo p e below Fn n0 Q (T.setTop (mkF m pt Ls St))) (h2 : x.toInt ≤ 0 → OGo p e below Fn n0 Q (T.setTop (mkF m pc' Ls St))) : OGo p e below Fn n0 Q (T.setTop (mkF m pc Ls (.int x :: St))) :=
  (Classical.em (0 < x.toInt)).elim (fun q => o_if_gt_t X K hd pt ho hp q (h1 q)) (fun q => o_if_gt_f X K hd pc' hp' (Int.not_lt.mp q) (h2 (Int.not_lt.mp q)))
theorem o_icmp_le_t (X : Stand p l e R s m args below meth c T locs cells slots) (K : OCx p s m meth c Z own nm bytes maxL ret) {x y : Int32} {o : Int} (hd : decode bytes pc = .ok (.if_icmp .le o, 3)) (pt : Nat) (ho : 0 ≤ (pc : Int) + o) (hp : ((pc : Int) + o).toNat = pt) (q : x.toInt ≤ y.toInt) (hr : OGo p e below Fn n0 Q (T.setTop (mkF m pt Ls St))) : OGo p e below Fn n0 Q (T.setTop (mkF m pc Ls (.int y :: .int x :: St))) :=
  OGo.st (fun _ k => XS.icmpYes X.here K.hx rfl (pc0 := pc) rfl (hb K.hby hd) rfl ((flt (fun r => Int.not_lt.mpr q (Int32.lt_iff_toInt_lt.mp r))).2.2.2) ho hp k) hr
theorem o_icmp_le_f (X : Stand p l e R s m args below meth c T locs cells slots) (K : OCx p s m meth c Z own nm bytes maxL ret) {x y : Int32} {o : Int} (hd : decode bytes pc = .ok (.if_icmp .le o, 3)) (pc' : Nat) (hp : pc + 3 = pc') (q : y.toInt < x.toInt) (hr : OGo p e below Fn n0 Q (T.setTop (mkF m pc' Ls St))) : OGo p e below Fn n0 Q (T.setTop (mkF m pc Ls (.int y :: .int x :: St))) := by
  subst hp
  exact OGo.st (fun _ k => XS.icmpNo X.here K.hx rfl (hb K.hby hd) rfl ((tlt (Int32.lt_iff_toInt_lt.mpr q)).2.2.2) k) hr
theorem o_icmp_le (X : Stand p l e R s m args below meth c T locs cells slots) (K : OCx p s m meth c Z own nm bytes maxL ret) {x y : Int32} {o : Int} (hd : decode bytes pc = .ok (.if_icmp .le o, 3)) (pt : Nat) (ho : 0 ≤ (pc : Int) + o) (hp : ((pc : Int) + o).toNat = pt) (pc' : Nat) (hp' : pc + 3 = pc') (h1 : x.toInt ≤ y.toInt → OGo p e below Fn n0 Q (T.setTop (mkF m pt Ls St))) (h2 : y.toInt < x.toInt → OGo p e below Fn n0 Q (T.setTop (mkF m pc' Ls St))) : OGo p e below Fn n0 Q (T.setTop (mkF m pc Ls (.int y :: .int x :: St))) :=
  (Classical.em (x.toInt ≤ y.toInt)).elim (fun q => o_icmp_le_t X K hd pt ho hp q (h1 q)) (fun q => o_icmp_le_f X K hd pc' hp' (Int.not_le.mp q) (h2 (Int.not_le.mp q)))
theorem o_if_le_t (X : Stand p l e R s m args below meth c T locs cells slots) (K : OCx p s m meth c Z own nm bytes maxL ret) {x : Int32} {o : Int} (hd : decode bytes pc = .ok (.ifCond .le o, 3)) (pt : Nat) (ho : 0 ≤ (pc : Int) + o) (hp : ((pc : Int) + o).toNat = pt) (q : x.toInt ≤ 0) (hr : OGo p e below Fn n0 Q (T.setTop (mkF m pt Ls St))) : OGo p e below Fn n0 Q (T.setTop (mkF m pc Ls (.int x :: St))) :=
  OGo.st (fun _ k => XS.ifYes X.here K.hx rfl (pc0 := pc) rfl (hb K.hby hd) rfl ((if0 _ _).trans (flt (fun r => Int.not_lt.mpr (show x.toInt ≤ (0 : Int32).toInt from q) (Int32.lt_iff_toInt_lt.mp r))).2.2.2) ho hp k) hr
theorem o_if_le_f (X : Stand p l e R s m args below meth c T locs cells slots) (K : OCx p s m meth c Z own nm bytes maxL ret) {x : Int32} {o : Int} (hd : decode bytes pc = .ok (.ifCond .le o, 3)) (pc' : Nat) (hp : pc + 3 = pc') (q : 0 < x.toInt) (hr : OGo p e below Fn n0 Q (T.setTop (mkF m pc' Ls St))) : OGo p e below Fn n0 Q (T.setTop (mkF m pc Ls (.int x :: St))) := by
  subst hp
  exact OGo.st (fun _ k => XS.ifNo X.here K.hx rfl (hb K.hby hd) rfl ((if0 _ _).trans (tlt (Int32.lt_iff_toInt_lt.mpr (show (0 : Int32).toInt < x.toInt from q))).2.2.2) k) hr
theorem o_if_le (X : Stand p l e R s m args below meth c T locs cells slots) (K : OCx p s m meth c Z own nm bytes maxL ret) {x : Int32} {o : Int} (hd : decode bytes pc = .ok (.ifCond .le o, 3)) (pt : Nat) (ho : 0 ≤ (pc : Int) + o) (hp : ((pc : Int) + o).toNat = pt) (pc' : Nat) (hp' : pc + 3 = pc') (h1 : x.toInt ≤ 0 → OGo p e below Fn n0 Q (T.setTop (mkF m pt Ls St))) (h2 : 0 < x.toInt → OGo p e below Fn n0 Q (T.setTop (mkF m pc' Ls St))) : OGo p e below Fn n0 Q (T.setTop (mkF m pc Ls (.int x :: St))) :=
  (Classical.em (x.toInt ≤ 0)).elim (fun q => o_if_le_t X K hd pt ho hp q (h1 q)) (fun q => o_if_le_f X K hd pc' hp' (Int.not_le.mp q) (h2 (Int.not_le.mp q)))
theorem o_icmp_eq_t (X : Stand p l e R s m args below meth c T locs cells slots) (K : OCx p s m meth c Z own nm bytes maxL ret) {x y : Int32} {o : Int} (hd : decode bytes pc = .ok (.if_icmp .eq o, 3)) (pt : Nat) (ho : 0 ≤ (pc : Int) + o) (hp : ((pc : Int) + o).toNat = pt) (q : x = y) (hr : OGo p e below Fn n0 Q (T.setTop (mkF m pt Ls St))) : OGo p e below Fn n0 Q (T.setTop (mkF m pc Ls (.int y :: .int x :: St))) :=
  OGo.st (fun _ k => XS.icmpYes X.here K.hx rfl (pc0 := pc) rfl (hb K.hby hd) rfl ((teq q).1) ho hp k) hr
theorem o_icmp_eq_f (X : Stand p l e R s m args below meth c T locs cells slots) (K : OCx p s m meth c Z own nm bytes maxL ret) {x y : Int32} {o : Int} (hd : decode bytes pc = .ok (.if_icmp .eq o, 3)) (pc' : Nat) (hp : pc + 3 = pc') (q : ¬ x = y) (hr : OGo p e below Fn n0 Q (T.setTop (mkF m pc' Ls St))) : OGo p e below Fn n0 Q (T.setTop (mkF m pc Ls (.int y :: .int x :: St))) := by
  subst hp
  exact OGo.st (fun _ k => XS.icmpNo X.here K.hx rfl (hb K.hby hd) rfl ((feq q).1) k) hr
theorem o_icmp_eq (X : Stand p l e R s m args below meth c T locs cells slots) (K : OCx p s m meth c Z own nm bytes maxL ret) {x y : Int32} {o : Int} (hd : decode bytes pc = .ok (.if_icmp .eq o, 3)) (pt : Nat) (ho : 0 ≤ (pc : Int) + o) (hp : ((pc : Int) + o).toNat = pt) (pc' : Nat) (hp' : pc + 3 = pc') (h1 : x = y → OGo p e below Fn n0 Q (T.setTop (mkF m pt Ls St))) (h2 : ¬ x = y → OGo p e below Fn n0 Q (T.setTop (mkF m pc' Ls St))) : OGo p e below Fn n0 Q (T.setTop (mkF m pc Ls (.int y :: .int x :: St))) :=
  (Classical.em (x = y)).elim (fun q => o_icmp_eq_t X K hd pt ho hp q (h1 q)) (fun q => o_icmp_eq_f X K hd pc' hp' (id q) (h2 (id q)))
theorem o_if_eq_t (X : Stand p l e R s m args below meth c T locs cells slots) (K : OCx p s m meth c Z own nm bytes maxL ret) {x : Int32} {o : Int} (hd : decode bytes pc = .ok (.ifCond .eq o, 3)) (pt : Nat) (ho : 0 ≤ (pc : Int) + o) (hp : ((pc : Int) + o).toNat = pt) (q : x = 0) (hr : OGo p e below Fn n0 Q (T.setTop (mkF m pt Ls St))) : OGo p e below Fn n0 Q (T.setTop (mkF m pc Ls (.int x :: St))) :=
  OGo.st (fun _ k => XS.ifYes X.here K.hx rfl (pc0 := pc) rfl (hb K.hby hd) rfl ((if0 _ _).trans (teq (show x = (0 : Int32) from q)).1) ho hp k) hr
theorem o_if_eq_f (X : Stand p l e R s m args below meth c T locs cells slots) (K : OCx p s m meth c Z own nm bytes maxL ret) {x : Int32} {o : Int} (hd : decode bytes pc = .ok (.ifCond .eq o, 3)) (pc' : Nat) (hp : pc + 3 = pc') (q : ¬ x = 0) (hr : OGo p e below Fn n0 Q (T.setTop (mkF m pc' Ls St))) : OGo p e below Fn n0 Q (T.setTop (mkF m pc Ls (.int x :: St))) := by
  subst hp
  exact OGo.st (fun _ k => XS.ifNo X.here K.hx rfl (hb K.hby hd) rfl ((if0 _ _).trans (feq (show ¬ x = (0 : Int32) from q)).1) k) hr
theorem o_if_eq (X : Stand p l e R s m args below meth c T locs cells slots) (K : OCx p s m meth c Z own nm bytes maxL ret) {x : Int32} {o : Int} (hd : decode bytes pc = .ok (.ifCond .eq o, 3)) (pt : Nat) (ho : 0 ≤ (pc : Int) + o) (hp : ((pc : Int) + o).toNat = pt) (pc' : Nat) (hp' : pc + 3 = pc') (h1 : x = 0 → OGo p e below Fn n0 Q (T.setTop (mkF m pt Ls St))) (h2 : ¬ x = 0 → OGo p e below Fn n0 Q (T.setTop (mkF m pc' Ls St))) : OGo p e below Fn n0 Q (T.setTop (mkF m pc Ls (.int x :: St))) :=
  (Classical.em (x = 0)).elim (fun q => o_if_eq_t X K hd pt ho hp q (h1 q)) (fun q => o_if_eq_f X K hd pc' hp' (id q) (h2 (id q)))
theorem o_icmp_ne_t (X : Stand p l e R s m args below meth c T locs cells slots) (K : OCx p s m meth c Z own nm bytes maxL ret) {x y : Int32} {o : Int} (hd : decode bytes pc = .ok (.if_icmp .ne o, 3)) (pt : Nat) (ho : 0 ≤ (pc : Int) + o) (hp : ((pc : Int) + o).toNat = pt) (q : ¬ x = y) (hr : OGo p e below Fn n0 Q (T.setTop (mkF m pt Ls St))) : OGo p e below Fn n0 Q (T.setTop (mkF m pc Ls (.int y :: .int x :: St))) :=
  OGo.st (fun _ k => XS.icmpYes X.here K.hx rfl (pc0 := pc) rfl (hb K.hby hd) rfl ((feq q).2) ho hp k) hr
theorem o_icmp_ne_f (X : Stand p l e R s m args below meth c T locs cells slots) (K : OCx p s m meth c Z own nm bytes maxL ret) {x y : Int32} {o : Int} (hd : decode bytes pc = .ok (.if_icmp .ne o, 3)) (pc' : Nat) (hp : pc + 3 = pc') (q : x = y) (hr : OGo p e below Fn n0 Q (T.setTop (mkF m pc' Ls St))) : OGo p e below Fn n0 Q (T.setTop (mkF m pc Ls (.int y :: .int x :: St))) := by
  subst hp
  exact OGo.st (fun _ k => XS.icmpNo X.here K.hx rfl (hb K.hby hd) rfl ((teq q).2) k) hr
theorem o_icmp_ne (X : Stand p l e R s m args below meth c T locs cells slots) (K : OCx p s m meth c Z own nm bytes maxL ret) {x y : Int32} {o : Int} (hd : decode bytes pc = .ok (.if_icmp .ne o, 3)) (pt : Nat) (ho : 0 ≤ (pc : Int) + o) (hp : ((pc : Int) + o).toNat = pt) (pc' : Nat) (hp' : pc + 3 = pc') (h1 : ¬ x = y → OGo p e below Fn n0 Q (T.setTop (mkF m pt Ls St))) (h2 : x = y → OGo p e below Fn n0 Q (T.setTop (mkF m pc' Ls St))) : OGo p e below Fn n0 Q (T.setTop (mkF m pc Ls (.int y :: .int x :: St))) :=
  (Classical.em (¬ x = y)).elim (fun q => o_icmp_ne_t X K hd pt ho hp q (h1 q)) (fun q => o_icmp_ne_f X K hd pc' hp' (Classical.not_not.mp q) (h2 (Classical.not_not.mp q)))
theorem o_if_ne_t (X : Stand p l e R s m args below meth c T locs cells slots) (K : OCx p s m meth c Z own nm bytes maxL ret) {x : Int32} {o : Int} (hd : decode bytes pc = .ok (.ifCond .ne o, 3)) (pt : Nat) (ho : 0 ≤ (pc : Int) + o) (hp : ((pc : Int) + o).toNat = pt) (q : ¬ x = 0) (hr : OGo p e below Fn n0 Q (T.setTop (mkF m pt Ls St))) : OGo p e below Fn n0 Q (T.setTop (mkF m pc Ls (.int x :: St))) :=
  OGo.st (fun _ k => XS.ifYes X.here K.hx rfl (pc0 := pc) rfl (hb K.hby hd) rfl ((if0 _ _).trans (feq (show ¬ x = (0 : Int32) from q)).2) ho hp k) hr
theorem o_if_ne_f (X : Stand p l e R s m args below meth c T locs cells slots) (K : OCx p s m meth c Z own nm bytes maxL ret) {x : Int32} {o : Int} (hd : decode bytes pc = .ok (.ifCond .ne o, 3)) (pc' : Nat) (hp : pc + 3 = pc') (q : x = 0) (hr : OGo p e below Fn n0 Q (T.setTop (mkF m pc' Ls St))) : OGo p e below Fn n0 Q (T.setTop (mkF m pc Ls (.int x :: St))) := by
  subst hp
  exact OGo.st (fun _ k => XS.ifNo X.here K.hx rfl (hb K.hby hd) rfl ((if0 _ _).trans (teq (show x = (0 : Int32) from q)).2) k) hr
theorem o_if_ne (X : Stand p l e R s m args below meth c T locs cells slots) (K : OCx p s m meth c Z own nm bytes maxL ret) {x : Int32} {o : Int} (hd : decode bytes pc = .ok (.ifCond .ne o, 3)) (pt : Nat) (ho : 0 ≤ (pc : Int) + o) (hp : ((pc : Int) + o).toNat = pt) (pc' : Nat) (hp' : pc + 3 = pc') (h1 : ¬ x = 0 → OGo p e below Fn n0 Q (T.setTop (mkF m pt Ls St))) (h2 : x = 0 → OGo p e below Fn n0 Q (T.setTop (mkF m pc' Ls St))) : OGo p e below Fn n0 Q (T.setTop (mkF m pc Ls (.int x :: St))) :=
  (Classical.em (¬ x = 0)).elim (fun q => o_if_ne_t X K hd pt ho hp q (h1 q)) (fun q => o_if_ne_f X K hd pc' hp' (Classical.not_not.mp q) (h2 (Classical.not_not.mp q)))
theorem o_lw_lt {x y : Int64} : (lcmpW x y).toInt < 0 ↔ x.toInt < y.toInt := by
  have q := lw_lt x y
  rw [Int32.lt_iff_toInt_lt, Int64.lt_iff_toInt_lt] at q
  exact q
theorem o_lw_gt {x y : Int64} : 0 < (lcmpW x y).toInt ↔ y.toInt < x.toInt := by
  have q := lw_gt x y
  rw [Int32.lt_iff_toInt_lt, Int64.lt_iff_toInt_lt] at q
  exact q
theorem o_lw_le {x y : Int64} : (lcmpW x y).toInt ≤ 0 ↔ x.toInt ≤ y.toInt := by
  have q := @o_lw_gt x y
  omega
theorem o_lw_ge {x y : Int64} : 0 ≤ (lcmpW x y).toInt ↔ y.toInt ≤ x.toInt := by
  have q := @o_lw_lt x y
  omega
theorem o_lw_eq {x y : Int64} : lcmpW x y = 0 ↔ x = y := lw_eq x y
theorem o_ifnull_t (X : Stand p l e R s m args below meth c T locs cells slots) (K : OCx p s m meth c Z own nm bytes maxL ret) {o : Int} (hd : decode bytes pc = .ok (.ifnull o, 3)) (pt : Nat) (ho : 0 ≤ (pc : Int) + o) (hp : ((pc : Int) + o).toNat = pt) (hr : OGo p e below Fn n0 Q (T.setTop (mkF m pt Ls St))) : OGo p e below Fn n0 Q (T.setTop (mkF m pc Ls (.null :: St))) :=
  OGo.st (fun _ k => XS.ifnullYes X.here K.hx rfl (pc0 := pc) rfl (hb K.hby hd) rfl ho hp k) hr
theorem o_ifnull_f (X : Stand p l e R s m args below meth c T locs cells slots) (K : OCx p s m meth c Z own nm bytes maxL ret) {o : Int} {b : Addr} (hd : decode bytes pc = .ok (.ifnull o, 3)) (pc' : Nat) (hp : pc + 3 = pc') (hr : OGo p e below Fn n0 Q (T.setTop (mkF m pc' Ls St))) : OGo p e below Fn n0 Q (T.setTop (mkF m pc Ls (.ref b :: St))) := by
  subst hp
  exact OGo.st (fun _ k => XS.ifnullNo X.here K.hx rfl (hb K.hby hd) rfl k) hr
theorem o_ifnonnull_t (X : Stand p l e R s m args below meth c T locs cells slots) (K : OCx p s m meth c Z own nm bytes maxL ret) {o : Int} {b : Addr} (hd : decode bytes pc = .ok (.ifnonnull o, 3)) (pt : Nat) (ho : 0 ≤ (pc : Int) + o) (hp : ((pc : Int) + o).toNat = pt) (hr : OGo p e below Fn n0 Q (T.setTop (mkF m pt Ls St))) : OGo p e below Fn n0 Q (T.setTop (mkF m pc Ls (.ref b :: St))) :=
  OGo.st (fun _ k => XS.ifnonnullYes X.here K.hx rfl (pc0 := pc) rfl (hb K.hby hd) rfl ho hp k) hr
theorem o_ifnonnull_f (X : Stand p l e R s m args below meth c T locs cells slots) (K : OCx p s m meth c Z own nm bytes maxL ret) {o : Int} (hd : decode bytes pc = .ok (.ifnonnull o, 3)) (pc' : Nat) (hp : pc + 3 = pc') (hr : OGo p e below Fn n0 Q (T.setTop (mkF m pc' Ls St))) : OGo p e below Fn n0 Q (T.setTop (mkF m pc Ls (.null :: St))) := by
  subst hp
  exact OGo.st (fun _ k => XS.ifnonnullNo X.here K.hx rfl (hb K.hby hd) rfl k) hr
theorem o_acmp (X : Stand p l e R s m args below meth c T locs cells slots) (K : OCx p s m meth c Z own nm bytes maxL ret) {cd : ACond} {x y : Value} {o : Int} (hd : decode bytes pc = .ok (.if_acmp cd o, 3)) (pc' : Nat) (h1 : x.isRef = true) (h2 : y.isRef = true) (same : Bool) (hq : decide (x = y) = same) (ho : 0 ≤ (pc : Int) + o) (hp : pc' = if acV cd same = true then ((pc : Int) + o).toNat else pc + 3) (hr : OGo p e below Fn n0 Q (T.setTop (mkF m pc' Ls St))) : OGo p e below Fn n0 Q (T.setTop (mkF m pc Ls (y :: x :: St))) :=
  OGo.st (fun _ k => Jvm.RoadKit.acmp (g := mkF m pc Ls (y :: x :: St)) X K.hx rfl h1 h2 (pc0 := pc) rfl (hb K.hby hd) rfl hq ho hp k) hr
theorem o_leave (X : Stand p l e R s m args below meth c T locs cells slots) (hlk : meth.locks = false) {v : Option Value} (hv : meth.sig.returnType = none → v = none) {S : State} (hc : cells ≤ kc) (hs : slots ≤ ks) (N : Fr n0 locs) (hQ : Q v T.heap)
    (k : ∀ fs, (∀ (f : JFrame) (acts : List Action), f.method = m → f.locked = none → f.entered = [] → (doReturn e (T.setTop f) acts v).1 = T.setFrames fs) → Steps p.tables e below S (T.setFrames fs)) : OGo p e below (OFin s kc ks) n0 Q S := by
  obtain ⟨fs, hr, hrun, hended, hW, hsame⟩ := X.leave (v := v) hv
  exact ⟨_, _, k fs hr, hrun, hended, v, locs, rfl, ⟨hQ, N⟩, ⟨v, rfl⟩, hW, hsame.mono hc hs⟩
theorem o_ireturn (X : Stand p l e R s m args below meth c T locs cells slots) (K : OCx p s m meth c Z own nm bytes maxL (some .int)) {z : Int32} (hd : decode bytes pc = .ok (.ireturn, 1)) (hc : cells ≤ kc) (hs : slots ≤ ks) (N : Fr n0 locs) (hQ : Q (some (.int z)) T.heap) : OGo p e below (OFin s kc ks) n0 Q (T.setTop (mkF m pc Ls (.int z :: St))) :=
  o_leave X K.hlk (fun h => by rw [K.hret] at h; cases h) hc hs N hQ (fun fs hr => retI X K.hx K.hret (hb K.hby hd) hr)
theorem o_ireturnN {t : FieldType} (X : Stand p l e R s m args below meth c T locs cells slots) (K : OCx p s m meth c Z own nm bytes maxL (some t)) (ht : t = .boolean ∨ t = .byte ∨ t = .char ∨ t = .short) {z : Int32} (hd : decode bytes pc = .ok (.ireturn, 1)) (hc : cells ≤ kc) (hs : slots ≤ ks) (N : Fr n0 locs) (hQ : Q (some (.int (nar t z))) T.heap) : OGo p e below (OFin s kc ks) n0 Q (T.setTop (mkF m pc Ls (.int z :: St))) :=
  o_leave X K.hlk (fun h => by rw [K.hret] at h; cases h) hc hs N hQ (fun fs hr => retN X K.hx K.hret ht (hb K.hby hd) hr)
theorem o_lreturn (X : Stand p l e R s m args below meth c T locs cells slots) (K : OCx p s m meth c Z own nm bytes maxL (some .long)) {z : Int64} (hd : decode bytes pc = .ok (.lreturn, 1)) (hc : cells ≤ kc) (hs : slots ≤ ks) (N : Fr n0 locs) (hQ : Q (some (.long z)) T.heap) : OGo p e below (OFin s kc ks) n0 Q (T.setTop (mkF m pc Ls (.long z :: St))) :=
  o_leave X K.hlk (fun h => by rw [K.hret] at h; cases h) hc hs N hQ (fun fs hr => retOut X K.hx K.hret rfl (Or.inr (Or.inl ⟨rfl, rfl, z, rfl⟩)) (hb K.hby hd) hr)
theorem o_areturn {t : FieldType} (X : Stand p l e R s m args below meth c T locs cells slots) (K : OCx p s m meth c Z own nm bytes maxL (some t)) (ht : t.isReference = true) {z : Value} (hn : narrow t z = z) (hz : z.isRef = true) (hd : decode bytes pc = .ok (.areturn, 1)) (hc : cells ≤ kc) (hs : slots ≤ ks) (N : Fr n0 locs) (hQ : Q (some z) T.heap) : OGo p e below (OFin s kc ks) n0 Q (T.setTop (mkF m pc Ls (z :: St))) :=
  o_leave X K.hlk (fun h => by rw [K.hret] at h; cases h) hc hs N hQ (fun fs hr => retOut X K.hx K.hret hn (Or.inr (Or.inr (Or.inr (Or.inr ⟨rfl, ht, hz⟩)))) (hb K.hby hd) hr)
theorem o_return (X : Stand p l e R s m args below meth c T locs cells slots) (K : OCx p s m meth c Z own nm bytes maxL none) (hd : decode bytes pc = .ok (.return_, 1)) (hc : cells ≤ kc) (hs : slots ≤ ks) (N : Fr n0 locs) (hQ : Q none T.heap) : OGo p e below (OFin s kc ks) n0 Q (T.setTop (mkF m pc Ls [])) :=
  o_leave X K.hlk (fun _ => rfl) hc hs N hQ (fun fs hr => X.returnOut K.hx K.hret (hb K.hby hd) hr)
/-- an array: its kind, its length, what each place holds -/
def OAr (Z : State) (h : Heap) (a : Addr) (ty : FieldType) (n : Nat) (f : Nat → Value) : Prop := ∃ c : Cell, Arr Z h a c ty ∧ c.slots.size = n ∧ n < 2147483648 ∧ (∀ j, j < n → c.slots[j]? = some (f j)) ∧ ∀ j, j < n → fits ty (f j) = true
theorem OAr.lt {a : Addr} {ty : FieldType} {n : Nat} {f : Nat → Value} (A : OAr Z h a ty n f) : a < h.size := by obtain ⟨c, A, -⟩ := A; exact A.lt
theorem OAr.len {a : Addr} {ty : FieldType} {n : Nat} {f : Nat → Value} (A : OAr Z h a ty n f) : n < 2147483648 := by obtain ⟨c, -, -, A, -⟩ := A; exact A
theorem OAr.fit {a : Addr} {ty : FieldType} {n : Nat} {f : Nat → Value} (A : OAr Z h a ty n f) {j : Nat} (hj : j < n) : fits ty (f j) = true := by obtain ⟨c, -, -, -, -, A⟩ := A; exact A j hj
theorem OAr.ext {a : Addr} {ty : FieldType} {n : Nat} {f : Nat → Value} (A : OAr Z h a ty n f) (E : Ext h h') : OAr Z h' a ty n f := by obtain ⟨c, A, r⟩ := A; exact ⟨c, A.ext E, r⟩
theorem OAr.other {a b : Addr} {ty : FieldType} {n sl : Nat} {f : Nat → Value} {v : Value} (A : OAr Z h b ty n f) (W : Wr h h' a sl v) (q : b ≠ a) : OAr Z h' b ty n f := by obtain ⟨c, A, r⟩ := A; exact ⟨c, A.other W q, r⟩
theorem OAr.keep {a : Addr} {ty : FieldType} {n : Nat} {f : Nat → Value} {ws : List Addr} (A : OAr Z h a ty n f) (E : Keep h h' ws) (q : a ∉ ws) : OAr Z h' a ty n f := by obtain ⟨c, A, r⟩ := A; exact ⟨c, ⟨E.2.1 _ _ A.1 q, A.2⟩, r⟩
theorem OAr.congr {a : Addr} {ty : FieldType} {n : Nat} {f g : Nat → Value} (A : OAr Z h a ty n f) (q : ∀ j, j < n → f j = g j) : OAr Z h a ty n g := by
  obtain ⟨c, A, r1, r2, r3, r4⟩ := A
  exact ⟨c, A, r1, r2, fun j hj => by rw [← q j hj]; exact r3 j hj, fun j hj => by rw [← q j hj]; exact r4 j hj⟩
theorem OAr.same {a : Addr} {ty : FieldType} {n i : Nat} {f : Nat → Value} {v : Value} (A : OAr Z h a ty n f) (W : Wr h h' a i v) (hv : fits ty v = true) : OAr Z h' a ty n (fun q => if q = i then v else f q) := by
  obtain ⟨c, A, r1, r2, r3, r4⟩ := A
  refine ⟨_, A.same W, by rw [sz_set]; exact r1, r2, fun j hj => ?_, fun j hj => ?_⟩
  · by_cases e : j = i
    · subst e; simp [Cell.setSlot, r1, hj]
    · have e' : ¬ i = j := fun z => e z.symm
      simp [Cell.setSlot, e, e', r3 j hj]
  · by_cases e : j = i
    · simp [e, hv]
    · simp [e, r4 j hj]
theorem o_idx {j : Int32} {i n : Nat} {c : Cell} (hj : j.toInt = (i : Int)) (hi : i < n) (r1 : c.slots.size = n) : ¬ (j < 0 ∨ c.slots.size ≤ j.toNatClampNeg) ∧ j.toNatClampNeg = i := by
  have e : j.toNatClampNeg = i := by rw [← Int32.toNat_toInt, hj]; rfl
  refine ⟨?_, e⟩
  rw [e, r1, Int32.lt_iff_toInt_lt, hj]
  intro q
  rcases q with q | q
  · have : (0 : Int32).toInt = 0 := rfl
    omega
  · omega
theorem o_len {n : Nat} (h : n < 2147483648) : (n.toInt32).toInt = n := by
  have := len_toInt (n := n) (by omega)
  exact this
theorem o_arraylength (X : Stand p l e R s m args below meth c T locs cells slots) (K : OCx p s m meth c Z own nm bytes maxL ret) {a : Addr} {ty : FieldType} {n : Nat} {f : Nat → Value} (hd : decode bytes pc = .ok (.arraylength, 1)) (pc' : Nat) (hp : pc + 1 = pc') (eT : T.heap = h) (A : OAr Z h a ty n f) {v : Int32} (hv : v.toInt = n) (hr : OGo p e below Fn n0 Q (T.setTop (mkF m pc' Ls (.int v :: St)))) : OGo p e below Fn n0 Q (T.setTop (mkF m pc Ls (.ref a :: St))) := by
  subst hp
  obtain ⟨cl, A, r1, r2, -⟩ := A
  have e1 : cl.slots.size.toInt32 = v := by rw [← Int32.toInt_inj, hv, r1]; exact o_len r2
  refine OGo.st (fun t k => ?_) hr
  refine X.arraylength K.hx (g := mkF m pc Ls (.ref a :: St)) (by rw [eT]; exact A.1) (State.isArrayOf_alike K.hZ.alike A.2.1) rfl rfl (hb K.hby hd) t ?_
  rw [e1]
  exact k
theorem o_iaload (X : Stand p l e R s m args below meth c T locs cells slots) (K : OCx p s m meth c Z own nm bytes maxL ret) {a : Addr} {n i : Nat} {f : Nat → Value} {j : Int32} {v : Value} (hd : decode bytes pc = .ok (.iaload, 1)) (pc' : Nat) (hp : pc + 1 = pc') (eT : T.heap = h) (A : OAr Z h a .int n f) (hj : j.toInt = (i : Int)) (hi : i < n) (hv : f i = v) (hr : OGo p e below Fn n0 Q (T.setTop (mkF m pc' Ls (v :: St)))) : OGo p e below Fn n0 Q (T.setTop (mkF m pc Ls (.int j :: .ref a :: St))) := by
  subst hp
  obtain ⟨cl, A, r1, r2, r3, -⟩ := A
  obtain ⟨q1, q2⟩ := o_idx (c := cl) hj hi r1
  exact OGo.st (fun t k => X.iaload K.hx (g := mkF m pc Ls (.int j :: .ref a :: St)) (by rw [eT]; exact A.1) (State.isArrayOf_alike K.hZ.alike A.2.1) A.2.2 q1 (by rw [q2, r3 i hi, hv]) rfl rfl (hb K.hby hd) t k) hr
theorem o_laload (X : Stand p l e R s m args below meth c T locs cells slots) (K : OCx p s m meth c Z own nm bytes maxL ret) {a : Addr} {n i : Nat} {f : Nat → Value} {j : Int32} {v : Value} (hd : decode bytes pc = .ok (.laload, 1)) (pc' : Nat) (hp : pc + 1 = pc') (eT : T.heap = h) (A : OAr Z h a .long n f) (hj : j.toInt = (i : Int)) (hi : i < n) (hv : f i = v) (hr : OGo p e below Fn n0 Q (T.setTop (mkF m pc' Ls (v :: St)))) : OGo p e below Fn n0 Q (T.setTop (mkF m pc Ls (.int j :: .ref a :: St))) := by
  subst hp
  obtain ⟨cl, A, r1, r2, r3, -⟩ := A
  obtain ⟨q1, q2⟩ := o_idx (c := cl) hj hi r1
  exact OGo.st (fun t k => X.laload K.hx (g := mkF m pc Ls (.int j :: .ref a :: St)) (by rw [eT]; exact A.1) (State.isArrayOf_alike K.hZ.alike A.2.1) A.2.2 q1 (by rw [q2, r3 i hi, hv]) rfl rfl (hb K.hby hd) t k) hr
theorem o_caload (X : Stand p l e R s m args below meth c T locs cells slots) (K : OCx p s m meth c Z own nm bytes maxL ret) {a : Addr} {n i : Nat} {f : Nat → Value} {j : Int32} {v : Value} (hd : decode bytes pc = .ok (.caload, 1)) (pc' : Nat) (hp : pc + 1 = pc') (eT : T.heap = h) (A : OAr Z h a .char n f) (hj : j.toInt = (i : Int)) (hi : i < n) (hv : f i = v) (hr : OGo p e below Fn n0 Q (T.setTop (mkF m pc' Ls (v :: St)))) : OGo p e below Fn n0 Q (T.setTop (mkF m pc Ls (.int j :: .ref a :: St))) := by
  subst hp
  obtain ⟨cl, A, r1, r2, r3, -⟩ := A
  obtain ⟨q1, q2⟩ := o_idx (c := cl) hj hi r1
  exact OGo.st (fun t k => X.caload K.hx (g := mkF m pc Ls (.int j :: .ref a :: St)) (by rw [eT]; exact A.1) (State.isArrayOf_alike K.hZ.alike A.2.1) A.2.2 q1 (by rw [q2, r3 i hi, hv]) rfl rfl (hb K.hby hd) t k) hr
theorem o_saload (X : Stand p l e R s m args below meth c T locs cells slots) (K : OCx p s m meth c Z own nm bytes maxL ret) {a : Addr} {n i : Nat} {f : Nat → Value} {j : Int32} {v : Value} (hd : decode bytes pc = .ok (.saload, 1)) (pc' : Nat) (hp : pc + 1 = pc') (eT : T.heap = h) (A : OAr Z h a .short n f) (hj : j.toInt = (i : Int)) (hi : i < n) (hv : f i = v) (hr : OGo p e below Fn n0 Q (T.setTop (mkF m pc' Ls (v :: St)))) : OGo p e below Fn n0 Q (T.setTop (mkF m pc Ls (.int j :: .ref a :: St))) := by
  subst hp
  obtain ⟨cl, A, r1, r2, r3, -⟩ := A
  obtain ⟨q1, q2⟩ := o_idx (c := cl) hj hi r1
  exact OGo.st (fun t k => X.saload K.hx (g := mkF m pc Ls (.int j :: .ref a :: St)) (by rw [eT]; exact A.1) (State.isArrayOf_alike K.hZ.alike A.2.1) A.2.2 q1 (by rw [q2, r3 i hi, hv]) rfl rfl (hb K.hby hd) t k) hr
theorem o_baload (X : Stand p l e R s m args below meth c T locs cells slots) (K : OCx p s m meth c Z own nm bytes maxL ret) {a : Addr} {n i : Nat} {f : Nat → Value} {j : Int32} {v : Value} (hd : decode bytes pc = .ok (.baload, 1)) (pc' : Nat) (hp : pc + 1 = pc') (eT : T.heap = h) (A : OAr Z h a .byte n f) (hj : j.toInt = (i : Int)) (hi : i < n) (hv : f i = v) (hr : OGo p e below Fn n0 Q (T.setTop (mkF m pc' Ls (v :: St)))) : OGo p e below Fn n0 Q (T.setTop (mkF m pc Ls (.int j :: .ref a :: St))) := by
  subst hp
  obtain ⟨cl, A, r1, r2, r3, -⟩ := A
  obtain ⟨q1, q2⟩ := o_idx (c := cl) hj hi r1
  exact OGo.st (fun t k => X.baloadBytes K.hx (g := mkF m pc Ls (.int j :: .ref a :: St)) (by rw [eT]; exact A.1) (State.isArrayOf_alike K.hZ.alike A.2.1) A.2.2 q1 (by rw [q2, r3 i hi, hv]) rfl rfl (hb K.hby hd) t k) hr
theorem o_zaload (X : Stand p l e R s m args below meth c T locs cells slots) (K : OCx p s m meth c Z own nm bytes maxL ret) {a : Addr} {n i : Nat} {f : Nat → Value} {j : Int32} {v : Value} (hd : decode bytes pc = .ok (.baload, 1)) (pc' : Nat) (hp : pc + 1 = pc') (eT : T.heap = h) (A : OAr Z h a .boolean n f) (hj : j.toInt = (i : Int)) (hi : i < n) (hv : f i = v) (hr : OGo p e below Fn n0 Q (T.setTop (mkF m pc' Ls (v :: St)))) : OGo p e below Fn n0 Q (T.setTop (mkF m pc Ls (.int j :: .ref a :: St))) := by
  subst hp
  obtain ⟨cl, A, r1, r2, r3, -⟩ := A
  obtain ⟨q1, q2⟩ := o_idx (c := cl) hj hi r1
  exact OGo.st (fun t k => X.baloadBooleans K.hx (g := mkF m pc Ls (.int j :: .ref a :: St)) (by rw [eT]; exact A.1) (State.isArrayOf_alike K.hZ.alike A.2.1) A.2.2 q1 (by rw [q2, r3 i hi, hv]) rfl rfl (hb K.hby hd) t k) hr
theorem o_aaload (X : Stand p l e R s m args below meth c T locs cells slots) (K : OCx p s m meth c Z own nm bytes maxL ret) {a : Addr} {ty : FieldType} {n i : Nat} {f : Nat → Value} {j : Int32} {v : Value} (hd : decode bytes pc = .ok (.aaload, 1)) (pc' : Nat) (hp : pc + 1 = pc') (eT : T.heap = h) (A : OAr Z h a ty n f) (hty : ty.isReference = true) (hj : j.toInt = (i : Int)) (hi : i < n) (hv : f i = v) (hr : OGo p e below Fn n0 Q (T.setTop (mkF m pc' Ls (v :: St)))) : OGo p e below Fn n0 Q (T.setTop (mkF m pc Ls (.int j :: .ref a :: St))) := by
  subst hp
  obtain ⟨cl, A, r1, r2, r3, -⟩ := A
  obtain ⟨q1, q2⟩ := o_idx (c := cl) hj hi r1
  exact OGo.st (fun t k => X.aaload K.hx (g := mkF m pc Ls (.int j :: .ref a :: St)) (by rw [eT]; exact A.1) (State.isArrayOf_alike K.hZ.alike A.2.1) hty A.2.2 q1 (by rw [q2, r3 i hi, hv]) rfl rfl (hb K.hby hd) t k) hr
theorem o_bastore (X : Stand p l e R s m args below meth c T locs cells slots) (K : OCx p s m meth c Z own nm bytes maxL ret) {a : Addr} {n i : Nat} {f : Nat → Value} {j : Int32} {x x' : Int32} (hd : decode bytes pc = .ok (.bastore, 1)) (pc' : Nat) (hp : pc + 1 = pc') (eT : T.heap = h) (A : OAr Z h a .byte n f) (hj : j.toInt = (i : Int)) (hi : i < n) (hv : nar .byte x = x') (N : Fr n0 locs) (ge : n0 ≤ a)
    (hr : ∀ T' h' locs', Stand p l e R s m args below meth c T' locs' cells slots → T'.heap = h' → Wr h h' a i (.int x') → OAr Z h' a .byte n (fun q => if q = i then (.int x') else f q) → Fr n0 locs' → OGo p e below Fn n0 Q (T'.setTop (mkF m pc' Ls St))) : OGo p e below Fn n0 Q (T.setTop (mkF m pc Ls (.int x :: .int j :: .ref a :: St))) := by
  subst hp hv
  obtain ⟨cl, B, r1, r2, r3, -⟩ := id A
  obtain ⟨q1, q2⟩ := o_idx (c := cl) hj hi r1
  obtain ⟨T', h', X', e', W', st'⟩ := stB X K.hx K.hZ eT B q1 (g := mkF m pc Ls (.int x :: .int j :: .ref a :: St)) rfl rfl (hb K.hby hd)
  have N' := Fr.snoc X' N ge
  rw [q2] at W'
  exact OGo.st st' (hr T' h' _ X' e' W' (A.same W' (fits_nar_byte x)) N')
theorem o_castore (X : Stand p l e R s m args below meth c T locs cells slots) (K : OCx p s m meth c Z own nm bytes maxL ret) {a : Addr} {n i : Nat} {f : Nat → Value} {j : Int32} {x x' : Int32} (hd : decode bytes pc = .ok (.castore, 1)) (pc' : Nat) (hp : pc + 1 = pc') (eT : T.heap = h) (A : OAr Z h a .char n f) (hj : j.toInt = (i : Int)) (hi : i < n) (hv : nar .char x = x') (N : Fr n0 locs) (ge : n0 ≤ a)
    (hr : ∀ T' h' locs', Stand p l e R s m args below meth c T' locs' cells slots → T'.heap = h' → Wr h h' a i (.int x') → OAr Z h' a .char n (fun q => if q = i then (.int x') else f q) → Fr n0 locs' → OGo p e below Fn n0 Q (T'.setTop (mkF m pc' Ls St))) : OGo p e below Fn n0 Q (T.setTop (mkF m pc Ls (.int x :: .int j :: .ref a :: St))) := by
  subst hp hv
  obtain ⟨cl, B, r1, r2, r3, -⟩ := id A
  obtain ⟨q1, q2⟩ := o_idx (c := cl) hj hi r1
  obtain ⟨T', h', X', e', W', st'⟩ := stC X K.hx K.hZ eT B q1 (g := mkF m pc Ls (.int x :: .int j :: .ref a :: St)) rfl rfl (hb K.hby hd)
  have N' := Fr.snoc X' N ge
  rw [q2] at W'
  exact OGo.st st' (hr T' h' _ X' e' W' (A.same W' (fits_nar_char x)) N')
theorem o_sastore (X : Stand p l e R s m args below meth c T locs cells slots) (K : OCx p s m meth c Z own nm bytes maxL ret) {a : Addr} {n i : Nat} {f : Nat → Value} {j : Int32} {x x' : Int32} (hd : decode bytes pc = .ok (.sastore, 1)) (pc' : Nat) (hp : pc + 1 = pc') (eT : T.heap = h) (A : OAr Z h a .short n f) (hj : j.toInt = (i : Int)) (hi : i < n) (hv : nar .short x = x') (N : Fr n0 locs) (ge : n0 ≤ a)
    (hr : ∀ T' h' locs', Stand p l e R s m args below meth c T' locs' cells slots → T'.heap = h' → Wr h h' a i (.int x') → OAr Z h' a .short n (fun q => if q = i then (.int x') else f q) → Fr n0 locs' → OGo p e below Fn n0 Q (T'.setTop (mkF m pc' Ls St))) : OGo p e below Fn n0 Q (T.setTop (mkF m pc Ls (.int x :: .int j :: .ref a :: St))) := by
  subst hp hv
  obtain ⟨cl, B, r1, r2, r3, -⟩ := id A
  obtain ⟨q1, q2⟩ := o_idx (c := cl) hj hi r1
  obtain ⟨T', h', X', e', W', st'⟩ := stS X K.hx K.hZ eT B q1 (g := mkF m pc Ls (.int x :: .int j :: .ref a :: St)) rfl rfl (hb K.hby hd)
  have N' := Fr.snoc X' N ge
  rw [q2] at W'
  exact OGo.st st' (hr T' h' _ X' e' W' (A.same W' (fits_nar_short x)) N')
theorem o_zastore (X : Stand p l e R s m args below meth c T locs cells slots) (K : OCx p s m meth c Z own nm bytes maxL ret) {a : Addr} {n i : Nat} {f : Nat → Value} {j : Int32} {x x' : Int32} (hd : decode bytes pc = .ok (.bastore, 1)) (pc' : Nat) (hp : pc + 1 = pc') (eT : T.heap = h) (A : OAr Z h a .boolean n f) (hj : j.toInt = (i : Int)) (hi : i < n) (hv : nar .boolean x = x') (N : Fr n0 locs) (ge : n0 ≤ a)
    (hr : ∀ T' h' locs', Stand p l e R s m args below meth c T' locs' cells slots → T'.heap = h' → Wr h h' a i (.int x') → OAr Z h' a .boolean n (fun q => if q = i then (.int x') else f q) → Fr n0 locs' → OGo p e below Fn n0 Q (T'.setTop (mkF m pc' Ls St))) : OGo p e below Fn n0 Q (T.setTop (mkF m pc Ls (.int x :: .int j :: .ref a :: St))) := by
  subst hp hv
  obtain ⟨cl, B, r1, r2, r3, -⟩ := id A
  obtain ⟨q1, q2⟩ := o_idx (c := cl) hj hi r1
  obtain ⟨T', h', X', e', W', st'⟩ := stZ X K.hx K.hZ eT B q1 (g := mkF m pc Ls (.int x :: .int j :: .ref a :: St)) rfl rfl (hb K.hby hd)
  have N' := Fr.snoc X' N ge
  rw [q2] at W'
  exact OGo.st st' (hr T' h' _ X' e' W' (A.same W' (fits_nar_bool x)) N')
theorem o_iastore (X : Stand p l e R s m args below meth c T locs cells slots) (K : OCx p s m meth c Z own nm bytes maxL ret) {a : Addr} {n i : Nat} {f : Nat → Value} {j : Int32} {x x' : Int32} (hd : decode bytes pc = .ok (.iastore, 1)) (pc' : Nat) (hp : pc + 1 = pc') (eT : T.heap = h) (A : OAr Z h a .int n f) (hj : j.toInt = (i : Int)) (hi : i < n) (hv : x = x') (N : Fr n0 locs) (ge : n0 ≤ a)
    (hr : ∀ T' h' locs', Stand p l e R s m args below meth c T' locs' cells slots → T'.heap = h' → Wr h h' a i (.int x') → OAr Z h' a .int n (fun q => if q = i then (.int x') else f q) → Fr n0 locs' → OGo p e below Fn n0 Q (T'.setTop (mkF m pc' Ls St))) : OGo p e below Fn n0 Q (T.setTop (mkF m pc Ls (.int x :: .int j :: .ref a :: St))) := by
  subst hp hv
  obtain ⟨cl, B, r1, r2, r3, -⟩ := id A
  obtain ⟨q1, q2⟩ := o_idx (c := cl) hj hi r1
  obtain ⟨T', h', X', e', W', st'⟩ := stI X K.hx K.hZ eT B q1 (g := mkF m pc Ls (.int x :: .int j :: .ref a :: St)) rfl rfl (hb K.hby hd)
  have N' := Fr.snoc X' N ge
  rw [q2] at W'
  exact OGo.st st' (hr T' h' _ X' e' W' (A.same W' (rfl)) N')
theorem o_lastore (X : Stand p l e R s m args below meth c T locs cells slots) (K : OCx p s m meth c Z own nm bytes maxL ret) {a : Addr} {n i : Nat} {f : Nat → Value} {j : Int32} {x x' : Int64} (hd : decode bytes pc = .ok (.lastore, 1)) (pc' : Nat) (hp : pc + 1 = pc') (eT : T.heap = h) (A : OAr Z h a .long n f) (hj : j.toInt = (i : Int)) (hi : i < n) (hv : x = x') (N : Fr n0 locs) (ge : n0 ≤ a)
    (hr : ∀ T' h' locs', Stand p l e R s m args below meth c T' locs' cells slots → T'.heap = h' → Wr h h' a i (.long x') → OAr Z h' a .long n (fun q => if q = i then (.long x') else f q) → Fr n0 locs' → OGo p e below Fn n0 Q (T'.setTop (mkF m pc' Ls St))) : OGo p e below Fn n0 Q (T.setTop (mkF m pc Ls (.long x :: .int j :: .ref a :: St))) := by
  subst hp hv
  obtain ⟨cl, B, r1, r2, r3, -⟩ := id A
  obtain ⟨q1, q2⟩ := o_idx (c := cl) hj hi r1
  obtain ⟨T', h', X', e', W', st'⟩ := stJ X K.hx K.hZ eT B q1 (g := mkF m pc Ls (.long x :: .int j :: .ref a :: St)) rfl rfl (hb K.hby hd)
  have N' := Fr.snoc X' N ge
  rw [q2] at W'
  exact OGo.st st' (hr T' h' _ X' e' W' (A.same W' (rfl)) N')
theorem o_newarray (X : Stand p l e R s m args below meth c T locs cells slots) (K : OCx p s m meth c Z own nm bytes maxL ret) {aty : ArrayType} {z : Int32} {n : Nat} (hd : decode bytes pc = .ok (.newarray aty, 2)) (pc' : Nat) (hp : pc + 2 = pc') (w : (Jvm.Cond.arrayClass (newarray.typeOf aty)).before a0 Z = true) (eT : T.heap = h) (hz : z.toInt = (n : Int)) (cap : Nat) (hcap : n ≤ cap) (hb8 : cap * 8 ≤ 536870912) (hc : cells + 1 ≤ R.cells) (hl : slots + cap ≤ R.slots)
    (hdv : fits (newarray.typeOf aty) (defaultValue (newarray.typeOf aty)) = true)
    (hr : ∀ T' h' a, a = h.size → Stand p l e R s m args below meth c T' locs (cells + 1) (slots + cap) → T'.heap = h' → Ext h h' → OAr Z h' a (newarray.typeOf aty) n (fun _ => defaultValue (newarray.typeOf aty)) → OGo p e below Fn n0 Q (T'.setTop (mkF m pc' Ls (.ref a :: St)))) : OGo p e below Fn n0 Q (T.setTop (mkF m pc Ls (.int z :: St))) := by
  subst hp
  have e1 : z.toNatClampNeg = n := by rw [← Int32.toNat_toInt, hz]; rfl
  have hneg : ¬ z < 0 := by
    rw [Int32.lt_iff_toInt_lt, hz]
    have : (0 : Int32).toInt = 0 := rfl
    omega
  obtain ⟨T', h', cA, X', e', E', A', st'⟩ := newP X K.hx K.hZ w eT (g := mkF m pc Ls (.int z :: St)) rfl (hb K.hby hd) rfl hneg (cap := cap) (by omega) hb8 hc hl
  refine OGo.st st' (hr T' h' _ rfl X' e' E' ⟨_, A', (sz_new _ _ _).trans e1, ?_, fun j hj => ?_, fun j _ => hdv⟩)
  · have := (rng32 z).2
    omega
  · simp [newA, e1, hj]
theorem o_anewarray (X : Stand p l e R s m args below meth c T locs cells slots) (K : OCx p s m meth c Z own nm bytes maxL ret) {C : String} {index : Nat} {z : Int32} {n : Nat} (hd : decode bytes pc = .ok (.anewarray index, 3)) (pc' : Nat) (hp : pc + 3 = pc') (w1 : (Jvm.Cond.classLink own index C).before a0 Z = true) (w2 : (Jvm.Cond.arrayOver (.object C)).before a0 Z = true) (eT : T.heap = h) (hz : z.toInt = (n : Int)) (cap : Nat) (hcap : n ≤ cap) (hb8 : cap * 8 ≤ 536870912) (hc : cells + 1 ≤ R.cells) (hl : slots + cap ≤ R.slots)
    (hr : ∀ T' h' a, a = h.size → Stand p l e R s m args below meth c T' locs (cells + 1) (slots + cap) → T'.heap = h' → Ext h h' → OAr Z h' a (.object C) n (fun _ => .null) → (∃ cl : Cell, h'[a]? = some cl ∧ Ovr Z cl.cls C) → OGo p e below Fn n0 Q (T'.setTop (mkF m pc' Ls (.ref a :: St)))) : OGo p e below Fn n0 Q (T.setTop (mkF m pc Ls (.int z :: St))) := by
  subst hp
  have e1 : z.toNatClampNeg = n := by rw [← Int32.toNat_toInt, hz]; rfl
  have hneg : ¬ z < 0 := by
    rw [Int32.lt_iff_toInt_lt, hz]
    have : (0 : Int32).toInt = 0 := rfl
    omega
  obtain ⟨T', h', cA, X', e', E', A', O', st'⟩ := newR X K.hx K.hZ K.hown w1 w2 eT (g := mkF m pc Ls (.int z :: St)) rfl (hb K.hby hd) rfl hneg (cap := cap) (by omega) hb8 hc hl
  refine OGo.st st' (hr T' h' _ rfl X' e' E' ⟨_, A', (sz_new _ _ _).trans e1, ?_, fun j hj => ?_, fun j _ => rfl⟩ ⟨_, A'.1, O'⟩)
  · have := (rng32 z).2
    omega
  · simp [newA, e1, hj, defaultValue]
theorem o_new (X : Stand p l e R s m args below meth c T locs cells slots) (K : OCx p s m meth c Z own nm bytes maxL ret) {C : String} {index k : Nat} (hd : decode bytes pc = .ok (.new index, 3)) (pc' : Nat) (hp : pc + 3 = pc') (w : (Jvm.Cond.classLink own index C).before a0 Z = true) (wi : (Jvm.Cond.instantiable C k).before a0 Z = true) (wz : (Jvm.Cond.initialized C).before a0 Z = true) (eT : T.heap = h) (hc : cells + 1 ≤ R.cells) (hl : slots + k ≤ R.slots)
    (hr : ∀ T' h' a, a = h.size → Stand p l e R s m args below meth c T' locs (cells + 1) (slots + k) → T'.heap = h' → Ext h h' → Exa Z h' a C → (∀ {O nm d : String} {ty : FieldType}, Laid Z a0 C O nm d → parseFieldDescriptor d = some ty → Fld Z h' a O nm d (defaultValue ty)) → OGo p e below Fn n0 Q (T'.setTop (mkF m pc' Ls (.ref a :: St)))) : OGo p e below Fn n0 Q (T.setTop (mkF m pc Ls St)) := by
  subst hp
  obtain ⟨T', h', X', e', E', A', D', -, st'⟩ := newO X K.hx K.hZ K.hown w wi wz eT (g := mkF m pc Ls St) rfl (hb K.hby hd) hc hl
  exact OGo.st st' (hr T' h' _ rfl X' e' E' A' D')
theorem o_initO (X : Stand p l e R s m args below meth c T locs cells slots) (K : OCx p s m meth c Z own nm bytes maxL ret) {idx : Nat} {a : Addr} (hd : decode bytes pc = .ok (.invokespecial idx, 3)) (pc' : Nat) (hp : pc + 3 = pc') (w1 : (Jvm.Cond.methodLink own idx Lib.objectInit).before a0 Z = true) (w2 : (Jvm.Cond.instanceMethod Lib.objectInit).before a0 Z = true) (w3 : (Jvm.Cond.code Lib.objectInit ⟨#[0xb1]⟩ 1 none).before a0 Z = true) (eT : T.heap = h) (hsz : Ls.size = maxL)
    (hf : 1 ≤ R.frames) (W : Nat) (hW : (St.map fun v => v.category).sum ≤ W) (hl : W + 12 ≤ R.locals) (hr : ∀ T', Stand p l e R s m args below meth c T' locs cells slots → T'.heap = h → OGo p e below Fn n0 Q (T'.setTop (mkF m pc' Ls St))) : OGo p e below Fn n0 Q (T.setTop (mkF m pc Ls (.ref a :: St))) := by
  subst hp
  obtain ⟨T', X', e', st'⟩ := initO X K.hx K.hZ K.hown w1 w2 w3 eT (g := mkF m pc Ls (.ref a :: St)) rfl (by rw [K.hml]; exact hsz) rfl (hb K.hby hd) hf (W := W) (by show 2 * 0 + _ ≤ _; omega) hl
  exact OGo.st st' (hr T' X' e')
theorem o_getfield (X : Stand p l e R s m args below meth c T locs cells slots) (K : OCx p s m meth c Z own nm bytes maxL ret) {index : Nat} {R0 O n d host : String} {a : Addr} {v : Value} (hd : decode bytes pc = .ok (.getfield index, 3)) (pc' : Nat) (hp : pc + 3 = pc') (w : (Jvm.Cond.fieldLink own index R0 n d).before a0 Z = true ∨ (Jvm.Cond.fieldLinkNest own index R0 n d host).before a0 Z = true) (via : Via Z R0 O n d) (eT : T.heap = h) (F : Fld Z h a O n d v)
    (hr : ∀ T', Stand p l e R s m args below meth c T' locs cells slots → T'.heap = h → OGo p e below Fn n0 Q (T'.setTop (mkF m pc' Ls (v :: St)))) : OGo p e below Fn n0 Q (T.setTop (mkF m pc Ls (.ref a :: St))) := by
  subst hp
  obtain ⟨T', X', e', st'⟩ := getF X K.hx K.hZ K.hown w via eT F (g := mkF m pc Ls (.ref a :: St)) rfl rfl (hb K.hby hd)
  exact OGo.st st' (hr T' X' e')
theorem o_getstatic (X : Stand p l e R s m args below meth c T locs cells slots) (K : OCx p s m meth c Z own nm bytes maxL ret) {index : Nat} {R0 O n d host : String} {v : Value} (hd : decode bytes pc = .ok (.getstatic index, 3)) (pc' : Nat) (hp : pc + 3 = pc') (w : (Jvm.Cond.fieldLink own index R0 n d).before a0 Z = true ∨ (Jvm.Cond.fieldLinkNest own index R0 n d host).before a0 Z = true) (via : Via Z R0 O n d) (eT : T.heap = h) (F : Sta Z h O n d v)
    (hr : ∀ T', Stand p l e R s m args below meth c T' locs cells slots → T'.heap = h → OGo p e below Fn n0 Q (T'.setTop (mkF m pc' Ls (v :: St)))) : OGo p e below Fn n0 Q (T.setTop (mkF m pc Ls St)) := by
  subst hp
  obtain ⟨T', X', e', st'⟩ := getS2 X K.hx K.hZ K.hown w via eT F (g := mkF m pc Ls St) rfl (hb K.hby hd)
  exact OGo.st st' (hr T' X' e')
theorem o_putfield (X : Stand p l e R s m args below meth c T locs cells slots) (K : OCx p s m meth c Z own nm bytes maxL ret) {index kk : Nat} {R0 O n d host C : String} {a : Addr} {v old : Value} {ty : FieldType} (hd : decode bytes pc = .ok (.putfield index, 3)) (pc' : Nat) (hp : pc + 3 = pc') (w : (Jvm.Cond.fieldLink own index R0 n d).before a0 Z = true ∨ (Jvm.Cond.fieldLinkNest own index R0 n d host).before a0 Z = true) (via : Via Z R0 O n d) (eT : T.heap = h) (F : Fld Z h a O n d old) (E : Exa Z h a C)
    (L : (Jvm.Cond.lays C O n d).before a0 Z = true ∨ ((Jvm.Cond.laysFinal C O n d).before a0 Z = true ∧ own = O ∧ nm = "<init>")) (wi : (Jvm.Cond.instantiable C kk).before a0 Z = true) (hty : parseFieldDescriptor d = some ty) (hn : narrow ty v = v) (hf : fits ty v = true) (N : Fr n0 locs) (ge : n0 ≤ a)
    (hr : ∀ T' h' locs', Stand p l e R s m args below meth c T' locs' cells slots → T'.heap = h' → Wr h h' a (Jvm.RoadKit.slotOf Z O n d) v → Fr n0 locs' → OGo p e below Fn n0 Q (T'.setTop (mkF m pc' Ls St))) : OGo p e below Fn n0 Q (T.setTop (mkF m pc Ls (v :: .ref a :: St))) := by
  subst hp
  obtain ⟨T', h', X', e', W', st'⟩ := putF X K.hx K.hZ K.hown w via eT F E (L.imp id fun q => ⟨q.1, q.2.1, K.hnm.trans q.2.2⟩) wi hty hn hf (g := mkF m pc Ls (v :: .ref a :: St)) rfl rfl (hb K.hby hd)
  exact OGo.st st' (hr T' h' _ X' e' W' (Fr.snoc X' N ge))
theorem o_putfieldN (X : Stand p l e R s m args below meth c T locs cells slots) (K : OCx p s m meth c Z own nm bytes maxL ret) {index kk : Nat} {R0 O n d C : String} {a : Addr} {v v' old : Value} {ty : FieldType} (hd : decode bytes pc = .ok (.putfield index, 3)) (pc' : Nat) (hp : pc + 3 = pc') (w : (Jvm.Cond.fieldLink own index R0 n d).before a0 Z = true) (via : Via Z R0 O n d) (eT : T.heap = h) (F : Fld Z h a O n d old) (E : Exa Z h a C)
    (L : (Jvm.Cond.lays C O n d).before a0 Z = true ∨ ((Jvm.Cond.laysFinal C O n d).before a0 Z = true ∧ own = O ∧ nm = "<init>")) (wi : (Jvm.Cond.instantiable C kk).before a0 Z = true) (hty : parseFieldDescriptor d = some ty) (hn : narrow ty v = v') (hf : fits ty v' = true) (N : Fr n0 locs) (ge : n0 ≤ a)
    (hr : ∀ T' h' locs', Stand p l e R s m args below meth c T' locs' cells slots → T'.heap = h' → Wr h h' a (Jvm.RoadKit.slotOf Z O n d) v' → Fr n0 locs' → OGo p e below Fn n0 Q (T'.setTop (mkF m pc' Ls St))) : OGo p e below Fn n0 Q (T.setTop (mkF m pc Ls (v :: .ref a :: St))) := by
  subst hp
  obtain ⟨T', h', X', e', W', st'⟩ := putFN X K.hx K.hZ K.hown w via eT F E (L.imp id fun q => ⟨q.1, q.2.1, K.hnm.trans q.2.2⟩) wi hty hn hf (g := mkF m pc Ls (v :: .ref a :: St)) rfl rfl (hb K.hby hd)
  exact OGo.st st' (hr T' h' _ X' e' W' (Fr.snoc X' N ge))
theorem o_invokestatic (X : Stand p l e R s m args below meth c T locs cells slots) (K : OCx p s m meth c Z own nm bytes maxL ret) {index : Nat} {y : MethodName} {bytes' : ByteArray} {maxL' : Nat} {ret' : Option FieldType} {rm : Room} {Q' : Option Value → Heap → Prop} (hd : decode bytes pc = .ok (.invokestatic index, 3)) (pc' : Nat) (hp : pc + 3 = pc') (w1 : (Jvm.Cond.methodLink own index y).before a0 Z = true) (w2 : (Jvm.Cond.static y).before a0 Z = true) (w3 : (Jvm.Cond.initialized y.cls).before a0 Z = true) (w4 : (Jvm.Cond.code y bytes' maxL' ret').before a0 Z = true) (hy : y.cls ≠ "java/lang/invoke/MethodHandle" ∧ y.cls ≠ "java/lang/invoke/VarHandle")
    (argsL rest : List Value) (hst : St = argsL.reverse ++ rest) (con : OCon l Z n0 y bytes' maxL' ret' rm argsL.toArray h Q') (eT : T.heap = h) (hsz : Ls.size = maxL) (hlen : ∀ sig, parseMethodDescriptor y.desc = some sig → argsL.length = sig.parameters.length) (hf : rm.frames + 1 ≤ R.frames) (W : Nat) (hW : (rest.map fun v => v.category).sum ≤ W) (hlo : W + (maxL' + 11) + rm.locals ≤ R.locals) (hc : cells + rm.cells ≤ R.cells) (hs : slots + rm.slots ≤ R.slots) (N : Fr n0 locs)
    (hr : ∀ v T' h' locs', Stand p l e R s m args below meth c T' locs' (cells + rm.cells) (slots + rm.slots) → T'.heap = h' → Q' v h' → Fr n0 locs' → OGo p e below Fn n0 Q (T'.setTop (mkF m pc' Ls (v.toList ++ rest)))) : OGo p e below Fn n0 Q (T.setTop (mkF m pc Ls St)) := by
  subst hp hst
  obtain ⟨v, vm₁, ⟨T', L', k', n'⟩, -, X', ⟨Lc, ⟨hQ, hF⟩, l1, y1, z1⟩, st⟩ := Jvm.LawKit.callS X K.hx K.hown (mvT K.hZ w1) (mvT K.hZ w2) (mvT K.hZ w3) (mvT K.hZ w4) hy (backOf (W := W) (Q := fun v h L => Q' v h ∧ Fr n0 L) (con []) K.hZ w4 w3 hf hlo) (g := mkF m pc Ls (argsL.reverse ++ rest)) rfl (by rw [K.hml]; exact hsz) (argsL := argsL) (rest := rest) hlen rfl (by show 2 * 0 + _ ≤ _; omega) (hb K.hby hd) (fun _ _ => ⟨rfl, eT, hc, hs⟩)
  dsimp only [Pt.U, Pt.locs, Pt.cells, Pt.slots] at X' l1 y1 z1 st hQ
  subst l1 y1 z1
  exact OGo.st st (hr v T' _ _ X' rfl hQ (Fr.app N hF))
theorem o_invokespecial (X : Stand p l e R s m args below meth c T locs cells slots) (K : OCx p s m meth c Z own nm bytes maxL ret) {index : Nat} {y : MethodName} {bytes' : ByteArray} {maxL' : Nat} {rm : Room} {Q' : Option Value → Heap → Prop} {a : Addr} (hd : decode bytes pc = .ok (.invokespecial index, 3)) (pc' : Nat) (hp : pc + 3 = pc') (hy1 : y.name = "<init>") (w1 : (Jvm.Cond.methodLink own index y).before a0 Z = true) (w2 : (Jvm.Cond.instanceMethod y).before a0 Z = true) (w3 : (Jvm.Cond.initialized y.cls).before a0 Z = true) (w4 : (Jvm.Cond.code y bytes' maxL' none).before a0 Z = true) (hy : y.cls ≠ "java/lang/invoke/MethodHandle" ∧ y.cls ≠ "java/lang/invoke/VarHandle")
    (argsL rest : List Value) (hst : St = argsL.reverse ++ .ref a :: rest) (con : OCon l Z n0 y bytes' maxL' none rm (.ref a :: argsL).toArray h Q') (eT : T.heap = h) (hsz : Ls.size = maxL) (hlen : ∀ sig, parseMethodDescriptor y.desc = some sig → argsL.length = sig.parameters.length) (hf : rm.frames + 1 ≤ R.frames) (W : Nat) (hW : (rest.map fun v => v.category).sum ≤ W) (hlo : W + (maxL' + 11) + rm.locals ≤ R.locals) (hc : cells + rm.cells ≤ R.cells) (hs : slots + rm.slots ≤ R.slots) (N : Fr n0 locs)
    (hr : ∀ v T' h' locs', Stand p l e R s m args below meth c T' locs' (cells + rm.cells) (slots + rm.slots) → T'.heap = h' → Q' v h' → Fr n0 locs' → OGo p e below Fn n0 Q (T'.setTop (mkF m pc' Ls (v.toList ++ rest)))) : OGo p e below Fn n0 Q (T.setTop (mkF m pc Ls St)) := by
  subst hp hst
  obtain ⟨v, vm₁, ⟨T', L', k', n'⟩, -, X', ⟨Lc, ⟨hQ, hF⟩, l1, y1, z1⟩, st⟩ := X.specialBack K.hx hy1 K.hown (mvT K.hZ w1) (mvT K.hZ w2) (mvT K.hZ w4) hy (backOf (W := W) (Q := fun v h L => Q' v h ∧ Fr n0 L) (con []) K.hZ w4 w3 hf hlo) (g := mkF m pc Ls (argsL.reverse ++ .ref a :: rest)) rfl (by rw [K.hml]; exact hsz) (Steps.refl _) (argsL := argsL) (rest := rest) hlen rfl (by show 2 * 0 + _ ≤ _; omega) (hb K.hby hd) (fun _ _ => ⟨rfl, eT, hc, hs⟩)
  dsimp only [Pt.U, Pt.locs, Pt.cells, Pt.slots] at X' l1 y1 z1 st hQ
  subst l1 y1 z1
  exact OGo.st (fun t k => st.trans k) (hr v T' _ _ X' rfl hQ (Fr.app N hF))
theorem o_invokevirtual (X : Stand p l e R s m args below meth c T locs cells slots) (K : OCx p s m meth c Z own nm bytes maxL ret) {index : Nat} {y : MethodName} {bytes' : ByteArray} {maxL' : Nat} {ret' : Option FieldType} {rm : Room} {Q' : Option Value → Heap → Prop} {C : String} {a : Addr} (hd : decode bytes pc = .ok (.invokevirtual index, 3)) (pc' : Nat) (hp : pc + 3 = pc') (w1 : (Jvm.Cond.methodLink own index y).before a0 Z = true) (w2 : (Jvm.Cond.declares y).before a0 Z = true) (wsel : (Jvm.Cond.selects C y y).before a0 Z = true) (w5 : (Jvm.Cond.instanceMethod y).before a0 Z = true) (w3 : (Jvm.Cond.initialized y.cls).before a0 Z = true) (w4 : (Jvm.Cond.code y bytes' maxL' ret').before a0 Z = true) (hy : y.cls ≠ "java/lang/invoke/MethodHandle" ∧ y.cls ≠ "java/lang/invoke/VarHandle")
    (E : Exa Z h a C) (argsL rest : List Value) (hst : St = argsL.reverse ++ .ref a :: rest) (con : OCon l Z n0 y bytes' maxL' ret' rm (.ref a :: argsL).toArray h Q') (eT : T.heap = h) (hsz : Ls.size = maxL) (hlen : ∀ sig, parseMethodDescriptor y.desc = some sig → argsL.length = sig.parameters.length) (hf : rm.frames + 1 ≤ R.frames) (W : Nat) (hW : (rest.map fun v => v.category).sum ≤ W) (hlo : W + (maxL' + 11) + rm.locals ≤ R.locals) (hc : cells + rm.cells ≤ R.cells) (hs : slots + rm.slots ≤ R.slots) (N : Fr n0 locs)
    (hr : ∀ v T' h' locs', Stand p l e R s m args below meth c T' locs' (cells + rm.cells) (slots + rm.slots) → T'.heap = h' → Q' v h' → Fr n0 locs' → OGo p e below Fn n0 Q (T'.setTop (mkF m pc' Ls (v.toList ++ rest)))) : OGo p e below Fn n0 Q (T.setTop (mkF m pc Ls St)) := by
  subst hp hst
  obtain ⟨cq, kq, qa, qb, qc⟩ := isOf K.hZ eT E
  obtain ⟨v, vm₁, ⟨T', L', k', n'⟩, -, X', ⟨Lc, ⟨hQ, hF⟩, l1, y1, z1⟩, st⟩ := X.virtualBack K.hx K.hown (mvT K.hZ w1) (mvT K.hZ w2) (notFace_of_selects (args := #[]) (mvT K.hZ wsel)) (mvT K.hZ wsel) (mvT K.hZ w5) hy (backOf (W := W) (Q := fun v h L => Q' v h ∧ Fr n0 L) (con []) K.hZ w4 w3 hf hlo) qa qc (g := mkF m pc Ls (argsL.reverse ++ .ref a :: rest)) rfl (by rw [K.hml]; exact hsz) (Steps.refl _) (argsL := argsL) (rest := rest) hlen rfl (by show 2 * 0 + _ ≤ _; omega) (hb K.hby hd) (fun _ _ => ⟨rfl, eT, hc, hs⟩)
  dsimp only [Pt.U, Pt.locs, Pt.cells, Pt.slots] at X' l1 y1 z1 st hQ
  subst l1 y1 z1
  exact OGo.st (fun t k => st.trans k) (hr v T' _ _ X' rfl hQ (Fr.app N hF))
theorem o_nb (x : Int32) : nar .byte (x.toInt8.toInt32) = x.toInt8.toInt32 := by
  show x.toInt8.toInt32.toInt8.toInt32 = _
  simp
theorem o_join {α : Type} (F : α → State) (P : α → Prop) {S : State} (hgo : (∀ b, P b → OGo p e below Fn n0 Q (F b)) → OGo p e below Fn n0 Q S) (hrest : ∀ b, P b → OGo p e below Fn n0 Q (F b)) : OGo p e below Fn n0 Q S := hgo hrest
theorem o_ind {α : Type} (F : α → State) (Inv : Nat → α → Prop) (hz : ∀ a, Inv 0 a → OGo p e below Fn n0 Q (F a)) (hs : ∀ d, (∀ a, Inv d a → OGo p e below Fn n0 Q (F a)) → ∀ a, Inv (d + 1) a → OGo p e below Fn n0 Q (F a)) (d : Nat) (a : α) (i : Inv d a) : OGo p e below Fn n0 Q (F a) := by
  induction d generalizing a with
  | zero => exact hz a i
  | succ d ih => exact hs d ih a i
theorem o_sta_keep {C n d : String} {v : Value} {ws : List Addr} (F : Sta Z h C n d v) (k : Keep h h' ws) (q : ∀ x ∈ ws, ∀ cell : Cell, h[x]? = some cell → cell.vm.isStatics = false) : Sta Z h' C n d v := by
  obtain ⟨cf, i, kk, f, st, cell, h1, h2, h3, h4, h5, h6, h7⟩ := F
  refine ⟨cf, i, kk, f, st, cell, h1, h2, h3, h4, k.2.1 _ _ h5 (fun z => ?_), h6, h7⟩
  rw [q st z cell h5] at h6
  cases h6
theorem o_nat {n : Nat} (h : n < 2147483648) : (n.toInt32).toNatClampNeg = n := by
  rw [← Int32.toNat_toInt, o_len h]
  rfl
theorem o_getD {n i : Nat} {f : Nat → Value} {d : Value} (h : i < n) : ((List.range n).map f).getD i d = f i := by
  simp [List.getD_eq_getElem?_getD, h]
theorem OAr.arv {a : Addr} {ty : FieldType} {n : Nat} {f : Nat → Value} (A : OAr Z h a ty n f) (dv : Value) : ∃ k, Arv Z h a k ty n.toInt32 ((List.range n).map f) dv := by
  obtain ⟨cl, A, r1, r2, r3, r4⟩ := A
  refine ⟨cl.cls, cl, A, rfl, by rw [r1, o_nat r2], ?_, fun k hk => ?_, fun i hi => ?_⟩
  · rw [Int32.lt_iff_toInt_lt, o_len r2]
    have : (0 : Int32).toInt = 0 := rfl
    omega
  · rw [o_getD (by omega)]
    exact r3 k (by omega)
  · rw [o_getD (by omega)]
    exact r4 i (by omega)
theorem OAr.of_arv {a : Addr} {k : ClassId} {ty : FieldType} {n : Nat} {vs : List Value} {dv : Value} {f : Nat → Value} (hn : n < 2147483648) (A : Arv Z h a k ty n.toInt32 vs dv) (q : ∀ j, j < n → vs.getD j dv = f j) : OAr Z h a ty n f := by
  obtain ⟨cl, A, -, r1, -, r3, r4⟩ := A
  rw [o_nat hn] at r1
  refine ⟨cl, A, r1, hn, fun j hj => ?_, fun j hj => ?_⟩
  · rw [← q j hj]
    exact r3 j (by omega)
  · rw [← q j hj]
    exact r4 j (by omega)
theorem OAr.of_arh {a : Addr} {k : ClassId} {ty : FieldType} {n : Nat} {vs : List Value} {dv : Value} {f : Nat → Value} (hn : n < 2147483648) (A : Arh Z h a k ty n.toInt32 [] vs dv) (q : ∀ j, j < n → vs.getD j dv = f j) : OAr Z h a ty n f := by
  obtain ⟨cl, A, -, r1, -, r3, r4⟩ := A
  rw [o_nat hn] at r1
  refine ⟨cl, A, r1, hn, fun j hj => ?_, fun j hj => ?_⟩
  · rw [← q j hj]
    exact r3 j (by omega)
  · rw [← q j hj]
    exact r4 j (by omega)
theorem o_splice {n' i j k : Nat} {f g : Nat → Value} {dd : Value} (h5 : j + k ≤ n') (q : Nat) (hq : q < n') : (((List.range n').map g).take j ++ (List.range k).map (fun z => f (i + z)) ++ ((List.range n').map g).drop (j + k)).getD q dd = if j ≤ q ∧ q < j + k then f (i + (q - j)) else g q := by
  rw [List.getD_eq_getElem?_getD]
  by_cases h1 : q < j
  · rw [if_neg (by omega), List.append_assoc, List.getElem?_append_left (by simp; omega)]
    simp [List.getElem?_take, h1, hq]
  · by_cases h2 : q < j + k
    · rw [if_pos ⟨by omega, h2⟩, List.append_assoc, List.getElem?_append_right (by simp; omega), List.getElem?_append_left (by simp; omega)]
      have e : min j n' = j := by omega
      have h3 : q - j < k := by omega
      simp [e, h3]
    · rw [if_neg (by omega), List.getElem?_append_right (by simp; omega)]
      have e : min j n' = j := by omega
      have e2 : j + k + (q - (j + k)) = q := by omega
      simp [List.getElem?_drop, e, e2, hq]
theorem o_arraycopy (X : Stand p l e R s m args below meth c T locs cells slots) (K : OCx p s m meth c Z own nm bytes maxL ret) {index : Nat} {a b : Addr} {n n' : Nat} {f g : Nat → Value} {ty : FieldType} {sp dp nn : Int32} {i j k : Nat} (hd : decode bytes pc = .ok (.invokestatic index, 3)) (pc' : Nat) (hp : pc + 3 = pc') (w1 : (Jvm.Cond.methodLink own index Jvm.Stand.acN).before a0 Z = true) (w2 : (Jvm.Cond.native Jvm.Stand.acN).before a0 Z = true) (w3 : (Jvm.Cond.static Jvm.Stand.acN).before a0 Z = true) (w4 : (Jvm.Cond.initialized "java/lang/System").before a0 Z = true) (eT : T.heap = h)
    (A : OAr Z h a ty n f) (B : OAr Z h b ty n' g) (hty : refKind ty = false) (h1 : sp.toInt = (i : Int)) (h2 : dp.toInt = (j : Int)) (h3 : nn.toInt = (k : Int)) (h4 : i + k ≤ n) (h5 : j + k ≤ n') (N : Fr n0 locs) (ge : n0 ≤ b) (hsz : Ls.size = maxL) (hf : 1 ≤ R.frames) (W : Nat) (hW : (St.map fun v => v.category).sum ≤ W) (hlo : W + (nativeFrameWords "java/lang/System" "arraycopy" 5 + 11) ≤ R.locals)
    (hr : ∀ T' h' locs', Stand p l e R s m args below meth c T' locs' cells slots → T'.heap = h' → Keep h h' [b] → OAr Z h' b ty n' (fun q => if j ≤ q ∧ q < j + k then f (i + (q - j)) else g q) → Fr n0 locs' → OGo p e below Fn n0 Q (T'.setTop (mkF m pc' Ls St))) : OGo p e below Fn n0 Q (T.setTop (mkF m pc Ls (.int nn :: .int dp :: .ref b :: .int sp :: .ref a :: St))) := by
  subst hp
  have c1 : sp.toNatClampNeg = i := by rw [← Int32.toNat_toInt, h1]; rfl
  have c2 : dp.toNatClampNeg = j := by rw [← Int32.toNat_toInt, h2]; rfl
  have c3 : nn.toNatClampNeg = k := by rw [← Int32.toNat_toInt, h3]; rfl
  have z0 : (0 : Int32).toInt = 0 := rfl
  have la := A.len
  have lb := B.len
  obtain ⟨ka, A'⟩ := A.arv .null
  obtain ⟨kb, B'⟩ := B.arv .null
  obtain ⟨T', h', L, X', e', N', K', C', st'⟩ := cpA X K.hx K.hZ K.hown w1 w2 w3 w4 eT (sp := sp) (dp := dp) (nn := nn) (us := (List.range k).map (fun z => f (i + z))) A' B' (Or.inl ⟨rfl, hty⟩) (by rw [Int32.lt_iff_toInt_lt, h1]; omega) (by rw [Int32.lt_iff_toInt_lt, h2]; omega) (by rw [Int32.lt_iff_toInt_lt, h3]; omega) (by rw [c1, c3, o_nat la]; exact h4) (by rw [c2, c3, o_nat lb]; exact h5)
    (by rw [c1, c3]; exact List.map_congr_left fun z hz => (o_getD (by have := List.mem_range.mp hz; omega)).symm) (by rw [c2, c3]; simp; exact h5) N ge (g := mkF m pc Ls (.int nn :: .int dp :: .ref b :: .int sp :: .ref a :: St)) rfl (by rw [K.hml]; exact hsz) rfl (hb K.hby hd) hf (W := W) (by show 2 * 0 + _ ≤ _; omega) hlo
  rw [c2, c3] at C'
  exact OGo.st st' (hr T' h' L X' e' K' (OAr.of_arv lb C' (fun q hq => o_splice h5 q hq)) N')
theorem o_clone (X : Stand p l e R s m args below meth c T locs cells slots) (K : OCx p s m meth c Z own nm bytes maxL ret) {index : Nat} {ad : String} {a : Addr} {n : Nat} {f : Nat → Value} {ty : FieldType} (hd : decode bytes pc = .ok (.invokevirtual index, 3)) (pc' : Nat) (hp : pc + 3 = pc') (w1 : (Jvm.Cond.methodLink own index ⟨ad, "clone", "()Ljava/lang/Object;"⟩).before a0 Z = true) (w2 : (Jvm.Cond.sameMethod ad "java/lang/Object" "clone" "()Ljava/lang/Object;").before a0 Z = true) (w3 : (Jvm.Cond.native ⟨"java/lang/Object", "clone", "()Ljava/lang/Object;"⟩).before a0 Z = true)
    (w4 : (Jvm.Cond.instanceMethod ⟨"java/lang/Object", "clone", "()Ljava/lang/Object;"⟩).before a0 Z = true) (w5 : (Jvm.Cond.selects ad ⟨ad, "clone", "()Ljava/lang/Object;"⟩ ⟨"java/lang/Object", "clone", "()Ljava/lang/Object;"⟩).before a0 Z = true) (w6 : (Jvm.Cond.castable ad "java/lang/Cloneable").before a0 Z = true)
    (eT : T.heap = h) (A : OAr Z h a ty n f) (E : Exa Z h a ad) (hsz : Ls.size = maxL) (hf : 1 ≤ R.frames) (W cap : Nat) (hW : (St.map fun v => v.category).sum ≤ W) (hl : W + 14 ≤ R.locals) (hcap : n ≤ cap) (hc : cells + 1 ≤ R.cells) (hsl : slots + cap ≤ R.slots)
    (hr : ∀ T' h' b, b = h.size → Stand p l e R s m args below meth c T' locs (cells + 1) (slots + cap) → T'.heap = h' → Ext h h' → OAr Z h' b ty n f → Exa Z h' b ad → OGo p e below Fn n0 Q (T'.setTop (mkF m pc' Ls (.ref b :: St)))) : OGo p e below Fn n0 Q (T.setTop (mkF m pc Ls (.ref a :: St))) := by
  subst hp
  have la := A.len
  obtain ⟨ka, A'⟩ := A.arv .null
  obtain ⟨T', h', X', e', E', C', D', st'⟩ := cloneH X K.hx K.hZ K.hown w1 w2 w3 w4 w5 w6 eT A'.arh E (g := mkF m pc Ls (.ref a :: St)) rfl (by rw [K.hml]; exact hsz) rfl (hb K.hby hd) hf (W := W) (cap := cap) (by show 2 * 0 + _ ≤ _; omega) hl (by rw [o_nat la]; exact hcap) hc hsl
  exact OGo.st st' (hr T' h' _ rfl X' e' E' (OAr.of_arh la C' (fun q hq => o_getD hq)) D')
theorem o_checkcast (X : Stand p l e R s m args below meth c T locs cells slots) (K : OCx p s m meth c Z own nm bytes maxL ret) {index : Nat} {C : String} {a : Addr} (hd : decode bytes pc = .ok (.checkcast index, 3)) (pc' : Nat) (hp : pc + 3 = pc') (w : (Jvm.Cond.classLink own index C).before a0 Z = true) (eT : T.heap = h) (F : Ins Z h a C true)
    (hr : ∀ T', Stand p l e R s m args below meth c T' locs cells slots → T'.heap = h → OGo p e below Fn n0 Q (T'.setTop (mkF m pc' Ls (.ref a :: St)))) : OGo p e below Fn n0 Q (T.setTop (mkF m pc Ls (.ref a :: St))) := by
  subst hp
  obtain ⟨T', X', e', st'⟩ := castY X K.hx K.hZ K.hown w eT F (g := mkF m pc Ls (.ref a :: St)) rfl rfl (hb K.hby hd)
  exact OGo.st st' (hr T' X' e')
theorem o_invokeprivate (X : Stand p l e R s m args below meth c T locs cells slots) (K : OCx p s m meth c Z own nm bytes maxL ret) {index : Nat} {y : MethodName} {bytes' : ByteArray} {maxL' : Nat} {ret' : Option FieldType} {rm : Room} {Q' : Option Value → Heap → Prop} {a : Addr} {C : String} (hd : decode bytes pc = .ok (.invokevirtual index, 3)) (pc' : Nat) (hp : pc + 3 = pc') (w1 : (Jvm.Cond.methodLink own index y).before a0 Z = true) (w2 : (Jvm.Cond.instanceMethod y).before a0 Z = true) (wp : (Jvm.Cond.privateMethod y).before a0 Z = true) (w3 : (Jvm.Cond.initialized y.cls).before a0 Z = true) (w4 : (Jvm.Cond.code y bytes' maxL' ret').before a0 Z = true) (hy : y.cls ≠ "java/lang/invoke/MethodHandle" ∧ y.cls ≠ "java/lang/invoke/VarHandle") (wi : ∃ k, (Jvm.Cond.instantiable y.cls k).before a0 Z = true)
    (E : Exa Z h a C) (argsL rest : List Value) (hst : St = argsL.reverse ++ .ref a :: rest) (con : OCon l Z n0 y bytes' maxL' ret' rm (.ref a :: argsL).toArray h Q') (eT : T.heap = h) (hsz : Ls.size = maxL) (hlen : ∀ sig, parseMethodDescriptor y.desc = some sig → argsL.length = sig.parameters.length) (hf : rm.frames + 1 ≤ R.frames) (W : Nat) (hW : (rest.map fun v => v.category).sum ≤ W) (hlo : W + (maxL' + 11) + rm.locals ≤ R.locals) (hc : cells + rm.cells ≤ R.cells) (hs : slots + rm.slots ≤ R.slots) (N : Fr n0 locs)
    (hr : ∀ v T' h' locs', Stand p l e R s m args below meth c T' locs' (cells + rm.cells) (slots + rm.slots) → T'.heap = h' → Q' v h' → Fr n0 locs' → OGo p e below Fn n0 Q (T'.setTop (mkF m pc' Ls (v.toList ++ rest)))) : OGo p e below Fn n0 Q (T.setTop (mkF m pc Ls St)) := by
  subst hp hst
  obtain ⟨cell, hcell, hobj⟩ := E.cell
  obtain ⟨kk, wi⟩ := wi
  have hpriv : s.PrivateAt y := Cond.privateMethod_at (mvP K.hZ wp (args := #[]))
  have wi' : (Jvm.Cond.instantiable y.cls kk).before args s = true := mvT K.hZ wi
  obtain ⟨cI, kI, i1, i2, i3, i4⟩ := Cond.instantiable_spec wi'
  have hsel : (Jvm.Cond.selects y.cls y y).before args s = true := selects_self_of_private i1 i2 (Bool.or_eq_false_iff.mp i4.1).1 hpriv (mvT K.hZ w2) hy
  obtain ⟨v, vm₁, ⟨T', L', k', n'⟩, -, X', ⟨Lc, ⟨hQ, hF⟩, l1, y1, z1⟩, st⟩ := X.privateBack K.hx K.hown (mvT K.hZ w1) (mvT K.hZ w2) hsel hpriv (mvT K.hZ w4) hy (backOf (W := W) (Q := fun v h L => Q' v h ∧ Fr n0 L) (con []) K.hZ w4 w3 hf hlo) (g := mkF m pc Ls (argsL.reverse ++ .ref a :: rest)) rfl (by rw [K.hml]; exact hsz) (Steps.refl _) (a := a) (by rw [eT]; exact hcell) hobj (argsL := argsL) (rest := rest) hlen rfl (by show 2 * 0 + _ ≤ _; omega) (hb K.hby hd) (fun _ _ => ⟨rfl, eT, hc, hs⟩)
  dsimp only [Pt.U, Pt.locs, Pt.cells, Pt.slots] at X' l1 y1 z1 st hQ
  subst l1 y1 z1
  exact OGo.st (fun t k => st.trans k) (hr v T' _ _ X' rfl hQ (Fr.app N hF))
/-- a body's contract, where it may intern String constants -/
def OConW (l : Launch) (Z : State) (n0 : Nat) (y : MethodName) (bytes : ByteArray) (maxL : Nat) (ret : Option FieldType) (rm : Room) (as : Array Value) (h0 : Heap) (Q : Option Value → Heap → Prop) : Prop :=
  ∀ ws, MetFree l y (head1 (Jvm.Cond.code y bytes maxL ret :: ws) rm) (fun a U => a = as ∧ Z.Warmed39 U.vm ∧ U.heap = h0) (fun _ _ _ _ _ => True) (fun _ U o U' => ∃ v L, o = .returned v ∧ (Q v U'.heap ∧ Fr n0 L) ∧ Jvm.ReturnedEndW U o U' L rm.cells rm.slots)
theorem OConW.of {y : MethodName} {rm : Room} {as : Array Value} {h0 : Heap} {Ls : Array Slot} (hpl : plainFor y = true) (ho : y.cls = own) (hn : y.name = nm) (hen : ∀ m, entryFrame m as maxL = mkF m 0 Ls [])
    (H : ∀ (p : Program) (e : Env) (s : State) (m : MethodId) (below : List Frame) (meth : Method) (c : Code) (T : State) (vm0 : Vm), Stand p l e rm (s.setVm vm0) m as below meth c T [] 0 0 → OCx p (s.setVm vm0) m meth c Z own nm bytes maxL ret → T.heap = h0 → s.Since vm0 h0.size → OGo p e below (OFinW s rm.cells rm.slots) n0 Q (T.setTop (mkF m 0 Ls []))) : OConW l Z n0 y bytes maxL ret rm as h0 Q := by
  intro ws
  refine MetFree.of_bodySF hpl hisR ?_
  intro p e s m args below meth c s₁ Bd hml0 hP hK
  obtain ⟨rfl, hZ, hh⟩ := hP
  subst ho hn
  obtain ⟨U, o, h1, r⟩ := H p e s m below meth c s₁ s.vm (Stand.of_body Bd) ⟨Bd.exec, hZ, Bd.bytes, hml0, findClass_of_methodNamed Bd.named, (name_of_methodNamed Bd.named Bd.method).1, Bd.returns, Bd.notSynchronized⟩ (by rw [← hh, Bd.state]; rfl) ((State.WarmedH.refl s).since _)
  exact ⟨U, o, castTop (hen m) h1, r⟩
theorem o_leaveW {vm0 : Vm} {k0 : Nat} (X : Stand p l e R (s.setVm vm0) m args below meth c T locs cells slots) (hS : s.Since vm0 k0) (eT : T.heap = h) (hk : k0 ≤ h.size) (hlk : meth.locks = false) {v : Option Value} (hv : meth.sig.returnType = none → v = none) {S : State} (hc : cells ≤ kc) (hs : slots ≤ ks) (N : Fr n0 locs) (hQ : Q v T.heap)
    (k : ∀ fs, (∀ (f : JFrame) (acts : List Action), f.method = m → f.locked = none → f.entered = [] → (doReturn e (T.setTop f) acts v).1 = T.setFrames fs) → Steps p.tables e below S (T.setFrames fs)) : OGo p e below (OFinW s kc ks) n0 Q S := by
  obtain ⟨fs, hr, hrun, hended, hW, hsame⟩ := X.leave (v := v) hv
  obtain ⟨a, b, c'⟩ := hS.ended (U := T.setFrames fs) hW (by show k0 ≤ T.heap.size; rw [eT]; exact hk) hsame
  exact ⟨_, _, k fs hr, hrun, hended, v, locs, rfl, ⟨hQ, N⟩, ⟨v, rfl⟩, a, b, c'.mono hc hs⟩
theorem o_ireturnW {vm0 : Vm} {k0 : Nat} (X : Stand p l e R (s.setVm vm0) m args below meth c T locs cells slots) (hS : s.Since vm0 k0) (eT : T.heap = h) (hk : k0 ≤ h.size) (K : OCx p (s.setVm vm0) m meth c Z own nm bytes maxL (some .int)) {z : Int32} (hd : decode bytes pc = .ok (.ireturn, 1)) (hc : cells ≤ kc) (hs : slots ≤ ks) (N : Fr n0 locs) (hQ : Q (some (.int z)) T.heap) : OGo p e below (OFinW s kc ks) n0 Q (T.setTop (mkF m pc Ls (.int z :: St))) :=
  o_leaveW X hS eT hk K.hlk (fun h => by rw [K.hret] at h; cases h) hc hs N hQ (fun fs hr => retI X K.hx K.hret (hb K.hby hd) hr)
theorem o_ireturnNW {t : FieldType} {vm0 : Vm} {k0 : Nat} (X : Stand p l e R (s.setVm vm0) m args below meth c T locs cells slots) (hS : s.Since vm0 k0) (eT : T.heap = h) (hk : k0 ≤ h.size) (K : OCx p (s.setVm vm0) m meth c Z own nm bytes maxL (some t)) (ht : t = .boolean ∨ t = .byte ∨ t = .char ∨ t = .short) {z : Int32} (hd : decode bytes pc = .ok (.ireturn, 1)) (hc : cells ≤ kc) (hs : slots ≤ ks) (N : Fr n0 locs) (hQ : Q (some (.int (nar t z))) T.heap) : OGo p e below (OFinW s kc ks) n0 Q (T.setTop (mkF m pc Ls (.int z :: St))) :=
  o_leaveW X hS eT hk K.hlk (fun h => by rw [K.hret] at h; cases h) hc hs N hQ (fun fs hr => retN X K.hx K.hret ht (hb K.hby hd) hr)
theorem o_areturnW {t : FieldType} {vm0 : Vm} {k0 : Nat} (X : Stand p l e R (s.setVm vm0) m args below meth c T locs cells slots) (hS : s.Since vm0 k0) (eT : T.heap = h) (hk : k0 ≤ h.size) (K : OCx p (s.setVm vm0) m meth c Z own nm bytes maxL (some t)) (ht : t.isReference = true) {z : Value} (hn : narrow t z = z) (hz : z.isRef = true) (hd : decode bytes pc = .ok (.areturn, 1)) (hc : cells ≤ kc) (hs : slots ≤ ks) (N : Fr n0 locs) (hQ : Q (some z) T.heap) : OGo p e below (OFinW s kc ks) n0 Q (T.setTop (mkF m pc Ls (z :: St))) :=
  o_leaveW X hS eT hk K.hlk (fun h => by rw [K.hret] at h; cases h) hc hs N hQ (fun fs hr => retOut X K.hx K.hret hn (Or.inr (Or.inr (Or.inr (Or.inr ⟨rfl, ht, hz⟩)))) (hb K.hby hd) hr)
theorem o_returnW {vm0 : Vm} {k0 : Nat} (X : Stand p l e R (s.setVm vm0) m args below meth c T locs cells slots) (hS : s.Since vm0 k0) (eT : T.heap = h) (hk : k0 ≤ h.size) (K : OCx p (s.setVm vm0) m meth c Z own nm bytes maxL (none)) (hd : decode bytes pc = .ok (.return_, 1)) (hc : cells ≤ kc) (hs : slots ≤ ks) (N : Fr n0 locs) (hQ : Q none T.heap) : OGo p e below (OFinW s kc ks) n0 Q (T.setTop (mkF m pc Ls [])) :=
  o_leaveW X hS eT hk K.hlk (fun _ => rfl) hc hs N hQ (fun fs hr => X.returnOut K.hx K.hret (hb K.hby hd) hr)
theorem o_ldcS {vm0 : Vm} {k0 : Nat} (X : Stand p l e R (s.setVm vm0) m args below meth c T locs cells slots) (K : OCx p (s.setVm vm0) m meth c Z own nm bytes maxL ret) {text : String} {index : Nat} (hS : s.Since vm0 k0) (hd : decode bytes pc = .ok (.ldc index, 2)) (pc' : Nat) (hp : pc + 2 = pc') (w : (Jvm.Cond.stringLink own index text).before a0 Z = true) (wS : ∀ a ∈ Bundle.stringAtoms, a.before a0 Z = true) (eT : T.heap = h) (hk : k0 ≤ h.size) (n : Nat) (hn : 4 * text.toList.length ≤ n) (hbig : n ≤ 536870912) (hc : cells + 2 ≤ R.cells) (hl : slots + (n + 4) ≤ R.slots)
    (hr : ∀ T' h' a k1, Stand p l e R (s.setVm T'.vm) m args below meth c T' locs (cells + 2) (slots + (n + 4)) → OCx p (s.setVm T'.vm) m meth c Z own nm bytes maxL ret → T'.heap = h' → Ext h h' → s.Since T'.vm k1 → k1 ≤ h'.size → OGo p e below Fn n0 Q (T'.setTop (mkF m pc' Ls (.ref a :: St)))) : OGo p e below Fn n0 Q (T.setTop (mkF m pc Ls St)) := by
  subst hp
  obtain ⟨a, T', h', k1, X', e', E', S', q', Z', o', st'⟩ := ldcS X K.hx K.hZ (own := own) (text := text) K.hown w wS eT hS hk (g := mkF m pc Ls St) rfl (hb K.hby hd) hn hbig hc hl
  exact OGo.st st' (hr T' h' a k1 X' ⟨K.hx, Z', K.hby, K.hml, o', K.hnm, K.hret, K.hlk⟩ e' E' S' q')
theorem o_backW {R : Room} {s : State} {y : MethodName} {bytes : ByteArray} {maxL : Nat} {ret : Option FieldType} {rm : Room} {len W : Nat} {as' : Array Value} {Q' : Option Value → Heap → Prop}
    (hM : OConW l Z n0 y bytes maxL ret rm as' h Q') (hZ : Z.Warmed39 s.vm) (wc : (Jvm.Cond.code y bytes maxL ret).before a0 Z = true) (wz : (Jvm.Cond.initialized y.cls).before a0 Z = true) (hf : rm.frames + 1 ≤ R.frames) (hl : W + (maxL + 11) + rm.locals ≤ R.locals) :
    BackS l R p e below s args y len W (fun A a => a = as' ∧ A.U.heap = h ∧ A.cells + rm.cells ≤ R.cells ∧ A.slots + rm.slots ≤ R.slots)
      (fun A _ v B => ∃ L, (Q' v B.U.heap ∧ Fr n0 L) ∧ B.locs = A.locs ++ L ∧ B.cells = A.cells + rm.cells ∧ B.slots = A.slots + rm.slots) :=
  BackS.of_freeW (bytes := bytes) (maxL := maxL) (ret := ret) (E := fun _ _ o t L k n => k = rm.cells ∧ n = rm.slots ∧ ∃ v, o = .returned v ∧ Q' v t.heap ∧ Fr n0 L) (hM []) hf hl
    (fun m meth c A a Y hp => have hU : Z.Warmed39 A.U.vm := wtrans hZ Y.warmed
      ⟨by show (Jvm.Cond.and _ .tt).before a A.U = true; rw [Cond.before_and, mv hU wc]; rfl, mv hU wc, mv hU wz, hp.2.2.1, hp.2.2.2⟩)
    (fun m meth c A a g mk Y hp => ⟨hp.1, wtrans hZ Y.warmed, hp.2.1⟩) (fun _ _ _ _ _ _ _ _ _ => trivial)
    (fun _ _ _ _ ⟨v, L, h1, h2, h3⟩ => ⟨L, _, _, h3, rfl, rfl, v, h1, h2⟩)
    (fun m meth c A a g mk v t L k n Y hp _ _ ⟨e1, e2, v', e3, e4⟩ => by cases e3; subst e1 e2; exact ⟨L, e4, rfl, rfl, rfl⟩)
theorem o_rebase {vm0 : Vm} {k0 k1 : Nat} {vm1 : Vm} (K : OCx p (s.setVm vm0) m meth c Z own nm bytes maxL ret) (hS : (s.setVm vm0).Since vm1 k1) : OCx p (s.setVm vm1) m meth c Z own nm bytes maxL ret :=
  ⟨K.hx, State.Warmed39.trans K.hZ hS.1, K.hby, K.hml, by have q := K.hown; have q2 : (s.setVm vm0).Warmed39 vm1 := hS.1; rw [← q2.alike.findClass] at q; exact q, K.hnm, K.hret, K.hlk⟩
theorem o_invokestaticW {vm0 : Vm} {k0 : Nat} (X : Stand p l e R (s.setVm vm0) m args below meth c T locs cells slots) (K : OCx p (s.setVm vm0) m meth c Z own nm bytes maxL ret) {index : Nat} {y : MethodName} {bytes' : ByteArray} {maxL' : Nat} {ret' : Option FieldType} {rm : Room} {Q' : Option Value → Heap → Prop} (hS : s.Since vm0 k0) (hk : k0 ≤ h.size) (hd : decode bytes pc = .ok (.invokestatic index, 3)) (pc' : Nat) (hp : pc + 3 = pc') (w1 : (Jvm.Cond.methodLink own index y).before a0 Z = true) (w2 : (Jvm.Cond.static y).before a0 Z = true) (w3 : (Jvm.Cond.initialized y.cls).before a0 Z = true) (w4 : (Jvm.Cond.code y bytes' maxL' ret').before a0 Z = true) (hy : y.cls ≠ "java/lang/invoke/MethodHandle" ∧ y.cls ≠ "java/lang/invoke/VarHandle")
    (argsL rest : List Value) (hst : St = argsL.reverse ++ rest) (con : OConW l Z n0 y bytes' maxL' ret' rm argsL.toArray h Q') (eT : T.heap = h) (hsz : Ls.size = maxL) (hlen : ∀ sig, parseMethodDescriptor y.desc = some sig → argsL.length = sig.parameters.length) (hf : rm.frames + 1 ≤ R.frames) (W : Nat) (hW : (rest.map fun v => v.category).sum ≤ W) (hlo : W + (maxL' + 11) + rm.locals ≤ R.locals) (hc : cells + rm.cells ≤ R.cells) (hs : slots + rm.slots ≤ R.slots) (N : Fr n0 locs)
    (hr : ∀ v T' h' locs' k1, Stand p l e R (s.setVm T'.vm) m args below meth c T' locs' (cells + rm.cells) (slots + rm.slots) → OCx p (s.setVm T'.vm) m meth c Z own nm bytes maxL ret → T'.heap = h' → s.Since T'.vm k1 → k1 ≤ h'.size → Q' v h' → Fr n0 locs' → OGo p e below Fn n0 Q (T'.setTop (mkF m pc' Ls (v.toList ++ rest)))) : OGo p e below Fn n0 Q (T.setTop (mkF m pc Ls St)) := by
  subst hp hst
  have w2' : (Jvm.Cond.static y).before args (s.setVm vm0) = true := mvT K.hZ w2
  have w4' : (Jvm.Cond.code y bytes' maxL' ret').before args (s.setVm vm0) = true := mvT K.hZ w4
  obtain ⟨mk, hnamed⟩ := Cond.named_of_code (x := y) w4'
  obtain ⟨methM, cM, hmethM, -, -, -, -, -, -, hsigM⟩ := Cond.code_spec hnamed w4'
  obtain ⟨v, vm₁, ⟨T', L', k', n'⟩, -, X', S', g', ⟨Lc, ⟨hQ, hF⟩, l1, y1, z1⟩, st⟩ := X.staticBackS K.hx K.hown (mvT K.hZ w1) w2' (mvT K.hZ w3) hnamed hmethM hsigM hy (o_backW (W := W) con K.hZ w4 w3 hf hlo) (g := mkF m pc Ls (argsL.reverse ++ rest)) rfl (by rw [K.hml]; exact hsz) (Steps.refl _) (argsL := argsL) (rest := rest) hlen rfl (by show 2 * 0 + _ ≤ _; omega) (hb K.hby hd) (fun _ _ => ⟨rfl, eT, hc, hs⟩)
  dsimp only [Pt.U, Pt.locs, Pt.cells, Pt.slots] at X' l1 y1 z1 st hQ S' g'
  subst l1 y1 z1
  rw [eT] at g'
  exact OGo.st (fun t k => st.trans k) (hr v T' _ _ _ X' (o_rebase K (k0 := k0) S') rfl (State.Since.trans hS S' (Nat.le_trans hk g')) (Nat.le_refl _) hQ (Fr.app N hF))
theorem o_invokevirtualW {vm0 : Vm} {k0 : Nat} (X : Stand p l e R (s.setVm vm0) m args below meth c T locs cells slots) (K : OCx p (s.setVm vm0) m meth c Z own nm bytes maxL ret) {index : Nat} {y : MethodName} {bytes' : ByteArray} {maxL' : Nat} {ret' : Option FieldType} {rm : Room} {Q' : Option Value → Heap → Prop} {C : String} {a : Addr} (hS : s.Since vm0 k0) (hk : k0 ≤ h.size) (hd : decode bytes pc = .ok (.invokevirtual index, 3)) (pc' : Nat) (hp : pc + 3 = pc') (w1 : (Jvm.Cond.methodLink own index y).before a0 Z = true) (w2 : (Jvm.Cond.declares y).before a0 Z = true) (wsel : (Jvm.Cond.selects C y y).before a0 Z = true) (w5 : (Jvm.Cond.instanceMethod y).before a0 Z = true) (w3 : (Jvm.Cond.initialized y.cls).before a0 Z = true) (w4 : (Jvm.Cond.code y bytes' maxL' ret').before a0 Z = true) (hy : y.cls ≠ "java/lang/invoke/MethodHandle" ∧ y.cls ≠ "java/lang/invoke/VarHandle")
    (E : Exa Z h a C) (argsL rest : List Value) (hst : St = argsL.reverse ++ .ref a :: rest) (con : OConW l Z n0 y bytes' maxL' ret' rm (.ref a :: argsL).toArray h Q') (eT : T.heap = h) (hsz : Ls.size = maxL) (hlen : ∀ sig, parseMethodDescriptor y.desc = some sig → argsL.length = sig.parameters.length) (hf : rm.frames + 1 ≤ R.frames) (W : Nat) (hW : (rest.map fun v => v.category).sum ≤ W) (hlo : W + (maxL' + 11) + rm.locals ≤ R.locals) (hc : cells + rm.cells ≤ R.cells) (hs : slots + rm.slots ≤ R.slots) (N : Fr n0 locs)
    (hr : ∀ v T' h' locs' k1, Stand p l e R (s.setVm T'.vm) m args below meth c T' locs' (cells + rm.cells) (slots + rm.slots) → OCx p (s.setVm T'.vm) m meth c Z own nm bytes maxL ret → T'.heap = h' → s.Since T'.vm k1 → k1 ≤ h'.size → Q' v h' → Fr n0 locs' → OGo p e below Fn n0 Q (T'.setTop (mkF m pc' Ls (v.toList ++ rest)))) : OGo p e below Fn n0 Q (T.setTop (mkF m pc Ls St)) := by
  subst hp hst
  obtain ⟨cq, kq, qa, qb, qc⟩ := isOf K.hZ eT E
  obtain ⟨v, vm₁, ⟨T', L', k', n'⟩, -, X', S', g', ⟨Lc, ⟨hQ, hF⟩, l1, y1, z1⟩, st⟩ := X.virtualBackS K.hx K.hown (mvT K.hZ w1) (mvT K.hZ w2) (notFace_of_selects (args := #[]) (mvT K.hZ wsel)) (mvT K.hZ wsel) (mvT K.hZ w5) hy (o_backW (W := W) con K.hZ w4 w3 hf hlo) qa qc (g := mkF m pc Ls (argsL.reverse ++ .ref a :: rest)) rfl (by rw [K.hml]; exact hsz) (Steps.refl _) (argsL := argsL) (rest := rest) hlen rfl (by show 2 * 0 + _ ≤ _; omega) (hb K.hby hd) (fun _ _ => ⟨rfl, eT, hc, hs⟩)
  dsimp only [Pt.U, Pt.locs, Pt.cells, Pt.slots] at X' l1 y1 z1 st hQ S' g'
  subst l1 y1 z1
  rw [eT] at g'
  exact OGo.st (fun t k => st.trans k) (hr v T' _ _ _ X' (o_rebase K (k0 := k0) S') rfl (State.Since.trans hS S' (Nat.le_trans hk g')) (Nat.le_refl _) hQ (Fr.app N hF))
abbrev OW (Z : State) (a0 : Array Value) : Prop := ∀ d ∈ tables_1, d.before a0 Z = true
end Own
set_option maxRecDepth 65536
theorem w_0 {Z : State} {a0 : Array Value} (hw : OW Z a0) : (Jvm.Cond.classLink "com/example/tourbillon/tourbillon/NetClientOptionsSetConnectTimeoutPinLaw" (8 : Nat) "com/example/tourbillon/tourbillon/NetClientOptions").before a0 Z = true := hw _ (List.mem_of_getElem? (i := 0) rfl)
theorem w_1 {Z : State} {a0 : Array Value} (hw : OW Z a0) : (Jvm.Cond.instantiable "com/example/tourbillon/tourbillon/NetClientOptions" (2 : Nat)).before a0 Z = true := hw _ (List.mem_of_getElem? (i := 1) rfl)
theorem w_2 {Z : State} {a0 : Array Value} (hw : OW Z a0) : (Jvm.Cond.initialized "com/example/tourbillon/tourbillon/NetClientOptions").before a0 Z = true := hw _ (List.mem_of_getElem? (i := 2) rfl)
theorem w_3 {Z : State} {a0 : Array Value} (hw : OW Z a0) : (Jvm.Cond.methodLink "com/example/tourbillon/tourbillon/NetClientOptionsSetConnectTimeoutPinLaw" (10 : Nat) ({ cls := "com/example/tourbillon/tourbillon/NetClientOptions", name := "<init>", desc := "()V" } : Jvm.MethodName)).before a0 Z = true := hw _ (List.mem_of_getElem? (i := 3) rfl)
theorem w_4 {Z : State} {a0 : Array Value} (hw : OW Z a0) : (Jvm.Cond.instanceMethod ({ cls := "com/example/tourbillon/tourbillon/NetClientOptions", name := "<init>", desc := "()V" } : Jvm.MethodName)).before a0 Z = true := hw _ (List.mem_of_getElem? (i := 4) rfl)
theorem w_5 {Z : State} {a0 : Array Value} (hw : OW Z a0) : (Jvm.Cond.code ({ cls := "com/example/tourbillon/tourbillon/NetClientOptions", name := "<init>", desc := "()V" } : Jvm.MethodName) prog_11_method_1_code (1 : Nat) (Option.none : Option Jvm.ClassFile.FieldType)).before a0 Z = true := hw _ (List.mem_of_getElem? (i := 5) rfl)
theorem w_6 {Z : State} {a0 : Array Value} (hw : OW Z a0) : (Jvm.Cond.methodLink "com/example/tourbillon/tourbillon/NetClientOptions" (1 : Nat) ({ cls := "java/lang/Object", name := "<init>", desc := "()V" } : Jvm.MethodName)).before a0 Z = true := hw _ (List.mem_of_getElem? (i := 6) rfl)
theorem w_7 {Z : State} {a0 : Array Value} (hw : OW Z a0) : (Jvm.Cond.instanceMethod ({ cls := "java/lang/Object", name := "<init>", desc := "()V" } : Jvm.MethodName)).before a0 Z = true := hw _ (List.mem_of_getElem? (i := 7) rfl)
theorem w_8 {Z : State} {a0 : Array Value} (hw : OW Z a0) : (Jvm.Cond.code ({ cls := "java/lang/Object", name := "<init>", desc := "()V" } : Jvm.MethodName) object_method_1_code (1 : Nat) (Option.none : Option Jvm.ClassFile.FieldType)).before a0 Z = true := hw _ (List.mem_of_getElem? (i := 8) rfl)
theorem w_9 {Z : State} {a0 : Array Value} (hw : OW Z a0) : (Jvm.Cond.constant "com/example/tourbillon/tourbillon/NetClientOptions" (7 : Nat) (60000 : Int32)).before a0 Z = true := hw _ (List.mem_of_getElem? (i := 9) rfl)
theorem w_10 {Z : State} {a0 : Array Value} (hw : OW Z a0) : (Jvm.Cond.fieldLink "com/example/tourbillon/tourbillon/NetClientOptions" (8 : Nat) "com/example/tourbillon/tourbillon/NetClientOptions" "connectTimeout" "I").before a0 Z = true := hw _ (List.mem_of_getElem? (i := 10) rfl)
theorem w_11 {Z : State} {a0 : Array Value} (hw : OW Z a0) : (Jvm.Cond.lays "com/example/tourbillon/tourbillon/NetClientOptions" "com/example/tourbillon/tourbillon/NetClientOptions" "connectTimeout" "I").before a0 Z = true := hw _ (List.mem_of_getElem? (i := 11) rfl)
theorem w_12 {Z : State} {a0 : Array Value} (hw : OW Z a0) : (Jvm.Cond.methodLink "com/example/tourbillon/tourbillon/NetClientOptionsSetConnectTimeoutPinLaw" (11 : Nat) ({ cls := "com/example/tourbillon/tourbillon/NetClientOptions", name := "getConnectTimeout", desc := "()I" } : Jvm.MethodName)).before a0 Z = true := hw _ (List.mem_of_getElem? (i := 12) rfl)
theorem w_13 {Z : State} {a0 : Array Value} (hw : OW Z a0) : (Jvm.Cond.declares ({ cls := "com/example/tourbillon/tourbillon/NetClientOptions", name := "getConnectTimeout", desc := "()I" } : Jvm.MethodName)).before a0 Z = true := hw _ (List.mem_of_getElem? (i := 13) rfl)
theorem w_14 {Z : State} {a0 : Array Value} (hw : OW Z a0) : (Jvm.Cond.instanceMethod ({ cls := "com/example/tourbillon/tourbillon/NetClientOptions", name := "getConnectTimeout", desc := "()I" } : Jvm.MethodName)).before a0 Z = true := hw _ (List.mem_of_getElem? (i := 14) rfl)
theorem w_15 {Z : State} {a0 : Array Value} (hw : OW Z a0) : (Jvm.Cond.selects "com/example/tourbillon/tourbillon/NetClientOptions" ({ cls := "com/example/tourbillon/tourbillon/NetClientOptions", name := "getConnectTimeout", desc := "()I" } : Jvm.MethodName) ({ cls := "com/example/tourbillon/tourbillon/NetClientOptions", name := "getConnectTimeout", desc := "()I" } : Jvm.MethodName)).before a0 Z = true := hw _ (List.mem_of_getElem? (i := 15) rfl)
theorem w_16 {Z : State} {a0 : Array Value} (hw : OW Z a0) : (Jvm.Cond.code ({ cls := "com/example/tourbillon/tourbillon/NetClientOptions", name := "getConnectTimeout", desc := "()I" } : Jvm.MethodName) prog_11_method_2_code (1 : Nat) (Option.some Jvm.ClassFile.FieldType.int)).before a0 Z = true := hw _ (List.mem_of_getElem? (i := 16) rfl)
theorem w_17 {Z : State} {a0 : Array Value} (hw : OW Z a0) : (Jvm.Cond.constant "com/example/tourbillon/tourbillon/NetClientOptionsSetConnectTimeoutPinLaw" (15 : Nat) (60000 : Int32)).before a0 Z = true := hw _ (List.mem_of_getElem? (i := 17) rfl)
theorem w_18 {Z : State} {a0 : Array Value} (hw : OW Z a0) : (Jvm.Cond.constant "com/example/tourbillon/tourbillon/NetClientOptionsSetConnectTimeoutPinLaw" (7 : Nat) (2147483647 : Int32)).before a0 Z = true := hw _ (List.mem_of_getElem? (i := 18) rfl)
theorem w_19 {Z : State} {a0 : Array Value} (hw : OW Z a0) : (Jvm.Cond.methodLink "com/example/tourbillon/tourbillon/NetClientOptionsSetConnectTimeoutPinLaw" (16 : Nat) ({ cls := "com/example/tourbillon/tourbillon/NetClientOptions", name := "setIdleTimeout", desc := "(I)Lcom/example/tourbillon/tourbillon/NetClientOptions;" } : Jvm.MethodName)).before a0 Z = true := hw _ (List.mem_of_getElem? (i := 19) rfl)
theorem w_20 {Z : State} {a0 : Array Value} (hw : OW Z a0) : (Jvm.Cond.declares ({ cls := "com/example/tourbillon/tourbillon/NetClientOptions", name := "setIdleTimeout", desc := "(I)Lcom/example/tourbillon/tourbillon/NetClientOptions;" } : Jvm.MethodName)).before a0 Z = true := hw _ (List.mem_of_getElem? (i := 20) rfl)
theorem w_21 {Z : State} {a0 : Array Value} (hw : OW Z a0) : (Jvm.Cond.instanceMethod ({ cls := "com/example/tourbillon/tourbillon/NetClientOptions", name := "setIdleTimeout", desc := "(I)Lcom/example/tourbillon/tourbillon/NetClientOptions;" } : Jvm.MethodName)).before a0 Z = true := hw _ (List.mem_of_getElem? (i := 21) rfl)
theorem w_22 {Z : State} {a0 : Array Value} (hw : OW Z a0) : (Jvm.Cond.selects "com/example/tourbillon/tourbillon/NetClientOptions" ({ cls := "com/example/tourbillon/tourbillon/NetClientOptions", name := "setIdleTimeout", desc := "(I)Lcom/example/tourbillon/tourbillon/NetClientOptions;" } : Jvm.MethodName) ({ cls := "com/example/tourbillon/tourbillon/NetClientOptions", name := "setIdleTimeout", desc := "(I)Lcom/example/tourbillon/tourbillon/NetClientOptions;" } : Jvm.MethodName)).before a0 Z = true := hw _ (List.mem_of_getElem? (i := 22) rfl)
theorem w_23 {Z : State} {a0 : Array Value} (hw : OW Z a0) : (Jvm.Cond.code ({ cls := "com/example/tourbillon/tourbillon/NetClientOptions", name := "setIdleTimeout", desc := "(I)Lcom/example/tourbillon/tourbillon/NetClientOptions;" } : Jvm.MethodName) prog_11_method_5_code (2 : Nat) (Option.some (Jvm.ClassFile.FieldType.object "com/example/tourbillon/tourbillon/NetClientOptions"))).before a0 Z = true := hw _ (List.mem_of_getElem? (i := 23) rfl)
theorem w_24 {Z : State} {a0 : Array Value} (hw : OW Z a0) : (Jvm.Cond.methodLink "com/example/tourbillon/tourbillon/NetClientOptions" (26 : Nat) ({ cls := "com/example/tourbillon/tourbillon/Settings", name := "idleTimeout", desc := "(I)I" } : Jvm.MethodName)).before a0 Z = true := hw _ (List.mem_of_getElem? (i := 24) rfl)
theorem w_25 {Z : State} {a0 : Array Value} (hw : OW Z a0) : (Jvm.Cond.static ({ cls := "com/example/tourbillon/tourbillon/Settings", name := "idleTimeout", desc := "(I)I" } : Jvm.MethodName)).before a0 Z = true := hw _ (List.mem_of_getElem? (i := 25) rfl)
theorem w_26 {Z : State} {a0 : Array Value} (hw : OW Z a0) : (Jvm.Cond.initialized "com/example/tourbillon/tourbillon/Settings").before a0 Z = true := hw _ (List.mem_of_getElem? (i := 26) rfl)
theorem w_27 {Z : State} {a0 : Array Value} (hw : OW Z a0) : (Jvm.Cond.code ({ cls := "com/example/tourbillon/tourbillon/Settings", name := "idleTimeout", desc := "(I)I" } : Jvm.MethodName) prog_17_method_3_code (1 : Nat) (Option.some Jvm.ClassFile.FieldType.int)).before a0 Z = true := hw _ (List.mem_of_getElem? (i := 27) rfl)
theorem w_28 {Z : State} {a0 : Array Value} (hw : OW Z a0) : (Jvm.Cond.stringLink "com/example/tourbillon/tourbillon/Settings" (16 : Nat) "an idle timeout").before a0 Z = true := hw _ (List.mem_of_getElem? (i := 28) rfl)
theorem w_36 {Z : State} {a0 : Array Value} (hw : OW Z a0) : (Jvm.Cond.methodLink "com/example/tourbillon/tourbillon/Settings" (18 : Nat) ({ cls := "com/example/tourbillon/tourbillon/Settings", name := "atLeast", desc := "(Ljava/lang/String;II)I" } : Jvm.MethodName)).before a0 Z = true := hw _ (List.mem_of_getElem? (i := 36) rfl)
theorem w_37 {Z : State} {a0 : Array Value} (hw : OW Z a0) : (Jvm.Cond.static ({ cls := "com/example/tourbillon/tourbillon/Settings", name := "atLeast", desc := "(Ljava/lang/String;II)I" } : Jvm.MethodName)).before a0 Z = true := hw _ (List.mem_of_getElem? (i := 37) rfl)
theorem w_38 {Z : State} {a0 : Array Value} (hw : OW Z a0) : (Jvm.Cond.code ({ cls := "com/example/tourbillon/tourbillon/Settings", name := "atLeast", desc := "(Ljava/lang/String;II)I" } : Jvm.MethodName) prog_17_method_2_code (3 : Nat) (Option.some Jvm.ClassFile.FieldType.int)).before a0 Z = true := hw _ (List.mem_of_getElem? (i := 38) rfl)
theorem w_39 {Z : State} {a0 : Array Value} (hw : OW Z a0) : (Jvm.Cond.fieldLink "com/example/tourbillon/tourbillon/NetClientOptions" (23 : Nat) "com/example/tourbillon/tourbillon/NetClientOptions" "idleTimeout" "I").before a0 Z = true := hw _ (List.mem_of_getElem? (i := 39) rfl)
theorem w_40 {Z : State} {a0 : Array Value} (hw : OW Z a0) : (Jvm.Cond.lays "com/example/tourbillon/tourbillon/NetClientOptions" "com/example/tourbillon/tourbillon/NetClientOptions" "idleTimeout" "I").before a0 Z = true := hw _ (List.mem_of_getElem? (i := 40) rfl)
theorem w_41 {Z : State} {a0 : Array Value} (hw : OW Z a0) : (Jvm.Cond.methodLink "com/example/tourbillon/tourbillon/NetClientOptionsSetConnectTimeoutPinLaw" (20 : Nat) ({ cls := "com/example/tourbillon/tourbillon/NetClientOptionsSetConnectTimeoutPinLaw", name := "valid", desc := "(I)I" } : Jvm.MethodName)).before a0 Z = true := hw _ (List.mem_of_getElem? (i := 41) rfl)
theorem w_42 {Z : State} {a0 : Array Value} (hw : OW Z a0) : (Jvm.Cond.static ({ cls := "com/example/tourbillon/tourbillon/NetClientOptionsSetConnectTimeoutPinLaw", name := "valid", desc := "(I)I" } : Jvm.MethodName)).before a0 Z = true := hw _ (List.mem_of_getElem? (i := 42) rfl)
theorem w_43 {Z : State} {a0 : Array Value} (hw : OW Z a0) : (Jvm.Cond.initialized "com/example/tourbillon/tourbillon/NetClientOptionsSetConnectTimeoutPinLaw").before a0 Z = true := hw _ (List.mem_of_getElem? (i := 43) rfl)
theorem w_44 {Z : State} {a0 : Array Value} (hw : OW Z a0) : (Jvm.Cond.code ({ cls := "com/example/tourbillon/tourbillon/NetClientOptionsSetConnectTimeoutPinLaw", name := "valid", desc := "(I)I" } : Jvm.MethodName) method_2_code (2 : Nat) (Option.some Jvm.ClassFile.FieldType.int)).before a0 Z = true := hw _ (List.mem_of_getElem? (i := 44) rfl)
theorem w_45 {Z : State} {a0 : Array Value} (hw : OW Z a0) : (Jvm.Cond.methodLink "com/example/tourbillon/tourbillon/NetClientOptionsSetConnectTimeoutPinLaw" (26 : Nat) ({ cls := "com/example/tourbillon/tourbillon/NetClientOptions", name := "setConnectTimeout", desc := "(I)Lcom/example/tourbillon/tourbillon/NetClientOptions;" } : Jvm.MethodName)).before a0 Z = true := hw _ (List.mem_of_getElem? (i := 45) rfl)
theorem w_46 {Z : State} {a0 : Array Value} (hw : OW Z a0) : (Jvm.Cond.declares ({ cls := "com/example/tourbillon/tourbillon/NetClientOptions", name := "setConnectTimeout", desc := "(I)Lcom/example/tourbillon/tourbillon/NetClientOptions;" } : Jvm.MethodName)).before a0 Z = true := hw _ (List.mem_of_getElem? (i := 46) rfl)
theorem w_47 {Z : State} {a0 : Array Value} (hw : OW Z a0) : (Jvm.Cond.instanceMethod ({ cls := "com/example/tourbillon/tourbillon/NetClientOptions", name := "setConnectTimeout", desc := "(I)Lcom/example/tourbillon/tourbillon/NetClientOptions;" } : Jvm.MethodName)).before a0 Z = true := hw _ (List.mem_of_getElem? (i := 47) rfl)
theorem w_48 {Z : State} {a0 : Array Value} (hw : OW Z a0) : (Jvm.Cond.selects "com/example/tourbillon/tourbillon/NetClientOptions" ({ cls := "com/example/tourbillon/tourbillon/NetClientOptions", name := "setConnectTimeout", desc := "(I)Lcom/example/tourbillon/tourbillon/NetClientOptions;" } : Jvm.MethodName) ({ cls := "com/example/tourbillon/tourbillon/NetClientOptions", name := "setConnectTimeout", desc := "(I)Lcom/example/tourbillon/tourbillon/NetClientOptions;" } : Jvm.MethodName)).before a0 Z = true := hw _ (List.mem_of_getElem? (i := 48) rfl)
theorem w_49 {Z : State} {a0 : Array Value} (hw : OW Z a0) : (Jvm.Cond.code ({ cls := "com/example/tourbillon/tourbillon/NetClientOptions", name := "setConnectTimeout", desc := "(I)Lcom/example/tourbillon/tourbillon/NetClientOptions;" } : Jvm.MethodName) prog_11_method_3_code (2 : Nat) (Option.some (Jvm.ClassFile.FieldType.object "com/example/tourbillon/tourbillon/NetClientOptions"))).before a0 Z = true := hw _ (List.mem_of_getElem? (i := 49) rfl)
theorem w_50 {Z : State} {a0 : Array Value} (hw : OW Z a0) : (Jvm.Cond.methodLink "com/example/tourbillon/tourbillon/NetClientOptionsSetConnectTimeoutPinLaw" (29 : Nat) ({ cls := "com/example/tourbillon/tourbillon/NetClientOptions", name := "getIdleTimeout", desc := "()I" } : Jvm.MethodName)).before a0 Z = true := hw _ (List.mem_of_getElem? (i := 50) rfl)
theorem w_51 {Z : State} {a0 : Array Value} (hw : OW Z a0) : (Jvm.Cond.declares ({ cls := "com/example/tourbillon/tourbillon/NetClientOptions", name := "getIdleTimeout", desc := "()I" } : Jvm.MethodName)).before a0 Z = true := hw _ (List.mem_of_getElem? (i := 51) rfl)
theorem w_52 {Z : State} {a0 : Array Value} (hw : OW Z a0) : (Jvm.Cond.instanceMethod ({ cls := "com/example/tourbillon/tourbillon/NetClientOptions", name := "getIdleTimeout", desc := "()I" } : Jvm.MethodName)).before a0 Z = true := hw _ (List.mem_of_getElem? (i := 52) rfl)
theorem w_53 {Z : State} {a0 : Array Value} (hw : OW Z a0) : (Jvm.Cond.selects "com/example/tourbillon/tourbillon/NetClientOptions" ({ cls := "com/example/tourbillon/tourbillon/NetClientOptions", name := "getIdleTimeout", desc := "()I" } : Jvm.MethodName) ({ cls := "com/example/tourbillon/tourbillon/NetClientOptions", name := "getIdleTimeout", desc := "()I" } : Jvm.MethodName)).before a0 Z = true := hw _ (List.mem_of_getElem? (i := 53) rfl)
theorem w_54 {Z : State} {a0 : Array Value} (hw : OW Z a0) : (Jvm.Cond.code ({ cls := "com/example/tourbillon/tourbillon/NetClientOptions", name := "getIdleTimeout", desc := "()I" } : Jvm.MethodName) prog_11_method_4_code (1 : Nat) (Option.some Jvm.ClassFile.FieldType.int)).before a0 Z = true := hw _ (List.mem_of_getElem? (i := 54) rfl)
theorem hwsS_ {Z : State} {a0 : Array Value} (hw : OW Z a0) : ∀ d ∈ Bundle.stringAtoms, d.before a0 Z = true := fun d hd => hw d ((by decide +kernel : ∀ d ∈ Bundle.stringAtoms, d ∈ tables_1) d hd)
theorem own_pos (x : Int32) : 0 ≤ (x &&& (2147483647 : Int32)).toInt := (c_and _ _ (by decide)).1
theorem d7_0 : decode method_2_code 0 = .ok (.iload_n 0, 1) := by decide +kernel
theorem d7_1 : decode method_2_code 1 = .ok (.ldc 7, 2) := by decide +kernel
theorem d7_3 : decode method_2_code 3 = .ok (.iand, 1) := by decide +kernel
theorem d7_4 : decode method_2_code 4 = .ok (.istore_n 1, 1) := by decide +kernel
theorem d7_5 : decode method_2_code 5 = .ok (.iload_n 1, 1) := by decide +kernel
theorem d7_6 : decode method_2_code 6 = .ok (.ifCond .ne 5, 3) := by decide +kernel
theorem d7_11 : decode method_2_code 11 = .ok (.iload_n 1, 1) := by decide +kernel
theorem d7_12 : decode method_2_code 12 = .ok (.ireturn, 1) := by decide +kernel
theorem d7_9 : decode method_2_code 9 = .ok (.iconst 1, 1) := by decide +kernel
theorem d7_10 : decode method_2_code 10 = .ok (.istore_n 1, 1) := by decide +kernel
theorem pn_7 : plainFor (⟨"com/example/tourbillon/tourbillon/NetClientOptionsSetConnectTimeoutPinLaw", "valid", "(I)I"⟩ : MethodName) = true := plainFor_of_name (by first | (simp [plainName, overriddenIn]; done) | decide +kernel)
set_option maxHeartbeats 4000000 in
theorem c_valid (l : Launch) (Z : State) (a0 : Array Value) (hw : OW Z a0) (n0 : Nat) (z : Int32) (h0 : Heap) (Z0 : n0 ≤ h0.size) :
    OCon l Z n0 (⟨"com/example/tourbillon/tourbillon/NetClientOptionsSetConnectTimeoutPinLaw", "valid", "(I)I"⟩ : MethodName) method_2_code 2 (some .int) ({ frames := 0, cells := 0, slots := 0, locals := 0 } : Room) #[(.int z)] h0 (fun v h => ∃ r : Int32, v = some (.int r) ∧ 1 ≤ r.toInt ∧ h = h0) := by
  refine OCon.of (Ls := #[.val (.int z), .unset]) pn_7 rfl rfl (fun m => by first | (simp [entryFrame, mkF, argsToLocals, Value.category]; done) | rfl) ?_
  intro p e s m below meth c T0 X0 K e0
  have N0 := Fr.nil n0
  refine o_iloadN X0 K d7_0 1 rfl rfl ?_
  refine o_ldcI X0 K d7_1 3 rfl (w_18 hw) ?_
  refine o_iand X0 K d7_3 4 rfl ?_
  obtain ⟨k, h_k⟩ : ∃ z_ : Int32, z_ = (z &&& (2147483647 : Int32)) := ⟨_, rfl⟩
  refine o_istoreN X0 K d7_4 5 rfl #[.val (.int z), .val (.int k)] h_k.symm rfl ?_
  have hk : 0 ≤ k.toInt ∧ k.toInt ≤ 2147483647 := by rw [h_k]; exact c_and _ _ (by decide)
  refine o_iloadN X0 K d7_5 6 rfl rfl ?_
  refine o_if_ne X0 K d7_6 11 (by decide) (by decide) 9 rfl (fun hc6 => ?_) (fun hc6 => ?_)
  · refine o_iloadN X0 K d7_11 12 rfl rfl ?_
    refine o_ireturn X0 K d7_12 (by decide) (by decide) N0 ?_
    exact ⟨_, rfl, by have q : k.toInt ≠ 0 := fun q => hc6 (Int32.toInt_inj.mp q); omega, e0⟩
  · refine o_iconst X0 K (1 : Int32) d7_9 10 rfl rfl ?_
    refine o_istoreN X0 K d7_10 11 rfl #[.val (.int z), .val (.int (1 : Int32))] rfl rfl ?_
    refine o_iloadN X0 K d7_11 12 rfl rfl ?_
    refine o_ireturn X0 K d7_12 (by decide) (by decide) N0 ?_
    exact ⟨_, rfl, by decide, e0⟩
theorem d1_0 : decode prog_11_method_1_code 0 = .ok (.aload_n 0, 1) := by decide +kernel
theorem d1_1 : decode prog_11_method_1_code 1 = .ok (.invokespecial 1, 3) := by decide +kernel
theorem d1_4 : decode prog_11_method_1_code 4 = .ok (.aload_n 0, 1) := by decide +kernel
theorem d1_5 : decode prog_11_method_1_code 5 = .ok (.ldc 7, 2) := by decide +kernel
theorem d1_7 : decode prog_11_method_1_code 7 = .ok (.putfield 8, 3) := by decide +kernel
theorem d1_10 : decode prog_11_method_1_code 10 = .ok (.return_, 1) := by decide +kernel
theorem pn_1 : plainFor (⟨"com/example/tourbillon/tourbillon/NetClientOptions", "<init>", "()V"⟩ : MethodName) = true := plainFor_of_name (by first | (simp [plainName, overriddenIn]; done) | decide +kernel)
set_option maxHeartbeats 4000000 in
theorem c_init (l : Launch) (Z : State) (a0 : Array Value) (hw : OW Z a0) (n0 : Nat) (a : Addr) (h0 : Heap) (Z0 : n0 ≤ h0.size) (E_a : Exa Z h0 a "com/example/tourbillon/tourbillon/NetClientOptions") (F_a_connectTimeout : Fld Z h0 a "com/example/tourbillon/tourbillon/NetClientOptions" "connectTimeout" "I" (.int (0 : Int32))) (F_a_idleTimeout : Fld Z h0 a "com/example/tourbillon/tourbillon/NetClientOptions" "idleTimeout" "I" (.int (0 : Int32))) (g_a : n0 ≤ a) :
    OCon l Z n0 (⟨"com/example/tourbillon/tourbillon/NetClientOptions", "<init>", "()V"⟩ : MethodName) prog_11_method_1_code 1 none ({ frames := 1, cells := 0, slots := 0, locals := 12 } : Room) #[(.ref a)] h0 (fun v h => v = none ∧ Keep h0 h [a] ∧ Exa Z h a "com/example/tourbillon/tourbillon/NetClientOptions" ∧ Fld Z h a "com/example/tourbillon/tourbillon/NetClientOptions" "connectTimeout" "I" (.int (60000 : Int32)) ∧ Fld Z h a "com/example/tourbillon/tourbillon/NetClientOptions" "idleTimeout" "I" (.int (0 : Int32))) := by
  refine OCon.of (Ls := #[.val (.ref a)]) pn_1 rfl rfl (fun m => by first | (simp [entryFrame, mkF, argsToLocals, Value.category]; done) | rfl) ?_
  intro p e s m below meth c T0 X0 K e0
  have N0 := Fr.nil n0
  have KK0 := Keep.refl h0 [a]
  refine o_aloadN X0 K d1_0 1 rfl rfl rfl ?_
  refine o_initO X0 K d1_1 4 rfl (w_6 hw) (w_7 hw) (w_8 hw) e0 rfl (by decide) 0 (Nat.le_of_eq rfl) (by decide) ?_
  intro T_1 X_1 e_1
  refine o_aloadN X_1 K d1_4 5 rfl rfl rfl ?_
  refine o_ldcI X_1 K d1_5 7 rfl (w_9 hw) ?_
  refine o_putfield X_1 K (host := "") (ty := .int) d1_7 10 rfl (Or.inl (w_10 hw)) Via.refl e_1 F_a_connectTimeout E_a (Or.inl (w_11 hw)) (w_1 hw) (by decide) rfl rfl N0 g_a ?_
  intro T_2 h_2 locs_2 X_2 e_2 W_2 N_2
  have Z_2 : n0 ≤ h_2.size := by rw [Wr.size W_2]; exact Z0
  have K_2 := KK0.wr W_2 (Or.inl (by simp))
  have f_3 := Exa.wr W_2 E_a
  have f_4 := Fld.same W_2 F_a_connectTimeout
  have f_5 := Fld.other W_2 F_a_idleTimeout (Or.inr (slot_ne (Or.inl (w_40 hw)) (Or.inl (w_11 hw)) (by decide) (t := .int) (t' := .int) (by decide) (by decide)))
  refine o_return X_2 K d1_10 (by decide) (by decide) N_2 ?_
  rw [e_2]
  exact ⟨rfl, K_2, f_3, f_4, f_5⟩
theorem d3_0 : decode prog_11_method_2_code 0 = .ok (.aload_n 0, 1) := by decide +kernel
theorem d3_1 : decode prog_11_method_2_code 1 = .ok (.getfield 8, 3) := by decide +kernel
theorem d3_4 : decode prog_11_method_2_code 4 = .ok (.ireturn, 1) := by decide +kernel
theorem pn_3 : plainFor (⟨"com/example/tourbillon/tourbillon/NetClientOptions", "getConnectTimeout", "()I"⟩ : MethodName) = true := plainFor_of_name (by first | (simp [plainName, overriddenIn]; done) | decide +kernel)
set_option maxHeartbeats 4000000 in
theorem c_getc (l : Launch) (Z : State) (a0 : Array Value) (hw : OW Z a0) (n0 : Nat) (a : Addr) (u : Int32) (h0 : Heap) (Z0 : n0 ≤ h0.size) (F_a_connectTimeout : Fld Z h0 a "com/example/tourbillon/tourbillon/NetClientOptions" "connectTimeout" "I" (.int u)) :
    OCon l Z n0 (⟨"com/example/tourbillon/tourbillon/NetClientOptions", "getConnectTimeout", "()I"⟩ : MethodName) prog_11_method_2_code 1 (some .int) ({ frames := 0, cells := 0, slots := 0, locals := 0 } : Room) #[(.ref a)] h0 (fun v h => v = some (.int u) ∧ h = h0) := by
  refine OCon.of (Ls := #[.val (.ref a)]) pn_3 rfl rfl (fun m => by first | (simp [entryFrame, mkF, argsToLocals, Value.category]; done) | rfl) ?_
  intro p e s m below meth c T0 X0 K e0
  have N0 := Fr.nil n0
  refine o_aloadN X0 K d3_0 1 rfl rfl rfl ?_
  refine o_getfield X0 K (host := "") d3_1 4 rfl (Or.inl (w_10 hw)) Via.refl e0 F_a_connectTimeout ?_
  intro T_6 X_6 e_6
  refine o_ireturn X_6 K d3_4 (by decide) (by decide) N0 ?_
  exact ⟨rfl, e_6⟩
theorem d9_0 : decode prog_11_method_4_code 0 = .ok (.aload_n 0, 1) := by decide +kernel
theorem d9_1 : decode prog_11_method_4_code 1 = .ok (.getfield 23, 3) := by decide +kernel
theorem d9_4 : decode prog_11_method_4_code 4 = .ok (.ireturn, 1) := by decide +kernel
theorem pn_9 : plainFor (⟨"com/example/tourbillon/tourbillon/NetClientOptions", "getIdleTimeout", "()I"⟩ : MethodName) = true := plainFor_of_name (by first | (simp [plainName, overriddenIn]; done) | decide +kernel)
set_option maxHeartbeats 4000000 in
theorem c_geti (l : Launch) (Z : State) (a0 : Array Value) (hw : OW Z a0) (n0 : Nat) (a : Addr) (u : Int32) (h0 : Heap) (Z0 : n0 ≤ h0.size) (F_a_idleTimeout : Fld Z h0 a "com/example/tourbillon/tourbillon/NetClientOptions" "idleTimeout" "I" (.int u)) :
    OCon l Z n0 (⟨"com/example/tourbillon/tourbillon/NetClientOptions", "getIdleTimeout", "()I"⟩ : MethodName) prog_11_method_4_code 1 (some .int) ({ frames := 0, cells := 0, slots := 0, locals := 0 } : Room) #[(.ref a)] h0 (fun v h => v = some (.int u) ∧ h = h0) := by
  refine OCon.of (Ls := #[.val (.ref a)]) pn_9 rfl rfl (fun m => by first | (simp [entryFrame, mkF, argsToLocals, Value.category]; done) | rfl) ?_
  intro p e s m below meth c T0 X0 K e0
  have N0 := Fr.nil n0
  refine o_aloadN X0 K d9_0 1 rfl rfl rfl ?_
  refine o_getfield X0 K (host := "") d9_1 4 rfl (Or.inl (w_39 hw)) Via.refl e0 F_a_idleTimeout ?_
  intro T_7 X_7 e_7
  refine o_ireturn X_7 K d9_4 (by decide) (by decide) N0 ?_
  exact ⟨rfl, e_7⟩
theorem d8_0 : decode prog_11_method_3_code 0 = .ok (.iload_n 1, 1) := by decide +kernel
theorem d8_1 : decode prog_11_method_3_code 1 = .ok (.iconst 1, 1) := by decide +kernel
theorem d8_2 : decode prog_11_method_3_code 2 = .ok (.if_icmp .ge 17, 3) := by decide +kernel
theorem d8_19 : decode prog_11_method_3_code 19 = .ok (.aload_n 0, 1) := by decide +kernel
theorem d8_20 : decode prog_11_method_3_code 20 = .ok (.iload_n 1, 1) := by decide +kernel
theorem d8_21 : decode prog_11_method_3_code 21 = .ok (.putfield 8, 3) := by decide +kernel
theorem d8_24 : decode prog_11_method_3_code 24 = .ok (.aload_n 0, 1) := by decide +kernel
theorem d8_25 : decode prog_11_method_3_code 25 = .ok (.areturn, 1) := by decide +kernel
theorem pn_8 : plainFor (⟨"com/example/tourbillon/tourbillon/NetClientOptions", "setConnectTimeout", "(I)Lcom/example/tourbillon/tourbillon/NetClientOptions;"⟩ : MethodName) = true := plainFor_of_name (by first | (simp [plainName, overriddenIn]; done) | decide +kernel)
set_option maxHeartbeats 4000000 in
theorem c_setc (l : Launch) (Z : State) (a0 : Array Value) (hw : OW Z a0) (n0 : Nat) (a : Addr) (z u wv : Int32) (h0 : Heap) (Z0 : n0 ≤ h0.size) (E_a : Exa Z h0 a "com/example/tourbillon/tourbillon/NetClientOptions") (F_a_connectTimeout : Fld Z h0 a "com/example/tourbillon/tourbillon/NetClientOptions" "connectTimeout" "I" (.int u)) (F_a_idleTimeout : Fld Z h0 a "com/example/tourbillon/tourbillon/NetClientOptions" "idleTimeout" "I" (.int wv)) (g_a : n0 ≤ a) (hz : 1 ≤ z.toInt) :
    OCon l Z n0 (⟨"com/example/tourbillon/tourbillon/NetClientOptions", "setConnectTimeout", "(I)Lcom/example/tourbillon/tourbillon/NetClientOptions;"⟩ : MethodName) prog_11_method_3_code 2 (some (.object "com/example/tourbillon/tourbillon/NetClientOptions")) ({ frames := 0, cells := 0, slots := 0, locals := 0 } : Room) #[(.ref a), (.int z)] h0 (fun v h => v = some (.ref a) ∧ Keep h0 h [a] ∧ Exa Z h a "com/example/tourbillon/tourbillon/NetClientOptions" ∧ Fld Z h a "com/example/tourbillon/tourbillon/NetClientOptions" "connectTimeout" "I" (.int z) ∧ Fld Z h a "com/example/tourbillon/tourbillon/NetClientOptions" "idleTimeout" "I" (.int wv)) := by
  refine OCon.of (Ls := #[.val (.ref a), .val (.int z)]) pn_8 rfl rfl (fun m => by first | (simp [entryFrame, mkF, argsToLocals, Value.category]; done) | rfl) ?_
  intro p e s m below meth c T0 X0 K e0
  have N0 := Fr.nil n0
  have KK0 := Keep.refl h0 [a]
  refine o_iloadN X0 K d8_0 1 rfl rfl ?_
  refine o_iconst X0 K (1 : Int32) d8_1 2 rfl rfl ?_
  refine o_icmp_ge_t X0 K d8_2 19 (by decide) (by decide) (hz) ?_
  refine o_aloadN X0 K d8_19 20 rfl rfl rfl ?_
  refine o_iloadN X0 K d8_20 21 rfl rfl ?_
  refine o_putfield X0 K (host := "") (ty := .int) d8_21 24 rfl (Or.inl (w_10 hw)) Via.refl e0 F_a_connectTimeout E_a (Or.inl (w_11 hw)) (w_1 hw) (by decide) rfl rfl N0 g_a ?_
  intro T_8 h_8 locs_8 X_8 e_8 W_8 N_8
  have Z_8 : n0 ≤ h_8.size := by rw [Wr.size W_8]; exact Z0
  have K_8 := KK0.wr W_8 (Or.inl (by simp))
  have f_9 := Exa.wr W_8 E_a
  have f_10 := Fld.same W_8 F_a_connectTimeout
  have f_11 := Fld.other W_8 F_a_idleTimeout (Or.inr (slot_ne (Or.inl (w_40 hw)) (Or.inl (w_11 hw)) (by decide) (t := .int) (t' := .int) (by decide) (by decide)))
  refine o_aloadN X_8 K d8_24 25 rfl rfl rfl ?_
  refine o_areturn X_8 K rfl rfl rfl d8_25 (by decide) (by decide) N_8 ?_
  rw [e_8]
  exact ⟨rfl, K_8, f_9, f_10, f_11⟩
theorem d6_0 : decode prog_17_method_2_code 0 = .ok (.iload_n 2, 1) := by decide +kernel
theorem d6_1 : decode prog_17_method_2_code 1 = .ok (.iload_n 1, 1) := by decide +kernel
theorem d6_2 : decode prog_17_method_2_code 2 = .ok (.if_icmp .ge 19, 3) := by decide +kernel
theorem d6_21 : decode prog_17_method_2_code 21 = .ok (.iload_n 2, 1) := by decide +kernel
theorem d6_22 : decode prog_17_method_2_code 22 = .ok (.ireturn, 1) := by decide +kernel
theorem pn_6 : plainFor (⟨"com/example/tourbillon/tourbillon/Settings", "atLeast", "(Ljava/lang/String;II)I"⟩ : MethodName) = true := plainFor_of_name (by first | (simp [plainName, overriddenIn]; done) | decide +kernel)
set_option maxHeartbeats 4000000 in
theorem c_least (l : Launch) (Z : State) (a0 : Array Value) (hw : OW Z a0) (n0 : Nat) (t : Addr) (k vv : Int32) (h0 : Heap) (Z0 : n0 ≤ h0.size) (hk : k.toInt ≤ vv.toInt) :
    OCon l Z n0 (⟨"com/example/tourbillon/tourbillon/Settings", "atLeast", "(Ljava/lang/String;II)I"⟩ : MethodName) prog_17_method_2_code 3 (some .int) ({ frames := 0, cells := 0, slots := 0, locals := 0 } : Room) #[(.ref t), (.int k), (.int vv)] h0 (fun v h => v = some (.int vv) ∧ h = h0) := by
  refine OCon.of (Ls := #[.val (.ref t), .val (.int k), .val (.int vv)]) pn_6 rfl rfl (fun m => by first | (simp [entryFrame, mkF, argsToLocals, Value.category]; done) | rfl) ?_
  intro p e s m below meth c T0 X0 K e0
  have N0 := Fr.nil n0
  refine o_iloadN X0 K d6_0 1 rfl rfl ?_
  refine o_iloadN X0 K d6_1 2 rfl rfl ?_
  refine o_icmp_ge_t X0 K d6_2 21 (by decide) (by decide) (hk) ?_
  refine o_iloadN X0 K d6_21 22 rfl rfl ?_
  refine o_ireturn X0 K d6_22 (by decide) (by decide) N0 ?_
  exact ⟨rfl, e0⟩
theorem d5_0 : decode prog_17_method_3_code 0 = .ok (.ldc 16, 2) := by decide +kernel
theorem d5_2 : decode prog_17_method_3_code 2 = .ok (.iconst 0, 1) := by decide +kernel
theorem d5_3 : decode prog_17_method_3_code 3 = .ok (.iload_n 0, 1) := by decide +kernel
theorem d5_4 : decode prog_17_method_3_code 4 = .ok (.invokestatic 18, 3) := by decide +kernel
theorem pd__Ljava_lang_String_II_I : parseMethodDescriptor "(Ljava/lang/String;II)I" = some ⟨[(.object "java/lang/String"), .int, .int], some .int⟩ := by decide +kernel
theorem d5_7 : decode prog_17_method_3_code 7 = .ok (.ireturn, 1) := by decide +kernel
theorem pn_5 : plainFor (⟨"com/example/tourbillon/tourbillon/Settings", "idleTimeout", "(I)I"⟩ : MethodName) = true := plainFor_of_name (by first | (simp [plainName, overriddenIn]; done) | decide +kernel)
set_option maxHeartbeats 4000000 in
theorem c_idle (l : Launch) (Z : State) (a0 : Array Value) (hw : OW Z a0) (n0 : Nat) (vv : Int32) (h0 : Heap) (Z0 : n0 ≤ h0.size) (hv : 0 ≤ vv.toInt) :
    OConW l Z n0 (⟨"com/example/tourbillon/tourbillon/Settings", "idleTimeout", "(I)I"⟩ : MethodName) prog_17_method_3_code 1 (some .int) ({ frames := 1, cells := 2, slots := 64, locals := 14 } : Room) #[(.int vv)] h0 (fun v h => v = some (.int vv) ∧ Keep h0 h []) := by
  refine OConW.of (Ls := #[.val (.int vv)]) pn_5 rfl rfl (fun m => by first | (simp [entryFrame, mkF, argsToLocals, Value.category]; done) | rfl) ?_
  intro p e s m below meth c T0 vm0 X0 K e0 hS0
  have hk0 : h0.size ≤ h0.size := Nat.le_refl _
  have N0 := Fr.nil n0
  have KK0 := Keep.refl h0 []
  refine o_ldcS X0 K hS0 d5_0 2 rfl (w_28 hw) (hwsS_ hw) e0 hk0 60 (by decide +kernel) (by decide) (by decide) (by decide) ?_
  intro T_12 h_12 sc k1_12 X_12 KW_12 e_12 E_12 hS_12 hq_12
  have hk_12 : _ ≤ h_12.size := Nat.le_trans hk0 (E_12.1)
  have Z_12 : n0 ≤ h_12.size := Nat.le_trans Z0 E_12.1
  have K_12 := KK0.ext E_12
  refine o_iconst X_12 KW_12 (0 : Int32) d5_2 3 rfl rfl ?_
  refine o_iloadN X_12 KW_12 d5_3 4 rfl rfl ?_
  refine o_invokestatic X_12 KW_12 d5_4 7 rfl (w_36 hw) (w_37 hw) (w_26 hw) (w_38 hw) (by decide) [(.ref sc), (.int (0 : Int32)), (.int vv)] [] rfl  (c_least l Z a0 hw n0 sc (0 : Int32) vv h_12 Z_12 (hv)) e_12 rfl (lenOf pd__Ljava_lang_String_II_I rfl) (by decide) 0 (Nat.le_of_eq rfl) (by decide) (by decide) (by decide) N0 ?_
  rintro _ T_13 h_13 locs_13 X_13 q_13 ⟨rfl, r_13⟩ N_13
  have e_13 := q_13.trans r_13
  show OGo p e below _ n0 _ (T_13.setTop (mkF m 7 #[.val (.int vv)] [(.int vv)]))
  refine o_ireturnW X_13 hS_12 e_13 hq_12 KW_12 d5_7 (by decide) (by decide) N_13 ?_
  rw [e_13]
  exact ⟨rfl, K_12⟩
theorem d4_0 : decode prog_11_method_5_code 0 = .ok (.aload_n 0, 1) := by decide +kernel
theorem d4_1 : decode prog_11_method_5_code 1 = .ok (.iload_n 1, 1) := by decide +kernel
theorem d4_2 : decode prog_11_method_5_code 2 = .ok (.invokestatic 26, 3) := by decide +kernel
theorem pd__I_I : parseMethodDescriptor "(I)I" = some ⟨[.int], some .int⟩ := by decide +kernel
theorem d4_5 : decode prog_11_method_5_code 5 = .ok (.putfield 23, 3) := by decide +kernel
theorem d4_8 : decode prog_11_method_5_code 8 = .ok (.aload_n 0, 1) := by decide +kernel
theorem d4_9 : decode prog_11_method_5_code 9 = .ok (.areturn, 1) := by decide +kernel
theorem pn_4 : plainFor (⟨"com/example/tourbillon/tourbillon/NetClientOptions", "setIdleTimeout", "(I)Lcom/example/tourbillon/tourbillon/NetClientOptions;"⟩ : MethodName) = true := plainFor_of_name (by first | (simp [plainName, overriddenIn]; done) | decide +kernel)
set_option maxHeartbeats 4000000 in
theorem c_seti (l : Launch) (Z : State) (a0 : Array Value) (hw : OW Z a0) (n0 : Nat) (a : Addr) (z u wv : Int32) (h0 : Heap) (Z0 : n0 ≤ h0.size) (E_a : Exa Z h0 a "com/example/tourbillon/tourbillon/NetClientOptions") (F_a_connectTimeout : Fld Z h0 a "com/example/tourbillon/tourbillon/NetClientOptions" "connectTimeout" "I" (.int u)) (F_a_idleTimeout : Fld Z h0 a "com/example/tourbillon/tourbillon/NetClientOptions" "idleTimeout" "I" (.int wv)) (g_a : n0 ≤ a) (hz : 0 ≤ z.toInt) :
    OConW l Z n0 (⟨"com/example/tourbillon/tourbillon/NetClientOptions", "setIdleTimeout", "(I)Lcom/example/tourbillon/tourbillon/NetClientOptions;"⟩ : MethodName) prog_11_method_5_code 2 (some (.object "com/example/tourbillon/tourbillon/NetClientOptions")) ({ frames := 2, cells := 2, slots := 64, locals := 27 } : Room) #[(.ref a), (.int z)] h0 (fun v h => v = some (.ref a) ∧ Keep h0 h [a] ∧ Exa Z h a "com/example/tourbillon/tourbillon/NetClientOptions" ∧ Fld Z h a "com/example/tourbillon/tourbillon/NetClientOptions" "connectTimeout" "I" (.int u) ∧ Fld Z h a "com/example/tourbillon/tourbillon/NetClientOptions" "idleTimeout" "I" (.int z)) := by
  refine OConW.of (Ls := #[.val (.ref a), .val (.int z)]) pn_4 rfl rfl (fun m => by first | (simp [entryFrame, mkF, argsToLocals, Value.category]; done) | rfl) ?_
  intro p e s m below meth c T0 vm0 X0 K e0 hS0
  have hk0 : h0.size ≤ h0.size := Nat.le_refl _
  have N0 := Fr.nil n0
  have KK0 := Keep.refl h0 [a]
  refine o_aloadN X0 K d4_0 1 rfl rfl rfl ?_
  refine o_iloadN X0 K d4_1 2 rfl rfl ?_
  refine o_invokestaticW X0 K hS0 hk0 d4_2 5 rfl (w_24 hw) (w_25 hw) (w_26 hw) (w_27 hw) (by decide) [(.int z)] [(.ref a)] rfl  (c_idle l Z a0 hw n0 z h0 Z0 (hz)) e0 rfl (lenOf pd__I_I rfl) (by decide) 1 (Nat.le_of_eq rfl) (by decide) (by decide) (by decide) N0 ?_
  rintro _ T_14 h_14 locs_14 k1_14 X_14 KW_14 e_14 hS_14 hq_14 ⟨rfl, k_14⟩ N_14
  have Z_14 : n0 ≤ h_14.size := Nat.le_trans Z0 k_14.1
  have K_14 := KK0.trans k_14 (all0)
  have f_15 := Exa.keep E_a k_14
  have f_16 := Fld.keep F_a_connectTimeout k_14 (nin0)
  have f_17 := Fld.keep F_a_idleTimeout k_14 (nin0)
  show OGo p e below _ n0 _ (T_14.setTop (mkF m 5 #[.val (.ref a), .val (.int z)] [(.int z), (.ref a)]))
  refine o_putfield X_14 KW_14 (host := "") (ty := .int) d4_5 8 rfl (Or.inl (w_39 hw)) Via.refl e_14 f_17 f_15 (Or.inl (w_40 hw)) (w_1 hw) (by decide) rfl rfl N_14 g_a ?_
  intro T_18 h_18 locs_18 X_18 e_18 W_18 N_18
  have hk_18 : _ ≤ h_18.size := Nat.le_trans hq_14 (Nat.le_of_eq (Wr.size W_18).symm)
  have Z_18 : n0 ≤ h_18.size := by rw [Wr.size W_18]; exact Z_14
  have K_18 := K_14.wr W_18 (Or.inl (by simp))
  have f_19 := Exa.wr W_18 f_15
  have f_20 := Fld.other W_18 f_16 (Or.inr (slot_ne (Or.inl (w_11 hw)) (Or.inl (w_40 hw)) (by decide) (t := .int) (t' := .int) (by decide) (by decide)))
  have f_21 := Fld.same W_18 f_17
  refine o_aloadN X_18 KW_14 d4_8 9 rfl rfl rfl ?_
  refine o_areturnW X_18 hS_14 e_18 hk_18 KW_14 rfl rfl rfl d4_9 (by decide) (by decide) N_18 ?_
  rw [e_18]
  exact ⟨rfl, K_18, f_19, f_20, f_21⟩
theorem pd___V : parseMethodDescriptor "()V" = some ⟨[], none⟩ := by decide +kernel
theorem pd___I : parseMethodDescriptor "()I" = some ⟨[], some .int⟩ := by decide +kernel
theorem pd__I_Lcom_example_tourbillon_tourbillon_NetClientOptions_ : parseMethodDescriptor "(I)Lcom/example/tourbillon/tourbillon/NetClientOptions;" = some ⟨[.int], some (.object "com/example/tourbillon/tourbillon/NetClientOptions")⟩ := by decide +kernel
theorem pn_0 : plainFor x = true := plainFor_of_name (by first | (simp [plainName, overriddenIn, x]; done) | decide +kernel)
set_option maxHeartbeats 4000000 in
theorem rm0 (l : Launch) (Z : State) (a0 : Array Value) (hw : OW Z a0) (n0 : Nat) (p0 p1 p2 p3 : Int32) (h0 : Heap) (Z0 : n0 ≤ h0.size) :
    OConW l Z n0 x code maxLocals ret room_1 #[(.int p0), (.int p1), (.int p2), (.int p3)] h0 (fun v _ => v = some (.int 1)) := by
  refine OConW.of (Ls := #[.val (.int p0), .val (.int p1), .val (.int p2), .val (.int p3), .unset, .unset, .unset, .unset, .unset, .unset, .unset]) pn_0 rfl rfl (fun m => by first | (simp [entryFrame, mkF, argsToLocals, Value.category, maxLocals]; done) | rfl) ?_
  intro p e s m below meth c T0 vm0 X0 K e0 hS0
  have hk0 : h0.size ≤ h0.size := Nat.le_refl _
  have N0 := Fr.nil n0
  refine o_new X0 K at_0 3 rfl (w_0 hw) (w_1 hw) (w_2 hw) e0 (by decide) (by decide) ?_
  intro T_22 h_22 b g_22 X_22 e_22 E_22 B_22 D_22
  have hk_22 : _ ≤ h_22.size := Nat.le_trans hk0 (E_22.1)
  have Z_22 : n0 ≤ h_22.size := Nat.le_trans Z0 E_22.1
  have g_b : n0 ≤ b := by rw [g_22]; exact Z0
  have F_connectTimeout__22 : Fld Z h_22 b "com/example/tourbillon/tourbillon/NetClientOptions" "connectTimeout" "I" (.int (0 : Int32)) := D_22 (Or.inl (w_11 hw)) (ty := .int) (by decide)
  have F_idleTimeout__22 : Fld Z h_22 b "com/example/tourbillon/tourbillon/NetClientOptions" "idleTimeout" "I" (.int (0 : Int32)) := D_22 (Or.inl (w_40 hw)) (ty := .int) (by decide)
  refine o_dup X_22 K at_3 4 rfl rfl ?_
  refine o_invokespecial X_22 K at_4 7 rfl rfl (w_3 hw) (w_4 hw) (w_2 hw) (w_5 hw) (by decide) [] [(.ref b)] rfl  (c_init l Z a0 hw n0 b h_22 Z_22 B_22 F_connectTimeout__22 F_idleTimeout__22 g_b) e_22 rfl (lenOf pd___V rfl) (by decide) 1 (Nat.le_of_eq rfl) (by decide) (by decide) (by decide) N0 ?_
  rintro _ T_23 h_23 locs_23 X_23 e_23 ⟨rfl, k_23, p_23f0, p_23f1, p_23f2⟩ N_23
  have hk_23 : _ ≤ h_23.size := Nat.le_trans hk_22 (k_23.1)
  have Z_23 : n0 ≤ h_23.size := Nat.le_trans Z_22 k_23.1
  have f_24 := Exa.keep B_22 k_23
  show OGo p e below _ n0 _ (T_23.setTop (mkF m 7 #[.val (.int p0), .val (.int p1), .val (.int p2), .val (.int p3), .unset, .unset, .unset, .unset, .unset, .unset, .unset] [(.ref b)]))
  refine o_astore X_23 K at_7 9 rfl #[.val (.int p0), .val (.int p1), .val (.int p2), .val (.int p3), .val (.ref b), .unset, .unset, .unset, .unset, .unset, .unset] rfl rfl ?_
  refine o_aload X_23 K at_9 11 rfl rfl rfl ?_
  refine o_invokevirtual X_23 K at_11 14 rfl (w_12 hw) (w_13 hw) (w_15 hw) (w_14 hw) (w_2 hw) (w_16 hw) (by decide) p_23f0 [] [] rfl  (c_getc l Z a0 hw n0 b (60000 : Int32) h_23 Z_23 p_23f1) e_23 rfl (lenOf pd___I rfl) (by decide) 0 (Nat.le_of_eq rfl) (by decide) (by decide) (by decide) N_23 ?_
  rintro _ T_25 h_25 locs_25 X_25 q_25 ⟨rfl, r_25⟩ N_25
  have e_25 := q_25.trans r_25
  show OGo p e below _ n0 _ (T_25.setTop (mkF m 14 #[.val (.int p0), .val (.int p1), .val (.int p2), .val (.int p3), .val (.ref b), .unset, .unset, .unset, .unset, .unset, .unset] [(.int (60000 : Int32))]))
  refine o_ldcI X_25 K at_14 16 rfl (w_17 hw) ?_
  refine o_icmp_ne_f X_25 K at_16 19 rfl (by decide) ?_
  refine o_iconst X_25 K (1 : Int32) at_19 20 rfl rfl ?_
  refine o_goto X_25 K at_20 24 (by decide) (by decide) ?_
  refine o_istore X_25 K at_24 26 rfl #[.val (.int p0), .val (.int p1), .val (.int p2), .val (.int p3), .val (.ref b), .val (.int (1 : Int32)), .unset, .unset, .unset, .unset, .unset] rfl rfl ?_
  refine o_iconst X_25 K (0 : Int32) at_26 27 rfl rfl ?_
  refine o_istore X_25 K at_27 29 rfl #[.val (.int p0), .val (.int p1), .val (.int p2), .val (.int p3), .val (.ref b), .val (.int (1 : Int32)), .val (.int (0 : Int32)), .unset, .unset, .unset, .unset] rfl rfl ?_
  refine o_iloadN X_25 K at_29 30 rfl rfl ?_
  refine o_iconst X_25 K (1 : Int32) at_30 31 rfl rfl ?_
  refine o_iand X_25 K at_31 32 rfl ?_
  refine o_if_eq X_25 K at_32 49 (by decide) (by decide) 35 rfl (fun hc32 => ?_) (fun hc32 => ?_)
  · refine o_iloadN X_25 K at_49 50 rfl rfl ?_
    refine o_invokestatic X_25 K at_50 53 rfl (w_41 hw) (w_42 hw) (w_43 hw) (w_44 hw) (by decide) [(.int p0)] [] rfl  (c_valid l Z a0 hw n0 p0 h_23 Z_23) e_25 rfl (lenOf pd__I_I rfl) (by decide) 0 (Nat.le_of_eq rfl) (by decide) (by decide) (by decide) N_25 ?_
    rintro _ T_26 h_26 locs_26 X_26 q_26 ⟨nv_26, rfl, hnv_26, r_26⟩ N_26
    have e_26 := q_26.trans r_26
    show OGo p e below _ n0 _ (T_26.setTop (mkF m 53 #[.val (.int p0), .val (.int p1), .val (.int p2), .val (.int p3), .val (.ref b), .val (.int (1 : Int32)), .val (.int (0 : Int32)), .unset, .unset, .unset, .unset] [(.int nv_26)]))
    refine o_istore X_26 K at_53 55 rfl #[.val (.int p0), .val (.int p1), .val (.int p2), .val (.int p3), .val (.ref b), .val (.int (1 : Int32)), .val (.int (0 : Int32)), .val (.int nv_26), .unset, .unset, .unset] rfl rfl ?_
    refine o_aload X_26 K at_55 57 rfl rfl rfl ?_
    refine o_iload X_26 K at_57 59 rfl rfl ?_
    refine o_invokevirtual X_26 K at_59 62 rfl (w_45 hw) (w_46 hw) (w_48 hw) (w_47 hw) (w_2 hw) (w_49 hw) (by decide) p_23f0 [(.int nv_26)] [] rfl  (c_setc l Z a0 hw n0 b nv_26 (60000 : Int32) (0 : Int32) h_23 Z_23 p_23f0 p_23f1 p_23f2 g_b (hnv_26)) e_26 rfl (lenOf pd__I_Lcom_example_tourbillon_tourbillon_NetClientOptions_ rfl) (by decide) 0 (Nat.le_of_eq rfl) (by decide) (by decide) (by decide) N_26 ?_
    rintro _ T_27 h_27 locs_27 X_27 e_27 ⟨rfl, k_27, p_27f0, p_27f1, p_27f2⟩ N_27
    have hk_27 : _ ≤ h_27.size := Nat.le_trans hk_23 (k_27.1)
    have Z_27 : n0 ≤ h_27.size := Nat.le_trans Z_23 k_27.1
    have f_28 := Exa.keep p_23f0 k_27
    show OGo p e below _ n0 _ (T_27.setTop (mkF m 62 #[.val (.int p0), .val (.int p1), .val (.int p2), .val (.int p3), .val (.ref b), .val (.int (1 : Int32)), .val (.int (0 : Int32)), .val (.int nv_26), .unset, .unset, .unset] [(.ref b)]))
    refine o_astore X_27 K at_62 64 rfl #[.val (.int p0), .val (.int p1), .val (.int p2), .val (.int p3), .val (.ref b), .val (.int (1 : Int32)), .val (.int (0 : Int32)), .val (.int nv_26), .val (.ref b), .unset, .unset] rfl rfl ?_
    refine o_iload X_27 K at_64 66 rfl rfl ?_
    refine o_if_eq_f X_27 K at_66 69 rfl (by decide) ?_
    refine o_aload X_27 K at_69 71 rfl rfl rfl ?_
    refine o_aload X_27 K at_71 73 rfl rfl rfl ?_
    refine o_acmp X_27 K at_73 76 rfl rfl true (decide_eq_true rfl) (by decide) (by decide) ?_
    refine o_aload X_27 K at_76 78 rfl rfl rfl ?_
    refine o_invokevirtual X_27 K at_78 81 rfl (w_12 hw) (w_13 hw) (w_15 hw) (w_14 hw) (w_2 hw) (w_16 hw) (by decide) p_27f0 [] [] rfl  (c_getc l Z a0 hw n0 b nv_26 h_27 Z_27 p_27f1) e_27 rfl (lenOf pd___I rfl) (by decide) 0 (Nat.le_of_eq rfl) (by decide) (by decide) (by decide) N_27 ?_
    rintro _ T_29 h_29 locs_29 X_29 q_29 ⟨rfl, r_29⟩ N_29
    have e_29 := q_29.trans r_29
    show OGo p e below _ n0 _ (T_29.setTop (mkF m 81 #[.val (.int p0), .val (.int p1), .val (.int p2), .val (.int p3), .val (.ref b), .val (.int (1 : Int32)), .val (.int (0 : Int32)), .val (.int nv_26), .val (.ref b), .unset, .unset] [(.int nv_26)]))
    refine o_iload X_29 K at_81 83 rfl rfl ?_
    refine o_icmp_ne_f X_29 K at_83 86 rfl (rfl) ?_
    refine o_aload X_29 K at_86 88 rfl rfl rfl ?_
    refine o_invokevirtual X_29 K at_88 91 rfl (w_50 hw) (w_51 hw) (w_53 hw) (w_52 hw) (w_2 hw) (w_54 hw) (by decide) p_27f0 [] [] rfl  (c_geti l Z a0 hw n0 b (0 : Int32) h_27 Z_27 p_27f2) e_29 rfl (lenOf pd___I rfl) (by decide) 0 (Nat.le_of_eq rfl) (by decide) (by decide) (by decide) N_29 ?_
    rintro _ T_30 h_30 locs_30 X_30 q_30 ⟨rfl, r_30⟩ N_30
    have e_30 := q_30.trans r_30
    show OGo p e below _ n0 _ (T_30.setTop (mkF m 91 #[.val (.int p0), .val (.int p1), .val (.int p2), .val (.int p3), .val (.ref b), .val (.int (1 : Int32)), .val (.int (0 : Int32)), .val (.int nv_26), .val (.ref b), .unset, .unset] [(.int (0 : Int32))]))
    refine o_iload X_30 K at_91 93 rfl rfl ?_
    refine o_icmp_ne_f X_30 K at_93 96 rfl (by decide) ?_
    refine o_iconst X_30 K (1 : Int32) at_96 97 rfl rfl ?_
    refine o_goto X_30 K at_97 101 (by decide) (by decide) ?_
    refine o_istore X_30 K at_101 103 rfl #[.val (.int p0), .val (.int p1), .val (.int p2), .val (.int p3), .val (.ref b), .val (.int (1 : Int32)), .val (.int (0 : Int32)), .val (.int nv_26), .val (.ref b), .unset, .unset] rfl rfl ?_
    refine o_iloadN X_30 K at_103 104 rfl rfl ?_
    refine o_iconst X_30 K (2 : Int32) at_104 105 rfl rfl ?_
    refine o_iand X_30 K at_105 106 rfl ?_
    refine o_if_eq X_30 K at_106 163 (by decide) (by decide) 109 rfl (fun hc106 => ?_) (fun hc106 => ?_)
    · refine o_iload X_30 K at_163 165 rfl rfl ?_
      refine o_ireturnNW X_30 hS0 e_30 hk_27 K (by decide) at_165 (by decide) (by decide) N_30 ?_
      exact rfl
    · refine o_iloadN X_30 K at_109 110 rfl rfl ?_
      refine o_invokestatic X_30 K at_110 113 rfl (w_41 hw) (w_42 hw) (w_43 hw) (w_44 hw) (by decide) [(.int p1)] [] rfl  (c_valid l Z a0 hw n0 p1 h_27 Z_27) e_30 rfl (lenOf pd__I_I rfl) (by decide) 0 (Nat.le_of_eq rfl) (by decide) (by decide) (by decide) N_30 ?_
      rintro _ T_31 h_31 locs_31 X_31 q_31 ⟨nv_31, rfl, hnv_31, r_31⟩ N_31
      have e_31 := q_31.trans r_31
      show OGo p e below _ n0 _ (T_31.setTop (mkF m 113 #[.val (.int p0), .val (.int p1), .val (.int p2), .val (.int p3), .val (.ref b), .val (.int (1 : Int32)), .val (.int (0 : Int32)), .val (.int nv_26), .val (.ref b), .unset, .unset] [(.int nv_31)]))
      refine o_istore X_31 K at_113 115 rfl #[.val (.int p0), .val (.int p1), .val (.int p2), .val (.int p3), .val (.ref b), .val (.int (1 : Int32)), .val (.int (0 : Int32)), .val (.int nv_26), .val (.ref b), .val (.int nv_31), .unset] rfl rfl ?_
      refine o_aload X_31 K at_115 117 rfl rfl rfl ?_
      refine o_iload X_31 K at_117 119 rfl rfl ?_
      refine o_invokevirtual X_31 K at_119 122 rfl (w_45 hw) (w_46 hw) (w_48 hw) (w_47 hw) (w_2 hw) (w_49 hw) (by decide) p_27f0 [(.int nv_31)] [] rfl  (c_setc l Z a0 hw n0 b nv_31 nv_26 (0 : Int32) h_27 Z_27 p_27f0 p_27f1 p_27f2 g_b (hnv_31)) e_31 rfl (lenOf pd__I_Lcom_example_tourbillon_tourbillon_NetClientOptions_ rfl) (by decide) 0 (Nat.le_of_eq rfl) (by decide) (by decide) (by decide) N_31 ?_
      rintro _ T_32 h_32 locs_32 X_32 e_32 ⟨rfl, k_32, p_32f0, p_32f1, p_32f2⟩ N_32
      have hk_32 : _ ≤ h_32.size := Nat.le_trans hk_27 (k_32.1)
      have Z_32 : n0 ≤ h_32.size := Nat.le_trans Z_27 k_32.1
      have f_33 := Exa.keep p_27f0 k_32
      show OGo p e below _ n0 _ (T_32.setTop (mkF m 122 #[.val (.int p0), .val (.int p1), .val (.int p2), .val (.int p3), .val (.ref b), .val (.int (1 : Int32)), .val (.int (0 : Int32)), .val (.int nv_26), .val (.ref b), .val (.int nv_31), .unset] [(.ref b)]))
      refine o_astore X_32 K at_122 124 rfl #[.val (.int p0), .val (.int p1), .val (.int p2), .val (.int p3), .val (.ref b), .val (.int (1 : Int32)), .val (.int (0 : Int32)), .val (.int nv_26), .val (.ref b), .val (.int nv_31), .val (.ref b)] rfl rfl ?_
      refine o_iload X_32 K at_124 126 rfl rfl ?_
      refine o_if_eq_f X_32 K at_126 129 rfl (by decide) ?_
      refine o_aload X_32 K at_129 131 rfl rfl rfl ?_
      refine o_aload X_32 K at_131 133 rfl rfl rfl ?_
      refine o_acmp X_32 K at_133 136 rfl rfl true (decide_eq_true rfl) (by decide) (by decide) ?_
      refine o_aload X_32 K at_136 138 rfl rfl rfl ?_
      refine o_invokevirtual X_32 K at_138 141 rfl (w_12 hw) (w_13 hw) (w_15 hw) (w_14 hw) (w_2 hw) (w_16 hw) (by decide) p_32f0 [] [] rfl  (c_getc l Z a0 hw n0 b nv_31 h_32 Z_32 p_32f1) e_32 rfl (lenOf pd___I rfl) (by decide) 0 (Nat.le_of_eq rfl) (by decide) (by decide) (by decide) N_32 ?_
      rintro _ T_34 h_34 locs_34 X_34 q_34 ⟨rfl, r_34⟩ N_34
      have e_34 := q_34.trans r_34
      show OGo p e below _ n0 _ (T_34.setTop (mkF m 141 #[.val (.int p0), .val (.int p1), .val (.int p2), .val (.int p3), .val (.ref b), .val (.int (1 : Int32)), .val (.int (0 : Int32)), .val (.int nv_26), .val (.ref b), .val (.int nv_31), .val (.ref b)] [(.int nv_31)]))
      refine o_iload X_34 K at_141 143 rfl rfl ?_
      refine o_icmp_ne_f X_34 K at_143 146 rfl (rfl) ?_
      refine o_aload X_34 K at_146 148 rfl rfl rfl ?_
      refine o_invokevirtual X_34 K at_148 151 rfl (w_50 hw) (w_51 hw) (w_53 hw) (w_52 hw) (w_2 hw) (w_54 hw) (by decide) p_32f0 [] [] rfl  (c_geti l Z a0 hw n0 b (0 : Int32) h_32 Z_32 p_32f2) e_34 rfl (lenOf pd___I rfl) (by decide) 0 (Nat.le_of_eq rfl) (by decide) (by decide) (by decide) N_34 ?_
      rintro _ T_35 h_35 locs_35 X_35 q_35 ⟨rfl, r_35⟩ N_35
      have e_35 := q_35.trans r_35
      show OGo p e below _ n0 _ (T_35.setTop (mkF m 151 #[.val (.int p0), .val (.int p1), .val (.int p2), .val (.int p3), .val (.ref b), .val (.int (1 : Int32)), .val (.int (0 : Int32)), .val (.int nv_26), .val (.ref b), .val (.int nv_31), .val (.ref b)] [(.int (0 : Int32))]))
      refine o_iload X_35 K at_151 153 rfl rfl ?_
      refine o_icmp_ne_f X_35 K at_153 156 rfl (by decide) ?_
      refine o_iconst X_35 K (1 : Int32) at_156 157 rfl rfl ?_
      refine o_goto X_35 K at_157 161 (by decide) (by decide) ?_
      refine o_istore X_35 K at_161 163 rfl #[.val (.int p0), .val (.int p1), .val (.int p2), .val (.int p3), .val (.ref b), .val (.int (1 : Int32)), .val (.int (0 : Int32)), .val (.int nv_26), .val (.ref b), .val (.int nv_31), .val (.ref b)] rfl rfl ?_
      refine o_iload X_35 K at_163 165 rfl rfl ?_
      refine o_ireturnNW X_35 hS0 e_35 hk_32 K (by decide) at_165 (by decide) (by decide) N_35 ?_
      exact rfl
  · refine o_iloadN X_25 K at_35 36 rfl rfl ?_
    refine o_ldcI X_25 K at_36 38 rfl (w_18 hw) ?_
    refine o_iand X_25 K at_38 39 rfl ?_
    refine o_istore X_25 K at_39 41 rfl #[.val (.int p0), .val (.int p1), .val (.int p2), .val (.int p3), .val (.ref b), .val (.int (1 : Int32)), .val (.int (p2 &&& (2147483647 : Int32))), .unset, .unset, .unset, .unset] rfl rfl ?_
    refine o_aload X_25 K at_41 43 rfl rfl rfl ?_
    refine o_iload X_25 K at_43 45 rfl rfl ?_
    refine o_invokevirtualW X_25 K hS0 hk_23 at_45 48 rfl (w_19 hw) (w_20 hw) (w_22 hw) (w_21 hw) (w_2 hw) (w_23 hw) (by decide) p_23f0 [(.int (p2 &&& (2147483647 : Int32)))] [] rfl  (c_seti l Z a0 hw n0 b (p2 &&& (2147483647 : Int32)) (60000 : Int32) (0 : Int32) h_23 Z_23 p_23f0 p_23f1 p_23f2 g_b (own_pos _)) e_25 rfl (lenOf pd__I_Lcom_example_tourbillon_tourbillon_NetClientOptions_ rfl) (by decide) 0 (Nat.le_of_eq rfl) (by decide) (by decide) (by decide) N_25 ?_
    rintro _ T_36 h_36 locs_36 k1_36 X_36 KW_36 e_36 hS_36 hq_36 ⟨rfl, k_36, p_36f0, p_36f1, p_36f2⟩ N_36
    have Z_36 : n0 ≤ h_36.size := Nat.le_trans Z_23 k_36.1
    have f_37 := Exa.keep p_23f0 k_36
    show OGo p e below _ n0 _ (T_36.setTop (mkF m 48 #[.val (.int p0), .val (.int p1), .val (.int p2), .val (.int p3), .val (.ref b), .val (.int (1 : Int32)), .val (.int (p2 &&& (2147483647 : Int32))), .unset, .unset, .unset, .unset] [(.ref b)]))
    refine o_pop X_36 KW_36 at_48 49 rfl rfl ?_
    refine o_iloadN X_36 KW_36 at_49 50 rfl rfl ?_
    refine o_invokestatic X_36 KW_36 at_50 53 rfl (w_41 hw) (w_42 hw) (w_43 hw) (w_44 hw) (by decide) [(.int p0)] [] rfl  (c_valid l Z a0 hw n0 p0 h_36 Z_36) e_36 rfl (lenOf pd__I_I rfl) (by decide) 0 (Nat.le_of_eq rfl) (by decide) (by decide) (by decide) N_36 ?_
    rintro _ T_38 h_38 locs_38 X_38 q_38 ⟨nv_38, rfl, hnv_38, r_38⟩ N_38
    have e_38 := q_38.trans r_38
    show OGo p e below _ n0 _ (T_38.setTop (mkF m 53 #[.val (.int p0), .val (.int p1), .val (.int p2), .val (.int p3), .val (.ref b), .val (.int (1 : Int32)), .val (.int (p2 &&& (2147483647 : Int32))), .unset, .unset, .unset, .unset] [(.int nv_38)]))
    refine o_istore X_38 KW_36 at_53 55 rfl #[.val (.int p0), .val (.int p1), .val (.int p2), .val (.int p3), .val (.ref b), .val (.int (1 : Int32)), .val (.int (p2 &&& (2147483647 : Int32))), .val (.int nv_38), .unset, .unset, .unset] rfl rfl ?_
    refine o_aload X_38 KW_36 at_55 57 rfl rfl rfl ?_
    refine o_iload X_38 KW_36 at_57 59 rfl rfl ?_
    refine o_invokevirtual X_38 KW_36 at_59 62 rfl (w_45 hw) (w_46 hw) (w_48 hw) (w_47 hw) (w_2 hw) (w_49 hw) (by decide) p_36f0 [(.int nv_38)] [] rfl  (c_setc l Z a0 hw n0 b nv_38 (60000 : Int32) (p2 &&& (2147483647 : Int32)) h_36 Z_36 p_36f0 p_36f1 p_36f2 g_b (hnv_38)) e_38 rfl (lenOf pd__I_Lcom_example_tourbillon_tourbillon_NetClientOptions_ rfl) (by decide) 0 (Nat.le_of_eq rfl) (by decide) (by decide) (by decide) N_38 ?_
    rintro _ T_39 h_39 locs_39 X_39 e_39 ⟨rfl, k_39, p_39f0, p_39f1, p_39f2⟩ N_39
    have hk_39 : _ ≤ h_39.size := Nat.le_trans hq_36 (k_39.1)
    have Z_39 : n0 ≤ h_39.size := Nat.le_trans Z_36 k_39.1
    have f_40 := Exa.keep p_36f0 k_39
    show OGo p e below _ n0 _ (T_39.setTop (mkF m 62 #[.val (.int p0), .val (.int p1), .val (.int p2), .val (.int p3), .val (.ref b), .val (.int (1 : Int32)), .val (.int (p2 &&& (2147483647 : Int32))), .val (.int nv_38), .unset, .unset, .unset] [(.ref b)]))
    refine o_astore X_39 KW_36 at_62 64 rfl #[.val (.int p0), .val (.int p1), .val (.int p2), .val (.int p3), .val (.ref b), .val (.int (1 : Int32)), .val (.int (p2 &&& (2147483647 : Int32))), .val (.int nv_38), .val (.ref b), .unset, .unset] rfl rfl ?_
    refine o_iload X_39 KW_36 at_64 66 rfl rfl ?_
    refine o_if_eq_f X_39 KW_36 at_66 69 rfl (by decide) ?_
    refine o_aload X_39 KW_36 at_69 71 rfl rfl rfl ?_
    refine o_aload X_39 KW_36 at_71 73 rfl rfl rfl ?_
    refine o_acmp X_39 KW_36 at_73 76 rfl rfl true (decide_eq_true rfl) (by decide) (by decide) ?_
    refine o_aload X_39 KW_36 at_76 78 rfl rfl rfl ?_
    refine o_invokevirtual X_39 KW_36 at_78 81 rfl (w_12 hw) (w_13 hw) (w_15 hw) (w_14 hw) (w_2 hw) (w_16 hw) (by decide) p_39f0 [] [] rfl  (c_getc l Z a0 hw n0 b nv_38 h_39 Z_39 p_39f1) e_39 rfl (lenOf pd___I rfl) (by decide) 0 (Nat.le_of_eq rfl) (by decide) (by decide) (by decide) N_39 ?_
    rintro _ T_41 h_41 locs_41 X_41 q_41 ⟨rfl, r_41⟩ N_41
    have e_41 := q_41.trans r_41
    show OGo p e below _ n0 _ (T_41.setTop (mkF m 81 #[.val (.int p0), .val (.int p1), .val (.int p2), .val (.int p3), .val (.ref b), .val (.int (1 : Int32)), .val (.int (p2 &&& (2147483647 : Int32))), .val (.int nv_38), .val (.ref b), .unset, .unset] [(.int nv_38)]))
    refine o_iload X_41 KW_36 at_81 83 rfl rfl ?_
    refine o_icmp_ne_f X_41 KW_36 at_83 86 rfl (rfl) ?_
    refine o_aload X_41 KW_36 at_86 88 rfl rfl rfl ?_
    refine o_invokevirtual X_41 KW_36 at_88 91 rfl (w_50 hw) (w_51 hw) (w_53 hw) (w_52 hw) (w_2 hw) (w_54 hw) (by decide) p_39f0 [] [] rfl  (c_geti l Z a0 hw n0 b (p2 &&& (2147483647 : Int32)) h_39 Z_39 p_39f2) e_41 rfl (lenOf pd___I rfl) (by decide) 0 (Nat.le_of_eq rfl) (by decide) (by decide) (by decide) N_41 ?_
    rintro _ T_42 h_42 locs_42 X_42 q_42 ⟨rfl, r_42⟩ N_42
    have e_42 := q_42.trans r_42
    show OGo p e below _ n0 _ (T_42.setTop (mkF m 91 #[.val (.int p0), .val (.int p1), .val (.int p2), .val (.int p3), .val (.ref b), .val (.int (1 : Int32)), .val (.int (p2 &&& (2147483647 : Int32))), .val (.int nv_38), .val (.ref b), .unset, .unset] [(.int (p2 &&& (2147483647 : Int32)))]))
    refine o_iload X_42 KW_36 at_91 93 rfl rfl ?_
    refine o_icmp_ne_f X_42 KW_36 at_93 96 rfl (rfl) ?_
    refine o_iconst X_42 KW_36 (1 : Int32) at_96 97 rfl rfl ?_
    refine o_goto X_42 KW_36 at_97 101 (by decide) (by decide) ?_
    refine o_istore X_42 KW_36 at_101 103 rfl #[.val (.int p0), .val (.int p1), .val (.int p2), .val (.int p3), .val (.ref b), .val (.int (1 : Int32)), .val (.int (p2 &&& (2147483647 : Int32))), .val (.int nv_38), .val (.ref b), .unset, .unset] rfl rfl ?_
    refine o_iloadN X_42 KW_36 at_103 104 rfl rfl ?_
    refine o_iconst X_42 KW_36 (2 : Int32) at_104 105 rfl rfl ?_
    refine o_iand X_42 KW_36 at_105 106 rfl ?_
    refine o_if_eq X_42 KW_36 at_106 163 (by decide) (by decide) 109 rfl (fun hc106 => ?_) (fun hc106 => ?_)
    · refine o_iload X_42 KW_36 at_163 165 rfl rfl ?_
      refine o_ireturnNW X_42 hS_36 e_42 hk_39 KW_36 (by decide) at_165 (by decide) (by decide) N_42 ?_
      exact rfl
    · refine o_iloadN X_42 KW_36 at_109 110 rfl rfl ?_
      refine o_invokestatic X_42 KW_36 at_110 113 rfl (w_41 hw) (w_42 hw) (w_43 hw) (w_44 hw) (by decide) [(.int p1)] [] rfl  (c_valid l Z a0 hw n0 p1 h_39 Z_39) e_42 rfl (lenOf pd__I_I rfl) (by decide) 0 (Nat.le_of_eq rfl) (by decide) (by decide) (by decide) N_42 ?_
      rintro _ T_43 h_43 locs_43 X_43 q_43 ⟨nv_43, rfl, hnv_43, r_43⟩ N_43
      have e_43 := q_43.trans r_43
      show OGo p e below _ n0 _ (T_43.setTop (mkF m 113 #[.val (.int p0), .val (.int p1), .val (.int p2), .val (.int p3), .val (.ref b), .val (.int (1 : Int32)), .val (.int (p2 &&& (2147483647 : Int32))), .val (.int nv_38), .val (.ref b), .unset, .unset] [(.int nv_43)]))
      refine o_istore X_43 KW_36 at_113 115 rfl #[.val (.int p0), .val (.int p1), .val (.int p2), .val (.int p3), .val (.ref b), .val (.int (1 : Int32)), .val (.int (p2 &&& (2147483647 : Int32))), .val (.int nv_38), .val (.ref b), .val (.int nv_43), .unset] rfl rfl ?_
      refine o_aload X_43 KW_36 at_115 117 rfl rfl rfl ?_
      refine o_iload X_43 KW_36 at_117 119 rfl rfl ?_
      refine o_invokevirtual X_43 KW_36 at_119 122 rfl (w_45 hw) (w_46 hw) (w_48 hw) (w_47 hw) (w_2 hw) (w_49 hw) (by decide) p_39f0 [(.int nv_43)] [] rfl  (c_setc l Z a0 hw n0 b nv_43 nv_38 (p2 &&& (2147483647 : Int32)) h_39 Z_39 p_39f0 p_39f1 p_39f2 g_b (hnv_43)) e_43 rfl (lenOf pd__I_Lcom_example_tourbillon_tourbillon_NetClientOptions_ rfl) (by decide) 0 (Nat.le_of_eq rfl) (by decide) (by decide) (by decide) N_43 ?_
      rintro _ T_44 h_44 locs_44 X_44 e_44 ⟨rfl, k_44, p_44f0, p_44f1, p_44f2⟩ N_44
      have hk_44 : _ ≤ h_44.size := Nat.le_trans hk_39 (k_44.1)
      have Z_44 : n0 ≤ h_44.size := Nat.le_trans Z_39 k_44.1
      have f_45 := Exa.keep p_39f0 k_44
      show OGo p e below _ n0 _ (T_44.setTop (mkF m 122 #[.val (.int p0), .val (.int p1), .val (.int p2), .val (.int p3), .val (.ref b), .val (.int (1 : Int32)), .val (.int (p2 &&& (2147483647 : Int32))), .val (.int nv_38), .val (.ref b), .val (.int nv_43), .unset] [(.ref b)]))
      refine o_astore X_44 KW_36 at_122 124 rfl #[.val (.int p0), .val (.int p1), .val (.int p2), .val (.int p3), .val (.ref b), .val (.int (1 : Int32)), .val (.int (p2 &&& (2147483647 : Int32))), .val (.int nv_38), .val (.ref b), .val (.int nv_43), .val (.ref b)] rfl rfl ?_
      refine o_iload X_44 KW_36 at_124 126 rfl rfl ?_
      refine o_if_eq_f X_44 KW_36 at_126 129 rfl (by decide) ?_
      refine o_aload X_44 KW_36 at_129 131 rfl rfl rfl ?_
      refine o_aload X_44 KW_36 at_131 133 rfl rfl rfl ?_
      refine o_acmp X_44 KW_36 at_133 136 rfl rfl true (decide_eq_true rfl) (by decide) (by decide) ?_
      refine o_aload X_44 KW_36 at_136 138 rfl rfl rfl ?_
      refine o_invokevirtual X_44 KW_36 at_138 141 rfl (w_12 hw) (w_13 hw) (w_15 hw) (w_14 hw) (w_2 hw) (w_16 hw) (by decide) p_44f0 [] [] rfl  (c_getc l Z a0 hw n0 b nv_43 h_44 Z_44 p_44f1) e_44 rfl (lenOf pd___I rfl) (by decide) 0 (Nat.le_of_eq rfl) (by decide) (by decide) (by decide) N_44 ?_
      rintro _ T_46 h_46 locs_46 X_46 q_46 ⟨rfl, r_46⟩ N_46
      have e_46 := q_46.trans r_46
      show OGo p e below _ n0 _ (T_46.setTop (mkF m 141 #[.val (.int p0), .val (.int p1), .val (.int p2), .val (.int p3), .val (.ref b), .val (.int (1 : Int32)), .val (.int (p2 &&& (2147483647 : Int32))), .val (.int nv_38), .val (.ref b), .val (.int nv_43), .val (.ref b)] [(.int nv_43)]))
      refine o_iload X_46 KW_36 at_141 143 rfl rfl ?_
      refine o_icmp_ne_f X_46 KW_36 at_143 146 rfl (rfl) ?_
      refine o_aload X_46 KW_36 at_146 148 rfl rfl rfl ?_
      refine o_invokevirtual X_46 KW_36 at_148 151 rfl (w_50 hw) (w_51 hw) (w_53 hw) (w_52 hw) (w_2 hw) (w_54 hw) (by decide) p_44f0 [] [] rfl  (c_geti l Z a0 hw n0 b (p2 &&& (2147483647 : Int32)) h_44 Z_44 p_44f2) e_46 rfl (lenOf pd___I rfl) (by decide) 0 (Nat.le_of_eq rfl) (by decide) (by decide) (by decide) N_46 ?_
      rintro _ T_47 h_47 locs_47 X_47 q_47 ⟨rfl, r_47⟩ N_47
      have e_47 := q_47.trans r_47
      show OGo p e below _ n0 _ (T_47.setTop (mkF m 151 #[.val (.int p0), .val (.int p1), .val (.int p2), .val (.int p3), .val (.ref b), .val (.int (1 : Int32)), .val (.int (p2 &&& (2147483647 : Int32))), .val (.int nv_38), .val (.ref b), .val (.int nv_43), .val (.ref b)] [(.int (p2 &&& (2147483647 : Int32)))]))
      refine o_iload X_47 KW_36 at_151 153 rfl rfl ?_
      refine o_icmp_ne_f X_47 KW_36 at_153 156 rfl (rfl) ?_
      refine o_iconst X_47 KW_36 (1 : Int32) at_156 157 rfl rfl ?_
      refine o_goto X_47 KW_36 at_157 161 (by decide) (by decide) ?_
      refine o_istore X_47 KW_36 at_161 163 rfl #[.val (.int p0), .val (.int p1), .val (.int p2), .val (.int p3), .val (.ref b), .val (.int (1 : Int32)), .val (.int (p2 &&& (2147483647 : Int32))), .val (.int nv_38), .val (.ref b), .val (.int nv_43), .val (.ref b)] rfl rfl ?_
      refine o_iload X_47 KW_36 at_163 165 rfl rfl ?_
      refine o_ireturnNW X_47 hS_36 e_47 hk_44 KW_36 (by decide) at_165 (by decide) (by decide) N_47 ?_
      exact rfl
set_option maxHeartbeats 4000000 in
theorem comes_1 {Post : Tables → Env → Array Value → State → Outcome → State → Prop} (hpost : ∀ tb e args s v u, (limb_1_1.after args s (.returned v) u = true ∧ limb_1_2.after args s (.returned v) u = true ∧ True) → Jvm.D.FramedW s (.returned v) u (Jvm.fieldLocs frame_1_writes args s ++ Jvm.arrayLocs frame_1_arrays args s ++ Jvm.staticLocs frame_1_statics s) 16 1152 → Post tb e args s (.returned v) u) :
    ArmFor flags0 classFile x code maxLocals ret World_1 tables_1 room_1 Calls_1 rest_1 Pre_1 Post := by
  intro l hfl _ _ p e ha hc hk s m args below hf hA hF happ hP
  obtain ⟨hcalls, hrest, hpre⟩ := hP
  obtain ⟨-, -, -, hnamed, -, -, -, hat⟩ := (Spec.applies_iff hf).mp happ
  obtain ⟨hg, hn⟩ := and_e (Cond.before_iff.mp (show (Jvm.Cond.and given_1 narrow_1).before args s = true from hpre))
  obtain ⟨g1, g2⟩ := and_e hg
  obtain ⟨g3, g4⟩ := and_e g2
  obtain ⟨g5, g6⟩ := and_e g4
  obtain ⟨g7, g8⟩ := and_e g6
  obtain ⟨w0, w1, w2, w3, rfl⟩ : ∃ w0 w1 w2 w3 : Value, args = #[w0, w1, w2, w3] := by
    have hs : args.size = 4 := by simpa [Cond.value, given_1] using g1
    obtain ⟨L⟩ := args
    match L, hs with
    | [w0, w1, w2, w3], _ => exact ⟨w0, w1, w2, w3, rfl⟩
  have hw := fun d (hd : d ∈ tables_1) => atoms_spec (ws := Jvm.Cond.code x code maxLocals ret :: tables_1) hat d (List.mem_cons_of_mem _ hd)
  have hfit : Fit s := fun {y c} hc i hi => by
    obtain ⟨ha, rfl⟩ := Array.getElem?_eq_some_iff.mp hc
    have q := List.all_eq_true.mp ((Array.all_eq_true_iff_forall_mem.mp hF) _ (Array.getElem_mem ha)) i (List.mem_range.mpr hi)
    simpa [Array.getElem?_eq_getElem hi] using q
  obtain ⟨i0, ei0⟩ := is_v g3
  obtain rfl : w0 = (.int i0) := Option.some.inj ei0
  obtain ⟨i1, ei1⟩ := is_v g5
  obtain rfl : w1 = (.int i1) := Option.some.inj ei1
  obtain ⟨i2, ei2⟩ := is_v g7
  obtain rfl : w2 = (.int i2) := Option.some.inj ei2
  obtain ⟨i3, ei3⟩ := is_v g8
  obtain rfl : w3 = (.int i3) := Option.some.inj ei3
  obtain ⟨n, o, h1, h2, h3, _, L, rfl, ⟨rfl, N⟩, hq⟩ := rm0 l s _ hw s.heap.size i0 i1 i2 i3 s.heap (Nat.le_refl _)  tables_1 p e ha hc hk s m _ below hf ((Spec.applies_iff_loose hf).mp happ).1 ⟨rfl, State.Warmed39.refl s, rfl⟩ trivial
  refine ⟨n, _, h1, h2, h3, hpost _ _ _ _ _ _ ⟨Cond.after_iff.mpr rfl, Cond.after_iff.mpr (eq_i res_at (Term.int_eval (1)) rfl), trivial⟩ ⟨hq.1, hq.2.1, hq.2.2.1, (hq.2.2.2.sift fun y hy => Or.inr (N y hy)).mono (by decide) (by decide)⟩⟩
theorem main_1_1 : Claimed_1_1 := comes_1 fun _ _ _ _ _ _ h hF => ⟨h.1, hF⟩
theorem main_1_2 : Claimed_1_2 := comes_1 fun _ _ _ _ _ _ h hF => ⟨h.2.1, hF⟩
end Jvm.Pilot.@@N@@
namespace Jvm.Pilot.@@N@@
open Jvm Jvm.ClassFile Sem Op Lib Jvm.Free Jvm.Stand Jvm.Pilot.@@N@@.Jvm.D
/-! MADE BY PROGRAM (witnessworld.py) out of the Statement's table words and the real class files: 15 classes; the members and pool entries that the words name. The judged class is class 1, her method 2. -/
namespace start1
open Jvm.ClassFile
def u (s : String) : CpInfo := .utf8 (stringToUtf16 s)
/-- a pool by its gaps: so many unusable entries, then the entry; so many at the end -/
def gap : Nat → List CpInfo → List CpInfo
  | 0, r => r
  | n + 1, r => .unusable :: gap n r
def poolList (es : List (Nat × CpInfo)) (last : Nat) : List CpInfo := es.foldr (fun e r => gap e.1 (e.2 :: r)) (gap last [])
def pool (es : List (Nat × CpInfo)) (last : Nat) : Array CpInfo := ⟨poolList es last⟩
def fileOf (pool : Array CpInfo) (this : Nat) (attrs : Array Attribute := #[]) (ms : Array MethodInfo := #[]) (fl : Nat := 33) (sup : Nat := 0) (ifs : Array Nat := #[]) (fds : Array FieldInfo := #[]) : ClassFile where
  minorVersion := 0
  majorVersion := 65
  constantPool := pool
  accessFlags := fl
  thisClass := this
  superClass := sup
  interfaces := ifs
  fields := fds
  methods := ms
  attributes := attrs
def plain (name : String) (sup : Option ClassId) : Class where
  name := name
  kind := .ordinary
  loader := none
  accessFlags := 33
  super := sup
  interfaces := #[]
  cf := none
  fields := #[]
  methods := #[]
  instanceTypes := #[]
  staticTypes := #[]
  resolved := #[]
  callSites := []
  init := .initialized
  statics := none
  mirror := none

def pool0 : Array CpInfo := pool [(5, u "<init>"), (0, u "()V"), (1, .class_ 10), (1, u "java/lang/Object")] 113

def k0c0 : Code := { maxStack := 0, maxLocals := 1, code := object_method_1_code, exceptionTable := #[], attributes := #[] }
def k0m0 : Method := { name := "<init>", desc := "()V", sig := { parameters := [], returnType := none }, accessFlags := 1, code := some k0c0 }
/-- java/lang/Object -/
def k0 : Class := { plain "java/lang/Object" none with
  accessFlags := 33
  interfaces := #[]
  cf := some (fileOf pool0 8 #[] #[{ accessFlags := 1, nameIndex := 5, descriptorIndex := 6, attributes := #[] }] 33 0 #[] #[])
  fields := #[]
  methods := #[k0m0]
  instanceTypes := #[]
  staticTypes := #[]
  resolved := Array.replicate 124 none
  statics := none }

def pool1 : Array CpInfo := pool [(2, .class_ 4), (0, .nameAndType 5 6), (0, u "java/lang/Object"), (0, u "<init>"), (0, u "()V"), (0, .integer 2147483647), (0, .class_ 9), (0, u "com/example/tourbillon/tourbillon/NetClientOptions"), (0, .methodref 8 3), (0, .methodref 8 12), (0, .nameAndType 13 14), (0, u "getConnectTimeout"), (0, u "()I"), (0, .integer 60000), (0, .methodref 8 17), (0, .nameAndType 18 19), (0, u "setIdleTimeout"), (0, u "(I)Lcom/example/tourbillon/tourbillon/NetClientOptions;"), (0, .methodref 21 22), (0, .class_ 23), (0, .nameAndType 24 25), (0, u "com/example/tourbillon/tourbillon/NetClientOptionsSetConnectTimeoutPinLaw"), (0, u "valid"), (0, u "(I)I"), (0, .methodref 8 27), (0, .nameAndType 28 19), (0, u "setConnectTimeout"), (0, .methodref 8 30), (0, .nameAndType 31 14), (0, u "getIdleTimeout"), (3, u "law"), (0, u "(IIII)Z")] 2

def k1m0 : Method := { name := "<init>", desc := "()V", sig := { parameters := [], returnType := none }, accessFlags := 2, code := none }
def k1c1 : Code := { maxStack := 2, maxLocals := 2, code := method_2_code, exceptionTable := #[], attributes := #[] }
def k1m1 : Method := { name := "valid", desc := "(I)I", sig := { parameters := [.int], returnType := some .int }, accessFlags := 10, code := some k1c1 }
def k1c2 : Code := { maxStack := 2, maxLocals := 11, code := code, exceptionTable := #[], attributes := #[] }
def k1m2 : Method := { name := "law", desc := "(IIII)Z", sig := { parameters := [.int, .int, .int, .int], returnType := some .boolean }, accessFlags := 9, code := some k1c2 }
/-- com/example/tourbillon/tourbillon/NetClientOptionsSetConnectTimeoutPinLaw -/
def k1 : Class := { plain "com/example/tourbillon/tourbillon/NetClientOptionsSetConnectTimeoutPinLaw" (some 0) with
  accessFlags := 49
  interfaces := #[]
  cf := some (fileOf pool1 21 #[] #[{ accessFlags := 2, nameIndex := 5, descriptorIndex := 6, attributes := #[] }, { accessFlags := 10, nameIndex := 24, descriptorIndex := 25, attributes := #[] }, { accessFlags := 9, nameIndex := 35, descriptorIndex := 36, attributes := #[] }] 49 2 #[] #[])
  fields := #[]
  methods := #[k1m0, k1m1, k1m2]
  instanceTypes := #[]
  staticTypes := #[]
  resolved := Array.replicate 39 none
  statics := none }

def pool2 : Array CpInfo := pool [(1, .methodref 2 3), (0, .class_ 4), (0, .nameAndType 5 6), (0, u "java/lang/Object"), (0, u "<init>"), (0, u "()V"), (0, .integer 60000), (0, .fieldref 9 10), (0, .class_ 11), (0, .nameAndType 12 13), (0, u "com/example/tourbillon/tourbillon/NetClientOptions"), (0, u "connectTimeout"), (0, u "I"), (9, .fieldref 9 24), (0, .nameAndType 25 13), (0, u "idleTimeout"), (0, .methodref 27 28), (0, .class_ 29), (0, .nameAndType 25 30), (0, u "com/example/tourbillon/tourbillon/Settings"), (0, u "(I)I"), (2, u "getConnectTimeout"), (0, u "()I"), (0, u "setConnectTimeout"), (0, u "(I)Lcom/example/tourbillon/tourbillon/NetClientOptions;"), (1, u "getIdleTimeout"), (0, u "setIdleTimeout")] 17

def k2c0 : Code := { maxStack := 2, maxLocals := 1, code := prog_11_method_1_code, exceptionTable := #[], attributes := #[] }
def k2m0 : Method := { name := "<init>", desc := "()V", sig := { parameters := [], returnType := none }, accessFlags := 1, code := some k2c0 }
def k2c1 : Code := { maxStack := 1, maxLocals := 1, code := prog_11_method_2_code, exceptionTable := #[], attributes := #[] }
def k2m1 : Method := { name := "getConnectTimeout", desc := "()I", sig := { parameters := [], returnType := some .int }, accessFlags := 1, code := some k2c1 }
def k2c2 : Code := { maxStack := 3, maxLocals := 2, code := prog_11_method_3_code, exceptionTable := #[], attributes := #[] }
def k2m2 : Method := { name := "setConnectTimeout", desc := "(I)Lcom/example/tourbillon/tourbillon/NetClientOptions;", sig := { parameters := [.int], returnType := some (.object "com/example/tourbillon/tourbillon/NetClientOptions") }, accessFlags := 1, code := some k2c2 }
def k2c3 : Code := { maxStack := 1, maxLocals := 1, code := prog_11_method_4_code, exceptionTable := #[], attributes := #[] }
def k2m3 : Method := { name := "getIdleTimeout", desc := "()I", sig := { parameters := [], returnType := some .int }, accessFlags := 1, code := some k2c3 }
def k2c4 : Code := { maxStack := 2, maxLocals := 2, code := prog_11_method_5_code, exceptionTable := #[], attributes := #[] }
def k2m4 : Method := { name := "setIdleTimeout", desc := "(I)Lcom/example/tourbillon/tourbillon/NetClientOptions;", sig := { parameters := [.int], returnType := some (.object "com/example/tourbillon/tourbillon/NetClientOptions") }, accessFlags := 1, code := some k2c4 }
/-- com/example/tourbillon/tourbillon/NetClientOptions -/
def k2 : Class := { plain "com/example/tourbillon/tourbillon/NetClientOptions" (some 0) with
  accessFlags := 49
  interfaces := #[]
  cf := some (fileOf pool2 9 #[] #[{ accessFlags := 1, nameIndex := 5, descriptorIndex := 6, attributes := #[] }, { accessFlags := 1, nameIndex := 33, descriptorIndex := 34, attributes := #[] }, { accessFlags := 1, nameIndex := 35, descriptorIndex := 36, attributes := #[] }, { accessFlags := 1, nameIndex := 38, descriptorIndex := 34, attributes := #[] }, { accessFlags := 1, nameIndex := 39, descriptorIndex := 36, attributes := #[] }] 49 2 #[] #[{ accessFlags := 2, nameIndex := 12, descriptorIndex := 13, attributes := #[] }, { accessFlags := 2, nameIndex := 25, descriptorIndex := 13, attributes := #[] }])
  fields := #[{ name := "connectTimeout", type := .int, accessFlags := 2, slot := 0, constantValue := 0 }, { name := "idleTimeout", type := .int, accessFlags := 2, slot := 1, constantValue := 0 }]
  methods := #[k2m0, k2m1, k2m2, k2m3, k2m4]
  instanceTypes := #[.int, .int]
  staticTypes := #[]
  resolved := Array.replicate 57 none
  statics := none }

def pool3 : Array CpInfo := pool [(2, .class_ 4), (1, u "java/lang/Object"), (0, u "<init>"), (0, u "()V"), (9, .string 17), (0, u "an idle timeout"), (0, .methodref 19 20), (0, .class_ 21), (0, .nameAndType 22 23), (0, u "com/example/tourbillon/tourbillon/Settings"), (0, u "atLeast"), (0, u "(Ljava/lang/String;II)I"), (3, u "idleTimeout"), (0, u "(I)I")] 17

def k3m0 : Method := { name := "<init>", desc := "()V", sig := { parameters := [], returnType := none }, accessFlags := 2, code := none }
def k3c1 : Code := { maxStack := 5, maxLocals := 3, code := prog_17_method_2_code, exceptionTable := #[], attributes := #[] }
def k3m1 : Method := { name := "atLeast", desc := "(Ljava/lang/String;II)I", sig := { parameters := [(.object "java/lang/String"), .int, .int], returnType := some .int }, accessFlags := 8, code := some k3c1 }
def k3c2 : Code := { maxStack := 3, maxLocals := 1, code := prog_17_method_3_code, exceptionTable := #[], attributes := #[] }
def k3m2 : Method := { name := "idleTimeout", desc := "(I)I", sig := { parameters := [.int], returnType := some .int }, accessFlags := 8, code := some k3c2 }
/-- com/example/tourbillon/tourbillon/Settings -/
def k3 : Class := { plain "com/example/tourbillon/tourbillon/Settings" (some 0) with
  accessFlags := 48
  interfaces := #[]
  cf := some (fileOf pool3 19 #[] #[{ accessFlags := 2, nameIndex := 5, descriptorIndex := 6, attributes := #[] }, { accessFlags := 8, nameIndex := 22, descriptorIndex := 23, attributes := #[] }, { accessFlags := 8, nameIndex := 27, descriptorIndex := 28, attributes := #[] }] 48 2 #[] #[])
  fields := #[]
  methods := #[k3m0, k3m1, k3m2]
  instanceTypes := #[]
  staticTypes := #[]
  resolved := Array.replicate 46 none
  statics := none }

def pool4 : Array CpInfo := pool [(1, .class_ 2), (0, u "java/io/Serializable"), (0, .class_ 4), (0, u "java/lang/Object")] 2

/-- java/io/Serializable -/
def k4 : Class := { plain "java/io/Serializable" (some 0) with
  accessFlags := 1537
  interfaces := #[]
  cf := some (fileOf pool4 1 #[] #[] 1537 3 #[] #[])
  fields := #[]
  methods := #[]
  instanceTypes := #[]
  staticTypes := #[]
  resolved := Array.replicate 7 none
  statics := none }

def pool5 : Array CpInfo := pool [(1, .class_ 2), (0, u "java/lang/Comparable"), (0, .class_ 4), (0, u "java/lang/Object")] 7

/-- java/lang/Comparable -/
def k5 : Class := { plain "java/lang/Comparable" (some 0) with
  accessFlags := 1537
  interfaces := #[]
  cf := some (fileOf pool5 1 #[] #[] 1537 3 #[] #[])
  fields := #[]
  methods := #[]
  instanceTypes := #[]
  staticTypes := #[]
  resolved := Array.replicate 12 none
  statics := none }

def pool6 : Array CpInfo := pool [(2, .class_ 4), (1, u "java/lang/CharSequence"), (42, .class_ 48), (0, u "java/lang/CharSequence$1CodePointIterator"), (10, .class_ 60), (0, u "java/lang/CharSequence$1CharIterator"), (5, .class_ 67), (0, u "java/lang/Object")] 63

/-- java/lang/CharSequence -/
def k6 : Class := { plain "java/lang/CharSequence" (some 0) with
  accessFlags := 1537
  interfaces := #[]
  cf := some (fileOf pool6 2 #[.nestMembers #[47, 59]] #[] 1537 66 #[] #[])
  fields := #[]
  methods := #[]
  instanceTypes := #[]
  staticTypes := #[]
  resolved := Array.replicate 131 none
  statics := none }

def pool7 : Array CpInfo := pool [(1, .class_ 2), (0, u "java/lang/constant/Constable"), (0, .class_ 4), (0, u "java/lang/Object")] 6

/-- java/lang/constant/Constable -/
def k7 : Class := { plain "java/lang/constant/Constable" (some 0) with
  accessFlags := 1537
  interfaces := #[]
  cf := some (fileOf pool7 1 #[] #[] 1537 3 #[] #[])
  fields := #[]
  methods := #[]
  instanceTypes := #[]
  staticTypes := #[]
  resolved := Array.replicate 11 none
  statics := none }

def pool8 : Array CpInfo := pool [(1, .class_ 2), (0, u "java/lang/constant/ConstantDesc"), (0, .class_ 4), (0, u "java/lang/Object")] 32

/-- java/lang/constant/ConstantDesc -/
def k8 : Class := { plain "java/lang/constant/ConstantDesc" (some 0) with
  accessFlags := 1537
  interfaces := #[]
  cf := some (fileOf pool8 1 #[] #[] 1537 3 #[] #[])
  fields := #[]
  methods := #[]
  instanceTypes := #[]
  staticTypes := #[]
  resolved := Array.replicate 37 none
  statics := none }

def pool9 : Array CpInfo := pool [(2, .class_ 4), (1, u "java/lang/Object"), (0, u "<init>"), (0, u "()V"), (3, .class_ 12), (1, u "java/lang/String"), (0, u "value"), (0, u "[B"), (2, u "coder"), (0, u "B"), (2, u "hash"), (0, u "I"), (2, u "hashIsZero"), (0, u "Z"), (13, u "COMPACT_STRINGS"), (534, .class_ 576), (0, u "java/lang/CharSequence"), (22, u "CASE_INSENSITIVE_ORDER"), (0, u "Ljava/util/Comparator;"), (500, u "serialPersistentFields"), (0, u "[Ljava/io/ObjectStreamField;"), (0, .class_ 1104), (0, u "java/lang/String$CaseInsensitiveComparator"), (1, .class_ 1107), (0, u "java/io/Serializable"), (0, .class_ 1109), (0, u "java/lang/Comparable"), (0, .class_ 1111), (0, u "java/lang/constant/Constable"), (0, .class_ 1113), (0, u "java/lang/constant/ConstantDesc"), (2, u "serialVersionUID"), (0, u "J"), (3, u "REPL"), (0, u "C"), (2, u "LATIN1"), (1, u "UTF16")] 323

def k9m0 : Method := { name := "<init>", desc := "()V", sig := { parameters := [], returnType := none }, accessFlags := 1, code := none }
/-- java/lang/String -/
def k9 : Class := { plain "java/lang/String" (some 0) with
  accessFlags := 49
  interfaces := #[4, 5, 6, 7, 8]
  cf := some (fileOf pool9 10 #[.nestMembers #[1103]] #[{ accessFlags := 1, nameIndex := 5, descriptorIndex := 6, attributes := #[] }] 49 2 #[1106, 1108, 575, 1110, 1112] #[{ accessFlags := 18, nameIndex := 13, descriptorIndex := 14, attributes := #[] }, { accessFlags := 18, nameIndex := 17, descriptorIndex := 18, attributes := #[] }, { accessFlags := 2, nameIndex := 21, descriptorIndex := 22, attributes := #[] }, { accessFlags := 2, nameIndex := 25, descriptorIndex := 26, attributes := #[] }, { accessFlags := 26, nameIndex := 1116, descriptorIndex := 1117, attributes := #[] }, { accessFlags := 24, nameIndex := 40, descriptorIndex := 26, attributes := #[] }, { accessFlags := 26, nameIndex := 1101, descriptorIndex := 1102, attributes := #[] }, { accessFlags := 26, nameIndex := 1121, descriptorIndex := 1122, attributes := #[] }, { accessFlags := 25, nameIndex := 599, descriptorIndex := 600, attributes := #[] }, { accessFlags := 24, nameIndex := 1125, descriptorIndex := 18, attributes := #[] }, { accessFlags := 24, nameIndex := 1127, descriptorIndex := 18, attributes := #[] }])
  fields := #[{ name := "value", type := (.array .byte), accessFlags := 18, slot := 0, constantValue := 0 }, { name := "coder", type := .byte, accessFlags := 18, slot := 1, constantValue := 0 }, { name := "hash", type := .int, accessFlags := 2, slot := 2, constantValue := 0 }, { name := "hashIsZero", type := .boolean, accessFlags := 2, slot := 3, constantValue := 0 }, { name := "serialVersionUID", type := .long, accessFlags := 26, slot := 0, constantValue := 0 }, { name := "COMPACT_STRINGS", type := .boolean, accessFlags := 24, slot := 1, constantValue := 0 }, { name := "serialPersistentFields", type := (.array (.object "java/io/ObjectStreamField")), accessFlags := 26, slot := 2, constantValue := 0 }, { name := "REPL", type := .char, accessFlags := 26, slot := 3, constantValue := 0 }, { name := "CASE_INSENSITIVE_ORDER", type := (.object "java/util/Comparator"), accessFlags := 25, slot := 4, constantValue := 0 }, { name := "LATIN1", type := .byte, accessFlags := 24, slot := 5, constantValue := 0 }, { name := "UTF16", type := .byte, accessFlags := 24, slot := 6, constantValue := 0 }]
  methods := #[k9m0]
  instanceTypes := #[(.array .byte), .byte, .int, .boolean]
  staticTypes := #[.long, .boolean, (.array (.object "java/io/ObjectStreamField")), .char, (.object "java/util/Comparator"), .byte, .byte]
  resolved := Array.replicate 1451 none
  statics := none }

def pool10 : Array CpInfo := pool [(1, u "java/lang/Cloneable"), (0, .class_ 1), (0, u "java/lang/Object"), (0, .class_ 3)] 3

/-- java/lang/Cloneable -/
def k10 : Class := { plain "java/lang/Cloneable" (some 0) with
  accessFlags := 1537
  interfaces := #[]
  cf := some (fileOf pool10 2 #[] #[] 1537 4 #[] #[])
  fields := #[]
  methods := #[]
  instanceTypes := #[]
  staticTypes := #[]
  resolved := Array.replicate 8 none
  statics := none }

/-- the primitive byte -/
def k11 : Class := { plain "byte" none with kind := .primitive 'B', accessFlags := 0x411 }
/-- [B -/
def k12 : Class := { plain "[B" (some 0) with kind := .array 11 .byte, interfaces := #[10, 4], accessFlags := 1041 }

/-- the primitive int -/
def k13 : Class := { plain "int" none with kind := .primitive 'I', accessFlags := 0x411 }
/-- [I -/
def k14 : Class := { plain "[I" (some 0) with kind := .array 13 .int, interfaces := #[10, 4], accessFlags := 1041 }

def heap : Heap := #[]
def classes : Array Class := #[k0, k1, k2, k3, k4, k5, k6, k7, k8, k9, k10, k11, k12, k13, k14]
def interned : List (Array UInt16 × Addr) := []
def slotsUsed : Nat := 0
def theMethod : MethodId := ⟨1, 2⟩
def args0 : Array Value := #[.int 5, .int 7, .int 3, .int 3]
def aboutOver (below : List Frame) : State where
  vm := { classes := classes, interned := interned.toArray }
  heap := heap
  slotsUsed := slotsUsed
  threads := #[{ frames := .invoking theMethod args0 :: below }]
def below0 : List Frame := [.native { method := ⟨0, 0⟩, args := #[] }]
def about1 : State := aboutOver below0
def p0 : Program := .bare "" "" ""
def e0 : Env := launch0.env 0 0 0
theorem w_frames : about1.frames = Frame.invoking theMethod args0 :: below0 := rfl
set_option maxRecDepth 65536 in
theorem w_args : argsFit about1.vm theMethod args0 = true := by decide +kernel
set_option maxRecDepth 65536 in
theorem w_heap : heapFits about1 = true := by decide +kernel
set_option maxRecDepth 65536 in
theorem w_runnable : about1.curStatus? = some .runnable := by decide +kernel
set_option maxRecDepth 65536 in
theorem w_alone : about1.alone = true := by decide +kernel
set_option maxRecDepth 65536 in
theorem w_named : about1.methodNamed? x = some theMethod := by decide +kernel
set_option maxRecDepth 65536 in
theorem w_hears : about1.hears theMethod below0 = true := by decide +kernel
set_option maxRecDepth 65536 in
theorem w_ripe : about1.ripe theMethod args0 below0 = true := by decide +kernel
theorem w_running : about1.status = .running := rfl
set_option maxRecDepth 65536 in
theorem w_room : about1.hasRoom e0.platform room_1 = true :=
  launch0.hasRoom_least _ room_1 (by decide +kernel) (by decide +kernel) (by decide +kernel) (by decide +kernel) (by decide +kernel) (by decide +kernel)
theorem allAtoms_all (ts : List Jvm.Cond) (a : Array Jvm.Value) (st : Jvm.State) : (allAtoms ts).before a st = ts.all (fun c => c.before a st) := by
  induction ts with
  | nil => rfl
  | cons c t ih =>
    show (Jvm.Cond.and c (allAtoms t)).before a st = _
    rw [Jvm.Cond.before_and, ih, List.all_cons]
def words1 : List Jvm.Cond := Jvm.Cond.code x code maxLocals ret :: tables_1
/-- a 'code' word, met by the world's own term for the bytes: nothing is compared byte by byte -/
theorem code_word {y : MethodName} {bytes : ByteArray} {mx : Nat} {rt : Option FieldType} {a : Array Value} {s : State} {m : MethodId} {meth : Method} {c : Code} (h1 : s.methodNamed? y = some m) (h2 : s.vm.method? m = some meth) (h3 : meth.code = some c) (h4 : c.code = bytes)
    (h5 : (c.maxLocals == mx && c.exceptionTable.isEmpty && decide (c.maxStack ≤ mostOperands) && decide (meth.sig.returnType = rt) && !meth.locks && decide (parseMethodDescriptor y.desc = some meth.sig)) = true) : (Jvm.Cond.code y bytes mx rt).before a s = true := by
  simp only [Bool.and_eq_true, beq_iff_eq, Bool.not_eq_true', decide_eq_true_eq] at h5
  obtain ⟨⟨⟨⟨⟨g1, g2⟩, g3⟩, g4⟩, g5⟩, g6⟩ := h5
  simp [Cond.before, Cond.holds, Cond.value, h1, h2, h3, h4, g1, g2, g3, g4, g5, g6]
def isCode : Jvm.Cond → Bool
  | .code _ _ _ _ => true
  | _ => false
theorem all_split {L : List Jvm.Cond} {P : Jvm.Cond → Bool} (h1 : L.all (fun c => isCode c || P c) = true) (h2 : ∀ c ∈ L.filter isCode, P c = true) : L.all P = true := by
  refine List.all_eq_true.mpr fun c hc => ?_
  have h := List.all_eq_true.mp h1 c hc
  rcases Bool.eq_false_or_eq_true (isCode c) with hi | hi
  · exact h2 c (List.mem_filter.mpr ⟨hc, hi⟩)
  · simpa [hi] using h
set_option maxRecDepth 65536 in
theorem w_c0 : (Jvm.Cond.code x code maxLocals ret).before args0 about1 = true := code_word (m := ⟨1, 2⟩) (meth := k1m2) (c := k1c2) (by decide +kernel) rfl rfl rfl (by decide +kernel)
set_option maxRecDepth 65536 in
theorem w_c1 : (Jvm.Cond.code ({ cls := "com/example/tourbillon/tourbillon/NetClientOptions", name := "<init>", desc := "()V" } : Jvm.MethodName) prog_11_method_1_code (1 : Nat) (Option.none : Option Jvm.ClassFile.FieldType)).before args0 about1 = true := code_word (m := ⟨2, 0⟩) (meth := k2m0) (c := k2c0) (by decide +kernel) rfl rfl rfl (by decide +kernel)
set_option maxRecDepth 65536 in
theorem w_c2 : (Jvm.Cond.code ({ cls := "java/lang/Object", name := "<init>", desc := "()V" } : Jvm.MethodName) object_method_1_code (1 : Nat) (Option.none : Option Jvm.ClassFile.FieldType)).before args0 about1 = true := code_word (m := ⟨0, 0⟩) (meth := k0m0) (c := k0c0) (by decide +kernel) rfl rfl rfl (by decide +kernel)
set_option maxRecDepth 65536 in
theorem w_c3 : (Jvm.Cond.code ({ cls := "com/example/tourbillon/tourbillon/NetClientOptions", name := "getConnectTimeout", desc := "()I" } : Jvm.MethodName) prog_11_method_2_code (1 : Nat) (Option.some Jvm.ClassFile.FieldType.int)).before args0 about1 = true := code_word (m := ⟨2, 1⟩) (meth := k2m1) (c := k2c1) (by decide +kernel) rfl rfl rfl (by decide +kernel)
set_option maxRecDepth 65536 in
theorem w_c4 : (Jvm.Cond.code ({ cls := "com/example/tourbillon/tourbillon/NetClientOptions", name := "setIdleTimeout", desc := "(I)Lcom/example/tourbillon/tourbillon/NetClientOptions;" } : Jvm.MethodName) prog_11_method_5_code (2 : Nat) (Option.some (Jvm.ClassFile.FieldType.object "com/example/tourbillon/tourbillon/NetClientOptions"))).before args0 about1 = true := code_word (m := ⟨2, 4⟩) (meth := k2m4) (c := k2c4) (by decide +kernel) rfl rfl rfl (by decide +kernel)
set_option maxRecDepth 65536 in
theorem w_c5 : (Jvm.Cond.code ({ cls := "com/example/tourbillon/tourbillon/Settings", name := "idleTimeout", desc := "(I)I" } : Jvm.MethodName) prog_17_method_3_code (1 : Nat) (Option.some Jvm.ClassFile.FieldType.int)).before args0 about1 = true := code_word (m := ⟨3, 2⟩) (meth := k3m2) (c := k3c2) (by decide +kernel) rfl rfl rfl (by decide +kernel)
set_option maxRecDepth 65536 in
theorem w_c6 : (Jvm.Cond.code ({ cls := "com/example/tourbillon/tourbillon/Settings", name := "atLeast", desc := "(Ljava/lang/String;II)I" } : Jvm.MethodName) prog_17_method_2_code (3 : Nat) (Option.some Jvm.ClassFile.FieldType.int)).before args0 about1 = true := code_word (m := ⟨3, 1⟩) (meth := k3m1) (c := k3c1) (by decide +kernel) rfl rfl rfl (by decide +kernel)
set_option maxRecDepth 65536 in
theorem w_c7 : (Jvm.Cond.code ({ cls := "com/example/tourbillon/tourbillon/NetClientOptionsSetConnectTimeoutPinLaw", name := "valid", desc := "(I)I" } : Jvm.MethodName) method_2_code (2 : Nat) (Option.some Jvm.ClassFile.FieldType.int)).before args0 about1 = true := code_word (m := ⟨1, 1⟩) (meth := k1m1) (c := k1c1) (by decide +kernel) rfl rfl rfl (by decide +kernel)
set_option maxRecDepth 65536 in
theorem w_c8 : (Jvm.Cond.code ({ cls := "com/example/tourbillon/tourbillon/NetClientOptions", name := "setConnectTimeout", desc := "(I)Lcom/example/tourbillon/tourbillon/NetClientOptions;" } : Jvm.MethodName) prog_11_method_3_code (2 : Nat) (Option.some (Jvm.ClassFile.FieldType.object "com/example/tourbillon/tourbillon/NetClientOptions"))).before args0 about1 = true := code_word (m := ⟨2, 2⟩) (meth := k2m2) (c := k2c2) (by decide +kernel) rfl rfl rfl (by decide +kernel)
set_option maxRecDepth 65536 in
theorem w_c9 : (Jvm.Cond.code ({ cls := "com/example/tourbillon/tourbillon/NetClientOptions", name := "getIdleTimeout", desc := "()I" } : Jvm.MethodName) prog_11_method_4_code (1 : Nat) (Option.some Jvm.ClassFile.FieldType.int)).before args0 about1 = true := code_word (m := ⟨2, 3⟩) (meth := k2m3) (c := k2c3) (by decide +kernel) rfl rfl rfl (by decide +kernel)
def codes1 : List Jvm.Cond := [Jvm.Cond.code x code maxLocals ret, Jvm.Cond.code ({ cls := "com/example/tourbillon/tourbillon/NetClientOptions", name := "<init>", desc := "()V" } : Jvm.MethodName) prog_11_method_1_code (1 : Nat) (Option.none : Option Jvm.ClassFile.FieldType), Jvm.Cond.code ({ cls := "java/lang/Object", name := "<init>", desc := "()V" } : Jvm.MethodName) object_method_1_code (1 : Nat) (Option.none : Option Jvm.ClassFile.FieldType), Jvm.Cond.code ({ cls := "com/example/tourbillon/tourbillon/NetClientOptions", name := "getConnectTimeout", desc := "()I" } : Jvm.MethodName) prog_11_method_2_code (1 : Nat) (Option.some Jvm.ClassFile.FieldType.int), Jvm.Cond.code ({ cls := "com/example/tourbillon/tourbillon/NetClientOptions", name := "setIdleTimeout", desc := "(I)Lcom/example/tourbillon/tourbillon/NetClientOptions;" } : Jvm.MethodName) prog_11_method_5_code (2 : Nat) (Option.some (Jvm.ClassFile.FieldType.object "com/example/tourbillon/tourbillon/NetClientOptions")), Jvm.Cond.code ({ cls := "com/example/tourbillon/tourbillon/Settings", name := "idleTimeout", desc := "(I)I" } : Jvm.MethodName) prog_17_method_3_code (1 : Nat) (Option.some Jvm.ClassFile.FieldType.int), Jvm.Cond.code ({ cls := "com/example/tourbillon/tourbillon/Settings", name := "atLeast", desc := "(Ljava/lang/String;II)I" } : Jvm.MethodName) prog_17_method_2_code (3 : Nat) (Option.some Jvm.ClassFile.FieldType.int), Jvm.Cond.code ({ cls := "com/example/tourbillon/tourbillon/NetClientOptionsSetConnectTimeoutPinLaw", name := "valid", desc := "(I)I" } : Jvm.MethodName) method_2_code (2 : Nat) (Option.some Jvm.ClassFile.FieldType.int), Jvm.Cond.code ({ cls := "com/example/tourbillon/tourbillon/NetClientOptions", name := "setConnectTimeout", desc := "(I)Lcom/example/tourbillon/tourbillon/NetClientOptions;" } : Jvm.MethodName) prog_11_method_3_code (2 : Nat) (Option.some (Jvm.ClassFile.FieldType.object "com/example/tourbillon/tourbillon/NetClientOptions")), Jvm.Cond.code ({ cls := "com/example/tourbillon/tourbillon/NetClientOptions", name := "getIdleTimeout", desc := "()I" } : Jvm.MethodName) prog_11_method_4_code (1 : Nat) (Option.some Jvm.ClassFile.FieldType.int)]
set_option maxRecDepth 65536 in
theorem codes_eq : words1.filter isCode = codes1 := rfl
theorem w_codes : ∀ c ∈ words1.filter isCode, c.before args0 about1 = true := by
  rw [codes_eq]
  intro c hc
  simp only [codes1, List.mem_cons, List.not_mem_nil, or_false] at hc
  rcases hc with rfl | rfl | rfl | rfl | rfl | rfl | rfl | rfl | rfl | rfl
  · exact w_c0
  · exact w_c1
  · exact w_c2
  · exact w_c3
  · exact w_c4
  · exact w_c5
  · exact w_c6
  · exact w_c7
  · exact w_c8
  · exact w_c9
set_option maxRecDepth 65536 in
theorem w_t1 : (words1.take 24).all (fun c => isCode c || c.before args0 about1) = true := by decide +kernel
set_option maxRecDepth 65536 in
theorem w_t2 : ((words1.drop 24).take 24).all (fun c => isCode c || c.before args0 about1) = true := by decide +kernel
set_option maxRecDepth 65536 in
theorem w_t3 : ((words1.drop 24).drop 24).all (fun c => isCode c || c.before args0 about1) = true := by decide +kernel
theorem w_tables : (allAtoms (Jvm.Cond.code x code maxLocals ret :: tables_1)).before args0 about1 = true := by
  rw [allAtoms_all]
  show words1.all (fun c => c.before args0 about1) = true
  refine all_split ?_ w_codes
  rw [← List.take_append_drop 24 words1, List.all_append, w_t1, ← List.take_append_drop 24 (words1.drop 24), List.all_append, w_t2, w_t3]
  rfl
set_option maxRecDepth 65536 in
theorem w_case : (Jvm.Cond.and given_1 narrow_1).before args0 about1 = true := by decide +kernel
theorem w_applies : (headSpec (Jvm.Cond.code x code maxLocals ret :: tables_1) room_1).applies x e0.platform about1 = true :=
  (Spec.applies_iff w_frames).mpr ⟨w_running, w_runnable, w_alone, w_named, w_hears, w_ripe, w_room, w_tables⟩
theorem atStart : AtStart classFile x code maxLocals ret World_1 tables_1 room_1 Calls_1 rest_1 Pre_1 launch0 p0 e0 about1 theMethod args0 below0 :=
  ⟨lists_1, trivial, launch0.admits_env _ _ _, launch0.least_env, fairChoices_fair.cas, fairChoices_fair.clock, w_frames, w_args, w_heap, w_applies, trivial, trivial, w_case⟩
end start1
theorem witness_1 : WitnessClaimed_1 := ⟨start1.p0, start1.e0, start1.about1, start1.theMethod, start1.args0, start1.below0, start1.atStart⟩
end Jvm.Pilot.@@N@@
