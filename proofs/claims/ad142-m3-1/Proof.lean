import JvmDerived
import JvmDerived.Pilot.@@N@@Statement
import JvmDerived.Pilot.@@N@@Code
set_option linter.unusedVariables false
set_option linter.unusedSimpArgs false
namespace Jvm.RoadKit
open Sem ClassFile Op Lib Jvm.Stand Jvm.Free Jvm.LawKit
section New
variable {p : Program} {l : Launch} {e : Env} {R : Room} {s : State} {m : MethodId} {args : Array Value} {below : List Frame} {meth : Method} {c : Code} {T : State} {locs : List Loc} {cells slots : Nat}
theorem retI (X : Stand p l e R s m args below meth c T locs cells slots) (hx : p.tables.exec = Jvm.exec) {pc : Nat} {Ls : Array Slot} {z : Int32} {rest : List Value} (hret : meth.sig.returnType = some .int) (hd : decode c.code pc = .ok (.ireturn, 1)) {fs : List Frame}
    (hl : ∀ (f : JFrame) (acts : List Action), f.method = m → f.locked = none → f.entered = [] → (doReturn e (T.setTop f) acts (some (.int z))).1 = T.setFrames fs) : Steps p.tables e below (T.setTop (mkF m pc Ls (.int z :: rest))) (T.setFrames fs) := by
  have hm' : T.vm.method? m = some meth := X.method'
  have hn : narrow .int (.int z) = .int z := rfl
  show Steps p.tables e below (T.setTop { method := m, pc := pc, locals := Ls, stack := _ :: rest, locked := none }) _
  jvm_step X.here [X.here.top, hx, hd, hm', hret, hn]
  first | (intro acts; rw [hl _ acts rfl rfl rfl]) | rw [hl _ _ rfl rfl rfl]
  exact Steps.refl _
end New
end Jvm.RoadKit
namespace Jvm.Pilot.@@N@@
open Jvm Jvm.ClassFile Sem Op Lib Jvm.Free Jvm.Stand Jvm.LawKit Jvm.RoadKit Bundle Jvm.Pilot.@@N@@.Jvm.D
section Own
variable {p : Program} {l : Launch} {e : Env} {R : Room} {s : State} {m : MethodId} {args : Array Value} {below : List Frame} {meth : Method} {c : Code} {T : State} {locs : List Loc} {cells slots : Nat} {Z : State} {a0 : Array Value} {h h' : Heap} {n0 : Nat} {Q : Option Value → Heap → Prop} {kc ks : Nat} {Fn : Outcome → State → List Loc → Prop} {Ls : Array Slot} {St : List Value} {pc : Nat} {own nm : String} {bytes : ByteArray} {maxL : Nat} {ret : Option FieldType}
/-- the rest of a run: from S the method ends by returning; Q says what it returns and leaves; nothing below n0 is written -/
def OGo (p : Program) (e : Env) (below : List Frame) (Fn : Outcome → State → List Loc → Prop) (n0 : Nat) (Q : Option Value → Heap → Prop) (S : State) : Prop :=
  ∃ U o, Steps p.tables e below S U ∧ U.status = .running ∧ Ended U below o ∧ ∃ v L, o = .returned v ∧ (Q v U.heap ∧ Fr n0 L) ∧ Fn o U L
/-- the end's frame: as FrameEnd has it; or the wide one, where String constants may have been interned -/
def OFin (s : State) (kc ks : Nat) (o : Outcome) (U : State) (L : List Loc) : Prop := FrameEnd s o U L kc ks
def OFinW (s : State) (kc ks : Nat) (o : Outcome) (U : State) (L : List Loc) : Prop := Jvm.ReturnedEndW s o U L kc ks
theorem OGo.st {A B : State} (k : ∀ t, Steps p.tables e below A t → Steps p.tables e below B t) (g : OGo p e below Fn n0 Q A) : OGo p e below Fn n0 Q B := by
  obtain ⟨U, o, h1, r⟩ := g
  exact ⟨U, o, k U h1, r⟩
theorem OGo.imp {A : State} {Q' : Option Value → Heap → Prop} (k : ∀ v h, Q' v h → Q v h) (g : OGo p e below Fn n0 Q' A) : OGo p e below Fn n0 Q A := by
  obtain ⟨U, o, h1, h2, h3, v, L, h4, ⟨h5, h6⟩, h7⟩ := g
  exact ⟨U, o, h1, h2, h3, v, L, h4, ⟨k _ _ h5, h6⟩, h7⟩
/-- what a walk knows of the method in which it stands -/
def OCx (p : Program) (s : State) (m : MethodId) (meth : Method) (c : Code) (Z : State) (own nm : String) (bytes : ByteArray) (maxL : Nat) (ret : Option FieldType) : Prop :=
  p.tables.exec = Jvm.exec ∧ Z.Warmed39 s.vm ∧ c.code = bytes ∧ c.maxLocals = maxL ∧ s.vm.findClass own = some m.cls ∧ meth.name = nm ∧ meth.sig.returnType = ret ∧ meth.locks = false
theorem OCx.hx (K : OCx p s m meth c Z own nm bytes maxL ret) : p.tables.exec = Jvm.exec := K.1
theorem OCx.hZ (K : OCx p s m meth c Z own nm bytes maxL ret) : Z.Warmed39 s.vm := K.2.1
theorem OCx.hby (K : OCx p s m meth c Z own nm bytes maxL ret) : c.code = bytes := K.2.2.1
theorem OCx.hml (K : OCx p s m meth c Z own nm bytes maxL ret) : c.maxLocals = maxL := K.2.2.2.1
theorem OCx.hown (K : OCx p s m meth c Z own nm bytes maxL ret) : s.vm.findClass own = some m.cls := K.2.2.2.2.1
theorem OCx.hnm (K : OCx p s m meth c Z own nm bytes maxL ret) : meth.name = nm := K.2.2.2.2.2.1
theorem OCx.hret (K : OCx p s m meth c Z own nm bytes maxL ret) : meth.sig.returnType = ret := K.2.2.2.2.2.2.1
theorem OCx.hlk (K : OCx p s m meth c Z own nm bytes maxL ret) : meth.locks = false := K.2.2.2.2.2.2.2
/-- a body's contract: called with these arguments at this heap it returns, and Q -/
def OCon (l : Launch) (Z : State) (n0 : Nat) (y : MethodName) (bytes : ByteArray) (maxL : Nat) (ret : Option FieldType) (rm : Room) (as : Array Value) (h0 : Heap) (Q : Option Value → Heap → Prop) : Prop :=
  ∀ ws, MetFree l y (head1 (Jvm.Cond.code y bytes maxL ret :: ws) rm) (fun a U => a = as ∧ Z.Warmed39 U.vm ∧ U.heap = h0) (fun _ _ _ _ _ => True) (fun _ U o U' => ∃ v L, o = .returned v ∧ (Q v U'.heap ∧ Fr n0 L) ∧ FrameEnd U o U' L rm.cells rm.slots)
theorem OCon.of {y : MethodName} {rm : Room} {as : Array Value} {h0 : Heap} {Ls : Array Slot} (hpl : plainFor y = true) (ho : y.cls = own) (hn : y.name = nm) (hen : ∀ m, entryFrame m as maxL = mkF m 0 Ls [])
    (H : ∀ (p : Program) (e : Env) (s : State) (m : MethodId) (below : List Frame) (meth : Method) (c : Code) (T : State), Stand p l e rm s m as below meth c T [] 0 0 → OCx p s m meth c Z own nm bytes maxL ret → T.heap = h0 → OGo p e below (OFin s rm.cells rm.slots) n0 Q (T.setTop (mkF m 0 Ls []))) : OCon l Z n0 y bytes maxL ret rm as h0 Q := by
  intro ws
  refine MetFree.of_bodySF hpl hisR ?_
  intro p e s m args below meth c s₁ Bd hml0 hP hK
  obtain ⟨rfl, hZ, hh⟩ := hP
  subst ho hn
  obtain ⟨U, o, h1, r⟩ := H p e s m below meth c s₁ (Stand.of_body Bd) ⟨Bd.exec, hZ, Bd.bytes, hml0, findClass_of_methodNamed Bd.named, (name_of_methodNamed Bd.named Bd.method).1, Bd.returns, Bd.notSynchronized⟩ (by rw [← hh, Bd.state]; rfl)
  exact ⟨U, o, castTop (hen m) h1, r⟩
theorem OCon.imp {y : MethodName} {rm : Room} {as : Array Value} {h0 : Heap} {Q' : Option Value → Heap → Prop} (g : OCon l Z n0 y bytes maxL ret rm as h0 Q) (k : ∀ v h, Q v h → Q' v h) : OCon l Z n0 y bytes maxL ret rm as h0 Q' := by
  intro ws p e ha hc hk s m args below hf happ hP hK
  obtain ⟨n, o, h1, h2, h3, v, L, h4, ⟨h5, h6⟩, h7⟩ := g ws p e ha hc hk s m args below hf happ hP hK
  exact ⟨n, o, h1, h2, h3, v, L, h4, ⟨k _ _ h5, h6⟩, h7⟩

theorem o_iload (X : Stand p l e R s m args below meth c T locs cells slots) (K : OCx p s m meth c Z own nm bytes maxL ret) {k : Nat} {v : Int32} (hd : decode bytes pc = .ok (.iload k, 2)) (pc' : Nat) (hp : pc + 2 = pc') (hl : Ls[k]? = some (.val (.int v))) (hr : OGo p e below Fn n0 Q (T.setTop (mkF m pc' Ls (.int v :: St)))) : OGo p e below Fn n0 Q (T.setTop (mkF m pc Ls St)) := by
  subst hp
  exact OGo.st (fun _ k => XS.iload X.here K.hx rfl (hb K.hby hd) hl k) hr
theorem o_iloadN (X : Stand p l e R s m args below meth c T locs cells slots) (K : OCx p s m meth c Z own nm bytes maxL ret) {k : Fin 4} {v : Int32} (hd : decode bytes pc = .ok (.iload_n k, 1)) (pc' : Nat) (hp : pc + 1 = pc') (hl : Ls[k.val]? = some (.val (.int v))) (hr : OGo p e below Fn n0 Q (T.setTop (mkF m pc' Ls (.int v :: St)))) : OGo p e below Fn n0 Q (T.setTop (mkF m pc Ls St)) := by
  subst hp
  exact OGo.st (fun _ k => XS.iloadN X.here K.hx rfl (hb K.hby hd) hl k) hr
theorem o_lload (X : Stand p l e R s m args below meth c T locs cells slots) (K : OCx p s m meth c Z own nm bytes maxL ret) {k : Nat} {v : Int64} (hd : decode bytes pc = .ok (.lload k, 2)) (pc' : Nat) (hp : pc + 2 = pc') (hl : Ls[k]? = some (.val (.long v))) (hr : OGo p e below Fn n0 Q (T.setTop (mkF m pc' Ls (.long v :: St)))) : OGo p e below Fn n0 Q (T.setTop (mkF m pc Ls St)) := by
  subst hp
  exact OGo.st (fun _ k => XS.lload X.here K.hx rfl (hb K.hby hd) hl k) hr
theorem o_lloadN (X : Stand p l e R s m args below meth c T locs cells slots) (K : OCx p s m meth c Z own nm bytes maxL ret) {k : Fin 4} {v : Int64} (hd : decode bytes pc = .ok (.lload_n k, 1)) (pc' : Nat) (hp : pc + 1 = pc') (hl : Ls[k.val]? = some (.val (.long v))) (hr : OGo p e below Fn n0 Q (T.setTop (mkF m pc' Ls (.long v :: St)))) : OGo p e below Fn n0 Q (T.setTop (mkF m pc Ls St)) := by
  subst hp
  exact OGo.st (fun _ k => XS.lloadN X.here K.hx rfl (hb K.hby hd) hl k) hr
theorem o_aload (X : Stand p l e R s m args below meth c T locs cells slots) (K : OCx p s m meth c Z own nm bytes maxL ret) {k : Nat} {v : Value} (hd : decode bytes pc = .ok (.aload k, 2)) (pc' : Nat) (hp : pc + 2 = pc') (hl : Ls[k]? = some (.val v)) (hv : v.isRef = true) (hr : OGo p e below Fn n0 Q (T.setTop (mkF m pc' Ls (v :: St)))) : OGo p e below Fn n0 Q (T.setTop (mkF m pc Ls St)) := by
  subst hp
  exact OGo.st (fun _ k => XS.aload X.here K.hx rfl (hb K.hby hd) hl hv k) hr
theorem o_aloadN (X : Stand p l e R s m args below meth c T locs cells slots) (K : OCx p s m meth c Z own nm bytes maxL ret) {k : Fin 4} {v : Value} (hd : decode bytes pc = .ok (.aload_n k, 1)) (pc' : Nat) (hp : pc + 1 = pc') (hl : Ls[k.val]? = some (.val v)) (hv : v.isRef = true) (hr : OGo p e below Fn n0 Q (T.setTop (mkF m pc' Ls (v :: St)))) : OGo p e below Fn n0 Q (T.setTop (mkF m pc Ls St)) := by
  subst hp
  exact OGo.st (fun _ k => XS.aloadN X.here K.hx rfl (hb K.hby hd) hl hv k) hr
theorem o_istore (X : Stand p l e R s m args below meth c T locs cells slots) (K : OCx p s m meth c Z own nm bytes maxL ret) {k : Nat} {x x' : Int32} (hd : decode bytes pc = .ok (.istore k, 2)) (pc' : Nat) (hp : pc + 2 = pc') (Ls' : Array Slot) (hv : x = x') (hl : storeLocals Ls k (.int x') = some Ls') (hr : OGo p e below Fn n0 Q (T.setTop (mkF m pc' Ls' St))) : OGo p e below Fn n0 Q (T.setTop (mkF m pc Ls (.int x :: St))) := by
  subst hp
  exact OGo.st (fun _ k => XS.istore X.here K.hx rfl (hb K.hby hd) rfl (hv ▸ hl) k) hr
theorem o_istoreN (X : Stand p l e R s m args below meth c T locs cells slots) (K : OCx p s m meth c Z own nm bytes maxL ret) {k : Fin 4} {x x' : Int32} (hd : decode bytes pc = .ok (.istore_n k, 1)) (pc' : Nat) (hp : pc + 1 = pc') (Ls' : Array Slot) (hv : x = x') (hl : storeLocals Ls k.val (.int x') = some Ls') (hr : OGo p e below Fn n0 Q (T.setTop (mkF m pc' Ls' St))) : OGo p e below Fn n0 Q (T.setTop (mkF m pc Ls (.int x :: St))) := by
  subst hp
  exact OGo.st (fun _ k => XS.istoreN X.here K.hx rfl (hb K.hby hd) rfl (hv ▸ hl) k) hr
theorem o_lstore (X : Stand p l e R s m args below meth c T locs cells slots) (K : OCx p s m meth c Z own nm bytes maxL ret) {k : Nat} {x x' : Int64} (hd : decode bytes pc = .ok (.lstore k, 2)) (pc' : Nat) (hp : pc + 2 = pc') (Ls' : Array Slot) (hv : x = x') (hl : storeLocals Ls k (.long x') = some Ls') (hr : OGo p e below Fn n0 Q (T.setTop (mkF m pc' Ls' St))) : OGo p e below Fn n0 Q (T.setTop (mkF m pc Ls (.long x :: St))) := by
  subst hp
  exact OGo.st (fun _ k => XS.lstore X.here K.hx rfl (hb K.hby hd) rfl (hv ▸ hl) k) hr
theorem o_lstoreN (X : Stand p l e R s m args below meth c T locs cells slots) (K : OCx p s m meth c Z own nm bytes maxL ret) {k : Fin 4} {x x' : Int64} (hd : decode bytes pc = .ok (.lstore_n k, 1)) (pc' : Nat) (hp : pc + 1 = pc') (Ls' : Array Slot) (hv : x = x') (hl : storeLocals Ls k.val (.long x') = some Ls') (hr : OGo p e below Fn n0 Q (T.setTop (mkF m pc' Ls' St))) : OGo p e below Fn n0 Q (T.setTop (mkF m pc Ls (.long x :: St))) := by
  subst hp
  exact OGo.st (fun _ k => XS.lstoreN X.here K.hx rfl (hb K.hby hd) rfl (hv ▸ hl) k) hr
theorem o_astore (X : Stand p l e R s m args below meth c T locs cells slots) (K : OCx p s m meth c Z own nm bytes maxL ret) {k : Nat} {x : Value} (hd : decode bytes pc = .ok (.astore k, 2)) (pc' : Nat) (hp : pc + 2 = pc') (Ls' : Array Slot) (hv : x.isRef = true) (hl : storeLocals Ls k x = some Ls') (hr : OGo p e below Fn n0 Q (T.setTop (mkF m pc' Ls' St))) : OGo p e below Fn n0 Q (T.setTop (mkF m pc Ls (x :: St))) := by
  subst hp
  exact OGo.st (fun _ k => XS.astore X.here K.hx rfl (hb K.hby hd) rfl hv hl k) hr
theorem o_astoreN (X : Stand p l e R s m args below meth c T locs cells slots) (K : OCx p s m meth c Z own nm bytes maxL ret) {k : Fin 4} {x : Value} (hd : decode bytes pc = .ok (.astore_n k, 1)) (pc' : Nat) (hp : pc + 1 = pc') (Ls' : Array Slot) (hv : x.isRef = true) (hl : storeLocals Ls k.val x = some Ls') (hr : OGo p e below Fn n0 Q (T.setTop (mkF m pc' Ls' St))) : OGo p e below Fn n0 Q (T.setTop (mkF m pc Ls (x :: St))) := by
  subst hp
  exact OGo.st (fun _ k => XS.astoreN X.here K.hx rfl (hb K.hby hd) rfl hv hl k) hr
theorem o_iinc (X : Stand p l e R s m args below meth c T locs cells slots) (K : OCx p s m meth c Z own nm bytes maxL ret) {k : Nat} {cst : Int} {x x' : Int32} (hd : decode bytes pc = .ok (.iinc k cst, 3)) (pc' : Nat) (hp : pc + 3 = pc') (Ls' : Array Slot) (hl : Ls[k]? = some (.val (.int x))) (hv : x + Int32.ofInt cst = x') (hl' : storeLocals Ls k (.int x') = some Ls') (hr : OGo p e below Fn n0 Q (T.setTop (mkF m pc' Ls' St))) : OGo p e below Fn n0 Q (T.setTop (mkF m pc Ls St)) := by
  subst hp
  exact OGo.st (fun _ k => XS.iinc X.here K.hx rfl (hb K.hby hd) hl (hv ▸ hl') k) hr
theorem o_iconst (X : Stand p l e R s m args below meth c T locs cells slots) (K : OCx p s m meth c Z own nm bytes maxL ret) {i : Int} (v : Int32) (hd : decode bytes pc = .ok (.iconst i, 1)) (pc' : Nat) (hp : pc + 1 = pc') (hv : Int32.ofInt i = v) (hr : OGo p e below Fn n0 Q (T.setTop (mkF m pc' Ls (.int v :: St)))) : OGo p e below Fn n0 Q (T.setTop (mkF m pc Ls St)) := by
  subst hp
  exact OGo.st (fun _ k => XS.iconst X.here K.hx rfl (hb K.hby hd) (by rw [hv]; exact k)) hr
theorem o_bipush (X : Stand p l e R s m args below meth c T locs cells slots) (K : OCx p s m meth c Z own nm bytes maxL ret) {i : Int} (v : Int32) (hd : decode bytes pc = .ok (.bipush i, 2)) (pc' : Nat) (hp : pc + 2 = pc') (hv : (Int8.ofInt i).toInt32 = v) (hr : OGo p e below Fn n0 Q (T.setTop (mkF m pc' Ls (.int v :: St)))) : OGo p e below Fn n0 Q (T.setTop (mkF m pc Ls St)) := by
  subst hp
  exact OGo.st (fun _ k => XS.bipush X.here K.hx rfl (hb K.hby hd) (by rw [hv]; exact k)) hr
theorem o_sipush (X : Stand p l e R s m args below meth c T locs cells slots) (K : OCx p s m meth c Z own nm bytes maxL ret) {i : Int} (v : Int32) (hd : decode bytes pc = .ok (.sipush i, 3)) (pc' : Nat) (hp : pc + 3 = pc') (hv : (Int16.ofInt i).toInt32 = v) (hr : OGo p e below Fn n0 Q (T.setTop (mkF m pc' Ls (.int v :: St)))) : OGo p e below Fn n0 Q (T.setTop (mkF m pc Ls St)) := by
  subst hp
  exact OGo.st (fun _ k => XS.sipush X.here K.hx rfl (hb K.hby hd) (by rw [hv]; exact k)) hr
theorem o_lconst (X : Stand p l e R s m args below meth c T locs cells slots) (K : OCx p s m meth c Z own nm bytes maxL ret) {i : Fin 2} (v : Int64) (hd : decode bytes pc = .ok (.lconst i, 1)) (pc' : Nat) (hp : pc + 1 = pc') (hv : Int64.ofNat i = v) (hr : OGo p e below Fn n0 Q (T.setTop (mkF m pc' Ls (.long v :: St)))) : OGo p e below Fn n0 Q (T.setTop (mkF m pc Ls St)) := by
  subst hp
  exact OGo.st (fun _ k => XS.lconst X.here K.hx rfl (hb K.hby hd) (by rw [hv]; exact k)) hr
theorem o_aconst_null (X : Stand p l e R s m args below meth c T locs cells slots) (K : OCx p s m meth c Z own nm bytes maxL ret) (hd : decode bytes pc = .ok (.aconst_null, 1)) (pc' : Nat) (hp : pc + 1 = pc') (hr : OGo p e below Fn n0 Q (T.setTop (mkF m pc' Ls (.null :: St)))) : OGo p e below Fn n0 Q (T.setTop (mkF m pc Ls St)) := by
  subst hp
  exact OGo.st (fun _ k => XS.aconstNull X.here K.hx rfl (hb K.hby hd) k) hr
theorem o_ldcI (X : Stand p l e R s m args below meth c T locs cells slots) (K : OCx p s m meth c Z own nm bytes maxL ret) {index : Nat} {v : Int32} (hd : decode bytes pc = .ok (.ldc index, 2)) (pc' : Nat) (hp : pc + 2 = pc') (w : (Jvm.Cond.constant own index v).before a0 Z = true) (hr : OGo p e below Fn n0 Q (T.setTop (mkF m pc' Ls (.int v :: St)))) : OGo p e below Fn n0 Q (T.setTop (mkF m pc Ls St)) := by
  subst hp
  exact OGo.st (fun _ k => Stand.ldcI X K.hx K.hown (mvT K.hZ w) rfl (hb K.hby hd) k) hr
theorem o_ldcWI (X : Stand p l e R s m args below meth c T locs cells slots) (K : OCx p s m meth c Z own nm bytes maxL ret) {index : Nat} {v : Int32} (hd : decode bytes pc = .ok (.ldc_w index, 3)) (pc' : Nat) (hp : pc + 3 = pc') (w : (Jvm.Cond.constant own index v).before a0 Z = true) (hr : OGo p e below Fn n0 Q (T.setTop (mkF m pc' Ls (.int v :: St)))) : OGo p e below Fn n0 Q (T.setTop (mkF m pc Ls St)) := by
  subst hp
  exact OGo.st (fun _ k => Stand.ldcWI X K.hx K.hown (mvT K.hZ w) rfl (hb K.hby hd) k) hr
theorem o_ldc2J (X : Stand p l e R s m args below meth c T locs cells slots) (K : OCx p s m meth c Z own nm bytes maxL ret) {index : Nat} {v : Int64} (hd : decode bytes pc = .ok (.ldc2_w index, 3)) (pc' : Nat) (hp : pc + 3 = pc') (w : (Jvm.Cond.constantLong own index v).before a0 Z = true) (hr : OGo p e below Fn n0 Q (T.setTop (mkF m pc' Ls (.long v :: St)))) : OGo p e below Fn n0 Q (T.setTop (mkF m pc Ls St)) := by
  subst hp
  exact OGo.st (fun _ k => Stand.ldc2J X K.hx K.hown (mvT K.hZ w) rfl (hb K.hby hd) k) hr
theorem o_iadd (X : Stand p l e R s m args below meth c T locs cells slots) (K : OCx p s m meth c Z own nm bytes maxL ret) {x y : Int32} (hd : decode bytes pc = .ok (.iadd, 1)) (pc' : Nat) (hp : pc + 1 = pc') (hr : OGo p e below Fn n0 Q (T.setTop (mkF m pc' Ls (.int (x + y) :: St)))) : OGo p e below Fn n0 Q (T.setTop (mkF m pc Ls (.int y :: .int x :: St))) := by
  subst hp
  exact OGo.st (fun _ k => XS.iadd X.here K.hx rfl (hb K.hby hd) rfl k) hr
theorem o_isub (X : Stand p l e R s m args below meth c T locs cells slots) (K : OCx p s m meth c Z own nm bytes maxL ret) {x y : Int32} (hd : decode bytes pc = .ok (.isub, 1)) (pc' : Nat) (hp : pc + 1 = pc') (hr : OGo p e below Fn n0 Q (T.setTop (mkF m pc' Ls (.int (x - y) :: St)))) : OGo p e below Fn n0 Q (T.setTop (mkF m pc Ls (.int y :: .int x :: St))) := by
  subst hp
  exact OGo.st (fun _ k => XS.isub X.here K.hx rfl (hb K.hby hd) rfl k) hr
theorem o_imul (X : Stand p l e R s m args below meth c T locs cells slots) (K : OCx p s m meth c Z own nm bytes maxL ret) {x y : Int32} (hd : decode bytes pc = .ok (.imul, 1)) (pc' : Nat) (hp : pc + 1 = pc') (hr : OGo p e below Fn n0 Q (T.setTop (mkF m pc' Ls (.int (x * y) :: St)))) : OGo p e below Fn n0 Q (T.setTop (mkF m pc Ls (.int y :: .int x :: St))) := by
  subst hp
  exact OGo.st (fun _ k => XS.imul X.here K.hx rfl (hb K.hby hd) rfl k) hr
theorem o_iand (X : Stand p l e R s m args below meth c T locs cells slots) (K : OCx p s m meth c Z own nm bytes maxL ret) {x y : Int32} (hd : decode bytes pc = .ok (.iand, 1)) (pc' : Nat) (hp : pc + 1 = pc') (hr : OGo p e below Fn n0 Q (T.setTop (mkF m pc' Ls (.int (x &&& y) :: St)))) : OGo p e below Fn n0 Q (T.setTop (mkF m pc Ls (.int y :: .int x :: St))) := by
  subst hp
  exact OGo.st (fun _ k => XS.iand X.here K.hx rfl (hb K.hby hd) rfl k) hr
theorem o_ior (X : Stand p l e R s m args below meth c T locs cells slots) (K : OCx p s m meth c Z own nm bytes maxL ret) {x y : Int32} (hd : decode bytes pc = .ok (.ior, 1)) (pc' : Nat) (hp : pc + 1 = pc') (hr : OGo p e below Fn n0 Q (T.setTop (mkF m pc' Ls (.int (x ||| y) :: St)))) : OGo p e below Fn n0 Q (T.setTop (mkF m pc Ls (.int y :: .int x :: St))) := by
  subst hp
  exact OGo.st (fun _ k => XS.ior X.here K.hx rfl (hb K.hby hd) rfl k) hr
theorem o_ixor (X : Stand p l e R s m args below meth c T locs cells slots) (K : OCx p s m meth c Z own nm bytes maxL ret) {x y : Int32} (hd : decode bytes pc = .ok (.ixor, 1)) (pc' : Nat) (hp : pc + 1 = pc') (hr : OGo p e below Fn n0 Q (T.setTop (mkF m pc' Ls (.int (x ^^^ y) :: St)))) : OGo p e below Fn n0 Q (T.setTop (mkF m pc Ls (.int y :: .int x :: St))) := by
  subst hp
  exact OGo.st (fun _ k => XS.ixor X.here K.hx rfl (hb K.hby hd) rfl k) hr
theorem o_ishl (X : Stand p l e R s m args below meth c T locs cells slots) (K : OCx p s m meth c Z own nm bytes maxL ret) {x y : Int32} (hd : decode bytes pc = .ok (.ishl, 1)) (pc' : Nat) (hp : pc + 1 = pc') (hr : OGo p e below Fn n0 Q (T.setTop (mkF m pc' Ls (.int (x <<< (y &&& 31)) :: St)))) : OGo p e below Fn n0 Q (T.setTop (mkF m pc Ls (.int y :: .int x :: St))) := by
  subst hp
  exact OGo.st (fun _ k => XS.ishl X.here K.hx rfl (hb K.hby hd) rfl k) hr
theorem o_ishr (X : Stand p l e R s m args below meth c T locs cells slots) (K : OCx p s m meth c Z own nm bytes maxL ret) {x y : Int32} (hd : decode bytes pc = .ok (.ishr, 1)) (pc' : Nat) (hp : pc + 1 = pc') (hr : OGo p e below Fn n0 Q (T.setTop (mkF m pc' Ls (.int (x >>> (y &&& 31)) :: St)))) : OGo p e below Fn n0 Q (T.setTop (mkF m pc Ls (.int y :: .int x :: St))) := by
  subst hp
  exact OGo.st (fun _ k => XS.ishr X.here K.hx rfl (hb K.hby hd) rfl k) hr
theorem o_iushr (X : Stand p l e R s m args below meth c T locs cells slots) (K : OCx p s m meth c Z own nm bytes maxL ret) {x y : Int32} (hd : decode bytes pc = .ok (.iushr, 1)) (pc' : Nat) (hp : pc + 1 = pc') (hr : OGo p e below Fn n0 Q (T.setTop (mkF m pc' Ls (.int ((x.toUInt32 >>> (y &&& 31).toUInt32).toInt32) :: St)))) : OGo p e below Fn n0 Q (T.setTop (mkF m pc Ls (.int y :: .int x :: St))) := by
  subst hp
  exact OGo.st (fun _ k => XS.iushr X.here K.hx rfl (hb K.hby hd) rfl k) hr
theorem o_ladd (X : Stand p l e R s m args below meth c T locs cells slots) (K : OCx p s m meth c Z own nm bytes maxL ret) {x y : Int64} (hd : decode bytes pc = .ok (.ladd, 1)) (pc' : Nat) (hp : pc + 1 = pc') (hr : OGo p e below Fn n0 Q (T.setTop (mkF m pc' Ls (.long (x + y) :: St)))) : OGo p e below Fn n0 Q (T.setTop (mkF m pc Ls (.long y :: .long x :: St))) := by
  subst hp
  exact OGo.st (fun _ k => XS.ladd X.here K.hx rfl (hb K.hby hd) rfl k) hr
theorem o_lsub (X : Stand p l e R s m args below meth c T locs cells slots) (K : OCx p s m meth c Z own nm bytes maxL ret) {x y : Int64} (hd : decode bytes pc = .ok (.lsub, 1)) (pc' : Nat) (hp : pc + 1 = pc') (hr : OGo p e below Fn n0 Q (T.setTop (mkF m pc' Ls (.long (x - y) :: St)))) : OGo p e below Fn n0 Q (T.setTop (mkF m pc Ls (.long y :: .long x :: St))) := by
  subst hp
  exact OGo.st (fun _ k => XS.lsub X.here K.hx rfl (hb K.hby hd) rfl k) hr
theorem o_lmul (X : Stand p l e R s m args below meth c T locs cells slots) (K : OCx p s m meth c Z own nm bytes maxL ret) {x y : Int64} (hd : decode bytes pc = .ok (.lmul, 1)) (pc' : Nat) (hp : pc + 1 = pc') (hr : OGo p e below Fn n0 Q (T.setTop (mkF m pc' Ls (.long (x * y) :: St)))) : OGo p e below Fn n0 Q (T.setTop (mkF m pc Ls (.long y :: .long x :: St))) := by
  subst hp
  exact OGo.st (fun _ k => XS.lmul X.here K.hx rfl (hb K.hby hd) rfl k) hr
theorem o_land (X : Stand p l e R s m args below meth c T locs cells slots) (K : OCx p s m meth c Z own nm bytes maxL ret) {x y : Int64} (hd : decode bytes pc = .ok (.land, 1)) (pc' : Nat) (hp : pc + 1 = pc') (hr : OGo p e below Fn n0 Q (T.setTop (mkF m pc' Ls (.long (x &&& y) :: St)))) : OGo p e below Fn n0 Q (T.setTop (mkF m pc Ls (.long y :: .long x :: St))) := by
  subst hp
  exact OGo.st (fun _ k => XS.land X.here K.hx rfl (hb K.hby hd) rfl k) hr
theorem o_lor (X : Stand p l e R s m args below meth c T locs cells slots) (K : OCx p s m meth c Z own nm bytes maxL ret) {x y : Int64} (hd : decode bytes pc = .ok (.lor, 1)) (pc' : Nat) (hp : pc + 1 = pc') (hr : OGo p e below Fn n0 Q (T.setTop (mkF m pc' Ls (.long (x ||| y) :: St)))) : OGo p e below Fn n0 Q (T.setTop (mkF m pc Ls (.long y :: .long x :: St))) := by
  subst hp
  exact OGo.st (fun _ k => XS.lor X.here K.hx rfl (hb K.hby hd) rfl k) hr
theorem o_lxor (X : Stand p l e R s m args below meth c T locs cells slots) (K : OCx p s m meth c Z own nm bytes maxL ret) {x y : Int64} (hd : decode bytes pc = .ok (.lxor, 1)) (pc' : Nat) (hp : pc + 1 = pc') (hr : OGo p e below Fn n0 Q (T.setTop (mkF m pc' Ls (.long (x ^^^ y) :: St)))) : OGo p e below Fn n0 Q (T.setTop (mkF m pc Ls (.long y :: .long x :: St))) := by
  subst hp
  exact OGo.st (fun _ k => XS.lxor X.here K.hx rfl (hb K.hby hd) rfl k) hr
theorem o_lshl (X : Stand p l e R s m args below meth c T locs cells slots) (K : OCx p s m meth c Z own nm bytes maxL ret) {x : Int64} {y : Int32} (hd : decode bytes pc = .ok (.lshl, 1)) (pc' : Nat) (hp : pc + 1 = pc') (hr : OGo p e below Fn n0 Q (T.setTop (mkF m pc' Ls (.long (x <<< (y &&& 0x3f).toInt64) :: St)))) : OGo p e below Fn n0 Q (T.setTop (mkF m pc Ls (.int y :: .long x :: St))) := by
  subst hp
  exact OGo.st (fun _ k => XS.lshl X.here K.hx rfl (hb K.hby hd) rfl k) hr
theorem o_lshr (X : Stand p l e R s m args below meth c T locs cells slots) (K : OCx p s m meth c Z own nm bytes maxL ret) {x : Int64} {y : Int32} (hd : decode bytes pc = .ok (.lshr, 1)) (pc' : Nat) (hp : pc + 1 = pc') (hr : OGo p e below Fn n0 Q (T.setTop (mkF m pc' Ls (.long (x >>> (y &&& 0x3f).toInt64) :: St)))) : OGo p e below Fn n0 Q (T.setTop (mkF m pc Ls (.int y :: .long x :: St))) := by
  subst hp
  exact OGo.st (fun _ k => XS.lshr X.here K.hx rfl (hb K.hby hd) rfl k) hr
theorem o_lushr (X : Stand p l e R s m args below meth c T locs cells slots) (K : OCx p s m meth c Z own nm bytes maxL ret) {x : Int64} {y : Int32} (hd : decode bytes pc = .ok (.lushr, 1)) (pc' : Nat) (hp : pc + 1 = pc') (hr : OGo p e below Fn n0 Q (T.setTop (mkF m pc' Ls (.long ((x.toUInt64 >>> (y &&& 0x3f).toInt64.toUInt64).toInt64) :: St)))) : OGo p e below Fn n0 Q (T.setTop (mkF m pc Ls (.int y :: .long x :: St))) := by
  subst hp
  exact OGo.st (fun _ k => XS.lushr X.here K.hx rfl (hb K.hby hd) rfl k) hr
theorem o_ldiv (X : Stand p l e R s m args below meth c T locs cells slots) (K : OCx p s m meth c Z own nm bytes maxL ret) {x y : Int64} (hd : decode bytes pc = .ok (.ldiv, 1)) (pc' : Nat) (hp : pc + 1 = pc') (hy : y ≠ 0) (hr : OGo p e below Fn n0 Q (T.setTop (mkF m pc' Ls (.long (x / y) :: St)))) : OGo p e below Fn n0 Q (T.setTop (mkF m pc Ls (.long y :: .long x :: St))) := by
  subst hp
  exact OGo.st (fun _ k => XS.ldiv X.here K.hx rfl (hb K.hby hd) rfl hy k) hr
theorem o_idiv (X : Stand p l e R s m args below meth c T locs cells slots) (K : OCx p s m meth c Z own nm bytes maxL ret) {x y : Int32} (hd : decode bytes pc = .ok (.idiv, 1)) (pc' : Nat) (hp : pc + 1 = pc') (hy : y ≠ 0) (hr : OGo p e below Fn n0 Q (T.setTop (mkF m pc' Ls (.int (x / y) :: St)))) : OGo p e below Fn n0 Q (T.setTop (mkF m pc Ls (.int y :: .int x :: St))) := by
  subst hp
  exact OGo.st (fun _ k => XS.idiv X.here K.hx rfl (hb K.hby hd) rfl hy k) hr
theorem o_irem (X : Stand p l e R s m args below meth c T locs cells slots) (K : OCx p s m meth c Z own nm bytes maxL ret) {x y : Int32} (hd : decode bytes pc = .ok (.irem, 1)) (pc' : Nat) (hp : pc + 1 = pc') (hy : y ≠ 0) (hr : OGo p e below Fn n0 Q (T.setTop (mkF m pc' Ls (.int (x % y) :: St)))) : OGo p e below Fn n0 Q (T.setTop (mkF m pc Ls (.int y :: .int x :: St))) := by
  subst hp
  exact OGo.st (fun _ k => iremM X K.hx rfl (hb K.hby hd) rfl hy k) hr
theorem o_ineg (X : Stand p l e R s m args below meth c T locs cells slots) (K : OCx p s m meth c Z own nm bytes maxL ret) {x : Int32} (hd : decode bytes pc = .ok (.ineg, 1)) (pc' : Nat) (hp : pc + 1 = pc') (hr : OGo p e below Fn n0 Q (T.setTop (mkF m pc' Ls (.int (-x) :: St)))) : OGo p e below Fn n0 Q (T.setTop (mkF m pc Ls (.int x :: St))) := by
  subst hp
  exact OGo.st (fun _ k => XS.ineg X.here K.hx rfl (hb K.hby hd) rfl k) hr
theorem o_lneg (X : Stand p l e R s m args below meth c T locs cells slots) (K : OCx p s m meth c Z own nm bytes maxL ret) {x : Int64} (hd : decode bytes pc = .ok (.lneg, 1)) (pc' : Nat) (hp : pc + 1 = pc') (hr : OGo p e below Fn n0 Q (T.setTop (mkF m pc' Ls (.long (-x) :: St)))) : OGo p e below Fn n0 Q (T.setTop (mkF m pc Ls (.long x :: St))) := by
  subst hp
  exact OGo.st (fun _ k => XS.lneg X.here K.hx rfl (hb K.hby hd) rfl k) hr
theorem o_i2b (X : Stand p l e R s m args below meth c T locs cells slots) (K : OCx p s m meth c Z own nm bytes maxL ret) {x : Int32} (hd : decode bytes pc = .ok (.i2b, 1)) (pc' : Nat) (hp : pc + 1 = pc') (hr : OGo p e below Fn n0 Q (T.setTop (mkF m pc' Ls (.int (x.toInt8.toInt32) :: St)))) : OGo p e below Fn n0 Q (T.setTop (mkF m pc Ls (.int x :: St))) := by
  subst hp
  exact OGo.st (fun _ k => XS.i2b X.here K.hx rfl (hb K.hby hd) rfl k) hr
theorem o_i2c (X : Stand p l e R s m args below meth c T locs cells slots) (K : OCx p s m meth c Z own nm bytes maxL ret) {x : Int32} (hd : decode bytes pc = .ok (.i2c, 1)) (pc' : Nat) (hp : pc + 1 = pc') (hr : OGo p e below Fn n0 Q (T.setTop (mkF m pc' Ls (.int (x.toUInt32.toUInt16.toUInt32.toInt32) :: St)))) : OGo p e below Fn n0 Q (T.setTop (mkF m pc Ls (.int x :: St))) := by
  subst hp
  exact OGo.st (fun _ k => XS.i2c X.here K.hx rfl (hb K.hby hd) rfl k) hr
theorem o_i2s (X : Stand p l e R s m args below meth c T locs cells slots) (K : OCx p s m meth c Z own nm bytes maxL ret) {x : Int32} (hd : decode bytes pc = .ok (.i2s, 1)) (pc' : Nat) (hp : pc + 1 = pc') (hr : OGo p e below Fn n0 Q (T.setTop (mkF m pc' Ls (.int (x.toInt16.toInt32) :: St)))) : OGo p e below Fn n0 Q (T.setTop (mkF m pc Ls (.int x :: St))) := by
  subst hp
  exact OGo.st (fun _ k => XS.i2s X.here K.hx rfl (hb K.hby hd) rfl k) hr
theorem o_i2l (X : Stand p l e R s m args below meth c T locs cells slots) (K : OCx p s m meth c Z own nm bytes maxL ret) {x : Int32} (hd : decode bytes pc = .ok (.i2l, 1)) (pc' : Nat) (hp : pc + 1 = pc') (hr : OGo p e below Fn n0 Q (T.setTop (mkF m pc' Ls (.long (x.toInt64) :: St)))) : OGo p e below Fn n0 Q (T.setTop (mkF m pc Ls (.int x :: St))) := by
  subst hp
  exact OGo.st (fun _ k => XS.i2l X.here K.hx rfl (hb K.hby hd) rfl k) hr
theorem o_l2i (X : Stand p l e R s m args below meth c T locs cells slots) (K : OCx p s m meth c Z own nm bytes maxL ret) {x : Int64} (hd : decode bytes pc = .ok (.l2i, 1)) (pc' : Nat) (hp : pc + 1 = pc') (hr : OGo p e below Fn n0 Q (T.setTop (mkF m pc' Ls (.int (x.toInt32) :: St)))) : OGo p e below Fn n0 Q (T.setTop (mkF m pc Ls (.long x :: St))) := by
  subst hp
  exact OGo.st (fun _ k => XS.l2i X.here K.hx rfl (hb K.hby hd) rfl k) hr
theorem o_lcmp (X : Stand p l e R s m args below meth c T locs cells slots) (K : OCx p s m meth c Z own nm bytes maxL ret) {x y : Int64} (hd : decode bytes pc = .ok (.lcmp, 1)) (pc' : Nat) (hp : pc + 1 = pc') (hr : OGo p e below Fn n0 Q (T.setTop (mkF m pc' Ls (.int (lcmpW x y) :: St)))) : OGo p e below Fn n0 Q (T.setTop (mkF m pc Ls (.long y :: .long x :: St))) := by
  subst hp
  exact OGo.st (fun _ k => XS.lcmp X.here K.hx rfl (hb K.hby hd) rfl k) hr
theorem o_dup (X : Stand p l e R s m args below meth c T locs cells slots) (K : OCx p s m meth c Z own nm bytes maxL ret) {x : Value} (hd : decode bytes pc = .ok (.dup, 1)) (pc' : Nat) (hp : pc + 1 = pc') (hc : x.category = 1) (hr : OGo p e below Fn n0 Q (T.setTop (mkF m pc' Ls (x :: x :: St)))) : OGo p e below Fn n0 Q (T.setTop (mkF m pc Ls (x :: St))) := by
  subst hp
  exact OGo.st (fun _ k => XS.dup X.here K.hx rfl (hb K.hby hd) rfl hc k) hr
theorem o_pop (X : Stand p l e R s m args below meth c T locs cells slots) (K : OCx p s m meth c Z own nm bytes maxL ret) {x : Value} (hd : decode bytes pc = .ok (.pop, 1)) (pc' : Nat) (hp : pc + 1 = pc') (hc : x.category = 1) (hr : OGo p e below Fn n0 Q (T.setTop (mkF m pc' Ls St))) : OGo p e below Fn n0 Q (T.setTop (mkF m pc Ls (x :: St))) := by
  subst hp
  exact OGo.st (fun _ k => XS.pop X.here K.hx rfl (hb K.hby hd) rfl hc k) hr
theorem o_dupX1 (X : Stand p l e R s m args below meth c T locs cells slots) (K : OCx p s m meth c Z own nm bytes maxL ret) {x y : Value} (hd : decode bytes pc = .ok (.dup_x1, 1)) (pc' : Nat) (hp : pc + 1 = pc') (hc : x.category = 1) (hc' : y.category = 1) (hr : OGo p e below Fn n0 Q (T.setTop (mkF m pc' Ls (x :: y :: x :: St)))) : OGo p e below Fn n0 Q (T.setTop (mkF m pc Ls (x :: y :: St))) := by
  subst hp
  exact OGo.st (fun _ k => XS.dupX1 X.here K.hx rfl (hb K.hby hd) rfl hc hc' k) hr
theorem o_dup2 (X : Stand p l e R s m args below meth c T locs cells slots) (K : OCx p s m meth c Z own nm bytes maxL ret) {x y : Value} (hd : decode bytes pc = .ok (.dup2, 1)) (pc' : Nat) (hp : pc + 1 = pc') (hc : x.category = 1) (hc' : y.category = 1) (hr : OGo p e below Fn n0 Q (T.setTop (mkF m pc' Ls (x :: y :: x :: y :: St)))) : OGo p e below Fn n0 Q (T.setTop (mkF m pc Ls (x :: y :: St))) := by
  subst hp
  exact OGo.st (fun _ k => Jvm.Free.XT.dup2 X.here K.hx rfl (hb K.hby hd) rfl hc hc' k) hr
theorem o_dup2L (X : Stand p l e R s m args below meth c T locs cells slots) (K : OCx p s m meth c Z own nm bytes maxL ret) {x : Int64} (hd : decode bytes pc = .ok (.dup2, 1)) (pc' : Nat) (hp : pc + 1 = pc') (hr : OGo p e below Fn n0 Q (T.setTop (mkF m pc' Ls (.long x :: .long x :: St)))) : OGo p e below Fn n0 Q (T.setTop (mkF m pc Ls (.long x :: St))) := by
  subst hp
  exact OGo.st (fun _ k => Jvm.Free.XT.dup2L X.here K.hx rfl (hb K.hby hd) rfl k) hr
theorem o_goto (X : Stand p l e R s m args below meth c T locs cells slots) (K : OCx p s m meth c Z own nm bytes maxL ret) {o : Int} (hd : decode bytes pc = .ok (.goto o, 3)) (pc' : Nat) (ho : 0 ≤ (pc : Int) + o) (hp : ((pc : Int) + o).toNat = pc') (hr : OGo p e below Fn n0 Q (T.setTop (mkF m pc' Ls St))) : OGo p e below Fn n0 Q (T.setTop (mkF m pc Ls St)) :=
  OGo.st (fun _ k => XS.goto X.here K.hx rfl (pc0 := pc) rfl (hb K.hby hd) ho hp k) hr
theorem o_icmp_lt_t (X : Stand p l e R s m args below meth c T locs cells slots) (K : OCx p s m meth c Z own nm bytes maxL ret) {x y : Int32} {o : Int} (hd : decode bytes pc = .ok (.if_icmp .lt o, 3)) (pt : Nat) (ho : 0 ≤ (pc : Int) + o) (hp : ((pc : Int) + o).toNat = pt) (q : x.toInt < y.toInt) (hr : OGo p e below Fn n0 Q (T.setTop (mkF m pt Ls St))) : OGo p e below Fn n0 Q (T.setTop (mkF m pc Ls (.int y :: .int x :: St))) :=
  OGo.st (fun _ k => XS.icmpYes X.here K.hx rfl (pc0 := pc) rfl (hb K.hby hd) rfl ((tlt (Int32.lt_iff_toInt_lt.mpr q)).1) ho hp k) hr
theorem o_icmp_lt_f (X : Stand p l e R s m args below meth c T locs cells slots) (K : OCx p s m meth c Z own nm bytes maxL ret) {x y : Int32} {o : Int} (hd : decode bytes pc = .ok (.if_icmp .lt o, 3)) (pc' : Nat) (hp : pc + 3 = pc') (q : y.toInt ≤ x.toInt) (hr : OGo p e below Fn n0 Q (T.setTop (mkF m pc' Ls St))) : OGo p e below Fn n0 Q (T.setTop (mkF m pc Ls (.int y :: .int x :: St))) := by
  subst hp
  exact OGo.st (fun _ k => XS.icmpNo X.here K.hx rfl (hb K.hby hd) rfl ((flt (fun r => Int.not_lt.mpr q (Int32.lt_iff_toInt_lt.mp r))).1) k) hr
theorem o_icmp_lt (X : Stand p l e R s m args below meth c T locs cells slots) (K : OCx p s m meth c Z own nm bytes maxL ret) {x y : Int32} {o : Int} (hd : decode bytes pc = .ok (.if_icmp .lt o, 3)) (pt : Nat) (ho : 0 ≤ (pc : Int) + o) (hp : ((pc : Int) + o).toNat = pt) (pc' : Nat) (hp' : pc + 3 = pc') (h1 : x.toInt < y.toInt → OGo p e below Fn n0 Q (T.setTop (mkF m pt Ls St))) (h2 : y.toInt ≤ x.toInt → OGo p e below Fn n0 Q (T.setTop (mkF m pc' Ls St))) : OGo p e below Fn n0 Q (T.setTop (mkF m pc Ls (.int y :: .int x :: St))) :=
  (Classical.em (x.toInt < y.toInt)).elim (fun q => o_icmp_lt_t X K hd pt ho hp q (h1 q)) (fun q => o_icmp_lt_f X K hd pc' hp' (Int.not_lt.mp q) (h2 (Int.not_lt.mp q)))
theorem o_if_lt_t (X : Stand p l e R s m args below meth c T locs cells slots) (K : OCx p s m meth c Z own nm bytes maxL ret) {x : Int32} {o : Int} (hd : decode bytes pc = .ok (.ifCond .lt o, 3)) (pt : Nat) (ho : 0 ≤ (pc : Int) + o) (hp : ((pc : Int) + o).toNat = pt) (q : x.toInt < 0) (hr : OGo p e below Fn n0 Q (T.setTop (mkF m pt Ls St))) : OGo p e below Fn n0 Q (T.setTop (mkF m pc Ls (.int x :: St))) :=
  OGo.st (fun _ k => XS.ifYes X.here K.hx rfl (pc0 := pc) rfl (hb K.hby hd) rfl ((if0 _ _).trans (tlt (Int32.lt_iff_toInt_lt.mpr (show x.toInt < (0 : Int32).toInt from q))).1) ho hp k) hr
theorem o_if_lt_f (X : Stand p l e R s m args below meth c T locs cells slots) (K : OCx p s m meth c Z own nm bytes maxL ret) {x : Int32} {o : Int} (hd : decode bytes pc = .ok (.ifCond .lt o, 3)) (pc' : Nat) (hp : pc + 3 = pc') (q : 0 ≤ x.toInt) (hr : OGo p e below Fn n0 Q (T.setTop (mkF m pc' Ls St))) : OGo p e below Fn n0 Q (T.setTop (mkF m pc Ls (.int x :: St))) := by
  subst hp
  exact OGo.st (fun _ k => XS.ifNo X.here K.hx rfl (hb K.hby hd) rfl ((if0 _ _).trans (flt (fun r => Int.not_lt.mpr (show (0 : Int32).toInt ≤ x.toInt from q) (Int32.lt_iff_toInt_lt.mp r))).1) k) hr
theorem o_if_lt (X : Stand p l e R s m args below meth c T locs cells slots) (K : OCx p s m meth c Z own nm bytes maxL ret) {x : Int32} {o : Int} (hd : decode bytes pc = .ok (.ifCond .lt o, 3)) (pt : Nat) (ho : 0 ≤ (pc : Int) + o) (hp : ((pc : Int) + o).toNat = pt) (pc' : Nat) (hp' : pc + 3 = pc') (h1 : x.toInt < 0 → OGo p e below Fn n0 Q (T.setTop (mkF m pt Ls St))) (h2 : 0 ≤ x.toInt → OGo p e below Fn n0 Q (T.setTop (mkF m pc' Ls St))) : OGo p e below Fn n0 Q (T.setTop (mkF m pc Ls (.int x :: St))) :=
  (Classical.em (x.toInt < 0)).elim (fun q => o_if_lt_t X K hd pt ho hp q (h1 q)) (fun q => o_if_lt_f X K hd pc' hp' (Int.not_lt.mp q) (h2 (Int.not_lt.mp q)))
theorem o_icmp_ge_t (X : Stand p l e R s m args below meth c T locs cells slots) (K : OCx p s m meth c Z own nm bytes maxL ret) {x y : Int32} {o : Int} (hd : decode bytes pc = .ok (.if_icmp .ge o, 3)) (pt : Nat) (ho : 0 ≤ (pc : Int) + o) (hp : ((pc : Int) + o).toNat = pt) (q : y.toInt ≤ x.toInt) (hr : OGo p e below Fn n0 Q (T.setTop (mkF m pt Ls St))) : OGo p e below Fn n0 Q (T.setTop (mkF m pc Ls (.int y :: .int x :: St))) :=
  OGo.st (fun _ k => XS.icmpYes X.here K.hx rfl (pc0 := pc) rfl (hb K.hby hd) rfl ((flt (fun r => Int.not_lt.mpr q (Int32.lt_iff_toInt_lt.mp r))).2.1) ho hp k) hr
theorem o_icmp_ge_f (X : Stand p l e R s m args below meth c T locs cells slots) (K : OCx p s m meth c Z own nm bytes maxL ret) {x y : Int32} {o : Int} (hd : decode bytes pc = .ok (.if_icmp .ge o, 3)) (pc' : Nat) (hp : pc + 3 = pc') (q : x.toInt < y.toInt) (hr : OGo p e below Fn n0 Q (T.setTop (mkF m pc' Ls St))) : OGo p e below Fn n0 Q (T.setTop (mkF m pc Ls (.int y :: .int x :: St))) := by
  subst hp
  exact OGo.st (fun _ k => XS.icmpNo X.here K.hx rfl (hb K.hby hd) rfl ((tlt (Int32.lt_iff_toInt_lt.mpr q)).2.1) k) hr
theorem o_icmp_ge (X : Stand p l e R s m args below meth c T locs cells slots) (K : OCx p s m meth c Z own nm bytes maxL ret) {x y : Int32} {o : Int} (hd : decode bytes pc = .ok (.if_icmp .ge o, 3)) (pt : Nat) (ho : 0 ≤ (pc : Int) + o) (hp : ((pc : Int) + o).toNat = pt) (pc' : Nat) (hp' : pc + 3 = pc') (h1 : y.toInt ≤ x.toInt → OGo p e below Fn n0 Q (T.setTop (mkF m pt Ls St))) (h2 : x.toInt < y.toInt → OGo p e below Fn n0 Q (T.setTop (mkF m pc' Ls St))) : OGo p e below Fn n0 Q (T.setTop (mkF m pc Ls (.int y :: .int x :: St))) :=
  (Classical.em (y.toInt ≤ x.toInt)).elim (fun q => o_icmp_ge_t X K hd pt ho hp q (h1 q)) (fun q => o_icmp_ge_f X K hd pc' hp' (Int.not_le.mp q) (h2 (Int.not_le.mp q)))
theorem o_if_ge_t (X : Stand p l e R s m args below meth c T locs cells slots) (K : OCx p s m meth c Z own nm bytes maxL ret) {x : Int32} {o : Int} (hd : decode bytes pc = .ok (.ifCond .ge o, 3)) (pt : Nat) (ho : 0 ≤ (pc : Int) + o) (hp : ((pc : Int) + o).toNat = pt) (q : 0 ≤ x.toInt) (hr : OGo p e below Fn n0 Q (T.setTop (mkF m pt Ls St))) : OGo p e below Fn n0 Q (T.setTop (mkF m pc Ls (.int x :: St))) :=
  OGo.st (fun _ k => XS.ifYes X.here K.hx rfl (pc0 := pc) rfl (hb K.hby hd) rfl ((if0 _ _).trans (flt (fun r => Int.not_lt.mpr (show (0 : Int32).toInt ≤ x.toInt from q) (Int32.lt_iff_toInt_lt.mp r))).2.1) ho hp k) hr
theorem o_if_ge_f (X : Stand p l e R s m args below meth c T locs cells slots) (K : OCx p s m meth c Z own nm bytes maxL ret) {x : Int32} {o : Int} (hd : decode bytes pc = .ok (.ifCond .ge o, 3)) (pc' : Nat) (hp : pc + 3 = pc') (q : x.toInt < 0) (hr : OGo p e below Fn n0 Q (T.setTop (mkF m pc' Ls St))) : OGo p e below Fn n0 Q (T.setTop (mkF m pc Ls (.int x :: St))) := by
  subst hp
  exact OGo.st (fun _ k => XS.ifNo X.here K.hx rfl (hb K.hby hd) rfl ((if0 _ _).trans (tlt (Int32.lt_iff_toInt_lt.mpr (show x.toInt < (0 : Int32).toInt from q))).2.1) k) hr
theorem o_if_ge (X : Stand p l e R s m args below meth c T locs cells slots) (K : OCx p s m meth c Z own nm bytes maxL ret) {x : Int32} {o : Int} (hd : decode bytes pc = .ok (.ifCond .ge o, 3)) (pt : Nat) (ho : 0 ≤ (pc : Int) + o) (hp : ((pc : Int) + o).toNat = pt) (pc' : Nat) (hp' : pc + 3 = pc') (h1 : 0 ≤ x.toInt → OGo p e below Fn n0 Q (T.setTop (mkF m pt Ls St))) (h2 : x.toInt < 0 → OGo p e below Fn n0 Q (T.setTop (mkF m pc' Ls St))) : OGo p e below Fn n0 Q (T.setTop (mkF m pc Ls (.int x :: St))) :=
  (Classical.em (0 ≤ x.toInt)).elim (fun q => o_if_ge_t X K hd pt ho hp q (h1 q)) (fun q => o_if_ge_f X K hd pc' hp' (Int.not_le.mp q) (h2 (Int.not_le.mp q)))
theorem o_icmp_gt_t (X : Stand p l e R s m args below meth c T locs cells slots) (K : OCx p s m meth c Z own nm bytes maxL ret) {x y : Int32} {o : Int} (hd : decode bytes pc = .ok (.if_icmp .gt o, 3)) (pt : Nat) (ho : 0 ≤ (pc : Int) + o) (hp : ((pc : Int) + o).toNat = pt) (q : y.toInt < x.toInt) (hr : OGo p e below Fn n0 Q (T.setTop (mkF m pt Ls St))) : OGo p e below Fn n0 Q (T.setTop (mkF m pc Ls (.int y :: .int x :: St))) :=
  OGo.st (fun _ k => XS.icmpYes X.here K.hx rfl (pc0 := pc) rfl (hb K.hby hd) rfl ((tlt (Int32.lt_iff_toInt_lt.mpr q)).2.2.1) ho hp k) hr
theorem o_icmp_gt_f (X : Stand p l e R s m args below meth c T locs cells slots) (K : OCx p s m meth c Z own nm bytes maxL ret) {x y : Int32} {o : Int} (hd : decode bytes pc = .ok (.if_icmp .gt o, 3)) (pc' : Nat) (hp : pc + 3 = pc') (q : x.toInt ≤ y.toInt) (hr : OGo p e below Fn n0 Q (T.setTop (mkF m pc' Ls St))) : OGo p e below Fn n0 Q (T.setTop (mkF m pc Ls (.int y :: .int x :: St))) := by
  subst hp
  exact OGo.st (fun _ k => XS.icmpNo X.here K.hx rfl (hb K.hby hd) rfl ((flt (fun r => Int.not_lt.mpr q (Int32.lt_iff_toInt_lt.mp r))).2.2.1) k) hr
theorem o_icmp_gt (X : Stand p l e R s m args below meth c T locs cells slots) (K : OCx p s m meth c Z own nm bytes maxL ret) {x y : Int32} {o : Int} (hd : decode bytes pc = .ok (.if_icmp .gt o, 3)) (pt : Nat) (ho : 0 ≤ (pc : Int) + o) (hp : ((pc : Int) + o).toNat = pt) (pc' : Nat) (hp' : pc + 3 = pc') (h1 : y.toInt < x.toInt → OGo p e below Fn n0 Q (T.setTop (mkF m pt Ls St))) (h2 : x.toInt ≤ y.toInt → OGo p e below Fn n0 Q (T.setTop (mkF m pc' Ls St))) : OGo p e below Fn n0 Q (T.setTop (mkF m pc Ls (.int y :: .int x :: St))) :=
  (Classical.em (y.toInt < x.toInt)).elim (fun q => o_icmp_gt_t X K hd pt ho hp q (h1 q)) (fun q => o_icmp_gt_f X K hd pc' hp' (Int.not_lt.mp q) (h2 (Int.not_lt.mp q)))
theorem o_if_gt_t (X : Stand p l e R s m args below meth c T locs cells slots) (K : OCx p s m meth c Z own nm bytes maxL ret) {x : Int32} {o : Int} (hd : decode bytes pc = .ok (.ifCond .gt o, 3)) (pt : Nat) (ho : 0 ≤ (pc : Int) + o) (hp : ((pc : Int) + o).toNat = pt) (q : 0 < x.toInt) (hr : OGo p e below Fn n0 Q (T.setTop (mkF m pt Ls St))) : OGo p e below Fn n0 Q (T.setTop (mkF m pc Ls (.int x :: St))) :=
  OGo.st (fun _ k => XS.ifYes X.here K.hx rfl (pc0 := pc) rfl (hb K.hby hd) rfl ((if0 _ _).trans (tlt (Int32.lt_iff_toInt_lt.mpr (show (0 : Int32).toInt < x.toInt from q))).2.2.1) ho hp k) hr
theorem o_if_gt_f (X : Stand p l e R s m args below meth c T locs cells slots) (K : OCx p s m meth c Z own nm bytes maxL ret) {x : Int32} {o : Int} (hd : decode bytes pc = .ok (.ifCond .gt o, 3)) (pc' : Nat) (hp : pc + 3 = pc') (q : x.toInt ≤ 0) (hr : OGo p e below Fn n0 Q (T.setTop (mkF m pc' Ls St))) : OGo p e below Fn n0 Q (T.setTop (mkF m pc Ls (.int x :: St))) := by
  subst hp
  exact OGo.st (fun _ k => XS.ifNo X.here K.hx rfl (hb K.hby hd) rfl ((if0 _ _).trans (flt (fun r => Int.not_lt.mpr (show x.toInt ≤ (0 : Int32).toInt from q) (Int32.lt_iff_toInt_lt.mp r))).2.2.1) k) hr
theorem o_if_gt (X : Stand p l e R s m args below meth c T locs cells slots) (K : OCx p s m meth c Z own nm bytes maxL ret) {x : Int32} {o : Int} (hd : decode bytes pc = .ok (.ifCond .gt o, 3)) (pt : Nat) (ho : 0 ≤ (pc : Int) + o) (hp : ((pc : Int) + o).toNat = pt) (pc' : Nat) (hp' : pc + 3 = pc') (h1 : 0 < x.toInt → OGo p e below Fn n0 Q (T.setTop (mkF m pt Ls St))) (h2 : x.toInt ≤ 0 → OGo p e below Fn n0 Q (T.setTop (mkF m pc' Ls St))) : OGo p e below Fn n0 Q (T.setTop (mkF m pc Ls (.int x :: St))) :=
  (Classical.em (0 < x.toInt)).elim (fun q => o_if_gt_t X K hd pt ho hp q (h1 q)) (fun q => o_if_gt_f X K hd pc' hp' (Int.not_lt.mp q) (h2 (Int.not_lt.mp q)))
theorem o_icmp_le_t (X : Stand p l e R s m args below meth c T locs cells slots) (K : OCx p s m meth c Z own nm bytes maxL ret) {x y : Int32} {o : Int} (hd : decode bytes pc = .ok (.if_icmp .le o, 3)) (pt : Nat) (ho : 0 ≤ (pc : Int) + o) (hp : ((pc : Int) + o).toNat = pt) (q : x.toInt ≤ y.toInt) (hr : OGo p e below Fn n0 Q (T.setTop (mkF m pt Ls St))) : OGo p e below Fn n0 Q (T.setTop (mkF m pc Ls (.int y :: .int x :: St))) :=
  OGo.st (fun _ k => XS.icmpYes X.here K.hx rfl (pc0 := pc) rfl (hb K.hby hd) rfl ((flt (fun r => Int.not_lt.mpr q (Int32.lt_iff_toInt_lt.mp r))).2.2.2) ho hp k) hr
theorem o_icmp_le_f (X : Stand p l e R s m args below meth c T locs cells slots) (K : OCx p s m meth c Z own nm bytes maxL ret) {x y : Int32} {o : Int} (hd : decode bytes pc = .ok (.if_icmp .le o, 3)) (pc' : Nat) (hp : pc + 3 = pc') (q : y.toInt < x.toInt) (hr : OGo p e below Fn n0 Q (T.setTop (mkF m pc' Ls St))) : OGo p e below Fn n0 Q (T.setTop (mkF m pc Ls (.int y :: .int x :: St))) := by
  subst hp
  exact OGo.st (fun _ k => XS.icmpNo X.here K.hx rfl (hb K.hby hd) rfl ((tlt (Int32.lt_iff_toInt_lt.mpr q)).2.2.2) k) hr
theorem o_icmp_le (X : Stand p l e R s m args below meth c T locs cells slots) (K : OCx p s m meth c Z own nm bytes maxL ret) {x y : Int32} {o : Int} (hd : decode bytes pc = .ok (.if_icmp .le o, 3)) (pt : Nat) (ho : 0 ≤ (pc : Int) + o) (hp : ((pc : Int) + o).toNat = pt) (pc' : Nat) (hp' : pc + 3 = pc') (h1 : x.toInt ≤ y.toInt → OGo p e below Fn n0 Q (T.setTop (mkF m pt Ls St))) (h2 : y.toInt < x.toInt → OGo p e below Fn n0 Q (T.setTop (mkF m pc' Ls St))) : OGo p e below Fn n0 Q (T.setTop (mkF m pc Ls (.int y :: .int x :: St))) :=
  (Classical.em (x.toInt ≤ y.toInt)).elim (fun q => o_icmp_le_t X K hd pt ho hp q (h1 q)) (fun q => o_icmp_le_f X K hd pc' hp' (Int.not_le.mp q) (h2 (Int.not_le.mp q)))
theorem o_if_le_t (X : Stand p l e R s m args below meth c T locs cells slots) (K : OCx p s m meth c Z own nm bytes maxL ret) {x : Int32} {o : Int} (hd : decode bytes pc = .ok (.ifCond .le o, 3)) (pt : Nat) (ho : 0 ≤ (pc : Int) + o) (hp : ((pc : Int) + o).toNat = pt) (q : x.toInt ≤ 0) (hr : OGo p e below Fn n0 Q (T.setTop (mkF m pt Ls St))) : OGo p e below Fn n0 Q (T.setTop (mkF m pc Ls (.int x :: St))) :=
  OGo.st (fun _ k => XS.ifYes X.here K.hx rfl (pc0 := pc) rfl (hb K.hby hd) rfl ((if0 _ _).trans (flt (fun r => Int.not_lt.mpr (show x.toInt ≤ (0 : Int32).toInt from q) (Int32.lt_iff_toInt_lt.mp r))).2.2.2) ho hp k) hr
theorem o_if_le_f (X : Stand p l e R s m args below meth c T locs cells slots) (K : OCx p s m meth c Z own nm bytes maxL ret) {x : Int32} {o : Int} (hd : decode bytes pc = .ok (.ifCond .le o, 3)) (pc' : Nat) (hp : pc + 3 = pc') (q : 0 < x.toInt) (hr : OGo p e below Fn n0 Q (T.setTop (mkF m pc' Ls St))) : OGo p e below Fn n0 Q (T.setTop (mkF m pc Ls (.int x :: St))) := by
  subst hp
  exact OGo.st (fun _ k => XS.ifNo X.here K.hx rfl (hb K.hby hd) rfl ((if0 _ _).trans (tlt (Int32.lt_iff_toInt_lt.mpr (show (0 : Int32).toInt < x.toInt from q))).2.2.2) k) hr
theorem o_if_le (X : Stand p l e R s m args below meth c T locs cells slots) (K : OCx p s m meth c Z own nm bytes maxL ret) {x : Int32} {o : Int} (hd : decode bytes pc = .ok (.ifCond .le o, 3)) (pt : Nat) (ho : 0 ≤ (pc : Int) + o) (hp : ((pc : Int) + o).toNat = pt) (pc' : Nat) (hp' : pc + 3 = pc') (h1 : x.toInt ≤ 0 → OGo p e below Fn n0 Q (T.setTop (mkF m pt Ls St))) (h2 : 0 < x.toInt → OGo p e below Fn n0 Q (T.setTop (mkF m pc' Ls St))) : OGo p e below Fn n0 Q (T.setTop (mkF m pc Ls (.int x :: St))) :=
  (Classical.em (x.toInt ≤ 0)).elim (fun q => o_if_le_t X K hd pt ho hp q (h1 q)) (fun q => o_if_le_f X K hd pc' hp' (Int.not_le.mp q) (h2 (Int.not_le.mp q)))
theorem o_icmp_eq_t (X : Stand p l e R s m args below meth c T locs cells slots) (K : OCx p s m meth c Z own nm bytes maxL ret) {x y : Int32} {o : Int} (hd : decode bytes pc = .ok (.if_icmp .eq o, 3)) (pt : Nat) (ho : 0 ≤ (pc : Int) + o) (hp : ((pc : Int) + o).toNat = pt) (q : x = y) (hr : OGo p e below Fn n0 Q (T.setTop (mkF m pt Ls St))) : OGo p e below Fn n0 Q (T.setTop (mkF m pc Ls (.int y :: .int x :: St))) :=
  OGo.st (fun _ k => XS.icmpYes X.here K.hx rfl (pc0 := pc) rfl (hb K.hby hd) rfl ((teq q).1) ho hp k) hr
theorem o_icmp_eq_f (X : Stand p l e R s m args below meth c T locs cells slots) (K : OCx p s m meth c Z own nm bytes maxL ret) {x y : Int32} {o : Int} (hd : decode bytes pc = .ok (.if_icmp .eq o, 3)) (pc' : Nat) (hp : pc + 3 = pc') (q : ¬ x = y) (hr : OGo p e below Fn n0 Q (T.setTop (mkF m pc' Ls St))) : OGo p e below Fn n0 Q (T.setTop (mkF m pc Ls (.int y :: .int x :: St))) := by
  subst hp
  exact OGo.st (fun _ k => XS.icmpNo X.here K.hx rfl (hb K.hby hd) rfl ((feq q).1) k) hr
theorem o_icmp_eq (X : Stand p l e R s m args below meth c T locs cells slots) (K : OCx p s m meth c Z own nm bytes maxL ret) {x y : Int32} {o : Int} (hd : decode bytes pc = .ok (.if_icmp .eq o, 3)) (pt : Nat) (ho : 0 ≤ (pc : Int) + o) (hp : ((pc : Int) + o).toNat = pt) (pc' : Nat) (hp' : pc + 3 = pc') (h1 : x = y → OGo p e below Fn n0 Q (T.setTop (mkF m pt Ls St))) (h2 : ¬ x = y → OGo p e below Fn n0 Q (T.setTop (mkF m pc' Ls St))) : OGo p e below Fn n0 Q (T.setTop (mkF m pc Ls (.int y :: .int x :: St))) :=
  (Classical.em (x = y)).elim (fun q => o_icmp_eq_t X K hd pt ho hp q (h1 q)) (fun q => o_icmp_eq_f X K hd pc' hp' (id q) (h2 (id q)))
theorem o_if_eq_t (X : Stand p l e R s m args below meth c T locs cells slots) (K : OCx p s m meth c Z own nm bytes maxL ret) {x : Int32} {o : Int} (hd : decode bytes pc = .ok (.ifCond .eq o, 3)) (pt : Nat) (ho : 0 ≤ (pc : Int) + o) (hp : ((pc : Int) + o).toNat = pt) (q : x = 0) (hr : OGo p e below Fn n0 Q (T.setTop (mkF m pt Ls St))) : OGo p e below Fn n0 Q (T.setTop (mkF m pc Ls (.int x :: St))) :=
  OGo.st (fun _ k => XS.ifYes X.here K.hx rfl (pc0 := pc) rfl (hb K.hby hd) rfl ((if0 _ _).trans (teq (show x = (0 : Int32) from q)).1) ho hp k) hr
theorem o_if_eq_f (X : Stand p l e R s m args below meth c T locs cells slots) (K : OCx p s m meth c Z own nm bytes maxL ret) {x : Int32} {o : Int} (hd : decode bytes pc = .ok (.ifCond .eq o, 3)) (pc' : Nat) (hp : pc + 3 = pc') (q : ¬ x = 0) (hr : OGo p e below Fn n0 Q (T.setTop (mkF m pc' Ls St))) : OGo p e below Fn n0 Q (T.setTop (mkF m pc Ls (.int x :: St))) := by
  subst hp
  exact OGo.st (fun _ k => XS.ifNo X.here K.hx rfl (hb K.hby hd) rfl ((if0 _ _).trans (feq (show ¬ x = (0 : Int32) from q)).1) k) hr
theorem o_if_eq (X : Stand p l e R s m args below meth c T locs cells slots) (K : OCx p s m meth c Z own nm bytes maxL ret) {x : Int32} {o : Int} (hd : decode bytes pc = .ok (.ifCond .eq o, 3)) (pt : Nat) (ho : 0 ≤ (pc : Int) + o) (hp : ((pc : Int) + o).toNat = pt) (pc' : Nat) (hp' : pc + 3 = pc') (h1 : x = 0 → OGo p e below Fn n0 Q (T.setTop (mkF m pt Ls St))) (h2 : ¬ x = 0 → OGo p e below Fn n0 Q (T.setTop (mkF m pc' Ls St))) : OGo p e below Fn n0 Q (T.setTop (mkF m pc Ls (.int x :: St))) :=
  (Classical.em (x = 0)).elim (fun q => o_if_eq_t X K hd pt ho hp q (h1 q)) (fun q => o_if_eq_f X K hd pc' hp' (id q) (h2 (id q)))
theorem o_icmp_ne_t (X : Stand p l e R s m args below meth c T locs cells slots) (K : OCx p s m meth c Z own nm bytes maxL ret) {x y : Int32} {o : Int} (hd : decode bytes pc = .ok (.if_icmp .ne o, 3)) (pt : Nat) (ho : 0 ≤ (pc : Int) + o) (hp : ((pc : Int) + o).toNat = pt) (q : ¬ x = y) (hr : OGo p e below Fn n0 Q (T.setTop (mkF m pt Ls St))) : OGo p e below Fn n0 Q (T.setTop (mkF m pc Ls (.int y :: .int x :: St))) :=
  OGo.st (fun _ k => XS.icmpYes X.here K.hx rfl (pc0 := pc) rfl (hb K.hby hd) rfl ((feq q).2) ho hp k) hr
theorem o_icmp_ne_f (X : Stand p l e R s m args below meth c T locs cells slots) (K : OCx p s m meth c Z own nm bytes maxL ret) {x y : Int32} {o : Int} (hd : decode bytes pc = .ok (.if_icmp .ne o, 3)) (pc' : Nat) (hp : pc + 3 = pc') (q : x = y) (hr : OGo p e below Fn n0 Q (T.setTop (mkF m pc' Ls St))) : OGo p e below Fn n0 Q (T.setTop (mkF m pc Ls (.int y :: .int x :: St))) := by
  subst hp
  exact OGo.st (fun _ k => XS.icmpNo X.here K.hx rfl (hb K.hby hd) rfl ((teq q).2) k) hr
theorem o_icmp_ne (X : Stand p l e R s m args below meth c T locs cells slots) (K : OCx p s m meth c Z own nm bytes maxL ret) {x y : Int32} {o : Int} (hd : decode bytes pc = .ok (.if_icmp .ne o, 3)) (pt : Nat) (ho : 0 ≤ (pc : Int) + o) (hp : ((pc : Int) + o).toNat = pt) (pc' : Nat) (hp' : pc + 3 = pc') (h1 : ¬ x = y → OGo p e below Fn n0 Q (T.setTop (mkF m pt Ls St))) (h2 : x = y → OGo p e below Fn n0 Q (T.setTop (mkF m pc' Ls St))) : OGo p e below Fn n0 Q (T.setTop (mkF m pc Ls (.int y :: .int x :: St))) :=
  (Classical.em (¬ x = y)).elim (fun q => o_icmp_ne_t X K hd pt ho hp q (h1 q)) (fun q => o_icmp_ne_f X K hd pc' hp' (Classical.not_not.mp q) (h2 (Classical.not_not.mp q)))
theorem o_if_ne_t (X : Stand p l e R s m args below meth c T locs cells slots) (K : OCx p s m meth c Z own nm bytes maxL ret) {x : Int32} {o : Int} (hd : decode bytes pc = .ok (.ifCond .ne o, 3)) (pt : Nat) (ho : 0 ≤ (pc : Int) + o) (hp : ((pc : Int) + o).toNat = pt) (q : ¬ x = 0) (hr : OGo p e below Fn n0 Q (T.setTop (mkF m pt Ls St))) : OGo p e below Fn n0 Q (T.setTop (mkF m pc Ls (.int x :: St))) :=
  OGo.st (fun _ k => XS.ifYes X.here K.hx rfl (pc0 := pc) rfl (hb K.hby hd) rfl ((if0 _ _).trans (feq (show ¬ x = (0 : Int32) from q)).2) ho hp k) hr
theorem o_if_ne_f (X : Stand p l e R s m args below meth c T locs cells slots) (K : OCx p s m meth c Z own nm bytes maxL ret) {x : Int32} {o : Int} (hd : decode bytes pc = .ok (.ifCond .ne o, 3)) (pc' : Nat) (hp : pc + 3 = pc') (q : x = 0) (hr : OGo p e below Fn n0 Q (T.setTop (mkF m pc' Ls St))) : OGo p e below Fn n0 Q (T.setTop (mkF m pc Ls (.int x :: St))) := by
  subst hp
  exact OGo.st (fun _ k => XS.ifNo X.here K.hx rfl (hb K.hby hd) rfl ((if0 _ _).trans (teq (show x = (0 : Int32) from q)).2) k) hr
theorem o_if_ne (X : Stand p l e R s m args below meth c T locs cells slots) (K : OCx p s m meth c Z own nm bytes maxL ret) {x : Int32} {o : Int} (hd : decode bytes pc = .ok (.ifCond .ne o, 3)) (pt : Nat) (ho : 0 ≤ (pc : Int) + o) (hp : ((pc : Int) + o).toNat = pt) (pc' : Nat) (hp' : pc + 3 = pc') (h1 : ¬ x = 0 → OGo p e below Fn n0 Q (T.setTop (mkF m pt Ls St))) (h2 : x = 0 → OGo p e below Fn n0 Q (T.setTop (mkF m pc' Ls St))) : OGo p e below Fn n0 Q (T.setTop (mkF m pc Ls (.int x :: St))) :=
  (Classical.em (¬ x = 0)).elim (fun q => o_if_ne_t X K hd pt ho hp q (h1 q)) (fun q => o_if_ne_f X K hd pc' hp' (Classical.not_not.mp q) (h2 (Classical.not_not.mp q)))
theorem o_lw_lt {x y : Int64} : (lcmpW x y).toInt < 0 ↔ x.toInt < y.toInt := by
  have q := lw_lt x y
  rw [Int32.lt_iff_toInt_lt, Int64.lt_iff_toInt_lt] at q
  exact q
theorem o_lw_gt {x y : Int64} : 0 < (lcmpW x y).toInt ↔ y.toInt < x.toInt := by
  have q := lw_gt x y
  rw [Int32.lt_iff_toInt_lt, Int64.lt_iff_toInt_lt] at q
  exact q
theorem o_lw_le {x y : Int64} : (lcmpW x y).toInt ≤ 0 ↔ x.toInt ≤ y.toInt := by
  have q := @o_lw_gt x y
  omega
theorem o_lw_ge {x y : Int64} : 0 ≤ (lcmpW x y).toInt ↔ y.toInt ≤ x.toInt := by
  have q := @o_lw_lt x y
  omega
theorem o_lw_eq {x y : Int64} : lcmpW x y = 0 ↔ x = y := lw_eq x y
theorem o_ifnull_t (X : Stand p l e R s m args below meth c T locs cells slots) (K : OCx p s m meth c Z own nm bytes maxL ret) {o : Int} (hd : decode bytes pc = .ok (.ifnull o, 3)) (pt : Nat) (ho : 0 ≤ (pc : Int) + o) (hp : ((pc : Int) + o).toNat = pt) (hr : OGo p e below Fn n0 Q (T.setTop (mkF m pt Ls St))) : OGo p e below Fn n0 Q (T.setTop (mkF m pc Ls (.null :: St))) :=
  OGo.st (fun _ k => XS.ifnullYes X.here K.hx rfl (pc0 := pc) rfl (hb K.hby hd) rfl ho hp k) hr
theorem o_ifnull_f (X : Stand p l e R s m args below meth c T locs cells slots) (K : OCx p s m meth c Z own nm bytes maxL ret) {o : Int} {b : Addr} (hd : decode bytes pc = .ok (.ifnull o, 3)) (pc' : Nat) (hp : pc + 3 = pc') (hr : OGo p e below Fn n0 Q (T.setTop (mkF m pc' Ls St))) : OGo p e below Fn n0 Q (T.setTop (mkF m pc Ls (.ref b :: St))) := by
  subst hp
  exact OGo.st (fun _ k => XS.ifnullNo X.here K.hx rfl (hb K.hby hd) rfl k) hr
theorem o_ifnonnull_t (X : Stand p l e R s m args below meth c T locs cells slots) (K : OCx p s m meth c Z own nm bytes maxL ret) {o : Int} {b : Addr} (hd : decode bytes pc = .ok (.ifnonnull o, 3)) (pt : Nat) (ho : 0 ≤ (pc : Int) + o) (hp : ((pc : Int) + o).toNat = pt) (hr : OGo p e below Fn n0 Q (T.setTop (mkF m pt Ls St))) : OGo p e below Fn n0 Q (T.setTop (mkF m pc Ls (.ref b :: St))) :=
  OGo.st (fun _ k => XS.ifnonnullYes X.here K.hx rfl (pc0 := pc) rfl (hb K.hby hd) rfl ho hp k) hr
theorem o_ifnonnull_f (X : Stand p l e R s m args below meth c T locs cells slots) (K : OCx p s m meth c Z own nm bytes maxL ret) {o : Int} (hd : decode bytes pc = .ok (.ifnonnull o, 3)) (pc' : Nat) (hp : pc + 3 = pc') (hr : OGo p e below Fn n0 Q (T.setTop (mkF m pc' Ls St))) : OGo p e below Fn n0 Q (T.setTop (mkF m pc Ls (.null :: St))) := by
  subst hp
  exact OGo.st (fun _ k => XS.ifnonnullNo X.here K.hx rfl (hb K.hby hd) rfl k) hr
theorem o_acmp (X : Stand p l e R s m args below meth c T locs cells slots) (K : OCx p s m meth c Z own nm bytes maxL ret) {cd : ACond} {x y : Value} {o : Int} (hd : decode bytes pc = .ok (.if_acmp cd o, 3)) (pc' : Nat) (h1 : x.isRef = true) (h2 : y.isRef = true) (same : Bool) (hq : decide (x = y) = same) (ho : 0 ≤ (pc : Int) + o) (hp : pc' = if acV cd same = true then ((pc : Int) + o).toNat else pc + 3) (hr : OGo p e below Fn n0 Q (T.setTop (mkF m pc' Ls St))) : OGo p e below Fn n0 Q (T.setTop (mkF m pc Ls (y :: x :: St))) :=
  OGo.st (fun _ k => Jvm.RoadKit.acmp (g := mkF m pc Ls (y :: x :: St)) X K.hx rfl h1 h2 (pc0 := pc) rfl (hb K.hby hd) rfl hq ho hp k) hr
theorem o_leave (X : Stand p l e R s m args below meth c T locs cells slots) (hlk : meth.locks = false) {v : Option Value} (hv : meth.sig.returnType = none → v = none) {S : State} (hc : cells ≤ kc) (hs : slots ≤ ks) (N : Fr n0 locs) (hQ : Q v T.heap)
    (k : ∀ fs, (∀ (f : JFrame) (acts : List Action), f.method = m → f.locked = none → f.entered = [] → (doReturn e (T.setTop f) acts v).1 = T.setFrames fs) → Steps p.tables e below S (T.setFrames fs)) : OGo p e below (OFin s kc ks) n0 Q S := by
  obtain ⟨fs, hr, hrun, hended, hW, hsame⟩ := X.leave (v := v) hv
  exact ⟨_, _, k fs hr, hrun, hended, v, locs, rfl, ⟨hQ, N⟩, ⟨v, rfl⟩, hW, hsame.mono hc hs⟩
theorem o_ireturn (X : Stand p l e R s m args below meth c T locs cells slots) (K : OCx p s m meth c Z own nm bytes maxL (some .int)) {z : Int32} (hd : decode bytes pc = .ok (.ireturn, 1)) (hc : cells ≤ kc) (hs : slots ≤ ks) (N : Fr n0 locs) (hQ : Q (some (.int z)) T.heap) : OGo p e below (OFin s kc ks) n0 Q (T.setTop (mkF m pc Ls (.int z :: St))) :=
  o_leave X K.hlk (fun h => by rw [K.hret] at h; cases h) hc hs N hQ (fun fs hr => retI X K.hx K.hret (hb K.hby hd) hr)
theorem o_ireturnN {t : FieldType} (X : Stand p l e R s m args below meth c T locs cells slots) (K : OCx p s m meth c Z own nm bytes maxL (some t)) (ht : t = .boolean ∨ t = .byte ∨ t = .char ∨ t = .short) {z : Int32} (hd : decode bytes pc = .ok (.ireturn, 1)) (hc : cells ≤ kc) (hs : slots ≤ ks) (N : Fr n0 locs) (hQ : Q (some (.int (nar t z))) T.heap) : OGo p e below (OFin s kc ks) n0 Q (T.setTop (mkF m pc Ls (.int z :: St))) :=
  o_leave X K.hlk (fun h => by rw [K.hret] at h; cases h) hc hs N hQ (fun fs hr => retN X K.hx K.hret ht (hb K.hby hd) hr)
theorem o_lreturn (X : Stand p l e R s m args below meth c T locs cells slots) (K : OCx p s m meth c Z own nm bytes maxL (some .long)) {z : Int64} (hd : decode bytes pc = .ok (.lreturn, 1)) (hc : cells ≤ kc) (hs : slots ≤ ks) (N : Fr n0 locs) (hQ : Q (some (.long z)) T.heap) : OGo p e below (OFin s kc ks) n0 Q (T.setTop (mkF m pc Ls (.long z :: St))) :=
  o_leave X K.hlk (fun h => by rw [K.hret] at h; cases h) hc hs N hQ (fun fs hr => retOut X K.hx K.hret rfl (Or.inr (Or.inl ⟨rfl, rfl, z, rfl⟩)) (hb K.hby hd) hr)
theorem o_areturn {t : FieldType} (X : Stand p l e R s m args below meth c T locs cells slots) (K : OCx p s m meth c Z own nm bytes maxL (some t)) (ht : t.isReference = true) {z : Value} (hn : narrow t z = z) (hz : z.isRef = true) (hd : decode bytes pc = .ok (.areturn, 1)) (hc : cells ≤ kc) (hs : slots ≤ ks) (N : Fr n0 locs) (hQ : Q (some z) T.heap) : OGo p e below (OFin s kc ks) n0 Q (T.setTop (mkF m pc Ls (z :: St))) :=
  o_leave X K.hlk (fun h => by rw [K.hret] at h; cases h) hc hs N hQ (fun fs hr => retOut X K.hx K.hret hn (Or.inr (Or.inr (Or.inr (Or.inr ⟨rfl, ht, hz⟩)))) (hb K.hby hd) hr)
theorem o_return (X : Stand p l e R s m args below meth c T locs cells slots) (K : OCx p s m meth c Z own nm bytes maxL none) (hd : decode bytes pc = .ok (.return_, 1)) (hc : cells ≤ kc) (hs : slots ≤ ks) (N : Fr n0 locs) (hQ : Q none T.heap) : OGo p e below (OFin s kc ks) n0 Q (T.setTop (mkF m pc Ls [])) :=
  o_leave X K.hlk (fun _ => rfl) hc hs N hQ (fun fs hr => X.returnOut K.hx K.hret (hb K.hby hd) hr)
/-- an array: its kind, its length, what each place holds -/
def OAr (Z : State) (h : Heap) (a : Addr) (ty : FieldType) (n : Nat) (f : Nat → Value) : Prop := ∃ c : Cell, Arr Z h a c ty ∧ c.slots.size = n ∧ n < 2147483648 ∧ (∀ j, j < n → c.slots[j]? = some (f j)) ∧ ∀ j, j < n → fits ty (f j) = true
theorem OAr.lt {a : Addr} {ty : FieldType} {n : Nat} {f : Nat → Value} (A : OAr Z h a ty n f) : a < h.size := by obtain ⟨c, A, -⟩ := A; exact A.lt
theorem OAr.len {a : Addr} {ty : FieldType} {n : Nat} {f : Nat → Value} (A : OAr Z h a ty n f) : n < 2147483648 := by obtain ⟨c, -, -, A, -⟩ := A; exact A
theorem OAr.fit {a : Addr} {ty : FieldType} {n : Nat} {f : Nat → Value} (A : OAr Z h a ty n f) {j : Nat} (hj : j < n) : fits ty (f j) = true := by obtain ⟨c, -, -, -, -, A⟩ := A; exact A j hj
theorem OAr.ext {a : Addr} {ty : FieldType} {n : Nat} {f : Nat → Value} (A : OAr Z h a ty n f) (E : Ext h h') : OAr Z h' a ty n f := by obtain ⟨c, A, r⟩ := A; exact ⟨c, A.ext E, r⟩
theorem OAr.other {a b : Addr} {ty : FieldType} {n sl : Nat} {f : Nat → Value} {v : Value} (A : OAr Z h b ty n f) (W : Wr h h' a sl v) (q : b ≠ a) : OAr Z h' b ty n f := by obtain ⟨c, A, r⟩ := A; exact ⟨c, A.other W q, r⟩
theorem OAr.keep {a : Addr} {ty : FieldType} {n : Nat} {f : Nat → Value} {ws : List Addr} (A : OAr Z h a ty n f) (E : Keep h h' ws) (q : a ∉ ws) : OAr Z h' a ty n f := by obtain ⟨c, A, r⟩ := A; exact ⟨c, ⟨E.2.1 _ _ A.1 q, A.2⟩, r⟩
theorem OAr.congr {a : Addr} {ty : FieldType} {n : Nat} {f g : Nat → Value} (A : OAr Z h a ty n f) (q : ∀ j, j < n → f j = g j) : OAr Z h a ty n g := by
  obtain ⟨c, A, r1, r2, r3, r4⟩ := A
  exact ⟨c, A, r1, r2, fun j hj => by rw [← q j hj]; exact r3 j hj, fun j hj => by rw [← q j hj]; exact r4 j hj⟩
theorem OAr.same {a : Addr} {ty : FieldType} {n i : Nat} {f : Nat → Value} {v : Value} (A : OAr Z h a ty n f) (W : Wr h h' a i v) (hv : fits ty v = true) : OAr Z h' a ty n (fun q => if q = i then v else f q) := by
  obtain ⟨c, A, r1, r2, r3, r4⟩ := A
  refine ⟨_, A.same W, by rw [sz_set]; exact r1, r2, fun j hj => ?_, fun j hj => ?_⟩
  · by_cases e : j = i
    · subst e; simp [Cell.setSlot, r1, hj]
    · have e' : ¬ i = j := fun z => e z.symm
      simp [Cell.setSlot, e, e', r3 j hj]
  · by_cases e : j = i
    · simp [e, hv]
    · simp [e, r4 j hj]
theorem o_idx {j : Int32} {i n : Nat} {c : Cell} (hj : j.toInt = (i : Int)) (hi : i < n) (r1 : c.slots.size = n) : ¬ (j < 0 ∨ c.slots.size ≤ j.toNatClampNeg) ∧ j.toNatClampNeg = i := by
  have e : j.toNatClampNeg = i := by rw [← Int32.toNat_toInt, hj]; rfl
  refine ⟨?_, e⟩
  rw [e, r1, Int32.lt_iff_toInt_lt, hj]
  intro q
  rcases q with q | q
  · have : (0 : Int32).toInt = 0 := rfl
    omega
  · omega
theorem o_len {n : Nat} (h : n < 2147483648) : (n.toInt32).toInt = n := by
  have := len_toInt (n := n) (by omega)
  exact this
theorem o_arraylength (X : Stand p l e R s m args below meth c T locs cells slots) (K : OCx p s m meth c Z own nm bytes maxL ret) {a : Addr} {ty : FieldType} {n : Nat} {f : Nat → Value} (hd : decode bytes pc = .ok (.arraylength, 1)) (pc' : Nat) (hp : pc + 1 = pc') (eT : T.heap = h) (A : OAr Z h a ty n f) {v : Int32} (hv : v.toInt = n) (hr : OGo p e below Fn n0 Q (T.setTop (mkF m pc' Ls (.int v :: St)))) : OGo p e below Fn n0 Q (T.setTop (mkF m pc Ls (.ref a :: St))) := by
  subst hp
  obtain ⟨cl, A, r1, r2, -⟩ := A
  have e1 : cl.slots.size.toInt32 = v := by rw [← Int32.toInt_inj, hv, r1]; exact o_len r2
  refine OGo.st (fun t k => ?_) hr
  refine X.arraylength K.hx (g := mkF m pc Ls (.ref a :: St)) (by rw [eT]; exact A.1) (State.isArrayOf_alike K.hZ.alike A.2.1) rfl rfl (hb K.hby hd) t ?_
  rw [e1]
  exact k
theorem o_iaload (X : Stand p l e R s m args below meth c T locs cells slots) (K : OCx p s m meth c Z own nm bytes maxL ret) {a : Addr} {n i : Nat} {f : Nat → Value} {j : Int32} {v : Value} (hd : decode bytes pc = .ok (.iaload, 1)) (pc' : Nat) (hp : pc + 1 = pc') (eT : T.heap = h) (A : OAr Z h a .int n f) (hj : j.toInt = (i : Int)) (hi : i < n) (hv : f i = v) (hr : OGo p e below Fn n0 Q (T.setTop (mkF m pc' Ls (v :: St)))) : OGo p e below Fn n0 Q (T.setTop (mkF m pc Ls (.int j :: .ref a :: St))) := by
  subst hp
  obtain ⟨cl, A, r1, r2, r3, -⟩ := A
  obtain ⟨q1, q2⟩ := o_idx (c := cl) hj hi r1
  exact OGo.st (fun t k => X.iaload K.hx (g := mkF m pc Ls (.int j :: .ref a :: St)) (by rw [eT]; exact A.1) (State.isArrayOf_alike K.hZ.alike A.2.1) A.2.2 q1 (by rw [q2, r3 i hi, hv]) rfl rfl (hb K.hby hd) t k) hr
theorem o_laload (X : Stand p l e R s m args below meth c T locs cells slots) (K : OCx p s m meth c Z own nm bytes maxL ret) {a : Addr} {n i : Nat} {f : Nat → Value} {j : Int32} {v : Value} (hd : decode bytes pc = .ok (.laload, 1)) (pc' : Nat) (hp : pc + 1 = pc') (eT : T.heap = h) (A : OAr Z h a .long n f) (hj : j.toInt = (i : Int)) (hi : i < n) (hv : f i = v) (hr : OGo p e below Fn n0 Q (T.setTop (mkF m pc' Ls (v :: St)))) : OGo p e below Fn n0 Q (T.setTop (mkF m pc Ls (.int j :: .ref a :: St))) := by
  subst hp
  obtain ⟨cl, A, r1, r2, r3, -⟩ := A
  obtain ⟨q1, q2⟩ := o_idx (c := cl) hj hi r1
  exact OGo.st (fun t k => X.laload K.hx (g := mkF m pc Ls (.int j :: .ref a :: St)) (by rw [eT]; exact A.1) (State.isArrayOf_alike K.hZ.alike A.2.1) A.2.2 q1 (by rw [q2, r3 i hi, hv]) rfl rfl (hb K.hby hd) t k) hr
theorem o_caload (X : Stand p l e R s m args below meth c T locs cells slots) (K : OCx p s m meth c Z own nm bytes maxL ret) {a : Addr} {n i : Nat} {f : Nat → Value} {j : Int32} {v : Value} (hd : decode bytes pc = .ok (.caload, 1)) (pc' : Nat) (hp : pc + 1 = pc') (eT : T.heap = h) (A : OAr Z h a .char n f) (hj : j.toInt = (i : Int)) (hi : i < n) (hv : f i = v) (hr : OGo p e below Fn n0 Q (T.setTop (mkF m pc' Ls (v :: St)))) : OGo p e below Fn n0 Q (T.setTop (mkF m pc Ls (.int j :: .ref a :: St))) := by
  subst hp
  obtain ⟨cl, A, r1, r2, r3, -⟩ := A
  obtain ⟨q1, q2⟩ := o_idx (c := cl) hj hi r1
  exact OGo.st (fun t k => X.caload K.hx (g := mkF m pc Ls (.int j :: .ref a :: St)) (by rw [eT]; exact A.1) (State.isArrayOf_alike K.hZ.alike A.2.1) A.2.2 q1 (by rw [q2, r3 i hi, hv]) rfl rfl (hb K.hby hd) t k) hr
theorem o_saload (X : Stand p l e R s m args below meth c T locs cells slots) (K : OCx p s m meth c Z own nm bytes maxL ret) {a : Addr} {n i : Nat} {f : Nat → Value} {j : Int32} {v : Value} (hd : decode bytes pc = .ok (.saload, 1)) (pc' : Nat) (hp : pc + 1 = pc') (eT : T.heap = h) (A : OAr Z h a .short n f) (hj : j.toInt = (i : Int)) (hi : i < n) (hv : f i = v) (hr : OGo p e below Fn n0 Q (T.setTop (mkF m pc' Ls (v :: St)))) : OGo p e below Fn n0 Q (T.setTop (mkF m pc Ls (.int j :: .ref a :: St))) := by
  subst hp
  obtain ⟨cl, A, r1, r2, r3, -⟩ := A
  obtain ⟨q1, q2⟩ := o_idx (c := cl) hj hi r1
  exact OGo.st (fun t k => X.saload K.hx (g := mkF m pc Ls (.int j :: .ref a :: St)) (by rw [eT]; exact A.1) (State.isArrayOf_alike K.hZ.alike A.2.1) A.2.2 q1 (by rw [q2, r3 i hi, hv]) rfl rfl (hb K.hby hd) t k) hr
theorem o_baload (X : Stand p l e R s m args below meth c T locs cells slots) (K : OCx p s m meth c Z own nm bytes maxL ret) {a : Addr} {n i : Nat} {f : Nat → Value} {j : Int32} {v : Value} (hd : decode bytes pc = .ok (.baload, 1)) (pc' : Nat) (hp : pc + 1 = pc') (eT : T.heap = h) (A : OAr Z h a .byte n f) (hj : j.toInt = (i : Int)) (hi : i < n) (hv : f i = v) (hr : OGo p e below Fn n0 Q (T.setTop (mkF m pc' Ls (v :: St)))) : OGo p e below Fn n0 Q (T.setTop (mkF m pc Ls (.int j :: .ref a :: St))) := by
  subst hp
  obtain ⟨cl, A, r1, r2, r3, -⟩ := A
  obtain ⟨q1, q2⟩ := o_idx (c := cl) hj hi r1
  exact OGo.st (fun t k => X.baloadBytes K.hx (g := mkF m pc Ls (.int j :: .ref a :: St)) (by rw [eT]; exact A.1) (State.isArrayOf_alike K.hZ.alike A.2.1) A.2.2 q1 (by rw [q2, r3 i hi, hv]) rfl rfl (hb K.hby hd) t k) hr
theorem o_zaload (X : Stand p l e R s m args below meth c T locs cells slots) (K : OCx p s m meth c Z own nm bytes maxL ret) {a : Addr} {n i : Nat} {f : Nat → Value} {j : Int32} {v : Value} (hd : decode bytes pc = .ok (.baload, 1)) (pc' : Nat) (hp : pc + 1 = pc') (eT : T.heap = h) (A : OAr Z h a .boolean n f) (hj : j.toInt = (i : Int)) (hi : i < n) (hv : f i = v) (hr : OGo p e below Fn n0 Q (T.setTop (mkF m pc' Ls (v :: St)))) : OGo p e below Fn n0 Q (T.setTop (mkF m pc Ls (.int j :: .ref a :: St))) := by
  subst hp
  obtain ⟨cl, A, r1, r2, r3, -⟩ := A
  obtain ⟨q1, q2⟩ := o_idx (c := cl) hj hi r1
  exact OGo.st (fun t k => X.baloadBooleans K.hx (g := mkF m pc Ls (.int j :: .ref a :: St)) (by rw [eT]; exact A.1) (State.isArrayOf_alike K.hZ.alike A.2.1) A.2.2 q1 (by rw [q2, r3 i hi, hv]) rfl rfl (hb K.hby hd) t k) hr
theorem o_aaload (X : Stand p l e R s m args below meth c T locs cells slots) (K : OCx p s m meth c Z own nm bytes maxL ret) {a : Addr} {ty : FieldType} {n i : Nat} {f : Nat → Value} {j : Int32} {v : Value} (hd : decode bytes pc = .ok (.aaload, 1)) (pc' : Nat) (hp : pc + 1 = pc') (eT : T.heap = h) (A : OAr Z h a ty n f) (hty : ty.isReference = true) (hj : j.toInt = (i : Int)) (hi : i < n) (hv : f i = v) (hr : OGo p e below Fn n0 Q (T.setTop (mkF m pc' Ls (v :: St)))) : OGo p e below Fn n0 Q (T.setTop (mkF m pc Ls (.int j :: .ref a :: St))) := by
  subst hp
  obtain ⟨cl, A, r1, r2, r3, -⟩ := A
  obtain ⟨q1, q2⟩ := o_idx (c := cl) hj hi r1
  exact OGo.st (fun t k => X.aaload K.hx (g := mkF m pc Ls (.int j :: .ref a :: St)) (by rw [eT]; exact A.1) (State.isArrayOf_alike K.hZ.alike A.2.1) hty A.2.2 q1 (by rw [q2, r3 i hi, hv]) rfl rfl (hb K.hby hd) t k) hr
theorem o_bastore (X : Stand p l e R s m args below meth c T locs cells slots) (K : OCx p s m meth c Z own nm bytes maxL ret) {a : Addr} {n i : Nat} {f : Nat → Value} {j : Int32} {x x' : Int32} (hd : decode bytes pc = .ok (.bastore, 1)) (pc' : Nat) (hp : pc + 1 = pc') (eT : T.heap = h) (A : OAr Z h a .byte n f) (hj : j.toInt = (i : Int)) (hi : i < n) (hv : nar .byte x = x') (N : Fr n0 locs) (ge : n0 ≤ a)
    (hr : ∀ T' h' locs', Stand p l e R s m args below meth c T' locs' cells slots → T'.heap = h' → Wr h h' a i (.int x') → OAr Z h' a .byte n (fun q => if q = i then (.int x') else f q) → Fr n0 locs' → OGo p e below Fn n0 Q (T'.setTop (mkF m pc' Ls St))) : OGo p e below Fn n0 Q (T.setTop (mkF m pc Ls (.int x :: .int j :: .ref a :: St))) := by
  subst hp hv
  obtain ⟨cl, B, r1, r2, r3, -⟩ := id A
  obtain ⟨q1, q2⟩ := o_idx (c := cl) hj hi r1
  obtain ⟨T', h', X', e', W', st'⟩ := stB X K.hx K.hZ eT B q1 (g := mkF m pc Ls (.int x :: .int j :: .ref a :: St)) rfl rfl (hb K.hby hd)
  have N' := Fr.snoc X' N ge
  rw [q2] at W'
  exact OGo.st st' (hr T' h' _ X' e' W' (A.same W' (fits_nar_byte x)) N')
theorem o_castore (X : Stand p l e R s m args below meth c T locs cells slots) (K : OCx p s m meth c Z own nm bytes maxL ret) {a : Addr} {n i : Nat} {f : Nat → Value} {j : Int32} {x x' : Int32} (hd : decode bytes pc = .ok (.castore, 1)) (pc' : Nat) (hp : pc + 1 = pc') (eT : T.heap = h) (A : OAr Z h a .char n f) (hj : j.toInt = (i : Int)) (hi : i < n) (hv : nar .char x = x') (N : Fr n0 locs) (ge : n0 ≤ a)
    (hr : ∀ T' h' locs', Stand p l e R s m args below meth c T' locs' cells slots → T'.heap = h' → Wr h h' a i (.int x') → OAr Z h' a .char n (fun q => if q = i then (.int x') else f q) → Fr n0 locs' → OGo p e below Fn n0 Q (T'.setTop (mkF m pc' Ls St))) : OGo p e below Fn n0 Q (T.setTop (mkF m pc Ls (.int x :: .int j :: .ref a :: St))) := by
  subst hp hv
  obtain ⟨cl, B, r1, r2, r3, -⟩ := id A
  obtain ⟨q1, q2⟩ := o_idx (c := cl) hj hi r1
  obtain ⟨T', h', X', e', W', st'⟩ := stC X K.hx K.hZ eT B q1 (g := mkF m pc Ls (.int x :: .int j :: .ref a :: St)) rfl rfl (hb K.hby hd)
  have N' := Fr.snoc X' N ge
  rw [q2] at W'
  exact OGo.st st' (hr T' h' _ X' e' W' (A.same W' (fits_nar_char x)) N')
theorem o_sastore (X : Stand p l e R s m args below meth c T locs cells slots) (K : OCx p s m meth c Z own nm bytes maxL ret) {a : Addr} {n i : Nat} {f : Nat → Value} {j : Int32} {x x' : Int32} (hd : decode bytes pc = .ok (.sastore, 1)) (pc' : Nat) (hp : pc + 1 = pc') (eT : T.heap = h) (A : OAr Z h a .short n f) (hj : j.toInt = (i : Int)) (hi : i < n) (hv : nar .short x = x') (N : Fr n0 locs) (ge : n0 ≤ a)
    (hr : ∀ T' h' locs', Stand p l e R s m args below meth c T' locs' cells slots → T'.heap = h' → Wr h h' a i (.int x') → OAr Z h' a .short n (fun q => if q = i then (.int x') else f q) → Fr n0 locs' → OGo p e below Fn n0 Q (T'.setTop (mkF m pc' Ls St))) : OGo p e below Fn n0 Q (T.setTop (mkF m pc Ls (.int x :: .int j :: .ref a :: St))) := by
  subst hp hv
  obtain ⟨cl, B, r1, r2, r3, -⟩ := id A
  obtain ⟨q1, q2⟩ := o_idx (c := cl) hj hi r1
  obtain ⟨T', h', X', e', W', st'⟩ := stS X K.hx K.hZ eT B q1 (g := mkF m pc Ls (.int x :: .int j :: .ref a :: St)) rfl rfl (hb K.hby hd)
  have N' := Fr.snoc X' N ge
  rw [q2] at W'
  exact OGo.st st' (hr T' h' _ X' e' W' (A.same W' (fits_nar_short x)) N')
theorem o_zastore (X : Stand p l e R s m args below meth c T locs cells slots) (K : OCx p s m meth c Z own nm bytes maxL ret) {a : Addr} {n i : Nat} {f : Nat → Value} {j : Int32} {x x' : Int32} (hd : decode bytes pc = .ok (.bastore, 1)) (pc' : Nat) (hp : pc + 1 = pc') (eT : T.heap = h) (A : OAr Z h a .boolean n f) (hj : j.toInt = (i : Int)) (hi : i < n) (hv : nar .boolean x = x') (N : Fr n0 locs) (ge : n0 ≤ a)
    (hr : ∀ T' h' locs', Stand p l e R s m args below meth c T' locs' cells slots → T'.heap = h' → Wr h h' a i (.int x') → OAr Z h' a .boolean n (fun q => if q = i then (.int x') else f q) → Fr n0 locs' → OGo p e below Fn n0 Q (T'.setTop (mkF m pc' Ls St))) : OGo p e below Fn n0 Q (T.setTop (mkF m pc Ls (.int x :: .int j :: .ref a :: St))) := by
  subst hp hv
  obtain ⟨cl, B, r1, r2, r3, -⟩ := id A
  obtain ⟨q1, q2⟩ := o_idx (c := cl) hj hi r1
  obtain ⟨T', h', X', e', W', st'⟩ := stZ X K.hx K.hZ eT B q1 (g := mkF m pc Ls (.int x :: .int j :: .ref a :: St)) rfl rfl (hb K.hby hd)
  have N' := Fr.snoc X' N ge
  rw [q2] at W'
  exact OGo.st st' (hr T' h' _ X' e' W' (A.same W' (fits_nar_bool x)) N')
theorem o_iastore (X : Stand p l e R s m args below meth c T locs cells slots) (K : OCx p s m meth c Z own nm bytes maxL ret) {a : Addr} {n i : Nat} {f : Nat → Value} {j : Int32} {x x' : Int32} (hd : decode bytes pc = .ok (.iastore, 1)) (pc' : Nat) (hp : pc + 1 = pc') (eT : T.heap = h) (A : OAr Z h a .int n f) (hj : j.toInt = (i : Int)) (hi : i < n) (hv : x = x') (N : Fr n0 locs) (ge : n0 ≤ a)
    (hr : ∀ T' h' locs', Stand p l e R s m args below meth c T' locs' cells slots → T'.heap = h' → Wr h h' a i (.int x') → OAr Z h' a .int n (fun q => if q = i then (.int x') else f q) → Fr n0 locs' → OGo p e below Fn n0 Q (T'.setTop (mkF m pc' Ls St))) : OGo p e below Fn n0 Q (T.setTop (mkF m pc Ls (.int x :: .int j :: .ref a :: St))) := by
  subst hp hv
  obtain ⟨cl, B, r1, r2, r3, -⟩ := id A
  obtain ⟨q1, q2⟩ := o_idx (c := cl) hj hi r1
  obtain ⟨T', h', X', e', W', st'⟩ := stI X K.hx K.hZ eT B q1 (g := mkF m pc Ls (.int x :: .int j :: .ref a :: St)) rfl rfl (hb K.hby hd)
  have N' := Fr.snoc X' N ge
  rw [q2] at W'
  exact OGo.st st' (hr T' h' _ X' e' W' (A.same W' (rfl)) N')
theorem o_lastore (X : Stand p l e R s m args below meth c T locs cells slots) (K : OCx p s m meth c Z own nm bytes maxL ret) {a : Addr} {n i : Nat} {f : Nat → Value} {j : Int32} {x x' : Int64} (hd : decode bytes pc = .ok (.lastore, 1)) (pc' : Nat) (hp : pc + 1 = pc') (eT : T.heap = h) (A : OAr Z h a .long n f) (hj : j.toInt = (i : Int)) (hi : i < n) (hv : x = x') (N : Fr n0 locs) (ge : n0 ≤ a)
    (hr : ∀ T' h' locs', Stand p l e R s m args below meth c T' locs' cells slots → T'.heap = h' → Wr h h' a i (.long x') → OAr Z h' a .long n (fun q => if q = i then (.long x') else f q) → Fr n0 locs' → OGo p e below Fn n0 Q (T'.setTop (mkF m pc' Ls St))) : OGo p e below Fn n0 Q (T.setTop (mkF m pc Ls (.long x :: .int j :: .ref a :: St))) := by
  subst hp hv
  obtain ⟨cl, B, r1, r2, r3, -⟩ := id A
  obtain ⟨q1, q2⟩ := o_idx (c := cl) hj hi r1
  obtain ⟨T', h', X', e', W', st'⟩ := stJ X K.hx K.hZ eT B q1 (g := mkF m pc Ls (.long x :: .int j :: .ref a :: St)) rfl rfl (hb K.hby hd)
  have N' := Fr.snoc X' N ge
  rw [q2] at W'
  exact OGo.st st' (hr T' h' _ X' e' W' (A.same W' (rfl)) N')
theorem o_newarray (X : Stand p l e R s m args below meth c T locs cells slots) (K : OCx p s m meth c Z own nm bytes maxL ret) {aty : ArrayType} {z : Int32} {n : Nat} (hd : decode bytes pc = .ok (.newarray aty, 2)) (pc' : Nat) (hp : pc + 2 = pc') (w : (Jvm.Cond.arrayClass (newarray.typeOf aty)).before a0 Z = true) (eT : T.heap = h) (hz : z.toInt = (n : Int)) (cap : Nat) (hcap : n ≤ cap) (hb8 : cap * 8 ≤ 536870912) (hc : cells + 1 ≤ R.cells) (hl : slots + cap ≤ R.slots)
    (hdv : fits (newarray.typeOf aty) (defaultValue (newarray.typeOf aty)) = true)
    (hr : ∀ T' h' a, a = h.size → Stand p l e R s m args below meth c T' locs (cells + 1) (slots + cap) → T'.heap = h' → Ext h h' → OAr Z h' a (newarray.typeOf aty) n (fun _ => defaultValue (newarray.typeOf aty)) → OGo p e below Fn n0 Q (T'.setTop (mkF m pc' Ls (.ref a :: St)))) : OGo p e below Fn n0 Q (T.setTop (mkF m pc Ls (.int z :: St))) := by
  subst hp
  have e1 : z.toNatClampNeg = n := by rw [← Int32.toNat_toInt, hz]; rfl
  have hneg : ¬ z < 0 := by
    rw [Int32.lt_iff_toInt_lt, hz]
    have : (0 : Int32).toInt = 0 := rfl
    omega
  obtain ⟨T', h', cA, X', e', E', A', st'⟩ := newP X K.hx K.hZ w eT (g := mkF m pc Ls (.int z :: St)) rfl (hb K.hby hd) rfl hneg (cap := cap) (by omega) hb8 hc hl
  refine OGo.st st' (hr T' h' _ rfl X' e' E' ⟨_, A', (sz_new _ _ _).trans e1, ?_, fun j hj => ?_, fun j _ => hdv⟩)
  · have := (rng32 z).2
    omega
  · simp [newA, e1, hj]
theorem o_newarrayE (X : Stand p l e R s m args below meth c T locs cells slots) (K : OCx p s m meth c Z own nm bytes maxL ret) {aty : ArrayType} {z : Int32} {n : Nat} {ad : String} (hd : decode bytes pc = .ok (.newarray aty, 2)) (pc' : Nat) (hp : pc + 2 = pc') (w : (Jvm.Cond.arrayClass (newarray.typeOf aty)).before a0 Z = true) (eT : T.heap = h) (hz : z.toInt = (n : Int)) (cap : Nat) (hcap : n ≤ cap) (hb8 : cap * 8 ≤ 536870912) (hc : cells + 1 ≤ R.cells) (hl : slots + cap ≤ R.slots)
    (hdv : fits (newarray.typeOf aty) (defaultValue (newarray.typeOf aty)) = true) (had : "[" ++ (newarray.typeOf aty).toString = ad)
    (hr : ∀ T' h' a, a = h.size → Stand p l e R s m args below meth c T' locs (cells + 1) (slots + cap) → T'.heap = h' → Ext h h' → OAr Z h' a (newarray.typeOf aty) n (fun _ => defaultValue (newarray.typeOf aty)) → Exa Z h' a ad → OGo p e below Fn n0 Q (T'.setTop (mkF m pc' Ls (.ref a :: St)))) : OGo p e below Fn n0 Q (T.setTop (mkF m pc Ls (.int z :: St))) := by
  subst hp
  have e1 : z.toNatClampNeg = n := by rw [← Int32.toNat_toInt, hz]; rfl
  have hneg : ¬ z < 0 := by
    rw [Int32.lt_iff_toInt_lt, hz]
    have : (0 : Int32).toInt = 0 := rfl
    omega
  obtain ⟨T', h', cA, X', e', E', A', B', st'⟩ := newPE X K.hx K.hZ w eT (g := mkF m pc Ls (.int z :: St)) rfl (hb K.hby hd) rfl hneg (cap := cap) (by omega) hb8 hc hl had
  refine OGo.st st' (hr T' h' _ rfl X' e' E' ⟨_, A', (sz_new _ _ _).trans e1, ?_, fun j hj => ?_, fun j _ => hdv⟩ B')
  · have := (rng32 z).2
    omega
  · simp [newA, e1, hj]
theorem o_anewarray (X : Stand p l e R s m args below meth c T locs cells slots) (K : OCx p s m meth c Z own nm bytes maxL ret) {C : String} {index : Nat} {z : Int32} {n : Nat} (hd : decode bytes pc = .ok (.anewarray index, 3)) (pc' : Nat) (hp : pc + 3 = pc') (w1 : (Jvm.Cond.classLink own index C).before a0 Z = true) (w2 : (Jvm.Cond.arrayOver (.object C)).before a0 Z = true) (eT : T.heap = h) (hz : z.toInt = (n : Int)) (cap : Nat) (hcap : n ≤ cap) (hb8 : cap * 8 ≤ 536870912) (hc : cells + 1 ≤ R.cells) (hl : slots + cap ≤ R.slots)
    (hr : ∀ T' h' a, a = h.size → Stand p l e R s m args below meth c T' locs (cells + 1) (slots + cap) → T'.heap = h' → Ext h h' → OAr Z h' a (.object C) n (fun _ => .null) → (∃ cl : Cell, h'[a]? = some cl ∧ Ovr Z cl.cls C) → OGo p e below Fn n0 Q (T'.setTop (mkF m pc' Ls (.ref a :: St)))) : OGo p e below Fn n0 Q (T.setTop (mkF m pc Ls (.int z :: St))) := by
  subst hp
  have e1 : z.toNatClampNeg = n := by rw [← Int32.toNat_toInt, hz]; rfl
  have hneg : ¬ z < 0 := by
    rw [Int32.lt_iff_toInt_lt, hz]
    have : (0 : Int32).toInt = 0 := rfl
    omega
  obtain ⟨T', h', cA, X', e', E', A', O', st'⟩ := newR X K.hx K.hZ K.hown w1 w2 eT (g := mkF m pc Ls (.int z :: St)) rfl (hb K.hby hd) rfl hneg (cap := cap) (by omega) hb8 hc hl
  refine OGo.st st' (hr T' h' _ rfl X' e' E' ⟨_, A', (sz_new _ _ _).trans e1, ?_, fun j hj => ?_, fun j _ => rfl⟩ ⟨_, A'.1, O'⟩)
  · have := (rng32 z).2
    omega
  · simp [newA, e1, hj, defaultValue]
theorem o_new (X : Stand p l e R s m args below meth c T locs cells slots) (K : OCx p s m meth c Z own nm bytes maxL ret) {C : String} {index k : Nat} (hd : decode bytes pc = .ok (.new index, 3)) (pc' : Nat) (hp : pc + 3 = pc') (w : (Jvm.Cond.classLink own index C).before a0 Z = true) (wi : (Jvm.Cond.instantiable C k).before a0 Z = true) (wz : (Jvm.Cond.initialized C).before a0 Z = true) (eT : T.heap = h) (hc : cells + 1 ≤ R.cells) (hl : slots + k ≤ R.slots)
    (hr : ∀ T' h' a, a = h.size → Stand p l e R s m args below meth c T' locs (cells + 1) (slots + k) → T'.heap = h' → Ext h h' → Exa Z h' a C → (∀ {O nm d : String} {ty : FieldType}, Laid Z a0 C O nm d → parseFieldDescriptor d = some ty → Fld Z h' a O nm d (defaultValue ty)) → OGo p e below Fn n0 Q (T'.setTop (mkF m pc' Ls (.ref a :: St)))) : OGo p e below Fn n0 Q (T.setTop (mkF m pc Ls St)) := by
  subst hp
  obtain ⟨T', h', X', e', E', A', D', -, st'⟩ := newO X K.hx K.hZ K.hown w wi wz eT (g := mkF m pc Ls St) rfl (hb K.hby hd) hc hl
  exact OGo.st st' (hr T' h' _ rfl X' e' E' A' D')
theorem o_initO (X : Stand p l e R s m args below meth c T locs cells slots) (K : OCx p s m meth c Z own nm bytes maxL ret) {idx : Nat} {a : Addr} (hd : decode bytes pc = .ok (.invokespecial idx, 3)) (pc' : Nat) (hp : pc + 3 = pc') (w1 : (Jvm.Cond.methodLink own idx Lib.objectInit).before a0 Z = true) (w2 : (Jvm.Cond.instanceMethod Lib.objectInit).before a0 Z = true) (w3 : (Jvm.Cond.code Lib.objectInit ⟨#[0xb1]⟩ 1 none).before a0 Z = true) (eT : T.heap = h) (hsz : Ls.size = maxL)
    (hf : 1 ≤ R.frames) (W : Nat) (hW : (St.map fun v => v.category).sum ≤ W) (hl : W + 12 ≤ R.locals) (hr : ∀ T', Stand p l e R s m args below meth c T' locs cells slots → T'.heap = h → OGo p e below Fn n0 Q (T'.setTop (mkF m pc' Ls St))) : OGo p e below Fn n0 Q (T.setTop (mkF m pc Ls (.ref a :: St))) := by
  subst hp
  obtain ⟨T', X', e', st'⟩ := initO X K.hx K.hZ K.hown w1 w2 w3 eT (g := mkF m pc Ls (.ref a :: St)) rfl (by rw [K.hml]; exact hsz) rfl (hb K.hby hd) hf (W := W) (by show 2 * 0 + _ ≤ _; omega) hl
  exact OGo.st st' (hr T' X' e')
theorem o_getfield (X : Stand p l e R s m args below meth c T locs cells slots) (K : OCx p s m meth c Z own nm bytes maxL ret) {index : Nat} {R0 O n d host : String} {a : Addr} {v : Value} (hd : decode bytes pc = .ok (.getfield index, 3)) (pc' : Nat) (hp : pc + 3 = pc') (w : (Jvm.Cond.fieldLink own index R0 n d).before a0 Z = true ∨ (Jvm.Cond.fieldLinkNest own index R0 n d host).before a0 Z = true) (via : Via Z R0 O n d) (eT : T.heap = h) (F : Fld Z h a O n d v)
    (hr : ∀ T', Stand p l e R s m args below meth c T' locs cells slots → T'.heap = h → OGo p e below Fn n0 Q (T'.setTop (mkF m pc' Ls (v :: St)))) : OGo p e below Fn n0 Q (T.setTop (mkF m pc Ls (.ref a :: St))) := by
  subst hp
  obtain ⟨T', X', e', st'⟩ := getF X K.hx K.hZ K.hown w via eT F (g := mkF m pc Ls (.ref a :: St)) rfl rfl (hb K.hby hd)
  exact OGo.st st' (hr T' X' e')
theorem o_getstatic (X : Stand p l e R s m args below meth c T locs cells slots) (K : OCx p s m meth c Z own nm bytes maxL ret) {index : Nat} {R0 O n d host : String} {v : Value} (hd : decode bytes pc = .ok (.getstatic index, 3)) (pc' : Nat) (hp : pc + 3 = pc') (w : (Jvm.Cond.fieldLink own index R0 n d).before a0 Z = true ∨ (Jvm.Cond.fieldLinkNest own index R0 n d host).before a0 Z = true) (via : Via Z R0 O n d) (eT : T.heap = h) (F : Sta Z h O n d v)
    (hr : ∀ T', Stand p l e R s m args below meth c T' locs cells slots → T'.heap = h → OGo p e below Fn n0 Q (T'.setTop (mkF m pc' Ls (v :: St)))) : OGo p e below Fn n0 Q (T.setTop (mkF m pc Ls St)) := by
  subst hp
  obtain ⟨T', X', e', st'⟩ := getS2 X K.hx K.hZ K.hown w via eT F (g := mkF m pc Ls St) rfl (hb K.hby hd)
  exact OGo.st st' (hr T' X' e')
theorem o_putfield (X : Stand p l e R s m args below meth c T locs cells slots) (K : OCx p s m meth c Z own nm bytes maxL ret) {index kk : Nat} {R0 O n d host C : String} {a : Addr} {v old : Value} {ty : FieldType} (hd : decode bytes pc = .ok (.putfield index, 3)) (pc' : Nat) (hp : pc + 3 = pc') (w : (Jvm.Cond.fieldLink own index R0 n d).before a0 Z = true ∨ (Jvm.Cond.fieldLinkNest own index R0 n d host).before a0 Z = true) (via : Via Z R0 O n d) (eT : T.heap = h) (F : Fld Z h a O n d old) (E : Exa Z h a C)
    (L : (Jvm.Cond.lays C O n d).before a0 Z = true ∨ ((Jvm.Cond.laysFinal C O n d).before a0 Z = true ∧ own = O ∧ nm = "<init>")) (wi : (Jvm.Cond.instantiable C kk).before a0 Z = true) (hty : parseFieldDescriptor d = some ty) (hn : narrow ty v = v) (hf : fits ty v = true) (N : Fr n0 locs) (ge : n0 ≤ a)
    (hr : ∀ T' h' locs', Stand p l e R s m args below meth c T' locs' cells slots → T'.heap = h' → Wr h h' a (Jvm.RoadKit.slotOf Z O n d) v → Fr n0 locs' → OGo p e below Fn n0 Q (T'.setTop (mkF m pc' Ls St))) : OGo p e below Fn n0 Q (T.setTop (mkF m pc Ls (v :: .ref a :: St))) := by
  subst hp
  obtain ⟨T', h', X', e', W', st'⟩ := putF X K.hx K.hZ K.hown w via eT F E (L.imp id fun q => ⟨q.1, q.2.1, K.hnm.trans q.2.2⟩) wi hty hn hf (g := mkF m pc Ls (v :: .ref a :: St)) rfl rfl (hb K.hby hd)
  exact OGo.st st' (hr T' h' _ X' e' W' (Fr.snoc X' N ge))
theorem o_putfieldN (X : Stand p l e R s m args below meth c T locs cells slots) (K : OCx p s m meth c Z own nm bytes maxL ret) {index kk : Nat} {R0 O n d C : String} {a : Addr} {v v' old : Value} {ty : FieldType} (hd : decode bytes pc = .ok (.putfield index, 3)) (pc' : Nat) (hp : pc + 3 = pc') (w : (Jvm.Cond.fieldLink own index R0 n d).before a0 Z = true) (via : Via Z R0 O n d) (eT : T.heap = h) (F : Fld Z h a O n d old) (E : Exa Z h a C)
    (L : (Jvm.Cond.lays C O n d).before a0 Z = true ∨ ((Jvm.Cond.laysFinal C O n d).before a0 Z = true ∧ own = O ∧ nm = "<init>")) (wi : (Jvm.Cond.instantiable C kk).before a0 Z = true) (hty : parseFieldDescriptor d = some ty) (hn : narrow ty v = v') (hf : fits ty v' = true) (N : Fr n0 locs) (ge : n0 ≤ a)
    (hr : ∀ T' h' locs', Stand p l e R s m args below meth c T' locs' cells slots → T'.heap = h' → Wr h h' a (Jvm.RoadKit.slotOf Z O n d) v' → Fr n0 locs' → OGo p e below Fn n0 Q (T'.setTop (mkF m pc' Ls St))) : OGo p e below Fn n0 Q (T.setTop (mkF m pc Ls (v :: .ref a :: St))) := by
  subst hp
  obtain ⟨T', h', X', e', W', st'⟩ := putFN X K.hx K.hZ K.hown w via eT F E (L.imp id fun q => ⟨q.1, q.2.1, K.hnm.trans q.2.2⟩) wi hty hn hf (g := mkF m pc Ls (v :: .ref a :: St)) rfl rfl (hb K.hby hd)
  exact OGo.st st' (hr T' h' _ X' e' W' (Fr.snoc X' N ge))
theorem o_invokestatic (X : Stand p l e R s m args below meth c T locs cells slots) (K : OCx p s m meth c Z own nm bytes maxL ret) {index : Nat} {y : MethodName} {bytes' : ByteArray} {maxL' : Nat} {ret' : Option FieldType} {rm : Room} {Q' : Option Value → Heap → Prop} (hd : decode bytes pc = .ok (.invokestatic index, 3)) (pc' : Nat) (hp : pc + 3 = pc') (w1 : (Jvm.Cond.methodLink own index y).before a0 Z = true) (w2 : (Jvm.Cond.static y).before a0 Z = true) (w3 : (Jvm.Cond.initialized y.cls).before a0 Z = true) (w4 : (Jvm.Cond.code y bytes' maxL' ret').before a0 Z = true) (hy : y.cls ≠ "java/lang/invoke/MethodHandle" ∧ y.cls ≠ "java/lang/invoke/VarHandle")
    (argsL rest : List Value) (hst : St = argsL.reverse ++ rest) (con : OCon l Z n0 y bytes' maxL' ret' rm argsL.toArray h Q') (eT : T.heap = h) (hsz : Ls.size = maxL) (hlen : ∀ sig, parseMethodDescriptor y.desc = some sig → argsL.length = sig.parameters.length) (hf : rm.frames + 1 ≤ R.frames) (W : Nat) (hW : (rest.map fun v => v.category).sum ≤ W) (hlo : W + (maxL' + 11) + rm.locals ≤ R.locals) (hc : cells + rm.cells ≤ R.cells) (hs : slots + rm.slots ≤ R.slots) (N : Fr n0 locs)
    (hr : ∀ v T' h' locs', Stand p l e R s m args below meth c T' locs' (cells + rm.cells) (slots + rm.slots) → T'.heap = h' → Q' v h' → Fr n0 locs' → OGo p e below Fn n0 Q (T'.setTop (mkF m pc' Ls (v.toList ++ rest)))) : OGo p e below Fn n0 Q (T.setTop (mkF m pc Ls St)) := by
  subst hp hst
  obtain ⟨v, vm₁, ⟨T', L', k', n'⟩, -, X', ⟨Lc, ⟨hQ, hF⟩, l1, y1, z1⟩, st⟩ := Jvm.LawKit.callS X K.hx K.hown (mvT K.hZ w1) (mvT K.hZ w2) (mvT K.hZ w3) (mvT K.hZ w4) hy (backOf (W := W) (Q := fun v h L => Q' v h ∧ Fr n0 L) (con []) K.hZ w4 w3 hf hlo) (g := mkF m pc Ls (argsL.reverse ++ rest)) rfl (by rw [K.hml]; exact hsz) (argsL := argsL) (rest := rest) hlen rfl (by show 2 * 0 + _ ≤ _; omega) (hb K.hby hd) (fun _ _ => ⟨rfl, eT, hc, hs⟩)
  dsimp only [Pt.U, Pt.locs, Pt.cells, Pt.slots] at X' l1 y1 z1 st hQ
  subst l1 y1 z1
  exact OGo.st st (hr v T' _ _ X' rfl hQ (Fr.app N hF))
theorem o_invokespecial (X : Stand p l e R s m args below meth c T locs cells slots) (K : OCx p s m meth c Z own nm bytes maxL ret) {index : Nat} {y : MethodName} {bytes' : ByteArray} {maxL' : Nat} {rm : Room} {Q' : Option Value → Heap → Prop} {a : Addr} (hd : decode bytes pc = .ok (.invokespecial index, 3)) (pc' : Nat) (hp : pc + 3 = pc') (hy1 : y.name = "<init>") (w1 : (Jvm.Cond.methodLink own index y).before a0 Z = true) (w2 : (Jvm.Cond.instanceMethod y).before a0 Z = true) (w3 : (Jvm.Cond.initialized y.cls).before a0 Z = true) (w4 : (Jvm.Cond.code y bytes' maxL' none).before a0 Z = true) (hy : y.cls ≠ "java/lang/invoke/MethodHandle" ∧ y.cls ≠ "java/lang/invoke/VarHandle")
    (argsL rest : List Value) (hst : St = argsL.reverse ++ .ref a :: rest) (con : OCon l Z n0 y bytes' maxL' none rm (.ref a :: argsL).toArray h Q') (eT : T.heap = h) (hsz : Ls.size = maxL) (hlen : ∀ sig, parseMethodDescriptor y.desc = some sig → argsL.length = sig.parameters.length) (hf : rm.frames + 1 ≤ R.frames) (W : Nat) (hW : (rest.map fun v => v.category).sum ≤ W) (hlo : W + (maxL' + 11) + rm.locals ≤ R.locals) (hc : cells + rm.cells ≤ R.cells) (hs : slots + rm.slots ≤ R.slots) (N : Fr n0 locs)
    (hr : ∀ v T' h' locs', Stand p l e R s m args below meth c T' locs' (cells + rm.cells) (slots + rm.slots) → T'.heap = h' → Q' v h' → Fr n0 locs' → OGo p e below Fn n0 Q (T'.setTop (mkF m pc' Ls (v.toList ++ rest)))) : OGo p e below Fn n0 Q (T.setTop (mkF m pc Ls St)) := by
  subst hp hst
  obtain ⟨v, vm₁, ⟨T', L', k', n'⟩, -, X', ⟨Lc, ⟨hQ, hF⟩, l1, y1, z1⟩, st⟩ := X.specialBack K.hx hy1 K.hown (mvT K.hZ w1) (mvT K.hZ w2) (mvT K.hZ w4) hy (backOf (W := W) (Q := fun v h L => Q' v h ∧ Fr n0 L) (con []) K.hZ w4 w3 hf hlo) (g := mkF m pc Ls (argsL.reverse ++ .ref a :: rest)) rfl (by rw [K.hml]; exact hsz) (Steps.refl _) (argsL := argsL) (rest := rest) hlen rfl (by show 2 * 0 + _ ≤ _; omega) (hb K.hby hd) (fun _ _ => ⟨rfl, eT, hc, hs⟩)
  dsimp only [Pt.U, Pt.locs, Pt.cells, Pt.slots] at X' l1 y1 z1 st hQ
  subst l1 y1 z1
  exact OGo.st (fun t k => st.trans k) (hr v T' _ _ X' rfl hQ (Fr.app N hF))
theorem o_invokevirtual (X : Stand p l e R s m args below meth c T locs cells slots) (K : OCx p s m meth c Z own nm bytes maxL ret) {index : Nat} {y : MethodName} {bytes' : ByteArray} {maxL' : Nat} {ret' : Option FieldType} {rm : Room} {Q' : Option Value → Heap → Prop} {C : String} {a : Addr} (hd : decode bytes pc = .ok (.invokevirtual index, 3)) (pc' : Nat) (hp : pc + 3 = pc') (w1 : (Jvm.Cond.methodLink own index y).before a0 Z = true) (w2 : (Jvm.Cond.declares y).before a0 Z = true) (wsel : (Jvm.Cond.selects C y y).before a0 Z = true) (w5 : (Jvm.Cond.instanceMethod y).before a0 Z = true) (w3 : (Jvm.Cond.initialized y.cls).before a0 Z = true) (w4 : (Jvm.Cond.code y bytes' maxL' ret').before a0 Z = true) (hy : y.cls ≠ "java/lang/invoke/MethodHandle" ∧ y.cls ≠ "java/lang/invoke/VarHandle")
    (E : Exa Z h a C) (argsL rest : List Value) (hst : St = argsL.reverse ++ .ref a :: rest) (con : OCon l Z n0 y bytes' maxL' ret' rm (.ref a :: argsL).toArray h Q') (eT : T.heap = h) (hsz : Ls.size = maxL) (hlen : ∀ sig, parseMethodDescriptor y.desc = some sig → argsL.length = sig.parameters.length) (hf : rm.frames + 1 ≤ R.frames) (W : Nat) (hW : (rest.map fun v => v.category).sum ≤ W) (hlo : W + (maxL' + 11) + rm.locals ≤ R.locals) (hc : cells + rm.cells ≤ R.cells) (hs : slots + rm.slots ≤ R.slots) (N : Fr n0 locs)
    (hr : ∀ v T' h' locs', Stand p l e R s m args below meth c T' locs' (cells + rm.cells) (slots + rm.slots) → T'.heap = h' → Q' v h' → Fr n0 locs' → OGo p e below Fn n0 Q (T'.setTop (mkF m pc' Ls (v.toList ++ rest)))) : OGo p e below Fn n0 Q (T.setTop (mkF m pc Ls St)) := by
  subst hp hst
  obtain ⟨cq, kq, qa, qb, qc⟩ := isOf K.hZ eT E
  obtain ⟨v, vm₁, ⟨T', L', k', n'⟩, -, X', ⟨Lc, ⟨hQ, hF⟩, l1, y1, z1⟩, st⟩ := X.virtualBack K.hx K.hown (mvT K.hZ w1) (mvT K.hZ w2) (notFace_of_selects (args := #[]) (mvT K.hZ wsel)) (mvT K.hZ wsel) (mvT K.hZ w5) hy (backOf (W := W) (Q := fun v h L => Q' v h ∧ Fr n0 L) (con []) K.hZ w4 w3 hf hlo) qa qc (g := mkF m pc Ls (argsL.reverse ++ .ref a :: rest)) rfl (by rw [K.hml]; exact hsz) (Steps.refl _) (argsL := argsL) (rest := rest) hlen rfl (by show 2 * 0 + _ ≤ _; omega) (hb K.hby hd) (fun _ _ => ⟨rfl, eT, hc, hs⟩)
  dsimp only [Pt.U, Pt.locs, Pt.cells, Pt.slots] at X' l1 y1 z1 st hQ
  subst l1 y1 z1
  exact OGo.st (fun t k => st.trans k) (hr v T' _ _ X' rfl hQ (Fr.app N hF))
theorem o_nb (x : Int32) : nar .byte (x.toInt8.toInt32) = x.toInt8.toInt32 := by
  show x.toInt8.toInt32.toInt8.toInt32 = _
  simp
theorem o_join {α : Type} (F : α → State) (P : α → Prop) {S : State} (hgo : (∀ b, P b → OGo p e below Fn n0 Q (F b)) → OGo p e below Fn n0 Q S) (hrest : ∀ b, P b → OGo p e below Fn n0 Q (F b)) : OGo p e below Fn n0 Q S := hgo hrest
theorem o_ind {α : Type} (F : α → State) (Inv : Nat → α → Prop) (hz : ∀ a, Inv 0 a → OGo p e below Fn n0 Q (F a)) (hs : ∀ d, (∀ a, Inv d a → OGo p e below Fn n0 Q (F a)) → ∀ a, Inv (d + 1) a → OGo p e below Fn n0 Q (F a)) (d : Nat) (a : α) (i : Inv d a) : OGo p e below Fn n0 Q (F a) := by
  induction d generalizing a with
  | zero => exact hz a i
  | succ d ih => exact hs d ih a i
theorem o_sta_keep {C n d : String} {v : Value} {ws : List Addr} (F : Sta Z h C n d v) (k : Keep h h' ws) (q : ∀ x ∈ ws, ∀ cell : Cell, h[x]? = some cell → cell.vm.isStatics = false) : Sta Z h' C n d v := by
  obtain ⟨cf, i, kk, f, st, cell, h1, h2, h3, h4, h5, h6, h7⟩ := F
  refine ⟨cf, i, kk, f, st, cell, h1, h2, h3, h4, k.2.1 _ _ h5 (fun z => ?_), h6, h7⟩
  rw [q st z cell h5] at h6
  cases h6
theorem o_nat {n : Nat} (h : n < 2147483648) : (n.toInt32).toNatClampNeg = n := by
  rw [← Int32.toNat_toInt, o_len h]
  rfl
theorem o_getD {n i : Nat} {f : Nat → Value} {d : Value} (h : i < n) : ((List.range n).map f).getD i d = f i := by
  simp [List.getD_eq_getElem?_getD, h]
theorem OAr.arv {a : Addr} {ty : FieldType} {n : Nat} {f : Nat → Value} (A : OAr Z h a ty n f) (dv : Value) : ∃ k, Arv Z h a k ty n.toInt32 ((List.range n).map f) dv := by
  obtain ⟨cl, A, r1, r2, r3, r4⟩ := A
  refine ⟨cl.cls, cl, A, rfl, by rw [r1, o_nat r2], ?_, fun k hk => ?_, fun i hi => ?_⟩
  · rw [Int32.lt_iff_toInt_lt, o_len r2]
    have : (0 : Int32).toInt = 0 := rfl
    omega
  · rw [o_getD (by omega)]
    exact r3 k (by omega)
  · rw [o_getD (by omega)]
    exact r4 i (by omega)
theorem OAr.of_arv {a : Addr} {k : ClassId} {ty : FieldType} {n : Nat} {vs : List Value} {dv : Value} {f : Nat → Value} (hn : n < 2147483648) (A : Arv Z h a k ty n.toInt32 vs dv) (q : ∀ j, j < n → vs.getD j dv = f j) : OAr Z h a ty n f := by
  obtain ⟨cl, A, -, r1, -, r3, r4⟩ := A
  rw [o_nat hn] at r1
  refine ⟨cl, A, r1, hn, fun j hj => ?_, fun j hj => ?_⟩
  · rw [← q j hj]
    exact r3 j (by omega)
  · rw [← q j hj]
    exact r4 j (by omega)
theorem OAr.of_arh {a : Addr} {k : ClassId} {ty : FieldType} {n : Nat} {vs : List Value} {dv : Value} {f : Nat → Value} (hn : n < 2147483648) (A : Arh Z h a k ty n.toInt32 [] vs dv) (q : ∀ j, j < n → vs.getD j dv = f j) : OAr Z h a ty n f := by
  obtain ⟨cl, A, -, r1, -, r3, r4⟩ := A
  rw [o_nat hn] at r1
  refine ⟨cl, A, r1, hn, fun j hj => ?_, fun j hj => ?_⟩
  · rw [← q j hj]
    exact r3 j (by omega)
  · rw [← q j hj]
    exact r4 j (by omega)
theorem o_splice {n' i j k : Nat} {f g : Nat → Value} {dd : Value} (h5 : j + k ≤ n') (q : Nat) (hq : q < n') : (((List.range n').map g).take j ++ (List.range k).map (fun z => f (i + z)) ++ ((List.range n').map g).drop (j + k)).getD q dd = if j ≤ q ∧ q < j + k then f (i + (q - j)) else g q := by
  rw [List.getD_eq_getElem?_getD]
  by_cases h1 : q < j
  · rw [if_neg (by omega), List.append_assoc, List.getElem?_append_left (by simp; omega)]
    simp [List.getElem?_take, h1, hq]
  · by_cases h2 : q < j + k
    · rw [if_pos ⟨by omega, h2⟩, List.append_assoc, List.getElem?_append_right (by simp; omega), List.getElem?_append_left (by simp; omega)]
      have e : min j n' = j := by omega
      have h3 : q - j < k := by omega
      simp [e, h3]
    · rw [if_neg (by omega), List.getElem?_append_right (by simp; omega)]
      have e : min j n' = j := by omega
      have e2 : j + k + (q - (j + k)) = q := by omega
      simp [List.getElem?_drop, e, e2, hq]
theorem o_arraycopy (X : Stand p l e R s m args below meth c T locs cells slots) (K : OCx p s m meth c Z own nm bytes maxL ret) {index : Nat} {a b : Addr} {n n' : Nat} {f g : Nat → Value} {ty : FieldType} {sp dp nn : Int32} {i j k : Nat} (hd : decode bytes pc = .ok (.invokestatic index, 3)) (pc' : Nat) (hp : pc + 3 = pc') (w1 : (Jvm.Cond.methodLink own index Jvm.Stand.acN).before a0 Z = true) (w2 : (Jvm.Cond.native Jvm.Stand.acN).before a0 Z = true) (w3 : (Jvm.Cond.static Jvm.Stand.acN).before a0 Z = true) (w4 : (Jvm.Cond.initialized "java/lang/System").before a0 Z = true) (eT : T.heap = h)
    (A : OAr Z h a ty n f) (B : OAr Z h b ty n' g) (hty : refKind ty = false) (h1 : sp.toInt = (i : Int)) (h2 : dp.toInt = (j : Int)) (h3 : nn.toInt = (k : Int)) (h4 : i + k ≤ n) (h5 : j + k ≤ n') (N : Fr n0 locs) (ge : n0 ≤ b) (hsz : Ls.size = maxL) (hf : 1 ≤ R.frames) (W : Nat) (hW : (St.map fun v => v.category).sum ≤ W) (hlo : W + (nativeFrameWords "java/lang/System" "arraycopy" 5 + 11) ≤ R.locals)
    (hr : ∀ T' h' locs', Stand p l e R s m args below meth c T' locs' cells slots → T'.heap = h' → Keep h h' [b] → OAr Z h' b ty n' (fun q => if j ≤ q ∧ q < j + k then f (i + (q - j)) else g q) → Fr n0 locs' → OGo p e below Fn n0 Q (T'.setTop (mkF m pc' Ls St))) : OGo p e below Fn n0 Q (T.setTop (mkF m pc Ls (.int nn :: .int dp :: .ref b :: .int sp :: .ref a :: St))) := by
  subst hp
  have c1 : sp.toNatClampNeg = i := by rw [← Int32.toNat_toInt, h1]; rfl
  have c2 : dp.toNatClampNeg = j := by rw [← Int32.toNat_toInt, h2]; rfl
  have c3 : nn.toNatClampNeg = k := by rw [← Int32.toNat_toInt, h3]; rfl
  have z0 : (0 : Int32).toInt = 0 := rfl
  have la := A.len
  have lb := B.len
  obtain ⟨ka, A'⟩ := A.arv .null
  obtain ⟨kb, B'⟩ := B.arv .null
  obtain ⟨T', h', L, X', e', N', K', C', st'⟩ := cpA X K.hx K.hZ K.hown w1 w2 w3 w4 eT (sp := sp) (dp := dp) (nn := nn) (us := (List.range k).map (fun z => f (i + z))) A' B' (Or.inl ⟨rfl, hty⟩) (by rw [Int32.lt_iff_toInt_lt, h1]; omega) (by rw [Int32.lt_iff_toInt_lt, h2]; omega) (by rw [Int32.lt_iff_toInt_lt, h3]; omega) (by rw [c1, c3, o_nat la]; exact h4) (by rw [c2, c3, o_nat lb]; exact h5)
    (by rw [c1, c3]; exact List.map_congr_left fun z hz => (o_getD (by have := List.mem_range.mp hz; omega)).symm) (by rw [c2, c3]; simp; exact h5) N ge (g := mkF m pc Ls (.int nn :: .int dp :: .ref b :: .int sp :: .ref a :: St)) rfl (by rw [K.hml]; exact hsz) rfl (hb K.hby hd) hf (W := W) (by show 2 * 0 + _ ≤ _; omega) hlo
  rw [c2, c3] at C'
  exact OGo.st st' (hr T' h' L X' e' K' (OAr.of_arv lb C' (fun q hq => o_splice h5 q hq)) N')
theorem o_clone (X : Stand p l e R s m args below meth c T locs cells slots) (K : OCx p s m meth c Z own nm bytes maxL ret) {index : Nat} {ad : String} {a : Addr} {n : Nat} {f : Nat → Value} {ty : FieldType} (hd : decode bytes pc = .ok (.invokevirtual index, 3)) (pc' : Nat) (hp : pc + 3 = pc') (w1 : (Jvm.Cond.methodLink own index ⟨ad, "clone", "()Ljava/lang/Object;"⟩).before a0 Z = true) (w2 : (Jvm.Cond.sameMethod ad "java/lang/Object" "clone" "()Ljava/lang/Object;").before a0 Z = true) (w3 : (Jvm.Cond.native ⟨"java/lang/Object", "clone", "()Ljava/lang/Object;"⟩).before a0 Z = true)
    (w4 : (Jvm.Cond.instanceMethod ⟨"java/lang/Object", "clone", "()Ljava/lang/Object;"⟩).before a0 Z = true) (w5 : (Jvm.Cond.selects ad ⟨ad, "clone", "()Ljava/lang/Object;"⟩ ⟨"java/lang/Object", "clone", "()Ljava/lang/Object;"⟩).before a0 Z = true) (w6 : (Jvm.Cond.castable ad "java/lang/Cloneable").before a0 Z = true)
    (eT : T.heap = h) (A : OAr Z h a ty n f) (E : Exa Z h a ad) (hsz : Ls.size = maxL) (hf : 1 ≤ R.frames) (W cap : Nat) (hW : (St.map fun v => v.category).sum ≤ W) (hl : W + 14 ≤ R.locals) (hcap : n ≤ cap) (hc : cells + 1 ≤ R.cells) (hsl : slots + cap ≤ R.slots)
    (hr : ∀ T' h' b, b = h.size → Stand p l e R s m args below meth c T' locs (cells + 1) (slots + cap) → T'.heap = h' → Ext h h' → OAr Z h' b ty n f → Exa Z h' b ad → OGo p e below Fn n0 Q (T'.setTop (mkF m pc' Ls (.ref b :: St)))) : OGo p e below Fn n0 Q (T.setTop (mkF m pc Ls (.ref a :: St))) := by
  subst hp
  have la := A.len
  obtain ⟨ka, A'⟩ := A.arv .null
  obtain ⟨T', h', X', e', E', C', D', st'⟩ := cloneH X K.hx K.hZ K.hown w1 w2 w3 w4 w5 w6 eT A'.arh E (g := mkF m pc Ls (.ref a :: St)) rfl (by rw [K.hml]; exact hsz) rfl (hb K.hby hd) hf (W := W) (cap := cap) (by show 2 * 0 + _ ≤ _; omega) hl (by rw [o_nat la]; exact hcap) hc hsl
  exact OGo.st st' (hr T' h' _ rfl X' e' E' (OAr.of_arh la C' (fun q hq => o_getD hq)) D')
theorem o_checkcast (X : Stand p l e R s m args below meth c T locs cells slots) (K : OCx p s m meth c Z own nm bytes maxL ret) {index : Nat} {C : String} {a : Addr} (hd : decode bytes pc = .ok (.checkcast index, 3)) (pc' : Nat) (hp : pc + 3 = pc') (w : (Jvm.Cond.classLink own index C).before a0 Z = true) (eT : T.heap = h) (F : Ins Z h a C true)
    (hr : ∀ T', Stand p l e R s m args below meth c T' locs cells slots → T'.heap = h → OGo p e below Fn n0 Q (T'.setTop (mkF m pc' Ls (.ref a :: St)))) : OGo p e below Fn n0 Q (T.setTop (mkF m pc Ls (.ref a :: St))) := by
  subst hp
  obtain ⟨T', X', e', st'⟩ := castY X K.hx K.hZ K.hown w eT F (g := mkF m pc Ls (.ref a :: St)) rfl rfl (hb K.hby hd)
  exact OGo.st st' (hr T' X' e')
theorem o_invokeprivate (X : Stand p l e R s m args below meth c T locs cells slots) (K : OCx p s m meth c Z own nm bytes maxL ret) {index : Nat} {y : MethodName} {bytes' : ByteArray} {maxL' : Nat} {ret' : Option FieldType} {rm : Room} {Q' : Option Value → Heap → Prop} {a : Addr} {C : String} (hd : decode bytes pc = .ok (.invokevirtual index, 3)) (pc' : Nat) (hp : pc + 3 = pc') (w1 : (Jvm.Cond.methodLink own index y).before a0 Z = true) (w2 : (Jvm.Cond.instanceMethod y).before a0 Z = true) (wp : (Jvm.Cond.privateMethod y).before a0 Z = true) (w3 : (Jvm.Cond.initialized y.cls).before a0 Z = true) (w4 : (Jvm.Cond.code y bytes' maxL' ret').before a0 Z = true) (hy : y.cls ≠ "java/lang/invoke/MethodHandle" ∧ y.cls ≠ "java/lang/invoke/VarHandle") (wi : ∃ k, (Jvm.Cond.instantiable y.cls k).before a0 Z = true)
    (E : Exa Z h a C) (argsL rest : List Value) (hst : St = argsL.reverse ++ .ref a :: rest) (con : OCon l Z n0 y bytes' maxL' ret' rm (.ref a :: argsL).toArray h Q') (eT : T.heap = h) (hsz : Ls.size = maxL) (hlen : ∀ sig, parseMethodDescriptor y.desc = some sig → argsL.length = sig.parameters.length) (hf : rm.frames + 1 ≤ R.frames) (W : Nat) (hW : (rest.map fun v => v.category).sum ≤ W) (hlo : W + (maxL' + 11) + rm.locals ≤ R.locals) (hc : cells + rm.cells ≤ R.cells) (hs : slots + rm.slots ≤ R.slots) (N : Fr n0 locs)
    (hr : ∀ v T' h' locs', Stand p l e R s m args below meth c T' locs' (cells + rm.cells) (slots + rm.slots) → T'.heap = h' → Q' v h' → Fr n0 locs' → OGo p e below Fn n0 Q (T'.setTop (mkF m pc' Ls (v.toList ++ rest)))) : OGo p e below Fn n0 Q (T.setTop (mkF m pc Ls St)) := by
  subst hp hst
  obtain ⟨cell, hcell, hobj⟩ := E.cell
  obtain ⟨kk, wi⟩ := wi
  have hpriv : s.PrivateAt y := Cond.privateMethod_at (mvP K.hZ wp (args := #[]))
  have wi' : (Jvm.Cond.instantiable y.cls kk).before args s = true := mvT K.hZ wi
  obtain ⟨cI, kI, i1, i2, i3, i4⟩ := Cond.instantiable_spec wi'
  have hsel : (Jvm.Cond.selects y.cls y y).before args s = true := selects_self_of_private i1 i2 (Bool.or_eq_false_iff.mp i4.1).1 hpriv (mvT K.hZ w2) hy
  obtain ⟨v, vm₁, ⟨T', L', k', n'⟩, -, X', ⟨Lc, ⟨hQ, hF⟩, l1, y1, z1⟩, st⟩ := X.privateBack K.hx K.hown (mvT K.hZ w1) (mvT K.hZ w2) hsel hpriv (mvT K.hZ w4) hy (backOf (W := W) (Q := fun v h L => Q' v h ∧ Fr n0 L) (con []) K.hZ w4 w3 hf hlo) (g := mkF m pc Ls (argsL.reverse ++ .ref a :: rest)) rfl (by rw [K.hml]; exact hsz) (Steps.refl _) (a := a) (by rw [eT]; exact hcell) hobj (argsL := argsL) (rest := rest) hlen rfl (by show 2 * 0 + _ ≤ _; omega) (hb K.hby hd) (fun _ _ => ⟨rfl, eT, hc, hs⟩)
  dsimp only [Pt.U, Pt.locs, Pt.cells, Pt.slots] at X' l1 y1 z1 st hQ
  subst l1 y1 z1
  exact OGo.st (fun t k => st.trans k) (hr v T' _ _ X' rfl hQ (Fr.app N hF))
theorem o_fieldReady {vm : Vm} (hZ : Z.Warmed39 vm) {cur c : ClassId} {index : Nat} {f : Field} (r : Z.vm.fieldReady cur index c f) : vm.fieldReady cur index c f := by
  obtain ⟨k, i, kc, h1, h2, h3, h4⟩ := r
  obtain ⟨-, -, -, hk⟩ := hZ
  obtain ⟨k', a1, -, -, a3, -⟩ := hk _ _ h1
  obtain ⟨kc', b1, b2, -, -, -⟩ := hk _ _ h3
  refine ⟨k', i, kc', a1, ?_, b1, by rw [b2]; exact h4⟩
  rcases a3 index with q | ⟨q, -⟩
  · rw [q]; exact h2
  · rw [h2] at q; cases q
theorem o_getfieldR (X : Stand p l e R s m args below meth c T locs cells slots) (K : OCx p s m meth c Z own nm bytes maxL ret) {index : Nat} {O n d : String} {a : Addr} {v : Value} (hd : decode bytes pc = .ok (.getfield index, 3)) (pc' : Nat) (hp : pc + 3 = pc') (w : (Jvm.Cond.fieldRef own index O n d).before a0 Z = true) (eT : T.heap = h) (F : Fld Z h a O n d v) (hr : OGo p e below Fn n0 Q (T.setTop (mkF m pc' Ls (v :: St)))) : OGo p e below Fn n0 Q (T.setTop (mkF m pc Ls (.ref a :: St))) := by
  subst hp
  obtain ⟨cell, cf, k, i, f, h1, h2, h3, h4, -, -, h7⟩ := F
  have hZT : Z.Warmed39 T.vm := wtrans K.hZ X.warmed
  have hownZ : Z.vm.findClass own = some m.cls := by
    have q := K.hown
    have q2 := K.hZ.alike.findClass (name := own)
    rw [← q2]
    exact q
  obtain ⟨c', k', i', f', q1, q2⟩ := Cond.fieldRef_spec hownZ w
  cases q1.symm.trans h2
  have q2 := o_fieldReady hZT q2
  exact OGo.st (fun t k => (X.getfieldR K.hx (g := mkF m pc Ls (.ref a :: St)) rfl q2 h3 rfl (by rw [eT]; exact h1) h4 h7 (hb K.hby hd) (Steps.refl _)).trans k) hr
theorem o_invokespecialN (X : Stand p l e R s m args below meth c T locs cells slots) (K : OCx p s m meth c Z own nm bytes maxL ret) {index : Nat} {y : MethodName} {bytes' : ByteArray} {maxL' : Nat} {rm : Room} {Q' : Option Value → Heap → Prop} {a : Addr} {host : String} (hd : decode bytes pc = .ok (.invokespecial index, 3)) (pc' : Nat) (hp : pc + 3 = pc') (hy1 : y.name = "<init>") (w1 : (Jvm.Cond.methodLinkNest own index y host).before a0 Z = true) (w2 : (Jvm.Cond.instanceMethod y).before a0 Z = true) (w3 : (Jvm.Cond.initialized y.cls).before a0 Z = true) (w4 : (Jvm.Cond.code y bytes' maxL' none).before a0 Z = true) (hy : y.cls ≠ "java/lang/invoke/MethodHandle" ∧ y.cls ≠ "java/lang/invoke/VarHandle")
    (argsL rest : List Value) (hst : St = argsL.reverse ++ .ref a :: rest) (con : OCon l Z n0 y bytes' maxL' none rm (.ref a :: argsL).toArray h Q') (eT : T.heap = h) (hsz : Ls.size = maxL) (hlen : ∀ sig, parseMethodDescriptor y.desc = some sig → argsL.length = sig.parameters.length) (hf : rm.frames + 1 ≤ R.frames) (W : Nat) (hW : (rest.map fun v => v.category).sum ≤ W) (hlo : W + (maxL' + 11) + rm.locals ≤ R.locals) (hc : cells + rm.cells ≤ R.cells) (hs : slots + rm.slots ≤ R.slots) (N : Fr n0 locs)
    (hr : ∀ v T' h' locs', Stand p l e R s m args below meth c T' locs' (cells + rm.cells) (slots + rm.slots) → T'.heap = h' → Q' v h' → Fr n0 locs' → OGo p e below Fn n0 Q (T'.setTop (mkF m pc' Ls (v.toList ++ rest)))) : OGo p e below Fn n0 Q (T.setTop (mkF m pc Ls St)) := by
  subst hp hst
  have wn : (Jvm.Cond.methodLinkNest own index y host).before args s = true := Cond.methodLinkNest_wide K.hZ w1
  obtain ⟨v, vm₁, ⟨T', L', k', n'⟩, -, X', ⟨Lc, ⟨hQ, hF⟩, l1, y1, z1⟩, st⟩ := X.specialBackNest K.hx hy1 K.hown wn (mvT K.hZ w2) (mvT K.hZ w4) hy (backOf (W := W) (Q := fun v h L => Q' v h ∧ Fr n0 L) (con []) K.hZ w4 w3 hf hlo) (g := mkF m pc Ls (argsL.reverse ++ .ref a :: rest)) rfl (by rw [K.hml]; exact hsz) (Steps.refl _) (argsL := argsL) (rest := rest) hlen rfl (by show 2 * 0 + _ ≤ _; omega) (hb K.hby hd) (fun _ _ => ⟨rfl, eT, hc, hs⟩)
  dsimp only [Pt.U, Pt.locs, Pt.cells, Pt.slots] at X' l1 y1 z1 st hQ
  subst l1 y1 z1
  exact OGo.st (fun t k => st.trans k) (hr v T' _ _ X' rfl hQ (Fr.app N hF))
theorem o_plain0 : ∀ x ∈ ([] : List Addr), ∀ cell : Cell, h[x]? = some cell → cell.vm.isStatics = false := by
  intro x hx
  cases hx
theorem o_plainS {a : Addr} {C : String} {ws : List Addr} (E : Exa Z h a C) (r : ∀ x ∈ ws, ∀ cell : Cell, h[x]? = some cell → cell.vm.isStatics = false) : ∀ x ∈ a :: ws, ∀ cell : Cell, h[x]? = some cell → cell.vm.isStatics = false := by
  intro x hx cell hc
  rcases List.mem_cons.mp hx with rfl | hx
  · obtain ⟨c1, -, d1, -, -, d4, -⟩ := E
    cases hc.symm.trans d1
    exact d4
  · exact r x hx cell hc
/-- an array of ten Objects -/
def OAo (Z : State) (h : Heap) (a : Addr) : Prop := (∃ f, OAr Z h a (.object "java/lang/Object") 10 f) ∧ ∃ cl : Cell, h[a]? = some cl ∧ Ovr Z cl.cls "java/lang/Object"
theorem OAo.lt {a : Addr} (A : OAo Z h a) : a < h.size := by obtain ⟨⟨f, A⟩, -⟩ := A; exact A.lt
theorem OAo.ext {a : Addr} (A : OAo Z h a) (E : Ext h h') : OAo Z h' a := by obtain ⟨⟨f, A⟩, cl, q, O⟩ := A; exact ⟨⟨f, A.ext E⟩, cl, E.2 _ _ q, O⟩
theorem OAo.keep {a : Addr} {ws : List Addr} (A : OAo Z h a) (E : Keep h h' ws) (q : a ∉ ws) : OAo Z h' a := by obtain ⟨⟨f, A⟩, cl, q', O⟩ := A; exact ⟨⟨f, A.keep E q⟩, cl, E.2.1 _ _ q' q, O⟩
theorem OAo.other {a b : Addr} {sl : Nat} {v : Value} (A : OAo Z h b) (W : Wr h h' a sl v) (q : b ≠ a) : OAo Z h' b := by
  obtain ⟨⟨f, A⟩, cl, q', O⟩ := A
  obtain ⟨d1, a1, a2, -⟩ := wr_at W q'
  exact ⟨⟨f, A.other W q⟩, d1, a1, by rw [a2]; exact O⟩
theorem OAo.same {a : Addr} {i : Nat} {v : Value} (A : OAo Z h a) (W : Wr h h' a i v) (hv : fits (.object "java/lang/Object") v = true) : OAo Z h' a := by
  obtain ⟨⟨f, A⟩, cl, q', O⟩ := A
  obtain ⟨d1, a1, a2, -⟩ := wr_at W q'
  exact ⟨⟨_, A.same W hv⟩, d1, a1, by rw [a2]; exact O⟩
theorem o_plainA {a : Addr} {ws : List Addr} (A : OAo Z h a) (r : ∀ x ∈ ws, ∀ cell : Cell, h[x]? = some cell → cell.vm.isStatics = false) : ∀ x ∈ a :: ws, ∀ cell : Cell, h[x]? = some cell → cell.vm.isStatics = false := by
  intro x hx cell hc
  rcases List.mem_cons.mp hx with rfl | hx
  · obtain ⟨⟨f, c, B, -⟩, -⟩ := A
    cases hc.symm.trans B.1
    exact Arr.plain B
  · exact r x hx cell hc
theorem o_plainR {a : Addr} {ty : FieldType} {n : Nat} {f : Nat → Value} {ws : List Addr} (A : OAr Z h a ty n f) (r : ∀ x ∈ ws, ∀ cell : Cell, h[x]? = some cell → cell.vm.isStatics = false) : ∀ x ∈ a :: ws, ∀ cell : Cell, h[x]? = some cell → cell.vm.isStatics = false := by
  intro x hx cell hc
  rcases List.mem_cons.mp hx with rfl | hx
  · obtain ⟨c, B, -⟩ := A
    cases hc.symm.trans B.1
    exact Arr.plain B
  · exact r x hx cell hc
theorem o_arraylengthO (X : Stand p l e R s m args below meth c T locs cells slots) (K : OCx p s m meth c Z own nm bytes maxL ret) {a : Addr} (hd : decode bytes pc = .ok (.arraylength, 1)) (pc' : Nat) (hp : pc + 1 = pc') (eT : T.heap = h) (A : OAo Z h a) (hr : OGo p e below Fn n0 Q (T.setTop (mkF m pc' Ls (.int (10 : Int32) :: St)))) : OGo p e below Fn n0 Q (T.setTop (mkF m pc Ls (.ref a :: St))) := by
  obtain ⟨⟨f, A⟩, -⟩ := A
  exact o_arraylength X K hd pc' hp eT A (v := (10 : Int32)) rfl hr
theorem o_aastore (X : Stand p l e R s m args below meth c T locs cells slots) (K : OCx p s m meth c Z own nm bytes maxL ret) {a y : Addr} {i : Nat} {j : Int32} (hd : decode bytes pc = .ok (.aastore, 1)) (pc' : Nat) (hp : pc + 1 = pc') (eT : T.heap = h) (A : OAo Z h a) (I : Ins Z h y "java/lang/Object" true) (hj : j.toInt = (i : Int)) (hi : i < 10) (N : Fr n0 locs) (ge : n0 ≤ a)
    (hr : ∀ T' h' locs', Stand p l e R s m args below meth c T' locs' cells slots → T'.heap = h' → Wr h h' a i (.ref y) → OAo Z h' a → Fr n0 locs' → OGo p e below Fn n0 Q (T'.setTop (mkF m pc' Ls St))) : OGo p e below Fn n0 Q (T.setTop (mkF m pc Ls (.ref y :: .int j :: .ref a :: St))) := by
  subst hp
  obtain ⟨⟨f, B⟩, cl0, g1, O⟩ := id A
  obtain ⟨cl, B, r1, r2, r3, -⟩ := B
  obtain ⟨q1, q2⟩ := o_idx (c := cl) hj hi r1
  cases g1.symm.trans B.1
  obtain ⟨T', h', X', e', W', st'⟩ := stR X K.hx K.hZ eT B (v := .ref y) q1 rfl (Sto.of B O I) (g := mkF m pc Ls (.ref y :: .int j :: .ref a :: St)) rfl rfl (hb K.hby hd)
  have N' := Fr.snoc X' N ge
  rw [q2] at W'
  exact OGo.st st' (hr T' h' _ X' e' W' (A.same W' rfl) N')
theorem o_invokeinterface (X : Stand p l e R s m args below meth c T locs cells slots) (K : OCx p s m meth c Z own nm bytes maxL ret) {index : Nat} {y : MethodName} {bytes' : ByteArray} {maxL' : Nat} {ret' : Option FieldType} {rm : Room} {Q' : Option Value → Heap → Prop} {C : String} {a : Addr} {xi : MethodName} {count : Nat} (hd : decode bytes pc = .ok (.invokeinterface index count, 5)) (pc' : Nat) (hp : pc + 5 = pc') (w1 : (Jvm.Cond.methodLink own index xi).before a0 Z = true) (w2 : (Jvm.Cond.declares xi).before a0 Z = true) (wf : (Jvm.Cond.interfaceMethod xi.cls xi.cls xi.name xi.desc).before a0 Z = true) (wsel : (Jvm.Cond.selects C xi y).before a0 Z = true) (w5 : (Jvm.Cond.instanceMethod y).before a0 Z = true) (wp : (Jvm.Cond.publicMethod y).before a0 Z = true) (wu : (Jvm.Cond.unhidden C xi.name xi.desc).before a0 Z = true) (wca : (Jvm.Cond.castable C xi.cls).before a0 Z = true) (w3 : (Jvm.Cond.initialized y.cls).before a0 Z = true) (w4 : (Jvm.Cond.code y bytes' maxL' ret').before a0 Z = true) (hy : xi.cls ≠ "java/lang/invoke/MethodHandle" ∧ xi.cls ≠ "java/lang/invoke/VarHandle")
    (E : Exa Z h a C) (argsL rest : List Value) (hst : St = argsL.reverse ++ .ref a :: rest) (con : OCon l Z n0 y bytes' maxL' ret' rm (.ref a :: argsL).toArray h Q') (eT : T.heap = h) (hsz : Ls.size = maxL) (hlen : ∀ sig, parseMethodDescriptor xi.desc = some sig → argsL.length = sig.parameters.length) (hf : rm.frames + 1 ≤ R.frames) (W : Nat) (hW : (rest.map fun v => v.category).sum ≤ W) (hlo : W + (maxL' + 11) + rm.locals ≤ R.locals) (hc : cells + rm.cells ≤ R.cells) (hs : slots + rm.slots ≤ R.slots) (N : Fr n0 locs)
    (hr : ∀ v T' h' locs', Stand p l e R s m args below meth c T' locs' (cells + rm.cells) (slots + rm.slots) → T'.heap = h' → Q' v h' → Fr n0 locs' → OGo p e below Fn n0 Q (T'.setTop (mkF m pc' Ls (v.toList ++ rest)))) : OGo p e below Fn n0 Q (T.setTop (mkF m pc Ls St)) := by
  subst hp hst
  obtain ⟨cq, kq, qa, qb, qc⟩ := isOf K.hZ eT E
  obtain ⟨v, vm₁, ⟨T', L', k', n'⟩, -, X', ⟨Lc, ⟨hQ, hF⟩, l1, y1, z1⟩, st⟩ := X.interfaceBack K.hx K.hown (mvT K.hZ w1) (mvT K.hZ w2) (mvT K.hZ wf (by simp [Cond.onTables, Cond.keepsFace, Cond.keeps, Cond.steady, Cond.faceAtom, hy.1, hy.2])) (mvT K.hZ wsel) (mvT K.hZ w5) (mvT K.hZ wp) (mvT K.hZ wu) (mvT K.hZ wca) hy (backOf (W := W) (Q := fun v h L => Q' v h ∧ Fr n0 L) (con []) K.hZ w4 w3 hf hlo) qa qb qc (g := mkF m pc Ls (argsL.reverse ++ .ref a :: rest)) rfl (by rw [K.hml]; exact hsz) (Steps.refl _) (argsL := argsL) (rest := rest) hlen rfl (by show 2 * 0 + _ ≤ _; omega) (hb K.hby hd) (fun _ _ => ⟨rfl, eT, hc, hs⟩)
  dsimp only [Pt.U, Pt.locs, Pt.cells, Pt.slots] at X' l1 y1 z1 st hQ
  subst l1 y1 z1
  exact OGo.st (fun t k => st.trans k) (hr v T' _ _ X' rfl hQ (Fr.app N hF))
/-- a body's contract, where it may intern String constants -/
def OConW (l : Launch) (Z : State) (n0 : Nat) (y : MethodName) (bytes : ByteArray) (maxL : Nat) (ret : Option FieldType) (rm : Room) (as : Array Value) (h0 : Heap) (Q : Option Value → Heap → Prop) : Prop :=
  ∀ ws, MetFree l y (head1 (Jvm.Cond.code y bytes maxL ret :: ws) rm) (fun a U => a = as ∧ Z.Warmed39 U.vm ∧ U.heap = h0) (fun _ _ _ _ _ => True) (fun _ U o U' => ∃ v L, o = .returned v ∧ (Q v U'.heap ∧ Fr n0 L) ∧ Jvm.ReturnedEndW U o U' L rm.cells rm.slots)
theorem OConW.of {y : MethodName} {rm : Room} {as : Array Value} {h0 : Heap} {Ls : Array Slot} (hpl : plainFor y = true) (ho : y.cls = own) (hn : y.name = nm) (hen : ∀ m, entryFrame m as maxL = mkF m 0 Ls [])
    (H : ∀ (p : Program) (e : Env) (s : State) (m : MethodId) (below : List Frame) (meth : Method) (c : Code) (T : State) (vm0 : Vm), Stand p l e rm (s.setVm vm0) m as below meth c T [] 0 0 → OCx p (s.setVm vm0) m meth c Z own nm bytes maxL ret → T.heap = h0 → s.Since vm0 h0.size → OGo p e below (OFinW s rm.cells rm.slots) n0 Q (T.setTop (mkF m 0 Ls []))) : OConW l Z n0 y bytes maxL ret rm as h0 Q := by
  intro ws
  refine MetFree.of_bodySF hpl hisR ?_
  intro p e s m args below meth c s₁ Bd hml0 hP hK
  obtain ⟨rfl, hZ, hh⟩ := hP
  subst ho hn
  obtain ⟨U, o, h1, r⟩ := H p e s m below meth c s₁ s.vm (Stand.of_body Bd) ⟨Bd.exec, hZ, Bd.bytes, hml0, findClass_of_methodNamed Bd.named, (name_of_methodNamed Bd.named Bd.method).1, Bd.returns, Bd.notSynchronized⟩ (by rw [← hh, Bd.state]; rfl) ((State.WarmedH.refl s).since _)
  exact ⟨U, o, castTop (hen m) h1, r⟩
theorem o_leaveW {vm0 : Vm} {k0 : Nat} (X : Stand p l e R (s.setVm vm0) m args below meth c T locs cells slots) (hS : s.Since vm0 k0) (eT : T.heap = h) (hk : k0 ≤ h.size) (hlk : meth.locks = false) {v : Option Value} (hv : meth.sig.returnType = none → v = none) {S : State} (hc : cells ≤ kc) (hs : slots ≤ ks) (N : Fr n0 locs) (hQ : Q v T.heap)
    (k : ∀ fs, (∀ (f : JFrame) (acts : List Action), f.method = m → f.locked = none → f.entered = [] → (doReturn e (T.setTop f) acts v).1 = T.setFrames fs) → Steps p.tables e below S (T.setFrames fs)) : OGo p e below (OFinW s kc ks) n0 Q S := by
  obtain ⟨fs, hr, hrun, hended, hW, hsame⟩ := X.leave (v := v) hv
  obtain ⟨a, b, c'⟩ := hS.ended (U := T.setFrames fs) hW (by show k0 ≤ T.heap.size; rw [eT]; exact hk) hsame
  exact ⟨_, _, k fs hr, hrun, hended, v, locs, rfl, ⟨hQ, N⟩, ⟨v, rfl⟩, a, b, c'.mono hc hs⟩
theorem o_ireturnW {vm0 : Vm} {k0 : Nat} (X : Stand p l e R (s.setVm vm0) m args below meth c T locs cells slots) (hS : s.Since vm0 k0) (eT : T.heap = h) (hk : k0 ≤ h.size) (K : OCx p (s.setVm vm0) m meth c Z own nm bytes maxL (some .int)) {z : Int32} (hd : decode bytes pc = .ok (.ireturn, 1)) (hc : cells ≤ kc) (hs : slots ≤ ks) (N : Fr n0 locs) (hQ : Q (some (.int z)) T.heap) : OGo p e below (OFinW s kc ks) n0 Q (T.setTop (mkF m pc Ls (.int z :: St))) :=
  o_leaveW X hS eT hk K.hlk (fun h => by rw [K.hret] at h; cases h) hc hs N hQ (fun fs hr => retI X K.hx K.hret (hb K.hby hd) hr)
theorem o_ireturnNW {t : FieldType} {vm0 : Vm} {k0 : Nat} (X : Stand p l e R (s.setVm vm0) m args below meth c T locs cells slots) (hS : s.Since vm0 k0) (eT : T.heap = h) (hk : k0 ≤ h.size) (K : OCx p (s.setVm vm0) m meth c Z own nm bytes maxL (some t)) (ht : t = .boolean ∨ t = .byte ∨ t = .char ∨ t = .short) {z : Int32} (hd : decode bytes pc = .ok (.ireturn, 1)) (hc : cells ≤ kc) (hs : slots ≤ ks) (N : Fr n0 locs) (hQ : Q (some (.int (nar t z))) T.heap) : OGo p e below (OFinW s kc ks) n0 Q (T.setTop (mkF m pc Ls (.int z :: St))) :=
  o_leaveW X hS eT hk K.hlk (fun h => by rw [K.hret] at h; cases h) hc hs N hQ (fun fs hr => retN X K.hx K.hret ht (hb K.hby hd) hr)
theorem o_areturnW {t : FieldType} {vm0 : Vm} {k0 : Nat} (X : Stand p l e R (s.setVm vm0) m args below meth c T locs cells slots) (hS : s.Since vm0 k0) (eT : T.heap = h) (hk : k0 ≤ h.size) (K : OCx p (s.setVm vm0) m meth c Z own nm bytes maxL (some t)) (ht : t.isReference = true) {z : Value} (hn : narrow t z = z) (hz : z.isRef = true) (hd : decode bytes pc = .ok (.areturn, 1)) (hc : cells ≤ kc) (hs : slots ≤ ks) (N : Fr n0 locs) (hQ : Q (some z) T.heap) : OGo p e below (OFinW s kc ks) n0 Q (T.setTop (mkF m pc Ls (z :: St))) :=
  o_leaveW X hS eT hk K.hlk (fun h => by rw [K.hret] at h; cases h) hc hs N hQ (fun fs hr => retOut X K.hx K.hret hn (Or.inr (Or.inr (Or.inr (Or.inr ⟨rfl, ht, hz⟩)))) (hb K.hby hd) hr)
theorem o_returnW {vm0 : Vm} {k0 : Nat} (X : Stand p l e R (s.setVm vm0) m args below meth c T locs cells slots) (hS : s.Since vm0 k0) (eT : T.heap = h) (hk : k0 ≤ h.size) (K : OCx p (s.setVm vm0) m meth c Z own nm bytes maxL (none)) (hd : decode bytes pc = .ok (.return_, 1)) (hc : cells ≤ kc) (hs : slots ≤ ks) (N : Fr n0 locs) (hQ : Q none T.heap) : OGo p e below (OFinW s kc ks) n0 Q (T.setTop (mkF m pc Ls [])) :=
  o_leaveW X hS eT hk K.hlk (fun _ => rfl) hc hs N hQ (fun fs hr => X.returnOut K.hx K.hret (hb K.hby hd) hr)
theorem o_ldcS {vm0 : Vm} {k0 : Nat} (X : Stand p l e R (s.setVm vm0) m args below meth c T locs cells slots) (K : OCx p (s.setVm vm0) m meth c Z own nm bytes maxL ret) {text : String} {index : Nat} (hS : s.Since vm0 k0) (hd : decode bytes pc = .ok (.ldc index, 2)) (pc' : Nat) (hp : pc + 2 = pc') (w : (Jvm.Cond.stringLink own index text).before a0 Z = true) (wS : ∀ a ∈ Bundle.stringAtoms, a.before a0 Z = true) (eT : T.heap = h) (hk : k0 ≤ h.size) (n : Nat) (hn : 4 * text.toList.length ≤ n) (hbig : n ≤ 536870912) (hc : cells + 2 ≤ R.cells) (hl : slots + (n + 4) ≤ R.slots)
    (hr : ∀ T' h' a k1, Stand p l e R (s.setVm T'.vm) m args below meth c T' locs (cells + 2) (slots + (n + 4)) → OCx p (s.setVm T'.vm) m meth c Z own nm bytes maxL ret → T'.heap = h' → Ext h h' → s.Since T'.vm k1 → k1 ≤ h'.size → OGo p e below Fn n0 Q (T'.setTop (mkF m pc' Ls (.ref a :: St)))) : OGo p e below Fn n0 Q (T.setTop (mkF m pc Ls St)) := by
  subst hp
  obtain ⟨a, T', h', k1, X', e', E', S', q', Z', o', st'⟩ := ldcS X K.hx K.hZ (own := own) (text := text) K.hown w wS eT hS hk (g := mkF m pc Ls St) rfl (hb K.hby hd) hn hbig hc hl
  exact OGo.st st' (hr T' h' a k1 X' ⟨K.hx, Z', K.hby, K.hml, o', K.hnm, K.hret, K.hlk⟩ e' E' S' q')
theorem o_backW {R : Room} {s : State} {y : MethodName} {bytes : ByteArray} {maxL : Nat} {ret : Option FieldType} {rm : Room} {len W : Nat} {as' : Array Value} {Q' : Option Value → Heap → Prop}
    (hM : OConW l Z n0 y bytes maxL ret rm as' h Q') (hZ : Z.Warmed39 s.vm) (wc : (Jvm.Cond.code y bytes maxL ret).before a0 Z = true) (wz : (Jvm.Cond.initialized y.cls).before a0 Z = true) (hf : rm.frames + 1 ≤ R.frames) (hl : W + (maxL + 11) + rm.locals ≤ R.locals) :
    BackS l R p e below s args y len W (fun A a => a = as' ∧ A.U.heap = h ∧ A.cells + rm.cells ≤ R.cells ∧ A.slots + rm.slots ≤ R.slots)
      (fun A _ v B => ∃ L, (Q' v B.U.heap ∧ Fr n0 L) ∧ B.locs = A.locs ++ L ∧ B.cells = A.cells + rm.cells ∧ B.slots = A.slots + rm.slots) :=
  BackS.of_freeW (bytes := bytes) (maxL := maxL) (ret := ret) (E := fun _ _ o t L k n => k = rm.cells ∧ n = rm.slots ∧ ∃ v, o = .returned v ∧ Q' v t.heap ∧ Fr n0 L) (hM []) hf hl
    (fun m meth c A a Y hp => have hU : Z.Warmed39 A.U.vm := wtrans hZ Y.warmed
      ⟨by show (Jvm.Cond.and _ .tt).before a A.U = true; rw [Cond.before_and, mv hU wc]; rfl, mv hU wc, mv hU wz, hp.2.2.1, hp.2.2.2⟩)
    (fun m meth c A a g mk Y hp => ⟨hp.1, wtrans hZ Y.warmed, hp.2.1⟩) (fun _ _ _ _ _ _ _ _ _ => trivial)
    (fun _ _ _ _ ⟨v, L, h1, h2, h3⟩ => ⟨L, _, _, h3, rfl, rfl, v, h1, h2⟩)
    (fun m meth c A a g mk v t L k n Y hp _ _ ⟨e1, e2, v', e3, e4⟩ => by cases e3; subst e1 e2; exact ⟨L, e4, rfl, rfl, rfl⟩)
theorem o_rebase {vm0 : Vm} {k0 k1 : Nat} {vm1 : Vm} (K : OCx p (s.setVm vm0) m meth c Z own nm bytes maxL ret) (hS : (s.setVm vm0).Since vm1 k1) : OCx p (s.setVm vm1) m meth c Z own nm bytes maxL ret :=
  ⟨K.hx, State.Warmed39.trans K.hZ hS.1, K.hby, K.hml, by have q := K.hown; have q2 : (s.setVm vm0).Warmed39 vm1 := hS.1; rw [← q2.alike.findClass] at q; exact q, K.hnm, K.hret, K.hlk⟩
theorem o_invokestaticW {vm0 : Vm} {k0 : Nat} (X : Stand p l e R (s.setVm vm0) m args below meth c T locs cells slots) (K : OCx p (s.setVm vm0) m meth c Z own nm bytes maxL ret) {index : Nat} {y : MethodName} {bytes' : ByteArray} {maxL' : Nat} {ret' : Option FieldType} {rm : Room} {Q' : Option Value → Heap → Prop} (hS : s.Since vm0 k0) (hk : k0 ≤ h.size) (hd : decode bytes pc = .ok (.invokestatic index, 3)) (pc' : Nat) (hp : pc + 3 = pc') (w1 : (Jvm.Cond.methodLink own index y).before a0 Z = true) (w2 : (Jvm.Cond.static y).before a0 Z = true) (w3 : (Jvm.Cond.initialized y.cls).before a0 Z = true) (w4 : (Jvm.Cond.code y bytes' maxL' ret').before a0 Z = true) (hy : y.cls ≠ "java/lang/invoke/MethodHandle" ∧ y.cls ≠ "java/lang/invoke/VarHandle")
    (argsL rest : List Value) (hst : St = argsL.reverse ++ rest) (con : OConW l Z n0 y bytes' maxL' ret' rm argsL.toArray h Q') (eT : T.heap = h) (hsz : Ls.size = maxL) (hlen : ∀ sig, parseMethodDescriptor y.desc = some sig → argsL.length = sig.parameters.length) (hf : rm.frames + 1 ≤ R.frames) (W : Nat) (hW : (rest.map fun v => v.category).sum ≤ W) (hlo : W + (maxL' + 11) + rm.locals ≤ R.locals) (hc : cells + rm.cells ≤ R.cells) (hs : slots + rm.slots ≤ R.slots) (N : Fr n0 locs)
    (hr : ∀ v T' h' locs' k1, Stand p l e R (s.setVm T'.vm) m args below meth c T' locs' (cells + rm.cells) (slots + rm.slots) → OCx p (s.setVm T'.vm) m meth c Z own nm bytes maxL ret → T'.heap = h' → s.Since T'.vm k1 → k1 ≤ h'.size → Q' v h' → Fr n0 locs' → OGo p e below Fn n0 Q (T'.setTop (mkF m pc' Ls (v.toList ++ rest)))) : OGo p e below Fn n0 Q (T.setTop (mkF m pc Ls St)) := by
  subst hp hst
  have w2' : (Jvm.Cond.static y).before args (s.setVm vm0) = true := mvT K.hZ w2
  have w4' : (Jvm.Cond.code y bytes' maxL' ret').before args (s.setVm vm0) = true := mvT K.hZ w4
  obtain ⟨mk, hnamed⟩ := Cond.named_of_code (x := y) w4'
  obtain ⟨methM, cM, hmethM, -, -, -, -, -, -, hsigM⟩ := Cond.code_spec hnamed w4'
  obtain ⟨v, vm₁, ⟨T', L', k', n'⟩, -, X', S', g', ⟨Lc, ⟨hQ, hF⟩, l1, y1, z1⟩, st⟩ := X.staticBackS K.hx K.hown (mvT K.hZ w1) w2' (mvT K.hZ w3) hnamed hmethM hsigM hy (o_backW (W := W) con K.hZ w4 w3 hf hlo) (g := mkF m pc Ls (argsL.reverse ++ rest)) rfl (by rw [K.hml]; exact hsz) (Steps.refl _) (argsL := argsL) (rest := rest) hlen rfl (by show 2 * 0 + _ ≤ _; omega) (hb K.hby hd) (fun _ _ => ⟨rfl, eT, hc, hs⟩)
  dsimp only [Pt.U, Pt.locs, Pt.cells, Pt.slots] at X' l1 y1 z1 st hQ S' g'
  subst l1 y1 z1
  rw [eT] at g'
  exact OGo.st (fun t k => st.trans k) (hr v T' _ _ _ X' (o_rebase K (k0 := k0) S') rfl (State.Since.trans hS S' (Nat.le_trans hk g')) (Nat.le_refl _) hQ (Fr.app N hF))
theorem o_invokevirtualW {vm0 : Vm} {k0 : Nat} (X : Stand p l e R (s.setVm vm0) m args below meth c T locs cells slots) (K : OCx p (s.setVm vm0) m meth c Z own nm bytes maxL ret) {index : Nat} {y : MethodName} {bytes' : ByteArray} {maxL' : Nat} {ret' : Option FieldType} {rm : Room} {Q' : Option Value → Heap → Prop} {C : String} {a : Addr} (hS : s.Since vm0 k0) (hk : k0 ≤ h.size) (hd : decode bytes pc = .ok (.invokevirtual index, 3)) (pc' : Nat) (hp : pc + 3 = pc') (w1 : (Jvm.Cond.methodLink own index y).before a0 Z = true) (w2 : (Jvm.Cond.declares y).before a0 Z = true) (wsel : (Jvm.Cond.selects C y y).before a0 Z = true) (w5 : (Jvm.Cond.instanceMethod y).before a0 Z = true) (w3 : (Jvm.Cond.initialized y.cls).before a0 Z = true) (w4 : (Jvm.Cond.code y bytes' maxL' ret').before a0 Z = true) (hy : y.cls ≠ "java/lang/invoke/MethodHandle" ∧ y.cls ≠ "java/lang/invoke/VarHandle")
    (E : Exa Z h a C) (argsL rest : List Value) (hst : St = argsL.reverse ++ .ref a :: rest) (con : OConW l Z n0 y bytes' maxL' ret' rm (.ref a :: argsL).toArray h Q') (eT : T.heap = h) (hsz : Ls.size = maxL) (hlen : ∀ sig, parseMethodDescriptor y.desc = some sig → argsL.length = sig.parameters.length) (hf : rm.frames + 1 ≤ R.frames) (W : Nat) (hW : (rest.map fun v => v.category).sum ≤ W) (hlo : W + (maxL' + 11) + rm.locals ≤ R.locals) (hc : cells + rm.cells ≤ R.cells) (hs : slots + rm.slots ≤ R.slots) (N : Fr n0 locs)
    (hr : ∀ v T' h' locs' k1, Stand p l e R (s.setVm T'.vm) m args below meth c T' locs' (cells + rm.cells) (slots + rm.slots) → OCx p (s.setVm T'.vm) m meth c Z own nm bytes maxL ret → T'.heap = h' → s.Since T'.vm k1 → k1 ≤ h'.size → Q' v h' → Fr n0 locs' → OGo p e below Fn n0 Q (T'.setTop (mkF m pc' Ls (v.toList ++ rest)))) : OGo p e below Fn n0 Q (T.setTop (mkF m pc Ls St)) := by
  subst hp hst
  obtain ⟨cq, kq, qa, qb, qc⟩ := isOf K.hZ eT E
  obtain ⟨v, vm₁, ⟨T', L', k', n'⟩, -, X', S', g', ⟨Lc, ⟨hQ, hF⟩, l1, y1, z1⟩, st⟩ := X.virtualBackS K.hx K.hown (mvT K.hZ w1) (mvT K.hZ w2) (notFace_of_selects (args := #[]) (mvT K.hZ wsel)) (mvT K.hZ wsel) (mvT K.hZ w5) hy (o_backW (W := W) con K.hZ w4 w3 hf hlo) qa qc (g := mkF m pc Ls (argsL.reverse ++ .ref a :: rest)) rfl (by rw [K.hml]; exact hsz) (Steps.refl _) (argsL := argsL) (rest := rest) hlen rfl (by show 2 * 0 + _ ≤ _; omega) (hb K.hby hd) (fun _ _ => ⟨rfl, eT, hc, hs⟩)
  dsimp only [Pt.U, Pt.locs, Pt.cells, Pt.slots] at X' l1 y1 z1 st hQ S' g'
  subst l1 y1 z1
  rw [eT] at g'
  exact OGo.st (fun t k => st.trans k) (hr v T' _ _ _ X' (o_rebase K (k0 := k0) S') rfl (State.Since.trans hS S' (Nat.le_trans hk g')) (Nat.le_refl _) hQ (Fr.app N hF))
abbrev OW (Z : State) (a0 : Array Value) : Prop := ∀ d ∈ tables_1, d.before a0 Z = true
end Own
set_option maxRecDepth 65536
theorem w_0 {Z : State} {a0 : Array Value} (hw : OW Z a0) : (Jvm.Cond.methodLink "com/example/vikt/vikt/graph/NameTablePrefetchPinLaw" (7 : Nat) ({ cls := "java/lang/String", name := "valueOf", desc := "(C)Ljava/lang/String;" } : Jvm.MethodName)).before a0 Z = true := hw _ (List.mem_of_getElem? (i := 0) rfl)
theorem w_1 {Z : State} {a0 : Array Value} (hw : OW Z a0) : (Jvm.Cond.static ({ cls := "java/lang/String", name := "valueOf", desc := "(C)Ljava/lang/String;" } : Jvm.MethodName)).before a0 Z = true := hw _ (List.mem_of_getElem? (i := 1) rfl)
theorem w_2 {Z : State} {a0 : Array Value} (hw : OW Z a0) : (Jvm.Cond.initialized "java/lang/String").before a0 Z = true := hw _ (List.mem_of_getElem? (i := 2) rfl)
theorem w_3 {Z : State} {a0 : Array Value} (hw : OW Z a0) : (Jvm.Cond.code ({ cls := "java/lang/String", name := "valueOf", desc := "(C)Ljava/lang/String;" } : Jvm.MethodName) jdk_42_method_139_code (1 : Nat) (Option.some (Jvm.ClassFile.FieldType.object "java/lang/String"))).before a0 Z = true := hw _ (List.mem_of_getElem? (i := 3) rfl)
theorem w_4 {Z : State} {a0 : Array Value} (hw : OW Z a0) : (Jvm.Cond.fieldLink "java/lang/String" (38 : Nat) "java/lang/String" "COMPACT_STRINGS" "Z").before a0 Z = true := hw _ (List.mem_of_getElem? (i := 4) rfl)
theorem w_5 {Z : State} {a0 : Array Value} (hw : OW Z a0) : (Jvm.Cond.methodLink "java/lang/String" (1015 : Nat) ({ cls := "java/lang/StringLatin1", name := "canEncode", desc := "(C)Z" } : Jvm.MethodName)).before a0 Z = true := hw _ (List.mem_of_getElem? (i := 5) rfl)
theorem w_6 {Z : State} {a0 : Array Value} (hw : OW Z a0) : (Jvm.Cond.static ({ cls := "java/lang/StringLatin1", name := "canEncode", desc := "(C)Z" } : Jvm.MethodName)).before a0 Z = true := hw _ (List.mem_of_getElem? (i := 6) rfl)
theorem w_7 {Z : State} {a0 : Array Value} (hw : OW Z a0) : (Jvm.Cond.initialized "java/lang/StringLatin1").before a0 Z = true := hw _ (List.mem_of_getElem? (i := 7) rfl)
theorem w_8 {Z : State} {a0 : Array Value} (hw : OW Z a0) : (Jvm.Cond.code ({ cls := "java/lang/StringLatin1", name := "canEncode", desc := "(C)Z" } : Jvm.MethodName) jdk_43_method_3_code (1 : Nat) (Option.some Jvm.ClassFile.FieldType.boolean)).before a0 Z = true := hw _ (List.mem_of_getElem? (i := 8) rfl)
theorem w_9 {Z : State} {a0 : Array Value} (hw : OW Z a0) : (Jvm.Cond.classLink "java/lang/String" (10 : Nat) "java/lang/String").before a0 Z = true := hw _ (List.mem_of_getElem? (i := 9) rfl)
theorem w_10 {Z : State} {a0 : Array Value} (hw : OW Z a0) : (Jvm.Cond.instantiable "java/lang/String" (4 : Nat)).before a0 Z = true := hw _ (List.mem_of_getElem? (i := 10) rfl)
theorem w_11 {Z : State} {a0 : Array Value} (hw : OW Z a0) : (Jvm.Cond.methodLink "java/lang/String" (1018 : Nat) ({ cls := "java/lang/StringLatin1", name := "toBytes", desc := "(C)[B" } : Jvm.MethodName)).before a0 Z = true := hw _ (List.mem_of_getElem? (i := 11) rfl)
theorem w_12 {Z : State} {a0 : Array Value} (hw : OW Z a0) : (Jvm.Cond.static ({ cls := "java/lang/StringLatin1", name := "toBytes", desc := "(C)[B" } : Jvm.MethodName)).before a0 Z = true := hw _ (List.mem_of_getElem? (i := 12) rfl)
theorem w_13 {Z : State} {a0 : Array Value} (hw : OW Z a0) : (Jvm.Cond.code ({ cls := "java/lang/StringLatin1", name := "toBytes", desc := "(C)[B" } : Jvm.MethodName) jdk_43_method_46_code (1 : Nat) (Option.some (Jvm.ClassFile.FieldType.array Jvm.ClassFile.FieldType.byte))).before a0 Z = true := hw _ (List.mem_of_getElem? (i := 13) rfl)
theorem w_14 {Z : State} {a0 : Array Value} (hw : OW Z a0) : (Jvm.Cond.arrayClass Jvm.ClassFile.FieldType.byte).before a0 Z = true := hw _ (List.mem_of_getElem? (i := 14) rfl)
theorem w_15 {Z : State} {a0 : Array Value} (hw : OW Z a0) : (Jvm.Cond.methodLink "java/lang/String" (209 : Nat) ({ cls := "java/lang/String", name := "<init>", desc := "([BB)V" } : Jvm.MethodName)).before a0 Z = true := hw _ (List.mem_of_getElem? (i := 15) rfl)
theorem w_16 {Z : State} {a0 : Array Value} (hw : OW Z a0) : (Jvm.Cond.instanceMethod ({ cls := "java/lang/String", name := "<init>", desc := "([BB)V" } : Jvm.MethodName)).before a0 Z = true := hw _ (List.mem_of_getElem? (i := 16) rfl)
theorem w_18 {Z : State} {a0 : Array Value} (hw : OW Z a0) : (Jvm.Cond.code ({ cls := "java/lang/String", name := "<init>", desc := "([BB)V" } : Jvm.MethodName) jdk_42_method_151_code (3 : Nat) (Option.none : Option Jvm.ClassFile.FieldType)).before a0 Z = true := hw _ (List.mem_of_getElem? (i := 18) rfl)
theorem w_19 {Z : State} {a0 : Array Value} (hw : OW Z a0) : (Jvm.Cond.methodLink "java/lang/String" (1 : Nat) ({ cls := "java/lang/Object", name := "<init>", desc := "()V" } : Jvm.MethodName)).before a0 Z = true := hw _ (List.mem_of_getElem? (i := 19) rfl)
theorem w_20 {Z : State} {a0 : Array Value} (hw : OW Z a0) : (Jvm.Cond.instanceMethod ({ cls := "java/lang/Object", name := "<init>", desc := "()V" } : Jvm.MethodName)).before a0 Z = true := hw _ (List.mem_of_getElem? (i := 20) rfl)
theorem w_21 {Z : State} {a0 : Array Value} (hw : OW Z a0) : (Jvm.Cond.code ({ cls := "java/lang/Object", name := "<init>", desc := "()V" } : Jvm.MethodName) object_method_1_code (1 : Nat) (Option.none : Option Jvm.ClassFile.FieldType)).before a0 Z = true := hw _ (List.mem_of_getElem? (i := 21) rfl)
theorem w_22 {Z : State} {a0 : Array Value} (hw : OW Z a0) : (Jvm.Cond.fieldLink "java/lang/String" (9 : Nat) "java/lang/String" "value" "[B").before a0 Z = true := hw _ (List.mem_of_getElem? (i := 22) rfl)
theorem w_23 {Z : State} {a0 : Array Value} (hw : OW Z a0) : (Jvm.Cond.laysFinal "java/lang/String" "java/lang/String" "value" "[B").before a0 Z = true := hw _ (List.mem_of_getElem? (i := 23) rfl)
theorem w_24 {Z : State} {a0 : Array Value} (hw : OW Z a0) : (Jvm.Cond.fieldLink "java/lang/String" (15 : Nat) "java/lang/String" "coder" "B").before a0 Z = true := hw _ (List.mem_of_getElem? (i := 24) rfl)
theorem w_25 {Z : State} {a0 : Array Value} (hw : OW Z a0) : (Jvm.Cond.laysFinal "java/lang/String" "java/lang/String" "coder" "B").before a0 Z = true := hw _ (List.mem_of_getElem? (i := 25) rfl)
theorem w_26 {Z : State} {a0 : Array Value} (hw : OW Z a0) : (Jvm.Cond.classLink "com/example/vikt/vikt/graph/NameTablePrefetchPinLaw" (8 : Nat) "java/lang/String").before a0 Z = true := hw _ (List.mem_of_getElem? (i := 26) rfl)
theorem w_27 {Z : State} {a0 : Array Value} (hw : OW Z a0) : (Jvm.Cond.arrayClass Jvm.ClassFile.FieldType.char).before a0 Z = true := hw _ (List.mem_of_getElem? (i := 27) rfl)
theorem w_28 {Z : State} {a0 : Array Value} (hw : OW Z a0) : (Jvm.Cond.methodLink "com/example/vikt/vikt/graph/NameTablePrefetchPinLaw" (13 : Nat) ({ cls := "java/lang/String", name := "<init>", desc := "([C)V" } : Jvm.MethodName)).before a0 Z = true := hw _ (List.mem_of_getElem? (i := 28) rfl)
theorem w_29 {Z : State} {a0 : Array Value} (hw : OW Z a0) : (Jvm.Cond.instanceMethod ({ cls := "java/lang/String", name := "<init>", desc := "([C)V" } : Jvm.MethodName)).before a0 Z = true := hw _ (List.mem_of_getElem? (i := 29) rfl)
theorem w_30 {Z : State} {a0 : Array Value} (hw : OW Z a0) : (Jvm.Cond.code ({ cls := "java/lang/String", name := "<init>", desc := "([C)V" } : Jvm.MethodName) jdk_42_method_3_code (2 : Nat) (Option.none : Option Jvm.ClassFile.FieldType)).before a0 Z = true := hw _ (List.mem_of_getElem? (i := 30) rfl)
theorem w_31 {Z : State} {a0 : Array Value} (hw : OW Z a0) : (Jvm.Cond.methodLink "java/lang/String" (27 : Nat) ({ cls := "java/lang/String", name := "<init>", desc := "([CIILjava/lang/Void;)V" } : Jvm.MethodName)).before a0 Z = true := hw _ (List.mem_of_getElem? (i := 31) rfl)
theorem w_32 {Z : State} {a0 : Array Value} (hw : OW Z a0) : (Jvm.Cond.instanceMethod ({ cls := "java/lang/String", name := "<init>", desc := "([CIILjava/lang/Void;)V" } : Jvm.MethodName)).before a0 Z = true := hw _ (List.mem_of_getElem? (i := 32) rfl)
theorem w_33 {Z : State} {a0 : Array Value} (hw : OW Z a0) : (Jvm.Cond.code ({ cls := "java/lang/String", name := "<init>", desc := "([CIILjava/lang/Void;)V" } : Jvm.MethodName) jdk_42_method_149_code (6 : Nat) (Option.none : Option Jvm.ClassFile.FieldType)).before a0 Z = true := hw _ (List.mem_of_getElem? (i := 33) rfl)
theorem w_34 {Z : State} {a0 : Array Value} (hw : OW Z a0) : (Jvm.Cond.methodLink "java/lang/String" (177 : Nat) ({ cls := "java/lang/StringUTF16", name := "compress", desc := "([CII)[B" } : Jvm.MethodName)).before a0 Z = true := hw _ (List.mem_of_getElem? (i := 34) rfl)
theorem w_35 {Z : State} {a0 : Array Value} (hw : OW Z a0) : (Jvm.Cond.static ({ cls := "java/lang/StringUTF16", name := "compress", desc := "([CII)[B" } : Jvm.MethodName)).before a0 Z = true := hw _ (List.mem_of_getElem? (i := 35) rfl)
theorem w_36 {Z : State} {a0 : Array Value} (hw : OW Z a0) : (Jvm.Cond.initialized "java/lang/StringUTF16").before a0 Z = true := hw _ (List.mem_of_getElem? (i := 36) rfl)
theorem w_37 {Z : State} {a0 : Array Value} (hw : OW Z a0) : (Jvm.Cond.code ({ cls := "java/lang/StringUTF16", name := "compress", desc := "([CII)[B" } : Jvm.MethodName) jdk_52_method_16_code (6 : Nat) (Option.some (Jvm.ClassFile.FieldType.array Jvm.ClassFile.FieldType.byte))).before a0 Z = true := hw _ (List.mem_of_getElem? (i := 37) rfl)
theorem w_38 {Z : State} {a0 : Array Value} (hw : OW Z a0) : (Jvm.Cond.methodLink "java/lang/StringUTF16" (115 : Nat) ({ cls := "java/lang/StringUTF16", name := "compress", desc := "([CI[BII)I" } : Jvm.MethodName)).before a0 Z = true := hw _ (List.mem_of_getElem? (i := 38) rfl)
theorem w_39 {Z : State} {a0 : Array Value} (hw : OW Z a0) : (Jvm.Cond.static ({ cls := "java/lang/StringUTF16", name := "compress", desc := "([CI[BII)I" } : Jvm.MethodName)).before a0 Z = true := hw _ (List.mem_of_getElem? (i := 39) rfl)
theorem w_40 {Z : State} {a0 : Array Value} (hw : OW Z a0) : (Jvm.Cond.code ({ cls := "java/lang/StringUTF16", name := "compress", desc := "([CI[BII)I" } : Jvm.MethodName) jdk_52_method_21_code (7 : Nat) (Option.some Jvm.ClassFile.FieldType.int)).before a0 Z = true := hw _ (List.mem_of_getElem? (i := 40) rfl)
theorem w_41 {Z : State} {a0 : Array Value} (hw : OW Z a0) : (Jvm.Cond.methodLink "java/lang/String" (47 : Nat) ({ cls := "java/lang/StringUTF16", name := "coderFromArrayLen", desc := "([BI)B" } : Jvm.MethodName)).before a0 Z = true := hw _ (List.mem_of_getElem? (i := 41) rfl)
theorem w_42 {Z : State} {a0 : Array Value} (hw : OW Z a0) : (Jvm.Cond.static ({ cls := "java/lang/StringUTF16", name := "coderFromArrayLen", desc := "([BI)B" } : Jvm.MethodName)).before a0 Z = true := hw _ (List.mem_of_getElem? (i := 42) rfl)
theorem w_43 {Z : State} {a0 : Array Value} (hw : OW Z a0) : (Jvm.Cond.code ({ cls := "java/lang/StringUTF16", name := "coderFromArrayLen", desc := "([BI)B" } : Jvm.MethodName) jdk_52_method_15_code (2 : Nat) (Option.some Jvm.ClassFile.FieldType.byte)).before a0 Z = true := hw _ (List.mem_of_getElem? (i := 43) rfl)
theorem w_44 {Z : State} {a0 : Array Value} (hw : OW Z a0) : (Jvm.Cond.classLink "com/example/vikt/vikt/graph/NameTablePrefetchPinLaw" (16 : Nat) "com/example/vikt/vikt/graph/NameTable").before a0 Z = true := hw _ (List.mem_of_getElem? (i := 44) rfl)
theorem w_45 {Z : State} {a0 : Array Value} (hw : OW Z a0) : (Jvm.Cond.instantiable "com/example/vikt/vikt/graph/NameTable" (7 : Nat)).before a0 Z = true := hw _ (List.mem_of_getElem? (i := 45) rfl)
theorem w_46 {Z : State} {a0 : Array Value} (hw : OW Z a0) : (Jvm.Cond.initialized "com/example/vikt/vikt/graph/NameTable").before a0 Z = true := hw _ (List.mem_of_getElem? (i := 46) rfl)
theorem w_47 {Z : State} {a0 : Array Value} (hw : OW Z a0) : (Jvm.Cond.methodLink "com/example/vikt/vikt/graph/NameTablePrefetchPinLaw" (18 : Nat) ({ cls := "com/example/vikt/vikt/graph/NameTable", name := "<init>", desc := "()V" } : Jvm.MethodName)).before a0 Z = true := hw _ (List.mem_of_getElem? (i := 47) rfl)
theorem w_48 {Z : State} {a0 : Array Value} (hw : OW Z a0) : (Jvm.Cond.instanceMethod ({ cls := "com/example/vikt/vikt/graph/NameTable", name := "<init>", desc := "()V" } : Jvm.MethodName)).before a0 Z = true := hw _ (List.mem_of_getElem? (i := 48) rfl)
theorem w_49 {Z : State} {a0 : Array Value} (hw : OW Z a0) : (Jvm.Cond.code ({ cls := "com/example/vikt/vikt/graph/NameTable", name := "<init>", desc := "()V" } : Jvm.MethodName) prog_7_method_1_code (1 : Nat) (Option.none : Option Jvm.ClassFile.FieldType)).before a0 Z = true := hw _ (List.mem_of_getElem? (i := 49) rfl)
theorem w_50 {Z : State} {a0 : Array Value} (hw : OW Z a0) : (Jvm.Cond.methodLink "com/example/vikt/vikt/graph/NameTable" (1 : Nat) ({ cls := "java/lang/Object", name := "<init>", desc := "()V" } : Jvm.MethodName)).before a0 Z = true := hw _ (List.mem_of_getElem? (i := 50) rfl)
theorem w_51 {Z : State} {a0 : Array Value} (hw : OW Z a0) : (Jvm.Cond.fieldLink "com/example/vikt/vikt/graph/NameTable" (7 : Nat) "com/example/vikt/vikt/graph/NameTable" "bytes" "[B").before a0 Z = true := hw _ (List.mem_of_getElem? (i := 51) rfl)
theorem w_52 {Z : State} {a0 : Array Value} (hw : OW Z a0) : (Jvm.Cond.lays "com/example/vikt/vikt/graph/NameTable" "com/example/vikt/vikt/graph/NameTable" "bytes" "[B").before a0 Z = true := hw _ (List.mem_of_getElem? (i := 52) rfl)
theorem w_53 {Z : State} {a0 : Array Value} (hw : OW Z a0) : (Jvm.Cond.arrayClass Jvm.ClassFile.FieldType.int).before a0 Z = true := hw _ (List.mem_of_getElem? (i := 53) rfl)
theorem w_54 {Z : State} {a0 : Array Value} (hw : OW Z a0) : (Jvm.Cond.fieldLink "com/example/vikt/vikt/graph/NameTable" (13 : Nat) "com/example/vikt/vikt/graph/NameTable" "starts" "[I").before a0 Z = true := hw _ (List.mem_of_getElem? (i := 54) rfl)
theorem w_55 {Z : State} {a0 : Array Value} (hw : OW Z a0) : (Jvm.Cond.lays "com/example/vikt/vikt/graph/NameTable" "com/example/vikt/vikt/graph/NameTable" "starts" "[I").before a0 Z = true := hw _ (List.mem_of_getElem? (i := 55) rfl)
theorem w_56 {Z : State} {a0 : Array Value} (hw : OW Z a0) : (Jvm.Cond.arrayClass Jvm.ClassFile.FieldType.long).before a0 Z = true := hw _ (List.mem_of_getElem? (i := 56) rfl)
theorem w_57 {Z : State} {a0 : Array Value} (hw : OW Z a0) : (Jvm.Cond.fieldLink "com/example/vikt/vikt/graph/NameTable" (17 : Nat) "com/example/vikt/vikt/graph/NameTable" "slots" "[J").before a0 Z = true := hw _ (List.mem_of_getElem? (i := 57) rfl)
theorem w_58 {Z : State} {a0 : Array Value} (hw : OW Z a0) : (Jvm.Cond.lays "com/example/vikt/vikt/graph/NameTable" "com/example/vikt/vikt/graph/NameTable" "slots" "[J").before a0 Z = true := hw _ (List.mem_of_getElem? (i := 58) rfl)
theorem w_59 {Z : State} {a0 : Array Value} (hw : OW Z a0) : (Jvm.Cond.fieldLink "com/example/vikt/vikt/graph/NameTable" (21 : Nat) "com/example/vikt/vikt/graph/NameTable" "mask" "I").before a0 Z = true := hw _ (List.mem_of_getElem? (i := 59) rfl)
theorem w_60 {Z : State} {a0 : Array Value} (hw : OW Z a0) : (Jvm.Cond.lays "com/example/vikt/vikt/graph/NameTable" "com/example/vikt/vikt/graph/NameTable" "mask" "I").before a0 Z = true := hw _ (List.mem_of_getElem? (i := 60) rfl)
theorem w_61 {Z : State} {a0 : Array Value} (hw : OW Z a0) : (Jvm.Cond.methodLink "com/example/vikt/vikt/graph/NameTablePrefetchPinLaw" (19 : Nat) ({ cls := "com/example/vikt/vikt/graph/NameTable", name := "number", desc := "(Ljava/lang/String;)I" } : Jvm.MethodName)).before a0 Z = true := hw _ (List.mem_of_getElem? (i := 61) rfl)
theorem w_62 {Z : State} {a0 : Array Value} (hw : OW Z a0) : (Jvm.Cond.declares ({ cls := "com/example/vikt/vikt/graph/NameTable", name := "number", desc := "(Ljava/lang/String;)I" } : Jvm.MethodName)).before a0 Z = true := hw _ (List.mem_of_getElem? (i := 62) rfl)
theorem w_63 {Z : State} {a0 : Array Value} (hw : OW Z a0) : (Jvm.Cond.instanceMethod ({ cls := "com/example/vikt/vikt/graph/NameTable", name := "number", desc := "(Ljava/lang/String;)I" } : Jvm.MethodName)).before a0 Z = true := hw _ (List.mem_of_getElem? (i := 63) rfl)
theorem w_64 {Z : State} {a0 : Array Value} (hw : OW Z a0) : (Jvm.Cond.selects "com/example/vikt/vikt/graph/NameTable" ({ cls := "com/example/vikt/vikt/graph/NameTable", name := "number", desc := "(Ljava/lang/String;)I" } : Jvm.MethodName) ({ cls := "com/example/vikt/vikt/graph/NameTable", name := "number", desc := "(Ljava/lang/String;)I" } : Jvm.MethodName)).before a0 Z = true := hw _ (List.mem_of_getElem? (i := 64) rfl)
theorem w_65 {Z : State} {a0 : Array Value} (hw : OW Z a0) : (Jvm.Cond.code ({ cls := "com/example/vikt/vikt/graph/NameTable", name := "number", desc := "(Ljava/lang/String;)I" } : Jvm.MethodName) prog_7_method_3_code (3 : Nat) (Option.some Jvm.ClassFile.FieldType.int)).before a0 Z = true := hw _ (List.mem_of_getElem? (i := 65) rfl)
theorem w_66 {Z : State} {a0 : Array Value} (hw : OW Z a0) : (Jvm.Cond.fieldLink "com/example/vikt/vikt/graph/NameTable" (27 : Nat) "java/nio/charset/StandardCharsets" "UTF_8" "Ljava/nio/charset/Charset;").before a0 Z = true := hw _ (List.mem_of_getElem? (i := 66) rfl)
theorem w_68 {Z : State} {a0 : Array Value} (hw : OW Z a0) : (Jvm.Cond.methodLink "com/example/vikt/vikt/graph/NameTable" (33 : Nat) ({ cls := "java/lang/String", name := "getBytes", desc := "(Ljava/nio/charset/Charset;)[B" } : Jvm.MethodName)).before a0 Z = true := hw _ (List.mem_of_getElem? (i := 68) rfl)
theorem w_69 {Z : State} {a0 : Array Value} (hw : OW Z a0) : (Jvm.Cond.declares ({ cls := "java/lang/String", name := "getBytes", desc := "(Ljava/nio/charset/Charset;)[B" } : Jvm.MethodName)).before a0 Z = true := hw _ (List.mem_of_getElem? (i := 69) rfl)
theorem w_70 {Z : State} {a0 : Array Value} (hw : OW Z a0) : (Jvm.Cond.instanceMethod ({ cls := "java/lang/String", name := "getBytes", desc := "(Ljava/nio/charset/Charset;)[B" } : Jvm.MethodName)).before a0 Z = true := hw _ (List.mem_of_getElem? (i := 70) rfl)
theorem w_71 {Z : State} {a0 : Array Value} (hw : OW Z a0) : (Jvm.Cond.selects "java/lang/String" ({ cls := "java/lang/String", name := "getBytes", desc := "(Ljava/nio/charset/Charset;)[B" } : Jvm.MethodName) ({ cls := "java/lang/String", name := "getBytes", desc := "(Ljava/nio/charset/Charset;)[B" } : Jvm.MethodName)).before a0 Z = true := hw _ (List.mem_of_getElem? (i := 71) rfl)
theorem w_72 {Z : State} {a0 : Array Value} (hw : OW Z a0) : (Jvm.Cond.code ({ cls := "java/lang/String", name := "getBytes", desc := "(Ljava/nio/charset/Charset;)[B" } : Jvm.MethodName) jdk_42_method_64_code (2 : Nat) (Option.some (Jvm.ClassFile.FieldType.array Jvm.ClassFile.FieldType.byte))).before a0 Z = true := hw _ (List.mem_of_getElem? (i := 72) rfl)
theorem w_73 {Z : State} {a0 : Array Value} (hw : OW Z a0) : (Jvm.Cond.methodLink "java/lang/String" (335 : Nat) ({ cls := "java/lang/String", name := "coder", desc := "()B" } : Jvm.MethodName)).before a0 Z = true := hw _ (List.mem_of_getElem? (i := 73) rfl)
theorem w_74 {Z : State} {a0 : Array Value} (hw : OW Z a0) : (Jvm.Cond.declares ({ cls := "java/lang/String", name := "coder", desc := "()B" } : Jvm.MethodName)).before a0 Z = true := hw _ (List.mem_of_getElem? (i := 74) rfl)
theorem w_75 {Z : State} {a0 : Array Value} (hw : OW Z a0) : (Jvm.Cond.instanceMethod ({ cls := "java/lang/String", name := "coder", desc := "()B" } : Jvm.MethodName)).before a0 Z = true := hw _ (List.mem_of_getElem? (i := 75) rfl)
theorem w_76 {Z : State} {a0 : Array Value} (hw : OW Z a0) : (Jvm.Cond.selects "java/lang/String" ({ cls := "java/lang/String", name := "coder", desc := "()B" } : Jvm.MethodName) ({ cls := "java/lang/String", name := "coder", desc := "()B" } : Jvm.MethodName)).before a0 Z = true := hw _ (List.mem_of_getElem? (i := 76) rfl)
theorem w_77 {Z : State} {a0 : Array Value} (hw : OW Z a0) : (Jvm.Cond.code ({ cls := "java/lang/String", name := "coder", desc := "()B" } : Jvm.MethodName) jdk_42_method_152_code (1 : Nat) (Option.some Jvm.ClassFile.FieldType.byte)).before a0 Z = true := hw _ (List.mem_of_getElem? (i := 77) rfl)
theorem w_78 {Z : State} {a0 : Array Value} (hw : OW Z a0) : (Jvm.Cond.methodLink "java/lang/String" (535 : Nat) ({ cls := "java/lang/String", name := "encode", desc := "(Ljava/nio/charset/Charset;B[B)[B" } : Jvm.MethodName)).before a0 Z = true := hw _ (List.mem_of_getElem? (i := 78) rfl)
theorem w_79 {Z : State} {a0 : Array Value} (hw : OW Z a0) : (Jvm.Cond.static ({ cls := "java/lang/String", name := "encode", desc := "(Ljava/nio/charset/Charset;B[B)[B" } : Jvm.MethodName)).before a0 Z = true := hw _ (List.mem_of_getElem? (i := 79) rfl)
theorem w_80 {Z : State} {a0 : Array Value} (hw : OW Z a0) : (Jvm.Cond.code ({ cls := "java/lang/String", name := "encode", desc := "(Ljava/nio/charset/Charset;B[B)[B" } : Jvm.MethodName) jdk_42_method_18_code (3 : Nat) (Option.some (Jvm.ClassFile.FieldType.array Jvm.ClassFile.FieldType.byte))).before a0 Z = true := hw _ (List.mem_of_getElem? (i := 80) rfl)
theorem w_81 {Z : State} {a0 : Array Value} (hw : OW Z a0) : (Jvm.Cond.fieldLink "java/lang/String" (86 : Nat) "sun/nio/cs/UTF_8" "INSTANCE" "Lsun/nio/cs/UTF_8;").before a0 Z = true := hw _ (List.mem_of_getElem? (i := 81) rfl)
theorem w_83 {Z : State} {a0 : Array Value} (hw : OW Z a0) : (Jvm.Cond.methodLink "java/lang/String" (252 : Nat) ({ cls := "java/lang/String", name := "encodeUTF8", desc := "(B[BZ)[B" } : Jvm.MethodName)).before a0 Z = true := hw _ (List.mem_of_getElem? (i := 83) rfl)
theorem w_84 {Z : State} {a0 : Array Value} (hw : OW Z a0) : (Jvm.Cond.static ({ cls := "java/lang/String", name := "encodeUTF8", desc := "(B[BZ)[B" } : Jvm.MethodName)).before a0 Z = true := hw _ (List.mem_of_getElem? (i := 84) rfl)
theorem w_85 {Z : State} {a0 : Array Value} (hw : OW Z a0) : (Jvm.Cond.code ({ cls := "java/lang/String", name := "encodeUTF8", desc := "(B[BZ)[B" } : Jvm.MethodName) jdk_42_method_46_code (9 : Nat) (Option.some (Jvm.ClassFile.FieldType.array Jvm.ClassFile.FieldType.byte))).before a0 Z = true := hw _ (List.mem_of_getElem? (i := 85) rfl)
theorem w_86 {Z : State} {a0 : Array Value} (hw : OW Z a0) : (Jvm.Cond.methodLink "java/lang/String" (128 : Nat) ({ cls := "java/lang/StringCoding", name := "hasNegatives", desc := "([BII)Z" } : Jvm.MethodName)).before a0 Z = true := hw _ (List.mem_of_getElem? (i := 86) rfl)
theorem w_87 {Z : State} {a0 : Array Value} (hw : OW Z a0) : (Jvm.Cond.static ({ cls := "java/lang/StringCoding", name := "hasNegatives", desc := "([BII)Z" } : Jvm.MethodName)).before a0 Z = true := hw _ (List.mem_of_getElem? (i := 87) rfl)
theorem w_88 {Z : State} {a0 : Array Value} (hw : OW Z a0) : (Jvm.Cond.initialized "java/lang/StringCoding").before a0 Z = true := hw _ (List.mem_of_getElem? (i := 88) rfl)
theorem w_89 {Z : State} {a0 : Array Value} (hw : OW Z a0) : (Jvm.Cond.code ({ cls := "java/lang/StringCoding", name := "hasNegatives", desc := "([BII)Z" } : Jvm.MethodName) jdk_123_method_2_code (3 : Nat) (Option.some Jvm.ClassFile.FieldType.boolean)).before a0 Z = true := hw _ (List.mem_of_getElem? (i := 89) rfl)
theorem w_90 {Z : State} {a0 : Array Value} (hw : OW Z a0) : (Jvm.Cond.methodLink "java/lang/StringCoding" (7 : Nat) ({ cls := "java/lang/StringCoding", name := "countPositives", desc := "([BII)I" } : Jvm.MethodName)).before a0 Z = true := hw _ (List.mem_of_getElem? (i := 90) rfl)
theorem w_91 {Z : State} {a0 : Array Value} (hw : OW Z a0) : (Jvm.Cond.static ({ cls := "java/lang/StringCoding", name := "countPositives", desc := "([BII)I" } : Jvm.MethodName)).before a0 Z = true := hw _ (List.mem_of_getElem? (i := 91) rfl)
theorem w_92 {Z : State} {a0 : Array Value} (hw : OW Z a0) : (Jvm.Cond.code ({ cls := "java/lang/StringCoding", name := "countPositives", desc := "([BII)I" } : Jvm.MethodName) jdk_123_method_3_code (5 : Nat) (Option.some Jvm.ClassFile.FieldType.int)).before a0 Z = true := hw _ (List.mem_of_getElem? (i := 92) rfl)
theorem w_93 {Z : State} {a0 : Array Value} (hw : OW Z a0) : (Jvm.Cond.methodLink "java/lang/String" (279 : Nat) ({ cls := "[B", name := "clone", desc := "()Ljava/lang/Object;" } : Jvm.MethodName)).before a0 Z = true := hw _ (List.mem_of_getElem? (i := 93) rfl)
theorem w_94 {Z : State} {a0 : Array Value} (hw : OW Z a0) : (Jvm.Cond.sameMethod "[B" "java/lang/Object" "clone" "()Ljava/lang/Object;").before a0 Z = true := hw _ (List.mem_of_getElem? (i := 94) rfl)
theorem w_96 {Z : State} {a0 : Array Value} (hw : OW Z a0) : (Jvm.Cond.instanceMethod ({ cls := "java/lang/Object", name := "clone", desc := "()Ljava/lang/Object;" } : Jvm.MethodName)).before a0 Z = true := hw _ (List.mem_of_getElem? (i := 96) rfl)
theorem w_97 {Z : State} {a0 : Array Value} (hw : OW Z a0) : (Jvm.Cond.selects "[B" ({ cls := "[B", name := "clone", desc := "()Ljava/lang/Object;" } : Jvm.MethodName) ({ cls := "java/lang/Object", name := "clone", desc := "()Ljava/lang/Object;" } : Jvm.MethodName)).before a0 Z = true := hw _ (List.mem_of_getElem? (i := 97) rfl)
theorem w_98 {Z : State} {a0 : Array Value} (hw : OW Z a0) : (Jvm.Cond.native ({ cls := "java/lang/Object", name := "clone", desc := "()Ljava/lang/Object;" } : Jvm.MethodName)).before a0 Z = true := hw _ (List.mem_of_getElem? (i := 98) rfl)
theorem w_99 {Z : State} {a0 : Array Value} (hw : OW Z a0) : (Jvm.Cond.castable "[B" "java/lang/Cloneable").before a0 Z = true := hw _ (List.mem_of_getElem? (i := 99) rfl)
theorem w_100 {Z : State} {a0 : Array Value} (hw : OW Z a0) : (Jvm.Cond.classLink "java/lang/String" (280 : Nat) "[B").before a0 Z = true := hw _ (List.mem_of_getElem? (i := 100) rfl)
theorem w_102 {Z : State} {a0 : Array Value} (hw : OW Z a0) : (Jvm.Cond.methodLink "com/example/vikt/vikt/graph/NameTable" (39 : Nat) ({ cls := "com/example/vikt/vikt/graph/NameTable", name := "hash", desc := "([BII)I" } : Jvm.MethodName)).before a0 Z = true := hw _ (List.mem_of_getElem? (i := 102) rfl)
theorem w_103 {Z : State} {a0 : Array Value} (hw : OW Z a0) : (Jvm.Cond.static ({ cls := "com/example/vikt/vikt/graph/NameTable", name := "hash", desc := "([BII)I" } : Jvm.MethodName)).before a0 Z = true := hw _ (List.mem_of_getElem? (i := 103) rfl)
theorem w_104 {Z : State} {a0 : Array Value} (hw : OW Z a0) : (Jvm.Cond.code ({ cls := "com/example/vikt/vikt/graph/NameTable", name := "hash", desc := "([BII)I" } : Jvm.MethodName) prog_7_method_2_code (5 : Nat) (Option.some Jvm.ClassFile.FieldType.int)).before a0 Z = true := hw _ (List.mem_of_getElem? (i := 104) rfl)
theorem w_105 {Z : State} {a0 : Array Value} (hw : OW Z a0) : (Jvm.Cond.constant "com/example/vikt/vikt/graph/NameTable" (25 : Nat) (-2048144789 : Int32)).before a0 Z = true := hw _ (List.mem_of_getElem? (i := 105) rfl)
theorem w_106 {Z : State} {a0 : Array Value} (hw : OW Z a0) : (Jvm.Cond.constant "com/example/vikt/vikt/graph/NameTable" (26 : Nat) (-1028477387 : Int32)).before a0 Z = true := hw _ (List.mem_of_getElem? (i := 106) rfl)
theorem w_107 {Z : State} {a0 : Array Value} (hw : OW Z a0) : (Jvm.Cond.methodLink "com/example/vikt/vikt/graph/NameTable" (43 : Nat) ({ cls := "com/example/vikt/vikt/graph/NameTable", name := "number", desc := "([BIII)I" } : Jvm.MethodName)).before a0 Z = true := hw _ (List.mem_of_getElem? (i := 107) rfl)
theorem w_108 {Z : State} {a0 : Array Value} (hw : OW Z a0) : (Jvm.Cond.declares ({ cls := "com/example/vikt/vikt/graph/NameTable", name := "number", desc := "([BIII)I" } : Jvm.MethodName)).before a0 Z = true := hw _ (List.mem_of_getElem? (i := 108) rfl)
theorem w_109 {Z : State} {a0 : Array Value} (hw : OW Z a0) : (Jvm.Cond.instanceMethod ({ cls := "com/example/vikt/vikt/graph/NameTable", name := "number", desc := "([BIII)I" } : Jvm.MethodName)).before a0 Z = true := hw _ (List.mem_of_getElem? (i := 109) rfl)
theorem w_110 {Z : State} {a0 : Array Value} (hw : OW Z a0) : (Jvm.Cond.selects "com/example/vikt/vikt/graph/NameTable" ({ cls := "com/example/vikt/vikt/graph/NameTable", name := "number", desc := "([BIII)I" } : Jvm.MethodName) ({ cls := "com/example/vikt/vikt/graph/NameTable", name := "number", desc := "([BIII)I" } : Jvm.MethodName)).before a0 Z = true := hw _ (List.mem_of_getElem? (i := 110) rfl)
theorem w_111 {Z : State} {a0 : Array Value} (hw : OW Z a0) : (Jvm.Cond.code ({ cls := "com/example/vikt/vikt/graph/NameTable", name := "number", desc := "([BIII)I" } : Jvm.MethodName) prog_7_method_4_code (11 : Nat) (Option.some Jvm.ClassFile.FieldType.int)).before a0 Z = true := hw _ (List.mem_of_getElem? (i := 111) rfl)
theorem w_112 {Z : State} {a0 : Array Value} (hw : OW Z a0) : (Jvm.Cond.methodLink "com/example/vikt/vikt/graph/NameTable" (47 : Nat) ({ cls := "com/example/vikt/vikt/graph/NameTable", name := "key", desc := "([BII)J" } : Jvm.MethodName)).before a0 Z = true := hw _ (List.mem_of_getElem? (i := 112) rfl)
theorem w_113 {Z : State} {a0 : Array Value} (hw : OW Z a0) : (Jvm.Cond.static ({ cls := "com/example/vikt/vikt/graph/NameTable", name := "key", desc := "([BII)J" } : Jvm.MethodName)).before a0 Z = true := hw _ (List.mem_of_getElem? (i := 113) rfl)
theorem w_114 {Z : State} {a0 : Array Value} (hw : OW Z a0) : (Jvm.Cond.code ({ cls := "com/example/vikt/vikt/graph/NameTable", name := "key", desc := "([BII)J" } : Jvm.MethodName) prog_7_method_8_code (8 : Nat) (Option.some Jvm.ClassFile.FieldType.long)).before a0 Z = true := hw _ (List.mem_of_getElem? (i := 114) rfl)
theorem w_115 {Z : State} {a0 : Array Value} (hw : OW Z a0) : (Jvm.Cond.methodLink "com/example/vikt/vikt/graph/NameTable" (85 : Nat) ({ cls := "java/lang/Math", name := "min", desc := "(II)I" } : Jvm.MethodName)).before a0 Z = true := hw _ (List.mem_of_getElem? (i := 115) rfl)
theorem w_116 {Z : State} {a0 : Array Value} (hw : OW Z a0) : (Jvm.Cond.static ({ cls := "java/lang/Math", name := "min", desc := "(II)I" } : Jvm.MethodName)).before a0 Z = true := hw _ (List.mem_of_getElem? (i := 116) rfl)
theorem w_117 {Z : State} {a0 : Array Value} (hw : OW Z a0) : (Jvm.Cond.initialized "java/lang/Math").before a0 Z = true := hw _ (List.mem_of_getElem? (i := 117) rfl)
theorem w_118 {Z : State} {a0 : Array Value} (hw : OW Z a0) : (Jvm.Cond.code ({ cls := "java/lang/Math", name := "min", desc := "(II)I" } : Jvm.MethodName) jdk_29_method_69_code (2 : Nat) (Option.some Jvm.ClassFile.FieldType.int)).before a0 Z = true := hw _ (List.mem_of_getElem? (i := 118) rfl)
theorem w_119 {Z : State} {a0 : Array Value} (hw : OW Z a0) : (Jvm.Cond.methodLink "com/example/vikt/vikt/graph/NameTable" (57 : Nat) ({ cls := "com/example/vikt/vikt/graph/NameTable", name := "add", desc := "([BII)I" } : Jvm.MethodName)).before a0 Z = true := hw _ (List.mem_of_getElem? (i := 119) rfl)
theorem w_120 {Z : State} {a0 : Array Value} (hw : OW Z a0) : (Jvm.Cond.instanceMethod ({ cls := "com/example/vikt/vikt/graph/NameTable", name := "add", desc := "([BII)I" } : Jvm.MethodName)).before a0 Z = true := hw _ (List.mem_of_getElem? (i := 120) rfl)
theorem w_121 {Z : State} {a0 : Array Value} (hw : OW Z a0) : (Jvm.Cond.privateMethod ({ cls := "com/example/vikt/vikt/graph/NameTable", name := "add", desc := "([BII)I" } : Jvm.MethodName)).before a0 Z = true := hw _ (List.mem_of_getElem? (i := 121) rfl)
theorem w_122 {Z : State} {a0 : Array Value} (hw : OW Z a0) : (Jvm.Cond.code ({ cls := "com/example/vikt/vikt/graph/NameTable", name := "add", desc := "([BII)I" } : Jvm.MethodName) prog_7_method_9_code (5 : Nat) (Option.some Jvm.ClassFile.FieldType.int)).before a0 Z = true := hw _ (List.mem_of_getElem? (i := 122) rfl)
theorem w_123 {Z : State} {a0 : Array Value} (hw : OW Z a0) : (Jvm.Cond.constant "com/example/vikt/vikt/graph/NameTable" (93 : Nat) (2147483639 : Int32)).before a0 Z = true := hw _ (List.mem_of_getElem? (i := 123) rfl)
theorem w_124 {Z : State} {a0 : Array Value} (hw : OW Z a0) : (Jvm.Cond.fieldLink "com/example/vikt/vikt/graph/NameTable" (72 : Nat) "com/example/vikt/vikt/graph/NameTable" "used" "I").before a0 Z = true := hw _ (List.mem_of_getElem? (i := 124) rfl)
theorem w_125 {Z : State} {a0 : Array Value} (hw : OW Z a0) : (Jvm.Cond.lays "com/example/vikt/vikt/graph/NameTable" "com/example/vikt/vikt/graph/NameTable" "used" "I").before a0 Z = true := hw _ (List.mem_of_getElem? (i := 125) rfl)
theorem w_126 {Z : State} {a0 : Array Value} (hw : OW Z a0) : (Jvm.Cond.fieldLink "com/example/vikt/vikt/graph/NameTable" (60 : Nat) "com/example/vikt/vikt/graph/NameTable" "count" "I").before a0 Z = true := hw _ (List.mem_of_getElem? (i := 126) rfl)
theorem w_127 {Z : State} {a0 : Array Value} (hw : OW Z a0) : (Jvm.Cond.lays "com/example/vikt/vikt/graph/NameTable" "com/example/vikt/vikt/graph/NameTable" "count" "I").before a0 Z = true := hw _ (List.mem_of_getElem? (i := 127) rfl)
theorem w_128 {Z : State} {a0 : Array Value} (hw : OW Z a0) : (Jvm.Cond.methodLink "com/example/vikt/vikt/graph/NameTable" (104 : Nat) ({ cls := "java/lang/System", name := "arraycopy", desc := "(Ljava/lang/Object;ILjava/lang/Object;II)V" } : Jvm.MethodName)).before a0 Z = true := hw _ (List.mem_of_getElem? (i := 128) rfl)
theorem w_129 {Z : State} {a0 : Array Value} (hw : OW Z a0) : (Jvm.Cond.static ({ cls := "java/lang/System", name := "arraycopy", desc := "(Ljava/lang/Object;ILjava/lang/Object;II)V" } : Jvm.MethodName)).before a0 Z = true := hw _ (List.mem_of_getElem? (i := 129) rfl)
theorem w_130 {Z : State} {a0 : Array Value} (hw : OW Z a0) : (Jvm.Cond.initialized "java/lang/System").before a0 Z = true := hw _ (List.mem_of_getElem? (i := 130) rfl)
theorem w_131 {Z : State} {a0 : Array Value} (hw : OW Z a0) : (Jvm.Cond.native ({ cls := "java/lang/System", name := "arraycopy", desc := "(Ljava/lang/Object;ILjava/lang/Object;II)V" } : Jvm.MethodName)).before a0 Z = true := hw _ (List.mem_of_getElem? (i := 131) rfl)
theorem w_132 {Z : State} {a0 : Array Value} (hw : OW Z a0) : (Jvm.Cond.constant "com/example/vikt/vikt/graph/NameTablePrefetchPinLaw" (23 : Nat) (2147483647 : Int32)).before a0 Z = true := hw _ (List.mem_of_getElem? (i := 132) rfl)
theorem w_133 {Z : State} {a0 : Array Value} (hw : OW Z a0) : (Jvm.Cond.methodLink "com/example/vikt/vikt/graph/NameTablePrefetchPinLaw" (24 : Nat) ({ cls := "com/example/vikt/vikt/graph/NameTable", name := "prefetch", desc := "([II)V" } : Jvm.MethodName)).before a0 Z = true := hw _ (List.mem_of_getElem? (i := 133) rfl)
theorem w_134 {Z : State} {a0 : Array Value} (hw : OW Z a0) : (Jvm.Cond.declares ({ cls := "com/example/vikt/vikt/graph/NameTable", name := "prefetch", desc := "([II)V" } : Jvm.MethodName)).before a0 Z = true := hw _ (List.mem_of_getElem? (i := 134) rfl)
theorem w_135 {Z : State} {a0 : Array Value} (hw : OW Z a0) : (Jvm.Cond.instanceMethod ({ cls := "com/example/vikt/vikt/graph/NameTable", name := "prefetch", desc := "([II)V" } : Jvm.MethodName)).before a0 Z = true := hw _ (List.mem_of_getElem? (i := 135) rfl)
theorem w_136 {Z : State} {a0 : Array Value} (hw : OW Z a0) : (Jvm.Cond.selects "com/example/vikt/vikt/graph/NameTable" ({ cls := "com/example/vikt/vikt/graph/NameTable", name := "prefetch", desc := "([II)V" } : Jvm.MethodName) ({ cls := "com/example/vikt/vikt/graph/NameTable", name := "prefetch", desc := "([II)V" } : Jvm.MethodName)).before a0 Z = true := hw _ (List.mem_of_getElem? (i := 136) rfl)
theorem w_137 {Z : State} {a0 : Array Value} (hw : OW Z a0) : (Jvm.Cond.code ({ cls := "com/example/vikt/vikt/graph/NameTable", name := "prefetch", desc := "([II)V" } : Jvm.MethodName) prog_7_method_5_code (6 : Nat) (Option.none : Option Jvm.ClassFile.FieldType)).before a0 Z = true := hw _ (List.mem_of_getElem? (i := 137) rfl)
theorem w_138 {Z : State} {a0 : Array Value} (hw : OW Z a0) : (Jvm.Cond.fieldLink "com/example/vikt/vikt/graph/NameTable" (66 : Nat) "com/example/vikt/vikt/graph/NameTable" "prefetched" "J").before a0 Z = true := hw _ (List.mem_of_getElem? (i := 138) rfl)
theorem w_139 {Z : State} {a0 : Array Value} (hw : OW Z a0) : (Jvm.Cond.lays "com/example/vikt/vikt/graph/NameTable" "com/example/vikt/vikt/graph/NameTable" "prefetched" "J").before a0 Z = true := hw _ (List.mem_of_getElem? (i := 139) rfl)
theorem w_140 {Z : State} {a0 : Array Value} (hw : OW Z a0) : (Jvm.Cond.methodLink "com/example/vikt/vikt/graph/NameTablePrefetchPinLaw" (28 : Nat) ({ cls := "com/example/vikt/vikt/graph/NameTable", name := "count", desc := "()I" } : Jvm.MethodName)).before a0 Z = true := hw _ (List.mem_of_getElem? (i := 140) rfl)
theorem w_141 {Z : State} {a0 : Array Value} (hw : OW Z a0) : (Jvm.Cond.declares ({ cls := "com/example/vikt/vikt/graph/NameTable", name := "count", desc := "()I" } : Jvm.MethodName)).before a0 Z = true := hw _ (List.mem_of_getElem? (i := 141) rfl)
theorem w_142 {Z : State} {a0 : Array Value} (hw : OW Z a0) : (Jvm.Cond.instanceMethod ({ cls := "com/example/vikt/vikt/graph/NameTable", name := "count", desc := "()I" } : Jvm.MethodName)).before a0 Z = true := hw _ (List.mem_of_getElem? (i := 142) rfl)
theorem w_143 {Z : State} {a0 : Array Value} (hw : OW Z a0) : (Jvm.Cond.selects "com/example/vikt/vikt/graph/NameTable" ({ cls := "com/example/vikt/vikt/graph/NameTable", name := "count", desc := "()I" } : Jvm.MethodName) ({ cls := "com/example/vikt/vikt/graph/NameTable", name := "count", desc := "()I" } : Jvm.MethodName)).before a0 Z = true := hw _ (List.mem_of_getElem? (i := 143) rfl)
theorem w_144 {Z : State} {a0 : Array Value} (hw : OW Z a0) : (Jvm.Cond.code ({ cls := "com/example/vikt/vikt/graph/NameTable", name := "count", desc := "()I" } : Jvm.MethodName) prog_7_method_6_code (1 : Nat) (Option.some Jvm.ClassFile.FieldType.int)).before a0 Z = true := hw _ (List.mem_of_getElem? (i := 144) rfl)
theorem w_145 {Z : State} {a0 : Array Value} (hw : OW Z a0) : (Jvm.Cond.methodLink "java/lang/String" (60 : Nat) ({ cls := "java/lang/StringUTF16", name := "newBytesFor", desc := "(I)[B" } : Jvm.MethodName)).before a0 Z = true := hw _ (List.mem_of_getElem? (i := 145) rfl)
theorem w_146 {Z : State} {a0 : Array Value} (hw : OW Z a0) : (Jvm.Cond.static ({ cls := "java/lang/StringUTF16", name := "newBytesFor", desc := "(I)[B" } : Jvm.MethodName)).before a0 Z = true := hw _ (List.mem_of_getElem? (i := 146) rfl)
theorem w_147 {Z : State} {a0 : Array Value} (hw : OW Z a0) : (Jvm.Cond.code ({ cls := "java/lang/StringUTF16", name := "newBytesFor", desc := "(I)[B" } : Jvm.MethodName) jdk_52_method_2_code (1 : Nat) (Option.some (Jvm.ClassFile.FieldType.array Jvm.ClassFile.FieldType.byte))).before a0 Z = true := hw _ (List.mem_of_getElem? (i := 147) rfl)
theorem w_148 {Z : State} {a0 : Array Value} (hw : OW Z a0) : (Jvm.Cond.methodLink "java/lang/StringUTF16" (11 : Nat) ({ cls := "java/lang/StringUTF16", name := "newBytesLength", desc := "(I)I" } : Jvm.MethodName)).before a0 Z = true := hw _ (List.mem_of_getElem? (i := 148) rfl)
theorem w_149 {Z : State} {a0 : Array Value} (hw : OW Z a0) : (Jvm.Cond.static ({ cls := "java/lang/StringUTF16", name := "newBytesLength", desc := "(I)I" } : Jvm.MethodName)).before a0 Z = true := hw _ (List.mem_of_getElem? (i := 149) rfl)
theorem w_150 {Z : State} {a0 : Array Value} (hw : OW Z a0) : (Jvm.Cond.code ({ cls := "java/lang/StringUTF16", name := "newBytesLength", desc := "(I)I" } : Jvm.MethodName) jdk_52_method_3_code (1 : Nat) (Option.some Jvm.ClassFile.FieldType.int)).before a0 Z = true := hw _ (List.mem_of_getElem? (i := 150) rfl)
theorem w_151 {Z : State} {a0 : Array Value} (hw : OW Z a0) : (Jvm.Cond.constant "java/lang/StringUTF16" (20 : Nat) (1073741823 : Int32)).before a0 Z = true := hw _ (List.mem_of_getElem? (i := 151) rfl)
theorem w_152 {Z : State} {a0 : Array Value} (hw : OW Z a0) : (Jvm.Cond.methodLink "java/lang/String" (102 : Nat) ({ cls := "java/util/Arrays", name := "copyOf", desc := "([BI)[B" } : Jvm.MethodName)).before a0 Z = true := hw _ (List.mem_of_getElem? (i := 152) rfl)
theorem w_153 {Z : State} {a0 : Array Value} (hw : OW Z a0) : (Jvm.Cond.static ({ cls := "java/util/Arrays", name := "copyOf", desc := "([BI)[B" } : Jvm.MethodName)).before a0 Z = true := hw _ (List.mem_of_getElem? (i := 153) rfl)
theorem w_154 {Z : State} {a0 : Array Value} (hw : OW Z a0) : (Jvm.Cond.initialized "java/util/Arrays").before a0 Z = true := hw _ (List.mem_of_getElem? (i := 154) rfl)
theorem w_155 {Z : State} {a0 : Array Value} (hw : OW Z a0) : (Jvm.Cond.code ({ cls := "java/util/Arrays", name := "copyOf", desc := "([BI)[B" } : Jvm.MethodName) jdk_65_method_121_code (3 : Nat) (Option.some (Jvm.ClassFile.FieldType.array Jvm.ClassFile.FieldType.byte))).before a0 Z = true := hw _ (List.mem_of_getElem? (i := 155) rfl)
theorem w_156 {Z : State} {a0 : Array Value} (hw : OW Z a0) : (Jvm.Cond.methodLink "java/util/Arrays" (304 : Nat) ({ cls := "java/lang/Math", name := "min", desc := "(II)I" } : Jvm.MethodName)).before a0 Z = true := hw _ (List.mem_of_getElem? (i := 156) rfl)
theorem w_157 {Z : State} {a0 : Array Value} (hw : OW Z a0) : (Jvm.Cond.methodLink "java/util/Arrays" (150 : Nat) ({ cls := "java/lang/System", name := "arraycopy", desc := "(Ljava/lang/Object;ILjava/lang/Object;II)V" } : Jvm.MethodName)).before a0 Z = true := hw _ (List.mem_of_getElem? (i := 157) rfl)
theorem own_shl8 (a : Int64) : (a <<< ((8 : Int32) &&& 0x3f).toInt64).toBitVec = a.toBitVec <<< 8 := by
  rw [Int64.toBitVec_shiftLeft]
  rfl
theorem own_shl (a n : Int64) (k : Nat) (h : (n.toBitVec.smod 64).toNat = k) : (a <<< n).toBitVec = a.toBitVec <<< k := by
  rw [Int64.toBitVec_shiftLeft, BitVec.shiftLeft_eq', h]
def own_sh8 (a : Int64) (b : Int32) : Int64 := (a <<< ((8 : Int32) &&& 0x3f).toInt64) ||| ((b &&& (255 : Int32)).toInt64)
theorem own_sh8b (a : Int64) (b : Int32) (i : Nat) (h : 8 ≤ i) (hi : i < 64) : (own_sh8 a b).toBitVec.getLsbD i = a.toBitVec.getLsbD (i - 8) := by
  unfold own_sh8
  rw [Int64.toBitVec_or, own_shl8, BitVec.getLsbD_or, BitVec.getLsbD_shiftLeft]
  have q : ((b &&& (255 : Int32)).toInt64).toBitVec.getLsbD i = false := by
    rw [Int32.toBitVec_toInt64, BitVec.getLsbD_signExtend]
    have q1 : (255 : Int32).toBitVec = 255#32 := rfl
    rw [Int32.toBitVec_and, q1]
    have q2 : (b.toBitVec &&& 255#32).msb = false := by
      rw [BitVec.msb_and]
      have q5 : (255#32).msb = false := by decide
      rw [q5]
      simp
    rw [q2]
    split
    · rw [BitVec.getLsbD_and]
      have q3 : (255#32).getLsbD i = false := by
        rw [BitVec.getLsbD_ofNat]
        have : (255 : Nat).testBit i = false := Nat.testBit_lt_two_pow (Nat.lt_of_lt_of_le (by decide : 255 < 2 ^ 8) (Nat.pow_le_pow_right (by decide) h))
        simp [this]
      rw [q3]
      simp
    · simp
  rw [q]
  simp [hi, h]
theorem own_i1 (a : Int32) : ((((a.toInt64 <<< ((32 : Int32) &&& 0x3f).toInt64) ||| (((0 : Int32) + (1 : Int32)).toInt64)).toUInt64 >>> ((32 : Int32) &&& 0x3f).toInt64.toUInt64).toInt64).toInt32 = a := by
  apply Int32.toBitVec_inj.mp
  apply BitVec.eq_of_getLsbD_eq
  intro i hi
  have e1 : ((32 : Int32) &&& 0x3f).toInt64.toUInt64 = 32 := by decide
  have e2 := own_shl a.toInt64 (((32 : Int32) &&& 0x3f).toInt64) 32 (by decide)
  have e3 : (((0 : Int32) + (1 : Int32)).toInt64).toBitVec = 1#64 := by decide
  have e4 : (1#64).getLsbD (32 + i) = false := by
    rw [BitVec.getLsbD_ofNat]
    have : (1 : Nat).testBit (32 + i) = false := Nat.testBit_lt_two_pow (Nat.lt_of_lt_of_le (by decide : 1 < 2 ^ 32) (Nat.pow_le_pow_right (by decide) (by omega)))
    simp [this]
  have e5 : ((32 : UInt64).toBitVec % 64#64) = 32#64 := by decide
  simp only [Int64.toBitVec_toInt32, UInt64.toBitVec_toInt64, UInt64.toBitVec_shiftRight, e1, Int64.toBitVec_toUInt64, Int64.toBitVec_or, e2, e3]
  rw [BitVec.signExtend_eq_setWidth_of_le _ (by decide), BitVec.getLsbD_setWidth]
  have e6 : ∀ x : BitVec 64, (x >>> (UInt64.toBitVec 32 % 64)) = x >>> 32 := fun x => rfl
  rw [e6, BitVec.getLsbD_ushiftRight, BitVec.getLsbD_or, BitVec.getLsbD_shiftLeft, e4, Int32.toBitVec_toInt64, BitVec.getLsbD_signExtend]
  simp [hi, show 32 + i < 64 by omega, show ¬ (32 + i < 32) by omega, show i < 64 by omega]
theorem own_i2 (a : Int32) : ((a.toInt64 <<< ((32 : Int32) &&& 0x3f).toInt64) ||| ((((0 : Int32) + (1 : Int32)).toInt64))).toInt32 = 1 := by
  apply Int32.toBitVec_inj.mp
  have e2 := own_shl a.toInt64 (((32 : Int32) &&& 0x3f).toInt64) 32 (by decide)
  have e3 : (((0 : Int32) + (1 : Int32)).toInt64).toBitVec = 1#64 := by decide
  have e7 : (1 : Int32).toBitVec = 1#32 := rfl
  rw [Int64.toBitVec_toInt32, Int64.toBitVec_or, e2, e3, e7, BitVec.signExtend_eq_setWidth_of_le _ (by decide)]
  apply BitVec.eq_of_getLsbD_eq
  intro i hi
  rw [BitVec.getLsbD_setWidth, BitVec.getLsbD_or, BitVec.getLsbD_shiftLeft, BitVec.getLsbD_ofNat, BitVec.getLsbD_ofNat]
  simp [hi, show i < 64 by omega]
theorem own_i0 (a : Int32) : ¬ ((a.toInt64 <<< ((32 : Int32) &&& 0x3f).toInt64) ||| ((((0 : Int32) + (1 : Int32)).toInt64))) = 0 := by
  intro q
  have q2 := own_i2 a
  rw [q] at q2
  exact absurd q2 (by decide)
/-- the key of a name: its length, its bytes -/
def own_key (l : List Int32) (n : Int32) : Int64 := (l.foldl own_sh8 n.toInt64) <<< ((((8 : Int32) * ((7 : Int32) - n))) &&& 0x3f).toInt64
theorem own_key1 (a : Int32) (i : Nat) (hi : i < 8) : (own_key [a] 1).toBitVec.getLsbD (56 + i) = (1#64).getLsbD i := by
  unfold own_key
  rw [own_shl _ _ 48 (by decide), BitVec.getLsbD_shiftLeft]
  simp only [List.foldl]
  rw [own_sh8b _ _ _ (by omega) (by omega), show (1 : Int32).toInt64.toBitVec = 1#64 by decide, show 56 + i - 48 - 8 = i by omega]
  simp [show 56 + i < 64 by omega, show ¬ (56 + i < 48) by omega]
theorem own_key2 (a b : Int32) (i : Nat) (hi : i < 8) : (own_key [a, b] 2).toBitVec.getLsbD (56 + i) = (2#64).getLsbD i := by
  unfold own_key
  rw [own_shl _ _ 40 (by decide), BitVec.getLsbD_shiftLeft]
  simp only [List.foldl]
  rw [own_sh8b _ _ _ (by omega) (by omega), own_sh8b _ _ _ (by omega) (by omega), show (2 : Int32).toInt64.toBitVec = 2#64 by decide, show 56 + i - 40 - 8 - 8 = i by omega]
  simp [show 56 + i < 64 by omega, show ¬ (56 + i < 40) by omega]
theorem own_key3 (a b c : Int32) (i : Nat) (hi : i < 8) : (own_key [a, b, c] 3).toBitVec.getLsbD (56 + i) = (3#64).getLsbD i := by
  unfold own_key
  rw [own_shl _ _ 32 (by decide), BitVec.getLsbD_shiftLeft]
  simp only [List.foldl]
  rw [own_sh8b _ _ _ (by omega) (by omega), own_sh8b _ _ _ (by omega) (by omega), own_sh8b _ _ _ (by omega) (by omega), show (3 : Int32).toInt64.toBitVec = 3#64 by decide, show 56 + i - 32 - 8 - 8 - 8 = i by omega]
  simp [show 56 + i < 64 by omega, show ¬ (56 + i < 32) by omega]
theorem own_key4 (a b c d : Int32) (i : Nat) (hi : i < 8) : (own_key [a, b, c, d] 4).toBitVec.getLsbD (56 + i) = (4#64).getLsbD i := by
  unfold own_key
  rw [own_shl _ _ 24 (by decide), BitVec.getLsbD_shiftLeft]
  simp only [List.foldl]
  rw [own_sh8b _ _ _ (by omega) (by omega), own_sh8b _ _ _ (by omega) (by omega), own_sh8b _ _ _ (by omega) (by omega), own_sh8b _ _ _ (by omega) (by omega), show (4 : Int32).toInt64.toBitVec = 4#64 by decide, show 56 + i - 24 - 8 - 8 - 8 - 8 = i by omega]
  simp [show 56 + i < 64 by omega, show ¬ (56 + i < 24) by omega]
theorem own_k12 (a b c : Int32) : ¬ own_key [a] 1 = own_key [b, c] 2 := fun q => by
  have q1 := own_key1 a 0 (by decide)
  rw [q, own_key2 b c 0 (by decide)] at q1
  exact absurd q1 (by decide)
theorem own_k13 (a b c d : Int32) : ¬ own_key [a] 1 = own_key [b, c, d] 3 := fun q => by
  have q1 := own_key1 a 1 (by decide)
  rw [q, own_key3 b c d 1 (by decide)] at q1
  exact absurd q1 (by decide)
theorem own_k23 (x a b c d : Int32) : ¬ own_key [x, a] 2 = own_key [b, c, d] 3 := fun q => by
  have q1 := own_key2 x a 0 (by decide)
  rw [q, own_key3 b c d 0 (by decide)] at q1
  exact absurd q1 (by decide)
theorem own_k24 (x a b c d y : Int32) : ¬ own_key [x, a] 2 = own_key [b, c, d, y] 4 := fun q => by
  have q1 := own_key2 x a 1 (by decide)
  rw [q, own_key4 b c d y 1 (by decide)] at q1
  exact absurd q1 (by decide)
def own_B (q : List Int32) : Nat → Value := fun j => .int (q.getD j 0)
def own_e1 (x : Int32) : Int32 := ((192 : Int32) ||| ((x &&& (255 : Int32)) >>> ((6 : Int32) &&& 31))).toInt8.toInt32
def own_e2 (x : Int32) : Int32 := ((128 : Int32) ||| (x &&& (63 : Int32))).toInt8.toInt32
theorem own_255 {z : Int32} (h : z.toInt ≤ 255) : z.toInt ≤ (255 : Int32).toInt := h
theorem d2_0 : decode jdk_43_method_3_code 0 = .ok (.iload_n 0, 1) := by decide +kernel
theorem d2_1 : decode jdk_43_method_3_code 1 = .ok (.sipush 255, 3) := by decide +kernel
theorem d2_4 : decode jdk_43_method_3_code 4 = .ok (.if_icmp .gt 7, 3) := by decide +kernel
theorem d2_7 : decode jdk_43_method_3_code 7 = .ok (.iconst 1, 1) := by decide +kernel
theorem d2_8 : decode jdk_43_method_3_code 8 = .ok (.goto 4, 3) := by decide +kernel
theorem d2_12 : decode jdk_43_method_3_code 12 = .ok (.ireturn, 1) := by decide +kernel
theorem pn_2 : plainFor (⟨"java/lang/StringLatin1", "canEncode", "(C)Z"⟩ : MethodName) = true := plainFor_of_name (by first | (simp [plainName, overriddenIn]; done) | decide +kernel)
set_option maxHeartbeats 4000000 in
theorem c_can (l : Launch) (Z : State) (a0 : Array Value) (hw : OW Z a0) (n0 : Nat) (z : Int32) (h0 : Heap) (Z0 : n0 ≤ h0.size) (hz : z.toInt ≤ (255 : Int32).toInt) :
    OCon l Z n0 (⟨"java/lang/StringLatin1", "canEncode", "(C)Z"⟩ : MethodName) jdk_43_method_3_code 1 (some .boolean) ({ frames := 0, cells := 0, slots := 0, locals := 0 } : Room) #[(.int z)] h0 (fun v h => v = some (.int (1 : Int32)) ∧ h = h0) := by
  refine OCon.of (Ls := #[.val (.int z)]) pn_2 rfl rfl (fun m => by first | (simp [entryFrame, mkF, argsToLocals, Value.category]; done) | rfl) ?_
  intro p e s m below meth c T0 X0 K e0
  have N0 := Fr.nil n0
  refine o_iloadN X0 K d2_0 1 rfl rfl ?_
  refine o_sipush X0 K (255 : Int32) d2_1 4 rfl rfl ?_
  refine o_icmp_gt_f X0 K d2_4 7 rfl (hz) ?_
  refine o_iconst X0 K (1 : Int32) d2_7 8 rfl rfl ?_
  refine o_goto X0 K d2_8 12 (by decide) (by decide) ?_
  refine o_ireturnN X0 K (by decide) d2_12 (by decide) (by decide) N0 ?_
  exact ⟨rfl, e0⟩
theorem d3_0 : decode jdk_43_method_46_code 0 = .ok (.iconst 1, 1) := by decide +kernel
theorem d3_1 : decode jdk_43_method_46_code 1 = .ok (.newarray .byte, 2) := by decide +kernel
theorem d3_3 : decode jdk_43_method_46_code 3 = .ok (.dup, 1) := by decide +kernel
theorem d3_4 : decode jdk_43_method_46_code 4 = .ok (.iconst 0, 1) := by decide +kernel
theorem d3_5 : decode jdk_43_method_46_code 5 = .ok (.iload_n 0, 1) := by decide +kernel
theorem d3_6 : decode jdk_43_method_46_code 6 = .ok (.i2b, 1) := by decide +kernel
theorem d3_7 : decode jdk_43_method_46_code 7 = .ok (.bastore, 1) := by decide +kernel
theorem d3_8 : decode jdk_43_method_46_code 8 = .ok (.areturn, 1) := by decide +kernel
theorem pn_3 : plainFor (⟨"java/lang/StringLatin1", "toBytes", "(C)[B"⟩ : MethodName) = true := plainFor_of_name (by first | (simp [plainName, overriddenIn]; done) | decide +kernel)
set_option maxHeartbeats 4000000 in
theorem c_tob (l : Launch) (Z : State) (a0 : Array Value) (hw : OW Z a0) (n0 : Nat) (z : Int32) (h0 : Heap) (Z0 : n0 ≤ h0.size) :
    OCon l Z n0 (⟨"java/lang/StringLatin1", "toBytes", "(C)[B"⟩ : MethodName) jdk_43_method_46_code 1 (some (.array .byte)) ({ frames := 0, cells := 1, slots := 1, locals := 0 } : Room) #[(.int z)] h0 (fun v h => ∃ tb : Addr, v = some (.ref tb) ∧ Keep h0 h [] ∧ n0 ≤ tb ∧ h0.size ≤ tb ∧ OAr Z h tb .byte 1 (own_B [(z.toInt8.toInt32)]) ∧ Exa Z h tb "[B") := by
  refine OCon.of (Ls := #[.val (.int z)]) pn_3 rfl rfl (fun m => by first | (simp [entryFrame, mkF, argsToLocals, Value.category]; done) | rfl) ?_
  intro p e s m below meth c T0 X0 K e0
  have N0 := Fr.nil n0
  have KK0 := Keep.refl h0 []
  refine o_iconst X0 K (1 : Int32) d3_0 1 rfl rfl ?_
  refine o_newarrayE X0 K (n := 1) d3_1 3 rfl (w_14 hw) e0 (by decide) 1 (by decide) (by decide) (by decide) (by decide) rfl (ad := "[B") (by decide +kernel) ?_
  intro T_1 h_1 tb g_1 X_1 e_1 E_1 A_1 B_1
  dsimp only [newarray.typeOf, defaultValue] at A_1
  have Z_1 : n0 ≤ h_1.size := Nat.le_trans Z0 E_1.1
  have K_1 := KK0.ext E_1
  have g_tb : n0 ≤ tb := by rw [g_1]; exact Z0
  have sz_tb : h0.size ≤ tb := by rw [g_1]; exact KK0.1
  refine o_dup X_1 K d3_3 4 rfl rfl ?_
  refine o_iconst X_1 K (0 : Int32) d3_4 5 rfl rfl ?_
  refine o_iloadN X_1 K d3_5 6 rfl rfl ?_
  refine o_i2b X_1 K d3_6 7 rfl ?_
  refine o_bastore X_1 K (i := 0) (x' := (z.toInt8.toInt32)) d3_7 8 rfl e_1 A_1 (by decide) (by decide) (o_nb _) N0 g_tb ?_
  intro T_2 h_2 locs_2 X_2 e_2 W_2 A_2 N_2
  have Z_2 : n0 ≤ h_2.size := by rw [Wr.size W_2]; exact Z_1
  have K_2 := K_1.wr W_2 (Or.inr sz_tb)
  have f_3 := Exa.wr W_2 B_1
  have AB_4 := OAr.congr A_2 (g := own_B [(z.toInt8.toInt32)]) (fun j hj => by rw [Nat.lt_one_iff.mp hj]; rfl)
  refine o_areturn X_2 K rfl rfl rfl d3_8 (by decide) (by decide) N_2 ?_
  rw [e_2]
  exact ⟨tb, rfl, K_2, g_tb, sz_tb, AB_4, f_3⟩
theorem d4_0 : decode jdk_42_method_151_code 0 = .ok (.aload_n 0, 1) := by decide +kernel
theorem d4_1 : decode jdk_42_method_151_code 1 = .ok (.invokespecial 1, 3) := by decide +kernel
theorem d4_4 : decode jdk_42_method_151_code 4 = .ok (.aload_n 0, 1) := by decide +kernel
theorem d4_5 : decode jdk_42_method_151_code 5 = .ok (.aload_n 1, 1) := by decide +kernel
theorem d4_6 : decode jdk_42_method_151_code 6 = .ok (.putfield 9, 3) := by decide +kernel
theorem d4_9 : decode jdk_42_method_151_code 9 = .ok (.aload_n 0, 1) := by decide +kernel
theorem d4_10 : decode jdk_42_method_151_code 10 = .ok (.iload_n 2, 1) := by decide +kernel
theorem d4_11 : decode jdk_42_method_151_code 11 = .ok (.putfield 15, 3) := by decide +kernel
theorem d4_14 : decode jdk_42_method_151_code 14 = .ok (.return_, 1) := by decide +kernel
theorem pn_4 : plainFor (⟨"java/lang/String", "<init>", "([BB)V"⟩ : MethodName) = true := plainFor_of_name (by first | (simp [plainName, overriddenIn]; done) | decide +kernel)
set_option maxHeartbeats 4000000 in
theorem c_sinit (l : Launch) (Z : State) (a0 : Array Value) (hw : OW Z a0) (n0 : Nat) (a tb : Addr) (h0 : Heap) (Z0 : n0 ≤ h0.size) (E_a : Exa Z h0 a "java/lang/String") (F_a_value : Fld Z h0 a "java/lang/String" "value" "[B" .null) (F_a_coder : Fld Z h0 a "java/lang/String" "coder" "B" (.int (0 : Int32))) (g_a : n0 ≤ a) :
    OCon l Z n0 (⟨"java/lang/String", "<init>", "([BB)V"⟩ : MethodName) jdk_42_method_151_code 3 none ({ frames := 1, cells := 0, slots := 0, locals := 12 } : Room) #[(.ref a), (.ref tb), (.int (0 : Int32))] h0 (fun v h => v = none ∧ Keep h0 h [a] ∧ Exa Z h a "java/lang/String" ∧ Fld Z h a "java/lang/String" "value" "[B" (.ref tb) ∧ Fld Z h a "java/lang/String" "coder" "B" (.int (0 : Int32))) := by
  refine OCon.of (Ls := #[.val (.ref a), .val (.ref tb), .val (.int (0 : Int32))]) pn_4 rfl rfl (fun m => by first | (simp [entryFrame, mkF, argsToLocals, Value.category]; done) | rfl) ?_
  intro p e s m below meth c T0 X0 K e0
  have N0 := Fr.nil n0
  have KK0 := Keep.refl h0 [a]
  refine o_aloadN X0 K d4_0 1 rfl rfl rfl ?_
  refine o_initO X0 K d4_1 4 rfl (w_19 hw) (w_20 hw) (w_21 hw) e0 rfl (by decide) 0 (Nat.le_of_eq rfl) (by decide) ?_
  intro T_5 X_5 e_5
  refine o_aloadN X_5 K d4_4 5 rfl rfl rfl ?_
  refine o_aloadN X_5 K d4_5 6 rfl rfl rfl ?_
  refine o_putfield X_5 K (host := "") (ty := (.array .byte)) d4_6 9 rfl (Or.inl (w_22 hw)) Via.refl e_5 F_a_value E_a (Or.inr ⟨(w_23 hw), rfl, rfl⟩) (w_10 hw) (by decide) rfl rfl N0 g_a ?_
  intro T_6 h_6 locs_6 X_6 e_6 W_6 N_6
  have Z_6 : n0 ≤ h_6.size := by rw [Wr.size W_6]; exact Z0
  have K_6 := KK0.wr W_6 (Or.inl (by simp))
  have f_7 := Exa.wr W_6 E_a
  have f_8 := Fld.same W_6 F_a_value
  have f_9 := Fld.other W_6 F_a_coder (Or.inr (slot_ne (Or.inr (w_25 hw)) (Or.inr (w_23 hw)) (by decide) (t := .byte) (t' := (.array .byte)) (by decide) (by decide)))
  refine o_aloadN X_6 K d4_9 10 rfl rfl rfl ?_
  refine o_iloadN X_6 K d4_10 11 rfl rfl ?_
  refine o_putfieldN X_6 K (v' := (.int (0 : Int32))) (ty := .byte) d4_11 14 rfl (w_24 hw) Via.refl e_6 f_9 f_7 (Or.inr ⟨(w_25 hw), rfl, rfl⟩) (w_10 hw) (by decide) (rfl) (by decide) N_6 g_a ?_
  intro T_10 h_10 locs_10 X_10 e_10 W_10 N_10
  have Z_10 : n0 ≤ h_10.size := by rw [Wr.size W_10]; exact Z_6
  have K_10 := K_6.wr W_10 (Or.inl (by simp))
  have f_11 := Exa.wr W_10 f_7
  have f_12 := Fld.other W_10 f_8 (Or.inr (slot_ne (Or.inr (w_23 hw)) (Or.inr (w_25 hw)) (by decide) (t := (.array .byte)) (t' := .byte) (by decide) (by decide)))
  have f_13 := Fld.same W_10 f_9
  refine o_return X_10 K d4_14 (by decide) (by decide) N_10 ?_
  rw [e_10]
  exact ⟨rfl, K_10, f_11, f_12, f_13⟩
theorem d1_0 : decode jdk_42_method_139_code 0 = .ok (.getstatic 38, 3) := by decide +kernel
theorem d1_3 : decode jdk_42_method_139_code 3 = .ok (.ifCond .eq 23, 3) := by decide +kernel
theorem d1_6 : decode jdk_42_method_139_code 6 = .ok (.iload_n 0, 1) := by decide +kernel
theorem d1_7 : decode jdk_42_method_139_code 7 = .ok (.invokestatic 1015, 3) := by decide +kernel
theorem pd__C_Z : parseMethodDescriptor "(C)Z" = some ⟨[.char], some .boolean⟩ := by decide +kernel
theorem d1_10 : decode jdk_42_method_139_code 10 = .ok (.ifCond .eq 16, 3) := by decide +kernel
theorem d1_13 : decode jdk_42_method_139_code 13 = .ok (.new 10, 3) := by decide +kernel
theorem d1_16 : decode jdk_42_method_139_code 16 = .ok (.dup, 1) := by decide +kernel
theorem d1_17 : decode jdk_42_method_139_code 17 = .ok (.iload_n 0, 1) := by decide +kernel
theorem d1_18 : decode jdk_42_method_139_code 18 = .ok (.invokestatic 1018, 3) := by decide +kernel
theorem pd__C__B : parseMethodDescriptor "(C)[B" = some ⟨[.char], some (.array .byte)⟩ := by decide +kernel
theorem d1_21 : decode jdk_42_method_139_code 21 = .ok (.iconst 0, 1) := by decide +kernel
theorem d1_22 : decode jdk_42_method_139_code 22 = .ok (.invokespecial 209, 3) := by decide +kernel
theorem pd___BB_V : parseMethodDescriptor "([BB)V" = some ⟨[(.array .byte), .byte], none⟩ := by decide +kernel
theorem d1_25 : decode jdk_42_method_139_code 25 = .ok (.areturn, 1) := by decide +kernel
theorem pn_1 : plainFor (⟨"java/lang/String", "valueOf", "(C)Ljava/lang/String;"⟩ : MethodName) = true := plainFor_of_name (by first | (simp [plainName, overriddenIn]; done) | decide +kernel)
set_option maxHeartbeats 4000000 in
theorem c_sval (l : Launch) (Z : State) (a0 : Array Value) (hw : OW Z a0) (n0 : Nat) (z zcs : Int32) (h0 : Heap) (Z0 : n0 ≤ h0.size) (S_COMPACT_STRINGS : Sta Z h0 "java/lang/String" "COMPACT_STRINGS" "Z" (.int zcs)) (hcs : ¬ zcs = 0) (hz : z.toInt ≤ (255 : Int32).toInt) :
    OCon l Z n0 (⟨"java/lang/String", "valueOf", "(C)Ljava/lang/String;"⟩ : MethodName) jdk_42_method_139_code 1 (some (.object "java/lang/String")) ({ frames := 2, cells := 2, slots := 5, locals := 30 } : Room) #[(.int z)] h0 (fun v h => ∃ sx tb : Addr, v = some (.ref sx) ∧ Keep h0 h [] ∧ n0 ≤ sx ∧ h0.size ≤ sx ∧ n0 ≤ tb ∧ h0.size ≤ tb ∧ Exa Z h sx "java/lang/String" ∧ Fld Z h sx "java/lang/String" "value" "[B" (.ref tb) ∧ Fld Z h sx "java/lang/String" "coder" "B" (.int (0 : Int32)) ∧ OAr Z h tb .byte 1 (own_B [(z.toInt8.toInt32)]) ∧ Exa Z h tb "[B") := by
  refine OCon.of (Ls := #[.val (.int z)]) pn_1 rfl rfl (fun m => by first | (simp [entryFrame, mkF, argsToLocals, Value.category]; done) | rfl) ?_
  intro p e s m below meth c T0 X0 K e0
  have N0 := Fr.nil n0
  have KK0 := Keep.refl h0 []
  refine o_getstatic X0 K (host := "") d1_0 3 rfl (Or.inl (w_4 hw)) Via.refl e0 S_COMPACT_STRINGS ?_
  intro T_14 X_14 e_14
  refine o_if_eq_f X_14 K d1_3 6 rfl (hcs) ?_
  refine o_iloadN X_14 K d1_6 7 rfl rfl ?_
  refine o_invokestatic X_14 K d1_7 10 rfl (w_5 hw) (w_6 hw) (w_7 hw) (w_8 hw) (by decide) [(.int z)] [] rfl  (c_can l Z a0 hw n0 z h0 Z0 (hz)) e_14 rfl (lenOf pd__C_Z rfl) (by decide) 0 (Nat.le_of_eq rfl) (by decide) (by decide) (by decide) N0 ?_
  rintro _ T_15 h_15 locs_15 X_15 q_15 ⟨rfl, r_15⟩ N_15
  have e_15 := q_15.trans r_15
  show OGo p e below _ n0 _ (T_15.setTop (mkF m 10 #[.val (.int z)] [(.int (1 : Int32))]))
  refine o_if_eq_f X_15 K d1_10 13 rfl (by decide) ?_
  refine o_new X_15 K d1_13 16 rfl (w_9 hw) (w_10 hw) (w_2 hw) e_15 (by decide) (by decide) ?_
  intro T_16 h_16 sx g_16 X_16 e_16 E_16 B_16 D_16
  have Z_16 : n0 ≤ h_16.size := Nat.le_trans Z0 E_16.1
  have K_16 := KK0.ext E_16
  have f_17 := Sta.ext E_16 S_COMPACT_STRINGS
  have g_sx : n0 ≤ sx := by rw [g_16]; exact Z0
  have sz_sx : h0.size ≤ sx := by rw [g_16]; exact KK0.1
  have F_value__16 : Fld Z h_16 sx "java/lang/String" "value" "[B" .null := D_16 (Or.inr (w_23 hw)) (ty := (.array .byte)) (by decide)
  have F_coder__16 : Fld Z h_16 sx "java/lang/String" "coder" "B" (.int (0 : Int32)) := D_16 (Or.inr (w_25 hw)) (ty := .byte) (by decide)
  refine o_dup X_16 K d1_16 17 rfl rfl ?_
  refine o_iloadN X_16 K d1_17 18 rfl rfl ?_
  refine o_invokestatic X_16 K d1_18 21 rfl (w_11 hw) (w_12 hw) (w_7 hw) (w_13 hw) (by decide) [(.int z)] [(.ref sx), (.ref sx)] rfl  (c_tob l Z a0 hw n0 z h_16 Z_16 ) e_16 rfl (lenOf pd__C__B rfl) (by decide) 2 (Nat.le_of_eq rfl) (by decide) (by decide) (by decide) N_15 ?_
  rintro _ T_18 h_18 locs_18 X_18 e_18 ⟨tb, rfl, k_18, gg_18_tb, sz_18_tb, p_18f0, p_18f1⟩ N_18
  have Z_18 : n0 ≤ h_18.size := Nat.le_trans Z_16 k_18.1
  have K_18 := K_16.trans k_18 (all0)
  have f_19 := o_sta_keep f_17 k_18 (o_plain0)
  have f_20 := Exa.keep B_16 k_18
  have f_21 := Fld.keep F_value__16 k_18 (nin0)
  have f_22 := Fld.keep F_coder__16 k_18 (nin0)
  have ne_sx_tb : sx ≠ tb := Nat.ne_of_lt (Nat.lt_of_lt_of_le B_16.lt sz_18_tb)
  have sz_tb : h0.size ≤ tb := Nat.le_trans K_16.1 sz_18_tb
  show OGo p e below _ n0 _ (T_18.setTop (mkF m 21 #[.val (.int z)] [(.ref tb), (.ref sx), (.ref sx)]))
  refine o_iconst X_18 K (0 : Int32) d1_21 22 rfl rfl ?_
  refine o_invokespecial X_18 K d1_22 25 rfl rfl (w_15 hw) (w_16 hw) (w_2 hw) (w_18 hw) (by decide) [(.ref tb), (.int (0 : Int32))] [(.ref sx)] rfl  (c_sinit l Z a0 hw n0 sx tb h_18 Z_18 f_20 f_21 f_22 g_sx) e_18 rfl (lenOf pd___BB_V rfl) (by decide) 1 (Nat.le_of_eq rfl) (by decide) (by decide) (by decide) N_18 ?_
  rintro _ T_23 h_23 locs_23 X_23 e_23 ⟨rfl, k_23, p_23f0, p_23f1, p_23f2⟩ N_23
  have Z_23 : n0 ≤ h_23.size := Nat.le_trans Z_18 k_23.1
  have K_23 := K_18.trans k_23 (allS (Or.inr sz_sx) (all0))
  have f_24 := o_sta_keep f_19 k_23 (o_plainS f_20 (o_plain0))
  have f_25 := Exa.keep f_20 k_23
  have f_26 := p_18f0.keep k_23 (ninS (Ne.symm ne_sx_tb) (nin0))
  have f_27 := Exa.keep p_18f1 k_23
  show OGo p e below _ n0 _ (T_23.setTop (mkF m 25 #[.val (.int z)] [(.ref sx)]))
  refine o_areturn X_23 K rfl rfl rfl d1_25 (by decide) (by decide) N_23 ?_
  rw [e_23]
  exact ⟨sx, tb, rfl, K_23, g_sx, sz_sx, gg_18_tb, sz_tb, p_23f0, p_23f1, p_23f2, f_26, f_27⟩
theorem d9_0 : decode jdk_52_method_21_code 0 = .ok (.iconst 0, 1) := by decide +kernel
theorem d9_1 : decode jdk_52_method_21_code 1 = .ok (.istore 5, 2) := by decide +kernel
theorem d9_3 : decode jdk_52_method_21_code 3 = .ok (.iload 5, 2) := by decide +kernel
theorem d9_5 : decode jdk_52_method_21_code 5 = .ok (.iload 4, 2) := by decide +kernel
theorem d9_7 : decode jdk_52_method_21_code 7 = .ok (.if_icmp .ge 37, 3) := by decide +kernel
theorem d9_10 : decode jdk_52_method_21_code 10 = .ok (.aload_n 0, 1) := by decide +kernel
theorem d9_11 : decode jdk_52_method_21_code 11 = .ok (.iload_n 1, 1) := by decide +kernel
theorem d9_12 : decode jdk_52_method_21_code 12 = .ok (.caload, 1) := by decide +kernel
theorem d9_13 : decode jdk_52_method_21_code 13 = .ok (.istore 6, 2) := by decide +kernel
theorem d9_15 : decode jdk_52_method_21_code 15 = .ok (.iload 6, 2) := by decide +kernel
theorem d9_17 : decode jdk_52_method_21_code 17 = .ok (.sipush 255, 3) := by decide +kernel
theorem d9_20 : decode jdk_52_method_21_code 20 = .ok (.if_icmp .le 6, 3) := by decide +kernel
theorem d9_26 : decode jdk_52_method_21_code 26 = .ok (.aload_n 2, 1) := by decide +kernel
theorem d9_27 : decode jdk_52_method_21_code 27 = .ok (.iload_n 3, 1) := by decide +kernel
theorem d9_28 : decode jdk_52_method_21_code 28 = .ok (.iload 6, 2) := by decide +kernel
theorem d9_30 : decode jdk_52_method_21_code 30 = .ok (.i2b, 1) := by decide +kernel
theorem d9_31 : decode jdk_52_method_21_code 31 = .ok (.bastore, 1) := by decide +kernel
theorem d9_32 : decode jdk_52_method_21_code 32 = .ok (.iinc 1 1, 3) := by decide +kernel
theorem d9_35 : decode jdk_52_method_21_code 35 = .ok (.iinc 3 1, 3) := by decide +kernel
theorem d9_38 : decode jdk_52_method_21_code 38 = .ok (.iinc 5 1, 3) := by decide +kernel
theorem d9_41 : decode jdk_52_method_21_code 41 = .ok (.goto (-38), 3) := by decide +kernel
theorem d9_44 : decode jdk_52_method_21_code 44 = .ok (.iload 4, 2) := by decide +kernel
theorem d9_46 : decode jdk_52_method_21_code 46 = .ok (.ireturn, 1) := by decide +kernel
theorem pn_9 : plainFor (⟨"java/lang/StringUTF16", "compress", "([CI[BII)I"⟩ : MethodName) = true := plainFor_of_name (by first | (simp [plainName, overriddenIn]; done) | decide +kernel)
set_option maxHeartbeats 4000000 in
theorem c_cmp5 (l : Launch) (Z : State) (a0 : Array Value) (hw : OW Z a0) (n0 : Nat) (ca bb : Addr) (y0 y1 : Int32) (h0 : Heap) (Z0 : n0 ≤ h0.size) (A_ca : OAr Z h0 ca .char 2 (own_B [y0, y1])) (A_bb : OAr Z h0 bb .byte 2 (fun _ => .int 0)) (g_bb : n0 ≤ bb) (E_bb : Exa Z h0 bb "[B") (ne_ca_bb : ca ≠ bb) (hy0 : y0.toInt ≤ (255 : Int32).toInt) (hy1 : y1.toInt ≤ (255 : Int32).toInt) :
    OCon l Z n0 (⟨"java/lang/StringUTF16", "compress", "([CI[BII)I"⟩ : MethodName) jdk_52_method_21_code 7 (some .int) ({ frames := 0, cells := 0, slots := 0, locals := 0 } : Room) #[(.ref ca), (.int (0 : Int32)), (.ref bb), (.int (0 : Int32)), (.int (2 : Int32))] h0 (fun v h => v = some (.int (2 : Int32)) ∧ Keep h0 h [bb] ∧ OAr Z h bb .byte 2 (own_B [(y0.toInt8.toInt32), (y1.toInt8.toInt32)]) ∧ Exa Z h bb "[B") := by
  refine OCon.of (Ls := #[.val (.ref ca), .val (.int (0 : Int32)), .val (.ref bb), .val (.int (0 : Int32)), .val (.int (2 : Int32)), .unset, .unset]) pn_9 rfl rfl (fun m => by first | (simp [entryFrame, mkF, argsToLocals, Value.category]; done) | rfl) ?_
  intro p e s m below meth c T0 X0 K e0
  have N0 := Fr.nil n0
  have KK0 := Keep.refl h0 [bb]
  refine o_iconst X0 K (0 : Int32) d9_0 1 rfl rfl ?_
  refine o_istore X0 K d9_1 3 rfl #[.val (.ref ca), .val (.int (0 : Int32)), .val (.ref bb), .val (.int (0 : Int32)), .val (.int (2 : Int32)), .val (.int (0 : Int32)), .unset] rfl rfl ?_
  refine o_iload X0 K d9_3 5 rfl rfl ?_
  refine o_iload X0 K d9_5 7 rfl rfl ?_
  refine o_icmp_ge_f X0 K d9_7 10 rfl (by decide) ?_
  refine o_aloadN X0 K d9_10 11 rfl rfl rfl ?_
  refine o_iloadN X0 K d9_11 12 rfl rfl ?_
  refine o_caload X0 K (i := 0) (v := (.int y0)) d9_12 13 rfl e0 A_ca (by decide) (by decide) (rfl) ?_
  refine o_istore X0 K d9_13 15 rfl #[.val (.ref ca), .val (.int (0 : Int32)), .val (.ref bb), .val (.int (0 : Int32)), .val (.int (2 : Int32)), .val (.int (0 : Int32)), .val (.int y0)] rfl rfl ?_
  refine o_iload X0 K d9_15 17 rfl rfl ?_
  refine o_sipush X0 K (255 : Int32) d9_17 20 rfl rfl ?_
  refine o_icmp_le_t X0 K d9_20 26 (by decide) (by decide) (hy0) ?_
  refine o_aloadN X0 K d9_26 27 rfl rfl rfl ?_
  refine o_iloadN X0 K d9_27 28 rfl rfl ?_
  refine o_iload X0 K d9_28 30 rfl rfl ?_
  refine o_i2b X0 K d9_30 31 rfl ?_
  refine o_bastore X0 K (i := 0) (x' := (y0.toInt8.toInt32)) d9_31 32 rfl e0 A_bb (by decide) (by decide) (o_nb _) N0 g_bb ?_
  intro T_28 h_28 locs_28 X_28 e_28 W_28 A_28 N_28
  have Z_28 : n0 ≤ h_28.size := by rw [Wr.size W_28]; exact Z0
  have K_28 := KK0.wr W_28 (Or.inl (by simp))
  have f_29 := A_ca.other W_28 ne_ca_bb
  have f_30 := Exa.wr W_28 E_bb
  refine o_iinc X_28 K d9_32 35 rfl #[.val (.ref ca), .val (.int (1 : Int32)), .val (.ref bb), .val (.int (0 : Int32)), .val (.int (2 : Int32)), .val (.int (0 : Int32)), .val (.int y0)] rfl (by decide) rfl ?_
  refine o_iinc X_28 K d9_35 38 rfl #[.val (.ref ca), .val (.int (1 : Int32)), .val (.ref bb), .val (.int (1 : Int32)), .val (.int (2 : Int32)), .val (.int (0 : Int32)), .val (.int y0)] rfl (by decide) rfl ?_
  refine o_iinc X_28 K d9_38 41 rfl #[.val (.ref ca), .val (.int (1 : Int32)), .val (.ref bb), .val (.int (1 : Int32)), .val (.int (2 : Int32)), .val (.int (1 : Int32)), .val (.int y0)] rfl (by decide) rfl ?_
  refine o_goto X_28 K d9_41 3 (by decide) (by decide) ?_
  refine o_iload X_28 K d9_3 5 rfl rfl ?_
  refine o_iload X_28 K d9_5 7 rfl rfl ?_
  refine o_icmp_ge_f X_28 K d9_7 10 rfl (by decide) ?_
  refine o_aloadN X_28 K d9_10 11 rfl rfl rfl ?_
  refine o_iloadN X_28 K d9_11 12 rfl rfl ?_
  refine o_caload X_28 K (i := 1) (v := (.int y1)) d9_12 13 rfl e_28 f_29 (by decide) (by decide) (rfl) ?_
  refine o_istore X_28 K d9_13 15 rfl #[.val (.ref ca), .val (.int (1 : Int32)), .val (.ref bb), .val (.int (1 : Int32)), .val (.int (2 : Int32)), .val (.int (1 : Int32)), .val (.int y1)] rfl rfl ?_
  refine o_iload X_28 K d9_15 17 rfl rfl ?_
  refine o_sipush X_28 K (255 : Int32) d9_17 20 rfl rfl ?_
  refine o_icmp_le_t X_28 K d9_20 26 (by decide) (by decide) (hy1) ?_
  refine o_aloadN X_28 K d9_26 27 rfl rfl rfl ?_
  refine o_iloadN X_28 K d9_27 28 rfl rfl ?_
  refine o_iload X_28 K d9_28 30 rfl rfl ?_
  refine o_i2b X_28 K d9_30 31 rfl ?_
  refine o_bastore X_28 K (i := 1) (x' := (y1.toInt8.toInt32)) d9_31 32 rfl e_28 A_28 (by decide) (by decide) (o_nb _) N_28 g_bb ?_
  intro T_31 h_31 locs_31 X_31 e_31 W_31 A_31 N_31
  have Z_31 : n0 ≤ h_31.size := by rw [Wr.size W_31]; exact Z_28
  have K_31 := K_28.wr W_31 (Or.inl (by simp))
  have f_32 := f_29.other W_31 ne_ca_bb
  have f_33 := Exa.wr W_31 f_30
  refine o_iinc X_31 K d9_32 35 rfl #[.val (.ref ca), .val (.int (2 : Int32)), .val (.ref bb), .val (.int (1 : Int32)), .val (.int (2 : Int32)), .val (.int (1 : Int32)), .val (.int y1)] rfl (by decide) rfl ?_
  refine o_iinc X_31 K d9_35 38 rfl #[.val (.ref ca), .val (.int (2 : Int32)), .val (.ref bb), .val (.int (2 : Int32)), .val (.int (2 : Int32)), .val (.int (1 : Int32)), .val (.int y1)] rfl (by decide) rfl ?_
  refine o_iinc X_31 K d9_38 41 rfl #[.val (.ref ca), .val (.int (2 : Int32)), .val (.ref bb), .val (.int (2 : Int32)), .val (.int (2 : Int32)), .val (.int (2 : Int32)), .val (.int y1)] rfl (by decide) rfl ?_
  refine o_goto X_31 K d9_41 3 (by decide) (by decide) ?_
  refine o_iload X_31 K d9_3 5 rfl rfl ?_
  refine o_iload X_31 K d9_5 7 rfl rfl ?_
  refine o_icmp_ge_t X_31 K d9_7 44 (by decide) (by decide) (by decide) ?_
  refine o_iload X_31 K d9_44 46 rfl rfl ?_
  have AB_34 := OAr.congr A_31 (g := own_B [(y0.toInt8.toInt32), (y1.toInt8.toInt32)]) (fun j hj => by rcases (by omega : j = 0 ∨ j = 1) with rfl | rfl <;> rfl)
  refine o_ireturn X_31 K d9_46 (by decide) (by decide) N_31 ?_
  rw [e_31]
  exact ⟨rfl, K_31, AB_34, f_33⟩
theorem d8_0 : decode jdk_52_method_16_code 0 = .ok (.iload_n 2, 1) := by decide +kernel
theorem d8_1 : decode jdk_52_method_16_code 1 = .ok (.newarray .byte, 2) := by decide +kernel
theorem d8_3 : decode jdk_52_method_16_code 3 = .ok (.astore_n 3, 1) := by decide +kernel
theorem d8_4 : decode jdk_52_method_16_code 4 = .ok (.aload_n 0, 1) := by decide +kernel
theorem d8_5 : decode jdk_52_method_16_code 5 = .ok (.iload_n 1, 1) := by decide +kernel
theorem d8_6 : decode jdk_52_method_16_code 6 = .ok (.aload_n 3, 1) := by decide +kernel
theorem d8_7 : decode jdk_52_method_16_code 7 = .ok (.iconst 0, 1) := by decide +kernel
theorem d8_8 : decode jdk_52_method_16_code 8 = .ok (.iload_n 2, 1) := by decide +kernel
theorem d8_9 : decode jdk_52_method_16_code 9 = .ok (.invokestatic 115, 3) := by decide +kernel
theorem pd___CI_BII_I : parseMethodDescriptor "([CI[BII)I" = some ⟨[(.array .char), .int, (.array .byte), .int, .int], some .int⟩ := by decide +kernel
theorem d8_12 : decode jdk_52_method_16_code 12 = .ok (.istore 4, 2) := by decide +kernel
theorem d8_14 : decode jdk_52_method_16_code 14 = .ok (.iload 4, 2) := by decide +kernel
theorem d8_16 : decode jdk_52_method_16_code 16 = .ok (.iload_n 2, 1) := by decide +kernel
theorem d8_17 : decode jdk_52_method_16_code 17 = .ok (.if_icmp .eq 40, 3) := by decide +kernel
theorem d8_57 : decode jdk_52_method_16_code 57 = .ok (.aload_n 3, 1) := by decide +kernel
theorem d8_58 : decode jdk_52_method_16_code 58 = .ok (.areturn, 1) := by decide +kernel
theorem pn_8 : plainFor (⟨"java/lang/StringUTF16", "compress", "([CII)[B"⟩ : MethodName) = true := plainFor_of_name (by first | (simp [plainName, overriddenIn]; done) | decide +kernel)
set_option maxHeartbeats 4000000 in
theorem c_cmp3 (l : Launch) (Z : State) (a0 : Array Value) (hw : OW Z a0) (n0 : Nat) (ca : Addr) (y0 y1 : Int32) (h0 : Heap) (Z0 : n0 ≤ h0.size) (A_ca : OAr Z h0 ca .char 2 (own_B [y0, y1])) (hy0 : y0.toInt ≤ (255 : Int32).toInt) (hy1 : y1.toInt ≤ (255 : Int32).toInt) :
    OCon l Z n0 (⟨"java/lang/StringUTF16", "compress", "([CII)[B"⟩ : MethodName) jdk_52_method_16_code 6 (some (.array .byte)) ({ frames := 1, cells := 1, slots := 2, locals := 18 } : Room) #[(.ref ca), (.int (0 : Int32)), (.int (2 : Int32))] h0 (fun v h => ∃ bb : Addr, v = some (.ref bb) ∧ Keep h0 h [] ∧ n0 ≤ bb ∧ h0.size ≤ bb ∧ OAr Z h bb .byte 2 (own_B [(y0.toInt8.toInt32), (y1.toInt8.toInt32)]) ∧ Exa Z h bb "[B") := by
  refine OCon.of (Ls := #[.val (.ref ca), .val (.int (0 : Int32)), .val (.int (2 : Int32)), .unset, .unset, .unset]) pn_8 rfl rfl (fun m => by first | (simp [entryFrame, mkF, argsToLocals, Value.category]; done) | rfl) ?_
  intro p e s m below meth c T0 X0 K e0
  have N0 := Fr.nil n0
  have KK0 := Keep.refl h0 []
  refine o_iloadN X0 K d8_0 1 rfl rfl ?_
  refine o_newarrayE X0 K (n := 2) d8_1 3 rfl (w_14 hw) e0 (by decide) 2 (by decide) (by decide) (by decide) (by decide) rfl (ad := "[B") (by decide +kernel) ?_
  intro T_35 h_35 bb g_35 X_35 e_35 E_35 A_35 B_35
  dsimp only [newarray.typeOf, defaultValue] at A_35
  have Z_35 : n0 ≤ h_35.size := Nat.le_trans Z0 E_35.1
  have K_35 := KK0.ext E_35
  have f_36 := A_ca.ext E_35
  have g_bb : n0 ≤ bb := by rw [g_35]; exact Z0
  have ne_ca_bb : ca ≠ bb := by rw [g_35]; exact Nat.ne_of_lt A_ca.lt
  have sz_bb : h0.size ≤ bb := by rw [g_35]; exact KK0.1
  refine o_astoreN X_35 K d8_3 4 rfl #[.val (.ref ca), .val (.int (0 : Int32)), .val (.int (2 : Int32)), .val (.ref bb), .unset, .unset] rfl rfl ?_
  refine o_aloadN X_35 K d8_4 5 rfl rfl rfl ?_
  refine o_iloadN X_35 K d8_5 6 rfl rfl ?_
  refine o_aloadN X_35 K d8_6 7 rfl rfl rfl ?_
  refine o_iconst X_35 K (0 : Int32) d8_7 8 rfl rfl ?_
  refine o_iloadN X_35 K d8_8 9 rfl rfl ?_
  refine o_invokestatic X_35 K d8_9 12 rfl (w_38 hw) (w_39 hw) (w_36 hw) (w_40 hw) (by decide) [(.ref ca), (.int (0 : Int32)), (.ref bb), (.int (0 : Int32)), (.int (2 : Int32))] [] rfl  (c_cmp5 l Z a0 hw n0 ca bb y0 y1 h_35 Z_35 f_36 A_35 g_bb B_35 ne_ca_bb (hy0) (hy1)) e_35 rfl (lenOf pd___CI_BII_I rfl) (by decide) 0 (Nat.le_of_eq rfl) (by decide) (by decide) (by decide) N0 ?_
  rintro _ T_37 h_37 locs_37 X_37 e_37 ⟨rfl, k_37, p_37f0, p_37f1⟩ N_37
  have Z_37 : n0 ≤ h_37.size := Nat.le_trans Z_35 k_37.1
  have K_37 := K_35.trans k_37 (allS (Or.inr sz_bb) (all0))
  have f_38 := f_36.keep k_37 (ninS ne_ca_bb (nin0))
  have f_39 := Exa.keep B_35 k_37
  show OGo p e below _ n0 _ (T_37.setTop (mkF m 12 #[.val (.ref ca), .val (.int (0 : Int32)), .val (.int (2 : Int32)), .val (.ref bb), .unset, .unset] [(.int (2 : Int32))]))
  refine o_istore X_37 K d8_12 14 rfl #[.val (.ref ca), .val (.int (0 : Int32)), .val (.int (2 : Int32)), .val (.ref bb), .val (.int (2 : Int32)), .unset] rfl rfl ?_
  refine o_iload X_37 K d8_14 16 rfl rfl ?_
  refine o_iloadN X_37 K d8_16 17 rfl rfl ?_
  refine o_icmp_eq_t X_37 K d8_17 57 (by decide) (by decide) (by decide) ?_
  refine o_aloadN X_37 K d8_57 58 rfl rfl rfl ?_
  refine o_areturn X_37 K rfl rfl rfl d8_58 (by decide) (by decide) N_37 ?_
  rw [e_37]
  exact ⟨bb, rfl, K_37, g_bb, sz_bb, p_37f0, p_37f1⟩
theorem d10_0 : decode jdk_52_method_15_code 0 = .ok (.iload_n 1, 1) := by decide +kernel
theorem d10_1 : decode jdk_52_method_15_code 1 = .ok (.aload_n 0, 1) := by decide +kernel
theorem d10_2 : decode jdk_52_method_15_code 2 = .ok (.arraylength, 1) := by decide +kernel
theorem d10_3 : decode jdk_52_method_15_code 3 = .ok (.isub, 1) := by decide +kernel
theorem d10_4 : decode jdk_52_method_15_code 4 = .ok (.bipush 31, 2) := by decide +kernel
theorem d10_6 : decode jdk_52_method_15_code 6 = .ok (.iushr, 1) := by decide +kernel
theorem d10_7 : decode jdk_52_method_15_code 7 = .ok (.i2b, 1) := by decide +kernel
theorem d10_8 : decode jdk_52_method_15_code 8 = .ok (.ireturn, 1) := by decide +kernel
theorem pn_10 : plainFor (⟨"java/lang/StringUTF16", "coderFromArrayLen", "([BI)B"⟩ : MethodName) = true := plainFor_of_name (by first | (simp [plainName, overriddenIn]; done) | decide +kernel)
set_option maxHeartbeats 4000000 in
theorem c_cfl (l : Launch) (Z : State) (a0 : Array Value) (hw : OW Z a0) (n0 : Nat) (bb : Addr) (f0 : Nat → Value) (h0 : Heap) (Z0 : n0 ≤ h0.size) (A_bb : OAr Z h0 bb .byte 2 f0) :
    OCon l Z n0 (⟨"java/lang/StringUTF16", "coderFromArrayLen", "([BI)B"⟩ : MethodName) jdk_52_method_15_code 2 (some .byte) ({ frames := 0, cells := 0, slots := 0, locals := 0 } : Room) #[(.ref bb), (.int (2 : Int32))] h0 (fun v h => v = some (.int (0 : Int32)) ∧ h = h0) := by
  refine OCon.of (Ls := #[.val (.ref bb), .val (.int (2 : Int32))]) pn_10 rfl rfl (fun m => by first | (simp [entryFrame, mkF, argsToLocals, Value.category]; done) | rfl) ?_
  intro p e s m below meth c T0 X0 K e0
  have N0 := Fr.nil n0
  refine o_iloadN X0 K d10_0 1 rfl rfl ?_
  refine o_aloadN X0 K d10_1 2 rfl rfl rfl ?_
  refine o_arraylength X0 K d10_2 3 rfl e0 A_bb (v := (2 : Int32)) (rfl) ?_
  refine o_isub X0 K d10_3 4 rfl ?_
  refine o_bipush X0 K (31 : Int32) d10_4 6 rfl rfl ?_
  refine o_iushr X0 K d10_6 7 rfl ?_
  refine o_i2b X0 K d10_7 8 rfl ?_
  refine o_ireturnN X0 K (by decide) d10_8 (by decide) (by decide) N0 ?_
  exact ⟨rfl, e0⟩
theorem d7_0 : decode jdk_42_method_149_code 0 = .ok (.aload_n 0, 1) := by decide +kernel
theorem d7_1 : decode jdk_42_method_149_code 1 = .ok (.invokespecial 1, 3) := by decide +kernel
theorem d7_4 : decode jdk_42_method_149_code 4 = .ok (.iload_n 3, 1) := by decide +kernel
theorem d7_5 : decode jdk_42_method_149_code 5 = .ok (.ifCond .ne 22, 3) := by decide +kernel
theorem d7_27 : decode jdk_42_method_149_code 27 = .ok (.getstatic 38, 3) := by decide +kernel
theorem d7_30 : decode jdk_42_method_149_code 30 = .ok (.ifCond .eq 28, 3) := by decide +kernel
theorem d7_33 : decode jdk_42_method_149_code 33 = .ok (.aload_n 1, 1) := by decide +kernel
theorem d7_34 : decode jdk_42_method_149_code 34 = .ok (.iload_n 2, 1) := by decide +kernel
theorem d7_35 : decode jdk_42_method_149_code 35 = .ok (.iload_n 3, 1) := by decide +kernel
theorem d7_36 : decode jdk_42_method_149_code 36 = .ok (.invokestatic 177, 3) := by decide +kernel
theorem pd___CII__B : parseMethodDescriptor "([CII)[B" = some ⟨[(.array .char), .int, .int], some (.array .byte)⟩ := by decide +kernel
theorem d7_39 : decode jdk_42_method_149_code 39 = .ok (.astore 5, 2) := by decide +kernel
theorem d7_41 : decode jdk_42_method_149_code 41 = .ok (.aload_n 0, 1) := by decide +kernel
theorem d7_42 : decode jdk_42_method_149_code 42 = .ok (.aload 5, 2) := by decide +kernel
theorem d7_44 : decode jdk_42_method_149_code 44 = .ok (.iload_n 3, 1) := by decide +kernel
theorem d7_45 : decode jdk_42_method_149_code 45 = .ok (.invokestatic 47, 3) := by decide +kernel
theorem pd___BI_B : parseMethodDescriptor "([BI)B" = some ⟨[(.array .byte), .int], some .byte⟩ := by decide +kernel
theorem d7_48 : decode jdk_42_method_149_code 48 = .ok (.putfield 15, 3) := by decide +kernel
theorem d7_51 : decode jdk_42_method_149_code 51 = .ok (.aload_n 0, 1) := by decide +kernel
theorem d7_52 : decode jdk_42_method_149_code 52 = .ok (.aload 5, 2) := by decide +kernel
theorem d7_54 : decode jdk_42_method_149_code 54 = .ok (.putfield 9, 3) := by decide +kernel
theorem d7_57 : decode jdk_42_method_149_code 57 = .ok (.return_, 1) := by decide +kernel
theorem pn_7 : plainFor (⟨"java/lang/String", "<init>", "([CIILjava/lang/Void;)V"⟩ : MethodName) = true := plainFor_of_name (by first | (simp [plainName, overriddenIn]; done) | decide +kernel)
set_option maxHeartbeats 4000000 in
theorem c_new7 (l : Launch) (Z : State) (a0 : Array Value) (hw : OW Z a0) (n0 : Nat) (a ca : Addr) (y0 y1 zcs : Int32) (h0 : Heap) (Z0 : n0 ≤ h0.size) (S_COMPACT_STRINGS : Sta Z h0 "java/lang/String" "COMPACT_STRINGS" "Z" (.int zcs)) (hcs : ¬ zcs = 0) (E_a : Exa Z h0 a "java/lang/String") (F_a_value : Fld Z h0 a "java/lang/String" "value" "[B" .null) (F_a_coder : Fld Z h0 a "java/lang/String" "coder" "B" (.int (0 : Int32))) (g_a : n0 ≤ a) (A_ca : OAr Z h0 ca .char 2 (own_B [y0, y1])) (ne_a_ca : a ≠ ca) (hy0 : y0.toInt ≤ (255 : Int32).toInt) (hy1 : y1.toInt ≤ (255 : Int32).toInt) :
    OCon l Z n0 (⟨"java/lang/String", "<init>", "([CIILjava/lang/Void;)V"⟩ : MethodName) jdk_42_method_149_code 6 none ({ frames := 2, cells := 1, slots := 2, locals := 36 } : Room) #[(.ref a), (.ref ca), (.int (0 : Int32)), (.int (2 : Int32)), .null] h0 (fun v h => ∃ bb : Addr, v = none ∧ Keep h0 h [a] ∧ n0 ≤ bb ∧ h0.size ≤ bb ∧ Exa Z h a "java/lang/String" ∧ Fld Z h a "java/lang/String" "value" "[B" (.ref bb) ∧ Fld Z h a "java/lang/String" "coder" "B" (.int (0 : Int32)) ∧ OAr Z h bb .byte 2 (own_B [(y0.toInt8.toInt32), (y1.toInt8.toInt32)]) ∧ Exa Z h bb "[B") := by
  refine OCon.of (Ls := #[.val (.ref a), .val (.ref ca), .val (.int (0 : Int32)), .val (.int (2 : Int32)), .val .null, .unset]) pn_7 rfl rfl (fun m => by first | (simp [entryFrame, mkF, argsToLocals, Value.category]; done) | rfl) ?_
  intro p e s m below meth c T0 X0 K e0
  have N0 := Fr.nil n0
  have KK0 := Keep.refl h0 [a]
  refine o_aloadN X0 K d7_0 1 rfl rfl rfl ?_
  refine o_initO X0 K d7_1 4 rfl (w_19 hw) (w_20 hw) (w_21 hw) e0 rfl (by decide) 0 (Nat.le_of_eq rfl) (by decide) ?_
  intro T_40 X_40 e_40
  refine o_iloadN X_40 K d7_4 5 rfl rfl ?_
  refine o_if_ne_t X_40 K d7_5 27 (by decide) (by decide) (by decide) ?_
  refine o_getstatic X_40 K (host := "") d7_27 30 rfl (Or.inl (w_4 hw)) Via.refl e_40 S_COMPACT_STRINGS ?_
  intro T_41 X_41 e_41
  refine o_if_eq_f X_41 K d7_30 33 rfl (hcs) ?_
  refine o_aloadN X_41 K d7_33 34 rfl rfl rfl ?_
  refine o_iloadN X_41 K d7_34 35 rfl rfl ?_
  refine o_iloadN X_41 K d7_35 36 rfl rfl ?_
  refine o_invokestatic X_41 K d7_36 39 rfl (w_34 hw) (w_35 hw) (w_36 hw) (w_37 hw) (by decide) [(.ref ca), (.int (0 : Int32)), (.int (2 : Int32))] [] rfl  (c_cmp3 l Z a0 hw n0 ca y0 y1 h0 Z0 A_ca (hy0) (hy1)) e_41 rfl (lenOf pd___CII__B rfl) (by decide) 0 (Nat.le_of_eq rfl) (by decide) (by decide) (by decide) N0 ?_
  rintro _ T_42 h_42 locs_42 X_42 e_42 ⟨bb, rfl, k_42, gg_42_bb, sz_42_bb, p_42f0, p_42f1⟩ N_42
  have Z_42 : n0 ≤ h_42.size := Nat.le_trans Z0 k_42.1
  have K_42 := KK0.trans k_42 (all0)
  have f_43 := o_sta_keep S_COMPACT_STRINGS k_42 (o_plain0)
  have f_44 := Exa.keep E_a k_42
  have f_45 := Fld.keep F_a_value k_42 (nin0)
  have f_46 := Fld.keep F_a_coder k_42 (nin0)
  have f_47 := A_ca.keep k_42 (nin0)
  have ne_a_bb : a ≠ bb := Nat.ne_of_lt (Nat.lt_of_lt_of_le E_a.lt sz_42_bb)
  have ne_ca_bb : ca ≠ bb := Nat.ne_of_lt (Nat.lt_of_lt_of_le A_ca.lt sz_42_bb)
  have sz_bb : h0.size ≤ bb := Nat.le_trans KK0.1 sz_42_bb
  show OGo p e below _ n0 _ (T_42.setTop (mkF m 39 #[.val (.ref a), .val (.ref ca), .val (.int (0 : Int32)), .val (.int (2 : Int32)), .val .null, .unset] [(.ref bb)]))
  refine o_astore X_42 K d7_39 41 rfl #[.val (.ref a), .val (.ref ca), .val (.int (0 : Int32)), .val (.int (2 : Int32)), .val .null, .val (.ref bb)] rfl rfl ?_
  refine o_aloadN X_42 K d7_41 42 rfl rfl rfl ?_
  refine o_aload X_42 K d7_42 44 rfl rfl rfl ?_
  refine o_iloadN X_42 K d7_44 45 rfl rfl ?_
  refine o_invokestatic X_42 K d7_45 48 rfl (w_41 hw) (w_42 hw) (w_36 hw) (w_43 hw) (by decide) [(.ref bb), (.int (2 : Int32))] [(.ref a)] rfl  (c_cfl l Z a0 hw n0 bb _ h_42 Z_42 p_42f0) e_42 rfl (lenOf pd___BI_B rfl) (by decide) 1 (Nat.le_of_eq rfl) (by decide) (by decide) (by decide) N_42 ?_
  rintro _ T_48 h_48 locs_48 X_48 q_48 ⟨rfl, r_48⟩ N_48
  have e_48 := q_48.trans r_48
  show OGo p e below _ n0 _ (T_48.setTop (mkF m 48 #[.val (.ref a), .val (.ref ca), .val (.int (0 : Int32)), .val (.int (2 : Int32)), .val .null, .val (.ref bb)] [(.int (0 : Int32)), (.ref a)]))
  refine o_putfieldN X_48 K (v' := (.int (0 : Int32))) (ty := .byte) d7_48 51 rfl (w_24 hw) Via.refl e_48 f_46 f_44 (Or.inr ⟨(w_25 hw), rfl, rfl⟩) (w_10 hw) (by decide) (rfl) (by decide) N_48 g_a ?_
  intro T_49 h_49 locs_49 X_49 e_49 W_49 N_49
  have Z_49 : n0 ≤ h_49.size := by rw [Wr.size W_49]; exact Z_42
  have K_49 := K_42.wr W_49 (Or.inl (by simp))
  have f_50 := Sta.wr W_49 f_43
  have f_51 := Exa.wr W_49 f_44
  have f_52 := Fld.other W_49 f_45 (Or.inr (slot_ne (Or.inr (w_23 hw)) (Or.inr (w_25 hw)) (by decide) (t := (.array .byte)) (t' := .byte) (by decide) (by decide)))
  have f_53 := Fld.same W_49 f_46
  have f_54 := f_47.other W_49 (Ne.symm ne_a_ca)
  have f_55 := p_42f0.other W_49 (Ne.symm ne_a_bb)
  have f_56 := Exa.wr W_49 p_42f1
  refine o_aloadN X_49 K d7_51 52 rfl rfl rfl ?_
  refine o_aload X_49 K d7_52 54 rfl rfl rfl ?_
  refine o_putfield X_49 K (host := "") (ty := (.array .byte)) d7_54 57 rfl (Or.inl (w_22 hw)) Via.refl e_49 f_52 f_51 (Or.inr ⟨(w_23 hw), rfl, rfl⟩) (w_10 hw) (by decide) rfl rfl N_49 g_a ?_
  intro T_57 h_57 locs_57 X_57 e_57 W_57 N_57
  have Z_57 : n0 ≤ h_57.size := by rw [Wr.size W_57]; exact Z_49
  have K_57 := K_49.wr W_57 (Or.inl (by simp))
  have f_58 := Sta.wr W_57 f_50
  have f_59 := Exa.wr W_57 f_51
  have f_60 := Fld.same W_57 f_52
  have f_61 := Fld.other W_57 f_53 (Or.inr (slot_ne (Or.inr (w_25 hw)) (Or.inr (w_23 hw)) (by decide) (t := .byte) (t' := (.array .byte)) (by decide) (by decide)))
  have f_62 := f_54.other W_57 (Ne.symm ne_a_ca)
  have f_63 := f_55.other W_57 (Ne.symm ne_a_bb)
  have f_64 := Exa.wr W_57 f_56
  refine o_return X_57 K d7_57 (by decide) (by decide) N_57 ?_
  rw [e_57]
  exact ⟨bb, rfl, K_57, gg_42_bb, sz_bb, f_59, f_60, f_61, f_63, f_64⟩
theorem d6_0 : decode jdk_42_method_3_code 0 = .ok (.aload_n 0, 1) := by decide +kernel
theorem d6_1 : decode jdk_42_method_3_code 1 = .ok (.aload_n 1, 1) := by decide +kernel
theorem d6_2 : decode jdk_42_method_3_code 2 = .ok (.iconst 0, 1) := by decide +kernel
theorem d6_3 : decode jdk_42_method_3_code 3 = .ok (.aload_n 1, 1) := by decide +kernel
theorem d6_4 : decode jdk_42_method_3_code 4 = .ok (.arraylength, 1) := by decide +kernel
theorem d6_5 : decode jdk_42_method_3_code 5 = .ok (.aconst_null, 1) := by decide +kernel
theorem d6_6 : decode jdk_42_method_3_code 6 = .ok (.invokespecial 27, 3) := by decide +kernel
theorem pd___CIILjava_lang_Void__V : parseMethodDescriptor "([CIILjava/lang/Void;)V" = some ⟨[(.array .char), .int, .int, (.object "java/lang/Void")], none⟩ := by decide +kernel
theorem d6_9 : decode jdk_42_method_3_code 9 = .ok (.return_, 1) := by decide +kernel
theorem pn_6 : plainFor (⟨"java/lang/String", "<init>", "([C)V"⟩ : MethodName) = true := plainFor_of_name (by first | (simp [plainName, overriddenIn]; done) | decide +kernel)
set_option maxHeartbeats 4000000 in
theorem c_new6 (l : Launch) (Z : State) (a0 : Array Value) (hw : OW Z a0) (n0 : Nat) (a ca : Addr) (y0 y1 zcs : Int32) (h0 : Heap) (Z0 : n0 ≤ h0.size) (S_COMPACT_STRINGS : Sta Z h0 "java/lang/String" "COMPACT_STRINGS" "Z" (.int zcs)) (hcs : ¬ zcs = 0) (E_a : Exa Z h0 a "java/lang/String") (F_a_value : Fld Z h0 a "java/lang/String" "value" "[B" .null) (F_a_coder : Fld Z h0 a "java/lang/String" "coder" "B" (.int (0 : Int32))) (g_a : n0 ≤ a) (A_ca : OAr Z h0 ca .char 2 (own_B [y0, y1])) (ne_a_ca : a ≠ ca) (hy0 : y0.toInt ≤ (255 : Int32).toInt) (hy1 : y1.toInt ≤ (255 : Int32).toInt) :
    OCon l Z n0 (⟨"java/lang/String", "<init>", "([C)V"⟩ : MethodName) jdk_42_method_3_code 2 none ({ frames := 3, cells := 1, slots := 2, locals := 53 } : Room) #[(.ref a), (.ref ca)] h0 (fun v h => ∃ bb : Addr, v = none ∧ Keep h0 h [a] ∧ n0 ≤ bb ∧ h0.size ≤ bb ∧ Exa Z h a "java/lang/String" ∧ Fld Z h a "java/lang/String" "value" "[B" (.ref bb) ∧ Fld Z h a "java/lang/String" "coder" "B" (.int (0 : Int32)) ∧ OAr Z h bb .byte 2 (own_B [(y0.toInt8.toInt32), (y1.toInt8.toInt32)]) ∧ Exa Z h bb "[B") := by
  refine OCon.of (Ls := #[.val (.ref a), .val (.ref ca)]) pn_6 rfl rfl (fun m => by first | (simp [entryFrame, mkF, argsToLocals, Value.category]; done) | rfl) ?_
  intro p e s m below meth c T0 X0 K e0
  have N0 := Fr.nil n0
  have KK0 := Keep.refl h0 [a]
  refine o_aloadN X0 K d6_0 1 rfl rfl rfl ?_
  refine o_aloadN X0 K d6_1 2 rfl rfl rfl ?_
  refine o_iconst X0 K (0 : Int32) d6_2 3 rfl rfl ?_
  refine o_aloadN X0 K d6_3 4 rfl rfl rfl ?_
  refine o_arraylength X0 K d6_4 5 rfl e0 A_ca (v := (2 : Int32)) (rfl) ?_
  refine o_aconst_null X0 K d6_5 6 rfl ?_
  refine o_invokespecial X0 K d6_6 9 rfl rfl (w_31 hw) (w_32 hw) (w_2 hw) (w_33 hw) (by decide) [(.ref ca), (.int (0 : Int32)), (.int (2 : Int32)), .null] [] rfl  (c_new7 l Z a0 hw n0 a ca y0 y1 zcs h0 Z0 S_COMPACT_STRINGS (hcs) E_a F_a_value F_a_coder g_a A_ca ne_a_ca (hy0) (hy1)) e0 rfl (lenOf pd___CIILjava_lang_Void__V rfl) (by decide) 0 (Nat.le_of_eq rfl) (by decide) (by decide) (by decide) N0 ?_
  rintro _ T_65 h_65 locs_65 X_65 e_65 ⟨bb, rfl, k_65, gg_65_bb, sz_65_bb, p_65f0, p_65f1, p_65f2, p_65f3, p_65f4⟩ N_65
  have Z_65 : n0 ≤ h_65.size := Nat.le_trans Z0 k_65.1
  have K_65 := KK0.trans k_65 (allS (Or.inl (by simp)) (all0))
  have f_66 := o_sta_keep S_COMPACT_STRINGS k_65 (o_plainS E_a (o_plain0))
  have f_67 := Exa.keep E_a k_65
  have f_68 := A_ca.keep k_65 (ninS (Ne.symm ne_a_ca) (nin0))
  have ne_a_bb : a ≠ bb := Nat.ne_of_lt (Nat.lt_of_lt_of_le E_a.lt sz_65_bb)
  have ne_ca_bb : ca ≠ bb := Nat.ne_of_lt (Nat.lt_of_lt_of_le A_ca.lt sz_65_bb)
  have sz_bb : h0.size ≤ bb := Nat.le_trans KK0.1 sz_65_bb
  show OGo p e below _ n0 _ (T_65.setTop (mkF m 9 #[.val (.ref a), .val (.ref ca)] []))
  refine o_return X_65 K d6_9 (by decide) (by decide) N_65 ?_
  rw [e_65]
  exact ⟨bb, rfl, K_65, gg_65_bb, sz_bb, p_65f0, p_65f1, p_65f2, p_65f3, p_65f4⟩
theorem d22_0 : decode jdk_29_method_69_code 0 = .ok (.iload_n 0, 1) := by decide +kernel
theorem d22_1 : decode jdk_29_method_69_code 1 = .ok (.iload_n 1, 1) := by decide +kernel
theorem d22_2 : decode jdk_29_method_69_code 2 = .ok (.if_icmp .gt 7, 3) := by decide +kernel
theorem d22_5 : decode jdk_29_method_69_code 5 = .ok (.iload_n 0, 1) := by decide +kernel
theorem d22_6 : decode jdk_29_method_69_code 6 = .ok (.goto 4, 3) := by decide +kernel
theorem d22_10 : decode jdk_29_method_69_code 10 = .ok (.ireturn, 1) := by decide +kernel
theorem pn_22 : plainFor (⟨"java/lang/Math", "min", "(II)I"⟩ : MethodName) = true := Jvm.Free.JP.mathPlain rfl (by decide +kernel)
set_option maxHeartbeats 4000000 in
theorem c_minL (l : Launch) (Z : State) (a0 : Array Value) (hw : OW Z a0) (n0 : Nat) (x1 x2 : Int32) (h0 : Heap) (Z0 : n0 ≤ h0.size) (hx : x1.toInt ≤ x2.toInt) :
    OCon l Z n0 (⟨"java/lang/Math", "min", "(II)I"⟩ : MethodName) jdk_29_method_69_code 2 (some .int) ({ frames := 0, cells := 0, slots := 0, locals := 0 } : Room) #[(.int x1), (.int x2)] h0 (fun v h => v = some (.int x1) ∧ h = h0) := by
  refine OCon.of (Ls := #[.val (.int x1), .val (.int x2)]) pn_22 rfl rfl (fun m => by first | (simp [entryFrame, mkF, argsToLocals, Value.category]; done) | rfl) ?_
  intro p e s m below meth c T0 X0 K e0
  have N0 := Fr.nil n0
  refine o_iloadN X0 K d22_0 1 rfl rfl ?_
  refine o_iloadN X0 K d22_1 2 rfl rfl ?_
  refine o_icmp_gt_f X0 K d22_2 5 rfl (hx) ?_
  refine o_iloadN X0 K d22_5 6 rfl rfl ?_
  refine o_goto X0 K d22_6 10 (by decide) (by decide) ?_
  refine o_ireturn X0 K d22_10 (by decide) (by decide) N0 ?_
  exact ⟨rfl, e0⟩
theorem d22_9 : decode jdk_29_method_69_code 9 = .ok (.iload_n 1, 1) := by decide +kernel
set_option maxHeartbeats 4000000 in
theorem c_minR (l : Launch) (Z : State) (a0 : Array Value) (hw : OW Z a0) (n0 : Nat) (x1 x2 : Int32) (h0 : Heap) (Z0 : n0 ≤ h0.size) (hx : x2.toInt < x1.toInt) :
    OCon l Z n0 (⟨"java/lang/Math", "min", "(II)I"⟩ : MethodName) jdk_29_method_69_code 2 (some .int) ({ frames := 0, cells := 0, slots := 0, locals := 0 } : Room) #[(.int x1), (.int x2)] h0 (fun v h => v = some (.int x2) ∧ h = h0) := by
  refine OCon.of (Ls := #[.val (.int x1), .val (.int x2)]) pn_22 rfl rfl (fun m => by first | (simp [entryFrame, mkF, argsToLocals, Value.category]; done) | rfl) ?_
  intro p e s m below meth c T0 X0 K e0
  have N0 := Fr.nil n0
  refine o_iloadN X0 K d22_0 1 rfl rfl ?_
  refine o_iloadN X0 K d22_1 2 rfl rfl ?_
  refine o_icmp_gt_t X0 K d22_2 9 (by decide) (by decide) (hx) ?_
  refine o_iloadN X0 K d22_9 10 rfl rfl ?_
  refine o_ireturn X0 K d22_10 (by decide) (by decide) N0 ?_
  exact ⟨rfl, e0⟩
theorem d27_0 : decode jdk_52_method_3_code 0 = .ok (.iload_n 0, 1) := by decide +kernel
theorem d27_1 : decode jdk_52_method_3_code 1 = .ok (.ifCond .ge 11, 3) := by decide +kernel
theorem d27_12 : decode jdk_52_method_3_code 12 = .ok (.iload_n 0, 1) := by decide +kernel
theorem d27_13 : decode jdk_52_method_3_code 13 = .ok (.ldc 20, 2) := by decide +kernel
theorem d27_15 : decode jdk_52_method_3_code 15 = .ok (.if_icmp .lt 40, 3) := by decide +kernel
theorem d27_55 : decode jdk_52_method_3_code 55 = .ok (.iload_n 0, 1) := by decide +kernel
theorem d27_56 : decode jdk_52_method_3_code 56 = .ok (.iconst 1, 1) := by decide +kernel
theorem d27_57 : decode jdk_52_method_3_code 57 = .ok (.ishl, 1) := by decide +kernel
theorem d27_58 : decode jdk_52_method_3_code 58 = .ok (.ireturn, 1) := by decide +kernel
theorem pn_27 : plainFor (⟨"java/lang/StringUTF16", "newBytesLength", "(I)I"⟩ : MethodName) = true := plainFor_of_name (by first | (simp [plainName, overriddenIn]; done) | decide +kernel)
set_option maxHeartbeats 4000000 in
theorem c_nbl1 (l : Launch) (Z : State) (a0 : Array Value) (hw : OW Z a0) (n0 : Nat)  (h0 : Heap) (Z0 : n0 ≤ h0.size) :
    OCon l Z n0 (⟨"java/lang/StringUTF16", "newBytesLength", "(I)I"⟩ : MethodName) jdk_52_method_3_code 1 (some .int) ({ frames := 0, cells := 0, slots := 0, locals := 0 } : Room) #[(.int (1 : Int32))] h0 (fun v h => v = some (.int (2 : Int32)) ∧ h = h0) := by
  refine OCon.of (Ls := #[.val (.int (1 : Int32))]) pn_27 rfl rfl (fun m => by first | (simp [entryFrame, mkF, argsToLocals, Value.category]; done) | rfl) ?_
  intro p e s m below meth c T0 X0 K e0
  have N0 := Fr.nil n0
  refine o_iloadN X0 K d27_0 1 rfl rfl ?_
  refine o_if_ge_t X0 K d27_1 12 (by decide) (by decide) (by decide) ?_
  refine o_iloadN X0 K d27_12 13 rfl rfl ?_
  refine o_ldcI X0 K d27_13 15 rfl (w_151 hw) ?_
  refine o_icmp_lt_t X0 K d27_15 55 (by decide) (by decide) (by decide) ?_
  refine o_iloadN X0 K d27_55 56 rfl rfl ?_
  refine o_iconst X0 K (1 : Int32) d27_56 57 rfl rfl ?_
  refine o_ishl X0 K d27_57 58 rfl ?_
  refine o_ireturn X0 K d27_58 (by decide) (by decide) N0 ?_
  exact ⟨rfl, e0⟩
theorem d26_0 : decode jdk_52_method_2_code 0 = .ok (.iload_n 0, 1) := by decide +kernel
theorem d26_1 : decode jdk_52_method_2_code 1 = .ok (.invokestatic 11, 3) := by decide +kernel
theorem pd__I_I : parseMethodDescriptor "(I)I" = some ⟨[.int], some .int⟩ := by decide +kernel
theorem d26_4 : decode jdk_52_method_2_code 4 = .ok (.newarray .byte, 2) := by decide +kernel
theorem d26_6 : decode jdk_52_method_2_code 6 = .ok (.areturn, 1) := by decide +kernel
theorem pn_26 : plainFor (⟨"java/lang/StringUTF16", "newBytesFor", "(I)[B"⟩ : MethodName) = true := plainFor_of_name (by first | (simp [plainName, overriddenIn]; done) | decide +kernel)
set_option maxHeartbeats 4000000 in
theorem c_nbf1 (l : Launch) (Z : State) (a0 : Array Value) (hw : OW Z a0) (n0 : Nat)  (h0 : Heap) (Z0 : n0 ≤ h0.size) :
    OCon l Z n0 (⟨"java/lang/StringUTF16", "newBytesFor", "(I)[B"⟩ : MethodName) jdk_52_method_2_code 1 (some (.array .byte)) ({ frames := 1, cells := 1, slots := 2, locals := 12 } : Room) #[(.int (1 : Int32))] h0 (fun v h => ∃ d : Addr, v = some (.ref d) ∧ Keep h0 h [] ∧ n0 ≤ d ∧ h0.size ≤ d ∧ OAr Z h d .byte 2 (fun _ => .int 0) ∧ Exa Z h d "[B") := by
  refine OCon.of (Ls := #[.val (.int (1 : Int32))]) pn_26 rfl rfl (fun m => by first | (simp [entryFrame, mkF, argsToLocals, Value.category]; done) | rfl) ?_
  intro p e s m below meth c T0 X0 K e0
  have N0 := Fr.nil n0
  have KK0 := Keep.refl h0 []
  refine o_iloadN X0 K d26_0 1 rfl rfl ?_
  refine o_invokestatic X0 K d26_1 4 rfl (w_148 hw) (w_149 hw) (w_36 hw) (w_150 hw) (by decide) [(.int (1 : Int32))] [] rfl  (c_nbl1 l Z a0 hw n0  h0 Z0 ) e0 rfl (lenOf pd__I_I rfl) (by decide) 0 (Nat.le_of_eq rfl) (by decide) (by decide) (by decide) N0 ?_
  rintro _ T_69 h_69 locs_69 X_69 q_69 ⟨rfl, r_69⟩ N_69
  have e_69 := q_69.trans r_69
  show OGo p e below _ n0 _ (T_69.setTop (mkF m 4 #[.val (.int (1 : Int32))] [(.int (2 : Int32))]))
  refine o_newarrayE X_69 K (n := 2) d26_4 6 rfl (w_14 hw) e_69 (by decide) 2 (by decide) (by decide) (by decide) (by decide) rfl (ad := "[B") (by decide +kernel) ?_
  intro T_70 h_70 d g_70 X_70 e_70 E_70 A_70 B_70
  dsimp only [newarray.typeOf, defaultValue] at A_70
  have Z_70 : n0 ≤ h_70.size := Nat.le_trans Z0 E_70.1
  have K_70 := KK0.ext E_70
  have g_d : n0 ≤ d := by rw [g_70]; exact Z0
  have sz_d : h0.size ≤ d := by rw [g_70]; exact KK0.1
  refine o_areturn X_70 K rfl rfl rfl d26_6 (by decide) (by decide) N_69 ?_
  rw [e_70]
  exact ⟨d, rfl, K_70, g_d, sz_d, A_70, B_70⟩
set_option maxHeartbeats 4000000 in
theorem c_nbl2 (l : Launch) (Z : State) (a0 : Array Value) (hw : OW Z a0) (n0 : Nat)  (h0 : Heap) (Z0 : n0 ≤ h0.size) :
    OCon l Z n0 (⟨"java/lang/StringUTF16", "newBytesLength", "(I)I"⟩ : MethodName) jdk_52_method_3_code 1 (some .int) ({ frames := 0, cells := 0, slots := 0, locals := 0 } : Room) #[(.int (2 : Int32))] h0 (fun v h => v = some (.int (4 : Int32)) ∧ h = h0) := by
  refine OCon.of (Ls := #[.val (.int (2 : Int32))]) pn_27 rfl rfl (fun m => by first | (simp [entryFrame, mkF, argsToLocals, Value.category]; done) | rfl) ?_
  intro p e s m below meth c T0 X0 K e0
  have N0 := Fr.nil n0
  refine o_iloadN X0 K d27_0 1 rfl rfl ?_
  refine o_if_ge_t X0 K d27_1 12 (by decide) (by decide) (by decide) ?_
  refine o_iloadN X0 K d27_12 13 rfl rfl ?_
  refine o_ldcI X0 K d27_13 15 rfl (w_151 hw) ?_
  refine o_icmp_lt_t X0 K d27_15 55 (by decide) (by decide) (by decide) ?_
  refine o_iloadN X0 K d27_55 56 rfl rfl ?_
  refine o_iconst X0 K (1 : Int32) d27_56 57 rfl rfl ?_
  refine o_ishl X0 K d27_57 58 rfl ?_
  refine o_ireturn X0 K d27_58 (by decide) (by decide) N0 ?_
  exact ⟨rfl, e0⟩
set_option maxHeartbeats 4000000 in
theorem c_nbf2 (l : Launch) (Z : State) (a0 : Array Value) (hw : OW Z a0) (n0 : Nat)  (h0 : Heap) (Z0 : n0 ≤ h0.size) :
    OCon l Z n0 (⟨"java/lang/StringUTF16", "newBytesFor", "(I)[B"⟩ : MethodName) jdk_52_method_2_code 1 (some (.array .byte)) ({ frames := 1, cells := 1, slots := 4, locals := 12 } : Room) #[(.int (2 : Int32))] h0 (fun v h => ∃ d : Addr, v = some (.ref d) ∧ Keep h0 h [] ∧ n0 ≤ d ∧ h0.size ≤ d ∧ OAr Z h d .byte 4 (fun _ => .int 0) ∧ Exa Z h d "[B") := by
  refine OCon.of (Ls := #[.val (.int (2 : Int32))]) pn_26 rfl rfl (fun m => by first | (simp [entryFrame, mkF, argsToLocals, Value.category]; done) | rfl) ?_
  intro p e s m below meth c T0 X0 K e0
  have N0 := Fr.nil n0
  have KK0 := Keep.refl h0 []
  refine o_iloadN X0 K d26_0 1 rfl rfl ?_
  refine o_invokestatic X0 K d26_1 4 rfl (w_148 hw) (w_149 hw) (w_36 hw) (w_150 hw) (by decide) [(.int (2 : Int32))] [] rfl  (c_nbl2 l Z a0 hw n0  h0 Z0 ) e0 rfl (lenOf pd__I_I rfl) (by decide) 0 (Nat.le_of_eq rfl) (by decide) (by decide) (by decide) N0 ?_
  rintro _ T_71 h_71 locs_71 X_71 q_71 ⟨rfl, r_71⟩ N_71
  have e_71 := q_71.trans r_71
  show OGo p e below _ n0 _ (T_71.setTop (mkF m 4 #[.val (.int (2 : Int32))] [(.int (4 : Int32))]))
  refine o_newarrayE X_71 K (n := 4) d26_4 6 rfl (w_14 hw) e_71 (by decide) 4 (by decide) (by decide) (by decide) (by decide) rfl (ad := "[B") (by decide +kernel) ?_
  intro T_72 h_72 d g_72 X_72 e_72 E_72 A_72 B_72
  dsimp only [newarray.typeOf, defaultValue] at A_72
  have Z_72 : n0 ≤ h_72.size := Nat.le_trans Z0 E_72.1
  have K_72 := KK0.ext E_72
  have g_d : n0 ≤ d := by rw [g_72]; exact Z0
  have sz_d : h0.size ≤ d := by rw [g_72]; exact KK0.1
  refine o_areturn X_72 K rfl rfl rfl d26_6 (by decide) (by decide) N_71 ?_
  rw [e_72]
  exact ⟨d, rfl, K_72, g_d, sz_d, A_72, B_72⟩
theorem d28_0 : decode jdk_65_method_121_code 0 = .ok (.iload_n 1, 1) := by decide +kernel
theorem d28_1 : decode jdk_65_method_121_code 1 = .ok (.aload_n 0, 1) := by decide +kernel
theorem d28_2 : decode jdk_65_method_121_code 2 = .ok (.arraylength, 1) := by decide +kernel
theorem d28_3 : decode jdk_65_method_121_code 3 = .ok (.if_icmp .ne 11, 3) := by decide +kernel
theorem d28_14 : decode jdk_65_method_121_code 14 = .ok (.iload_n 1, 1) := by decide +kernel
theorem d28_15 : decode jdk_65_method_121_code 15 = .ok (.newarray .byte, 2) := by decide +kernel
theorem d28_17 : decode jdk_65_method_121_code 17 = .ok (.astore_n 2, 1) := by decide +kernel
theorem d28_18 : decode jdk_65_method_121_code 18 = .ok (.aload_n 0, 1) := by decide +kernel
theorem d28_19 : decode jdk_65_method_121_code 19 = .ok (.iconst 0, 1) := by decide +kernel
theorem d28_20 : decode jdk_65_method_121_code 20 = .ok (.aload_n 2, 1) := by decide +kernel
theorem d28_21 : decode jdk_65_method_121_code 21 = .ok (.iconst 0, 1) := by decide +kernel
theorem d28_22 : decode jdk_65_method_121_code 22 = .ok (.aload_n 0, 1) := by decide +kernel
theorem d28_23 : decode jdk_65_method_121_code 23 = .ok (.arraylength, 1) := by decide +kernel
theorem d28_24 : decode jdk_65_method_121_code 24 = .ok (.iload_n 1, 1) := by decide +kernel
theorem d28_25 : decode jdk_65_method_121_code 25 = .ok (.invokestatic 304, 3) := by decide +kernel
theorem pd__II_I : parseMethodDescriptor "(II)I" = some ⟨[.int, .int], some .int⟩ := by decide +kernel
theorem d28_28 : decode jdk_65_method_121_code 28 = .ok (.invokestatic 150, 3) := by decide +kernel
theorem d28_31 : decode jdk_65_method_121_code 31 = .ok (.aload_n 2, 1) := by decide +kernel
theorem d28_32 : decode jdk_65_method_121_code 32 = .ok (.areturn, 1) := by decide +kernel
theorem pn_28 : plainFor (⟨"java/util/Arrays", "copyOf", "([BI)[B"⟩ : MethodName) = true := plainFor_of_name (by first | (simp [plainName, overriddenIn]; done) | decide +kernel)
set_option maxHeartbeats 4000000 in
theorem c_cpy (l : Launch) (Z : State) (a0 : Array Value) (hw : OW Z a0) (n0 : Nat) (d : Addr) (y0 y1 y2 y3 : Int32) (h0 : Heap) (Z0 : n0 ≤ h0.size) (A_d : OAr Z h0 d .byte 4 (own_B [y0, y1, y2, y3])) :
    OCon l Z n0 (⟨"java/util/Arrays", "copyOf", "([BI)[B"⟩ : MethodName) jdk_65_method_121_code 3 (some (.array .byte)) ({ frames := 1, cells := 1, slots := 3, locals := 45 } : Room) #[(.ref d), (.int (3 : Int32))] h0 (fun v h => ∃ r : Addr, v = some (.ref r) ∧ Keep h0 h [] ∧ n0 ≤ r ∧ h0.size ≤ r ∧ OAr Z h r .byte 3 (own_B [y0, y1, y2]) ∧ Exa Z h r "[B") := by
  refine OCon.of (Ls := #[.val (.ref d), .val (.int (3 : Int32)), .unset]) pn_28 rfl rfl (fun m => by first | (simp [entryFrame, mkF, argsToLocals, Value.category]; done) | rfl) ?_
  intro p e s m below meth c T0 X0 K e0
  have N0 := Fr.nil n0
  have KK0 := Keep.refl h0 []
  refine o_iloadN X0 K d28_0 1 rfl rfl ?_
  refine o_aloadN X0 K d28_1 2 rfl rfl rfl ?_
  refine o_arraylength X0 K d28_2 3 rfl e0 A_d (v := (4 : Int32)) (rfl) ?_
  refine o_icmp_ne_t X0 K d28_3 14 (by decide) (by decide) (by decide) ?_
  refine o_iloadN X0 K d28_14 15 rfl rfl ?_
  refine o_newarrayE X0 K (n := 3) d28_15 17 rfl (w_14 hw) e0 (by decide) 3 (by decide) (by decide) (by decide) (by decide) rfl (ad := "[B") (by decide +kernel) ?_
  intro T_73 h_73 r g_73 X_73 e_73 E_73 A_73 B_73
  dsimp only [newarray.typeOf, defaultValue] at A_73
  have Z_73 : n0 ≤ h_73.size := Nat.le_trans Z0 E_73.1
  have K_73 := KK0.ext E_73
  have f_74 := A_d.ext E_73
  have g_r : n0 ≤ r := by rw [g_73]; exact Z0
  have ne_d_r : d ≠ r := by rw [g_73]; exact Nat.ne_of_lt A_d.lt
  have sz_r : h0.size ≤ r := by rw [g_73]; exact KK0.1
  refine o_astoreN X_73 K d28_17 18 rfl #[.val (.ref d), .val (.int (3 : Int32)), .val (.ref r)] rfl rfl ?_
  refine o_aloadN X_73 K d28_18 19 rfl rfl rfl ?_
  refine o_iconst X_73 K (0 : Int32) d28_19 20 rfl rfl ?_
  refine o_aloadN X_73 K d28_20 21 rfl rfl rfl ?_
  refine o_iconst X_73 K (0 : Int32) d28_21 22 rfl rfl ?_
  refine o_aloadN X_73 K d28_22 23 rfl rfl rfl ?_
  refine o_arraylength X_73 K d28_23 24 rfl e_73 f_74 (v := (4 : Int32)) (rfl) ?_
  refine o_iloadN X_73 K d28_24 25 rfl rfl ?_
  refine o_invokestatic X_73 K d28_25 28 rfl (w_156 hw) (w_116 hw) (w_117 hw) (w_118 hw) (by decide) [(.int (4 : Int32)), (.int (3 : Int32))] [(.int (0 : Int32)), (.ref r), (.int (0 : Int32)), (.ref d)] rfl  (c_minR l Z a0 hw n0 (4 : Int32) (3 : Int32) h_73 Z_73 (by decide)) e_73 rfl (lenOf pd__II_I rfl) (by decide) 4 (Nat.le_of_eq rfl) (by decide) (by decide) (by decide) N0 ?_
  rintro _ T_75 h_75 locs_75 X_75 q_75 ⟨rfl, r_75⟩ N_75
  have e_75 := q_75.trans r_75
  show OGo p e below _ n0 _ (T_75.setTop (mkF m 28 #[.val (.ref d), .val (.int (3 : Int32)), .val (.ref r)] [(.int (3 : Int32)), (.int (0 : Int32)), (.ref r), (.int (0 : Int32)), (.ref d)]))
  refine o_arraycopy X_75 K (i := 0) (j := 0) (k := 3) d28_28 31 rfl (w_157 hw) (w_131 hw) (w_129 hw) (w_130 hw) e_75 f_74 A_73 rfl (rfl) (rfl) (rfl) (by decide) (by decide) N_75 g_r rfl (by decide) 0 (Nat.le_of_eq rfl) (by decide) ?_
  intro T_76 h_76 locs_76 X_76 e_76 k_76 A_76 N_76
  have Z_76 : n0 ≤ h_76.size := Nat.le_trans Z_73 k_76.1
  have K_76 := K_73.trans k_76 (allS (Or.inr sz_r) (all0))
  have f_77 := f_74.keep k_76 (ninS ne_d_r (nin0))
  have f_78 := Exa.keep B_73 k_76
  have AB_79 := OAr.congr A_76 (g := own_B [y0, y1, y2]) (fun j hj => by rcases (by omega : j = 0 ∨ j = 1 ∨ j = 2) with rfl | rfl | rfl <;> rfl)
  refine o_aloadN X_76 K d28_31 32 rfl rfl rfl ?_
  refine o_areturn X_76 K rfl rfl rfl d28_32 (by decide) (by decide) N_76 ?_
  rw [e_76]
  exact ⟨r, rfl, K_76, g_r, sz_r, AB_79, f_78⟩
theorem d18_0 : decode jdk_123_method_3_code 0 = .ok (.iload_n 1, 1) := by decide +kernel
theorem d18_1 : decode jdk_123_method_3_code 1 = .ok (.iload_n 2, 1) := by decide +kernel
theorem d18_2 : decode jdk_123_method_3_code 2 = .ok (.iadd, 1) := by decide +kernel
theorem d18_3 : decode jdk_123_method_3_code 3 = .ok (.istore_n 3, 1) := by decide +kernel
theorem d18_4 : decode jdk_123_method_3_code 4 = .ok (.iload_n 1, 1) := by decide +kernel
theorem d18_5 : decode jdk_123_method_3_code 5 = .ok (.istore 4, 2) := by decide +kernel
theorem d18_7 : decode jdk_123_method_3_code 7 = .ok (.iload 4, 2) := by decide +kernel
theorem d18_9 : decode jdk_123_method_3_code 9 = .ok (.iload_n 3, 1) := by decide +kernel
theorem d18_10 : decode jdk_123_method_3_code 10 = .ok (.if_icmp .ge 21, 3) := by decide +kernel
theorem d18_13 : decode jdk_123_method_3_code 13 = .ok (.aload_n 0, 1) := by decide +kernel
theorem d18_14 : decode jdk_123_method_3_code 14 = .ok (.iload 4, 2) := by decide +kernel
theorem d18_16 : decode jdk_123_method_3_code 16 = .ok (.baload, 1) := by decide +kernel
theorem d18_17 : decode jdk_123_method_3_code 17 = .ok (.ifCond .ge 8, 3) := by decide +kernel
theorem d18_25 : decode jdk_123_method_3_code 25 = .ok (.iinc 4 1, 3) := by decide +kernel
theorem d18_28 : decode jdk_123_method_3_code 28 = .ok (.goto (-21), 3) := by decide +kernel
theorem d18_31 : decode jdk_123_method_3_code 31 = .ok (.iload_n 2, 1) := by decide +kernel
theorem d18_32 : decode jdk_123_method_3_code 32 = .ok (.ireturn, 1) := by decide +kernel
theorem pn_18 : plainFor (⟨"java/lang/StringCoding", "countPositives", "([BII)I"⟩ : MethodName) = true := plainFor_of_name (by first | (simp [plainName, overriddenIn]; done) | decide +kernel)
set_option maxHeartbeats 4000000 in
theorem c_cp_p (l : Launch) (Z : State) (a0 : Array Value) (hw : OW Z a0) (n0 : Nat) (t : Addr) (x0 : Int32) (h0 : Heap) (Z0 : n0 ≤ h0.size) (A_t : OAr Z h0 t .byte 1 (own_B [x0])) (E_t : Exa Z h0 t "[B") (hs0 : 0 ≤ x0.toInt) (hb0 : nar .byte x0 = x0) :
    OCon l Z n0 (⟨"java/lang/StringCoding", "countPositives", "([BII)I"⟩ : MethodName) jdk_123_method_3_code 5 (some .int) ({ frames := 0, cells := 0, slots := 0, locals := 0 } : Room) #[(.ref t), (.int (0 : Int32)), (.int (1 : Int32))] h0 (fun v h => v = some (.int (1 : Int32)) ∧ h = h0) := by
  refine OCon.of (Ls := #[.val (.ref t), .val (.int (0 : Int32)), .val (.int (1 : Int32)), .unset, .unset]) pn_18 rfl rfl (fun m => by first | (simp [entryFrame, mkF, argsToLocals, Value.category]; done) | rfl) ?_
  intro p e s m below meth c T0 X0 K e0
  have N0 := Fr.nil n0
  refine o_iloadN X0 K d18_0 1 rfl rfl ?_
  refine o_iloadN X0 K d18_1 2 rfl rfl ?_
  refine o_iadd X0 K d18_2 3 rfl ?_
  refine o_istoreN X0 K d18_3 4 rfl #[.val (.ref t), .val (.int (0 : Int32)), .val (.int (1 : Int32)), .val (.int ((0 : Int32) + (1 : Int32))), .unset] rfl rfl ?_
  refine o_iloadN X0 K d18_4 5 rfl rfl ?_
  refine o_istore X0 K d18_5 7 rfl #[.val (.ref t), .val (.int (0 : Int32)), .val (.int (1 : Int32)), .val (.int ((0 : Int32) + (1 : Int32))), .val (.int (0 : Int32))] rfl rfl ?_
  refine o_iload X0 K d18_7 9 rfl rfl ?_
  refine o_iloadN X0 K d18_9 10 rfl rfl ?_
  refine o_icmp_ge_f X0 K d18_10 13 rfl (by decide) ?_
  refine o_aloadN X0 K d18_13 14 rfl rfl rfl ?_
  refine o_iload X0 K d18_14 16 rfl rfl ?_
  refine o_baload X0 K (i := 0) (v := (.int x0)) d18_16 17 rfl e0 A_t (by decide) (by decide) (rfl) ?_
  refine o_if_ge_t X0 K d18_17 25 (by decide) (by decide) (hs0) ?_
  refine o_iinc X0 K d18_25 28 rfl #[.val (.ref t), .val (.int (0 : Int32)), .val (.int (1 : Int32)), .val (.int ((0 : Int32) + (1 : Int32))), .val (.int (1 : Int32))] rfl (by decide) rfl ?_
  refine o_goto X0 K d18_28 7 (by decide) (by decide) ?_
  refine o_iload X0 K d18_7 9 rfl rfl ?_
  refine o_iloadN X0 K d18_9 10 rfl rfl ?_
  refine o_icmp_ge_t X0 K d18_10 31 (by decide) (by decide) (by decide) ?_
  refine o_iloadN X0 K d18_31 32 rfl rfl ?_
  refine o_ireturn X0 K d18_32 (by decide) (by decide) N0 ?_
  exact ⟨rfl, e0⟩
theorem d17_0 : decode jdk_123_method_2_code 0 = .ok (.aload_n 0, 1) := by decide +kernel
theorem d17_1 : decode jdk_123_method_2_code 1 = .ok (.iload_n 1, 1) := by decide +kernel
theorem d17_2 : decode jdk_123_method_2_code 2 = .ok (.iload_n 2, 1) := by decide +kernel
theorem d17_3 : decode jdk_123_method_2_code 3 = .ok (.invokestatic 7, 3) := by decide +kernel
theorem pd___BII_I : parseMethodDescriptor "([BII)I" = some ⟨[(.array .byte), .int, .int], some .int⟩ := by decide +kernel
theorem d17_6 : decode jdk_123_method_2_code 6 = .ok (.iload_n 2, 1) := by decide +kernel
theorem d17_7 : decode jdk_123_method_2_code 7 = .ok (.if_icmp .eq 7, 3) := by decide +kernel
theorem d17_14 : decode jdk_123_method_2_code 14 = .ok (.iconst 0, 1) := by decide +kernel
theorem d17_15 : decode jdk_123_method_2_code 15 = .ok (.ireturn, 1) := by decide +kernel
theorem pn_17 : plainFor (⟨"java/lang/StringCoding", "hasNegatives", "([BII)Z"⟩ : MethodName) = true := plainFor_of_name (by first | (simp [plainName, overriddenIn]; done) | decide +kernel)
set_option maxHeartbeats 4000000 in
theorem c_hn_p (l : Launch) (Z : State) (a0 : Array Value) (hw : OW Z a0) (n0 : Nat) (t : Addr) (x0 : Int32) (h0 : Heap) (Z0 : n0 ≤ h0.size) (A_t : OAr Z h0 t .byte 1 (own_B [x0])) (E_t : Exa Z h0 t "[B") (hs0 : 0 ≤ x0.toInt) (hb0 : nar .byte x0 = x0) :
    OCon l Z n0 (⟨"java/lang/StringCoding", "hasNegatives", "([BII)Z"⟩ : MethodName) jdk_123_method_2_code 3 (some .boolean) ({ frames := 1, cells := 0, slots := 0, locals := 16 } : Room) #[(.ref t), (.int (0 : Int32)), (.int (1 : Int32))] h0 (fun v h => v = some (.int (0 : Int32)) ∧ h = h0) := by
  refine OCon.of (Ls := #[.val (.ref t), .val (.int (0 : Int32)), .val (.int (1 : Int32))]) pn_17 rfl rfl (fun m => by first | (simp [entryFrame, mkF, argsToLocals, Value.category]; done) | rfl) ?_
  intro p e s m below meth c T0 X0 K e0
  have N0 := Fr.nil n0
  refine o_aloadN X0 K d17_0 1 rfl rfl rfl ?_
  refine o_iloadN X0 K d17_1 2 rfl rfl ?_
  refine o_iloadN X0 K d17_2 3 rfl rfl ?_
  refine o_invokestatic X0 K d17_3 6 rfl (w_90 hw) (w_91 hw) (w_88 hw) (w_92 hw) (by decide) [(.ref t), (.int (0 : Int32)), (.int (1 : Int32))] [] rfl  (c_cp_p l Z a0 hw n0 t x0 h0 Z0 A_t E_t (hs0) (hb0)) e0 rfl (lenOf pd___BII_I rfl) (by decide) 0 (Nat.le_of_eq rfl) (by decide) (by decide) (by decide) N0 ?_
  rintro _ T_80 h_80 locs_80 X_80 q_80 ⟨rfl, r_80⟩ N_80
  have e_80 := q_80.trans r_80
  show OGo p e below _ n0 _ (T_80.setTop (mkF m 6 #[.val (.ref t), .val (.int (0 : Int32)), .val (.int (1 : Int32))] [(.int (1 : Int32))]))
  refine o_iloadN X_80 K d17_6 7 rfl rfl ?_
  refine o_icmp_eq_t X_80 K d17_7 14 (by decide) (by decide) (by decide) ?_
  refine o_iconst X_80 K (0 : Int32) d17_14 15 rfl rfl ?_
  refine o_ireturnN X_80 K (by decide) d17_15 (by decide) (by decide) N_80 ?_
  exact ⟨rfl, e_80⟩
theorem d16_0 : decode jdk_42_method_46_code 0 = .ok (.iload_n 0, 1) := by decide +kernel
theorem d16_1 : decode jdk_42_method_46_code 1 = .ok (.iconst 1, 1) := by decide +kernel
theorem d16_2 : decode jdk_42_method_46_code 2 = .ok (.if_icmp .ne 9, 3) := by decide +kernel
theorem d16_11 : decode jdk_42_method_46_code 11 = .ok (.aload_n 1, 1) := by decide +kernel
theorem d16_12 : decode jdk_42_method_46_code 12 = .ok (.iconst 0, 1) := by decide +kernel
theorem d16_13 : decode jdk_42_method_46_code 13 = .ok (.aload_n 1, 1) := by decide +kernel
theorem d16_14 : decode jdk_42_method_46_code 14 = .ok (.arraylength, 1) := by decide +kernel
theorem d16_15 : decode jdk_42_method_46_code 15 = .ok (.invokestatic 128, 3) := by decide +kernel
theorem pd___BII_Z : parseMethodDescriptor "([BII)Z" = some ⟨[(.array .byte), .int, .int], some .boolean⟩ := by decide +kernel
theorem d16_18 : decode jdk_42_method_46_code 18 = .ok (.ifCond .ne 11, 3) := by decide +kernel
theorem d16_21 : decode jdk_42_method_46_code 21 = .ok (.aload_n 1, 1) := by decide +kernel
theorem d16_22 : decode jdk_42_method_46_code 22 = .ok (.invokevirtual 279, 3) := by decide +kernel
theorem d16_25 : decode jdk_42_method_46_code 25 = .ok (.checkcast 280, 3) := by decide +kernel
theorem d16_28 : decode jdk_42_method_46_code 28 = .ok (.areturn, 1) := by decide +kernel
theorem pn_16 : plainFor (⟨"java/lang/String", "encodeUTF8", "(B[BZ)[B"⟩ : MethodName) = true := plainFor_of_name (by first | (simp [plainName, overriddenIn]; done) | decide +kernel)
set_option maxHeartbeats 4000000 in
theorem c_enc_p (l : Launch) (Z : State) (a0 : Array Value) (hw : OW Z a0) (n0 : Nat) (t : Addr) (x0 : Int32) (h0 : Heap) (Z0 : n0 ≤ h0.size) (A_t : OAr Z h0 t .byte 1 (own_B [x0])) (E_t : Exa Z h0 t "[B") (hs0 : 0 ≤ x0.toInt) (hb0 : nar .byte x0 = x0) :
    OCon l Z n0 (⟨"java/lang/String", "encodeUTF8", "(B[BZ)[B"⟩ : MethodName) jdk_42_method_46_code 9 (some (.array .byte)) ({ frames := 2, cells := 2, slots := 7, locals := 60 } : Room) #[(.int (0 : Int32)), (.ref t), (.int (1 : Int32))] h0 (fun v h => ∃ r : Addr, v = some (.ref r) ∧ Keep h0 h [] ∧ n0 ≤ r ∧ h0.size ≤ r ∧ OAr Z h r .byte 1 (own_B [x0]) ∧ Exa Z h r "[B") := by
  refine OCon.of (Ls := #[.val (.int (0 : Int32)), .val (.ref t), .val (.int (1 : Int32)), .unset, .unset, .unset, .unset, .unset, .unset]) pn_16 rfl rfl (fun m => by first | (simp [entryFrame, mkF, argsToLocals, Value.category]; done) | rfl) ?_
  intro p e s m below meth c T0 X0 K e0
  have N0 := Fr.nil n0
  have KK0 := Keep.refl h0 []
  refine o_iloadN X0 K d16_0 1 rfl rfl ?_
  refine o_iconst X0 K (1 : Int32) d16_1 2 rfl rfl ?_
  refine o_icmp_ne_t X0 K d16_2 11 (by decide) (by decide) (by decide) ?_
  refine o_aloadN X0 K d16_11 12 rfl rfl rfl ?_
  refine o_iconst X0 K (0 : Int32) d16_12 13 rfl rfl ?_
  refine o_aloadN X0 K d16_13 14 rfl rfl rfl ?_
  refine o_arraylength X0 K d16_14 15 rfl e0 A_t (v := (1 : Int32)) (rfl) ?_
  refine o_invokestatic X0 K d16_15 18 rfl (w_86 hw) (w_87 hw) (w_88 hw) (w_89 hw) (by decide) [(.ref t), (.int (0 : Int32)), (.int (1 : Int32))] [] rfl  (c_hn_p l Z a0 hw n0 t x0 h0 Z0 A_t E_t (hs0) (hb0)) e0 rfl (lenOf pd___BII_Z rfl) (by decide) 0 (Nat.le_of_eq rfl) (by decide) (by decide) (by decide) N0 ?_
  rintro _ T_81 h_81 locs_81 X_81 q_81 ⟨rfl, r_81⟩ N_81
  have e_81 := q_81.trans r_81
  show OGo p e below _ n0 _ (T_81.setTop (mkF m 18 #[.val (.int (0 : Int32)), .val (.ref t), .val (.int (1 : Int32)), .unset, .unset, .unset, .unset, .unset, .unset] [(.int (0 : Int32))]))
  refine o_if_ne_f X_81 K d16_18 21 rfl (by decide) ?_
  refine o_aloadN X_81 K d16_21 22 rfl rfl rfl ?_
  refine o_clone X_81 K d16_22 25 rfl (w_93 hw) (w_94 hw) (w_98 hw) (w_96 hw) (w_97 hw) (w_99 hw) e_81 A_t E_t rfl (by decide) 0 1 (Nat.le_of_eq rfl) (by decide) (Nat.le_refl _) (by decide) (by decide) ?_
  intro T_82 h_82 r g_82 X_82 e_82 E_82 A_82 B_82
  have Z_82 : n0 ≤ h_82.size := Nat.le_trans Z0 E_82.1
  have K_82 := KK0.ext E_82
  have f_83 := A_t.ext E_82
  have f_84 := Exa.ext E_82 E_t
  have g_r : n0 ≤ r := by rw [g_82]; exact Z0
  have ne_t_r : t ≠ r := by rw [g_82]; exact Nat.ne_of_lt A_t.lt
  have sz_r : h0.size ≤ r := by rw [g_82]; exact KK0.1
  refine o_checkcast X_82 K d16_25 28 rfl (w_100 hw) e_82 (Ins.self B_82) ?_
  intro T_85 X_85 e_85
  refine o_areturn X_85 K rfl rfl rfl d16_28 (by decide) (by decide) N_81 ?_
  rw [e_85]
  exact ⟨r, rfl, K_82, g_r, sz_r, A_82, B_82⟩
theorem d15_0 : decode jdk_42_method_18_code 0 = .ok (.aload_n 0, 1) := by decide +kernel
theorem d15_1 : decode jdk_42_method_18_code 1 = .ok (.getstatic 86, 3) := by decide +kernel
theorem d15_4 : decode jdk_42_method_18_code 4 = .ok (.if_acmp .ne 10, 3) := by decide +kernel
theorem d15_7 : decode jdk_42_method_18_code 7 = .ok (.iload_n 1, 1) := by decide +kernel
theorem d15_8 : decode jdk_42_method_18_code 8 = .ok (.aload_n 2, 1) := by decide +kernel
theorem d15_9 : decode jdk_42_method_18_code 9 = .ok (.iconst 1, 1) := by decide +kernel
theorem d15_10 : decode jdk_42_method_18_code 10 = .ok (.invokestatic 252, 3) := by decide +kernel
theorem pd__B_BZ__B : parseMethodDescriptor "(B[BZ)[B" = some ⟨[.byte, (.array .byte), .boolean], some (.array .byte)⟩ := by decide +kernel
theorem d15_13 : decode jdk_42_method_18_code 13 = .ok (.areturn, 1) := by decide +kernel
theorem pn_15 : plainFor (⟨"java/lang/String", "encode", "(Ljava/nio/charset/Charset;B[B)[B"⟩ : MethodName) = true := plainFor_of_name (by first | (simp [plainName, overriddenIn]; done) | decide +kernel)
set_option maxHeartbeats 4000000 in
theorem c_encode_p (l : Launch) (Z : State) (a0 : Array Value) (hw : OW Z a0) (n0 : Nat) (t u8 : Addr) (x0 : Int32) (h0 : Heap) (Z0 : n0 ≤ h0.size) (S_INSTANCE : Sta Z h0 "sun/nio/cs/UTF_8" "INSTANCE" "Lsun/nio/cs/UTF_8;" (.ref u8)) (A_t : OAr Z h0 t .byte 1 (own_B [x0])) (E_t : Exa Z h0 t "[B") (hs0 : 0 ≤ x0.toInt) (hb0 : nar .byte x0 = x0) :
    OCon l Z n0 (⟨"java/lang/String", "encode", "(Ljava/nio/charset/Charset;B[B)[B"⟩ : MethodName) jdk_42_method_18_code 3 (some (.array .byte)) ({ frames := 3, cells := 2, slots := 7, locals := 80 } : Room) #[(.ref u8), (.int (0 : Int32)), (.ref t)] h0 (fun v h => ∃ r : Addr, v = some (.ref r) ∧ Keep h0 h [] ∧ n0 ≤ r ∧ h0.size ≤ r ∧ OAr Z h r .byte 1 (own_B [x0]) ∧ Exa Z h r "[B") := by
  refine OCon.of (Ls := #[.val (.ref u8), .val (.int (0 : Int32)), .val (.ref t)]) pn_15 rfl rfl (fun m => by first | (simp [entryFrame, mkF, argsToLocals, Value.category]; done) | rfl) ?_
  intro p e s m below meth c T0 X0 K e0
  have N0 := Fr.nil n0
  have KK0 := Keep.refl h0 []
  refine o_aloadN X0 K d15_0 1 rfl rfl rfl ?_
  refine o_getstatic X0 K (host := "") d15_1 4 rfl (Or.inl (w_81 hw)) Via.refl e0 S_INSTANCE ?_
  intro T_86 X_86 e_86
  refine o_acmp X_86 K d15_4 7 rfl rfl true (decide_eq_true rfl) (by decide) (by decide) ?_
  refine o_iloadN X_86 K d15_7 8 rfl rfl ?_
  refine o_aloadN X_86 K d15_8 9 rfl rfl rfl ?_
  refine o_iconst X_86 K (1 : Int32) d15_9 10 rfl rfl ?_
  refine o_invokestatic X_86 K d15_10 13 rfl (w_83 hw) (w_84 hw) (w_2 hw) (w_85 hw) (by decide) [(.int (0 : Int32)), (.ref t), (.int (1 : Int32))] [] rfl  (c_enc_p l Z a0 hw n0 t x0 h0 Z0 A_t E_t (hs0) (hb0)) e_86 rfl (lenOf pd__B_BZ__B rfl) (by decide) 0 (Nat.le_of_eq rfl) (by decide) (by decide) (by decide) N0 ?_
  rintro _ T_87 h_87 locs_87 X_87 e_87 ⟨r, rfl, k_87, gg_87_r, sz_87_r, p_87f0, p_87f1⟩ N_87
  have Z_87 : n0 ≤ h_87.size := Nat.le_trans Z0 k_87.1
  have K_87 := KK0.trans k_87 (all0)
  have f_88 := o_sta_keep S_INSTANCE k_87 (o_plain0)
  have f_89 := A_t.keep k_87 (nin0)
  have f_90 := Exa.keep E_t k_87
  have ne_t_r : t ≠ r := Nat.ne_of_lt (Nat.lt_of_lt_of_le A_t.lt sz_87_r)
  have sz_r : h0.size ≤ r := Nat.le_trans KK0.1 sz_87_r
  show OGo p e below _ n0 _ (T_87.setTop (mkF m 13 #[.val (.ref u8), .val (.int (0 : Int32)), .val (.ref t)] [(.ref r)]))
  refine o_areturn X_87 K rfl rfl rfl d15_13 (by decide) (by decide) N_87 ?_
  rw [e_87]
  exact ⟨r, rfl, K_87, gg_87_r, sz_r, p_87f0, p_87f1⟩
theorem d14_0 : decode jdk_42_method_152_code 0 = .ok (.getstatic 38, 3) := by decide +kernel
theorem d14_3 : decode jdk_42_method_152_code 3 = .ok (.ifCond .eq 10, 3) := by decide +kernel
theorem d14_6 : decode jdk_42_method_152_code 6 = .ok (.aload_n 0, 1) := by decide +kernel
theorem d14_7 : decode jdk_42_method_152_code 7 = .ok (.getfield 15, 3) := by decide +kernel
theorem d14_10 : decode jdk_42_method_152_code 10 = .ok (.goto 4, 3) := by decide +kernel
theorem d14_14 : decode jdk_42_method_152_code 14 = .ok (.ireturn, 1) := by decide +kernel
theorem pn_14 : plainFor (⟨"java/lang/String", "coder", "()B"⟩ : MethodName) = true := plainFor_of_name (by first | (simp [plainName, overriddenIn]; done) | decide +kernel)
set_option maxHeartbeats 4000000 in
theorem c_coder (l : Launch) (Z : State) (a0 : Array Value) (hw : OW Z a0) (n0 : Nat) (sx : Addr) (zcs : Int32) (h0 : Heap) (Z0 : n0 ≤ h0.size) (S_COMPACT_STRINGS : Sta Z h0 "java/lang/String" "COMPACT_STRINGS" "Z" (.int zcs)) (hcs : ¬ zcs = 0) (F_sx_coder : Fld Z h0 sx "java/lang/String" "coder" "B" (.int (0 : Int32))) :
    OCon l Z n0 (⟨"java/lang/String", "coder", "()B"⟩ : MethodName) jdk_42_method_152_code 1 (some .byte) ({ frames := 0, cells := 0, slots := 0, locals := 0 } : Room) #[(.ref sx)] h0 (fun v h => v = some (.int (0 : Int32)) ∧ h = h0) := by
  refine OCon.of (Ls := #[.val (.ref sx)]) pn_14 rfl rfl (fun m => by first | (simp [entryFrame, mkF, argsToLocals, Value.category]; done) | rfl) ?_
  intro p e s m below meth c T0 X0 K e0
  have N0 := Fr.nil n0
  refine o_getstatic X0 K (host := "") d14_0 3 rfl (Or.inl (w_4 hw)) Via.refl e0 S_COMPACT_STRINGS ?_
  intro T_91 X_91 e_91
  refine o_if_eq_f X_91 K d14_3 6 rfl (hcs) ?_
  refine o_aloadN X_91 K d14_6 7 rfl rfl rfl ?_
  refine o_getfield X_91 K (host := "") d14_7 10 rfl (Or.inl (w_24 hw)) Via.refl e_91 F_sx_coder ?_
  intro T_92 X_92 e_92
  refine o_goto X_92 K d14_10 14 (by decide) (by decide) ?_
  refine o_ireturnN X_92 K (by decide) d14_14 (by decide) (by decide) N0 ?_
  exact ⟨rfl, e_92⟩
theorem d13_0 : decode jdk_42_method_64_code 0 = .ok (.aload_n 1, 1) := by decide +kernel
theorem d13_1 : decode jdk_42_method_64_code 1 = .ok (.ifnonnull 11, 3) := by decide +kernel
theorem d13_12 : decode jdk_42_method_64_code 12 = .ok (.aload_n 1, 1) := by decide +kernel
theorem d13_13 : decode jdk_42_method_64_code 13 = .ok (.aload_n 0, 1) := by decide +kernel
theorem d13_14 : decode jdk_42_method_64_code 14 = .ok (.invokevirtual 335, 3) := by decide +kernel
theorem pd___B : parseMethodDescriptor "()B" = some ⟨[], some .byte⟩ := by decide +kernel
theorem d13_17 : decode jdk_42_method_64_code 17 = .ok (.aload_n 0, 1) := by decide +kernel
theorem d13_18 : decode jdk_42_method_64_code 18 = .ok (.getfield 9, 3) := by decide +kernel
theorem d13_21 : decode jdk_42_method_64_code 21 = .ok (.invokestatic 535, 3) := by decide +kernel
theorem pd__Ljava_nio_charset_Charset_B_B__B : parseMethodDescriptor "(Ljava/nio/charset/Charset;B[B)[B" = some ⟨[(.object "java/nio/charset/Charset"), .byte, (.array .byte)], some (.array .byte)⟩ := by decide +kernel
theorem d13_24 : decode jdk_42_method_64_code 24 = .ok (.areturn, 1) := by decide +kernel
theorem pn_13 : plainFor (⟨"java/lang/String", "getBytes", "(Ljava/nio/charset/Charset;)[B"⟩ : MethodName) = true := plainFor_of_name (by first | (simp [plainName, overriddenIn]; done) | decide +kernel)
set_option maxHeartbeats 4000000 in
theorem c_gb_p (l : Launch) (Z : State) (a0 : Array Value) (hw : OW Z a0) (n0 : Nat) (sx t u8 : Addr) (x0 : Int32) (zcs : Int32) (h0 : Heap) (Z0 : n0 ≤ h0.size) (S_COMPACT_STRINGS : Sta Z h0 "java/lang/String" "COMPACT_STRINGS" "Z" (.int zcs)) (hcs : ¬ zcs = 0) (S_INSTANCE : Sta Z h0 "sun/nio/cs/UTF_8" "INSTANCE" "Lsun/nio/cs/UTF_8;" (.ref u8)) (E_sx : Exa Z h0 sx "java/lang/String") (F_sx_value : Fld Z h0 sx "java/lang/String" "value" "[B" (.ref t)) (F_sx_coder : Fld Z h0 sx "java/lang/String" "coder" "B" (.int (0 : Int32))) (A_t : OAr Z h0 t .byte 1 (own_B [x0])) (E_t : Exa Z h0 t "[B") (hs0 : 0 ≤ x0.toInt) (hb0 : nar .byte x0 = x0) :
    OCon l Z n0 (⟨"java/lang/String", "getBytes", "(Ljava/nio/charset/Charset;)[B"⟩ : MethodName) jdk_42_method_64_code 2 (some (.array .byte)) ({ frames := 4, cells := 2, slots := 7, locals := 98 } : Room) #[(.ref sx), (.ref u8)] h0 (fun v h => ∃ r : Addr, v = some (.ref r) ∧ Keep h0 h [] ∧ n0 ≤ r ∧ h0.size ≤ r ∧ OAr Z h r .byte 1 (own_B [x0]) ∧ Exa Z h r "[B") := by
  refine OCon.of (Ls := #[.val (.ref sx), .val (.ref u8)]) pn_13 rfl rfl (fun m => by first | (simp [entryFrame, mkF, argsToLocals, Value.category]; done) | rfl) ?_
  intro p e s m below meth c T0 X0 K e0
  have N0 := Fr.nil n0
  have KK0 := Keep.refl h0 []
  refine o_aloadN X0 K d13_0 1 rfl rfl rfl ?_
  refine o_ifnonnull_t X0 K d13_1 12 (by decide) (by decide) ?_
  refine o_aloadN X0 K d13_12 13 rfl rfl rfl ?_
  refine o_aloadN X0 K d13_13 14 rfl rfl rfl ?_
  refine o_invokevirtual X0 K d13_14 17 rfl (w_73 hw) (w_74 hw) (w_76 hw) (w_75 hw) (w_2 hw) (w_77 hw) (by decide) E_sx [] [(.ref u8)] rfl  (c_coder l Z a0 hw n0 sx zcs h0 Z0 S_COMPACT_STRINGS (hcs) F_sx_coder) e0 rfl (lenOf pd___B rfl) (by decide) 1 (Nat.le_of_eq rfl) (by decide) (by decide) (by decide) N0 ?_
  rintro _ T_93 h_93 locs_93 X_93 q_93 ⟨rfl, r_93⟩ N_93
  have e_93 := q_93.trans r_93
  show OGo p e below _ n0 _ (T_93.setTop (mkF m 17 #[.val (.ref sx), .val (.ref u8)] [(.int (0 : Int32)), (.ref u8)]))
  refine o_aloadN X_93 K d13_17 18 rfl rfl rfl ?_
  refine o_getfield X_93 K (host := "") d13_18 21 rfl (Or.inl (w_22 hw)) Via.refl e_93 F_sx_value ?_
  intro T_94 X_94 e_94
  refine o_invokestatic X_94 K d13_21 24 rfl (w_78 hw) (w_79 hw) (w_2 hw) (w_80 hw) (by decide) [(.ref u8), (.int (0 : Int32)), (.ref t)] [] rfl  (c_encode_p l Z a0 hw n0 t u8 x0 h0 Z0 S_INSTANCE A_t E_t (hs0) (hb0)) e_94 rfl (lenOf pd__Ljava_nio_charset_Charset_B_B__B rfl) (by decide) 0 (Nat.le_of_eq rfl) (by decide) (by decide) (by decide) N_93 ?_
  rintro _ T_95 h_95 locs_95 X_95 e_95 ⟨r, rfl, k_95, gg_95_r, sz_95_r, p_95f0, p_95f1⟩ N_95
  have Z_95 : n0 ≤ h_95.size := Nat.le_trans Z0 k_95.1
  have K_95 := KK0.trans k_95 (all0)
  have f_96 := o_sta_keep S_COMPACT_STRINGS k_95 (o_plain0)
  have f_97 := o_sta_keep S_INSTANCE k_95 (o_plain0)
  have f_98 := Exa.keep E_sx k_95
  have f_99 := Fld.keep F_sx_value k_95 (nin0)
  have f_100 := Fld.keep F_sx_coder k_95 (nin0)
  have f_101 := A_t.keep k_95 (nin0)
  have f_102 := Exa.keep E_t k_95
  have ne_sx_r : sx ≠ r := Nat.ne_of_lt (Nat.lt_of_lt_of_le E_sx.lt sz_95_r)
  have ne_t_r : t ≠ r := Nat.ne_of_lt (Nat.lt_of_lt_of_le A_t.lt sz_95_r)
  have sz_r : h0.size ≤ r := Nat.le_trans KK0.1 sz_95_r
  show OGo p e below _ n0 _ (T_95.setTop (mkF m 24 #[.val (.ref sx), .val (.ref u8)] [(.ref r)]))
  refine o_areturn X_95 K rfl rfl rfl d13_24 (by decide) (by decide) N_95 ?_
  rw [e_95]
  exact ⟨r, rfl, K_95, gg_95_r, sz_r, p_95f0, p_95f1⟩
theorem d18_20 : decode jdk_123_method_3_code 20 = .ok (.iload 4, 2) := by decide +kernel
theorem d18_22 : decode jdk_123_method_3_code 22 = .ok (.iload_n 1, 1) := by decide +kernel
theorem d18_23 : decode jdk_123_method_3_code 23 = .ok (.isub, 1) := by decide +kernel
theorem d18_24 : decode jdk_123_method_3_code 24 = .ok (.ireturn, 1) := by decide +kernel
set_option maxHeartbeats 4000000 in
theorem c_cp_n (l : Launch) (Z : State) (a0 : Array Value) (hw : OW Z a0) (n0 : Nat) (t : Addr) (x0 : Int32) (h0 : Heap) (Z0 : n0 ≤ h0.size) (A_t : OAr Z h0 t .byte 1 (own_B [x0])) (E_t : Exa Z h0 t "[B") (hs0 : x0.toInt < 0) (hb0 : nar .byte x0 = x0) :
    OCon l Z n0 (⟨"java/lang/StringCoding", "countPositives", "([BII)I"⟩ : MethodName) jdk_123_method_3_code 5 (some .int) ({ frames := 0, cells := 0, slots := 0, locals := 0 } : Room) #[(.ref t), (.int (0 : Int32)), (.int (1 : Int32))] h0 (fun v h => v = some (.int (0 : Int32)) ∧ h = h0) := by
  refine OCon.of (Ls := #[.val (.ref t), .val (.int (0 : Int32)), .val (.int (1 : Int32)), .unset, .unset]) pn_18 rfl rfl (fun m => by first | (simp [entryFrame, mkF, argsToLocals, Value.category]; done) | rfl) ?_
  intro p e s m below meth c T0 X0 K e0
  have N0 := Fr.nil n0
  refine o_iloadN X0 K d18_0 1 rfl rfl ?_
  refine o_iloadN X0 K d18_1 2 rfl rfl ?_
  refine o_iadd X0 K d18_2 3 rfl ?_
  refine o_istoreN X0 K d18_3 4 rfl #[.val (.ref t), .val (.int (0 : Int32)), .val (.int (1 : Int32)), .val (.int ((0 : Int32) + (1 : Int32))), .unset] rfl rfl ?_
  refine o_iloadN X0 K d18_4 5 rfl rfl ?_
  refine o_istore X0 K d18_5 7 rfl #[.val (.ref t), .val (.int (0 : Int32)), .val (.int (1 : Int32)), .val (.int ((0 : Int32) + (1 : Int32))), .val (.int (0 : Int32))] rfl rfl ?_
  refine o_iload X0 K d18_7 9 rfl rfl ?_
  refine o_iloadN X0 K d18_9 10 rfl rfl ?_
  refine o_icmp_ge_f X0 K d18_10 13 rfl (by decide) ?_
  refine o_aloadN X0 K d18_13 14 rfl rfl rfl ?_
  refine o_iload X0 K d18_14 16 rfl rfl ?_
  refine o_baload X0 K (i := 0) (v := (.int x0)) d18_16 17 rfl e0 A_t (by decide) (by decide) (rfl) ?_
  refine o_if_ge_f X0 K d18_17 20 rfl (hs0) ?_
  refine o_iload X0 K d18_20 22 rfl rfl ?_
  refine o_iloadN X0 K d18_22 23 rfl rfl ?_
  refine o_isub X0 K d18_23 24 rfl ?_
  refine o_ireturn X0 K d18_24 (by decide) (by decide) N0 ?_
  exact ⟨rfl, e0⟩
theorem d17_10 : decode jdk_123_method_2_code 10 = .ok (.iconst 1, 1) := by decide +kernel
theorem d17_11 : decode jdk_123_method_2_code 11 = .ok (.goto 4, 3) := by decide +kernel
set_option maxHeartbeats 4000000 in
theorem c_hn_n (l : Launch) (Z : State) (a0 : Array Value) (hw : OW Z a0) (n0 : Nat) (t : Addr) (x0 : Int32) (h0 : Heap) (Z0 : n0 ≤ h0.size) (A_t : OAr Z h0 t .byte 1 (own_B [x0])) (E_t : Exa Z h0 t "[B") (hs0 : x0.toInt < 0) (hb0 : nar .byte x0 = x0) :
    OCon l Z n0 (⟨"java/lang/StringCoding", "hasNegatives", "([BII)Z"⟩ : MethodName) jdk_123_method_2_code 3 (some .boolean) ({ frames := 1, cells := 0, slots := 0, locals := 16 } : Room) #[(.ref t), (.int (0 : Int32)), (.int (1 : Int32))] h0 (fun v h => v = some (.int (1 : Int32)) ∧ h = h0) := by
  refine OCon.of (Ls := #[.val (.ref t), .val (.int (0 : Int32)), .val (.int (1 : Int32))]) pn_17 rfl rfl (fun m => by first | (simp [entryFrame, mkF, argsToLocals, Value.category]; done) | rfl) ?_
  intro p e s m below meth c T0 X0 K e0
  have N0 := Fr.nil n0
  refine o_aloadN X0 K d17_0 1 rfl rfl rfl ?_
  refine o_iloadN X0 K d17_1 2 rfl rfl ?_
  refine o_iloadN X0 K d17_2 3 rfl rfl ?_
  refine o_invokestatic X0 K d17_3 6 rfl (w_90 hw) (w_91 hw) (w_88 hw) (w_92 hw) (by decide) [(.ref t), (.int (0 : Int32)), (.int (1 : Int32))] [] rfl  (c_cp_n l Z a0 hw n0 t x0 h0 Z0 A_t E_t (hs0) (hb0)) e0 rfl (lenOf pd___BII_I rfl) (by decide) 0 (Nat.le_of_eq rfl) (by decide) (by decide) (by decide) N0 ?_
  rintro _ T_103 h_103 locs_103 X_103 q_103 ⟨rfl, r_103⟩ N_103
  have e_103 := q_103.trans r_103
  show OGo p e below _ n0 _ (T_103.setTop (mkF m 6 #[.val (.ref t), .val (.int (0 : Int32)), .val (.int (1 : Int32))] [(.int (0 : Int32))]))
  refine o_iloadN X_103 K d17_6 7 rfl rfl ?_
  refine o_icmp_eq_f X_103 K d17_7 10 rfl (by decide) ?_
  refine o_iconst X_103 K (1 : Int32) d17_10 11 rfl rfl ?_
  refine o_goto X_103 K d17_11 15 (by decide) (by decide) ?_
  refine o_ireturnN X_103 K (by decide) d17_15 (by decide) (by decide) N_103 ?_
  exact ⟨rfl, e_103⟩
theorem d16_29 : decode jdk_42_method_46_code 29 = .ok (.iconst 0, 1) := by decide +kernel
theorem d16_30 : decode jdk_42_method_46_code 30 = .ok (.istore_n 3, 1) := by decide +kernel
theorem d16_31 : decode jdk_42_method_46_code 31 = .ok (.aload_n 1, 1) := by decide +kernel
theorem d16_32 : decode jdk_42_method_46_code 32 = .ok (.arraylength, 1) := by decide +kernel
theorem d16_33 : decode jdk_42_method_46_code 33 = .ok (.invokestatic 60, 3) := by decide +kernel
theorem pd__I__B : parseMethodDescriptor "(I)[B" = some ⟨[.int], some (.array .byte)⟩ := by decide +kernel
theorem d16_36 : decode jdk_42_method_46_code 36 = .ok (.astore 4, 2) := by decide +kernel
theorem d16_38 : decode jdk_42_method_46_code 38 = .ok (.aload_n 1, 1) := by decide +kernel
theorem d16_39 : decode jdk_42_method_46_code 39 = .ok (.astore 5, 2) := by decide +kernel
theorem d16_41 : decode jdk_42_method_46_code 41 = .ok (.aload 5, 2) := by decide +kernel
theorem d16_43 : decode jdk_42_method_46_code 43 = .ok (.arraylength, 1) := by decide +kernel
theorem d16_44 : decode jdk_42_method_46_code 44 = .ok (.istore 6, 2) := by decide +kernel
theorem d16_46 : decode jdk_42_method_46_code 46 = .ok (.iconst 0, 1) := by decide +kernel
theorem d16_47 : decode jdk_42_method_46_code 47 = .ok (.istore 7, 2) := by decide +kernel
theorem d16_49 : decode jdk_42_method_46_code 49 = .ok (.iload 7, 2) := by decide +kernel
theorem d16_51 : decode jdk_42_method_46_code 51 = .ok (.iload 6, 2) := by decide +kernel
theorem d16_53 : decode jdk_42_method_46_code 53 = .ok (.if_icmp .ge 71, 3) := by decide +kernel
theorem d16_56 : decode jdk_42_method_46_code 56 = .ok (.aload 5, 2) := by decide +kernel
theorem d16_58 : decode jdk_42_method_46_code 58 = .ok (.iload 7, 2) := by decide +kernel
theorem d16_60 : decode jdk_42_method_46_code 60 = .ok (.baload, 1) := by decide +kernel
theorem d16_61 : decode jdk_42_method_46_code 61 = .ok (.istore 8, 2) := by decide +kernel
theorem d16_63 : decode jdk_42_method_46_code 63 = .ok (.iload 8, 2) := by decide +kernel
theorem d16_65 : decode jdk_42_method_46_code 65 = .ok (.ifCond .ge 44, 3) := by decide +kernel
theorem d16_68 : decode jdk_42_method_46_code 68 = .ok (.aload 4, 2) := by decide +kernel
theorem d16_70 : decode jdk_42_method_46_code 70 = .ok (.iload_n 3, 1) := by decide +kernel
theorem d16_71 : decode jdk_42_method_46_code 71 = .ok (.iinc 3 1, 3) := by decide +kernel
theorem d16_74 : decode jdk_42_method_46_code 74 = .ok (.sipush 192, 3) := by decide +kernel
theorem d16_77 : decode jdk_42_method_46_code 77 = .ok (.iload 8, 2) := by decide +kernel
theorem d16_79 : decode jdk_42_method_46_code 79 = .ok (.sipush 255, 3) := by decide +kernel
theorem d16_82 : decode jdk_42_method_46_code 82 = .ok (.iand, 1) := by decide +kernel
theorem d16_83 : decode jdk_42_method_46_code 83 = .ok (.bipush 6, 2) := by decide +kernel
theorem d16_85 : decode jdk_42_method_46_code 85 = .ok (.ishr, 1) := by decide +kernel
theorem d16_86 : decode jdk_42_method_46_code 86 = .ok (.ior, 1) := by decide +kernel
theorem d16_87 : decode jdk_42_method_46_code 87 = .ok (.i2b, 1) := by decide +kernel
theorem d16_88 : decode jdk_42_method_46_code 88 = .ok (.bastore, 1) := by decide +kernel
theorem d16_89 : decode jdk_42_method_46_code 89 = .ok (.aload 4, 2) := by decide +kernel
theorem d16_91 : decode jdk_42_method_46_code 91 = .ok (.iload_n 3, 1) := by decide +kernel
theorem d16_92 : decode jdk_42_method_46_code 92 = .ok (.iinc 3 1, 3) := by decide +kernel
theorem d16_95 : decode jdk_42_method_46_code 95 = .ok (.sipush 128, 3) := by decide +kernel
theorem d16_98 : decode jdk_42_method_46_code 98 = .ok (.iload 8, 2) := by decide +kernel
theorem d16_100 : decode jdk_42_method_46_code 100 = .ok (.bipush 63, 2) := by decide +kernel
theorem d16_102 : decode jdk_42_method_46_code 102 = .ok (.iand, 1) := by decide +kernel
theorem d16_103 : decode jdk_42_method_46_code 103 = .ok (.ior, 1) := by decide +kernel
theorem d16_104 : decode jdk_42_method_46_code 104 = .ok (.i2b, 1) := by decide +kernel
theorem d16_105 : decode jdk_42_method_46_code 105 = .ok (.bastore, 1) := by decide +kernel
theorem d16_106 : decode jdk_42_method_46_code 106 = .ok (.goto 12, 3) := by decide +kernel
theorem d16_118 : decode jdk_42_method_46_code 118 = .ok (.iinc 7 1, 3) := by decide +kernel
theorem d16_121 : decode jdk_42_method_46_code 121 = .ok (.goto (-72), 3) := by decide +kernel
theorem d16_124 : decode jdk_42_method_46_code 124 = .ok (.iload_n 3, 1) := by decide +kernel
theorem d16_125 : decode jdk_42_method_46_code 125 = .ok (.aload 4, 2) := by decide +kernel
theorem d16_127 : decode jdk_42_method_46_code 127 = .ok (.arraylength, 1) := by decide +kernel
theorem d16_128 : decode jdk_42_method_46_code 128 = .ok (.if_icmp .ne 6, 3) := by decide +kernel
theorem d16_131 : decode jdk_42_method_46_code 131 = .ok (.aload 4, 2) := by decide +kernel
theorem d16_133 : decode jdk_42_method_46_code 133 = .ok (.areturn, 1) := by decide +kernel
set_option maxHeartbeats 4000000 in
theorem c_enc_n (l : Launch) (Z : State) (a0 : Array Value) (hw : OW Z a0) (n0 : Nat) (t : Addr) (x0 : Int32) (h0 : Heap) (Z0 : n0 ≤ h0.size) (A_t : OAr Z h0 t .byte 1 (own_B [x0])) (E_t : Exa Z h0 t "[B") (hs0 : x0.toInt < 0) (hb0 : nar .byte x0 = x0) :
    OCon l Z n0 (⟨"java/lang/String", "encodeUTF8", "(B[BZ)[B"⟩ : MethodName) jdk_42_method_46_code 9 (some (.array .byte)) ({ frames := 2, cells := 2, slots := 7, locals := 60 } : Room) #[(.int (0 : Int32)), (.ref t), (.int (1 : Int32))] h0 (fun v h => ∃ r : Addr, v = some (.ref r) ∧ Keep h0 h [] ∧ n0 ≤ r ∧ h0.size ≤ r ∧ OAr Z h r .byte 2 (own_B [(own_e1 x0), (own_e2 x0)]) ∧ Exa Z h r "[B") := by
  refine OCon.of (Ls := #[.val (.int (0 : Int32)), .val (.ref t), .val (.int (1 : Int32)), .unset, .unset, .unset, .unset, .unset, .unset]) pn_16 rfl rfl (fun m => by first | (simp [entryFrame, mkF, argsToLocals, Value.category]; done) | rfl) ?_
  intro p e s m below meth c T0 X0 K e0
  have N0 := Fr.nil n0
  have KK0 := Keep.refl h0 []
  refine o_iloadN X0 K d16_0 1 rfl rfl ?_
  refine o_iconst X0 K (1 : Int32) d16_1 2 rfl rfl ?_
  refine o_icmp_ne_t X0 K d16_2 11 (by decide) (by decide) (by decide) ?_
  refine o_aloadN X0 K d16_11 12 rfl rfl rfl ?_
  refine o_iconst X0 K (0 : Int32) d16_12 13 rfl rfl ?_
  refine o_aloadN X0 K d16_13 14 rfl rfl rfl ?_
  refine o_arraylength X0 K d16_14 15 rfl e0 A_t (v := (1 : Int32)) (rfl) ?_
  refine o_invokestatic X0 K d16_15 18 rfl (w_86 hw) (w_87 hw) (w_88 hw) (w_89 hw) (by decide) [(.ref t), (.int (0 : Int32)), (.int (1 : Int32))] [] rfl  (c_hn_n l Z a0 hw n0 t x0 h0 Z0 A_t E_t (hs0) (hb0)) e0 rfl (lenOf pd___BII_Z rfl) (by decide) 0 (Nat.le_of_eq rfl) (by decide) (by decide) (by decide) N0 ?_
  rintro _ T_104 h_104 locs_104 X_104 q_104 ⟨rfl, r_104⟩ N_104
  have e_104 := q_104.trans r_104
  show OGo p e below _ n0 _ (T_104.setTop (mkF m 18 #[.val (.int (0 : Int32)), .val (.ref t), .val (.int (1 : Int32)), .unset, .unset, .unset, .unset, .unset, .unset] [(.int (1 : Int32))]))
  refine o_if_ne_t X_104 K d16_18 29 (by decide) (by decide) (by decide) ?_
  refine o_iconst X_104 K (0 : Int32) d16_29 30 rfl rfl ?_
  refine o_istoreN X_104 K d16_30 31 rfl #[.val (.int (0 : Int32)), .val (.ref t), .val (.int (1 : Int32)), .val (.int (0 : Int32)), .unset, .unset, .unset, .unset, .unset] rfl rfl ?_
  refine o_aloadN X_104 K d16_31 32 rfl rfl rfl ?_
  refine o_arraylength X_104 K d16_32 33 rfl e_104 A_t (v := (1 : Int32)) (rfl) ?_
  refine o_invokestatic X_104 K d16_33 36 rfl (w_145 hw) (w_146 hw) (w_36 hw) (w_147 hw) (by decide) [(.int (1 : Int32))] [] rfl  (c_nbf1 l Z a0 hw n0  h0 Z0 ) e_104 rfl (lenOf pd__I__B rfl) (by decide) 0 (Nat.le_of_eq rfl) (by decide) (by decide) (by decide) N_104 ?_
  rintro _ T_105 h_105 locs_105 X_105 e_105 ⟨r, rfl, k_105, gg_105_d, sz_105_d, p_105f0, p_105f1⟩ N_105
  have Z_105 : n0 ≤ h_105.size := Nat.le_trans Z0 k_105.1
  have K_105 := KK0.trans k_105 (all0)
  have f_106 := A_t.keep k_105 (nin0)
  have f_107 := Exa.keep E_t k_105
  have ne_t_r : t ≠ r := Nat.ne_of_lt (Nat.lt_of_lt_of_le A_t.lt sz_105_d)
  have sz_r : h0.size ≤ r := Nat.le_trans KK0.1 sz_105_d
  show OGo p e below _ n0 _ (T_105.setTop (mkF m 36 #[.val (.int (0 : Int32)), .val (.ref t), .val (.int (1 : Int32)), .val (.int (0 : Int32)), .unset, .unset, .unset, .unset, .unset] [(.ref r)]))
  refine o_astore X_105 K d16_36 38 rfl #[.val (.int (0 : Int32)), .val (.ref t), .val (.int (1 : Int32)), .val (.int (0 : Int32)), .val (.ref r), .unset, .unset, .unset, .unset] rfl rfl ?_
  refine o_aloadN X_105 K d16_38 39 rfl rfl rfl ?_
  refine o_astore X_105 K d16_39 41 rfl #[.val (.int (0 : Int32)), .val (.ref t), .val (.int (1 : Int32)), .val (.int (0 : Int32)), .val (.ref r), .val (.ref t), .unset, .unset, .unset] rfl rfl ?_
  refine o_aload X_105 K d16_41 43 rfl rfl rfl ?_
  refine o_arraylength X_105 K d16_43 44 rfl e_105 f_106 (v := (1 : Int32)) (rfl) ?_
  refine o_istore X_105 K d16_44 46 rfl #[.val (.int (0 : Int32)), .val (.ref t), .val (.int (1 : Int32)), .val (.int (0 : Int32)), .val (.ref r), .val (.ref t), .val (.int (1 : Int32)), .unset, .unset] rfl rfl ?_
  refine o_iconst X_105 K (0 : Int32) d16_46 47 rfl rfl ?_
  refine o_istore X_105 K d16_47 49 rfl #[.val (.int (0 : Int32)), .val (.ref t), .val (.int (1 : Int32)), .val (.int (0 : Int32)), .val (.ref r), .val (.ref t), .val (.int (1 : Int32)), .val (.int (0 : Int32)), .unset] rfl rfl ?_
  refine o_iload X_105 K d16_49 51 rfl rfl ?_
  refine o_iload X_105 K d16_51 53 rfl rfl ?_
  refine o_icmp_ge_f X_105 K d16_53 56 rfl (by decide) ?_
  refine o_aload X_105 K d16_56 58 rfl rfl rfl ?_
  refine o_iload X_105 K d16_58 60 rfl rfl ?_
  refine o_baload X_105 K (i := 0) (v := (.int x0)) d16_60 61 rfl e_105 f_106 (by decide) (by decide) (rfl) ?_
  refine o_istore X_105 K d16_61 63 rfl #[.val (.int (0 : Int32)), .val (.ref t), .val (.int (1 : Int32)), .val (.int (0 : Int32)), .val (.ref r), .val (.ref t), .val (.int (1 : Int32)), .val (.int (0 : Int32)), .val (.int x0)] rfl rfl ?_
  refine o_iload X_105 K d16_63 65 rfl rfl ?_
  refine o_if_ge_f X_105 K d16_65 68 rfl (hs0) ?_
  refine o_aload X_105 K d16_68 70 rfl rfl rfl ?_
  refine o_iloadN X_105 K d16_70 71 rfl rfl ?_
  refine o_iinc X_105 K d16_71 74 rfl #[.val (.int (0 : Int32)), .val (.ref t), .val (.int (1 : Int32)), .val (.int (1 : Int32)), .val (.ref r), .val (.ref t), .val (.int (1 : Int32)), .val (.int (0 : Int32)), .val (.int x0)] rfl (by decide) rfl ?_
  refine o_sipush X_105 K (192 : Int32) d16_74 77 rfl rfl ?_
  refine o_iload X_105 K d16_77 79 rfl rfl ?_
  refine o_sipush X_105 K (255 : Int32) d16_79 82 rfl rfl ?_
  refine o_iand X_105 K d16_82 83 rfl ?_
  refine o_bipush X_105 K (6 : Int32) d16_83 85 rfl rfl ?_
  refine o_ishr X_105 K d16_85 86 rfl ?_
  refine o_ior X_105 K d16_86 87 rfl ?_
  refine o_i2b X_105 K d16_87 88 rfl ?_
  refine o_bastore X_105 K (i := 0) (x' := (own_e1 x0)) d16_88 89 rfl e_105 p_105f0 (by decide) (by decide) (o_nb _) N_105 gg_105_d ?_
  intro T_108 h_108 locs_108 X_108 e_108 W_108 A_108 N_108
  have Z_108 : n0 ≤ h_108.size := by rw [Wr.size W_108]; exact Z_105
  have K_108 := K_105.wr W_108 (Or.inr sz_r)
  have f_109 := f_106.other W_108 ne_t_r
  have f_110 := Exa.wr W_108 f_107
  have f_111 := Exa.wr W_108 p_105f1
  refine o_aload X_108 K d16_89 91 rfl rfl rfl ?_
  refine o_iloadN X_108 K d16_91 92 rfl rfl ?_
  refine o_iinc X_108 K d16_92 95 rfl #[.val (.int (0 : Int32)), .val (.ref t), .val (.int (1 : Int32)), .val (.int (2 : Int32)), .val (.ref r), .val (.ref t), .val (.int (1 : Int32)), .val (.int (0 : Int32)), .val (.int x0)] rfl (by decide) rfl ?_
  refine o_sipush X_108 K (128 : Int32) d16_95 98 rfl rfl ?_
  refine o_iload X_108 K d16_98 100 rfl rfl ?_
  refine o_bipush X_108 K (63 : Int32) d16_100 102 rfl rfl ?_
  refine o_iand X_108 K d16_102 103 rfl ?_
  refine o_ior X_108 K d16_103 104 rfl ?_
  refine o_i2b X_108 K d16_104 105 rfl ?_
  refine o_bastore X_108 K (i := 1) (x' := (own_e2 x0)) d16_105 106 rfl e_108 A_108 (by decide) (by decide) (o_nb _) N_108 gg_105_d ?_
  intro T_112 h_112 locs_112 X_112 e_112 W_112 A_112 N_112
  have Z_112 : n0 ≤ h_112.size := by rw [Wr.size W_112]; exact Z_108
  have K_112 := K_108.wr W_112 (Or.inr sz_r)
  have f_113 := f_109.other W_112 ne_t_r
  have f_114 := Exa.wr W_112 f_110
  have f_115 := Exa.wr W_112 f_111
  refine o_goto X_112 K d16_106 118 (by decide) (by decide) ?_
  refine o_iinc X_112 K d16_118 121 rfl #[.val (.int (0 : Int32)), .val (.ref t), .val (.int (1 : Int32)), .val (.int (2 : Int32)), .val (.ref r), .val (.ref t), .val (.int (1 : Int32)), .val (.int (1 : Int32)), .val (.int x0)] rfl (by decide) rfl ?_
  refine o_goto X_112 K d16_121 49 (by decide) (by decide) ?_
  refine o_iload X_112 K d16_49 51 rfl rfl ?_
  refine o_iload X_112 K d16_51 53 rfl rfl ?_
  refine o_icmp_ge_t X_112 K d16_53 124 (by decide) (by decide) (by decide) ?_
  refine o_iloadN X_112 K d16_124 125 rfl rfl ?_
  refine o_aload X_112 K d16_125 127 rfl rfl rfl ?_
  refine o_arraylength X_112 K d16_127 128 rfl e_112 A_112 (v := (2 : Int32)) (rfl) ?_
  refine o_icmp_ne_f X_112 K d16_128 131 rfl (by decide) ?_
  have AB_116 := OAr.congr A_112 (g := own_B [(own_e1 x0), (own_e2 x0)]) (fun j hj => by rcases (by omega : j = 0 ∨ j = 1) with rfl | rfl <;> rfl)
  refine o_aload X_112 K d16_131 133 rfl rfl rfl ?_
  refine o_areturn X_112 K rfl rfl rfl d16_133 (by decide) (by decide) N_112 ?_
  rw [e_112]
  exact ⟨r, rfl, K_112, gg_105_d, sz_r, AB_116, f_115⟩
set_option maxHeartbeats 4000000 in
theorem c_encode_n (l : Launch) (Z : State) (a0 : Array Value) (hw : OW Z a0) (n0 : Nat) (t u8 : Addr) (x0 : Int32) (h0 : Heap) (Z0 : n0 ≤ h0.size) (S_INSTANCE : Sta Z h0 "sun/nio/cs/UTF_8" "INSTANCE" "Lsun/nio/cs/UTF_8;" (.ref u8)) (A_t : OAr Z h0 t .byte 1 (own_B [x0])) (E_t : Exa Z h0 t "[B") (hs0 : x0.toInt < 0) (hb0 : nar .byte x0 = x0) :
    OCon l Z n0 (⟨"java/lang/String", "encode", "(Ljava/nio/charset/Charset;B[B)[B"⟩ : MethodName) jdk_42_method_18_code 3 (some (.array .byte)) ({ frames := 3, cells := 2, slots := 7, locals := 80 } : Room) #[(.ref u8), (.int (0 : Int32)), (.ref t)] h0 (fun v h => ∃ r : Addr, v = some (.ref r) ∧ Keep h0 h [] ∧ n0 ≤ r ∧ h0.size ≤ r ∧ OAr Z h r .byte 2 (own_B [(own_e1 x0), (own_e2 x0)]) ∧ Exa Z h r "[B") := by
  refine OCon.of (Ls := #[.val (.ref u8), .val (.int (0 : Int32)), .val (.ref t)]) pn_15 rfl rfl (fun m => by first | (simp [entryFrame, mkF, argsToLocals, Value.category]; done) | rfl) ?_
  intro p e s m below meth c T0 X0 K e0
  have N0 := Fr.nil n0
  have KK0 := Keep.refl h0 []
  refine o_aloadN X0 K d15_0 1 rfl rfl rfl ?_
  refine o_getstatic X0 K (host := "") d15_1 4 rfl (Or.inl (w_81 hw)) Via.refl e0 S_INSTANCE ?_
  intro T_117 X_117 e_117
  refine o_acmp X_117 K d15_4 7 rfl rfl true (decide_eq_true rfl) (by decide) (by decide) ?_
  refine o_iloadN X_117 K d15_7 8 rfl rfl ?_
  refine o_aloadN X_117 K d15_8 9 rfl rfl rfl ?_
  refine o_iconst X_117 K (1 : Int32) d15_9 10 rfl rfl ?_
  refine o_invokestatic X_117 K d15_10 13 rfl (w_83 hw) (w_84 hw) (w_2 hw) (w_85 hw) (by decide) [(.int (0 : Int32)), (.ref t), (.int (1 : Int32))] [] rfl  (c_enc_n l Z a0 hw n0 t x0 h0 Z0 A_t E_t (hs0) (hb0)) e_117 rfl (lenOf pd__B_BZ__B rfl) (by decide) 0 (Nat.le_of_eq rfl) (by decide) (by decide) (by decide) N0 ?_
  rintro _ T_118 h_118 locs_118 X_118 e_118 ⟨r, rfl, k_118, gg_118_r, sz_118_r, p_118f0, p_118f1⟩ N_118
  have Z_118 : n0 ≤ h_118.size := Nat.le_trans Z0 k_118.1
  have K_118 := KK0.trans k_118 (all0)
  have f_119 := o_sta_keep S_INSTANCE k_118 (o_plain0)
  have f_120 := A_t.keep k_118 (nin0)
  have f_121 := Exa.keep E_t k_118
  have ne_t_r : t ≠ r := Nat.ne_of_lt (Nat.lt_of_lt_of_le A_t.lt sz_118_r)
  have sz_r : h0.size ≤ r := Nat.le_trans KK0.1 sz_118_r
  show OGo p e below _ n0 _ (T_118.setTop (mkF m 13 #[.val (.ref u8), .val (.int (0 : Int32)), .val (.ref t)] [(.ref r)]))
  refine o_areturn X_118 K rfl rfl rfl d15_13 (by decide) (by decide) N_118 ?_
  rw [e_118]
  exact ⟨r, rfl, K_118, gg_118_r, sz_r, p_118f0, p_118f1⟩
set_option maxHeartbeats 4000000 in
theorem c_gb_n (l : Launch) (Z : State) (a0 : Array Value) (hw : OW Z a0) (n0 : Nat) (sx t u8 : Addr) (x0 : Int32) (zcs : Int32) (h0 : Heap) (Z0 : n0 ≤ h0.size) (S_COMPACT_STRINGS : Sta Z h0 "java/lang/String" "COMPACT_STRINGS" "Z" (.int zcs)) (hcs : ¬ zcs = 0) (S_INSTANCE : Sta Z h0 "sun/nio/cs/UTF_8" "INSTANCE" "Lsun/nio/cs/UTF_8;" (.ref u8)) (E_sx : Exa Z h0 sx "java/lang/String") (F_sx_value : Fld Z h0 sx "java/lang/String" "value" "[B" (.ref t)) (F_sx_coder : Fld Z h0 sx "java/lang/String" "coder" "B" (.int (0 : Int32))) (A_t : OAr Z h0 t .byte 1 (own_B [x0])) (E_t : Exa Z h0 t "[B") (hs0 : x0.toInt < 0) (hb0 : nar .byte x0 = x0) :
    OCon l Z n0 (⟨"java/lang/String", "getBytes", "(Ljava/nio/charset/Charset;)[B"⟩ : MethodName) jdk_42_method_64_code 2 (some (.array .byte)) ({ frames := 4, cells := 2, slots := 7, locals := 98 } : Room) #[(.ref sx), (.ref u8)] h0 (fun v h => ∃ r : Addr, v = some (.ref r) ∧ Keep h0 h [] ∧ n0 ≤ r ∧ h0.size ≤ r ∧ OAr Z h r .byte 2 (own_B [(own_e1 x0), (own_e2 x0)]) ∧ Exa Z h r "[B") := by
  refine OCon.of (Ls := #[.val (.ref sx), .val (.ref u8)]) pn_13 rfl rfl (fun m => by first | (simp [entryFrame, mkF, argsToLocals, Value.category]; done) | rfl) ?_
  intro p e s m below meth c T0 X0 K e0
  have N0 := Fr.nil n0
  have KK0 := Keep.refl h0 []
  refine o_aloadN X0 K d13_0 1 rfl rfl rfl ?_
  refine o_ifnonnull_t X0 K d13_1 12 (by decide) (by decide) ?_
  refine o_aloadN X0 K d13_12 13 rfl rfl rfl ?_
  refine o_aloadN X0 K d13_13 14 rfl rfl rfl ?_
  refine o_invokevirtual X0 K d13_14 17 rfl (w_73 hw) (w_74 hw) (w_76 hw) (w_75 hw) (w_2 hw) (w_77 hw) (by decide) E_sx [] [(.ref u8)] rfl  (c_coder l Z a0 hw n0 sx zcs h0 Z0 S_COMPACT_STRINGS (hcs) F_sx_coder) e0 rfl (lenOf pd___B rfl) (by decide) 1 (Nat.le_of_eq rfl) (by decide) (by decide) (by decide) N0 ?_
  rintro _ T_122 h_122 locs_122 X_122 q_122 ⟨rfl, r_122⟩ N_122
  have e_122 := q_122.trans r_122
  show OGo p e below _ n0 _ (T_122.setTop (mkF m 17 #[.val (.ref sx), .val (.ref u8)] [(.int (0 : Int32)), (.ref u8)]))
  refine o_aloadN X_122 K d13_17 18 rfl rfl rfl ?_
  refine o_getfield X_122 K (host := "") d13_18 21 rfl (Or.inl (w_22 hw)) Via.refl e_122 F_sx_value ?_
  intro T_123 X_123 e_123
  refine o_invokestatic X_123 K d13_21 24 rfl (w_78 hw) (w_79 hw) (w_2 hw) (w_80 hw) (by decide) [(.ref u8), (.int (0 : Int32)), (.ref t)] [] rfl  (c_encode_n l Z a0 hw n0 t u8 x0 h0 Z0 S_INSTANCE A_t E_t (hs0) (hb0)) e_123 rfl (lenOf pd__Ljava_nio_charset_Charset_B_B__B rfl) (by decide) 0 (Nat.le_of_eq rfl) (by decide) (by decide) (by decide) N_122 ?_
  rintro _ T_124 h_124 locs_124 X_124 e_124 ⟨r, rfl, k_124, gg_124_r, sz_124_r, p_124f0, p_124f1⟩ N_124
  have Z_124 : n0 ≤ h_124.size := Nat.le_trans Z0 k_124.1
  have K_124 := KK0.trans k_124 (all0)
  have f_125 := o_sta_keep S_COMPACT_STRINGS k_124 (o_plain0)
  have f_126 := o_sta_keep S_INSTANCE k_124 (o_plain0)
  have f_127 := Exa.keep E_sx k_124
  have f_128 := Fld.keep F_sx_value k_124 (nin0)
  have f_129 := Fld.keep F_sx_coder k_124 (nin0)
  have f_130 := A_t.keep k_124 (nin0)
  have f_131 := Exa.keep E_t k_124
  have ne_sx_r : sx ≠ r := Nat.ne_of_lt (Nat.lt_of_lt_of_le E_sx.lt sz_124_r)
  have ne_t_r : t ≠ r := Nat.ne_of_lt (Nat.lt_of_lt_of_le A_t.lt sz_124_r)
  have sz_r : h0.size ≤ r := Nat.le_trans KK0.1 sz_124_r
  show OGo p e below _ n0 _ (T_124.setTop (mkF m 24 #[.val (.ref sx), .val (.ref u8)] [(.ref r)]))
  refine o_areturn X_124 K rfl rfl rfl d13_24 (by decide) (by decide) N_124 ?_
  rw [e_124]
  exact ⟨r, rfl, K_124, gg_124_r, sz_r, p_124f0, p_124f1⟩
set_option maxHeartbeats 4000000 in
theorem c_cp_pp (l : Launch) (Z : State) (a0 : Array Value) (hw : OW Z a0) (n0 : Nat) (t : Addr) (x0 x1 : Int32) (h0 : Heap) (Z0 : n0 ≤ h0.size) (A_t : OAr Z h0 t .byte 2 (own_B [x0, x1])) (E_t : Exa Z h0 t "[B") (hs0 : 0 ≤ x0.toInt) (hb0 : nar .byte x0 = x0) (hs1 : 0 ≤ x1.toInt) (hb1 : nar .byte x1 = x1) :
    OCon l Z n0 (⟨"java/lang/StringCoding", "countPositives", "([BII)I"⟩ : MethodName) jdk_123_method_3_code 5 (some .int) ({ frames := 0, cells := 0, slots := 0, locals := 0 } : Room) #[(.ref t), (.int (0 : Int32)), (.int (2 : Int32))] h0 (fun v h => v = some (.int (2 : Int32)) ∧ h = h0) := by
  refine OCon.of (Ls := #[.val (.ref t), .val (.int (0 : Int32)), .val (.int (2 : Int32)), .unset, .unset]) pn_18 rfl rfl (fun m => by first | (simp [entryFrame, mkF, argsToLocals, Value.category]; done) | rfl) ?_
  intro p e s m below meth c T0 X0 K e0
  have N0 := Fr.nil n0
  refine o_iloadN X0 K d18_0 1 rfl rfl ?_
  refine o_iloadN X0 K d18_1 2 rfl rfl ?_
  refine o_iadd X0 K d18_2 3 rfl ?_
  refine o_istoreN X0 K d18_3 4 rfl #[.val (.ref t), .val (.int (0 : Int32)), .val (.int (2 : Int32)), .val (.int ((0 : Int32) + (2 : Int32))), .unset] rfl rfl ?_
  refine o_iloadN X0 K d18_4 5 rfl rfl ?_
  refine o_istore X0 K d18_5 7 rfl #[.val (.ref t), .val (.int (0 : Int32)), .val (.int (2 : Int32)), .val (.int ((0 : Int32) + (2 : Int32))), .val (.int (0 : Int32))] rfl rfl ?_
  refine o_iload X0 K d18_7 9 rfl rfl ?_
  refine o_iloadN X0 K d18_9 10 rfl rfl ?_
  refine o_icmp_ge_f X0 K d18_10 13 rfl (by decide) ?_
  refine o_aloadN X0 K d18_13 14 rfl rfl rfl ?_
  refine o_iload X0 K d18_14 16 rfl rfl ?_
  refine o_baload X0 K (i := 0) (v := (.int x0)) d18_16 17 rfl e0 A_t (by decide) (by decide) (rfl) ?_
  refine o_if_ge_t X0 K d18_17 25 (by decide) (by decide) (hs0) ?_
  refine o_iinc X0 K d18_25 28 rfl #[.val (.ref t), .val (.int (0 : Int32)), .val (.int (2 : Int32)), .val (.int ((0 : Int32) + (2 : Int32))), .val (.int (1 : Int32))] rfl (by decide) rfl ?_
  refine o_goto X0 K d18_28 7 (by decide) (by decide) ?_
  refine o_iload X0 K d18_7 9 rfl rfl ?_
  refine o_iloadN X0 K d18_9 10 rfl rfl ?_
  refine o_icmp_ge_f X0 K d18_10 13 rfl (by decide) ?_
  refine o_aloadN X0 K d18_13 14 rfl rfl rfl ?_
  refine o_iload X0 K d18_14 16 rfl rfl ?_
  refine o_baload X0 K (i := 1) (v := (.int x1)) d18_16 17 rfl e0 A_t (by decide) (by decide) (rfl) ?_
  refine o_if_ge_t X0 K d18_17 25 (by decide) (by decide) (hs1) ?_
  refine o_iinc X0 K d18_25 28 rfl #[.val (.ref t), .val (.int (0 : Int32)), .val (.int (2 : Int32)), .val (.int ((0 : Int32) + (2 : Int32))), .val (.int (2 : Int32))] rfl (by decide) rfl ?_
  refine o_goto X0 K d18_28 7 (by decide) (by decide) ?_
  refine o_iload X0 K d18_7 9 rfl rfl ?_
  refine o_iloadN X0 K d18_9 10 rfl rfl ?_
  refine o_icmp_ge_t X0 K d18_10 31 (by decide) (by decide) (by decide) ?_
  refine o_iloadN X0 K d18_31 32 rfl rfl ?_
  refine o_ireturn X0 K d18_32 (by decide) (by decide) N0 ?_
  exact ⟨rfl, e0⟩
set_option maxHeartbeats 4000000 in
theorem c_hn_pp (l : Launch) (Z : State) (a0 : Array Value) (hw : OW Z a0) (n0 : Nat) (t : Addr) (x0 x1 : Int32) (h0 : Heap) (Z0 : n0 ≤ h0.size) (A_t : OAr Z h0 t .byte 2 (own_B [x0, x1])) (E_t : Exa Z h0 t "[B") (hs0 : 0 ≤ x0.toInt) (hb0 : nar .byte x0 = x0) (hs1 : 0 ≤ x1.toInt) (hb1 : nar .byte x1 = x1) :
    OCon l Z n0 (⟨"java/lang/StringCoding", "hasNegatives", "([BII)Z"⟩ : MethodName) jdk_123_method_2_code 3 (some .boolean) ({ frames := 1, cells := 0, slots := 0, locals := 16 } : Room) #[(.ref t), (.int (0 : Int32)), (.int (2 : Int32))] h0 (fun v h => v = some (.int (0 : Int32)) ∧ h = h0) := by
  refine OCon.of (Ls := #[.val (.ref t), .val (.int (0 : Int32)), .val (.int (2 : Int32))]) pn_17 rfl rfl (fun m => by first | (simp [entryFrame, mkF, argsToLocals, Value.category]; done) | rfl) ?_
  intro p e s m below meth c T0 X0 K e0
  have N0 := Fr.nil n0
  refine o_aloadN X0 K d17_0 1 rfl rfl rfl ?_
  refine o_iloadN X0 K d17_1 2 rfl rfl ?_
  refine o_iloadN X0 K d17_2 3 rfl rfl ?_
  refine o_invokestatic X0 K d17_3 6 rfl (w_90 hw) (w_91 hw) (w_88 hw) (w_92 hw) (by decide) [(.ref t), (.int (0 : Int32)), (.int (2 : Int32))] [] rfl  (c_cp_pp l Z a0 hw n0 t x0 x1 h0 Z0 A_t E_t (hs0) (hb0) (hs1) (hb1)) e0 rfl (lenOf pd___BII_I rfl) (by decide) 0 (Nat.le_of_eq rfl) (by decide) (by decide) (by decide) N0 ?_
  rintro _ T_132 h_132 locs_132 X_132 q_132 ⟨rfl, r_132⟩ N_132
  have e_132 := q_132.trans r_132
  show OGo p e below _ n0 _ (T_132.setTop (mkF m 6 #[.val (.ref t), .val (.int (0 : Int32)), .val (.int (2 : Int32))] [(.int (2 : Int32))]))
  refine o_iloadN X_132 K d17_6 7 rfl rfl ?_
  refine o_icmp_eq_t X_132 K d17_7 14 (by decide) (by decide) (by decide) ?_
  refine o_iconst X_132 K (0 : Int32) d17_14 15 rfl rfl ?_
  refine o_ireturnN X_132 K (by decide) d17_15 (by decide) (by decide) N_132 ?_
  exact ⟨rfl, e_132⟩
set_option maxHeartbeats 4000000 in
theorem c_enc_pp (l : Launch) (Z : State) (a0 : Array Value) (hw : OW Z a0) (n0 : Nat) (t : Addr) (x0 x1 : Int32) (h0 : Heap) (Z0 : n0 ≤ h0.size) (A_t : OAr Z h0 t .byte 2 (own_B [x0, x1])) (E_t : Exa Z h0 t "[B") (hs0 : 0 ≤ x0.toInt) (hb0 : nar .byte x0 = x0) (hs1 : 0 ≤ x1.toInt) (hb1 : nar .byte x1 = x1) :
    OCon l Z n0 (⟨"java/lang/String", "encodeUTF8", "(B[BZ)[B"⟩ : MethodName) jdk_42_method_46_code 9 (some (.array .byte)) ({ frames := 2, cells := 2, slots := 7, locals := 60 } : Room) #[(.int (0 : Int32)), (.ref t), (.int (1 : Int32))] h0 (fun v h => ∃ r : Addr, v = some (.ref r) ∧ Keep h0 h [] ∧ n0 ≤ r ∧ h0.size ≤ r ∧ OAr Z h r .byte 2 (own_B [x0, x1]) ∧ Exa Z h r "[B") := by
  refine OCon.of (Ls := #[.val (.int (0 : Int32)), .val (.ref t), .val (.int (1 : Int32)), .unset, .unset, .unset, .unset, .unset, .unset]) pn_16 rfl rfl (fun m => by first | (simp [entryFrame, mkF, argsToLocals, Value.category]; done) | rfl) ?_
  intro p e s m below meth c T0 X0 K e0
  have N0 := Fr.nil n0
  have KK0 := Keep.refl h0 []
  refine o_iloadN X0 K d16_0 1 rfl rfl ?_
  refine o_iconst X0 K (1 : Int32) d16_1 2 rfl rfl ?_
  refine o_icmp_ne_t X0 K d16_2 11 (by decide) (by decide) (by decide) ?_
  refine o_aloadN X0 K d16_11 12 rfl rfl rfl ?_
  refine o_iconst X0 K (0 : Int32) d16_12 13 rfl rfl ?_
  refine o_aloadN X0 K d16_13 14 rfl rfl rfl ?_
  refine o_arraylength X0 K d16_14 15 rfl e0 A_t (v := (2 : Int32)) (rfl) ?_
  refine o_invokestatic X0 K d16_15 18 rfl (w_86 hw) (w_87 hw) (w_88 hw) (w_89 hw) (by decide) [(.ref t), (.int (0 : Int32)), (.int (2 : Int32))] [] rfl  (c_hn_pp l Z a0 hw n0 t x0 x1 h0 Z0 A_t E_t (hs0) (hb0) (hs1) (hb1)) e0 rfl (lenOf pd___BII_Z rfl) (by decide) 0 (Nat.le_of_eq rfl) (by decide) (by decide) (by decide) N0 ?_
  rintro _ T_133 h_133 locs_133 X_133 q_133 ⟨rfl, r_133⟩ N_133
  have e_133 := q_133.trans r_133
  show OGo p e below _ n0 _ (T_133.setTop (mkF m 18 #[.val (.int (0 : Int32)), .val (.ref t), .val (.int (1 : Int32)), .unset, .unset, .unset, .unset, .unset, .unset] [(.int (0 : Int32))]))
  refine o_if_ne_f X_133 K d16_18 21 rfl (by decide) ?_
  refine o_aloadN X_133 K d16_21 22 rfl rfl rfl ?_
  refine o_clone X_133 K d16_22 25 rfl (w_93 hw) (w_94 hw) (w_98 hw) (w_96 hw) (w_97 hw) (w_99 hw) e_133 A_t E_t rfl (by decide) 0 2 (Nat.le_of_eq rfl) (by decide) (Nat.le_refl _) (by decide) (by decide) ?_
  intro T_134 h_134 r g_134 X_134 e_134 E_134 A_134 B_134
  have Z_134 : n0 ≤ h_134.size := Nat.le_trans Z0 E_134.1
  have K_134 := KK0.ext E_134
  have f_135 := A_t.ext E_134
  have f_136 := Exa.ext E_134 E_t
  have g_r : n0 ≤ r := by rw [g_134]; exact Z0
  have ne_t_r : t ≠ r := by rw [g_134]; exact Nat.ne_of_lt A_t.lt
  have sz_r : h0.size ≤ r := by rw [g_134]; exact KK0.1
  refine o_checkcast X_134 K d16_25 28 rfl (w_100 hw) e_134 (Ins.self B_134) ?_
  intro T_137 X_137 e_137
  refine o_areturn X_137 K rfl rfl rfl d16_28 (by decide) (by decide) N_133 ?_
  rw [e_137]
  exact ⟨r, rfl, K_134, g_r, sz_r, A_134, B_134⟩
set_option maxHeartbeats 4000000 in
theorem c_encode_pp (l : Launch) (Z : State) (a0 : Array Value) (hw : OW Z a0) (n0 : Nat) (t u8 : Addr) (x0 x1 : Int32) (h0 : Heap) (Z0 : n0 ≤ h0.size) (S_INSTANCE : Sta Z h0 "sun/nio/cs/UTF_8" "INSTANCE" "Lsun/nio/cs/UTF_8;" (.ref u8)) (A_t : OAr Z h0 t .byte 2 (own_B [x0, x1])) (E_t : Exa Z h0 t "[B") (hs0 : 0 ≤ x0.toInt) (hb0 : nar .byte x0 = x0) (hs1 : 0 ≤ x1.toInt) (hb1 : nar .byte x1 = x1) :
    OCon l Z n0 (⟨"java/lang/String", "encode", "(Ljava/nio/charset/Charset;B[B)[B"⟩ : MethodName) jdk_42_method_18_code 3 (some (.array .byte)) ({ frames := 3, cells := 2, slots := 7, locals := 80 } : Room) #[(.ref u8), (.int (0 : Int32)), (.ref t)] h0 (fun v h => ∃ r : Addr, v = some (.ref r) ∧ Keep h0 h [] ∧ n0 ≤ r ∧ h0.size ≤ r ∧ OAr Z h r .byte 2 (own_B [x0, x1]) ∧ Exa Z h r "[B") := by
  refine OCon.of (Ls := #[.val (.ref u8), .val (.int (0 : Int32)), .val (.ref t)]) pn_15 rfl rfl (fun m => by first | (simp [entryFrame, mkF, argsToLocals, Value.category]; done) | rfl) ?_
  intro p e s m below meth c T0 X0 K e0
  have N0 := Fr.nil n0
  have KK0 := Keep.refl h0 []
  refine o_aloadN X0 K d15_0 1 rfl rfl rfl ?_
  refine o_getstatic X0 K (host := "") d15_1 4 rfl (Or.inl (w_81 hw)) Via.refl e0 S_INSTANCE ?_
  intro T_138 X_138 e_138
  refine o_acmp X_138 K d15_4 7 rfl rfl true (decide_eq_true rfl) (by decide) (by decide) ?_
  refine o_iloadN X_138 K d15_7 8 rfl rfl ?_
  refine o_aloadN X_138 K d15_8 9 rfl rfl rfl ?_
  refine o_iconst X_138 K (1 : Int32) d15_9 10 rfl rfl ?_
  refine o_invokestatic X_138 K d15_10 13 rfl (w_83 hw) (w_84 hw) (w_2 hw) (w_85 hw) (by decide) [(.int (0 : Int32)), (.ref t), (.int (1 : Int32))] [] rfl  (c_enc_pp l Z a0 hw n0 t x0 x1 h0 Z0 A_t E_t (hs0) (hb0) (hs1) (hb1)) e_138 rfl (lenOf pd__B_BZ__B rfl) (by decide) 0 (Nat.le_of_eq rfl) (by decide) (by decide) (by decide) N0 ?_
  rintro _ T_139 h_139 locs_139 X_139 e_139 ⟨r, rfl, k_139, gg_139_r, sz_139_r, p_139f0, p_139f1⟩ N_139
  have Z_139 : n0 ≤ h_139.size := Nat.le_trans Z0 k_139.1
  have K_139 := KK0.trans k_139 (all0)
  have f_140 := o_sta_keep S_INSTANCE k_139 (o_plain0)
  have f_141 := A_t.keep k_139 (nin0)
  have f_142 := Exa.keep E_t k_139
  have ne_t_r : t ≠ r := Nat.ne_of_lt (Nat.lt_of_lt_of_le A_t.lt sz_139_r)
  have sz_r : h0.size ≤ r := Nat.le_trans KK0.1 sz_139_r
  show OGo p e below _ n0 _ (T_139.setTop (mkF m 13 #[.val (.ref u8), .val (.int (0 : Int32)), .val (.ref t)] [(.ref r)]))
  refine o_areturn X_139 K rfl rfl rfl d15_13 (by decide) (by decide) N_139 ?_
  rw [e_139]
  exact ⟨r, rfl, K_139, gg_139_r, sz_r, p_139f0, p_139f1⟩
set_option maxHeartbeats 4000000 in
theorem c_gb_pp (l : Launch) (Z : State) (a0 : Array Value) (hw : OW Z a0) (n0 : Nat) (sx t u8 : Addr) (x0 x1 : Int32) (zcs : Int32) (h0 : Heap) (Z0 : n0 ≤ h0.size) (S_COMPACT_STRINGS : Sta Z h0 "java/lang/String" "COMPACT_STRINGS" "Z" (.int zcs)) (hcs : ¬ zcs = 0) (S_INSTANCE : Sta Z h0 "sun/nio/cs/UTF_8" "INSTANCE" "Lsun/nio/cs/UTF_8;" (.ref u8)) (E_sx : Exa Z h0 sx "java/lang/String") (F_sx_value : Fld Z h0 sx "java/lang/String" "value" "[B" (.ref t)) (F_sx_coder : Fld Z h0 sx "java/lang/String" "coder" "B" (.int (0 : Int32))) (A_t : OAr Z h0 t .byte 2 (own_B [x0, x1])) (E_t : Exa Z h0 t "[B") (hs0 : 0 ≤ x0.toInt) (hb0 : nar .byte x0 = x0) (hs1 : 0 ≤ x1.toInt) (hb1 : nar .byte x1 = x1) :
    OCon l Z n0 (⟨"java/lang/String", "getBytes", "(Ljava/nio/charset/Charset;)[B"⟩ : MethodName) jdk_42_method_64_code 2 (some (.array .byte)) ({ frames := 4, cells := 2, slots := 7, locals := 98 } : Room) #[(.ref sx), (.ref u8)] h0 (fun v h => ∃ r : Addr, v = some (.ref r) ∧ Keep h0 h [] ∧ n0 ≤ r ∧ h0.size ≤ r ∧ OAr Z h r .byte 2 (own_B [x0, x1]) ∧ Exa Z h r "[B") := by
  refine OCon.of (Ls := #[.val (.ref sx), .val (.ref u8)]) pn_13 rfl rfl (fun m => by first | (simp [entryFrame, mkF, argsToLocals, Value.category]; done) | rfl) ?_
  intro p e s m below meth c T0 X0 K e0
  have N0 := Fr.nil n0
  have KK0 := Keep.refl h0 []
  refine o_aloadN X0 K d13_0 1 rfl rfl rfl ?_
  refine o_ifnonnull_t X0 K d13_1 12 (by decide) (by decide) ?_
  refine o_aloadN X0 K d13_12 13 rfl rfl rfl ?_
  refine o_aloadN X0 K d13_13 14 rfl rfl rfl ?_
  refine o_invokevirtual X0 K d13_14 17 rfl (w_73 hw) (w_74 hw) (w_76 hw) (w_75 hw) (w_2 hw) (w_77 hw) (by decide) E_sx [] [(.ref u8)] rfl  (c_coder l Z a0 hw n0 sx zcs h0 Z0 S_COMPACT_STRINGS (hcs) F_sx_coder) e0 rfl (lenOf pd___B rfl) (by decide) 1 (Nat.le_of_eq rfl) (by decide) (by decide) (by decide) N0 ?_
  rintro _ T_143 h_143 locs_143 X_143 q_143 ⟨rfl, r_143⟩ N_143
  have e_143 := q_143.trans r_143
  show OGo p e below _ n0 _ (T_143.setTop (mkF m 17 #[.val (.ref sx), .val (.ref u8)] [(.int (0 : Int32)), (.ref u8)]))
  refine o_aloadN X_143 K d13_17 18 rfl rfl rfl ?_
  refine o_getfield X_143 K (host := "") d13_18 21 rfl (Or.inl (w_22 hw)) Via.refl e_143 F_sx_value ?_
  intro T_144 X_144 e_144
  refine o_invokestatic X_144 K d13_21 24 rfl (w_78 hw) (w_79 hw) (w_2 hw) (w_80 hw) (by decide) [(.ref u8), (.int (0 : Int32)), (.ref t)] [] rfl  (c_encode_pp l Z a0 hw n0 t u8 x0 x1 h0 Z0 S_INSTANCE A_t E_t (hs0) (hb0) (hs1) (hb1)) e_144 rfl (lenOf pd__Ljava_nio_charset_Charset_B_B__B rfl) (by decide) 0 (Nat.le_of_eq rfl) (by decide) (by decide) (by decide) N_143 ?_
  rintro _ T_145 h_145 locs_145 X_145 e_145 ⟨r, rfl, k_145, gg_145_r, sz_145_r, p_145f0, p_145f1⟩ N_145
  have Z_145 : n0 ≤ h_145.size := Nat.le_trans Z0 k_145.1
  have K_145 := KK0.trans k_145 (all0)
  have f_146 := o_sta_keep S_COMPACT_STRINGS k_145 (o_plain0)
  have f_147 := o_sta_keep S_INSTANCE k_145 (o_plain0)
  have f_148 := Exa.keep E_sx k_145
  have f_149 := Fld.keep F_sx_value k_145 (nin0)
  have f_150 := Fld.keep F_sx_coder k_145 (nin0)
  have f_151 := A_t.keep k_145 (nin0)
  have f_152 := Exa.keep E_t k_145
  have ne_sx_r : sx ≠ r := Nat.ne_of_lt (Nat.lt_of_lt_of_le E_sx.lt sz_145_r)
  have ne_t_r : t ≠ r := Nat.ne_of_lt (Nat.lt_of_lt_of_le A_t.lt sz_145_r)
  have sz_r : h0.size ≤ r := Nat.le_trans KK0.1 sz_145_r
  show OGo p e below _ n0 _ (T_145.setTop (mkF m 24 #[.val (.ref sx), .val (.ref u8)] [(.ref r)]))
  refine o_areturn X_145 K rfl rfl rfl d13_24 (by decide) (by decide) N_145 ?_
  rw [e_145]
  exact ⟨r, rfl, K_145, gg_145_r, sz_r, p_145f0, p_145f1⟩
set_option maxHeartbeats 4000000 in
theorem c_cp_pn (l : Launch) (Z : State) (a0 : Array Value) (hw : OW Z a0) (n0 : Nat) (t : Addr) (x0 x1 : Int32) (h0 : Heap) (Z0 : n0 ≤ h0.size) (A_t : OAr Z h0 t .byte 2 (own_B [x0, x1])) (E_t : Exa Z h0 t "[B") (hs0 : 0 ≤ x0.toInt) (hb0 : nar .byte x0 = x0) (hs1 : x1.toInt < 0) (hb1 : nar .byte x1 = x1) :
    OCon l Z n0 (⟨"java/lang/StringCoding", "countPositives", "([BII)I"⟩ : MethodName) jdk_123_method_3_code 5 (some .int) ({ frames := 0, cells := 0, slots := 0, locals := 0 } : Room) #[(.ref t), (.int (0 : Int32)), (.int (2 : Int32))] h0 (fun v h => v = some (.int (1 : Int32)) ∧ h = h0) := by
  refine OCon.of (Ls := #[.val (.ref t), .val (.int (0 : Int32)), .val (.int (2 : Int32)), .unset, .unset]) pn_18 rfl rfl (fun m => by first | (simp [entryFrame, mkF, argsToLocals, Value.category]; done) | rfl) ?_
  intro p e s m below meth c T0 X0 K e0
  have N0 := Fr.nil n0
  refine o_iloadN X0 K d18_0 1 rfl rfl ?_
  refine o_iloadN X0 K d18_1 2 rfl rfl ?_
  refine o_iadd X0 K d18_2 3 rfl ?_
  refine o_istoreN X0 K d18_3 4 rfl #[.val (.ref t), .val (.int (0 : Int32)), .val (.int (2 : Int32)), .val (.int ((0 : Int32) + (2 : Int32))), .unset] rfl rfl ?_
  refine o_iloadN X0 K d18_4 5 rfl rfl ?_
  refine o_istore X0 K d18_5 7 rfl #[.val (.ref t), .val (.int (0 : Int32)), .val (.int (2 : Int32)), .val (.int ((0 : Int32) + (2 : Int32))), .val (.int (0 : Int32))] rfl rfl ?_
  refine o_iload X0 K d18_7 9 rfl rfl ?_
  refine o_iloadN X0 K d18_9 10 rfl rfl ?_
  refine o_icmp_ge_f X0 K d18_10 13 rfl (by decide) ?_
  refine o_aloadN X0 K d18_13 14 rfl rfl rfl ?_
  refine o_iload X0 K d18_14 16 rfl rfl ?_
  refine o_baload X0 K (i := 0) (v := (.int x0)) d18_16 17 rfl e0 A_t (by decide) (by decide) (rfl) ?_
  refine o_if_ge_t X0 K d18_17 25 (by decide) (by decide) (hs0) ?_
  refine o_iinc X0 K d18_25 28 rfl #[.val (.ref t), .val (.int (0 : Int32)), .val (.int (2 : Int32)), .val (.int ((0 : Int32) + (2 : Int32))), .val (.int (1 : Int32))] rfl (by decide) rfl ?_
  refine o_goto X0 K d18_28 7 (by decide) (by decide) ?_
  refine o_iload X0 K d18_7 9 rfl rfl ?_
  refine o_iloadN X0 K d18_9 10 rfl rfl ?_
  refine o_icmp_ge_f X0 K d18_10 13 rfl (by decide) ?_
  refine o_aloadN X0 K d18_13 14 rfl rfl rfl ?_
  refine o_iload X0 K d18_14 16 rfl rfl ?_
  refine o_baload X0 K (i := 1) (v := (.int x1)) d18_16 17 rfl e0 A_t (by decide) (by decide) (rfl) ?_
  refine o_if_ge_f X0 K d18_17 20 rfl (hs1) ?_
  refine o_iload X0 K d18_20 22 rfl rfl ?_
  refine o_iloadN X0 K d18_22 23 rfl rfl ?_
  refine o_isub X0 K d18_23 24 rfl ?_
  refine o_ireturn X0 K d18_24 (by decide) (by decide) N0 ?_
  exact ⟨rfl, e0⟩
set_option maxHeartbeats 4000000 in
theorem c_hn_pn (l : Launch) (Z : State) (a0 : Array Value) (hw : OW Z a0) (n0 : Nat) (t : Addr) (x0 x1 : Int32) (h0 : Heap) (Z0 : n0 ≤ h0.size) (A_t : OAr Z h0 t .byte 2 (own_B [x0, x1])) (E_t : Exa Z h0 t "[B") (hs0 : 0 ≤ x0.toInt) (hb0 : nar .byte x0 = x0) (hs1 : x1.toInt < 0) (hb1 : nar .byte x1 = x1) :
    OCon l Z n0 (⟨"java/lang/StringCoding", "hasNegatives", "([BII)Z"⟩ : MethodName) jdk_123_method_2_code 3 (some .boolean) ({ frames := 1, cells := 0, slots := 0, locals := 16 } : Room) #[(.ref t), (.int (0 : Int32)), (.int (2 : Int32))] h0 (fun v h => v = some (.int (1 : Int32)) ∧ h = h0) := by
  refine OCon.of (Ls := #[.val (.ref t), .val (.int (0 : Int32)), .val (.int (2 : Int32))]) pn_17 rfl rfl (fun m => by first | (simp [entryFrame, mkF, argsToLocals, Value.category]; done) | rfl) ?_
  intro p e s m below meth c T0 X0 K e0
  have N0 := Fr.nil n0
  refine o_aloadN X0 K d17_0 1 rfl rfl rfl ?_
  refine o_iloadN X0 K d17_1 2 rfl rfl ?_
  refine o_iloadN X0 K d17_2 3 rfl rfl ?_
  refine o_invokestatic X0 K d17_3 6 rfl (w_90 hw) (w_91 hw) (w_88 hw) (w_92 hw) (by decide) [(.ref t), (.int (0 : Int32)), (.int (2 : Int32))] [] rfl  (c_cp_pn l Z a0 hw n0 t x0 x1 h0 Z0 A_t E_t (hs0) (hb0) (hs1) (hb1)) e0 rfl (lenOf pd___BII_I rfl) (by decide) 0 (Nat.le_of_eq rfl) (by decide) (by decide) (by decide) N0 ?_
  rintro _ T_153 h_153 locs_153 X_153 q_153 ⟨rfl, r_153⟩ N_153
  have e_153 := q_153.trans r_153
  show OGo p e below _ n0 _ (T_153.setTop (mkF m 6 #[.val (.ref t), .val (.int (0 : Int32)), .val (.int (2 : Int32))] [(.int (1 : Int32))]))
  refine o_iloadN X_153 K d17_6 7 rfl rfl ?_
  refine o_icmp_eq_f X_153 K d17_7 10 rfl (by decide) ?_
  refine o_iconst X_153 K (1 : Int32) d17_10 11 rfl rfl ?_
  refine o_goto X_153 K d17_11 15 (by decide) (by decide) ?_
  refine o_ireturnN X_153 K (by decide) d17_15 (by decide) (by decide) N_153 ?_
  exact ⟨rfl, e_153⟩
theorem d16_109 : decode jdk_42_method_46_code 109 = .ok (.aload 4, 2) := by decide +kernel
theorem d16_111 : decode jdk_42_method_46_code 111 = .ok (.iload_n 3, 1) := by decide +kernel
theorem d16_112 : decode jdk_42_method_46_code 112 = .ok (.iinc 3 1, 3) := by decide +kernel
theorem d16_115 : decode jdk_42_method_46_code 115 = .ok (.iload 8, 2) := by decide +kernel
theorem d16_117 : decode jdk_42_method_46_code 117 = .ok (.bastore, 1) := by decide +kernel
theorem d16_134 : decode jdk_42_method_46_code 134 = .ok (.aload 4, 2) := by decide +kernel
theorem d16_136 : decode jdk_42_method_46_code 136 = .ok (.iload_n 3, 1) := by decide +kernel
theorem d16_137 : decode jdk_42_method_46_code 137 = .ok (.invokestatic 102, 3) := by decide +kernel
theorem pd___BI__B : parseMethodDescriptor "([BI)[B" = some ⟨[(.array .byte), .int], some (.array .byte)⟩ := by decide +kernel
theorem d16_140 : decode jdk_42_method_46_code 140 = .ok (.areturn, 1) := by decide +kernel
set_option maxHeartbeats 4000000 in
theorem c_enc_pn (l : Launch) (Z : State) (a0 : Array Value) (hw : OW Z a0) (n0 : Nat) (t : Addr) (x0 x1 : Int32) (h0 : Heap) (Z0 : n0 ≤ h0.size) (A_t : OAr Z h0 t .byte 2 (own_B [x0, x1])) (E_t : Exa Z h0 t "[B") (hs0 : 0 ≤ x0.toInt) (hb0 : nar .byte x0 = x0) (hs1 : x1.toInt < 0) (hb1 : nar .byte x1 = x1) :
    OCon l Z n0 (⟨"java/lang/String", "encodeUTF8", "(B[BZ)[B"⟩ : MethodName) jdk_42_method_46_code 9 (some (.array .byte)) ({ frames := 2, cells := 2, slots := 7, locals := 60 } : Room) #[(.int (0 : Int32)), (.ref t), (.int (1 : Int32))] h0 (fun v h => ∃ r : Addr, v = some (.ref r) ∧ Keep h0 h [] ∧ n0 ≤ r ∧ h0.size ≤ r ∧ OAr Z h r .byte 3 (own_B [x0, (own_e1 x1), (own_e2 x1)]) ∧ Exa Z h r "[B") := by
  refine OCon.of (Ls := #[.val (.int (0 : Int32)), .val (.ref t), .val (.int (1 : Int32)), .unset, .unset, .unset, .unset, .unset, .unset]) pn_16 rfl rfl (fun m => by first | (simp [entryFrame, mkF, argsToLocals, Value.category]; done) | rfl) ?_
  intro p e s m below meth c T0 X0 K e0
  have N0 := Fr.nil n0
  have KK0 := Keep.refl h0 []
  refine o_iloadN X0 K d16_0 1 rfl rfl ?_
  refine o_iconst X0 K (1 : Int32) d16_1 2 rfl rfl ?_
  refine o_icmp_ne_t X0 K d16_2 11 (by decide) (by decide) (by decide) ?_
  refine o_aloadN X0 K d16_11 12 rfl rfl rfl ?_
  refine o_iconst X0 K (0 : Int32) d16_12 13 rfl rfl ?_
  refine o_aloadN X0 K d16_13 14 rfl rfl rfl ?_
  refine o_arraylength X0 K d16_14 15 rfl e0 A_t (v := (2 : Int32)) (rfl) ?_
  refine o_invokestatic X0 K d16_15 18 rfl (w_86 hw) (w_87 hw) (w_88 hw) (w_89 hw) (by decide) [(.ref t), (.int (0 : Int32)), (.int (2 : Int32))] [] rfl  (c_hn_pn l Z a0 hw n0 t x0 x1 h0 Z0 A_t E_t (hs0) (hb0) (hs1) (hb1)) e0 rfl (lenOf pd___BII_Z rfl) (by decide) 0 (Nat.le_of_eq rfl) (by decide) (by decide) (by decide) N0 ?_
  rintro _ T_154 h_154 locs_154 X_154 q_154 ⟨rfl, r_154⟩ N_154
  have e_154 := q_154.trans r_154
  show OGo p e below _ n0 _ (T_154.setTop (mkF m 18 #[.val (.int (0 : Int32)), .val (.ref t), .val (.int (1 : Int32)), .unset, .unset, .unset, .unset, .unset, .unset] [(.int (1 : Int32))]))
  refine o_if_ne_t X_154 K d16_18 29 (by decide) (by decide) (by decide) ?_
  refine o_iconst X_154 K (0 : Int32) d16_29 30 rfl rfl ?_
  refine o_istoreN X_154 K d16_30 31 rfl #[.val (.int (0 : Int32)), .val (.ref t), .val (.int (1 : Int32)), .val (.int (0 : Int32)), .unset, .unset, .unset, .unset, .unset] rfl rfl ?_
  refine o_aloadN X_154 K d16_31 32 rfl rfl rfl ?_
  refine o_arraylength X_154 K d16_32 33 rfl e_154 A_t (v := (2 : Int32)) (rfl) ?_
  refine o_invokestatic X_154 K d16_33 36 rfl (w_145 hw) (w_146 hw) (w_36 hw) (w_147 hw) (by decide) [(.int (2 : Int32))] [] rfl  (c_nbf2 l Z a0 hw n0  h0 Z0 ) e_154 rfl (lenOf pd__I__B rfl) (by decide) 0 (Nat.le_of_eq rfl) (by decide) (by decide) (by decide) N_154 ?_
  rintro _ T_155 h_155 locs_155 X_155 e_155 ⟨d, rfl, k_155, gg_155_d, sz_155_d, p_155f0, p_155f1⟩ N_155
  have Z_155 : n0 ≤ h_155.size := Nat.le_trans Z0 k_155.1
  have K_155 := KK0.trans k_155 (all0)
  have f_156 := A_t.keep k_155 (nin0)
  have f_157 := Exa.keep E_t k_155
  have ne_t_d : t ≠ d := Nat.ne_of_lt (Nat.lt_of_lt_of_le A_t.lt sz_155_d)
  have sz_d : h0.size ≤ d := Nat.le_trans KK0.1 sz_155_d
  show OGo p e below _ n0 _ (T_155.setTop (mkF m 36 #[.val (.int (0 : Int32)), .val (.ref t), .val (.int (1 : Int32)), .val (.int (0 : Int32)), .unset, .unset, .unset, .unset, .unset] [(.ref d)]))
  refine o_astore X_155 K d16_36 38 rfl #[.val (.int (0 : Int32)), .val (.ref t), .val (.int (1 : Int32)), .val (.int (0 : Int32)), .val (.ref d), .unset, .unset, .unset, .unset] rfl rfl ?_
  refine o_aloadN X_155 K d16_38 39 rfl rfl rfl ?_
  refine o_astore X_155 K d16_39 41 rfl #[.val (.int (0 : Int32)), .val (.ref t), .val (.int (1 : Int32)), .val (.int (0 : Int32)), .val (.ref d), .val (.ref t), .unset, .unset, .unset] rfl rfl ?_
  refine o_aload X_155 K d16_41 43 rfl rfl rfl ?_
  refine o_arraylength X_155 K d16_43 44 rfl e_155 f_156 (v := (2 : Int32)) (rfl) ?_
  refine o_istore X_155 K d16_44 46 rfl #[.val (.int (0 : Int32)), .val (.ref t), .val (.int (1 : Int32)), .val (.int (0 : Int32)), .val (.ref d), .val (.ref t), .val (.int (2 : Int32)), .unset, .unset] rfl rfl ?_
  refine o_iconst X_155 K (0 : Int32) d16_46 47 rfl rfl ?_
  refine o_istore X_155 K d16_47 49 rfl #[.val (.int (0 : Int32)), .val (.ref t), .val (.int (1 : Int32)), .val (.int (0 : Int32)), .val (.ref d), .val (.ref t), .val (.int (2 : Int32)), .val (.int (0 : Int32)), .unset] rfl rfl ?_
  refine o_iload X_155 K d16_49 51 rfl rfl ?_
  refine o_iload X_155 K d16_51 53 rfl rfl ?_
  refine o_icmp_ge_f X_155 K d16_53 56 rfl (by decide) ?_
  refine o_aload X_155 K d16_56 58 rfl rfl rfl ?_
  refine o_iload X_155 K d16_58 60 rfl rfl ?_
  refine o_baload X_155 K (i := 0) (v := (.int x0)) d16_60 61 rfl e_155 f_156 (by decide) (by decide) (rfl) ?_
  refine o_istore X_155 K d16_61 63 rfl #[.val (.int (0 : Int32)), .val (.ref t), .val (.int (1 : Int32)), .val (.int (0 : Int32)), .val (.ref d), .val (.ref t), .val (.int (2 : Int32)), .val (.int (0 : Int32)), .val (.int x0)] rfl rfl ?_
  refine o_iload X_155 K d16_63 65 rfl rfl ?_
  refine o_if_ge_t X_155 K d16_65 109 (by decide) (by decide) (hs0) ?_
  refine o_aload X_155 K d16_109 111 rfl rfl rfl ?_
  refine o_iloadN X_155 K d16_111 112 rfl rfl ?_
  refine o_iinc X_155 K d16_112 115 rfl #[.val (.int (0 : Int32)), .val (.ref t), .val (.int (1 : Int32)), .val (.int (1 : Int32)), .val (.ref d), .val (.ref t), .val (.int (2 : Int32)), .val (.int (0 : Int32)), .val (.int x0)] rfl (by decide) rfl ?_
  refine o_iload X_155 K d16_115 117 rfl rfl ?_
  refine o_bastore X_155 K (i := 0) (x' := x0) d16_117 118 rfl e_155 p_155f0 (by decide) (by decide) (hb0) N_155 gg_155_d ?_
  intro T_158 h_158 locs_158 X_158 e_158 W_158 A_158 N_158
  have Z_158 : n0 ≤ h_158.size := by rw [Wr.size W_158]; exact Z_155
  have K_158 := K_155.wr W_158 (Or.inr sz_d)
  have f_159 := f_156.other W_158 ne_t_d
  have f_160 := Exa.wr W_158 f_157
  have f_161 := Exa.wr W_158 p_155f1
  refine o_iinc X_158 K d16_118 121 rfl #[.val (.int (0 : Int32)), .val (.ref t), .val (.int (1 : Int32)), .val (.int (1 : Int32)), .val (.ref d), .val (.ref t), .val (.int (2 : Int32)), .val (.int (1 : Int32)), .val (.int x0)] rfl (by decide) rfl ?_
  refine o_goto X_158 K d16_121 49 (by decide) (by decide) ?_
  refine o_iload X_158 K d16_49 51 rfl rfl ?_
  refine o_iload X_158 K d16_51 53 rfl rfl ?_
  refine o_icmp_ge_f X_158 K d16_53 56 rfl (by decide) ?_
  refine o_aload X_158 K d16_56 58 rfl rfl rfl ?_
  refine o_iload X_158 K d16_58 60 rfl rfl ?_
  refine o_baload X_158 K (i := 1) (v := (.int x1)) d16_60 61 rfl e_158 f_159 (by decide) (by decide) (rfl) ?_
  refine o_istore X_158 K d16_61 63 rfl #[.val (.int (0 : Int32)), .val (.ref t), .val (.int (1 : Int32)), .val (.int (1 : Int32)), .val (.ref d), .val (.ref t), .val (.int (2 : Int32)), .val (.int (1 : Int32)), .val (.int x1)] rfl rfl ?_
  refine o_iload X_158 K d16_63 65 rfl rfl ?_
  refine o_if_ge_f X_158 K d16_65 68 rfl (hs1) ?_
  refine o_aload X_158 K d16_68 70 rfl rfl rfl ?_
  refine o_iloadN X_158 K d16_70 71 rfl rfl ?_
  refine o_iinc X_158 K d16_71 74 rfl #[.val (.int (0 : Int32)), .val (.ref t), .val (.int (1 : Int32)), .val (.int (2 : Int32)), .val (.ref d), .val (.ref t), .val (.int (2 : Int32)), .val (.int (1 : Int32)), .val (.int x1)] rfl (by decide) rfl ?_
  refine o_sipush X_158 K (192 : Int32) d16_74 77 rfl rfl ?_
  refine o_iload X_158 K d16_77 79 rfl rfl ?_
  refine o_sipush X_158 K (255 : Int32) d16_79 82 rfl rfl ?_
  refine o_iand X_158 K d16_82 83 rfl ?_
  refine o_bipush X_158 K (6 : Int32) d16_83 85 rfl rfl ?_
  refine o_ishr X_158 K d16_85 86 rfl ?_
  refine o_ior X_158 K d16_86 87 rfl ?_
  refine o_i2b X_158 K d16_87 88 rfl ?_
  refine o_bastore X_158 K (i := 1) (x' := (own_e1 x1)) d16_88 89 rfl e_158 A_158 (by decide) (by decide) (o_nb _) N_158 gg_155_d ?_
  intro T_162 h_162 locs_162 X_162 e_162 W_162 A_162 N_162
  have Z_162 : n0 ≤ h_162.size := by rw [Wr.size W_162]; exact Z_158
  have K_162 := K_158.wr W_162 (Or.inr sz_d)
  have f_163 := f_159.other W_162 ne_t_d
  have f_164 := Exa.wr W_162 f_160
  have f_165 := Exa.wr W_162 f_161
  refine o_aload X_162 K d16_89 91 rfl rfl rfl ?_
  refine o_iloadN X_162 K d16_91 92 rfl rfl ?_
  refine o_iinc X_162 K d16_92 95 rfl #[.val (.int (0 : Int32)), .val (.ref t), .val (.int (1 : Int32)), .val (.int (3 : Int32)), .val (.ref d), .val (.ref t), .val (.int (2 : Int32)), .val (.int (1 : Int32)), .val (.int x1)] rfl (by decide) rfl ?_
  refine o_sipush X_162 K (128 : Int32) d16_95 98 rfl rfl ?_
  refine o_iload X_162 K d16_98 100 rfl rfl ?_
  refine o_bipush X_162 K (63 : Int32) d16_100 102 rfl rfl ?_
  refine o_iand X_162 K d16_102 103 rfl ?_
  refine o_ior X_162 K d16_103 104 rfl ?_
  refine o_i2b X_162 K d16_104 105 rfl ?_
  refine o_bastore X_162 K (i := 2) (x' := (own_e2 x1)) d16_105 106 rfl e_162 A_162 (by decide) (by decide) (o_nb _) N_162 gg_155_d ?_
  intro T_166 h_166 locs_166 X_166 e_166 W_166 A_166 N_166
  have Z_166 : n0 ≤ h_166.size := by rw [Wr.size W_166]; exact Z_162
  have K_166 := K_162.wr W_166 (Or.inr sz_d)
  have f_167 := f_163.other W_166 ne_t_d
  have f_168 := Exa.wr W_166 f_164
  have f_169 := Exa.wr W_166 f_165
  refine o_goto X_166 K d16_106 118 (by decide) (by decide) ?_
  refine o_iinc X_166 K d16_118 121 rfl #[.val (.int (0 : Int32)), .val (.ref t), .val (.int (1 : Int32)), .val (.int (3 : Int32)), .val (.ref d), .val (.ref t), .val (.int (2 : Int32)), .val (.int (2 : Int32)), .val (.int x1)] rfl (by decide) rfl ?_
  refine o_goto X_166 K d16_121 49 (by decide) (by decide) ?_
  refine o_iload X_166 K d16_49 51 rfl rfl ?_
  refine o_iload X_166 K d16_51 53 rfl rfl ?_
  refine o_icmp_ge_t X_166 K d16_53 124 (by decide) (by decide) (by decide) ?_
  refine o_iloadN X_166 K d16_124 125 rfl rfl ?_
  refine o_aload X_166 K d16_125 127 rfl rfl rfl ?_
  refine o_arraylength X_166 K d16_127 128 rfl e_166 A_166 (v := (4 : Int32)) (rfl) ?_
  refine o_icmp_ne_t X_166 K d16_128 134 (by decide) (by decide) (by decide) ?_
  have AB_170 := OAr.congr A_166 (g := own_B [x0, (own_e1 x1), (own_e2 x1), (0 : Int32)]) (fun j hj => by rcases (by omega : j = 0 ∨ j = 1 ∨ j = 2 ∨ j = 3) with rfl | rfl | rfl | rfl <;> rfl)
  refine o_aload X_166 K d16_134 136 rfl rfl rfl ?_
  refine o_iloadN X_166 K d16_136 137 rfl rfl ?_
  refine o_invokestatic X_166 K d16_137 140 rfl (w_152 hw) (w_153 hw) (w_154 hw) (w_155 hw) (by decide) [(.ref d), (.int (3 : Int32))] [] rfl  (c_cpy l Z a0 hw n0 d x0 (own_e1 x1) (own_e2 x1) (0 : Int32) h_166 Z_166 AB_170) e_166 rfl (lenOf pd___BI__B rfl) (by decide) 0 (Nat.le_of_eq rfl) (by decide) (by decide) (by decide) N_166 ?_
  rintro _ T_171 h_171 locs_171 X_171 e_171 ⟨r, rfl, k_171, gg_171_r, sz_171_r, p_171f0, p_171f1⟩ N_171
  have Z_171 : n0 ≤ h_171.size := Nat.le_trans Z_166 k_171.1
  have K_171 := K_166.trans k_171 (all0)
  have f_172 := f_167.keep k_171 (nin0)
  have f_173 := Exa.keep f_168 k_171
  have f_174 := Exa.keep f_169 k_171
  have f_175 := AB_170.keep k_171 (nin0)
  have ne_t_r : t ≠ r := Nat.ne_of_lt (Nat.lt_of_lt_of_le f_167.lt sz_171_r)
  have ne_d_r : d ≠ r := Nat.ne_of_lt (Nat.lt_of_lt_of_le f_169.lt sz_171_r)
  have sz_r : h0.size ≤ r := Nat.le_trans K_166.1 sz_171_r
  show OGo p e below _ n0 _ (T_171.setTop (mkF m 140 #[.val (.int (0 : Int32)), .val (.ref t), .val (.int (1 : Int32)), .val (.int (3 : Int32)), .val (.ref d), .val (.ref t), .val (.int (2 : Int32)), .val (.int (2 : Int32)), .val (.int x1)] [(.ref r)]))
  refine o_areturn X_171 K rfl rfl rfl d16_140 (by decide) (by decide) N_171 ?_
  rw [e_171]
  exact ⟨r, rfl, K_171, gg_171_r, sz_r, p_171f0, p_171f1⟩
set_option maxHeartbeats 4000000 in
theorem c_encode_pn (l : Launch) (Z : State) (a0 : Array Value) (hw : OW Z a0) (n0 : Nat) (t u8 : Addr) (x0 x1 : Int32) (h0 : Heap) (Z0 : n0 ≤ h0.size) (S_INSTANCE : Sta Z h0 "sun/nio/cs/UTF_8" "INSTANCE" "Lsun/nio/cs/UTF_8;" (.ref u8)) (A_t : OAr Z h0 t .byte 2 (own_B [x0, x1])) (E_t : Exa Z h0 t "[B") (hs0 : 0 ≤ x0.toInt) (hb0 : nar .byte x0 = x0) (hs1 : x1.toInt < 0) (hb1 : nar .byte x1 = x1) :
    OCon l Z n0 (⟨"java/lang/String", "encode", "(Ljava/nio/charset/Charset;B[B)[B"⟩ : MethodName) jdk_42_method_18_code 3 (some (.array .byte)) ({ frames := 3, cells := 2, slots := 7, locals := 80 } : Room) #[(.ref u8), (.int (0 : Int32)), (.ref t)] h0 (fun v h => ∃ r : Addr, v = some (.ref r) ∧ Keep h0 h [] ∧ n0 ≤ r ∧ h0.size ≤ r ∧ OAr Z h r .byte 3 (own_B [x0, (own_e1 x1), (own_e2 x1)]) ∧ Exa Z h r "[B") := by
  refine OCon.of (Ls := #[.val (.ref u8), .val (.int (0 : Int32)), .val (.ref t)]) pn_15 rfl rfl (fun m => by first | (simp [entryFrame, mkF, argsToLocals, Value.category]; done) | rfl) ?_
  intro p e s m below meth c T0 X0 K e0
  have N0 := Fr.nil n0
  have KK0 := Keep.refl h0 []
  refine o_aloadN X0 K d15_0 1 rfl rfl rfl ?_
  refine o_getstatic X0 K (host := "") d15_1 4 rfl (Or.inl (w_81 hw)) Via.refl e0 S_INSTANCE ?_
  intro T_176 X_176 e_176
  refine o_acmp X_176 K d15_4 7 rfl rfl true (decide_eq_true rfl) (by decide) (by decide) ?_
  refine o_iloadN X_176 K d15_7 8 rfl rfl ?_
  refine o_aloadN X_176 K d15_8 9 rfl rfl rfl ?_
  refine o_iconst X_176 K (1 : Int32) d15_9 10 rfl rfl ?_
  refine o_invokestatic X_176 K d15_10 13 rfl (w_83 hw) (w_84 hw) (w_2 hw) (w_85 hw) (by decide) [(.int (0 : Int32)), (.ref t), (.int (1 : Int32))] [] rfl  (c_enc_pn l Z a0 hw n0 t x0 x1 h0 Z0 A_t E_t (hs0) (hb0) (hs1) (hb1)) e_176 rfl (lenOf pd__B_BZ__B rfl) (by decide) 0 (Nat.le_of_eq rfl) (by decide) (by decide) (by decide) N0 ?_
  rintro _ T_177 h_177 locs_177 X_177 e_177 ⟨r, rfl, k_177, gg_177_r, sz_177_r, p_177f0, p_177f1⟩ N_177
  have Z_177 : n0 ≤ h_177.size := Nat.le_trans Z0 k_177.1
  have K_177 := KK0.trans k_177 (all0)
  have f_178 := o_sta_keep S_INSTANCE k_177 (o_plain0)
  have f_179 := A_t.keep k_177 (nin0)
  have f_180 := Exa.keep E_t k_177
  have ne_t_r : t ≠ r := Nat.ne_of_lt (Nat.lt_of_lt_of_le A_t.lt sz_177_r)
  have sz_r : h0.size ≤ r := Nat.le_trans KK0.1 sz_177_r
  show OGo p e below _ n0 _ (T_177.setTop (mkF m 13 #[.val (.ref u8), .val (.int (0 : Int32)), .val (.ref t)] [(.ref r)]))
  refine o_areturn X_177 K rfl rfl rfl d15_13 (by decide) (by decide) N_177 ?_
  rw [e_177]
  exact ⟨r, rfl, K_177, gg_177_r, sz_r, p_177f0, p_177f1⟩
set_option maxHeartbeats 4000000 in
theorem c_gb_pn (l : Launch) (Z : State) (a0 : Array Value) (hw : OW Z a0) (n0 : Nat) (sx t u8 : Addr) (x0 x1 : Int32) (zcs : Int32) (h0 : Heap) (Z0 : n0 ≤ h0.size) (S_COMPACT_STRINGS : Sta Z h0 "java/lang/String" "COMPACT_STRINGS" "Z" (.int zcs)) (hcs : ¬ zcs = 0) (S_INSTANCE : Sta Z h0 "sun/nio/cs/UTF_8" "INSTANCE" "Lsun/nio/cs/UTF_8;" (.ref u8)) (E_sx : Exa Z h0 sx "java/lang/String") (F_sx_value : Fld Z h0 sx "java/lang/String" "value" "[B" (.ref t)) (F_sx_coder : Fld Z h0 sx "java/lang/String" "coder" "B" (.int (0 : Int32))) (A_t : OAr Z h0 t .byte 2 (own_B [x0, x1])) (E_t : Exa Z h0 t "[B") (hs0 : 0 ≤ x0.toInt) (hb0 : nar .byte x0 = x0) (hs1 : x1.toInt < 0) (hb1 : nar .byte x1 = x1) :
    OCon l Z n0 (⟨"java/lang/String", "getBytes", "(Ljava/nio/charset/Charset;)[B"⟩ : MethodName) jdk_42_method_64_code 2 (some (.array .byte)) ({ frames := 4, cells := 2, slots := 7, locals := 98 } : Room) #[(.ref sx), (.ref u8)] h0 (fun v h => ∃ r : Addr, v = some (.ref r) ∧ Keep h0 h [] ∧ n0 ≤ r ∧ h0.size ≤ r ∧ OAr Z h r .byte 3 (own_B [x0, (own_e1 x1), (own_e2 x1)]) ∧ Exa Z h r "[B") := by
  refine OCon.of (Ls := #[.val (.ref sx), .val (.ref u8)]) pn_13 rfl rfl (fun m => by first | (simp [entryFrame, mkF, argsToLocals, Value.category]; done) | rfl) ?_
  intro p e s m below meth c T0 X0 K e0
  have N0 := Fr.nil n0
  have KK0 := Keep.refl h0 []
  refine o_aloadN X0 K d13_0 1 rfl rfl rfl ?_
  refine o_ifnonnull_t X0 K d13_1 12 (by decide) (by decide) ?_
  refine o_aloadN X0 K d13_12 13 rfl rfl rfl ?_
  refine o_aloadN X0 K d13_13 14 rfl rfl rfl ?_
  refine o_invokevirtual X0 K d13_14 17 rfl (w_73 hw) (w_74 hw) (w_76 hw) (w_75 hw) (w_2 hw) (w_77 hw) (by decide) E_sx [] [(.ref u8)] rfl  (c_coder l Z a0 hw n0 sx zcs h0 Z0 S_COMPACT_STRINGS (hcs) F_sx_coder) e0 rfl (lenOf pd___B rfl) (by decide) 1 (Nat.le_of_eq rfl) (by decide) (by decide) (by decide) N0 ?_
  rintro _ T_181 h_181 locs_181 X_181 q_181 ⟨rfl, r_181⟩ N_181
  have e_181 := q_181.trans r_181
  show OGo p e below _ n0 _ (T_181.setTop (mkF m 17 #[.val (.ref sx), .val (.ref u8)] [(.int (0 : Int32)), (.ref u8)]))
  refine o_aloadN X_181 K d13_17 18 rfl rfl rfl ?_
  refine o_getfield X_181 K (host := "") d13_18 21 rfl (Or.inl (w_22 hw)) Via.refl e_181 F_sx_value ?_
  intro T_182 X_182 e_182
  refine o_invokestatic X_182 K d13_21 24 rfl (w_78 hw) (w_79 hw) (w_2 hw) (w_80 hw) (by decide) [(.ref u8), (.int (0 : Int32)), (.ref t)] [] rfl  (c_encode_pn l Z a0 hw n0 t u8 x0 x1 h0 Z0 S_INSTANCE A_t E_t (hs0) (hb0) (hs1) (hb1)) e_182 rfl (lenOf pd__Ljava_nio_charset_Charset_B_B__B rfl) (by decide) 0 (Nat.le_of_eq rfl) (by decide) (by decide) (by decide) N_181 ?_
  rintro _ T_183 h_183 locs_183 X_183 e_183 ⟨r, rfl, k_183, gg_183_r, sz_183_r, p_183f0, p_183f1⟩ N_183
  have Z_183 : n0 ≤ h_183.size := Nat.le_trans Z0 k_183.1
  have K_183 := KK0.trans k_183 (all0)
  have f_184 := o_sta_keep S_COMPACT_STRINGS k_183 (o_plain0)
  have f_185 := o_sta_keep S_INSTANCE k_183 (o_plain0)
  have f_186 := Exa.keep E_sx k_183
  have f_187 := Fld.keep F_sx_value k_183 (nin0)
  have f_188 := Fld.keep F_sx_coder k_183 (nin0)
  have f_189 := A_t.keep k_183 (nin0)
  have f_190 := Exa.keep E_t k_183
  have ne_sx_r : sx ≠ r := Nat.ne_of_lt (Nat.lt_of_lt_of_le E_sx.lt sz_183_r)
  have ne_t_r : t ≠ r := Nat.ne_of_lt (Nat.lt_of_lt_of_le A_t.lt sz_183_r)
  have sz_r : h0.size ≤ r := Nat.le_trans KK0.1 sz_183_r
  show OGo p e below _ n0 _ (T_183.setTop (mkF m 24 #[.val (.ref sx), .val (.ref u8)] [(.ref r)]))
  refine o_areturn X_183 K rfl rfl rfl d13_24 (by decide) (by decide) N_183 ?_
  rw [e_183]
  exact ⟨r, rfl, K_183, gg_183_r, sz_r, p_183f0, p_183f1⟩
set_option maxHeartbeats 4000000 in
theorem c_cp_np (l : Launch) (Z : State) (a0 : Array Value) (hw : OW Z a0) (n0 : Nat) (t : Addr) (x0 x1 : Int32) (h0 : Heap) (Z0 : n0 ≤ h0.size) (A_t : OAr Z h0 t .byte 2 (own_B [x0, x1])) (E_t : Exa Z h0 t "[B") (hs0 : x0.toInt < 0) (hb0 : nar .byte x0 = x0) (hs1 : 0 ≤ x1.toInt) (hb1 : nar .byte x1 = x1) :
    OCon l Z n0 (⟨"java/lang/StringCoding", "countPositives", "([BII)I"⟩ : MethodName) jdk_123_method_3_code 5 (some .int) ({ frames := 0, cells := 0, slots := 0, locals := 0 } : Room) #[(.ref t), (.int (0 : Int32)), (.int (2 : Int32))] h0 (fun v h => v = some (.int (0 : Int32)) ∧ h = h0) := by
  refine OCon.of (Ls := #[.val (.ref t), .val (.int (0 : Int32)), .val (.int (2 : Int32)), .unset, .unset]) pn_18 rfl rfl (fun m => by first | (simp [entryFrame, mkF, argsToLocals, Value.category]; done) | rfl) ?_
  intro p e s m below meth c T0 X0 K e0
  have N0 := Fr.nil n0
  refine o_iloadN X0 K d18_0 1 rfl rfl ?_
  refine o_iloadN X0 K d18_1 2 rfl rfl ?_
  refine o_iadd X0 K d18_2 3 rfl ?_
  refine o_istoreN X0 K d18_3 4 rfl #[.val (.ref t), .val (.int (0 : Int32)), .val (.int (2 : Int32)), .val (.int ((0 : Int32) + (2 : Int32))), .unset] rfl rfl ?_
  refine o_iloadN X0 K d18_4 5 rfl rfl ?_
  refine o_istore X0 K d18_5 7 rfl #[.val (.ref t), .val (.int (0 : Int32)), .val (.int (2 : Int32)), .val (.int ((0 : Int32) + (2 : Int32))), .val (.int (0 : Int32))] rfl rfl ?_
  refine o_iload X0 K d18_7 9 rfl rfl ?_
  refine o_iloadN X0 K d18_9 10 rfl rfl ?_
  refine o_icmp_ge_f X0 K d18_10 13 rfl (by decide) ?_
  refine o_aloadN X0 K d18_13 14 rfl rfl rfl ?_
  refine o_iload X0 K d18_14 16 rfl rfl ?_
  refine o_baload X0 K (i := 0) (v := (.int x0)) d18_16 17 rfl e0 A_t (by decide) (by decide) (rfl) ?_
  refine o_if_ge_f X0 K d18_17 20 rfl (hs0) ?_
  refine o_iload X0 K d18_20 22 rfl rfl ?_
  refine o_iloadN X0 K d18_22 23 rfl rfl ?_
  refine o_isub X0 K d18_23 24 rfl ?_
  refine o_ireturn X0 K d18_24 (by decide) (by decide) N0 ?_
  exact ⟨rfl, e0⟩
set_option maxHeartbeats 4000000 in
theorem c_hn_np (l : Launch) (Z : State) (a0 : Array Value) (hw : OW Z a0) (n0 : Nat) (t : Addr) (x0 x1 : Int32) (h0 : Heap) (Z0 : n0 ≤ h0.size) (A_t : OAr Z h0 t .byte 2 (own_B [x0, x1])) (E_t : Exa Z h0 t "[B") (hs0 : x0.toInt < 0) (hb0 : nar .byte x0 = x0) (hs1 : 0 ≤ x1.toInt) (hb1 : nar .byte x1 = x1) :
    OCon l Z n0 (⟨"java/lang/StringCoding", "hasNegatives", "([BII)Z"⟩ : MethodName) jdk_123_method_2_code 3 (some .boolean) ({ frames := 1, cells := 0, slots := 0, locals := 16 } : Room) #[(.ref t), (.int (0 : Int32)), (.int (2 : Int32))] h0 (fun v h => v = some (.int (1 : Int32)) ∧ h = h0) := by
  refine OCon.of (Ls := #[.val (.ref t), .val (.int (0 : Int32)), .val (.int (2 : Int32))]) pn_17 rfl rfl (fun m => by first | (simp [entryFrame, mkF, argsToLocals, Value.category]; done) | rfl) ?_
  intro p e s m below meth c T0 X0 K e0
  have N0 := Fr.nil n0
  refine o_aloadN X0 K d17_0 1 rfl rfl rfl ?_
  refine o_iloadN X0 K d17_1 2 rfl rfl ?_
  refine o_iloadN X0 K d17_2 3 rfl rfl ?_
  refine o_invokestatic X0 K d17_3 6 rfl (w_90 hw) (w_91 hw) (w_88 hw) (w_92 hw) (by decide) [(.ref t), (.int (0 : Int32)), (.int (2 : Int32))] [] rfl  (c_cp_np l Z a0 hw n0 t x0 x1 h0 Z0 A_t E_t (hs0) (hb0) (hs1) (hb1)) e0 rfl (lenOf pd___BII_I rfl) (by decide) 0 (Nat.le_of_eq rfl) (by decide) (by decide) (by decide) N0 ?_
  rintro _ T_191 h_191 locs_191 X_191 q_191 ⟨rfl, r_191⟩ N_191
  have e_191 := q_191.trans r_191
  show OGo p e below _ n0 _ (T_191.setTop (mkF m 6 #[.val (.ref t), .val (.int (0 : Int32)), .val (.int (2 : Int32))] [(.int (0 : Int32))]))
  refine o_iloadN X_191 K d17_6 7 rfl rfl ?_
  refine o_icmp_eq_f X_191 K d17_7 10 rfl (by decide) ?_
  refine o_iconst X_191 K (1 : Int32) d17_10 11 rfl rfl ?_
  refine o_goto X_191 K d17_11 15 (by decide) (by decide) ?_
  refine o_ireturnN X_191 K (by decide) d17_15 (by decide) (by decide) N_191 ?_
  exact ⟨rfl, e_191⟩
set_option maxHeartbeats 4000000 in
theorem c_enc_np (l : Launch) (Z : State) (a0 : Array Value) (hw : OW Z a0) (n0 : Nat) (t : Addr) (x0 x1 : Int32) (h0 : Heap) (Z0 : n0 ≤ h0.size) (A_t : OAr Z h0 t .byte 2 (own_B [x0, x1])) (E_t : Exa Z h0 t "[B") (hs0 : x0.toInt < 0) (hb0 : nar .byte x0 = x0) (hs1 : 0 ≤ x1.toInt) (hb1 : nar .byte x1 = x1) :
    OCon l Z n0 (⟨"java/lang/String", "encodeUTF8", "(B[BZ)[B"⟩ : MethodName) jdk_42_method_46_code 9 (some (.array .byte)) ({ frames := 2, cells := 2, slots := 7, locals := 60 } : Room) #[(.int (0 : Int32)), (.ref t), (.int (1 : Int32))] h0 (fun v h => ∃ r : Addr, v = some (.ref r) ∧ Keep h0 h [] ∧ n0 ≤ r ∧ h0.size ≤ r ∧ OAr Z h r .byte 3 (own_B [(own_e1 x0), (own_e2 x0), x1]) ∧ Exa Z h r "[B") := by
  refine OCon.of (Ls := #[.val (.int (0 : Int32)), .val (.ref t), .val (.int (1 : Int32)), .unset, .unset, .unset, .unset, .unset, .unset]) pn_16 rfl rfl (fun m => by first | (simp [entryFrame, mkF, argsToLocals, Value.category]; done) | rfl) ?_
  intro p e s m below meth c T0 X0 K e0
  have N0 := Fr.nil n0
  have KK0 := Keep.refl h0 []
  refine o_iloadN X0 K d16_0 1 rfl rfl ?_
  refine o_iconst X0 K (1 : Int32) d16_1 2 rfl rfl ?_
  refine o_icmp_ne_t X0 K d16_2 11 (by decide) (by decide) (by decide) ?_
  refine o_aloadN X0 K d16_11 12 rfl rfl rfl ?_
  refine o_iconst X0 K (0 : Int32) d16_12 13 rfl rfl ?_
  refine o_aloadN X0 K d16_13 14 rfl rfl rfl ?_
  refine o_arraylength X0 K d16_14 15 rfl e0 A_t (v := (2 : Int32)) (rfl) ?_
  refine o_invokestatic X0 K d16_15 18 rfl (w_86 hw) (w_87 hw) (w_88 hw) (w_89 hw) (by decide) [(.ref t), (.int (0 : Int32)), (.int (2 : Int32))] [] rfl  (c_hn_np l Z a0 hw n0 t x0 x1 h0 Z0 A_t E_t (hs0) (hb0) (hs1) (hb1)) e0 rfl (lenOf pd___BII_Z rfl) (by decide) 0 (Nat.le_of_eq rfl) (by decide) (by decide) (by decide) N0 ?_
  rintro _ T_192 h_192 locs_192 X_192 q_192 ⟨rfl, r_192⟩ N_192
  have e_192 := q_192.trans r_192
  show OGo p e below _ n0 _ (T_192.setTop (mkF m 18 #[.val (.int (0 : Int32)), .val (.ref t), .val (.int (1 : Int32)), .unset, .unset, .unset, .unset, .unset, .unset] [(.int (1 : Int32))]))
  refine o_if_ne_t X_192 K d16_18 29 (by decide) (by decide) (by decide) ?_
  refine o_iconst X_192 K (0 : Int32) d16_29 30 rfl rfl ?_
  refine o_istoreN X_192 K d16_30 31 rfl #[.val (.int (0 : Int32)), .val (.ref t), .val (.int (1 : Int32)), .val (.int (0 : Int32)), .unset, .unset, .unset, .unset, .unset] rfl rfl ?_
  refine o_aloadN X_192 K d16_31 32 rfl rfl rfl ?_
  refine o_arraylength X_192 K d16_32 33 rfl e_192 A_t (v := (2 : Int32)) (rfl) ?_
  refine o_invokestatic X_192 K d16_33 36 rfl (w_145 hw) (w_146 hw) (w_36 hw) (w_147 hw) (by decide) [(.int (2 : Int32))] [] rfl  (c_nbf2 l Z a0 hw n0  h0 Z0 ) e_192 rfl (lenOf pd__I__B rfl) (by decide) 0 (Nat.le_of_eq rfl) (by decide) (by decide) (by decide) N_192 ?_
  rintro _ T_193 h_193 locs_193 X_193 e_193 ⟨d, rfl, k_193, gg_193_d, sz_193_d, p_193f0, p_193f1⟩ N_193
  have Z_193 : n0 ≤ h_193.size := Nat.le_trans Z0 k_193.1
  have K_193 := KK0.trans k_193 (all0)
  have f_194 := A_t.keep k_193 (nin0)
  have f_195 := Exa.keep E_t k_193
  have ne_t_d : t ≠ d := Nat.ne_of_lt (Nat.lt_of_lt_of_le A_t.lt sz_193_d)
  have sz_d : h0.size ≤ d := Nat.le_trans KK0.1 sz_193_d
  show OGo p e below _ n0 _ (T_193.setTop (mkF m 36 #[.val (.int (0 : Int32)), .val (.ref t), .val (.int (1 : Int32)), .val (.int (0 : Int32)), .unset, .unset, .unset, .unset, .unset] [(.ref d)]))
  refine o_astore X_193 K d16_36 38 rfl #[.val (.int (0 : Int32)), .val (.ref t), .val (.int (1 : Int32)), .val (.int (0 : Int32)), .val (.ref d), .unset, .unset, .unset, .unset] rfl rfl ?_
  refine o_aloadN X_193 K d16_38 39 rfl rfl rfl ?_
  refine o_astore X_193 K d16_39 41 rfl #[.val (.int (0 : Int32)), .val (.ref t), .val (.int (1 : Int32)), .val (.int (0 : Int32)), .val (.ref d), .val (.ref t), .unset, .unset, .unset] rfl rfl ?_
  refine o_aload X_193 K d16_41 43 rfl rfl rfl ?_
  refine o_arraylength X_193 K d16_43 44 rfl e_193 f_194 (v := (2 : Int32)) (rfl) ?_
  refine o_istore X_193 K d16_44 46 rfl #[.val (.int (0 : Int32)), .val (.ref t), .val (.int (1 : Int32)), .val (.int (0 : Int32)), .val (.ref d), .val (.ref t), .val (.int (2 : Int32)), .unset, .unset] rfl rfl ?_
  refine o_iconst X_193 K (0 : Int32) d16_46 47 rfl rfl ?_
  refine o_istore X_193 K d16_47 49 rfl #[.val (.int (0 : Int32)), .val (.ref t), .val (.int (1 : Int32)), .val (.int (0 : Int32)), .val (.ref d), .val (.ref t), .val (.int (2 : Int32)), .val (.int (0 : Int32)), .unset] rfl rfl ?_
  refine o_iload X_193 K d16_49 51 rfl rfl ?_
  refine o_iload X_193 K d16_51 53 rfl rfl ?_
  refine o_icmp_ge_f X_193 K d16_53 56 rfl (by decide) ?_
  refine o_aload X_193 K d16_56 58 rfl rfl rfl ?_
  refine o_iload X_193 K d16_58 60 rfl rfl ?_
  refine o_baload X_193 K (i := 0) (v := (.int x0)) d16_60 61 rfl e_193 f_194 (by decide) (by decide) (rfl) ?_
  refine o_istore X_193 K d16_61 63 rfl #[.val (.int (0 : Int32)), .val (.ref t), .val (.int (1 : Int32)), .val (.int (0 : Int32)), .val (.ref d), .val (.ref t), .val (.int (2 : Int32)), .val (.int (0 : Int32)), .val (.int x0)] rfl rfl ?_
  refine o_iload X_193 K d16_63 65 rfl rfl ?_
  refine o_if_ge_f X_193 K d16_65 68 rfl (hs0) ?_
  refine o_aload X_193 K d16_68 70 rfl rfl rfl ?_
  refine o_iloadN X_193 K d16_70 71 rfl rfl ?_
  refine o_iinc X_193 K d16_71 74 rfl #[.val (.int (0 : Int32)), .val (.ref t), .val (.int (1 : Int32)), .val (.int (1 : Int32)), .val (.ref d), .val (.ref t), .val (.int (2 : Int32)), .val (.int (0 : Int32)), .val (.int x0)] rfl (by decide) rfl ?_
  refine o_sipush X_193 K (192 : Int32) d16_74 77 rfl rfl ?_
  refine o_iload X_193 K d16_77 79 rfl rfl ?_
  refine o_sipush X_193 K (255 : Int32) d16_79 82 rfl rfl ?_
  refine o_iand X_193 K d16_82 83 rfl ?_
  refine o_bipush X_193 K (6 : Int32) d16_83 85 rfl rfl ?_
  refine o_ishr X_193 K d16_85 86 rfl ?_
  refine o_ior X_193 K d16_86 87 rfl ?_
  refine o_i2b X_193 K d16_87 88 rfl ?_
  refine o_bastore X_193 K (i := 0) (x' := (own_e1 x0)) d16_88 89 rfl e_193 p_193f0 (by decide) (by decide) (o_nb _) N_193 gg_193_d ?_
  intro T_196 h_196 locs_196 X_196 e_196 W_196 A_196 N_196
  have Z_196 : n0 ≤ h_196.size := by rw [Wr.size W_196]; exact Z_193
  have K_196 := K_193.wr W_196 (Or.inr sz_d)
  have f_197 := f_194.other W_196 ne_t_d
  have f_198 := Exa.wr W_196 f_195
  have f_199 := Exa.wr W_196 p_193f1
  refine o_aload X_196 K d16_89 91 rfl rfl rfl ?_
  refine o_iloadN X_196 K d16_91 92 rfl rfl ?_
  refine o_iinc X_196 K d16_92 95 rfl #[.val (.int (0 : Int32)), .val (.ref t), .val (.int (1 : Int32)), .val (.int (2 : Int32)), .val (.ref d), .val (.ref t), .val (.int (2 : Int32)), .val (.int (0 : Int32)), .val (.int x0)] rfl (by decide) rfl ?_
  refine o_sipush X_196 K (128 : Int32) d16_95 98 rfl rfl ?_
  refine o_iload X_196 K d16_98 100 rfl rfl ?_
  refine o_bipush X_196 K (63 : Int32) d16_100 102 rfl rfl ?_
  refine o_iand X_196 K d16_102 103 rfl ?_
  refine o_ior X_196 K d16_103 104 rfl ?_
  refine o_i2b X_196 K d16_104 105 rfl ?_
  refine o_bastore X_196 K (i := 1) (x' := (own_e2 x0)) d16_105 106 rfl e_196 A_196 (by decide) (by decide) (o_nb _) N_196 gg_193_d ?_
  intro T_200 h_200 locs_200 X_200 e_200 W_200 A_200 N_200
  have Z_200 : n0 ≤ h_200.size := by rw [Wr.size W_200]; exact Z_196
  have K_200 := K_196.wr W_200 (Or.inr sz_d)
  have f_201 := f_197.other W_200 ne_t_d
  have f_202 := Exa.wr W_200 f_198
  have f_203 := Exa.wr W_200 f_199
  refine o_goto X_200 K d16_106 118 (by decide) (by decide) ?_
  refine o_iinc X_200 K d16_118 121 rfl #[.val (.int (0 : Int32)), .val (.ref t), .val (.int (1 : Int32)), .val (.int (2 : Int32)), .val (.ref d), .val (.ref t), .val (.int (2 : Int32)), .val (.int (1 : Int32)), .val (.int x0)] rfl (by decide) rfl ?_
  refine o_goto X_200 K d16_121 49 (by decide) (by decide) ?_
  refine o_iload X_200 K d16_49 51 rfl rfl ?_
  refine o_iload X_200 K d16_51 53 rfl rfl ?_
  refine o_icmp_ge_f X_200 K d16_53 56 rfl (by decide) ?_
  refine o_aload X_200 K d16_56 58 rfl rfl rfl ?_
  refine o_iload X_200 K d16_58 60 rfl rfl ?_
  refine o_baload X_200 K (i := 1) (v := (.int x1)) d16_60 61 rfl e_200 f_201 (by decide) (by decide) (rfl) ?_
  refine o_istore X_200 K d16_61 63 rfl #[.val (.int (0 : Int32)), .val (.ref t), .val (.int (1 : Int32)), .val (.int (2 : Int32)), .val (.ref d), .val (.ref t), .val (.int (2 : Int32)), .val (.int (1 : Int32)), .val (.int x1)] rfl rfl ?_
  refine o_iload X_200 K d16_63 65 rfl rfl ?_
  refine o_if_ge_t X_200 K d16_65 109 (by decide) (by decide) (hs1) ?_
  refine o_aload X_200 K d16_109 111 rfl rfl rfl ?_
  refine o_iloadN X_200 K d16_111 112 rfl rfl ?_
  refine o_iinc X_200 K d16_112 115 rfl #[.val (.int (0 : Int32)), .val (.ref t), .val (.int (1 : Int32)), .val (.int (3 : Int32)), .val (.ref d), .val (.ref t), .val (.int (2 : Int32)), .val (.int (1 : Int32)), .val (.int x1)] rfl (by decide) rfl ?_
  refine o_iload X_200 K d16_115 117 rfl rfl ?_
  refine o_bastore X_200 K (i := 2) (x' := x1) d16_117 118 rfl e_200 A_200 (by decide) (by decide) (hb1) N_200 gg_193_d ?_
  intro T_204 h_204 locs_204 X_204 e_204 W_204 A_204 N_204
  have Z_204 : n0 ≤ h_204.size := by rw [Wr.size W_204]; exact Z_200
  have K_204 := K_200.wr W_204 (Or.inr sz_d)
  have f_205 := f_201.other W_204 ne_t_d
  have f_206 := Exa.wr W_204 f_202
  have f_207 := Exa.wr W_204 f_203
  refine o_iinc X_204 K d16_118 121 rfl #[.val (.int (0 : Int32)), .val (.ref t), .val (.int (1 : Int32)), .val (.int (3 : Int32)), .val (.ref d), .val (.ref t), .val (.int (2 : Int32)), .val (.int (2 : Int32)), .val (.int x1)] rfl (by decide) rfl ?_
  refine o_goto X_204 K d16_121 49 (by decide) (by decide) ?_
  refine o_iload X_204 K d16_49 51 rfl rfl ?_
  refine o_iload X_204 K d16_51 53 rfl rfl ?_
  refine o_icmp_ge_t X_204 K d16_53 124 (by decide) (by decide) (by decide) ?_
  refine o_iloadN X_204 K d16_124 125 rfl rfl ?_
  refine o_aload X_204 K d16_125 127 rfl rfl rfl ?_
  refine o_arraylength X_204 K d16_127 128 rfl e_204 A_204 (v := (4 : Int32)) (rfl) ?_
  refine o_icmp_ne_t X_204 K d16_128 134 (by decide) (by decide) (by decide) ?_
  have AB_208 := OAr.congr A_204 (g := own_B [(own_e1 x0), (own_e2 x0), x1, (0 : Int32)]) (fun j hj => by rcases (by omega : j = 0 ∨ j = 1 ∨ j = 2 ∨ j = 3) with rfl | rfl | rfl | rfl <;> rfl)
  refine o_aload X_204 K d16_134 136 rfl rfl rfl ?_
  refine o_iloadN X_204 K d16_136 137 rfl rfl ?_
  refine o_invokestatic X_204 K d16_137 140 rfl (w_152 hw) (w_153 hw) (w_154 hw) (w_155 hw) (by decide) [(.ref d), (.int (3 : Int32))] [] rfl  (c_cpy l Z a0 hw n0 d (own_e1 x0) (own_e2 x0) x1 (0 : Int32) h_204 Z_204 AB_208) e_204 rfl (lenOf pd___BI__B rfl) (by decide) 0 (Nat.le_of_eq rfl) (by decide) (by decide) (by decide) N_204 ?_
  rintro _ T_209 h_209 locs_209 X_209 e_209 ⟨r, rfl, k_209, gg_209_r, sz_209_r, p_209f0, p_209f1⟩ N_209
  have Z_209 : n0 ≤ h_209.size := Nat.le_trans Z_204 k_209.1
  have K_209 := K_204.trans k_209 (all0)
  have f_210 := f_205.keep k_209 (nin0)
  have f_211 := Exa.keep f_206 k_209
  have f_212 := Exa.keep f_207 k_209
  have f_213 := AB_208.keep k_209 (nin0)
  have ne_t_r : t ≠ r := Nat.ne_of_lt (Nat.lt_of_lt_of_le f_205.lt sz_209_r)
  have ne_d_r : d ≠ r := Nat.ne_of_lt (Nat.lt_of_lt_of_le f_207.lt sz_209_r)
  have sz_r : h0.size ≤ r := Nat.le_trans K_204.1 sz_209_r
  show OGo p e below _ n0 _ (T_209.setTop (mkF m 140 #[.val (.int (0 : Int32)), .val (.ref t), .val (.int (1 : Int32)), .val (.int (3 : Int32)), .val (.ref d), .val (.ref t), .val (.int (2 : Int32)), .val (.int (2 : Int32)), .val (.int x1)] [(.ref r)]))
  refine o_areturn X_209 K rfl rfl rfl d16_140 (by decide) (by decide) N_209 ?_
  rw [e_209]
  exact ⟨r, rfl, K_209, gg_209_r, sz_r, p_209f0, p_209f1⟩
set_option maxHeartbeats 4000000 in
theorem c_encode_np (l : Launch) (Z : State) (a0 : Array Value) (hw : OW Z a0) (n0 : Nat) (t u8 : Addr) (x0 x1 : Int32) (h0 : Heap) (Z0 : n0 ≤ h0.size) (S_INSTANCE : Sta Z h0 "sun/nio/cs/UTF_8" "INSTANCE" "Lsun/nio/cs/UTF_8;" (.ref u8)) (A_t : OAr Z h0 t .byte 2 (own_B [x0, x1])) (E_t : Exa Z h0 t "[B") (hs0 : x0.toInt < 0) (hb0 : nar .byte x0 = x0) (hs1 : 0 ≤ x1.toInt) (hb1 : nar .byte x1 = x1) :
    OCon l Z n0 (⟨"java/lang/String", "encode", "(Ljava/nio/charset/Charset;B[B)[B"⟩ : MethodName) jdk_42_method_18_code 3 (some (.array .byte)) ({ frames := 3, cells := 2, slots := 7, locals := 80 } : Room) #[(.ref u8), (.int (0 : Int32)), (.ref t)] h0 (fun v h => ∃ r : Addr, v = some (.ref r) ∧ Keep h0 h [] ∧ n0 ≤ r ∧ h0.size ≤ r ∧ OAr Z h r .byte 3 (own_B [(own_e1 x0), (own_e2 x0), x1]) ∧ Exa Z h r "[B") := by
  refine OCon.of (Ls := #[.val (.ref u8), .val (.int (0 : Int32)), .val (.ref t)]) pn_15 rfl rfl (fun m => by first | (simp [entryFrame, mkF, argsToLocals, Value.category]; done) | rfl) ?_
  intro p e s m below meth c T0 X0 K e0
  have N0 := Fr.nil n0
  have KK0 := Keep.refl h0 []
  refine o_aloadN X0 K d15_0 1 rfl rfl rfl ?_
  refine o_getstatic X0 K (host := "") d15_1 4 rfl (Or.inl (w_81 hw)) Via.refl e0 S_INSTANCE ?_
  intro T_214 X_214 e_214
  refine o_acmp X_214 K d15_4 7 rfl rfl true (decide_eq_true rfl) (by decide) (by decide) ?_
  refine o_iloadN X_214 K d15_7 8 rfl rfl ?_
  refine o_aloadN X_214 K d15_8 9 rfl rfl rfl ?_
  refine o_iconst X_214 K (1 : Int32) d15_9 10 rfl rfl ?_
  refine o_invokestatic X_214 K d15_10 13 rfl (w_83 hw) (w_84 hw) (w_2 hw) (w_85 hw) (by decide) [(.int (0 : Int32)), (.ref t), (.int (1 : Int32))] [] rfl  (c_enc_np l Z a0 hw n0 t x0 x1 h0 Z0 A_t E_t (hs0) (hb0) (hs1) (hb1)) e_214 rfl (lenOf pd__B_BZ__B rfl) (by decide) 0 (Nat.le_of_eq rfl) (by decide) (by decide) (by decide) N0 ?_
  rintro _ T_215 h_215 locs_215 X_215 e_215 ⟨r, rfl, k_215, gg_215_r, sz_215_r, p_215f0, p_215f1⟩ N_215
  have Z_215 : n0 ≤ h_215.size := Nat.le_trans Z0 k_215.1
  have K_215 := KK0.trans k_215 (all0)
  have f_216 := o_sta_keep S_INSTANCE k_215 (o_plain0)
  have f_217 := A_t.keep k_215 (nin0)
  have f_218 := Exa.keep E_t k_215
  have ne_t_r : t ≠ r := Nat.ne_of_lt (Nat.lt_of_lt_of_le A_t.lt sz_215_r)
  have sz_r : h0.size ≤ r := Nat.le_trans KK0.1 sz_215_r
  show OGo p e below _ n0 _ (T_215.setTop (mkF m 13 #[.val (.ref u8), .val (.int (0 : Int32)), .val (.ref t)] [(.ref r)]))
  refine o_areturn X_215 K rfl rfl rfl d15_13 (by decide) (by decide) N_215 ?_
  rw [e_215]
  exact ⟨r, rfl, K_215, gg_215_r, sz_r, p_215f0, p_215f1⟩
set_option maxHeartbeats 4000000 in
theorem c_gb_np (l : Launch) (Z : State) (a0 : Array Value) (hw : OW Z a0) (n0 : Nat) (sx t u8 : Addr) (x0 x1 : Int32) (zcs : Int32) (h0 : Heap) (Z0 : n0 ≤ h0.size) (S_COMPACT_STRINGS : Sta Z h0 "java/lang/String" "COMPACT_STRINGS" "Z" (.int zcs)) (hcs : ¬ zcs = 0) (S_INSTANCE : Sta Z h0 "sun/nio/cs/UTF_8" "INSTANCE" "Lsun/nio/cs/UTF_8;" (.ref u8)) (E_sx : Exa Z h0 sx "java/lang/String") (F_sx_value : Fld Z h0 sx "java/lang/String" "value" "[B" (.ref t)) (F_sx_coder : Fld Z h0 sx "java/lang/String" "coder" "B" (.int (0 : Int32))) (A_t : OAr Z h0 t .byte 2 (own_B [x0, x1])) (E_t : Exa Z h0 t "[B") (hs0 : x0.toInt < 0) (hb0 : nar .byte x0 = x0) (hs1 : 0 ≤ x1.toInt) (hb1 : nar .byte x1 = x1) :
    OCon l Z n0 (⟨"java/lang/String", "getBytes", "(Ljava/nio/charset/Charset;)[B"⟩ : MethodName) jdk_42_method_64_code 2 (some (.array .byte)) ({ frames := 4, cells := 2, slots := 7, locals := 98 } : Room) #[(.ref sx), (.ref u8)] h0 (fun v h => ∃ r : Addr, v = some (.ref r) ∧ Keep h0 h [] ∧ n0 ≤ r ∧ h0.size ≤ r ∧ OAr Z h r .byte 3 (own_B [(own_e1 x0), (own_e2 x0), x1]) ∧ Exa Z h r "[B") := by
  refine OCon.of (Ls := #[.val (.ref sx), .val (.ref u8)]) pn_13 rfl rfl (fun m => by first | (simp [entryFrame, mkF, argsToLocals, Value.category]; done) | rfl) ?_
  intro p e s m below meth c T0 X0 K e0
  have N0 := Fr.nil n0
  have KK0 := Keep.refl h0 []
  refine o_aloadN X0 K d13_0 1 rfl rfl rfl ?_
  refine o_ifnonnull_t X0 K d13_1 12 (by decide) (by decide) ?_
  refine o_aloadN X0 K d13_12 13 rfl rfl rfl ?_
  refine o_aloadN X0 K d13_13 14 rfl rfl rfl ?_
  refine o_invokevirtual X0 K d13_14 17 rfl (w_73 hw) (w_74 hw) (w_76 hw) (w_75 hw) (w_2 hw) (w_77 hw) (by decide) E_sx [] [(.ref u8)] rfl  (c_coder l Z a0 hw n0 sx zcs h0 Z0 S_COMPACT_STRINGS (hcs) F_sx_coder) e0 rfl (lenOf pd___B rfl) (by decide) 1 (Nat.le_of_eq rfl) (by decide) (by decide) (by decide) N0 ?_
  rintro _ T_219 h_219 locs_219 X_219 q_219 ⟨rfl, r_219⟩ N_219
  have e_219 := q_219.trans r_219
  show OGo p e below _ n0 _ (T_219.setTop (mkF m 17 #[.val (.ref sx), .val (.ref u8)] [(.int (0 : Int32)), (.ref u8)]))
  refine o_aloadN X_219 K d13_17 18 rfl rfl rfl ?_
  refine o_getfield X_219 K (host := "") d13_18 21 rfl (Or.inl (w_22 hw)) Via.refl e_219 F_sx_value ?_
  intro T_220 X_220 e_220
  refine o_invokestatic X_220 K d13_21 24 rfl (w_78 hw) (w_79 hw) (w_2 hw) (w_80 hw) (by decide) [(.ref u8), (.int (0 : Int32)), (.ref t)] [] rfl  (c_encode_np l Z a0 hw n0 t u8 x0 x1 h0 Z0 S_INSTANCE A_t E_t (hs0) (hb0) (hs1) (hb1)) e_220 rfl (lenOf pd__Ljava_nio_charset_Charset_B_B__B rfl) (by decide) 0 (Nat.le_of_eq rfl) (by decide) (by decide) (by decide) N_219 ?_
  rintro _ T_221 h_221 locs_221 X_221 e_221 ⟨r, rfl, k_221, gg_221_r, sz_221_r, p_221f0, p_221f1⟩ N_221
  have Z_221 : n0 ≤ h_221.size := Nat.le_trans Z0 k_221.1
  have K_221 := KK0.trans k_221 (all0)
  have f_222 := o_sta_keep S_COMPACT_STRINGS k_221 (o_plain0)
  have f_223 := o_sta_keep S_INSTANCE k_221 (o_plain0)
  have f_224 := Exa.keep E_sx k_221
  have f_225 := Fld.keep F_sx_value k_221 (nin0)
  have f_226 := Fld.keep F_sx_coder k_221 (nin0)
  have f_227 := A_t.keep k_221 (nin0)
  have f_228 := Exa.keep E_t k_221
  have ne_sx_r : sx ≠ r := Nat.ne_of_lt (Nat.lt_of_lt_of_le E_sx.lt sz_221_r)
  have ne_t_r : t ≠ r := Nat.ne_of_lt (Nat.lt_of_lt_of_le A_t.lt sz_221_r)
  have sz_r : h0.size ≤ r := Nat.le_trans KK0.1 sz_221_r
  show OGo p e below _ n0 _ (T_221.setTop (mkF m 24 #[.val (.ref sx), .val (.ref u8)] [(.ref r)]))
  refine o_areturn X_221 K rfl rfl rfl d13_24 (by decide) (by decide) N_221 ?_
  rw [e_221]
  exact ⟨r, rfl, K_221, gg_221_r, sz_r, p_221f0, p_221f1⟩
set_option maxHeartbeats 4000000 in
theorem c_cp_nn (l : Launch) (Z : State) (a0 : Array Value) (hw : OW Z a0) (n0 : Nat) (t : Addr) (x0 x1 : Int32) (h0 : Heap) (Z0 : n0 ≤ h0.size) (A_t : OAr Z h0 t .byte 2 (own_B [x0, x1])) (E_t : Exa Z h0 t "[B") (hs0 : x0.toInt < 0) (hb0 : nar .byte x0 = x0) (hs1 : x1.toInt < 0) (hb1 : nar .byte x1 = x1) :
    OCon l Z n0 (⟨"java/lang/StringCoding", "countPositives", "([BII)I"⟩ : MethodName) jdk_123_method_3_code 5 (some .int) ({ frames := 0, cells := 0, slots := 0, locals := 0 } : Room) #[(.ref t), (.int (0 : Int32)), (.int (2 : Int32))] h0 (fun v h => v = some (.int (0 : Int32)) ∧ h = h0) := by
  refine OCon.of (Ls := #[.val (.ref t), .val (.int (0 : Int32)), .val (.int (2 : Int32)), .unset, .unset]) pn_18 rfl rfl (fun m => by first | (simp [entryFrame, mkF, argsToLocals, Value.category]; done) | rfl) ?_
  intro p e s m below meth c T0 X0 K e0
  have N0 := Fr.nil n0
  refine o_iloadN X0 K d18_0 1 rfl rfl ?_
  refine o_iloadN X0 K d18_1 2 rfl rfl ?_
  refine o_iadd X0 K d18_2 3 rfl ?_
  refine o_istoreN X0 K d18_3 4 rfl #[.val (.ref t), .val (.int (0 : Int32)), .val (.int (2 : Int32)), .val (.int ((0 : Int32) + (2 : Int32))), .unset] rfl rfl ?_
  refine o_iloadN X0 K d18_4 5 rfl rfl ?_
  refine o_istore X0 K d18_5 7 rfl #[.val (.ref t), .val (.int (0 : Int32)), .val (.int (2 : Int32)), .val (.int ((0 : Int32) + (2 : Int32))), .val (.int (0 : Int32))] rfl rfl ?_
  refine o_iload X0 K d18_7 9 rfl rfl ?_
  refine o_iloadN X0 K d18_9 10 rfl rfl ?_
  refine o_icmp_ge_f X0 K d18_10 13 rfl (by decide) ?_
  refine o_aloadN X0 K d18_13 14 rfl rfl rfl ?_
  refine o_iload X0 K d18_14 16 rfl rfl ?_
  refine o_baload X0 K (i := 0) (v := (.int x0)) d18_16 17 rfl e0 A_t (by decide) (by decide) (rfl) ?_
  refine o_if_ge_f X0 K d18_17 20 rfl (hs0) ?_
  refine o_iload X0 K d18_20 22 rfl rfl ?_
  refine o_iloadN X0 K d18_22 23 rfl rfl ?_
  refine o_isub X0 K d18_23 24 rfl ?_
  refine o_ireturn X0 K d18_24 (by decide) (by decide) N0 ?_
  exact ⟨rfl, e0⟩
set_option maxHeartbeats 4000000 in
theorem c_hn_nn (l : Launch) (Z : State) (a0 : Array Value) (hw : OW Z a0) (n0 : Nat) (t : Addr) (x0 x1 : Int32) (h0 : Heap) (Z0 : n0 ≤ h0.size) (A_t : OAr Z h0 t .byte 2 (own_B [x0, x1])) (E_t : Exa Z h0 t "[B") (hs0 : x0.toInt < 0) (hb0 : nar .byte x0 = x0) (hs1 : x1.toInt < 0) (hb1 : nar .byte x1 = x1) :
    OCon l Z n0 (⟨"java/lang/StringCoding", "hasNegatives", "([BII)Z"⟩ : MethodName) jdk_123_method_2_code 3 (some .boolean) ({ frames := 1, cells := 0, slots := 0, locals := 16 } : Room) #[(.ref t), (.int (0 : Int32)), (.int (2 : Int32))] h0 (fun v h => v = some (.int (1 : Int32)) ∧ h = h0) := by
  refine OCon.of (Ls := #[.val (.ref t), .val (.int (0 : Int32)), .val (.int (2 : Int32))]) pn_17 rfl rfl (fun m => by first | (simp [entryFrame, mkF, argsToLocals, Value.category]; done) | rfl) ?_
  intro p e s m below meth c T0 X0 K e0
  have N0 := Fr.nil n0
  refine o_aloadN X0 K d17_0 1 rfl rfl rfl ?_
  refine o_iloadN X0 K d17_1 2 rfl rfl ?_
  refine o_iloadN X0 K d17_2 3 rfl rfl ?_
  refine o_invokestatic X0 K d17_3 6 rfl (w_90 hw) (w_91 hw) (w_88 hw) (w_92 hw) (by decide) [(.ref t), (.int (0 : Int32)), (.int (2 : Int32))] [] rfl  (c_cp_nn l Z a0 hw n0 t x0 x1 h0 Z0 A_t E_t (hs0) (hb0) (hs1) (hb1)) e0 rfl (lenOf pd___BII_I rfl) (by decide) 0 (Nat.le_of_eq rfl) (by decide) (by decide) (by decide) N0 ?_
  rintro _ T_229 h_229 locs_229 X_229 q_229 ⟨rfl, r_229⟩ N_229
  have e_229 := q_229.trans r_229
  show OGo p e below _ n0 _ (T_229.setTop (mkF m 6 #[.val (.ref t), .val (.int (0 : Int32)), .val (.int (2 : Int32))] [(.int (0 : Int32))]))
  refine o_iloadN X_229 K d17_6 7 rfl rfl ?_
  refine o_icmp_eq_f X_229 K d17_7 10 rfl (by decide) ?_
  refine o_iconst X_229 K (1 : Int32) d17_10 11 rfl rfl ?_
  refine o_goto X_229 K d17_11 15 (by decide) (by decide) ?_
  refine o_ireturnN X_229 K (by decide) d17_15 (by decide) (by decide) N_229 ?_
  exact ⟨rfl, e_229⟩
set_option maxHeartbeats 4000000 in
theorem c_enc_nn (l : Launch) (Z : State) (a0 : Array Value) (hw : OW Z a0) (n0 : Nat) (t : Addr) (x0 x1 : Int32) (h0 : Heap) (Z0 : n0 ≤ h0.size) (A_t : OAr Z h0 t .byte 2 (own_B [x0, x1])) (E_t : Exa Z h0 t "[B") (hs0 : x0.toInt < 0) (hb0 : nar .byte x0 = x0) (hs1 : x1.toInt < 0) (hb1 : nar .byte x1 = x1) :
    OCon l Z n0 (⟨"java/lang/String", "encodeUTF8", "(B[BZ)[B"⟩ : MethodName) jdk_42_method_46_code 9 (some (.array .byte)) ({ frames := 2, cells := 2, slots := 7, locals := 60 } : Room) #[(.int (0 : Int32)), (.ref t), (.int (1 : Int32))] h0 (fun v h => ∃ r : Addr, v = some (.ref r) ∧ Keep h0 h [] ∧ n0 ≤ r ∧ h0.size ≤ r ∧ OAr Z h r .byte 4 (own_B [(own_e1 x0), (own_e2 x0), (own_e1 x1), (own_e2 x1)]) ∧ Exa Z h r "[B") := by
  refine OCon.of (Ls := #[.val (.int (0 : Int32)), .val (.ref t), .val (.int (1 : Int32)), .unset, .unset, .unset, .unset, .unset, .unset]) pn_16 rfl rfl (fun m => by first | (simp [entryFrame, mkF, argsToLocals, Value.category]; done) | rfl) ?_
  intro p e s m below meth c T0 X0 K e0
  have N0 := Fr.nil n0
  have KK0 := Keep.refl h0 []
  refine o_iloadN X0 K d16_0 1 rfl rfl ?_
  refine o_iconst X0 K (1 : Int32) d16_1 2 rfl rfl ?_
  refine o_icmp_ne_t X0 K d16_2 11 (by decide) (by decide) (by decide) ?_
  refine o_aloadN X0 K d16_11 12 rfl rfl rfl ?_
  refine o_iconst X0 K (0 : Int32) d16_12 13 rfl rfl ?_
  refine o_aloadN X0 K d16_13 14 rfl rfl rfl ?_
  refine o_arraylength X0 K d16_14 15 rfl e0 A_t (v := (2 : Int32)) (rfl) ?_
  refine o_invokestatic X0 K d16_15 18 rfl (w_86 hw) (w_87 hw) (w_88 hw) (w_89 hw) (by decide) [(.ref t), (.int (0 : Int32)), (.int (2 : Int32))] [] rfl  (c_hn_nn l Z a0 hw n0 t x0 x1 h0 Z0 A_t E_t (hs0) (hb0) (hs1) (hb1)) e0 rfl (lenOf pd___BII_Z rfl) (by decide) 0 (Nat.le_of_eq rfl) (by decide) (by decide) (by decide) N0 ?_
  rintro _ T_230 h_230 locs_230 X_230 q_230 ⟨rfl, r_230⟩ N_230
  have e_230 := q_230.trans r_230
  show OGo p e below _ n0 _ (T_230.setTop (mkF m 18 #[.val (.int (0 : Int32)), .val (.ref t), .val (.int (1 : Int32)), .unset, .unset, .unset, .unset, .unset, .unset] [(.int (1 : Int32))]))
  refine o_if_ne_t X_230 K d16_18 29 (by decide) (by decide) (by decide) ?_
  refine o_iconst X_230 K (0 : Int32) d16_29 30 rfl rfl ?_
  refine o_istoreN X_230 K d16_30 31 rfl #[.val (.int (0 : Int32)), .val (.ref t), .val (.int (1 : Int32)), .val (.int (0 : Int32)), .unset, .unset, .unset, .unset, .unset] rfl rfl ?_
  refine o_aloadN X_230 K d16_31 32 rfl rfl rfl ?_
  refine o_arraylength X_230 K d16_32 33 rfl e_230 A_t (v := (2 : Int32)) (rfl) ?_
  refine o_invokestatic X_230 K d16_33 36 rfl (w_145 hw) (w_146 hw) (w_36 hw) (w_147 hw) (by decide) [(.int (2 : Int32))] [] rfl  (c_nbf2 l Z a0 hw n0  h0 Z0 ) e_230 rfl (lenOf pd__I__B rfl) (by decide) 0 (Nat.le_of_eq rfl) (by decide) (by decide) (by decide) N_230 ?_
  rintro _ T_231 h_231 locs_231 X_231 e_231 ⟨r, rfl, k_231, gg_231_d, sz_231_d, p_231f0, p_231f1⟩ N_231
  have Z_231 : n0 ≤ h_231.size := Nat.le_trans Z0 k_231.1
  have K_231 := KK0.trans k_231 (all0)
  have f_232 := A_t.keep k_231 (nin0)
  have f_233 := Exa.keep E_t k_231
  have ne_t_r : t ≠ r := Nat.ne_of_lt (Nat.lt_of_lt_of_le A_t.lt sz_231_d)
  have sz_r : h0.size ≤ r := Nat.le_trans KK0.1 sz_231_d
  show OGo p e below _ n0 _ (T_231.setTop (mkF m 36 #[.val (.int (0 : Int32)), .val (.ref t), .val (.int (1 : Int32)), .val (.int (0 : Int32)), .unset, .unset, .unset, .unset, .unset] [(.ref r)]))
  refine o_astore X_231 K d16_36 38 rfl #[.val (.int (0 : Int32)), .val (.ref t), .val (.int (1 : Int32)), .val (.int (0 : Int32)), .val (.ref r), .unset, .unset, .unset, .unset] rfl rfl ?_
  refine o_aloadN X_231 K d16_38 39 rfl rfl rfl ?_
  refine o_astore X_231 K d16_39 41 rfl #[.val (.int (0 : Int32)), .val (.ref t), .val (.int (1 : Int32)), .val (.int (0 : Int32)), .val (.ref r), .val (.ref t), .unset, .unset, .unset] rfl rfl ?_
  refine o_aload X_231 K d16_41 43 rfl rfl rfl ?_
  refine o_arraylength X_231 K d16_43 44 rfl e_231 f_232 (v := (2 : Int32)) (rfl) ?_
  refine o_istore X_231 K d16_44 46 rfl #[.val (.int (0 : Int32)), .val (.ref t), .val (.int (1 : Int32)), .val (.int (0 : Int32)), .val (.ref r), .val (.ref t), .val (.int (2 : Int32)), .unset, .unset] rfl rfl ?_
  refine o_iconst X_231 K (0 : Int32) d16_46 47 rfl rfl ?_
  refine o_istore X_231 K d16_47 49 rfl #[.val (.int (0 : Int32)), .val (.ref t), .val (.int (1 : Int32)), .val (.int (0 : Int32)), .val (.ref r), .val (.ref t), .val (.int (2 : Int32)), .val (.int (0 : Int32)), .unset] rfl rfl ?_
  refine o_iload X_231 K d16_49 51 rfl rfl ?_
  refine o_iload X_231 K d16_51 53 rfl rfl ?_
  refine o_icmp_ge_f X_231 K d16_53 56 rfl (by decide) ?_
  refine o_aload X_231 K d16_56 58 rfl rfl rfl ?_
  refine o_iload X_231 K d16_58 60 rfl rfl ?_
  refine o_baload X_231 K (i := 0) (v := (.int x0)) d16_60 61 rfl e_231 f_232 (by decide) (by decide) (rfl) ?_
  refine o_istore X_231 K d16_61 63 rfl #[.val (.int (0 : Int32)), .val (.ref t), .val (.int (1 : Int32)), .val (.int (0 : Int32)), .val (.ref r), .val (.ref t), .val (.int (2 : Int32)), .val (.int (0 : Int32)), .val (.int x0)] rfl rfl ?_
  refine o_iload X_231 K d16_63 65 rfl rfl ?_
  refine o_if_ge_f X_231 K d16_65 68 rfl (hs0) ?_
  refine o_aload X_231 K d16_68 70 rfl rfl rfl ?_
  refine o_iloadN X_231 K d16_70 71 rfl rfl ?_
  refine o_iinc X_231 K d16_71 74 rfl #[.val (.int (0 : Int32)), .val (.ref t), .val (.int (1 : Int32)), .val (.int (1 : Int32)), .val (.ref r), .val (.ref t), .val (.int (2 : Int32)), .val (.int (0 : Int32)), .val (.int x0)] rfl (by decide) rfl ?_
  refine o_sipush X_231 K (192 : Int32) d16_74 77 rfl rfl ?_
  refine o_iload X_231 K d16_77 79 rfl rfl ?_
  refine o_sipush X_231 K (255 : Int32) d16_79 82 rfl rfl ?_
  refine o_iand X_231 K d16_82 83 rfl ?_
  refine o_bipush X_231 K (6 : Int32) d16_83 85 rfl rfl ?_
  refine o_ishr X_231 K d16_85 86 rfl ?_
  refine o_ior X_231 K d16_86 87 rfl ?_
  refine o_i2b X_231 K d16_87 88 rfl ?_
  refine o_bastore X_231 K (i := 0) (x' := (own_e1 x0)) d16_88 89 rfl e_231 p_231f0 (by decide) (by decide) (o_nb _) N_231 gg_231_d ?_
  intro T_234 h_234 locs_234 X_234 e_234 W_234 A_234 N_234
  have Z_234 : n0 ≤ h_234.size := by rw [Wr.size W_234]; exact Z_231
  have K_234 := K_231.wr W_234 (Or.inr sz_r)
  have f_235 := f_232.other W_234 ne_t_r
  have f_236 := Exa.wr W_234 f_233
  have f_237 := Exa.wr W_234 p_231f1
  refine o_aload X_234 K d16_89 91 rfl rfl rfl ?_
  refine o_iloadN X_234 K d16_91 92 rfl rfl ?_
  refine o_iinc X_234 K d16_92 95 rfl #[.val (.int (0 : Int32)), .val (.ref t), .val (.int (1 : Int32)), .val (.int (2 : Int32)), .val (.ref r), .val (.ref t), .val (.int (2 : Int32)), .val (.int (0 : Int32)), .val (.int x0)] rfl (by decide) rfl ?_
  refine o_sipush X_234 K (128 : Int32) d16_95 98 rfl rfl ?_
  refine o_iload X_234 K d16_98 100 rfl rfl ?_
  refine o_bipush X_234 K (63 : Int32) d16_100 102 rfl rfl ?_
  refine o_iand X_234 K d16_102 103 rfl ?_
  refine o_ior X_234 K d16_103 104 rfl ?_
  refine o_i2b X_234 K d16_104 105 rfl ?_
  refine o_bastore X_234 K (i := 1) (x' := (own_e2 x0)) d16_105 106 rfl e_234 A_234 (by decide) (by decide) (o_nb _) N_234 gg_231_d ?_
  intro T_238 h_238 locs_238 X_238 e_238 W_238 A_238 N_238
  have Z_238 : n0 ≤ h_238.size := by rw [Wr.size W_238]; exact Z_234
  have K_238 := K_234.wr W_238 (Or.inr sz_r)
  have f_239 := f_235.other W_238 ne_t_r
  have f_240 := Exa.wr W_238 f_236
  have f_241 := Exa.wr W_238 f_237
  refine o_goto X_238 K d16_106 118 (by decide) (by decide) ?_
  refine o_iinc X_238 K d16_118 121 rfl #[.val (.int (0 : Int32)), .val (.ref t), .val (.int (1 : Int32)), .val (.int (2 : Int32)), .val (.ref r), .val (.ref t), .val (.int (2 : Int32)), .val (.int (1 : Int32)), .val (.int x0)] rfl (by decide) rfl ?_
  refine o_goto X_238 K d16_121 49 (by decide) (by decide) ?_
  refine o_iload X_238 K d16_49 51 rfl rfl ?_
  refine o_iload X_238 K d16_51 53 rfl rfl ?_
  refine o_icmp_ge_f X_238 K d16_53 56 rfl (by decide) ?_
  refine o_aload X_238 K d16_56 58 rfl rfl rfl ?_
  refine o_iload X_238 K d16_58 60 rfl rfl ?_
  refine o_baload X_238 K (i := 1) (v := (.int x1)) d16_60 61 rfl e_238 f_239 (by decide) (by decide) (rfl) ?_
  refine o_istore X_238 K d16_61 63 rfl #[.val (.int (0 : Int32)), .val (.ref t), .val (.int (1 : Int32)), .val (.int (2 : Int32)), .val (.ref r), .val (.ref t), .val (.int (2 : Int32)), .val (.int (1 : Int32)), .val (.int x1)] rfl rfl ?_
  refine o_iload X_238 K d16_63 65 rfl rfl ?_
  refine o_if_ge_f X_238 K d16_65 68 rfl (hs1) ?_
  refine o_aload X_238 K d16_68 70 rfl rfl rfl ?_
  refine o_iloadN X_238 K d16_70 71 rfl rfl ?_
  refine o_iinc X_238 K d16_71 74 rfl #[.val (.int (0 : Int32)), .val (.ref t), .val (.int (1 : Int32)), .val (.int (3 : Int32)), .val (.ref r), .val (.ref t), .val (.int (2 : Int32)), .val (.int (1 : Int32)), .val (.int x1)] rfl (by decide) rfl ?_
  refine o_sipush X_238 K (192 : Int32) d16_74 77 rfl rfl ?_
  refine o_iload X_238 K d16_77 79 rfl rfl ?_
  refine o_sipush X_238 K (255 : Int32) d16_79 82 rfl rfl ?_
  refine o_iand X_238 K d16_82 83 rfl ?_
  refine o_bipush X_238 K (6 : Int32) d16_83 85 rfl rfl ?_
  refine o_ishr X_238 K d16_85 86 rfl ?_
  refine o_ior X_238 K d16_86 87 rfl ?_
  refine o_i2b X_238 K d16_87 88 rfl ?_
  refine o_bastore X_238 K (i := 2) (x' := (own_e1 x1)) d16_88 89 rfl e_238 A_238 (by decide) (by decide) (o_nb _) N_238 gg_231_d ?_
  intro T_242 h_242 locs_242 X_242 e_242 W_242 A_242 N_242
  have Z_242 : n0 ≤ h_242.size := by rw [Wr.size W_242]; exact Z_238
  have K_242 := K_238.wr W_242 (Or.inr sz_r)
  have f_243 := f_239.other W_242 ne_t_r
  have f_244 := Exa.wr W_242 f_240
  have f_245 := Exa.wr W_242 f_241
  refine o_aload X_242 K d16_89 91 rfl rfl rfl ?_
  refine o_iloadN X_242 K d16_91 92 rfl rfl ?_
  refine o_iinc X_242 K d16_92 95 rfl #[.val (.int (0 : Int32)), .val (.ref t), .val (.int (1 : Int32)), .val (.int (4 : Int32)), .val (.ref r), .val (.ref t), .val (.int (2 : Int32)), .val (.int (1 : Int32)), .val (.int x1)] rfl (by decide) rfl ?_
  refine o_sipush X_242 K (128 : Int32) d16_95 98 rfl rfl ?_
  refine o_iload X_242 K d16_98 100 rfl rfl ?_
  refine o_bipush X_242 K (63 : Int32) d16_100 102 rfl rfl ?_
  refine o_iand X_242 K d16_102 103 rfl ?_
  refine o_ior X_242 K d16_103 104 rfl ?_
  refine o_i2b X_242 K d16_104 105 rfl ?_
  refine o_bastore X_242 K (i := 3) (x' := (own_e2 x1)) d16_105 106 rfl e_242 A_242 (by decide) (by decide) (o_nb _) N_242 gg_231_d ?_
  intro T_246 h_246 locs_246 X_246 e_246 W_246 A_246 N_246
  have Z_246 : n0 ≤ h_246.size := by rw [Wr.size W_246]; exact Z_242
  have K_246 := K_242.wr W_246 (Or.inr sz_r)
  have f_247 := f_243.other W_246 ne_t_r
  have f_248 := Exa.wr W_246 f_244
  have f_249 := Exa.wr W_246 f_245
  refine o_goto X_246 K d16_106 118 (by decide) (by decide) ?_
  refine o_iinc X_246 K d16_118 121 rfl #[.val (.int (0 : Int32)), .val (.ref t), .val (.int (1 : Int32)), .val (.int (4 : Int32)), .val (.ref r), .val (.ref t), .val (.int (2 : Int32)), .val (.int (2 : Int32)), .val (.int x1)] rfl (by decide) rfl ?_
  refine o_goto X_246 K d16_121 49 (by decide) (by decide) ?_
  refine o_iload X_246 K d16_49 51 rfl rfl ?_
  refine o_iload X_246 K d16_51 53 rfl rfl ?_
  refine o_icmp_ge_t X_246 K d16_53 124 (by decide) (by decide) (by decide) ?_
  refine o_iloadN X_246 K d16_124 125 rfl rfl ?_
  refine o_aload X_246 K d16_125 127 rfl rfl rfl ?_
  refine o_arraylength X_246 K d16_127 128 rfl e_246 A_246 (v := (4 : Int32)) (rfl) ?_
  refine o_icmp_ne_f X_246 K d16_128 131 rfl (by decide) ?_
  have AB_250 := OAr.congr A_246 (g := own_B [(own_e1 x0), (own_e2 x0), (own_e1 x1), (own_e2 x1)]) (fun j hj => by rcases (by omega : j = 0 ∨ j = 1 ∨ j = 2 ∨ j = 3) with rfl | rfl | rfl | rfl <;> rfl)
  refine o_aload X_246 K d16_131 133 rfl rfl rfl ?_
  refine o_areturn X_246 K rfl rfl rfl d16_133 (by decide) (by decide) N_246 ?_
  rw [e_246]
  exact ⟨r, rfl, K_246, gg_231_d, sz_r, AB_250, f_249⟩
set_option maxHeartbeats 4000000 in
theorem c_encode_nn (l : Launch) (Z : State) (a0 : Array Value) (hw : OW Z a0) (n0 : Nat) (t u8 : Addr) (x0 x1 : Int32) (h0 : Heap) (Z0 : n0 ≤ h0.size) (S_INSTANCE : Sta Z h0 "sun/nio/cs/UTF_8" "INSTANCE" "Lsun/nio/cs/UTF_8;" (.ref u8)) (A_t : OAr Z h0 t .byte 2 (own_B [x0, x1])) (E_t : Exa Z h0 t "[B") (hs0 : x0.toInt < 0) (hb0 : nar .byte x0 = x0) (hs1 : x1.toInt < 0) (hb1 : nar .byte x1 = x1) :
    OCon l Z n0 (⟨"java/lang/String", "encode", "(Ljava/nio/charset/Charset;B[B)[B"⟩ : MethodName) jdk_42_method_18_code 3 (some (.array .byte)) ({ frames := 3, cells := 2, slots := 7, locals := 80 } : Room) #[(.ref u8), (.int (0 : Int32)), (.ref t)] h0 (fun v h => ∃ r : Addr, v = some (.ref r) ∧ Keep h0 h [] ∧ n0 ≤ r ∧ h0.size ≤ r ∧ OAr Z h r .byte 4 (own_B [(own_e1 x0), (own_e2 x0), (own_e1 x1), (own_e2 x1)]) ∧ Exa Z h r "[B") := by
  refine OCon.of (Ls := #[.val (.ref u8), .val (.int (0 : Int32)), .val (.ref t)]) pn_15 rfl rfl (fun m => by first | (simp [entryFrame, mkF, argsToLocals, Value.category]; done) | rfl) ?_
  intro p e s m below meth c T0 X0 K e0
  have N0 := Fr.nil n0
  have KK0 := Keep.refl h0 []
  refine o_aloadN X0 K d15_0 1 rfl rfl rfl ?_
  refine o_getstatic X0 K (host := "") d15_1 4 rfl (Or.inl (w_81 hw)) Via.refl e0 S_INSTANCE ?_
  intro T_251 X_251 e_251
  refine o_acmp X_251 K d15_4 7 rfl rfl true (decide_eq_true rfl) (by decide) (by decide) ?_
  refine o_iloadN X_251 K d15_7 8 rfl rfl ?_
  refine o_aloadN X_251 K d15_8 9 rfl rfl rfl ?_
  refine o_iconst X_251 K (1 : Int32) d15_9 10 rfl rfl ?_
  refine o_invokestatic X_251 K d15_10 13 rfl (w_83 hw) (w_84 hw) (w_2 hw) (w_85 hw) (by decide) [(.int (0 : Int32)), (.ref t), (.int (1 : Int32))] [] rfl  (c_enc_nn l Z a0 hw n0 t x0 x1 h0 Z0 A_t E_t (hs0) (hb0) (hs1) (hb1)) e_251 rfl (lenOf pd__B_BZ__B rfl) (by decide) 0 (Nat.le_of_eq rfl) (by decide) (by decide) (by decide) N0 ?_
  rintro _ T_252 h_252 locs_252 X_252 e_252 ⟨r, rfl, k_252, gg_252_r, sz_252_r, p_252f0, p_252f1⟩ N_252
  have Z_252 : n0 ≤ h_252.size := Nat.le_trans Z0 k_252.1
  have K_252 := KK0.trans k_252 (all0)
  have f_253 := o_sta_keep S_INSTANCE k_252 (o_plain0)
  have f_254 := A_t.keep k_252 (nin0)
  have f_255 := Exa.keep E_t k_252
  have ne_t_r : t ≠ r := Nat.ne_of_lt (Nat.lt_of_lt_of_le A_t.lt sz_252_r)
  have sz_r : h0.size ≤ r := Nat.le_trans KK0.1 sz_252_r
  show OGo p e below _ n0 _ (T_252.setTop (mkF m 13 #[.val (.ref u8), .val (.int (0 : Int32)), .val (.ref t)] [(.ref r)]))
  refine o_areturn X_252 K rfl rfl rfl d15_13 (by decide) (by decide) N_252 ?_
  rw [e_252]
  exact ⟨r, rfl, K_252, gg_252_r, sz_r, p_252f0, p_252f1⟩
set_option maxHeartbeats 4000000 in
theorem c_gb_nn (l : Launch) (Z : State) (a0 : Array Value) (hw : OW Z a0) (n0 : Nat) (sx t u8 : Addr) (x0 x1 : Int32) (zcs : Int32) (h0 : Heap) (Z0 : n0 ≤ h0.size) (S_COMPACT_STRINGS : Sta Z h0 "java/lang/String" "COMPACT_STRINGS" "Z" (.int zcs)) (hcs : ¬ zcs = 0) (S_INSTANCE : Sta Z h0 "sun/nio/cs/UTF_8" "INSTANCE" "Lsun/nio/cs/UTF_8;" (.ref u8)) (E_sx : Exa Z h0 sx "java/lang/String") (F_sx_value : Fld Z h0 sx "java/lang/String" "value" "[B" (.ref t)) (F_sx_coder : Fld Z h0 sx "java/lang/String" "coder" "B" (.int (0 : Int32))) (A_t : OAr Z h0 t .byte 2 (own_B [x0, x1])) (E_t : Exa Z h0 t "[B") (hs0 : x0.toInt < 0) (hb0 : nar .byte x0 = x0) (hs1 : x1.toInt < 0) (hb1 : nar .byte x1 = x1) :
    OCon l Z n0 (⟨"java/lang/String", "getBytes", "(Ljava/nio/charset/Charset;)[B"⟩ : MethodName) jdk_42_method_64_code 2 (some (.array .byte)) ({ frames := 4, cells := 2, slots := 7, locals := 98 } : Room) #[(.ref sx), (.ref u8)] h0 (fun v h => ∃ r : Addr, v = some (.ref r) ∧ Keep h0 h [] ∧ n0 ≤ r ∧ h0.size ≤ r ∧ OAr Z h r .byte 4 (own_B [(own_e1 x0), (own_e2 x0), (own_e1 x1), (own_e2 x1)]) ∧ Exa Z h r "[B") := by
  refine OCon.of (Ls := #[.val (.ref sx), .val (.ref u8)]) pn_13 rfl rfl (fun m => by first | (simp [entryFrame, mkF, argsToLocals, Value.category]; done) | rfl) ?_
  intro p e s m below meth c T0 X0 K e0
  have N0 := Fr.nil n0
  have KK0 := Keep.refl h0 []
  refine o_aloadN X0 K d13_0 1 rfl rfl rfl ?_
  refine o_ifnonnull_t X0 K d13_1 12 (by decide) (by decide) ?_
  refine o_aloadN X0 K d13_12 13 rfl rfl rfl ?_
  refine o_aloadN X0 K d13_13 14 rfl rfl rfl ?_
  refine o_invokevirtual X0 K d13_14 17 rfl (w_73 hw) (w_74 hw) (w_76 hw) (w_75 hw) (w_2 hw) (w_77 hw) (by decide) E_sx [] [(.ref u8)] rfl  (c_coder l Z a0 hw n0 sx zcs h0 Z0 S_COMPACT_STRINGS (hcs) F_sx_coder) e0 rfl (lenOf pd___B rfl) (by decide) 1 (Nat.le_of_eq rfl) (by decide) (by decide) (by decide) N0 ?_
  rintro _ T_256 h_256 locs_256 X_256 q_256 ⟨rfl, r_256⟩ N_256
  have e_256 := q_256.trans r_256
  show OGo p e below _ n0 _ (T_256.setTop (mkF m 17 #[.val (.ref sx), .val (.ref u8)] [(.int (0 : Int32)), (.ref u8)]))
  refine o_aloadN X_256 K d13_17 18 rfl rfl rfl ?_
  refine o_getfield X_256 K (host := "") d13_18 21 rfl (Or.inl (w_22 hw)) Via.refl e_256 F_sx_value ?_
  intro T_257 X_257 e_257
  refine o_invokestatic X_257 K d13_21 24 rfl (w_78 hw) (w_79 hw) (w_2 hw) (w_80 hw) (by decide) [(.ref u8), (.int (0 : Int32)), (.ref t)] [] rfl  (c_encode_nn l Z a0 hw n0 t u8 x0 x1 h0 Z0 S_INSTANCE A_t E_t (hs0) (hb0) (hs1) (hb1)) e_257 rfl (lenOf pd__Ljava_nio_charset_Charset_B_B__B rfl) (by decide) 0 (Nat.le_of_eq rfl) (by decide) (by decide) (by decide) N_256 ?_
  rintro _ T_258 h_258 locs_258 X_258 e_258 ⟨r, rfl, k_258, gg_258_r, sz_258_r, p_258f0, p_258f1⟩ N_258
  have Z_258 : n0 ≤ h_258.size := Nat.le_trans Z0 k_258.1
  have K_258 := KK0.trans k_258 (all0)
  have f_259 := o_sta_keep S_COMPACT_STRINGS k_258 (o_plain0)
  have f_260 := o_sta_keep S_INSTANCE k_258 (o_plain0)
  have f_261 := Exa.keep E_sx k_258
  have f_262 := Fld.keep F_sx_value k_258 (nin0)
  have f_263 := Fld.keep F_sx_coder k_258 (nin0)
  have f_264 := A_t.keep k_258 (nin0)
  have f_265 := Exa.keep E_t k_258
  have ne_sx_r : sx ≠ r := Nat.ne_of_lt (Nat.lt_of_lt_of_le E_sx.lt sz_258_r)
  have ne_t_r : t ≠ r := Nat.ne_of_lt (Nat.lt_of_lt_of_le A_t.lt sz_258_r)
  have sz_r : h0.size ≤ r := Nat.le_trans KK0.1 sz_258_r
  show OGo p e below _ n0 _ (T_258.setTop (mkF m 24 #[.val (.ref sx), .val (.ref u8)] [(.ref r)]))
  refine o_areturn X_258 K rfl rfl rfl d13_24 (by decide) (by decide) N_258 ?_
  rw [e_258]
  exact ⟨r, rfl, K_258, gg_258_r, sz_r, p_258f0, p_258f1⟩
def own_ush (x k : Int32) : Int32 := (x.toUInt32 >>> (k &&& 31).toUInt32).toInt32
def own_mix (a : Int32) : Int32 :=
  let m1 := a ^^^ own_ush a 16
  let m2 := m1 * (-2048144789)
  let m3 := m2 ^^^ own_ush m2 13
  let m4 := m3 * (-1028477387)
  m4 ^^^ own_ush m4 16
def own_poly (g : Nat → Int32) : Nat → Nat → Int32 → Int32
  | _, 0, acc => acc
  | i, d + 1, acc => own_poly g (i + 1) d (31 * acc + g i)
def own_hash (q : List Int32) (n : Int32) : Int32 := own_mix (own_poly (fun j => q.getD j 0) (0 : Int32).toInt.toNat (n.toInt - (0 : Int32).toInt).toNat 0)
theorem own_2i {i : Int32} (h : 0 ≤ i.toInt ∧ i.toInt ≤ 1023) : ((2 : Int32) * i).toInt = ((2 * i.toInt.toNat : Nat) : Int) ∧ (((2 : Int32) * i) + (1 : Int32)).toInt = ((2 * i.toInt.toNat + 1 : Nat) : Int) ∧ 2 * i.toInt.toNat + 1 < 2048 := by
  have l1 : (1 : Int32).toInt = 1 := rfl
  have l2 : (2 : Int32).toInt = 2 := rfl
  have q1 := c_imul 2 i
  have q2 := rng32 (2 * i)
  have q3 := c_iadd (2 * i) 1
  have q4 := rng32 (2 * i + 1)
  rw [l2] at q1
  omega
theorem own_sub9 {u : Int32} (h : 0 ≤ u.toInt ∧ u.toInt ≤ 100) : 4 ≤ ((2147483639 : Int32) - u).toInt := by
  have zm : (2147483639 : Int32).toInt = 2147483639 := by decide
  have q1 := c_isub (2147483639 : Int32) u
  have q2 := rng32 ((2147483639 : Int32) - u)
  rw [zm] at q1
  omega
theorem own_le9 {le ln x : Int32} (h1 : le.toInt = ln.toInt) (h2 : 0 ≤ ln.toInt ∧ ln.toInt ≤ 4) (h3 : 4 ≤ x.toInt) : le.toInt ≤ x.toInt := by
  rw [h1]
  exact Int.le_trans h2.2 h3
theorem own_768 {ct : Int32} (h : 0 ≤ ct.toInt ∧ ct.toInt ≤ 100) : (ct + (1 : Int32)).toInt ≤ ((((1023 : Int32) + (1 : Int32)) / (4 : Int32)) * (3 : Int32)).toInt := by
  have q1 := c_iadd ct 1
  have q2 := rng32 (ct + 1)
  have q3 : (1 : Int32).toInt = 1 := rfl
  have q4 : ((((1023 : Int32) + (1 : Int32)) / (4 : Int32)) * (3 : Int32)).toInt = 768 := by decide
  omega
theorem own_and (x : Int32) : 0 ≤ (x &&& (1023 : Int32)).toInt ∧ (x &&& (1023 : Int32)).toInt ≤ 1023 := c_and x 1023 (by decide)
def own_put (a b : Nat) (x y : Int64) (f : Nat → Int64) : Nat → Int64 := fun q => if q = b then x else if q = a then y else f q
theorem own_wr2 (a b : Nat) (x y : Int64) (f : Nat → Int64) (j : Nat) : (if j = b then Value.long x else if j = a then Value.long y else Value.long (f j)) = Value.long (own_put a b x y f j) := by
  unfold own_put
  by_cases e1 : j = b
  · rw [if_pos e1, if_pos e1]
  · rw [if_neg e1, if_neg e1]
    by_cases e2 : j = a
    · rw [if_pos e2, if_pos e2]
    · rw [if_neg e2, if_neg e2]
def own_cp (j k : Nat) (f g : Nat → Value) : Nat → Value := fun q => if j ≤ q ∧ q < j + k then f (0 + (q - j)) else g q
def own_st (i : Nat) (v : Value) (f : Nat → Value) : Nat → Value := fun q => if q = i then v else f q
theorem d19_0 : decode prog_7_method_2_code 0 = .ok (.iconst 0, 1) := by decide +kernel
theorem d19_1 : decode prog_7_method_2_code 1 = .ok (.istore_n 3, 1) := by decide +kernel
theorem d19_2 : decode prog_7_method_2_code 2 = .ok (.iload_n 1, 1) := by decide +kernel
theorem d19_3 : decode prog_7_method_2_code 3 = .ok (.istore 4, 2) := by decide +kernel
theorem d19_5 : decode prog_7_method_2_code 5 = .ok (.iload 4, 2) := by decide +kernel
theorem d19_7 : decode prog_7_method_2_code 7 = .ok (.iload_n 2, 1) := by decide +kernel
theorem d19_8 : decode prog_7_method_2_code 8 = .ok (.if_icmp .ge 19, 3) := by decide +kernel
theorem d19_27 : decode prog_7_method_2_code 27 = .ok (.iload_n 3, 1) := by decide +kernel
theorem d19_28 : decode prog_7_method_2_code 28 = .ok (.iload_n 3, 1) := by decide +kernel
theorem d19_29 : decode prog_7_method_2_code 29 = .ok (.bipush 16, 2) := by decide +kernel
theorem d19_31 : decode prog_7_method_2_code 31 = .ok (.iushr, 1) := by decide +kernel
theorem d19_32 : decode prog_7_method_2_code 32 = .ok (.ixor, 1) := by decide +kernel
theorem d19_33 : decode prog_7_method_2_code 33 = .ok (.istore_n 3, 1) := by decide +kernel
theorem d19_34 : decode prog_7_method_2_code 34 = .ok (.iload_n 3, 1) := by decide +kernel
theorem d19_35 : decode prog_7_method_2_code 35 = .ok (.ldc 25, 2) := by decide +kernel
theorem d19_37 : decode prog_7_method_2_code 37 = .ok (.imul, 1) := by decide +kernel
theorem d19_38 : decode prog_7_method_2_code 38 = .ok (.istore_n 3, 1) := by decide +kernel
theorem d19_39 : decode prog_7_method_2_code 39 = .ok (.iload_n 3, 1) := by decide +kernel
theorem d19_40 : decode prog_7_method_2_code 40 = .ok (.iload_n 3, 1) := by decide +kernel
theorem d19_41 : decode prog_7_method_2_code 41 = .ok (.bipush 13, 2) := by decide +kernel
theorem d19_43 : decode prog_7_method_2_code 43 = .ok (.iushr, 1) := by decide +kernel
theorem d19_44 : decode prog_7_method_2_code 44 = .ok (.ixor, 1) := by decide +kernel
theorem d19_45 : decode prog_7_method_2_code 45 = .ok (.istore_n 3, 1) := by decide +kernel
theorem d19_46 : decode prog_7_method_2_code 46 = .ok (.iload_n 3, 1) := by decide +kernel
theorem d19_47 : decode prog_7_method_2_code 47 = .ok (.ldc 26, 2) := by decide +kernel
theorem d19_49 : decode prog_7_method_2_code 49 = .ok (.imul, 1) := by decide +kernel
theorem d19_50 : decode prog_7_method_2_code 50 = .ok (.istore_n 3, 1) := by decide +kernel
theorem d19_51 : decode prog_7_method_2_code 51 = .ok (.iload_n 3, 1) := by decide +kernel
theorem d19_52 : decode prog_7_method_2_code 52 = .ok (.iload_n 3, 1) := by decide +kernel
theorem d19_53 : decode prog_7_method_2_code 53 = .ok (.bipush 16, 2) := by decide +kernel
theorem d19_55 : decode prog_7_method_2_code 55 = .ok (.iushr, 1) := by decide +kernel
theorem d19_56 : decode prog_7_method_2_code 56 = .ok (.ixor, 1) := by decide +kernel
theorem d19_57 : decode prog_7_method_2_code 57 = .ok (.istore_n 3, 1) := by decide +kernel
theorem d19_58 : decode prog_7_method_2_code 58 = .ok (.iload_n 3, 1) := by decide +kernel
theorem d19_59 : decode prog_7_method_2_code 59 = .ok (.ireturn, 1) := by decide +kernel
theorem d19_11 : decode prog_7_method_2_code 11 = .ok (.bipush 31, 2) := by decide +kernel
theorem d19_13 : decode prog_7_method_2_code 13 = .ok (.iload_n 3, 1) := by decide +kernel
theorem d19_14 : decode prog_7_method_2_code 14 = .ok (.imul, 1) := by decide +kernel
theorem d19_15 : decode prog_7_method_2_code 15 = .ok (.aload_n 0, 1) := by decide +kernel
theorem d19_16 : decode prog_7_method_2_code 16 = .ok (.iload 4, 2) := by decide +kernel
theorem d19_18 : decode prog_7_method_2_code 18 = .ok (.baload, 1) := by decide +kernel
theorem d19_19 : decode prog_7_method_2_code 19 = .ok (.iadd, 1) := by decide +kernel
theorem d19_20 : decode prog_7_method_2_code 20 = .ok (.istore_n 3, 1) := by decide +kernel
theorem d19_21 : decode prog_7_method_2_code 21 = .ok (.iinc 4 1, 3) := by decide +kernel
theorem d19_24 : decode prog_7_method_2_code 24 = .ok (.goto (-19), 3) := by decide +kernel
theorem pn_19 : plainFor (⟨"com/example/vikt/vikt/graph/NameTable", "hash", "([BII)I"⟩ : MethodName) = true := plainFor_of_name (by first | (simp [plainName, overriddenIn]; done) | decide +kernel)
set_option maxHeartbeats 4000000 in
theorem c_hash (l : Launch) (Z : State) (a0 : Array Value) (hw : OW Z a0) (n0 : Nat) (a : Addr) (n : Nat) (g : Nat → Int32) (fr to : Int32) (h0 : Heap) (Z0 : n0 ≤ h0.size) (A_a : OAr Z h0 a .byte n (fun j => .int (g j))) (h1 : 0 ≤ fr.toInt ∧ fr.toInt ≤ to.toInt ∧ to.toInt ≤ n) :
    OCon l Z n0 (⟨"com/example/vikt/vikt/graph/NameTable", "hash", "([BII)I"⟩ : MethodName) prog_7_method_2_code 5 (some .int) ({ frames := 0, cells := 0, slots := 0, locals := 0 } : Room) #[(.ref a), (.int fr), (.int to)] h0 (fun v h => v = some (.int (own_mix (own_poly g fr.toInt.toNat (to.toInt - fr.toInt).toNat 0))) ∧ h = h0) := by
  refine OCon.of (Ls := #[.val (.ref a), .val (.int fr), .val (.int to), .unset, .unset]) pn_19 rfl rfl (fun m => by first | (simp [entryFrame, mkF, argsToLocals, Value.category]; done) | rfl) ?_
  intro p e s m below meth c T0 X0 K e0
  have N0 := Fr.nil n0
  refine o_iconst X0 K (0 : Int32) d19_0 1 rfl rfl ?_
  refine o_istoreN X0 K d19_1 2 rfl #[.val (.ref a), .val (.int fr), .val (.int to), .val (.int (0 : Int32)), .unset] rfl rfl ?_
  refine o_iloadN X0 K d19_2 3 rfl rfl ?_
  refine o_istore X0 K d19_3 5 rfl #[.val (.ref a), .val (.int fr), .val (.int to), .val (.int (0 : Int32)), .val (.int fr)] rfl rfl ?_
  have q1 : (1 : Int32).toInt = 1 := rfl
  have hlen := A_a.len
  refine o_ind (fun (t : Int32 × Int32) => T0.setTop (mkF m 5 #[.val (.ref a), .val (.int fr), .val (.int to), .val (.int t.1), .val (.int t.2)] [])) (fun d t => t.2.toInt + d = to.toInt ∧ 0 ≤ t.2.toInt ∧ own_poly g t.2.toInt.toNat d t.1 = own_poly g fr.toInt.toNat (to.toInt - fr.toInt).toNat 0) ?_ ?_ (to.toInt - fr.toInt).toNat ((0 : Int32), fr) ⟨by show fr.toInt + _ = _; omega, by show 0 ≤ fr.toInt; omega, rfl⟩
  · rintro ⟨acc, i1⟩ ⟨hi1, hp1, hg1⟩
    dsimp only at hi1 hp1 hg1
    show OGo p e below _ n0 _ (T0.setTop (mkF m 5 #[.val (.ref a), .val (.int fr), .val (.int to), .val (.int acc), .val (.int i1)] []))
    refine o_iload X0 K d19_5 7 rfl rfl ?_
    refine o_iloadN X0 K d19_7 8 rfl rfl ?_
    refine o_icmp_ge_t X0 K d19_8 27 (by decide) (by decide) (by omega) ?_
    refine o_iloadN X0 K d19_27 28 rfl rfl ?_
    refine o_iloadN X0 K d19_28 29 rfl rfl ?_
    refine o_bipush X0 K (16 : Int32) d19_29 31 rfl rfl ?_
    refine o_iushr X0 K d19_31 32 rfl ?_
    refine o_ixor X0 K d19_32 33 rfl ?_
    obtain ⟨m1, h_m1⟩ : ∃ z_ : Int32, z_ = (acc ^^^ ((acc.toUInt32 >>> ((16 : Int32) &&& 31).toUInt32).toInt32)) := ⟨_, rfl⟩
    refine o_istoreN X0 K d19_33 34 rfl #[.val (.ref a), .val (.int fr), .val (.int to), .val (.int m1), .val (.int i1)] h_m1.symm rfl ?_
    refine o_iloadN X0 K d19_34 35 rfl rfl ?_
    refine o_ldcI X0 K d19_35 37 rfl (w_105 hw) ?_
    refine o_imul X0 K d19_37 38 rfl ?_
    obtain ⟨m2, h_m2⟩ : ∃ z_ : Int32, z_ = (m1 * (-2048144789 : Int32)) := ⟨_, rfl⟩
    refine o_istoreN X0 K d19_38 39 rfl #[.val (.ref a), .val (.int fr), .val (.int to), .val (.int m2), .val (.int i1)] h_m2.symm rfl ?_
    refine o_iloadN X0 K d19_39 40 rfl rfl ?_
    refine o_iloadN X0 K d19_40 41 rfl rfl ?_
    refine o_bipush X0 K (13 : Int32) d19_41 43 rfl rfl ?_
    refine o_iushr X0 K d19_43 44 rfl ?_
    refine o_ixor X0 K d19_44 45 rfl ?_
    obtain ⟨m3, h_m3⟩ : ∃ z_ : Int32, z_ = (m2 ^^^ ((m2.toUInt32 >>> ((13 : Int32) &&& 31).toUInt32).toInt32)) := ⟨_, rfl⟩
    refine o_istoreN X0 K d19_45 46 rfl #[.val (.ref a), .val (.int fr), .val (.int to), .val (.int m3), .val (.int i1)] h_m3.symm rfl ?_
    refine o_iloadN X0 K d19_46 47 rfl rfl ?_
    refine o_ldcI X0 K d19_47 49 rfl (w_106 hw) ?_
    refine o_imul X0 K d19_49 50 rfl ?_
    obtain ⟨m4, h_m4⟩ : ∃ z_ : Int32, z_ = (m3 * (-1028477387 : Int32)) := ⟨_, rfl⟩
    refine o_istoreN X0 K d19_50 51 rfl #[.val (.ref a), .val (.int fr), .val (.int to), .val (.int m4), .val (.int i1)] h_m4.symm rfl ?_
    refine o_iloadN X0 K d19_51 52 rfl rfl ?_
    refine o_iloadN X0 K d19_52 53 rfl rfl ?_
    refine o_bipush X0 K (16 : Int32) d19_53 55 rfl rfl ?_
    refine o_iushr X0 K d19_55 56 rfl ?_
    refine o_ixor X0 K d19_56 57 rfl ?_
    obtain ⟨m5, h_m5⟩ : ∃ z_ : Int32, z_ = (m4 ^^^ ((m4.toUInt32 >>> ((16 : Int32) &&& 31).toUInt32).toInt32)) := ⟨_, rfl⟩
    refine o_istoreN X0 K d19_57 58 rfl #[.val (.ref a), .val (.int fr), .val (.int to), .val (.int m5), .val (.int i1)] h_m5.symm rfl ?_
    refine o_iloadN X0 K d19_58 59 rfl rfl ?_
    refine o_ireturn X0 K d19_59 (by decide) (by decide) N0 ?_
    refine ⟨?_, e0⟩
    rw [← hg1]
    subst h_m5 h_m4 h_m3 h_m2 h_m1
    rfl
  · rintro d ih ⟨acc, i1⟩ ⟨hi1, hp1, hg1⟩
    dsimp only at hi1 hp1 hg1
    show OGo p e below _ n0 _ (T0.setTop (mkF m 5 #[.val (.ref a), .val (.int fr), .val (.int to), .val (.int acc), .val (.int i1)] []))
    refine o_iload X0 K d19_5 7 rfl rfl ?_
    refine o_iloadN X0 K d19_7 8 rfl rfl ?_
    refine o_icmp_ge_f X0 K d19_8 11 rfl (by omega) ?_
    refine o_bipush X0 K (31 : Int32) d19_11 13 rfl rfl ?_
    refine o_iloadN X0 K d19_13 14 rfl rfl ?_
    refine o_imul X0 K d19_14 15 rfl ?_
    refine o_aloadN X0 K d19_15 16 rfl rfl rfl ?_
    refine o_iload X0 K d19_16 18 rfl rfl ?_
    refine o_baload X0 K (i := i1.toInt.toNat) (v := (.int (g i1.toInt.toNat))) d19_18 19 rfl e0 A_a (by omega) (by omega) (rfl) ?_
    refine o_iadd X0 K d19_19 20 rfl ?_
    refine o_istoreN X0 K d19_20 21 rfl #[.val (.ref a), .val (.int fr), .val (.int to), .val (.int (((31 : Int32) * acc) + (g i1.toInt.toNat))), .val (.int i1)] rfl rfl ?_
    obtain ⟨i2, h_i2⟩ : ∃ z_ : Int32, z_ = (i1 + (1 : Int32)) := ⟨_, rfl⟩
    refine o_iinc X0 K d19_21 24 rfl #[.val (.ref a), .val (.int fr), .val (.int to), .val (.int (((31 : Int32) * acc) + (g i1.toInt.toNat))), .val (.int i2)] rfl h_i2.symm rfl ?_
    refine o_goto X0 K d19_24 5 (by decide) (by decide) ?_
    have hi2 : i2.toInt = i1.toInt + 1 := by rw [h_i2]; have q2 := c_iadd i1 1; have q3 := rng32 (i1 + 1); omega
    refine ih (_, i2) ⟨by show i2.toInt + (d : Int) = _; omega, by show 0 ≤ i2.toInt; omega, ?_⟩
    rw [← hg1]
    show own_poly g i2.toInt.toNat d _ = own_poly g (i1.toInt.toNat + 1) d _
    rw [show i2.toInt.toNat = i1.toInt.toNat + 1 from by omega]
theorem d21_0 : decode prog_7_method_8_code 0 = .ok (.iload_n 2, 1) := by decide +kernel
theorem d21_1 : decode prog_7_method_8_code 1 = .ok (.iload_n 1, 1) := by decide +kernel
theorem d21_2 : decode prog_7_method_8_code 2 = .ok (.isub, 1) := by decide +kernel
theorem d21_3 : decode prog_7_method_8_code 3 = .ok (.istore_n 3, 1) := by decide +kernel
theorem d21_4 : decode prog_7_method_8_code 4 = .ok (.iload_n 3, 1) := by decide +kernel
theorem d21_5 : decode prog_7_method_8_code 5 = .ok (.sipush 255, 3) := by decide +kernel
theorem d21_8 : decode prog_7_method_8_code 8 = .ok (.invokestatic 85, 3) := by decide +kernel
theorem d21_11 : decode prog_7_method_8_code 11 = .ok (.i2l, 1) := by decide +kernel
theorem d21_12 : decode prog_7_method_8_code 12 = .ok (.lstore 4, 2) := by decide +kernel
theorem d21_14 : decode prog_7_method_8_code 14 = .ok (.iload_n 1, 1) := by decide +kernel
theorem d21_15 : decode prog_7_method_8_code 15 = .ok (.iload_n 3, 1) := by decide +kernel
theorem d21_16 : decode prog_7_method_8_code 16 = .ok (.bipush 7, 2) := by decide +kernel
theorem d21_18 : decode prog_7_method_8_code 18 = .ok (.invokestatic 85, 3) := by decide +kernel
theorem d21_21 : decode prog_7_method_8_code 21 = .ok (.iadd, 1) := by decide +kernel
theorem d21_22 : decode prog_7_method_8_code 22 = .ok (.istore 6, 2) := by decide +kernel
theorem d21_24 : decode prog_7_method_8_code 24 = .ok (.iload_n 1, 1) := by decide +kernel
theorem d21_25 : decode prog_7_method_8_code 25 = .ok (.istore 7, 2) := by decide +kernel
theorem d21_27 : decode prog_7_method_8_code 27 = .ok (.iload 7, 2) := by decide +kernel
theorem d21_29 : decode prog_7_method_8_code 29 = .ok (.iload 6, 2) := by decide +kernel
theorem d21_31 : decode prog_7_method_8_code 31 = .ok (.if_icmp .ge 26, 3) := by decide +kernel
theorem d21_34 : decode prog_7_method_8_code 34 = .ok (.lload 4, 2) := by decide +kernel
theorem d21_36 : decode prog_7_method_8_code 36 = .ok (.bipush 8, 2) := by decide +kernel
theorem d21_38 : decode prog_7_method_8_code 38 = .ok (.lshl, 1) := by decide +kernel
theorem d21_39 : decode prog_7_method_8_code 39 = .ok (.aload_n 0, 1) := by decide +kernel
theorem d21_40 : decode prog_7_method_8_code 40 = .ok (.iload 7, 2) := by decide +kernel
theorem d21_42 : decode prog_7_method_8_code 42 = .ok (.baload, 1) := by decide +kernel
theorem d21_43 : decode prog_7_method_8_code 43 = .ok (.sipush 255, 3) := by decide +kernel
theorem d21_46 : decode prog_7_method_8_code 46 = .ok (.iand, 1) := by decide +kernel
theorem d21_47 : decode prog_7_method_8_code 47 = .ok (.i2l, 1) := by decide +kernel
theorem d21_48 : decode prog_7_method_8_code 48 = .ok (.lor, 1) := by decide +kernel
theorem d21_49 : decode prog_7_method_8_code 49 = .ok (.lstore 4, 2) := by decide +kernel
theorem d21_51 : decode prog_7_method_8_code 51 = .ok (.iinc 7 1, 3) := by decide +kernel
theorem d21_54 : decode prog_7_method_8_code 54 = .ok (.goto (-27), 3) := by decide +kernel
theorem d21_57 : decode prog_7_method_8_code 57 = .ok (.lload 4, 2) := by decide +kernel
theorem d21_59 : decode prog_7_method_8_code 59 = .ok (.bipush 8, 2) := by decide +kernel
theorem d21_61 : decode prog_7_method_8_code 61 = .ok (.bipush 7, 2) := by decide +kernel
theorem d21_63 : decode prog_7_method_8_code 63 = .ok (.iload_n 3, 1) := by decide +kernel
theorem d21_64 : decode prog_7_method_8_code 64 = .ok (.bipush 7, 2) := by decide +kernel
theorem d21_66 : decode prog_7_method_8_code 66 = .ok (.invokestatic 85, 3) := by decide +kernel
theorem d21_69 : decode prog_7_method_8_code 69 = .ok (.isub, 1) := by decide +kernel
theorem d21_70 : decode prog_7_method_8_code 70 = .ok (.imul, 1) := by decide +kernel
theorem d21_71 : decode prog_7_method_8_code 71 = .ok (.lshl, 1) := by decide +kernel
theorem d21_72 : decode prog_7_method_8_code 72 = .ok (.lreturn, 1) := by decide +kernel
theorem pn_21 : plainFor (⟨"com/example/vikt/vikt/graph/NameTable", "key", "([BII)J"⟩ : MethodName) = true := plainFor_of_name (by first | (simp [plainName, overriddenIn]; done) | decide +kernel)
set_option maxHeartbeats 4000000 in
theorem c_key1 (l : Launch) (Z : State) (a0 : Array Value) (hw : OW Z a0) (n0 : Nat) (y : Addr) (q0 : Int32) (h0 : Heap) (Z0 : n0 ≤ h0.size) (A_y : OAr Z h0 y .byte 1 (own_B [q0])) :
    OCon l Z n0 (⟨"com/example/vikt/vikt/graph/NameTable", "key", "([BII)J"⟩ : MethodName) prog_7_method_8_code 8 (some .long) ({ frames := 1, cells := 0, slots := 0, locals := 20 } : Room) #[(.ref y), (.int (0 : Int32)), (.int (1 : Int32))] h0 (fun v h => v = some (.long (own_key [q0] (1 : Int32))) ∧ h = h0) := by
  refine OCon.of (Ls := #[.val (.ref y), .val (.int (0 : Int32)), .val (.int (1 : Int32)), .unset, .unset, .unset, .unset, .unset]) pn_21 rfl rfl (fun m => by first | (simp [entryFrame, mkF, argsToLocals, Value.category]; done) | rfl) ?_
  intro p e s m below meth c T0 X0 K e0
  have N0 := Fr.nil n0
  refine o_iloadN X0 K d21_0 1 rfl rfl ?_
  refine o_iloadN X0 K d21_1 2 rfl rfl ?_
  refine o_isub X0 K d21_2 3 rfl ?_
  refine o_istoreN X0 K d21_3 4 rfl #[.val (.ref y), .val (.int (0 : Int32)), .val (.int (1 : Int32)), .val (.int ((1 : Int32) - (0 : Int32))), .unset, .unset, .unset, .unset] rfl rfl ?_
  show OGo p e below _ n0 _ (T0.setTop (mkF m 4 #[.val (.ref y), .val (.int (0 : Int32)), .val (.int (1 : Int32)), .val (.int (1 : Int32)), .unset, .unset, .unset, .unset] []))
  refine o_iloadN X0 K d21_4 5 rfl rfl ?_
  refine o_sipush X0 K (255 : Int32) d21_5 8 rfl rfl ?_
  refine o_invokestatic X0 K d21_8 11 rfl (w_115 hw) (w_116 hw) (w_117 hw) (w_118 hw) (by decide) [(.int (1 : Int32)), (.int (255 : Int32))] [] rfl  (c_minL l Z a0 hw n0 (1 : Int32) (255 : Int32) h0 Z0 (by decide)) e0 rfl (lenOf pd__II_I rfl) (by decide) 0 (Nat.le_of_eq rfl) (by decide) (by decide) (by decide) N0 ?_
  rintro _ T_266 h_266 locs_266 X_266 q_266 ⟨rfl, r_266⟩ N_266
  have e_266 := q_266.trans r_266
  show OGo p e below _ n0 _ (T_266.setTop (mkF m 11 #[.val (.ref y), .val (.int (0 : Int32)), .val (.int (1 : Int32)), .val (.int (1 : Int32)), .unset, .unset, .unset, .unset] [(.int (1 : Int32))]))
  refine o_i2l X_266 K d21_11 12 rfl ?_
  refine o_lstore X_266 K d21_12 14 rfl #[.val (.ref y), .val (.int (0 : Int32)), .val (.int (1 : Int32)), .val (.int (1 : Int32)), .val (.long ((1 : Int32).toInt64)), .second, .unset, .unset] rfl rfl ?_
  refine o_iloadN X_266 K d21_14 15 rfl rfl ?_
  refine o_iloadN X_266 K d21_15 16 rfl rfl ?_
  refine o_bipush X_266 K (7 : Int32) d21_16 18 rfl rfl ?_
  refine o_invokestatic X_266 K d21_18 21 rfl (w_115 hw) (w_116 hw) (w_117 hw) (w_118 hw) (by decide) [(.int (1 : Int32)), (.int (7 : Int32))] [(.int (0 : Int32))] rfl  (c_minL l Z a0 hw n0 (1 : Int32) (7 : Int32) h0 Z0 (by decide)) e_266 rfl (lenOf pd__II_I rfl) (by decide) 1 (Nat.le_of_eq rfl) (by decide) (by decide) (by decide) N_266 ?_
  rintro _ T_267 h_267 locs_267 X_267 q_267 ⟨rfl, r_267⟩ N_267
  have e_267 := q_267.trans r_267
  show OGo p e below _ n0 _ (T_267.setTop (mkF m 21 #[.val (.ref y), .val (.int (0 : Int32)), .val (.int (1 : Int32)), .val (.int (1 : Int32)), .val (.long ((1 : Int32).toInt64)), .second, .unset, .unset] [(.int (1 : Int32)), (.int (0 : Int32))]))
  refine o_iadd X_267 K d21_21 22 rfl ?_
  refine o_istore X_267 K d21_22 24 rfl #[.val (.ref y), .val (.int (0 : Int32)), .val (.int (1 : Int32)), .val (.int (1 : Int32)), .val (.long ((1 : Int32).toInt64)), .second, .val (.int ((0 : Int32) + (1 : Int32))), .unset] rfl rfl ?_
  show OGo p e below _ n0 _ (T_267.setTop (mkF m 24 #[.val (.ref y), .val (.int (0 : Int32)), .val (.int (1 : Int32)), .val (.int (1 : Int32)), .val (.long ((1 : Int32).toInt64)), .second, .val (.int (1 : Int32)), .unset] []))
  refine o_iloadN X_267 K d21_24 25 rfl rfl ?_
  refine o_istore X_267 K d21_25 27 rfl #[.val (.ref y), .val (.int (0 : Int32)), .val (.int (1 : Int32)), .val (.int (1 : Int32)), .val (.long ((1 : Int32).toInt64)), .second, .val (.int (1 : Int32)), .val (.int (0 : Int32))] rfl rfl ?_
  refine o_iload X_267 K d21_27 29 rfl rfl ?_
  refine o_iload X_267 K d21_29 31 rfl rfl ?_
  refine o_icmp_ge_f X_267 K d21_31 34 rfl (by decide) ?_
  refine o_lload X_267 K d21_34 36 rfl rfl ?_
  refine o_bipush X_267 K (8 : Int32) d21_36 38 rfl rfl ?_
  refine o_lshl X_267 K d21_38 39 rfl ?_
  refine o_aloadN X_267 K d21_39 40 rfl rfl rfl ?_
  refine o_iload X_267 K d21_40 42 rfl rfl ?_
  refine o_baload X_267 K (i := 0) (v := (.int q0)) d21_42 43 rfl e_267 A_y (by decide) (by decide) (rfl) ?_
  refine o_sipush X_267 K (255 : Int32) d21_43 46 rfl rfl ?_
  refine o_iand X_267 K d21_46 47 rfl ?_
  refine o_i2l X_267 K d21_47 48 rfl ?_
  refine o_lor X_267 K d21_48 49 rfl ?_
  refine o_lstore X_267 K d21_49 51 rfl #[.val (.ref y), .val (.int (0 : Int32)), .val (.int (1 : Int32)), .val (.int (1 : Int32)), .val (.long ((((1 : Int32).toInt64) <<< ((8 : Int32) &&& 0x3f).toInt64) ||| ((q0 &&& (255 : Int32)).toInt64))), .second, .val (.int (1 : Int32)), .val (.int (0 : Int32))] rfl rfl ?_
  refine o_iinc X_267 K d21_51 54 rfl #[.val (.ref y), .val (.int (0 : Int32)), .val (.int (1 : Int32)), .val (.int (1 : Int32)), .val (.long ((((1 : Int32).toInt64) <<< ((8 : Int32) &&& 0x3f).toInt64) ||| ((q0 &&& (255 : Int32)).toInt64))), .second, .val (.int (1 : Int32)), .val (.int (1 : Int32))] rfl (by decide) rfl ?_
  refine o_goto X_267 K d21_54 27 (by decide) (by decide) ?_
  refine o_iload X_267 K d21_27 29 rfl rfl ?_
  refine o_iload X_267 K d21_29 31 rfl rfl ?_
  refine o_icmp_ge_t X_267 K d21_31 57 (by decide) (by decide) (by decide) ?_
  refine o_lload X_267 K d21_57 59 rfl rfl ?_
  refine o_bipush X_267 K (8 : Int32) d21_59 61 rfl rfl ?_
  refine o_bipush X_267 K (7 : Int32) d21_61 63 rfl rfl ?_
  refine o_iloadN X_267 K d21_63 64 rfl rfl ?_
  refine o_bipush X_267 K (7 : Int32) d21_64 66 rfl rfl ?_
  refine o_invokestatic X_267 K d21_66 69 rfl (w_115 hw) (w_116 hw) (w_117 hw) (w_118 hw) (by decide) [(.int (1 : Int32)), (.int (7 : Int32))] [(.int (7 : Int32)), (.int (8 : Int32)), (.long ((((1 : Int32).toInt64) <<< ((8 : Int32) &&& 0x3f).toInt64) ||| ((q0 &&& (255 : Int32)).toInt64)))] rfl  (c_minL l Z a0 hw n0 (1 : Int32) (7 : Int32) h0 Z0 (by decide)) e_267 rfl (lenOf pd__II_I rfl) (by decide) 4 (Nat.le_of_eq rfl) (by decide) (by decide) (by decide) N_267 ?_
  rintro _ T_268 h_268 locs_268 X_268 q_268 ⟨rfl, r_268⟩ N_268
  have e_268 := q_268.trans r_268
  show OGo p e below _ n0 _ (T_268.setTop (mkF m 69 #[.val (.ref y), .val (.int (0 : Int32)), .val (.int (1 : Int32)), .val (.int (1 : Int32)), .val (.long ((((1 : Int32).toInt64) <<< ((8 : Int32) &&& 0x3f).toInt64) ||| ((q0 &&& (255 : Int32)).toInt64))), .second, .val (.int (1 : Int32)), .val (.int (1 : Int32))] [(.int (1 : Int32)), (.int (7 : Int32)), (.int (8 : Int32)), (.long ((((1 : Int32).toInt64) <<< ((8 : Int32) &&& 0x3f).toInt64) ||| ((q0 &&& (255 : Int32)).toInt64)))]))
  refine o_isub X_268 K d21_69 70 rfl ?_
  refine o_imul X_268 K d21_70 71 rfl ?_
  refine o_lshl X_268 K d21_71 72 rfl ?_
  refine o_lreturn X_268 K d21_72 (by decide) (by decide) N_268 ?_
  exact ⟨rfl, e_268⟩
set_option maxHeartbeats 4000000 in
theorem c_key2 (l : Launch) (Z : State) (a0 : Array Value) (hw : OW Z a0) (n0 : Nat) (y : Addr) (q0 q1 : Int32) (h0 : Heap) (Z0 : n0 ≤ h0.size) (A_y : OAr Z h0 y .byte 2 (own_B [q0, q1])) :
    OCon l Z n0 (⟨"com/example/vikt/vikt/graph/NameTable", "key", "([BII)J"⟩ : MethodName) prog_7_method_8_code 8 (some .long) ({ frames := 1, cells := 0, slots := 0, locals := 20 } : Room) #[(.ref y), (.int (0 : Int32)), (.int (2 : Int32))] h0 (fun v h => v = some (.long (own_key [q0, q1] (2 : Int32))) ∧ h = h0) := by
  refine OCon.of (Ls := #[.val (.ref y), .val (.int (0 : Int32)), .val (.int (2 : Int32)), .unset, .unset, .unset, .unset, .unset]) pn_21 rfl rfl (fun m => by first | (simp [entryFrame, mkF, argsToLocals, Value.category]; done) | rfl) ?_
  intro p e s m below meth c T0 X0 K e0
  have N0 := Fr.nil n0
  refine o_iloadN X0 K d21_0 1 rfl rfl ?_
  refine o_iloadN X0 K d21_1 2 rfl rfl ?_
  refine o_isub X0 K d21_2 3 rfl ?_
  refine o_istoreN X0 K d21_3 4 rfl #[.val (.ref y), .val (.int (0 : Int32)), .val (.int (2 : Int32)), .val (.int ((2 : Int32) - (0 : Int32))), .unset, .unset, .unset, .unset] rfl rfl ?_
  show OGo p e below _ n0 _ (T0.setTop (mkF m 4 #[.val (.ref y), .val (.int (0 : Int32)), .val (.int (2 : Int32)), .val (.int (2 : Int32)), .unset, .unset, .unset, .unset] []))
  refine o_iloadN X0 K d21_4 5 rfl rfl ?_
  refine o_sipush X0 K (255 : Int32) d21_5 8 rfl rfl ?_
  refine o_invokestatic X0 K d21_8 11 rfl (w_115 hw) (w_116 hw) (w_117 hw) (w_118 hw) (by decide) [(.int (2 : Int32)), (.int (255 : Int32))] [] rfl  (c_minL l Z a0 hw n0 (2 : Int32) (255 : Int32) h0 Z0 (by decide)) e0 rfl (lenOf pd__II_I rfl) (by decide) 0 (Nat.le_of_eq rfl) (by decide) (by decide) (by decide) N0 ?_
  rintro _ T_269 h_269 locs_269 X_269 q_269 ⟨rfl, r_269⟩ N_269
  have e_269 := q_269.trans r_269
  show OGo p e below _ n0 _ (T_269.setTop (mkF m 11 #[.val (.ref y), .val (.int (0 : Int32)), .val (.int (2 : Int32)), .val (.int (2 : Int32)), .unset, .unset, .unset, .unset] [(.int (2 : Int32))]))
  refine o_i2l X_269 K d21_11 12 rfl ?_
  refine o_lstore X_269 K d21_12 14 rfl #[.val (.ref y), .val (.int (0 : Int32)), .val (.int (2 : Int32)), .val (.int (2 : Int32)), .val (.long ((2 : Int32).toInt64)), .second, .unset, .unset] rfl rfl ?_
  refine o_iloadN X_269 K d21_14 15 rfl rfl ?_
  refine o_iloadN X_269 K d21_15 16 rfl rfl ?_
  refine o_bipush X_269 K (7 : Int32) d21_16 18 rfl rfl ?_
  refine o_invokestatic X_269 K d21_18 21 rfl (w_115 hw) (w_116 hw) (w_117 hw) (w_118 hw) (by decide) [(.int (2 : Int32)), (.int (7 : Int32))] [(.int (0 : Int32))] rfl  (c_minL l Z a0 hw n0 (2 : Int32) (7 : Int32) h0 Z0 (by decide)) e_269 rfl (lenOf pd__II_I rfl) (by decide) 1 (Nat.le_of_eq rfl) (by decide) (by decide) (by decide) N_269 ?_
  rintro _ T_270 h_270 locs_270 X_270 q_270 ⟨rfl, r_270⟩ N_270
  have e_270 := q_270.trans r_270
  show OGo p e below _ n0 _ (T_270.setTop (mkF m 21 #[.val (.ref y), .val (.int (0 : Int32)), .val (.int (2 : Int32)), .val (.int (2 : Int32)), .val (.long ((2 : Int32).toInt64)), .second, .unset, .unset] [(.int (2 : Int32)), (.int (0 : Int32))]))
  refine o_iadd X_270 K d21_21 22 rfl ?_
  refine o_istore X_270 K d21_22 24 rfl #[.val (.ref y), .val (.int (0 : Int32)), .val (.int (2 : Int32)), .val (.int (2 : Int32)), .val (.long ((2 : Int32).toInt64)), .second, .val (.int ((0 : Int32) + (2 : Int32))), .unset] rfl rfl ?_
  show OGo p e below _ n0 _ (T_270.setTop (mkF m 24 #[.val (.ref y), .val (.int (0 : Int32)), .val (.int (2 : Int32)), .val (.int (2 : Int32)), .val (.long ((2 : Int32).toInt64)), .second, .val (.int (2 : Int32)), .unset] []))
  refine o_iloadN X_270 K d21_24 25 rfl rfl ?_
  refine o_istore X_270 K d21_25 27 rfl #[.val (.ref y), .val (.int (0 : Int32)), .val (.int (2 : Int32)), .val (.int (2 : Int32)), .val (.long ((2 : Int32).toInt64)), .second, .val (.int (2 : Int32)), .val (.int (0 : Int32))] rfl rfl ?_
  refine o_iload X_270 K d21_27 29 rfl rfl ?_
  refine o_iload X_270 K d21_29 31 rfl rfl ?_
  refine o_icmp_ge_f X_270 K d21_31 34 rfl (by decide) ?_
  refine o_lload X_270 K d21_34 36 rfl rfl ?_
  refine o_bipush X_270 K (8 : Int32) d21_36 38 rfl rfl ?_
  refine o_lshl X_270 K d21_38 39 rfl ?_
  refine o_aloadN X_270 K d21_39 40 rfl rfl rfl ?_
  refine o_iload X_270 K d21_40 42 rfl rfl ?_
  refine o_baload X_270 K (i := 0) (v := (.int q0)) d21_42 43 rfl e_270 A_y (by decide) (by decide) (rfl) ?_
  refine o_sipush X_270 K (255 : Int32) d21_43 46 rfl rfl ?_
  refine o_iand X_270 K d21_46 47 rfl ?_
  refine o_i2l X_270 K d21_47 48 rfl ?_
  refine o_lor X_270 K d21_48 49 rfl ?_
  refine o_lstore X_270 K d21_49 51 rfl #[.val (.ref y), .val (.int (0 : Int32)), .val (.int (2 : Int32)), .val (.int (2 : Int32)), .val (.long ((((2 : Int32).toInt64) <<< ((8 : Int32) &&& 0x3f).toInt64) ||| ((q0 &&& (255 : Int32)).toInt64))), .second, .val (.int (2 : Int32)), .val (.int (0 : Int32))] rfl rfl ?_
  refine o_iinc X_270 K d21_51 54 rfl #[.val (.ref y), .val (.int (0 : Int32)), .val (.int (2 : Int32)), .val (.int (2 : Int32)), .val (.long ((((2 : Int32).toInt64) <<< ((8 : Int32) &&& 0x3f).toInt64) ||| ((q0 &&& (255 : Int32)).toInt64))), .second, .val (.int (2 : Int32)), .val (.int (1 : Int32))] rfl (by decide) rfl ?_
  refine o_goto X_270 K d21_54 27 (by decide) (by decide) ?_
  refine o_iload X_270 K d21_27 29 rfl rfl ?_
  refine o_iload X_270 K d21_29 31 rfl rfl ?_
  refine o_icmp_ge_f X_270 K d21_31 34 rfl (by decide) ?_
  refine o_lload X_270 K d21_34 36 rfl rfl ?_
  refine o_bipush X_270 K (8 : Int32) d21_36 38 rfl rfl ?_
  refine o_lshl X_270 K d21_38 39 rfl ?_
  refine o_aloadN X_270 K d21_39 40 rfl rfl rfl ?_
  refine o_iload X_270 K d21_40 42 rfl rfl ?_
  refine o_baload X_270 K (i := 1) (v := (.int q1)) d21_42 43 rfl e_270 A_y (by decide) (by decide) (rfl) ?_
  refine o_sipush X_270 K (255 : Int32) d21_43 46 rfl rfl ?_
  refine o_iand X_270 K d21_46 47 rfl ?_
  refine o_i2l X_270 K d21_47 48 rfl ?_
  refine o_lor X_270 K d21_48 49 rfl ?_
  refine o_lstore X_270 K d21_49 51 rfl #[.val (.ref y), .val (.int (0 : Int32)), .val (.int (2 : Int32)), .val (.int (2 : Int32)), .val (.long ((((((2 : Int32).toInt64) <<< ((8 : Int32) &&& 0x3f).toInt64) ||| ((q0 &&& (255 : Int32)).toInt64)) <<< ((8 : Int32) &&& 0x3f).toInt64) ||| ((q1 &&& (255 : Int32)).toInt64))), .second, .val (.int (2 : Int32)), .val (.int (1 : Int32))] rfl rfl ?_
  refine o_iinc X_270 K d21_51 54 rfl #[.val (.ref y), .val (.int (0 : Int32)), .val (.int (2 : Int32)), .val (.int (2 : Int32)), .val (.long ((((((2 : Int32).toInt64) <<< ((8 : Int32) &&& 0x3f).toInt64) ||| ((q0 &&& (255 : Int32)).toInt64)) <<< ((8 : Int32) &&& 0x3f).toInt64) ||| ((q1 &&& (255 : Int32)).toInt64))), .second, .val (.int (2 : Int32)), .val (.int (2 : Int32))] rfl (by decide) rfl ?_
  refine o_goto X_270 K d21_54 27 (by decide) (by decide) ?_
  refine o_iload X_270 K d21_27 29 rfl rfl ?_
  refine o_iload X_270 K d21_29 31 rfl rfl ?_
  refine o_icmp_ge_t X_270 K d21_31 57 (by decide) (by decide) (by decide) ?_
  refine o_lload X_270 K d21_57 59 rfl rfl ?_
  refine o_bipush X_270 K (8 : Int32) d21_59 61 rfl rfl ?_
  refine o_bipush X_270 K (7 : Int32) d21_61 63 rfl rfl ?_
  refine o_iloadN X_270 K d21_63 64 rfl rfl ?_
  refine o_bipush X_270 K (7 : Int32) d21_64 66 rfl rfl ?_
  refine o_invokestatic X_270 K d21_66 69 rfl (w_115 hw) (w_116 hw) (w_117 hw) (w_118 hw) (by decide) [(.int (2 : Int32)), (.int (7 : Int32))] [(.int (7 : Int32)), (.int (8 : Int32)), (.long ((((((2 : Int32).toInt64) <<< ((8 : Int32) &&& 0x3f).toInt64) ||| ((q0 &&& (255 : Int32)).toInt64)) <<< ((8 : Int32) &&& 0x3f).toInt64) ||| ((q1 &&& (255 : Int32)).toInt64)))] rfl  (c_minL l Z a0 hw n0 (2 : Int32) (7 : Int32) h0 Z0 (by decide)) e_270 rfl (lenOf pd__II_I rfl) (by decide) 4 (Nat.le_of_eq rfl) (by decide) (by decide) (by decide) N_270 ?_
  rintro _ T_271 h_271 locs_271 X_271 q_271 ⟨rfl, r_271⟩ N_271
  have e_271 := q_271.trans r_271
  show OGo p e below _ n0 _ (T_271.setTop (mkF m 69 #[.val (.ref y), .val (.int (0 : Int32)), .val (.int (2 : Int32)), .val (.int (2 : Int32)), .val (.long ((((((2 : Int32).toInt64) <<< ((8 : Int32) &&& 0x3f).toInt64) ||| ((q0 &&& (255 : Int32)).toInt64)) <<< ((8 : Int32) &&& 0x3f).toInt64) ||| ((q1 &&& (255 : Int32)).toInt64))), .second, .val (.int (2 : Int32)), .val (.int (2 : Int32))] [(.int (2 : Int32)), (.int (7 : Int32)), (.int (8 : Int32)), (.long ((((((2 : Int32).toInt64) <<< ((8 : Int32) &&& 0x3f).toInt64) ||| ((q0 &&& (255 : Int32)).toInt64)) <<< ((8 : Int32) &&& 0x3f).toInt64) ||| ((q1 &&& (255 : Int32)).toInt64)))]))
  refine o_isub X_271 K d21_69 70 rfl ?_
  refine o_imul X_271 K d21_70 71 rfl ?_
  refine o_lshl X_271 K d21_71 72 rfl ?_
  refine o_lreturn X_271 K d21_72 (by decide) (by decide) N_271 ?_
  exact ⟨rfl, e_271⟩
set_option maxHeartbeats 4000000 in
theorem c_key3 (l : Launch) (Z : State) (a0 : Array Value) (hw : OW Z a0) (n0 : Nat) (y : Addr) (q0 q1 q2 : Int32) (h0 : Heap) (Z0 : n0 ≤ h0.size) (A_y : OAr Z h0 y .byte 3 (own_B [q0, q1, q2])) :
    OCon l Z n0 (⟨"com/example/vikt/vikt/graph/NameTable", "key", "([BII)J"⟩ : MethodName) prog_7_method_8_code 8 (some .long) ({ frames := 1, cells := 0, slots := 0, locals := 20 } : Room) #[(.ref y), (.int (0 : Int32)), (.int (3 : Int32))] h0 (fun v h => v = some (.long (own_key [q0, q1, q2] (3 : Int32))) ∧ h = h0) := by
  refine OCon.of (Ls := #[.val (.ref y), .val (.int (0 : Int32)), .val (.int (3 : Int32)), .unset, .unset, .unset, .unset, .unset]) pn_21 rfl rfl (fun m => by first | (simp [entryFrame, mkF, argsToLocals, Value.category]; done) | rfl) ?_
  intro p e s m below meth c T0 X0 K e0
  have N0 := Fr.nil n0
  refine o_iloadN X0 K d21_0 1 rfl rfl ?_
  refine o_iloadN X0 K d21_1 2 rfl rfl ?_
  refine o_isub X0 K d21_2 3 rfl ?_
  refine o_istoreN X0 K d21_3 4 rfl #[.val (.ref y), .val (.int (0 : Int32)), .val (.int (3 : Int32)), .val (.int ((3 : Int32) - (0 : Int32))), .unset, .unset, .unset, .unset] rfl rfl ?_
  show OGo p e below _ n0 _ (T0.setTop (mkF m 4 #[.val (.ref y), .val (.int (0 : Int32)), .val (.int (3 : Int32)), .val (.int (3 : Int32)), .unset, .unset, .unset, .unset] []))
  refine o_iloadN X0 K d21_4 5 rfl rfl ?_
  refine o_sipush X0 K (255 : Int32) d21_5 8 rfl rfl ?_
  refine o_invokestatic X0 K d21_8 11 rfl (w_115 hw) (w_116 hw) (w_117 hw) (w_118 hw) (by decide) [(.int (3 : Int32)), (.int (255 : Int32))] [] rfl  (c_minL l Z a0 hw n0 (3 : Int32) (255 : Int32) h0 Z0 (by decide)) e0 rfl (lenOf pd__II_I rfl) (by decide) 0 (Nat.le_of_eq rfl) (by decide) (by decide) (by decide) N0 ?_
  rintro _ T_272 h_272 locs_272 X_272 q_272 ⟨rfl, r_272⟩ N_272
  have e_272 := q_272.trans r_272
  show OGo p e below _ n0 _ (T_272.setTop (mkF m 11 #[.val (.ref y), .val (.int (0 : Int32)), .val (.int (3 : Int32)), .val (.int (3 : Int32)), .unset, .unset, .unset, .unset] [(.int (3 : Int32))]))
  refine o_i2l X_272 K d21_11 12 rfl ?_
  refine o_lstore X_272 K d21_12 14 rfl #[.val (.ref y), .val (.int (0 : Int32)), .val (.int (3 : Int32)), .val (.int (3 : Int32)), .val (.long ((3 : Int32).toInt64)), .second, .unset, .unset] rfl rfl ?_
  refine o_iloadN X_272 K d21_14 15 rfl rfl ?_
  refine o_iloadN X_272 K d21_15 16 rfl rfl ?_
  refine o_bipush X_272 K (7 : Int32) d21_16 18 rfl rfl ?_
  refine o_invokestatic X_272 K d21_18 21 rfl (w_115 hw) (w_116 hw) (w_117 hw) (w_118 hw) (by decide) [(.int (3 : Int32)), (.int (7 : Int32))] [(.int (0 : Int32))] rfl  (c_minL l Z a0 hw n0 (3 : Int32) (7 : Int32) h0 Z0 (by decide)) e_272 rfl (lenOf pd__II_I rfl) (by decide) 1 (Nat.le_of_eq rfl) (by decide) (by decide) (by decide) N_272 ?_
  rintro _ T_273 h_273 locs_273 X_273 q_273 ⟨rfl, r_273⟩ N_273
  have e_273 := q_273.trans r_273
  show OGo p e below _ n0 _ (T_273.setTop (mkF m 21 #[.val (.ref y), .val (.int (0 : Int32)), .val (.int (3 : Int32)), .val (.int (3 : Int32)), .val (.long ((3 : Int32).toInt64)), .second, .unset, .unset] [(.int (3 : Int32)), (.int (0 : Int32))]))
  refine o_iadd X_273 K d21_21 22 rfl ?_
  refine o_istore X_273 K d21_22 24 rfl #[.val (.ref y), .val (.int (0 : Int32)), .val (.int (3 : Int32)), .val (.int (3 : Int32)), .val (.long ((3 : Int32).toInt64)), .second, .val (.int ((0 : Int32) + (3 : Int32))), .unset] rfl rfl ?_
  show OGo p e below _ n0 _ (T_273.setTop (mkF m 24 #[.val (.ref y), .val (.int (0 : Int32)), .val (.int (3 : Int32)), .val (.int (3 : Int32)), .val (.long ((3 : Int32).toInt64)), .second, .val (.int (3 : Int32)), .unset] []))
  refine o_iloadN X_273 K d21_24 25 rfl rfl ?_
  refine o_istore X_273 K d21_25 27 rfl #[.val (.ref y), .val (.int (0 : Int32)), .val (.int (3 : Int32)), .val (.int (3 : Int32)), .val (.long ((3 : Int32).toInt64)), .second, .val (.int (3 : Int32)), .val (.int (0 : Int32))] rfl rfl ?_
  refine o_iload X_273 K d21_27 29 rfl rfl ?_
  refine o_iload X_273 K d21_29 31 rfl rfl ?_
  refine o_icmp_ge_f X_273 K d21_31 34 rfl (by decide) ?_
  refine o_lload X_273 K d21_34 36 rfl rfl ?_
  refine o_bipush X_273 K (8 : Int32) d21_36 38 rfl rfl ?_
  refine o_lshl X_273 K d21_38 39 rfl ?_
  refine o_aloadN X_273 K d21_39 40 rfl rfl rfl ?_
  refine o_iload X_273 K d21_40 42 rfl rfl ?_
  refine o_baload X_273 K (i := 0) (v := (.int q0)) d21_42 43 rfl e_273 A_y (by decide) (by decide) (rfl) ?_
  refine o_sipush X_273 K (255 : Int32) d21_43 46 rfl rfl ?_
  refine o_iand X_273 K d21_46 47 rfl ?_
  refine o_i2l X_273 K d21_47 48 rfl ?_
  refine o_lor X_273 K d21_48 49 rfl ?_
  refine o_lstore X_273 K d21_49 51 rfl #[.val (.ref y), .val (.int (0 : Int32)), .val (.int (3 : Int32)), .val (.int (3 : Int32)), .val (.long ((((3 : Int32).toInt64) <<< ((8 : Int32) &&& 0x3f).toInt64) ||| ((q0 &&& (255 : Int32)).toInt64))), .second, .val (.int (3 : Int32)), .val (.int (0 : Int32))] rfl rfl ?_
  refine o_iinc X_273 K d21_51 54 rfl #[.val (.ref y), .val (.int (0 : Int32)), .val (.int (3 : Int32)), .val (.int (3 : Int32)), .val (.long ((((3 : Int32).toInt64) <<< ((8 : Int32) &&& 0x3f).toInt64) ||| ((q0 &&& (255 : Int32)).toInt64))), .second, .val (.int (3 : Int32)), .val (.int (1 : Int32))] rfl (by decide) rfl ?_
  refine o_goto X_273 K d21_54 27 (by decide) (by decide) ?_
  refine o_iload X_273 K d21_27 29 rfl rfl ?_
  refine o_iload X_273 K d21_29 31 rfl rfl ?_
  refine o_icmp_ge_f X_273 K d21_31 34 rfl (by decide) ?_
  refine o_lload X_273 K d21_34 36 rfl rfl ?_
  refine o_bipush X_273 K (8 : Int32) d21_36 38 rfl rfl ?_
  refine o_lshl X_273 K d21_38 39 rfl ?_
  refine o_aloadN X_273 K d21_39 40 rfl rfl rfl ?_
  refine o_iload X_273 K d21_40 42 rfl rfl ?_
  refine o_baload X_273 K (i := 1) (v := (.int q1)) d21_42 43 rfl e_273 A_y (by decide) (by decide) (rfl) ?_
  refine o_sipush X_273 K (255 : Int32) d21_43 46 rfl rfl ?_
  refine o_iand X_273 K d21_46 47 rfl ?_
  refine o_i2l X_273 K d21_47 48 rfl ?_
  refine o_lor X_273 K d21_48 49 rfl ?_
  refine o_lstore X_273 K d21_49 51 rfl #[.val (.ref y), .val (.int (0 : Int32)), .val (.int (3 : Int32)), .val (.int (3 : Int32)), .val (.long ((((((3 : Int32).toInt64) <<< ((8 : Int32) &&& 0x3f).toInt64) ||| ((q0 &&& (255 : Int32)).toInt64)) <<< ((8 : Int32) &&& 0x3f).toInt64) ||| ((q1 &&& (255 : Int32)).toInt64))), .second, .val (.int (3 : Int32)), .val (.int (1 : Int32))] rfl rfl ?_
  refine o_iinc X_273 K d21_51 54 rfl #[.val (.ref y), .val (.int (0 : Int32)), .val (.int (3 : Int32)), .val (.int (3 : Int32)), .val (.long ((((((3 : Int32).toInt64) <<< ((8 : Int32) &&& 0x3f).toInt64) ||| ((q0 &&& (255 : Int32)).toInt64)) <<< ((8 : Int32) &&& 0x3f).toInt64) ||| ((q1 &&& (255 : Int32)).toInt64))), .second, .val (.int (3 : Int32)), .val (.int (2 : Int32))] rfl (by decide) rfl ?_
  refine o_goto X_273 K d21_54 27 (by decide) (by decide) ?_
  refine o_iload X_273 K d21_27 29 rfl rfl ?_
  refine o_iload X_273 K d21_29 31 rfl rfl ?_
  refine o_icmp_ge_f X_273 K d21_31 34 rfl (by decide) ?_
  refine o_lload X_273 K d21_34 36 rfl rfl ?_
  refine o_bipush X_273 K (8 : Int32) d21_36 38 rfl rfl ?_
  refine o_lshl X_273 K d21_38 39 rfl ?_
  refine o_aloadN X_273 K d21_39 40 rfl rfl rfl ?_
  refine o_iload X_273 K d21_40 42 rfl rfl ?_
  refine o_baload X_273 K (i := 2) (v := (.int q2)) d21_42 43 rfl e_273 A_y (by decide) (by decide) (rfl) ?_
  refine o_sipush X_273 K (255 : Int32) d21_43 46 rfl rfl ?_
  refine o_iand X_273 K d21_46 47 rfl ?_
  refine o_i2l X_273 K d21_47 48 rfl ?_
  refine o_lor X_273 K d21_48 49 rfl ?_
  refine o_lstore X_273 K d21_49 51 rfl #[.val (.ref y), .val (.int (0 : Int32)), .val (.int (3 : Int32)), .val (.int (3 : Int32)), .val (.long ((((((((3 : Int32).toInt64) <<< ((8 : Int32) &&& 0x3f).toInt64) ||| ((q0 &&& (255 : Int32)).toInt64)) <<< ((8 : Int32) &&& 0x3f).toInt64) ||| ((q1 &&& (255 : Int32)).toInt64)) <<< ((8 : Int32) &&& 0x3f).toInt64) ||| ((q2 &&& (255 : Int32)).toInt64))), .second, .val (.int (3 : Int32)), .val (.int (2 : Int32))] rfl rfl ?_
  refine o_iinc X_273 K d21_51 54 rfl #[.val (.ref y), .val (.int (0 : Int32)), .val (.int (3 : Int32)), .val (.int (3 : Int32)), .val (.long ((((((((3 : Int32).toInt64) <<< ((8 : Int32) &&& 0x3f).toInt64) ||| ((q0 &&& (255 : Int32)).toInt64)) <<< ((8 : Int32) &&& 0x3f).toInt64) ||| ((q1 &&& (255 : Int32)).toInt64)) <<< ((8 : Int32) &&& 0x3f).toInt64) ||| ((q2 &&& (255 : Int32)).toInt64))), .second, .val (.int (3 : Int32)), .val (.int (3 : Int32))] rfl (by decide) rfl ?_
  refine o_goto X_273 K d21_54 27 (by decide) (by decide) ?_
  refine o_iload X_273 K d21_27 29 rfl rfl ?_
  refine o_iload X_273 K d21_29 31 rfl rfl ?_
  refine o_icmp_ge_t X_273 K d21_31 57 (by decide) (by decide) (by decide) ?_
  refine o_lload X_273 K d21_57 59 rfl rfl ?_
  refine o_bipush X_273 K (8 : Int32) d21_59 61 rfl rfl ?_
  refine o_bipush X_273 K (7 : Int32) d21_61 63 rfl rfl ?_
  refine o_iloadN X_273 K d21_63 64 rfl rfl ?_
  refine o_bipush X_273 K (7 : Int32) d21_64 66 rfl rfl ?_
  refine o_invokestatic X_273 K d21_66 69 rfl (w_115 hw) (w_116 hw) (w_117 hw) (w_118 hw) (by decide) [(.int (3 : Int32)), (.int (7 : Int32))] [(.int (7 : Int32)), (.int (8 : Int32)), (.long ((((((((3 : Int32).toInt64) <<< ((8 : Int32) &&& 0x3f).toInt64) ||| ((q0 &&& (255 : Int32)).toInt64)) <<< ((8 : Int32) &&& 0x3f).toInt64) ||| ((q1 &&& (255 : Int32)).toInt64)) <<< ((8 : Int32) &&& 0x3f).toInt64) ||| ((q2 &&& (255 : Int32)).toInt64)))] rfl  (c_minL l Z a0 hw n0 (3 : Int32) (7 : Int32) h0 Z0 (by decide)) e_273 rfl (lenOf pd__II_I rfl) (by decide) 4 (Nat.le_of_eq rfl) (by decide) (by decide) (by decide) N_273 ?_
  rintro _ T_274 h_274 locs_274 X_274 q_274 ⟨rfl, r_274⟩ N_274
  have e_274 := q_274.trans r_274
  show OGo p e below _ n0 _ (T_274.setTop (mkF m 69 #[.val (.ref y), .val (.int (0 : Int32)), .val (.int (3 : Int32)), .val (.int (3 : Int32)), .val (.long ((((((((3 : Int32).toInt64) <<< ((8 : Int32) &&& 0x3f).toInt64) ||| ((q0 &&& (255 : Int32)).toInt64)) <<< ((8 : Int32) &&& 0x3f).toInt64) ||| ((q1 &&& (255 : Int32)).toInt64)) <<< ((8 : Int32) &&& 0x3f).toInt64) ||| ((q2 &&& (255 : Int32)).toInt64))), .second, .val (.int (3 : Int32)), .val (.int (3 : Int32))] [(.int (3 : Int32)), (.int (7 : Int32)), (.int (8 : Int32)), (.long ((((((((3 : Int32).toInt64) <<< ((8 : Int32) &&& 0x3f).toInt64) ||| ((q0 &&& (255 : Int32)).toInt64)) <<< ((8 : Int32) &&& 0x3f).toInt64) ||| ((q1 &&& (255 : Int32)).toInt64)) <<< ((8 : Int32) &&& 0x3f).toInt64) ||| ((q2 &&& (255 : Int32)).toInt64)))]))
  refine o_isub X_274 K d21_69 70 rfl ?_
  refine o_imul X_274 K d21_70 71 rfl ?_
  refine o_lshl X_274 K d21_71 72 rfl ?_
  refine o_lreturn X_274 K d21_72 (by decide) (by decide) N_274 ?_
  exact ⟨rfl, e_274⟩
set_option maxHeartbeats 4000000 in
theorem c_key4 (l : Launch) (Z : State) (a0 : Array Value) (hw : OW Z a0) (n0 : Nat) (y : Addr) (q0 q1 q2 q3 : Int32) (h0 : Heap) (Z0 : n0 ≤ h0.size) (A_y : OAr Z h0 y .byte 4 (own_B [q0, q1, q2, q3])) :
    OCon l Z n0 (⟨"com/example/vikt/vikt/graph/NameTable", "key", "([BII)J"⟩ : MethodName) prog_7_method_8_code 8 (some .long) ({ frames := 1, cells := 0, slots := 0, locals := 20 } : Room) #[(.ref y), (.int (0 : Int32)), (.int (4 : Int32))] h0 (fun v h => v = some (.long (own_key [q0, q1, q2, q3] (4 : Int32))) ∧ h = h0) := by
  refine OCon.of (Ls := #[.val (.ref y), .val (.int (0 : Int32)), .val (.int (4 : Int32)), .unset, .unset, .unset, .unset, .unset]) pn_21 rfl rfl (fun m => by first | (simp [entryFrame, mkF, argsToLocals, Value.category]; done) | rfl) ?_
  intro p e s m below meth c T0 X0 K e0
  have N0 := Fr.nil n0
  refine o_iloadN X0 K d21_0 1 rfl rfl ?_
  refine o_iloadN X0 K d21_1 2 rfl rfl ?_
  refine o_isub X0 K d21_2 3 rfl ?_
  refine o_istoreN X0 K d21_3 4 rfl #[.val (.ref y), .val (.int (0 : Int32)), .val (.int (4 : Int32)), .val (.int ((4 : Int32) - (0 : Int32))), .unset, .unset, .unset, .unset] rfl rfl ?_
  show OGo p e below _ n0 _ (T0.setTop (mkF m 4 #[.val (.ref y), .val (.int (0 : Int32)), .val (.int (4 : Int32)), .val (.int (4 : Int32)), .unset, .unset, .unset, .unset] []))
  refine o_iloadN X0 K d21_4 5 rfl rfl ?_
  refine o_sipush X0 K (255 : Int32) d21_5 8 rfl rfl ?_
  refine o_invokestatic X0 K d21_8 11 rfl (w_115 hw) (w_116 hw) (w_117 hw) (w_118 hw) (by decide) [(.int (4 : Int32)), (.int (255 : Int32))] [] rfl  (c_minL l Z a0 hw n0 (4 : Int32) (255 : Int32) h0 Z0 (by decide)) e0 rfl (lenOf pd__II_I rfl) (by decide) 0 (Nat.le_of_eq rfl) (by decide) (by decide) (by decide) N0 ?_
  rintro _ T_275 h_275 locs_275 X_275 q_275 ⟨rfl, r_275⟩ N_275
  have e_275 := q_275.trans r_275
  show OGo p e below _ n0 _ (T_275.setTop (mkF m 11 #[.val (.ref y), .val (.int (0 : Int32)), .val (.int (4 : Int32)), .val (.int (4 : Int32)), .unset, .unset, .unset, .unset] [(.int (4 : Int32))]))
  refine o_i2l X_275 K d21_11 12 rfl ?_
  refine o_lstore X_275 K d21_12 14 rfl #[.val (.ref y), .val (.int (0 : Int32)), .val (.int (4 : Int32)), .val (.int (4 : Int32)), .val (.long ((4 : Int32).toInt64)), .second, .unset, .unset] rfl rfl ?_
  refine o_iloadN X_275 K d21_14 15 rfl rfl ?_
  refine o_iloadN X_275 K d21_15 16 rfl rfl ?_
  refine o_bipush X_275 K (7 : Int32) d21_16 18 rfl rfl ?_
  refine o_invokestatic X_275 K d21_18 21 rfl (w_115 hw) (w_116 hw) (w_117 hw) (w_118 hw) (by decide) [(.int (4 : Int32)), (.int (7 : Int32))] [(.int (0 : Int32))] rfl  (c_minL l Z a0 hw n0 (4 : Int32) (7 : Int32) h0 Z0 (by decide)) e_275 rfl (lenOf pd__II_I rfl) (by decide) 1 (Nat.le_of_eq rfl) (by decide) (by decide) (by decide) N_275 ?_
  rintro _ T_276 h_276 locs_276 X_276 q_276 ⟨rfl, r_276⟩ N_276
  have e_276 := q_276.trans r_276
  show OGo p e below _ n0 _ (T_276.setTop (mkF m 21 #[.val (.ref y), .val (.int (0 : Int32)), .val (.int (4 : Int32)), .val (.int (4 : Int32)), .val (.long ((4 : Int32).toInt64)), .second, .unset, .unset] [(.int (4 : Int32)), (.int (0 : Int32))]))
  refine o_iadd X_276 K d21_21 22 rfl ?_
  refine o_istore X_276 K d21_22 24 rfl #[.val (.ref y), .val (.int (0 : Int32)), .val (.int (4 : Int32)), .val (.int (4 : Int32)), .val (.long ((4 : Int32).toInt64)), .second, .val (.int ((0 : Int32) + (4 : Int32))), .unset] rfl rfl ?_
  show OGo p e below _ n0 _ (T_276.setTop (mkF m 24 #[.val (.ref y), .val (.int (0 : Int32)), .val (.int (4 : Int32)), .val (.int (4 : Int32)), .val (.long ((4 : Int32).toInt64)), .second, .val (.int (4 : Int32)), .unset] []))
  refine o_iloadN X_276 K d21_24 25 rfl rfl ?_
  refine o_istore X_276 K d21_25 27 rfl #[.val (.ref y), .val (.int (0 : Int32)), .val (.int (4 : Int32)), .val (.int (4 : Int32)), .val (.long ((4 : Int32).toInt64)), .second, .val (.int (4 : Int32)), .val (.int (0 : Int32))] rfl rfl ?_
  refine o_iload X_276 K d21_27 29 rfl rfl ?_
  refine o_iload X_276 K d21_29 31 rfl rfl ?_
  refine o_icmp_ge_f X_276 K d21_31 34 rfl (by decide) ?_
  refine o_lload X_276 K d21_34 36 rfl rfl ?_
  refine o_bipush X_276 K (8 : Int32) d21_36 38 rfl rfl ?_
  refine o_lshl X_276 K d21_38 39 rfl ?_
  refine o_aloadN X_276 K d21_39 40 rfl rfl rfl ?_
  refine o_iload X_276 K d21_40 42 rfl rfl ?_
  refine o_baload X_276 K (i := 0) (v := (.int q0)) d21_42 43 rfl e_276 A_y (by decide) (by decide) (rfl) ?_
  refine o_sipush X_276 K (255 : Int32) d21_43 46 rfl rfl ?_
  refine o_iand X_276 K d21_46 47 rfl ?_
  refine o_i2l X_276 K d21_47 48 rfl ?_
  refine o_lor X_276 K d21_48 49 rfl ?_
  refine o_lstore X_276 K d21_49 51 rfl #[.val (.ref y), .val (.int (0 : Int32)), .val (.int (4 : Int32)), .val (.int (4 : Int32)), .val (.long ((((4 : Int32).toInt64) <<< ((8 : Int32) &&& 0x3f).toInt64) ||| ((q0 &&& (255 : Int32)).toInt64))), .second, .val (.int (4 : Int32)), .val (.int (0 : Int32))] rfl rfl ?_
  refine o_iinc X_276 K d21_51 54 rfl #[.val (.ref y), .val (.int (0 : Int32)), .val (.int (4 : Int32)), .val (.int (4 : Int32)), .val (.long ((((4 : Int32).toInt64) <<< ((8 : Int32) &&& 0x3f).toInt64) ||| ((q0 &&& (255 : Int32)).toInt64))), .second, .val (.int (4 : Int32)), .val (.int (1 : Int32))] rfl (by decide) rfl ?_
  refine o_goto X_276 K d21_54 27 (by decide) (by decide) ?_
  refine o_iload X_276 K d21_27 29 rfl rfl ?_
  refine o_iload X_276 K d21_29 31 rfl rfl ?_
  refine o_icmp_ge_f X_276 K d21_31 34 rfl (by decide) ?_
  refine o_lload X_276 K d21_34 36 rfl rfl ?_
  refine o_bipush X_276 K (8 : Int32) d21_36 38 rfl rfl ?_
  refine o_lshl X_276 K d21_38 39 rfl ?_
  refine o_aloadN X_276 K d21_39 40 rfl rfl rfl ?_
  refine o_iload X_276 K d21_40 42 rfl rfl ?_
  refine o_baload X_276 K (i := 1) (v := (.int q1)) d21_42 43 rfl e_276 A_y (by decide) (by decide) (rfl) ?_
  refine o_sipush X_276 K (255 : Int32) d21_43 46 rfl rfl ?_
  refine o_iand X_276 K d21_46 47 rfl ?_
  refine o_i2l X_276 K d21_47 48 rfl ?_
  refine o_lor X_276 K d21_48 49 rfl ?_
  refine o_lstore X_276 K d21_49 51 rfl #[.val (.ref y), .val (.int (0 : Int32)), .val (.int (4 : Int32)), .val (.int (4 : Int32)), .val (.long ((((((4 : Int32).toInt64) <<< ((8 : Int32) &&& 0x3f).toInt64) ||| ((q0 &&& (255 : Int32)).toInt64)) <<< ((8 : Int32) &&& 0x3f).toInt64) ||| ((q1 &&& (255 : Int32)).toInt64))), .second, .val (.int (4 : Int32)), .val (.int (1 : Int32))] rfl rfl ?_
  refine o_iinc X_276 K d21_51 54 rfl #[.val (.ref y), .val (.int (0 : Int32)), .val (.int (4 : Int32)), .val (.int (4 : Int32)), .val (.long ((((((4 : Int32).toInt64) <<< ((8 : Int32) &&& 0x3f).toInt64) ||| ((q0 &&& (255 : Int32)).toInt64)) <<< ((8 : Int32) &&& 0x3f).toInt64) ||| ((q1 &&& (255 : Int32)).toInt64))), .second, .val (.int (4 : Int32)), .val (.int (2 : Int32))] rfl (by decide) rfl ?_
  refine o_goto X_276 K d21_54 27 (by decide) (by decide) ?_
  refine o_iload X_276 K d21_27 29 rfl rfl ?_
  refine o_iload X_276 K d21_29 31 rfl rfl ?_
  refine o_icmp_ge_f X_276 K d21_31 34 rfl (by decide) ?_
  refine o_lload X_276 K d21_34 36 rfl rfl ?_
  refine o_bipush X_276 K (8 : Int32) d21_36 38 rfl rfl ?_
  refine o_lshl X_276 K d21_38 39 rfl ?_
  refine o_aloadN X_276 K d21_39 40 rfl rfl rfl ?_
  refine o_iload X_276 K d21_40 42 rfl rfl ?_
  refine o_baload X_276 K (i := 2) (v := (.int q2)) d21_42 43 rfl e_276 A_y (by decide) (by decide) (rfl) ?_
  refine o_sipush X_276 K (255 : Int32) d21_43 46 rfl rfl ?_
  refine o_iand X_276 K d21_46 47 rfl ?_
  refine o_i2l X_276 K d21_47 48 rfl ?_
  refine o_lor X_276 K d21_48 49 rfl ?_
  refine o_lstore X_276 K d21_49 51 rfl #[.val (.ref y), .val (.int (0 : Int32)), .val (.int (4 : Int32)), .val (.int (4 : Int32)), .val (.long ((((((((4 : Int32).toInt64) <<< ((8 : Int32) &&& 0x3f).toInt64) ||| ((q0 &&& (255 : Int32)).toInt64)) <<< ((8 : Int32) &&& 0x3f).toInt64) ||| ((q1 &&& (255 : Int32)).toInt64)) <<< ((8 : Int32) &&& 0x3f).toInt64) ||| ((q2 &&& (255 : Int32)).toInt64))), .second, .val (.int (4 : Int32)), .val (.int (2 : Int32))] rfl rfl ?_
  refine o_iinc X_276 K d21_51 54 rfl #[.val (.ref y), .val (.int (0 : Int32)), .val (.int (4 : Int32)), .val (.int (4 : Int32)), .val (.long ((((((((4 : Int32).toInt64) <<< ((8 : Int32) &&& 0x3f).toInt64) ||| ((q0 &&& (255 : Int32)).toInt64)) <<< ((8 : Int32) &&& 0x3f).toInt64) ||| ((q1 &&& (255 : Int32)).toInt64)) <<< ((8 : Int32) &&& 0x3f).toInt64) ||| ((q2 &&& (255 : Int32)).toInt64))), .second, .val (.int (4 : Int32)), .val (.int (3 : Int32))] rfl (by decide) rfl ?_
  refine o_goto X_276 K d21_54 27 (by decide) (by decide) ?_
  refine o_iload X_276 K d21_27 29 rfl rfl ?_
  refine o_iload X_276 K d21_29 31 rfl rfl ?_
  refine o_icmp_ge_f X_276 K d21_31 34 rfl (by decide) ?_
  refine o_lload X_276 K d21_34 36 rfl rfl ?_
  refine o_bipush X_276 K (8 : Int32) d21_36 38 rfl rfl ?_
  refine o_lshl X_276 K d21_38 39 rfl ?_
  refine o_aloadN X_276 K d21_39 40 rfl rfl rfl ?_
  refine o_iload X_276 K d21_40 42 rfl rfl ?_
  refine o_baload X_276 K (i := 3) (v := (.int q3)) d21_42 43 rfl e_276 A_y (by decide) (by decide) (rfl) ?_
  refine o_sipush X_276 K (255 : Int32) d21_43 46 rfl rfl ?_
  refine o_iand X_276 K d21_46 47 rfl ?_
  refine o_i2l X_276 K d21_47 48 rfl ?_
  refine o_lor X_276 K d21_48 49 rfl ?_
  refine o_lstore X_276 K d21_49 51 rfl #[.val (.ref y), .val (.int (0 : Int32)), .val (.int (4 : Int32)), .val (.int (4 : Int32)), .val (.long ((((((((((4 : Int32).toInt64) <<< ((8 : Int32) &&& 0x3f).toInt64) ||| ((q0 &&& (255 : Int32)).toInt64)) <<< ((8 : Int32) &&& 0x3f).toInt64) ||| ((q1 &&& (255 : Int32)).toInt64)) <<< ((8 : Int32) &&& 0x3f).toInt64) ||| ((q2 &&& (255 : Int32)).toInt64)) <<< ((8 : Int32) &&& 0x3f).toInt64) ||| ((q3 &&& (255 : Int32)).toInt64))), .second, .val (.int (4 : Int32)), .val (.int (3 : Int32))] rfl rfl ?_
  refine o_iinc X_276 K d21_51 54 rfl #[.val (.ref y), .val (.int (0 : Int32)), .val (.int (4 : Int32)), .val (.int (4 : Int32)), .val (.long ((((((((((4 : Int32).toInt64) <<< ((8 : Int32) &&& 0x3f).toInt64) ||| ((q0 &&& (255 : Int32)).toInt64)) <<< ((8 : Int32) &&& 0x3f).toInt64) ||| ((q1 &&& (255 : Int32)).toInt64)) <<< ((8 : Int32) &&& 0x3f).toInt64) ||| ((q2 &&& (255 : Int32)).toInt64)) <<< ((8 : Int32) &&& 0x3f).toInt64) ||| ((q3 &&& (255 : Int32)).toInt64))), .second, .val (.int (4 : Int32)), .val (.int (4 : Int32))] rfl (by decide) rfl ?_
  refine o_goto X_276 K d21_54 27 (by decide) (by decide) ?_
  refine o_iload X_276 K d21_27 29 rfl rfl ?_
  refine o_iload X_276 K d21_29 31 rfl rfl ?_
  refine o_icmp_ge_t X_276 K d21_31 57 (by decide) (by decide) (by decide) ?_
  refine o_lload X_276 K d21_57 59 rfl rfl ?_
  refine o_bipush X_276 K (8 : Int32) d21_59 61 rfl rfl ?_
  refine o_bipush X_276 K (7 : Int32) d21_61 63 rfl rfl ?_
  refine o_iloadN X_276 K d21_63 64 rfl rfl ?_
  refine o_bipush X_276 K (7 : Int32) d21_64 66 rfl rfl ?_
  refine o_invokestatic X_276 K d21_66 69 rfl (w_115 hw) (w_116 hw) (w_117 hw) (w_118 hw) (by decide) [(.int (4 : Int32)), (.int (7 : Int32))] [(.int (7 : Int32)), (.int (8 : Int32)), (.long ((((((((((4 : Int32).toInt64) <<< ((8 : Int32) &&& 0x3f).toInt64) ||| ((q0 &&& (255 : Int32)).toInt64)) <<< ((8 : Int32) &&& 0x3f).toInt64) ||| ((q1 &&& (255 : Int32)).toInt64)) <<< ((8 : Int32) &&& 0x3f).toInt64) ||| ((q2 &&& (255 : Int32)).toInt64)) <<< ((8 : Int32) &&& 0x3f).toInt64) ||| ((q3 &&& (255 : Int32)).toInt64)))] rfl  (c_minL l Z a0 hw n0 (4 : Int32) (7 : Int32) h0 Z0 (by decide)) e_276 rfl (lenOf pd__II_I rfl) (by decide) 4 (Nat.le_of_eq rfl) (by decide) (by decide) (by decide) N_276 ?_
  rintro _ T_277 h_277 locs_277 X_277 q_277 ⟨rfl, r_277⟩ N_277
  have e_277 := q_277.trans r_277
  show OGo p e below _ n0 _ (T_277.setTop (mkF m 69 #[.val (.ref y), .val (.int (0 : Int32)), .val (.int (4 : Int32)), .val (.int (4 : Int32)), .val (.long ((((((((((4 : Int32).toInt64) <<< ((8 : Int32) &&& 0x3f).toInt64) ||| ((q0 &&& (255 : Int32)).toInt64)) <<< ((8 : Int32) &&& 0x3f).toInt64) ||| ((q1 &&& (255 : Int32)).toInt64)) <<< ((8 : Int32) &&& 0x3f).toInt64) ||| ((q2 &&& (255 : Int32)).toInt64)) <<< ((8 : Int32) &&& 0x3f).toInt64) ||| ((q3 &&& (255 : Int32)).toInt64))), .second, .val (.int (4 : Int32)), .val (.int (4 : Int32))] [(.int (4 : Int32)), (.int (7 : Int32)), (.int (8 : Int32)), (.long ((((((((((4 : Int32).toInt64) <<< ((8 : Int32) &&& 0x3f).toInt64) ||| ((q0 &&& (255 : Int32)).toInt64)) <<< ((8 : Int32) &&& 0x3f).toInt64) ||| ((q1 &&& (255 : Int32)).toInt64)) <<< ((8 : Int32) &&& 0x3f).toInt64) ||| ((q2 &&& (255 : Int32)).toInt64)) <<< ((8 : Int32) &&& 0x3f).toInt64) ||| ((q3 &&& (255 : Int32)).toInt64)))]))
  refine o_isub X_277 K d21_69 70 rfl ?_
  refine o_imul X_277 K d21_70 71 rfl ?_
  refine o_lshl X_277 K d21_71 72 rfl ?_
  refine o_lreturn X_277 K d21_72 (by decide) (by decide) N_277 ?_
  exact ⟨rfl, e_277⟩
theorem d11_0 : decode prog_7_method_1_code 0 = .ok (.aload_n 0, 1) := by decide +kernel
theorem d11_1 : decode prog_7_method_1_code 1 = .ok (.invokespecial 1, 3) := by decide +kernel
theorem d11_4 : decode prog_7_method_1_code 4 = .ok (.aload_n 0, 1) := by decide +kernel
theorem d11_5 : decode prog_7_method_1_code 5 = .ok (.sipush 4096, 3) := by decide +kernel
theorem d11_8 : decode prog_7_method_1_code 8 = .ok (.newarray .byte, 2) := by decide +kernel
theorem d11_10 : decode prog_7_method_1_code 10 = .ok (.putfield 7, 3) := by decide +kernel
theorem d11_13 : decode prog_7_method_1_code 13 = .ok (.aload_n 0, 1) := by decide +kernel
theorem d11_14 : decode prog_7_method_1_code 14 = .ok (.sipush 1025, 3) := by decide +kernel
theorem d11_17 : decode prog_7_method_1_code 17 = .ok (.newarray .int, 2) := by decide +kernel
theorem d11_19 : decode prog_7_method_1_code 19 = .ok (.putfield 13, 3) := by decide +kernel
theorem d11_22 : decode prog_7_method_1_code 22 = .ok (.aload_n 0, 1) := by decide +kernel
theorem d11_23 : decode prog_7_method_1_code 23 = .ok (.sipush 2048, 3) := by decide +kernel
theorem d11_26 : decode prog_7_method_1_code 26 = .ok (.newarray .long, 2) := by decide +kernel
theorem d11_28 : decode prog_7_method_1_code 28 = .ok (.putfield 17, 3) := by decide +kernel
theorem d11_31 : decode prog_7_method_1_code 31 = .ok (.aload_n 0, 1) := by decide +kernel
theorem d11_32 : decode prog_7_method_1_code 32 = .ok (.sipush 1023, 3) := by decide +kernel
theorem d11_35 : decode prog_7_method_1_code 35 = .ok (.putfield 21, 3) := by decide +kernel
theorem d11_38 : decode prog_7_method_1_code 38 = .ok (.return_, 1) := by decide +kernel
theorem pn_11 : plainFor (⟨"com/example/vikt/vikt/graph/NameTable", "<init>", "()V"⟩ : MethodName) = true := plainFor_of_name (by first | (simp [plainName, overriddenIn]; done) | decide +kernel)
set_option maxHeartbeats 4000000 in
theorem c_ninit (l : Launch) (Z : State) (a0 : Array Value) (hw : OW Z a0) (n0 : Nat) (a : Addr) (h0 : Heap) (Z0 : n0 ≤ h0.size) (E_a : Exa Z h0 a "com/example/vikt/vikt/graph/NameTable") (F_a_bytes : Fld Z h0 a "com/example/vikt/vikt/graph/NameTable" "bytes" "[B" .null) (F_a_starts : Fld Z h0 a "com/example/vikt/vikt/graph/NameTable" "starts" "[I" .null) (F_a_slots : Fld Z h0 a "com/example/vikt/vikt/graph/NameTable" "slots" "[J" .null) (F_a_mask : Fld Z h0 a "com/example/vikt/vikt/graph/NameTable" "mask" "I" (.int (0 : Int32))) (F_a_count : Fld Z h0 a "com/example/vikt/vikt/graph/NameTable" "count" "I" (.int (0 : Int32))) (F_a_used : Fld Z h0 a "com/example/vikt/vikt/graph/NameTable" "used" "I" (.int (0 : Int32))) (F_a_prefetched : Fld Z h0 a "com/example/vikt/vikt/graph/NameTable" "prefetched" "J" (.long (0 : Int64))) (g_a : n0 ≤ a) :
    OCon l Z n0 (⟨"com/example/vikt/vikt/graph/NameTable", "<init>", "()V"⟩ : MethodName) prog_7_method_1_code 1 none ({ frames := 1, cells := 3, slots := 7169, locals := 13 } : Room) #[(.ref a)] h0 (fun v h => ∃ ba sa la : Addr, v = none ∧ Keep h0 h [a] ∧ n0 ≤ ba ∧ h0.size ≤ ba ∧ n0 ≤ sa ∧ h0.size ≤ sa ∧ n0 ≤ la ∧ h0.size ≤ la ∧ Exa Z h a "com/example/vikt/vikt/graph/NameTable" ∧ Fld Z h a "com/example/vikt/vikt/graph/NameTable" "bytes" "[B" (.ref ba) ∧ Fld Z h a "com/example/vikt/vikt/graph/NameTable" "starts" "[I" (.ref sa) ∧ Fld Z h a "com/example/vikt/vikt/graph/NameTable" "slots" "[J" (.ref la) ∧ Fld Z h a "com/example/vikt/vikt/graph/NameTable" "mask" "I" (.int (1023 : Int32)) ∧ Fld Z h a "com/example/vikt/vikt/graph/NameTable" "count" "I" (.int (0 : Int32)) ∧ Fld Z h a "com/example/vikt/vikt/graph/NameTable" "used" "I" (.int (0 : Int32)) ∧ Fld Z h a "com/example/vikt/vikt/graph/NameTable" "prefetched" "J" (.long (0 : Int64)) ∧ OAr Z h ba .byte 4096 (fun _ => .int 0) ∧ OAr Z h sa .int 1025 (fun _ => .int 0) ∧ OAr Z h la .long 2048 (fun _ => .long 0) ∧ ba ≠ sa ∧ ba ≠ la ∧ sa ≠ la) := by
  refine OCon.of (Ls := #[.val (.ref a)]) pn_11 rfl rfl (fun m => by first | (simp [entryFrame, mkF, argsToLocals, Value.category]; done) | rfl) ?_
  intro p e s m below meth c T0 X0 K e0
  have N0 := Fr.nil n0
  have KK0 := Keep.refl h0 [a]
  refine o_aloadN X0 K d11_0 1 rfl rfl rfl ?_
  refine o_initO X0 K d11_1 4 rfl (w_50 hw) (w_20 hw) (w_21 hw) e0 rfl (by decide) 0 (Nat.le_of_eq rfl) (by decide) ?_
  intro T_278 X_278 e_278
  refine o_aloadN X_278 K d11_4 5 rfl rfl rfl ?_
  refine o_sipush X_278 K (4096 : Int32) d11_5 8 rfl rfl ?_
  refine o_newarrayE X_278 K (n := 4096) d11_8 10 rfl (w_14 hw) e_278 (by decide) 4096 (by decide) (by decide) (by decide) (by decide) rfl (ad := "[B") (by decide +kernel) ?_
  intro T_279 h_279 ba g_279 X_279 e_279 E_279 A_279 B_279
  dsimp only [newarray.typeOf, defaultValue] at A_279
  have Z_279 : n0 ≤ h_279.size := Nat.le_trans Z0 E_279.1
  have K_279 := KK0.ext E_279
  have f_280 := Exa.ext E_279 E_a
  have f_281 := Fld.ext E_279 F_a_bytes
  have f_282 := Fld.ext E_279 F_a_starts
  have f_283 := Fld.ext E_279 F_a_slots
  have f_284 := Fld.ext E_279 F_a_mask
  have f_285 := Fld.ext E_279 F_a_count
  have f_286 := Fld.ext E_279 F_a_used
  have f_287 := Fld.ext E_279 F_a_prefetched
  have g_ba : n0 ≤ ba := by rw [g_279]; exact Z0
  have ne_a_ba : a ≠ ba := by rw [g_279]; exact Nat.ne_of_lt E_a.lt
  have sz_ba : h0.size ≤ ba := by rw [g_279]; exact KK0.1
  refine o_putfield X_279 K (host := "") (ty := (.array .byte)) d11_10 13 rfl (Or.inl (w_51 hw)) Via.refl e_279 f_281 f_280 (Or.inl (w_52 hw)) (w_45 hw) (by decide) rfl rfl N0 g_a ?_
  intro T_288 h_288 locs_288 X_288 e_288 W_288 N_288
  have Z_288 : n0 ≤ h_288.size := by rw [Wr.size W_288]; exact Z_279
  have K_288 := K_279.wr W_288 (Or.inl (by simp))
  have f_289 := Exa.wr W_288 f_280
  have f_290 := Fld.same W_288 f_281
  have f_291 := Fld.other W_288 f_282 (Or.inr (slot_ne (Or.inl (w_55 hw)) (Or.inl (w_52 hw)) (by decide) (t := (.array .int)) (t' := (.array .byte)) (by decide) (by decide)))
  have f_292 := Fld.other W_288 f_283 (Or.inr (slot_ne (Or.inl (w_58 hw)) (Or.inl (w_52 hw)) (by decide) (t := (.array .long)) (t' := (.array .byte)) (by decide) (by decide)))
  have f_293 := Fld.other W_288 f_284 (Or.inr (slot_ne (Or.inl (w_60 hw)) (Or.inl (w_52 hw)) (by decide) (t := .int) (t' := (.array .byte)) (by decide) (by decide)))
  have f_294 := Fld.other W_288 f_285 (Or.inr (slot_ne (Or.inl (w_127 hw)) (Or.inl (w_52 hw)) (by decide) (t := .int) (t' := (.array .byte)) (by decide) (by decide)))
  have f_295 := Fld.other W_288 f_286 (Or.inr (slot_ne (Or.inl (w_125 hw)) (Or.inl (w_52 hw)) (by decide) (t := .int) (t' := (.array .byte)) (by decide) (by decide)))
  have f_296 := Fld.other W_288 f_287 (Or.inr (slot_ne (Or.inl (w_139 hw)) (Or.inl (w_52 hw)) (by decide) (t := .long) (t' := (.array .byte)) (by decide) (by decide)))
  have f_297 := A_279.other W_288 (Ne.symm ne_a_ba)
  have f_298 := Exa.wr W_288 B_279
  refine o_aloadN X_288 K d11_13 14 rfl rfl rfl ?_
  refine o_sipush X_288 K (1025 : Int32) d11_14 17 rfl rfl ?_
  refine o_newarray X_288 K (n := 1025) d11_17 19 rfl (w_53 hw) e_288 (by decide) 1025 (by decide) (by decide) (by decide) (by decide) rfl ?_
  intro T_299 h_299 sa g_299 X_299 e_299 E_299 A_299
  dsimp only [newarray.typeOf, defaultValue] at A_299
  have Z_299 : n0 ≤ h_299.size := Nat.le_trans Z_288 E_299.1
  have K_299 := K_288.ext E_299
  have f_300 := Exa.ext E_299 f_289
  have f_301 := Fld.ext E_299 f_290
  have f_302 := Fld.ext E_299 f_291
  have f_303 := Fld.ext E_299 f_292
  have f_304 := Fld.ext E_299 f_293
  have f_305 := Fld.ext E_299 f_294
  have f_306 := Fld.ext E_299 f_295
  have f_307 := Fld.ext E_299 f_296
  have f_308 := f_297.ext E_299
  have f_309 := Exa.ext E_299 f_298
  have g_sa : n0 ≤ sa := by rw [g_299]; exact Z_288
  have ne_a_sa : a ≠ sa := by rw [g_299]; exact Nat.ne_of_lt f_289.lt
  have ne_ba_sa : ba ≠ sa := by rw [g_299]; exact Nat.ne_of_lt f_297.lt
  have sz_sa : h0.size ≤ sa := by rw [g_299]; exact K_288.1
  refine o_putfield X_299 K (host := "") (ty := (.array .int)) d11_19 22 rfl (Or.inl (w_54 hw)) Via.refl e_299 f_302 f_300 (Or.inl (w_55 hw)) (w_45 hw) (by decide) rfl rfl N_288 g_a ?_
  intro T_310 h_310 locs_310 X_310 e_310 W_310 N_310
  have Z_310 : n0 ≤ h_310.size := by rw [Wr.size W_310]; exact Z_299
  have K_310 := K_299.wr W_310 (Or.inl (by simp))
  have f_311 := Exa.wr W_310 f_300
  have f_312 := Fld.other W_310 f_301 (Or.inr (slot_ne (Or.inl (w_52 hw)) (Or.inl (w_55 hw)) (by decide) (t := (.array .byte)) (t' := (.array .int)) (by decide) (by decide)))
  have f_313 := Fld.same W_310 f_302
  have f_314 := Fld.other W_310 f_303 (Or.inr (slot_ne (Or.inl (w_58 hw)) (Or.inl (w_55 hw)) (by decide) (t := (.array .long)) (t' := (.array .int)) (by decide) (by decide)))
  have f_315 := Fld.other W_310 f_304 (Or.inr (slot_ne (Or.inl (w_60 hw)) (Or.inl (w_55 hw)) (by decide) (t := .int) (t' := (.array .int)) (by decide) (by decide)))
  have f_316 := Fld.other W_310 f_305 (Or.inr (slot_ne (Or.inl (w_127 hw)) (Or.inl (w_55 hw)) (by decide) (t := .int) (t' := (.array .int)) (by decide) (by decide)))
  have f_317 := Fld.other W_310 f_306 (Or.inr (slot_ne (Or.inl (w_125 hw)) (Or.inl (w_55 hw)) (by decide) (t := .int) (t' := (.array .int)) (by decide) (by decide)))
  have f_318 := Fld.other W_310 f_307 (Or.inr (slot_ne (Or.inl (w_139 hw)) (Or.inl (w_55 hw)) (by decide) (t := .long) (t' := (.array .int)) (by decide) (by decide)))
  have f_319 := f_308.other W_310 (Ne.symm ne_a_ba)
  have f_320 := Exa.wr W_310 f_309
  have f_321 := A_299.other W_310 (Ne.symm ne_a_sa)
  refine o_aloadN X_310 K d11_22 23 rfl rfl rfl ?_
  refine o_sipush X_310 K (2048 : Int32) d11_23 26 rfl rfl ?_
  refine o_newarray X_310 K (n := 2048) d11_26 28 rfl (w_56 hw) e_310 (by decide) 2048 (by decide) (by decide) (by decide) (by decide) rfl ?_
  intro T_322 h_322 la g_322 X_322 e_322 E_322 A_322
  dsimp only [newarray.typeOf, defaultValue] at A_322
  have Z_322 : n0 ≤ h_322.size := Nat.le_trans Z_310 E_322.1
  have K_322 := K_310.ext E_322
  have f_323 := Exa.ext E_322 f_311
  have f_324 := Fld.ext E_322 f_312
  have f_325 := Fld.ext E_322 f_313
  have f_326 := Fld.ext E_322 f_314
  have f_327 := Fld.ext E_322 f_315
  have f_328 := Fld.ext E_322 f_316
  have f_329 := Fld.ext E_322 f_317
  have f_330 := Fld.ext E_322 f_318
  have f_331 := f_319.ext E_322
  have f_332 := Exa.ext E_322 f_320
  have f_333 := f_321.ext E_322
  have g_la : n0 ≤ la := by rw [g_322]; exact Z_310
  have ne_a_la : a ≠ la := by rw [g_322]; exact Nat.ne_of_lt f_311.lt
  have ne_ba_la : ba ≠ la := by rw [g_322]; exact Nat.ne_of_lt f_319.lt
  have ne_sa_la : sa ≠ la := by rw [g_322]; exact Nat.ne_of_lt f_321.lt
  have sz_la : h0.size ≤ la := by rw [g_322]; exact K_310.1
  refine o_putfield X_322 K (host := "") (ty := (.array .long)) d11_28 31 rfl (Or.inl (w_57 hw)) Via.refl e_322 f_326 f_323 (Or.inl (w_58 hw)) (w_45 hw) (by decide) rfl rfl N_310 g_a ?_
  intro T_334 h_334 locs_334 X_334 e_334 W_334 N_334
  have Z_334 : n0 ≤ h_334.size := by rw [Wr.size W_334]; exact Z_322
  have K_334 := K_322.wr W_334 (Or.inl (by simp))
  have f_335 := Exa.wr W_334 f_323
  have f_336 := Fld.other W_334 f_324 (Or.inr (slot_ne (Or.inl (w_52 hw)) (Or.inl (w_58 hw)) (by decide) (t := (.array .byte)) (t' := (.array .long)) (by decide) (by decide)))
  have f_337 := Fld.other W_334 f_325 (Or.inr (slot_ne (Or.inl (w_55 hw)) (Or.inl (w_58 hw)) (by decide) (t := (.array .int)) (t' := (.array .long)) (by decide) (by decide)))
  have f_338 := Fld.same W_334 f_326
  have f_339 := Fld.other W_334 f_327 (Or.inr (slot_ne (Or.inl (w_60 hw)) (Or.inl (w_58 hw)) (by decide) (t := .int) (t' := (.array .long)) (by decide) (by decide)))
  have f_340 := Fld.other W_334 f_328 (Or.inr (slot_ne (Or.inl (w_127 hw)) (Or.inl (w_58 hw)) (by decide) (t := .int) (t' := (.array .long)) (by decide) (by decide)))
  have f_341 := Fld.other W_334 f_329 (Or.inr (slot_ne (Or.inl (w_125 hw)) (Or.inl (w_58 hw)) (by decide) (t := .int) (t' := (.array .long)) (by decide) (by decide)))
  have f_342 := Fld.other W_334 f_330 (Or.inr (slot_ne (Or.inl (w_139 hw)) (Or.inl (w_58 hw)) (by decide) (t := .long) (t' := (.array .long)) (by decide) (by decide)))
  have f_343 := f_331.other W_334 (Ne.symm ne_a_ba)
  have f_344 := Exa.wr W_334 f_332
  have f_345 := f_333.other W_334 (Ne.symm ne_a_sa)
  have f_346 := A_322.other W_334 (Ne.symm ne_a_la)
  refine o_aloadN X_334 K d11_31 32 rfl rfl rfl ?_
  refine o_sipush X_334 K (1023 : Int32) d11_32 35 rfl rfl ?_
  refine o_putfield X_334 K (host := "") (ty := .int) d11_35 38 rfl (Or.inl (w_59 hw)) Via.refl e_334 f_339 f_335 (Or.inl (w_60 hw)) (w_45 hw) (by decide) rfl rfl N_334 g_a ?_
  intro T_347 h_347 locs_347 X_347 e_347 W_347 N_347
  have Z_347 : n0 ≤ h_347.size := by rw [Wr.size W_347]; exact Z_334
  have K_347 := K_334.wr W_347 (Or.inl (by simp))
  have f_348 := Exa.wr W_347 f_335
  have f_349 := Fld.other W_347 f_336 (Or.inr (slot_ne (Or.inl (w_52 hw)) (Or.inl (w_60 hw)) (by decide) (t := (.array .byte)) (t' := .int) (by decide) (by decide)))
  have f_350 := Fld.other W_347 f_337 (Or.inr (slot_ne (Or.inl (w_55 hw)) (Or.inl (w_60 hw)) (by decide) (t := (.array .int)) (t' := .int) (by decide) (by decide)))
  have f_351 := Fld.other W_347 f_338 (Or.inr (slot_ne (Or.inl (w_58 hw)) (Or.inl (w_60 hw)) (by decide) (t := (.array .long)) (t' := .int) (by decide) (by decide)))
  have f_352 := Fld.same W_347 f_339
  have f_353 := Fld.other W_347 f_340 (Or.inr (slot_ne (Or.inl (w_127 hw)) (Or.inl (w_60 hw)) (by decide) (t := .int) (t' := .int) (by decide) (by decide)))
  have f_354 := Fld.other W_347 f_341 (Or.inr (slot_ne (Or.inl (w_125 hw)) (Or.inl (w_60 hw)) (by decide) (t := .int) (t' := .int) (by decide) (by decide)))
  have f_355 := Fld.other W_347 f_342 (Or.inr (slot_ne (Or.inl (w_139 hw)) (Or.inl (w_60 hw)) (by decide) (t := .long) (t' := .int) (by decide) (by decide)))
  have f_356 := f_343.other W_347 (Ne.symm ne_a_ba)
  have f_357 := Exa.wr W_347 f_344
  have f_358 := f_345.other W_347 (Ne.symm ne_a_sa)
  have f_359 := f_346.other W_347 (Ne.symm ne_a_la)
  refine o_return X_347 K d11_38 (by decide) (by decide) N_347 ?_
  rw [e_347]
  exact ⟨ba, sa, la, rfl, K_347, g_ba, sz_ba, g_sa, sz_sa, g_la, sz_la, f_348, f_349, f_350, f_351, f_352, f_353, f_354, f_355, f_356, f_358, f_359, ne_ba_sa, ne_ba_la, ne_sa_la⟩
theorem d23_0 : decode prog_7_method_9_code 0 = .ok (.iload_n 3, 1) := by decide +kernel
theorem d23_1 : decode prog_7_method_9_code 1 = .ok (.iload_n 2, 1) := by decide +kernel
theorem d23_2 : decode prog_7_method_9_code 2 = .ok (.isub, 1) := by decide +kernel
theorem d23_3 : decode prog_7_method_9_code 3 = .ok (.istore 4, 2) := by decide +kernel
theorem d23_5 : decode prog_7_method_9_code 5 = .ok (.iload 4, 2) := by decide +kernel
theorem d23_7 : decode prog_7_method_9_code 7 = .ok (.ldc 93, 2) := by decide +kernel
theorem d23_9 : decode prog_7_method_9_code 9 = .ok (.aload_n 0, 1) := by decide +kernel
theorem d23_10 : decode prog_7_method_9_code 10 = .ok (.getfield 72, 3) := by decide +kernel
theorem d23_13 : decode prog_7_method_9_code 13 = .ok (.isub, 1) := by decide +kernel
theorem d23_14 : decode prog_7_method_9_code 14 = .ok (.if_icmp .le 13, 3) := by decide +kernel
theorem d23_27 : decode prog_7_method_9_code 27 = .ok (.aload_n 0, 1) := by decide +kernel
theorem d23_28 : decode prog_7_method_9_code 28 = .ok (.getfield 72, 3) := by decide +kernel
theorem d23_31 : decode prog_7_method_9_code 31 = .ok (.iload 4, 2) := by decide +kernel
theorem d23_33 : decode prog_7_method_9_code 33 = .ok (.iadd, 1) := by decide +kernel
theorem d23_34 : decode prog_7_method_9_code 34 = .ok (.aload_n 0, 1) := by decide +kernel
theorem d23_35 : decode prog_7_method_9_code 35 = .ok (.getfield 7, 3) := by decide +kernel
theorem d23_38 : decode prog_7_method_9_code 38 = .ok (.arraylength, 1) := by decide +kernel
theorem d23_39 : decode prog_7_method_9_code 39 = .ok (.if_icmp .le 29, 3) := by decide +kernel
theorem d23_68 : decode prog_7_method_9_code 68 = .ok (.aload_n 0, 1) := by decide +kernel
theorem d23_69 : decode prog_7_method_9_code 69 = .ok (.getfield 60, 3) := by decide +kernel
theorem d23_72 : decode prog_7_method_9_code 72 = .ok (.iconst 2, 1) := by decide +kernel
theorem d23_73 : decode prog_7_method_9_code 73 = .ok (.iadd, 1) := by decide +kernel
theorem d23_74 : decode prog_7_method_9_code 74 = .ok (.aload_n 0, 1) := by decide +kernel
theorem d23_75 : decode prog_7_method_9_code 75 = .ok (.getfield 13, 3) := by decide +kernel
theorem d23_78 : decode prog_7_method_9_code 78 = .ok (.arraylength, 1) := by decide +kernel
theorem d23_79 : decode prog_7_method_9_code 79 = .ok (.if_icmp .le 28, 3) := by decide +kernel
theorem d23_107 : decode prog_7_method_9_code 107 = .ok (.aload_n 1, 1) := by decide +kernel
theorem d23_108 : decode prog_7_method_9_code 108 = .ok (.iload_n 2, 1) := by decide +kernel
theorem d23_109 : decode prog_7_method_9_code 109 = .ok (.aload_n 0, 1) := by decide +kernel
theorem d23_110 : decode prog_7_method_9_code 110 = .ok (.getfield 7, 3) := by decide +kernel
theorem d23_113 : decode prog_7_method_9_code 113 = .ok (.aload_n 0, 1) := by decide +kernel
theorem d23_114 : decode prog_7_method_9_code 114 = .ok (.getfield 72, 3) := by decide +kernel
theorem d23_117 : decode prog_7_method_9_code 117 = .ok (.iload 4, 2) := by decide +kernel
theorem d23_119 : decode prog_7_method_9_code 119 = .ok (.invokestatic 104, 3) := by decide +kernel
theorem d23_122 : decode prog_7_method_9_code 122 = .ok (.aload_n 0, 1) := by decide +kernel
theorem d23_123 : decode prog_7_method_9_code 123 = .ok (.dup, 1) := by decide +kernel
theorem d23_124 : decode prog_7_method_9_code 124 = .ok (.getfield 72, 3) := by decide +kernel
theorem d23_127 : decode prog_7_method_9_code 127 = .ok (.iload 4, 2) := by decide +kernel
theorem d23_129 : decode prog_7_method_9_code 129 = .ok (.iadd, 1) := by decide +kernel
theorem d23_130 : decode prog_7_method_9_code 130 = .ok (.putfield 72, 3) := by decide +kernel
theorem d23_133 : decode prog_7_method_9_code 133 = .ok (.aload_n 0, 1) := by decide +kernel
theorem d23_134 : decode prog_7_method_9_code 134 = .ok (.dup, 1) := by decide +kernel
theorem d23_135 : decode prog_7_method_9_code 135 = .ok (.getfield 60, 3) := by decide +kernel
theorem d23_138 : decode prog_7_method_9_code 138 = .ok (.iconst 1, 1) := by decide +kernel
theorem d23_139 : decode prog_7_method_9_code 139 = .ok (.iadd, 1) := by decide +kernel
theorem d23_140 : decode prog_7_method_9_code 140 = .ok (.putfield 60, 3) := by decide +kernel
theorem d23_143 : decode prog_7_method_9_code 143 = .ok (.aload_n 0, 1) := by decide +kernel
theorem d23_144 : decode prog_7_method_9_code 144 = .ok (.getfield 13, 3) := by decide +kernel
theorem d23_147 : decode prog_7_method_9_code 147 = .ok (.aload_n 0, 1) := by decide +kernel
theorem d23_148 : decode prog_7_method_9_code 148 = .ok (.getfield 60, 3) := by decide +kernel
theorem d23_151 : decode prog_7_method_9_code 151 = .ok (.aload_n 0, 1) := by decide +kernel
theorem d23_152 : decode prog_7_method_9_code 152 = .ok (.getfield 72, 3) := by decide +kernel
theorem d23_155 : decode prog_7_method_9_code 155 = .ok (.iastore, 1) := by decide +kernel
theorem d23_156 : decode prog_7_method_9_code 156 = .ok (.aload_n 0, 1) := by decide +kernel
theorem d23_157 : decode prog_7_method_9_code 157 = .ok (.getfield 60, 3) := by decide +kernel
theorem d23_160 : decode prog_7_method_9_code 160 = .ok (.iconst 1, 1) := by decide +kernel
theorem d23_161 : decode prog_7_method_9_code 161 = .ok (.isub, 1) := by decide +kernel
theorem d23_162 : decode prog_7_method_9_code 162 = .ok (.ireturn, 1) := by decide +kernel
theorem pn_23 : plainFor (⟨"com/example/vikt/vikt/graph/NameTable", "add", "([BII)I"⟩ : MethodName) = true := plainFor_of_name (by first | (simp [plainName, overriddenIn]; done) | decide +kernel)
set_option maxHeartbeats 4000000 in
theorem c_add (l : Launch) (Z : State) (a0 : Array Value) (hw : OW Z a0) (n0 : Nat) (a y ba sa la : Addr) (g fb fs : Nat → Value) (ln u ct : Int32) (pf : Int64) (h0 : Heap) (Z0 : n0 ≤ h0.size) (E_a : Exa Z h0 a "com/example/vikt/vikt/graph/NameTable") (F_a_bytes : Fld Z h0 a "com/example/vikt/vikt/graph/NameTable" "bytes" "[B" (.ref ba)) (F_a_starts : Fld Z h0 a "com/example/vikt/vikt/graph/NameTable" "starts" "[I" (.ref sa)) (F_a_slots : Fld Z h0 a "com/example/vikt/vikt/graph/NameTable" "slots" "[J" (.ref la)) (F_a_mask : Fld Z h0 a "com/example/vikt/vikt/graph/NameTable" "mask" "I" (.int (1023 : Int32))) (F_a_count : Fld Z h0 a "com/example/vikt/vikt/graph/NameTable" "count" "I" (.int ct)) (F_a_used : Fld Z h0 a "com/example/vikt/vikt/graph/NameTable" "used" "I" (.int u)) (F_a_prefetched : Fld Z h0 a "com/example/vikt/vikt/graph/NameTable" "prefetched" "J" (.long pf)) (g_a : n0 ≤ a) (A_y : OAr Z h0 y .byte ln.toInt.toNat g) (A_ba : OAr Z h0 ba .byte 4096 fb) (g_ba : n0 ≤ ba) (A_sa : OAr Z h0 sa .int 1025 fs) (g_sa : n0 ≤ sa) (ne_a_ba : a ≠ ba) (ne_a_sa : a ≠ sa) (ne_ba_sa : ba ≠ sa) (ne_y_a : y ≠ a) (ne_y_ba : y ≠ ba) (ne_y_sa : y ≠ sa) (hl : 0 ≤ ln.toInt ∧ ln.toInt ≤ 4) (hu : 0 ≤ u.toInt ∧ u.toInt ≤ 100) (hct : 0 ≤ ct.toInt ∧ ct.toInt ≤ 100) :
    OCon l Z n0 (⟨"com/example/vikt/vikt/graph/NameTable", "add", "([BII)I"⟩ : MethodName) prog_7_method_9_code 5 (some .int) ({ frames := 1, cells := 0, slots := 0, locals := 45 } : Room) #[(.ref a), (.ref y), (.int (0 : Int32)), (.int ln)] h0 (fun v h => v = some (.int ct) ∧ Keep h0 h [a, ba, sa] ∧ Exa Z h a "com/example/vikt/vikt/graph/NameTable" ∧ Fld Z h a "com/example/vikt/vikt/graph/NameTable" "bytes" "[B" (.ref ba) ∧ Fld Z h a "com/example/vikt/vikt/graph/NameTable" "starts" "[I" (.ref sa) ∧ Fld Z h a "com/example/vikt/vikt/graph/NameTable" "slots" "[J" (.ref la) ∧ Fld Z h a "com/example/vikt/vikt/graph/NameTable" "mask" "I" (.int (1023 : Int32)) ∧ Fld Z h a "com/example/vikt/vikt/graph/NameTable" "count" "I" (.int (ct + (1 : Int32))) ∧ Fld Z h a "com/example/vikt/vikt/graph/NameTable" "used" "I" (.int (u + (ln - (0 : Int32)))) ∧ Fld Z h a "com/example/vikt/vikt/graph/NameTable" "prefetched" "J" (.long pf) ∧ OAr Z h ba .byte 4096 (own_cp u.toInt.toNat ln.toInt.toNat g fb) ∧ OAr Z h sa .int 1025 (own_st (ct + (1 : Int32)).toInt.toNat (.int (u + (ln - (0 : Int32)))) fs)) := by
  refine OCon.of (Ls := #[.val (.ref a), .val (.ref y), .val (.int (0 : Int32)), .val (.int ln), .unset]) pn_23 rfl rfl (fun m => by first | (simp [entryFrame, mkF, argsToLocals, Value.category]; done) | rfl) ?_
  intro p e s m below meth c T0 X0 K e0
  have N0 := Fr.nil n0
  have KK0 := Keep.refl h0 [a, ba, sa]
  refine o_iloadN X0 K d23_0 1 rfl rfl ?_
  refine o_iloadN X0 K d23_1 2 rfl rfl ?_
  refine o_isub X0 K d23_2 3 rfl ?_
  obtain ⟨le, h_le⟩ : ∃ z_ : Int32, z_ = (ln - (0 : Int32)) := ⟨_, rfl⟩
  refine o_istore X0 K d23_3 5 rfl #[.val (.ref a), .val (.ref y), .val (.int (0 : Int32)), .val (.int ln), .val (.int le)] h_le.symm rfl ?_
  have z0 : (0 : Int32).toInt = 0 := rfl
  have z1 : (1 : Int32).toInt = 1 := rfl
  have z2 : (2 : Int32).toInt = 2 := rfl
  have z4 : (4096 : Int32).toInt = 4096 := rfl
  have z5 : (1025 : Int32).toInt = 1025 := rfl
  have hle : le.toInt = ln.toInt := by rw [h_le]; have q1 := c_isub ln 0; have q2 := rng32 (ln - 0); omega
  have hs2 : (u + le).toInt = u.toInt + le.toInt := by have q1 := c_iadd u le; have q2 := rng32 (u + le); omega
  have hs3 : (ct + (2 : Int32)).toInt = ct.toInt + 2 := by have q1 := c_iadd ct 2; have q2 := rng32 (ct + 2); omega
  have hs4 : (ct + (1 : Int32)).toInt = ct.toInt + 1 := by have q1 := c_iadd ct 1; have q2 := rng32 (ct + 1); omega
  refine o_iload X0 K d23_5 7 rfl rfl ?_
  refine o_ldcI X0 K d23_7 9 rfl (w_123 hw) ?_
  refine o_aloadN X0 K d23_9 10 rfl rfl rfl ?_
  refine o_getfield X0 K (host := "") d23_10 13 rfl (Or.inl (w_124 hw)) Via.refl e0 F_a_used ?_
  intro T_360 X_360 e_360
  refine o_isub X_360 K d23_13 14 rfl ?_
  refine o_icmp_le_t X_360 K d23_14 27 (by decide) (by decide) (own_le9 hle hl (own_sub9 hu)) ?_
  refine o_aloadN X_360 K d23_27 28 rfl rfl rfl ?_
  refine o_getfield X_360 K (host := "") d23_28 31 rfl (Or.inl (w_124 hw)) Via.refl e_360 F_a_used ?_
  intro T_361 X_361 e_361
  refine o_iload X_361 K d23_31 33 rfl rfl ?_
  refine o_iadd X_361 K d23_33 34 rfl ?_
  refine o_aloadN X_361 K d23_34 35 rfl rfl rfl ?_
  refine o_getfield X_361 K (host := "") d23_35 38 rfl (Or.inl (w_51 hw)) Via.refl e_361 F_a_bytes ?_
  intro T_362 X_362 e_362
  refine o_arraylength X_362 K d23_38 39 rfl e_362 A_ba (v := (4096 : Int32)) (by decide) ?_
  refine o_icmp_le_t X_362 K d23_39 68 (by decide) (by decide) (by omega) ?_
  refine o_aloadN X_362 K d23_68 69 rfl rfl rfl ?_
  refine o_getfield X_362 K (host := "") d23_69 72 rfl (Or.inl (w_126 hw)) Via.refl e_362 F_a_count ?_
  intro T_363 X_363 e_363
  refine o_iconst X_363 K (2 : Int32) d23_72 73 rfl rfl ?_
  refine o_iadd X_363 K d23_73 74 rfl ?_
  refine o_aloadN X_363 K d23_74 75 rfl rfl rfl ?_
  refine o_getfield X_363 K (host := "") d23_75 78 rfl (Or.inl (w_54 hw)) Via.refl e_363 F_a_starts ?_
  intro T_364 X_364 e_364
  refine o_arraylength X_364 K d23_78 79 rfl e_364 A_sa (v := (1025 : Int32)) (by decide) ?_
  refine o_icmp_le_t X_364 K d23_79 107 (by decide) (by decide) (by omega) ?_
  refine o_aloadN X_364 K d23_107 108 rfl rfl rfl ?_
  refine o_iloadN X_364 K d23_108 109 rfl rfl ?_
  refine o_aloadN X_364 K d23_109 110 rfl rfl rfl ?_
  refine o_getfield X_364 K (host := "") d23_110 113 rfl (Or.inl (w_51 hw)) Via.refl e_364 F_a_bytes ?_
  intro T_365 X_365 e_365
  refine o_aloadN X_365 K d23_113 114 rfl rfl rfl ?_
  refine o_getfield X_365 K (host := "") d23_114 117 rfl (Or.inl (w_124 hw)) Via.refl e_365 F_a_used ?_
  intro T_366 X_366 e_366
  refine o_iload X_366 K d23_117 119 rfl rfl ?_
  refine o_arraycopy X_366 K (i := 0) (j := u.toInt.toNat) (k := ln.toInt.toNat) d23_119 122 rfl (w_128 hw) (w_131 hw) (w_129 hw) (w_130 hw) e_366 A_y A_ba rfl (rfl) (by omega) (by omega) (by omega) (by omega) N0 g_ba rfl (by decide) 0 (Nat.le_of_eq rfl) (by decide) ?_
  intro T_367 h_367 locs_367 X_367 e_367 k_367 A_367 N_367
  have Z_367 : n0 ≤ h_367.size := Nat.le_trans Z0 k_367.1
  have K_367 := KK0.trans k_367 (allS (Or.inl (by simp)) (all0))
  have f_368 := Exa.keep E_a k_367
  have f_369 := Fld.keep F_a_bytes k_367 (ninS ne_a_ba (nin0))
  have f_370 := Fld.keep F_a_starts k_367 (ninS ne_a_ba (nin0))
  have f_371 := Fld.keep F_a_slots k_367 (ninS ne_a_ba (nin0))
  have f_372 := Fld.keep F_a_mask k_367 (ninS ne_a_ba (nin0))
  have f_373 := Fld.keep F_a_count k_367 (ninS ne_a_ba (nin0))
  have f_374 := Fld.keep F_a_used k_367 (ninS ne_a_ba (nin0))
  have f_375 := Fld.keep F_a_prefetched k_367 (ninS ne_a_ba (nin0))
  have f_376 := A_y.keep k_367 (ninS ne_y_ba (nin0))
  have f_377 := A_sa.keep k_367 (ninS (Ne.symm ne_ba_sa) (nin0))
  refine o_aloadN X_367 K d23_122 123 rfl rfl rfl ?_
  refine o_dup X_367 K d23_123 124 rfl rfl ?_
  refine o_getfield X_367 K (host := "") d23_124 127 rfl (Or.inl (w_124 hw)) Via.refl e_367 f_374 ?_
  intro T_378 X_378 e_378
  refine o_iload X_378 K d23_127 129 rfl rfl ?_
  refine o_iadd X_378 K d23_129 130 rfl ?_
  refine o_putfield X_378 K (host := "") (ty := .int) d23_130 133 rfl (Or.inl (w_124 hw)) Via.refl e_378 f_374 f_368 (Or.inl (w_125 hw)) (w_45 hw) (by decide) rfl rfl N_367 g_a ?_
  intro T_379 h_379 locs_379 X_379 e_379 W_379 N_379
  have Z_379 : n0 ≤ h_379.size := by rw [Wr.size W_379]; exact Z_367
  have K_379 := K_367.wr W_379 (Or.inl (by simp))
  have f_380 := Exa.wr W_379 f_368
  have f_381 := Fld.other W_379 f_369 (Or.inr (slot_ne (Or.inl (w_52 hw)) (Or.inl (w_125 hw)) (by decide) (t := (.array .byte)) (t' := .int) (by decide) (by decide)))
  have f_382 := Fld.other W_379 f_370 (Or.inr (slot_ne (Or.inl (w_55 hw)) (Or.inl (w_125 hw)) (by decide) (t := (.array .int)) (t' := .int) (by decide) (by decide)))
  have f_383 := Fld.other W_379 f_371 (Or.inr (slot_ne (Or.inl (w_58 hw)) (Or.inl (w_125 hw)) (by decide) (t := (.array .long)) (t' := .int) (by decide) (by decide)))
  have f_384 := Fld.other W_379 f_372 (Or.inr (slot_ne (Or.inl (w_60 hw)) (Or.inl (w_125 hw)) (by decide) (t := .int) (t' := .int) (by decide) (by decide)))
  have f_385 := Fld.other W_379 f_373 (Or.inr (slot_ne (Or.inl (w_127 hw)) (Or.inl (w_125 hw)) (by decide) (t := .int) (t' := .int) (by decide) (by decide)))
  have f_386 := Fld.same W_379 f_374
  have f_387 := Fld.other W_379 f_375 (Or.inr (slot_ne (Or.inl (w_139 hw)) (Or.inl (w_125 hw)) (by decide) (t := .long) (t' := .int) (by decide) (by decide)))
  have f_388 := f_376.other W_379 ne_y_a
  have f_389 := f_377.other W_379 (Ne.symm ne_a_sa)
  have f_390 := A_367.other W_379 (Ne.symm ne_a_ba)
  refine o_aloadN X_379 K d23_133 134 rfl rfl rfl ?_
  refine o_dup X_379 K d23_134 135 rfl rfl ?_
  refine o_getfield X_379 K (host := "") d23_135 138 rfl (Or.inl (w_126 hw)) Via.refl e_379 f_385 ?_
  intro T_391 X_391 e_391
  refine o_iconst X_391 K (1 : Int32) d23_138 139 rfl rfl ?_
  refine o_iadd X_391 K d23_139 140 rfl ?_
  refine o_putfield X_391 K (host := "") (ty := .int) d23_140 143 rfl (Or.inl (w_126 hw)) Via.refl e_391 f_385 f_380 (Or.inl (w_127 hw)) (w_45 hw) (by decide) rfl rfl N_379 g_a ?_
  intro T_392 h_392 locs_392 X_392 e_392 W_392 N_392
  have Z_392 : n0 ≤ h_392.size := by rw [Wr.size W_392]; exact Z_379
  have K_392 := K_379.wr W_392 (Or.inl (by simp))
  have f_393 := Exa.wr W_392 f_380
  have f_394 := Fld.other W_392 f_381 (Or.inr (slot_ne (Or.inl (w_52 hw)) (Or.inl (w_127 hw)) (by decide) (t := (.array .byte)) (t' := .int) (by decide) (by decide)))
  have f_395 := Fld.other W_392 f_382 (Or.inr (slot_ne (Or.inl (w_55 hw)) (Or.inl (w_127 hw)) (by decide) (t := (.array .int)) (t' := .int) (by decide) (by decide)))
  have f_396 := Fld.other W_392 f_383 (Or.inr (slot_ne (Or.inl (w_58 hw)) (Or.inl (w_127 hw)) (by decide) (t := (.array .long)) (t' := .int) (by decide) (by decide)))
  have f_397 := Fld.other W_392 f_384 (Or.inr (slot_ne (Or.inl (w_60 hw)) (Or.inl (w_127 hw)) (by decide) (t := .int) (t' := .int) (by decide) (by decide)))
  have f_398 := Fld.same W_392 f_385
  have f_399 := Fld.other W_392 f_386 (Or.inr (slot_ne (Or.inl (w_125 hw)) (Or.inl (w_127 hw)) (by decide) (t := .int) (t' := .int) (by decide) (by decide)))
  have f_400 := Fld.other W_392 f_387 (Or.inr (slot_ne (Or.inl (w_139 hw)) (Or.inl (w_127 hw)) (by decide) (t := .long) (t' := .int) (by decide) (by decide)))
  have f_401 := f_388.other W_392 ne_y_a
  have f_402 := f_389.other W_392 (Ne.symm ne_a_sa)
  have f_403 := f_390.other W_392 (Ne.symm ne_a_ba)
  refine o_aloadN X_392 K d23_143 144 rfl rfl rfl ?_
  refine o_getfield X_392 K (host := "") d23_144 147 rfl (Or.inl (w_54 hw)) Via.refl e_392 f_395 ?_
  intro T_404 X_404 e_404
  refine o_aloadN X_404 K d23_147 148 rfl rfl rfl ?_
  refine o_getfield X_404 K (host := "") d23_148 151 rfl (Or.inl (w_126 hw)) Via.refl e_404 f_398 ?_
  intro T_405 X_405 e_405
  refine o_aloadN X_405 K d23_151 152 rfl rfl rfl ?_
  refine o_getfield X_405 K (host := "") d23_152 155 rfl (Or.inl (w_124 hw)) Via.refl e_405 f_399 ?_
  intro T_406 X_406 e_406
  refine o_iastore X_406 K (i := (ct + (1 : Int32)).toInt.toNat) (x' := (u + le)) d23_155 156 rfl e_406 f_402 (by omega) (by omega) (rfl) N_392 g_sa ?_
  intro T_407 h_407 locs_407 X_407 e_407 W_407 A_407 N_407
  have Z_407 : n0 ≤ h_407.size := by rw [Wr.size W_407]; exact Z_392
  have K_407 := K_392.wr W_407 (Or.inl (by simp))
  have f_408 := Exa.wr W_407 f_393
  have f_409 := Fld.other W_407 f_394 (Or.inl ne_a_sa)
  have f_410 := Fld.other W_407 f_395 (Or.inl ne_a_sa)
  have f_411 := Fld.other W_407 f_396 (Or.inl ne_a_sa)
  have f_412 := Fld.other W_407 f_397 (Or.inl ne_a_sa)
  have f_413 := Fld.other W_407 f_398 (Or.inl ne_a_sa)
  have f_414 := Fld.other W_407 f_399 (Or.inl ne_a_sa)
  have f_415 := Fld.other W_407 f_400 (Or.inl ne_a_sa)
  have f_416 := f_401.other W_407 ne_y_sa
  have f_417 := f_403.other W_407 ne_ba_sa
  refine o_aloadN X_407 K d23_156 157 rfl rfl rfl ?_
  refine o_getfield X_407 K (host := "") d23_157 160 rfl (Or.inl (w_126 hw)) Via.refl e_407 f_413 ?_
  intro T_418 X_418 e_418
  refine o_iconst X_418 K (1 : Int32) d23_160 161 rfl rfl ?_
  refine o_isub X_418 K d23_161 162 rfl ?_
  refine o_ireturn X_418 K d23_162 (by decide) (by decide) N_407 ?_
  subst h_le
  rw [e_418]
  exact ⟨by rw [Int32.add_sub_cancel], K_407, f_408, f_409, f_410, f_411, f_412, f_413, f_414, f_415, f_417, A_407⟩
theorem d20_0 : decode prog_7_method_4_code 0 = .ok (.aload_n 1, 1) := by decide +kernel
theorem d20_1 : decode prog_7_method_4_code 1 = .ok (.iload_n 2, 1) := by decide +kernel
theorem d20_2 : decode prog_7_method_4_code 2 = .ok (.iload_n 3, 1) := by decide +kernel
theorem d20_3 : decode prog_7_method_4_code 3 = .ok (.invokestatic 47, 3) := by decide +kernel
theorem pd___BII_J : parseMethodDescriptor "([BII)J" = some ⟨[(.array .byte), .int, .int], some .long⟩ := by decide +kernel
theorem d20_6 : decode prog_7_method_4_code 6 = .ok (.lstore 5, 2) := by decide +kernel
theorem d20_8 : decode prog_7_method_4_code 8 = .ok (.iload 4, 2) := by decide +kernel
theorem d20_10 : decode prog_7_method_4_code 10 = .ok (.aload_n 0, 1) := by decide +kernel
theorem d20_11 : decode prog_7_method_4_code 11 = .ok (.getfield 21, 3) := by decide +kernel
theorem d20_14 : decode prog_7_method_4_code 14 = .ok (.iand, 1) := by decide +kernel
theorem d20_15 : decode prog_7_method_4_code 15 = .ok (.istore 7, 2) := by decide +kernel
theorem d20_17 : decode prog_7_method_4_code 17 = .ok (.aload_n 0, 1) := by decide +kernel
theorem d20_18 : decode prog_7_method_4_code 18 = .ok (.getfield 17, 3) := by decide +kernel
theorem d20_21 : decode prog_7_method_4_code 21 = .ok (.iconst 2, 1) := by decide +kernel
theorem d20_22 : decode prog_7_method_4_code 22 = .ok (.iload 7, 2) := by decide +kernel
theorem d20_24 : decode prog_7_method_4_code 24 = .ok (.imul, 1) := by decide +kernel
theorem d20_25 : decode prog_7_method_4_code 25 = .ok (.iconst 1, 1) := by decide +kernel
theorem d20_26 : decode prog_7_method_4_code 26 = .ok (.iadd, 1) := by decide +kernel
theorem d20_27 : decode prog_7_method_4_code 27 = .ok (.laload, 1) := by decide +kernel
theorem d20_28 : decode prog_7_method_4_code 28 = .ok (.lstore 8, 2) := by decide +kernel
theorem d20_30 : decode prog_7_method_4_code 30 = .ok (.lload 8, 2) := by decide +kernel
theorem d20_32 : decode prog_7_method_4_code 32 = .ok (.lconst 0, 1) := by decide +kernel
theorem d20_33 : decode prog_7_method_4_code 33 = .ok (.lcmp, 1) := by decide +kernel
theorem d20_34 : decode prog_7_method_4_code 34 = .ok (.ifCond .eq 103, 3) := by decide +kernel
theorem d20_137 : decode prog_7_method_4_code 137 = .ok (.aload_n 0, 1) := by decide +kernel
theorem d20_138 : decode prog_7_method_4_code 138 = .ok (.aload_n 1, 1) := by decide +kernel
theorem d20_139 : decode prog_7_method_4_code 139 = .ok (.iload_n 2, 1) := by decide +kernel
theorem d20_140 : decode prog_7_method_4_code 140 = .ok (.iload_n 3, 1) := by decide +kernel
theorem d20_141 : decode prog_7_method_4_code 141 = .ok (.invokevirtual 57, 3) := by decide +kernel
theorem d20_144 : decode prog_7_method_4_code 144 = .ok (.istore 10, 2) := by decide +kernel
theorem d20_146 : decode prog_7_method_4_code 146 = .ok (.aload_n 0, 1) := by decide +kernel
theorem d20_147 : decode prog_7_method_4_code 147 = .ok (.getfield 17, 3) := by decide +kernel
theorem d20_150 : decode prog_7_method_4_code 150 = .ok (.iconst 2, 1) := by decide +kernel
theorem d20_151 : decode prog_7_method_4_code 151 = .ok (.iload 7, 2) := by decide +kernel
theorem d20_153 : decode prog_7_method_4_code 153 = .ok (.imul, 1) := by decide +kernel
theorem d20_154 : decode prog_7_method_4_code 154 = .ok (.lload 5, 2) := by decide +kernel
theorem d20_156 : decode prog_7_method_4_code 156 = .ok (.lastore, 1) := by decide +kernel
theorem d20_157 : decode prog_7_method_4_code 157 = .ok (.aload_n 0, 1) := by decide +kernel
theorem d20_158 : decode prog_7_method_4_code 158 = .ok (.getfield 17, 3) := by decide +kernel
theorem d20_161 : decode prog_7_method_4_code 161 = .ok (.iconst 2, 1) := by decide +kernel
theorem d20_162 : decode prog_7_method_4_code 162 = .ok (.iload 7, 2) := by decide +kernel
theorem d20_164 : decode prog_7_method_4_code 164 = .ok (.imul, 1) := by decide +kernel
theorem d20_165 : decode prog_7_method_4_code 165 = .ok (.iconst 1, 1) := by decide +kernel
theorem d20_166 : decode prog_7_method_4_code 166 = .ok (.iadd, 1) := by decide +kernel
theorem d20_167 : decode prog_7_method_4_code 167 = .ok (.iload 4, 2) := by decide +kernel
theorem d20_169 : decode prog_7_method_4_code 169 = .ok (.i2l, 1) := by decide +kernel
theorem d20_170 : decode prog_7_method_4_code 170 = .ok (.bipush 32, 2) := by decide +kernel
theorem d20_172 : decode prog_7_method_4_code 172 = .ok (.lshl, 1) := by decide +kernel
theorem d20_173 : decode prog_7_method_4_code 173 = .ok (.iload 10, 2) := by decide +kernel
theorem d20_175 : decode prog_7_method_4_code 175 = .ok (.iconst 1, 1) := by decide +kernel
theorem d20_176 : decode prog_7_method_4_code 176 = .ok (.iadd, 1) := by decide +kernel
theorem d20_177 : decode prog_7_method_4_code 177 = .ok (.i2l, 1) := by decide +kernel
theorem d20_178 : decode prog_7_method_4_code 178 = .ok (.lor, 1) := by decide +kernel
theorem d20_179 : decode prog_7_method_4_code 179 = .ok (.lastore, 1) := by decide +kernel
theorem d20_180 : decode prog_7_method_4_code 180 = .ok (.aload_n 0, 1) := by decide +kernel
theorem d20_181 : decode prog_7_method_4_code 181 = .ok (.getfield 60, 3) := by decide +kernel
theorem d20_184 : decode prog_7_method_4_code 184 = .ok (.aload_n 0, 1) := by decide +kernel
theorem d20_185 : decode prog_7_method_4_code 185 = .ok (.getfield 21, 3) := by decide +kernel
theorem d20_188 : decode prog_7_method_4_code 188 = .ok (.iconst 1, 1) := by decide +kernel
theorem d20_189 : decode prog_7_method_4_code 189 = .ok (.iadd, 1) := by decide +kernel
theorem d20_190 : decode prog_7_method_4_code 190 = .ok (.iconst 4, 1) := by decide +kernel
theorem d20_191 : decode prog_7_method_4_code 191 = .ok (.idiv, 1) := by decide +kernel
theorem d20_192 : decode prog_7_method_4_code 192 = .ok (.iconst 3, 1) := by decide +kernel
theorem d20_193 : decode prog_7_method_4_code 193 = .ok (.imul, 1) := by decide +kernel
theorem d20_194 : decode prog_7_method_4_code 194 = .ok (.if_icmp .le 7, 3) := by decide +kernel
theorem d20_201 : decode prog_7_method_4_code 201 = .ok (.iload 10, 2) := by decide +kernel
theorem d20_203 : decode prog_7_method_4_code 203 = .ok (.ireturn, 1) := by decide +kernel
theorem pn_20 : plainFor (⟨"com/example/vikt/vikt/graph/NameTable", "number", "([BIII)I"⟩ : MethodName) = true := plainFor_of_name (by first | (simp [plainName, overriddenIn]; done) | decide +kernel)
set_option maxHeartbeats 4000000 in
theorem c_n4I (l : Launch) (Z : State) (a0 : Array Value) (hw : OW Z a0) (n0 : Nat) (a y ba sa la : Addr) (g fb fs : Nat → Value) (s0 : Nat → Int64) (ln u ct hh : Int32) (pf ky : Int64) (h0 : Heap) (Z0 : n0 ≤ h0.size) (E_a : Exa Z h0 a "com/example/vikt/vikt/graph/NameTable") (F_a_bytes : Fld Z h0 a "com/example/vikt/vikt/graph/NameTable" "bytes" "[B" (.ref ba)) (F_a_starts : Fld Z h0 a "com/example/vikt/vikt/graph/NameTable" "starts" "[I" (.ref sa)) (F_a_slots : Fld Z h0 a "com/example/vikt/vikt/graph/NameTable" "slots" "[J" (.ref la)) (F_a_mask : Fld Z h0 a "com/example/vikt/vikt/graph/NameTable" "mask" "I" (.int (1023 : Int32))) (F_a_count : Fld Z h0 a "com/example/vikt/vikt/graph/NameTable" "count" "I" (.int ct)) (F_a_used : Fld Z h0 a "com/example/vikt/vikt/graph/NameTable" "used" "I" (.int u)) (F_a_prefetched : Fld Z h0 a "com/example/vikt/vikt/graph/NameTable" "prefetched" "J" (.long pf)) (g_a : n0 ≤ a) (A_y : OAr Z h0 y .byte ln.toInt.toNat g) (A_ba : OAr Z h0 ba .byte 4096 fb) (g_ba : n0 ≤ ba) (A_sa : OAr Z h0 sa .int 1025 fs) (g_sa : n0 ≤ sa) (ne_a_ba : a ≠ ba) (ne_a_sa : a ≠ sa) (ne_ba_sa : ba ≠ sa) (ne_y_a : y ≠ a) (ne_y_ba : y ≠ ba) (ne_y_sa : y ≠ sa) (hl : 0 ≤ ln.toInt ∧ ln.toInt ≤ 4) (hu : 0 ≤ u.toInt ∧ u.toInt ≤ 100) (hct : 0 ≤ ct.toInt ∧ ct.toInt ≤ 100) (A_la : OAr Z h0 la .long 2048 (fun q => .long (s0 q))) (g_la : n0 ≤ la) (ne_la_a : la ≠ a) (ne_la_ba : la ≠ ba) (ne_la_sa : la ≠ sa) (ne_la_y : la ≠ y) (ck : OCon l Z n0 (⟨"com/example/vikt/vikt/graph/NameTable", "key", "([BII)J"⟩ : MethodName) prog_7_method_8_code 8 (some .long) ({ frames := 1, cells := 0, slots := 0, locals := 20 } : Room) #[(.ref y), (.int (0 : Int32)), (.int ln)] h0 (fun v h => v = some (.long ky) ∧ h = h0)) (hI : s0 (2 * (hh &&& (1023 : Int32)).toInt.toNat + 1) = 0) :
    OCon l Z n0 (⟨"com/example/vikt/vikt/graph/NameTable", "number", "([BIII)I"⟩ : MethodName) prog_7_method_4_code 11 (some .int) ({ frames := 2, cells := 0, slots := 0, locals := 75 } : Room) #[(.ref a), (.ref y), (.int (0 : Int32)), (.int ln), (.int hh)] h0 (fun v h => v = some (.int ct) ∧ Keep h0 h [a, ba, sa, la] ∧ Exa Z h a "com/example/vikt/vikt/graph/NameTable" ∧ Fld Z h a "com/example/vikt/vikt/graph/NameTable" "bytes" "[B" (.ref ba) ∧ Fld Z h a "com/example/vikt/vikt/graph/NameTable" "starts" "[I" (.ref sa) ∧ Fld Z h a "com/example/vikt/vikt/graph/NameTable" "slots" "[J" (.ref la) ∧ Fld Z h a "com/example/vikt/vikt/graph/NameTable" "mask" "I" (.int (1023 : Int32)) ∧ Fld Z h a "com/example/vikt/vikt/graph/NameTable" "count" "I" (.int (ct + (1 : Int32))) ∧ Fld Z h a "com/example/vikt/vikt/graph/NameTable" "used" "I" (.int (u + (ln - (0 : Int32)))) ∧ Fld Z h a "com/example/vikt/vikt/graph/NameTable" "prefetched" "J" (.long pf) ∧ OAr Z h ba .byte 4096 (own_cp u.toInt.toNat ln.toInt.toNat g fb) ∧ OAr Z h sa .int 1025 (own_st (ct + (1 : Int32)).toInt.toNat (.int (u + (ln - (0 : Int32)))) fs) ∧ OAr Z h la .long 2048 (fun q => .long ((own_put (2 * (hh &&& (1023 : Int32)).toInt.toNat) (2 * (hh &&& (1023 : Int32)).toInt.toNat + 1) ((hh.toInt64 <<< ((32 : Int32) &&& 0x3f).toInt64) ||| ((ct + (1 : Int32)).toInt64)) ky s0) q))) := by
  refine OCon.of (Ls := #[.val (.ref a), .val (.ref y), .val (.int (0 : Int32)), .val (.int ln), .val (.int hh), .unset, .unset, .unset, .unset, .unset, .unset]) pn_20 rfl rfl (fun m => by first | (simp [entryFrame, mkF, argsToLocals, Value.category]; done) | rfl) ?_
  intro p e s m below meth c T0 X0 K e0
  have N0 := Fr.nil n0
  have KK0 := Keep.refl h0 [a, ba, sa, la]
  refine o_aloadN X0 K d20_0 1 rfl rfl rfl ?_
  refine o_iloadN X0 K d20_1 2 rfl rfl ?_
  refine o_iloadN X0 K d20_2 3 rfl rfl ?_
  refine o_invokestatic X0 K d20_3 6 rfl (w_112 hw) (w_113 hw) (w_46 hw) (w_114 hw) (by decide) [(.ref y), (.int (0 : Int32)), (.int ln)] [] rfl  (ck) e0 rfl (lenOf pd___BII_J rfl) (by decide) 0 (Nat.le_of_eq rfl) (by decide) (by decide) (by decide) N0 ?_
  rintro _ T_419 h_419 locs_419 X_419 q_419 ⟨rfl, r_419⟩ N_419
  have e_419 := q_419.trans r_419
  show OGo p e below _ n0 _ (T_419.setTop (mkF m 6 #[.val (.ref a), .val (.ref y), .val (.int (0 : Int32)), .val (.int ln), .val (.int hh), .unset, .unset, .unset, .unset, .unset, .unset] [(.long ky)]))
  refine o_lstore X_419 K d20_6 8 rfl #[.val (.ref a), .val (.ref y), .val (.int (0 : Int32)), .val (.int ln), .val (.int hh), .val (.long ky), .second, .unset, .unset, .unset, .unset] rfl rfl ?_
  refine o_iload X_419 K d20_8 10 rfl rfl ?_
  refine o_aloadN X_419 K d20_10 11 rfl rfl rfl ?_
  refine o_getfield X_419 K (host := "") d20_11 14 rfl (Or.inl (w_59 hw)) Via.refl e_419 F_a_mask ?_
  intro T_420 X_420 e_420
  refine o_iand X_420 K d20_14 15 rfl ?_
  obtain ⟨i0, h_i0⟩ : ∃ z_ : Int32, z_ = (hh &&& (1023 : Int32)) := ⟨_, rfl⟩
  refine o_istore X_420 K d20_15 17 rfl #[.val (.ref a), .val (.ref y), .val (.int (0 : Int32)), .val (.int ln), .val (.int hh), .val (.long ky), .second, .val (.int i0), .unset, .unset, .unset] h_i0.symm rfl ?_
  have hi0 : 0 ≤ i0.toInt ∧ i0.toInt ≤ 1023 := by rw [h_i0]; exact own_and hh
  obtain ⟨ha0, hb0, hc0⟩ := own_2i hi0
  have hJ : s0 (2 * i0.toInt.toNat + 1) = 0 := by rw [h_i0]; exact hI
  refine o_aloadN X_420 K d20_17 18 rfl rfl rfl ?_
  refine o_getfield X_420 K (host := "") d20_18 21 rfl (Or.inl (w_57 hw)) Via.refl e_420 F_a_slots ?_
  intro T_421 X_421 e_421
  refine o_iconst X_421 K (2 : Int32) d20_21 22 rfl rfl ?_
  refine o_iload X_421 K d20_22 24 rfl rfl ?_
  refine o_imul X_421 K d20_24 25 rfl ?_
  refine o_iconst X_421 K (1 : Int32) d20_25 26 rfl rfl ?_
  refine o_iadd X_421 K d20_26 27 rfl ?_
  refine o_laload X_421 K (i := (2 * i0.toInt.toNat + 1)) (v := (.long (0 : Int64))) d20_27 28 rfl e_421 A_la (hb0) (hc0) (congrArg Value.long hJ) ?_
  refine o_lstore X_421 K d20_28 30 rfl #[.val (.ref a), .val (.ref y), .val (.int (0 : Int32)), .val (.int ln), .val (.int hh), .val (.long ky), .second, .val (.int i0), .val (.long (0 : Int64)), .second, .unset] rfl rfl ?_
  refine o_lload X_421 K d20_30 32 rfl rfl ?_
  refine o_lconst X_421 K (0 : Int64) d20_32 33 rfl rfl ?_
  refine o_lcmp X_421 K d20_33 34 rfl ?_
  refine o_if_eq_t X_421 K d20_34 137 (by decide) (by decide) (o_lw_eq.mpr rfl) ?_
  refine o_aloadN X_421 K d20_137 138 rfl rfl rfl ?_
  refine o_aloadN X_421 K d20_138 139 rfl rfl rfl ?_
  refine o_iloadN X_421 K d20_139 140 rfl rfl ?_
  refine o_iloadN X_421 K d20_140 141 rfl rfl ?_
  refine o_invokeprivate X_421 K d20_141 144 rfl (w_119 hw) (w_120 hw) (w_121 hw) (w_46 hw) (w_122 hw) (by decide) ⟨7, (w_45 hw)⟩ E_a [(.ref y), (.int (0 : Int32)), (.int ln)] [] rfl  (c_add l Z a0 hw n0 a y ba sa la _ _ _ ln u ct pf h0 Z0 E_a F_a_bytes F_a_starts F_a_slots F_a_mask F_a_count F_a_used F_a_prefetched g_a A_y A_ba g_ba A_sa g_sa ne_a_ba ne_a_sa ne_ba_sa ne_y_a ne_y_ba ne_y_sa (hl) (hu) (hct)) e_421 rfl (lenOf pd___BII_I rfl) (by decide) 0 (Nat.le_of_eq rfl) (by decide) (by decide) (by decide) N_419 ?_
  rintro _ T_422 h_422 locs_422 X_422 e_422 ⟨rfl, k_422, p_422f0, p_422f1, p_422f2, p_422f3, p_422f4, p_422f5, p_422f6, p_422f7, p_422f8, p_422f9⟩ N_422
  have Z_422 : n0 ≤ h_422.size := Nat.le_trans Z0 k_422.1
  have K_422 := KK0.trans k_422 (allS (Or.inl (by simp)) (allS (Or.inl (by simp)) (allS (Or.inl (by simp)) (all0))))
  have f_423 := Exa.keep E_a k_422
  have f_424 := A_y.keep k_422 (ninS ne_y_a (ninS ne_y_ba (ninS ne_y_sa (nin0))))
  have f_425 := A_la.keep k_422 (ninS ne_la_a (ninS ne_la_ba (ninS ne_la_sa (nin0))))
  show OGo p e below _ n0 _ (T_422.setTop (mkF m 144 #[.val (.ref a), .val (.ref y), .val (.int (0 : Int32)), .val (.int ln), .val (.int hh), .val (.long ky), .second, .val (.int i0), .val (.long (0 : Int64)), .second, .unset] [(.int ct)]))
  refine o_istore X_422 K d20_144 146 rfl #[.val (.ref a), .val (.ref y), .val (.int (0 : Int32)), .val (.int ln), .val (.int hh), .val (.long ky), .second, .val (.int i0), .val (.long (0 : Int64)), .second, .val (.int ct)] rfl rfl ?_
  refine o_aloadN X_422 K d20_146 147 rfl rfl rfl ?_
  refine o_getfield X_422 K (host := "") d20_147 150 rfl (Or.inl (w_57 hw)) Via.refl e_422 p_422f3 ?_
  intro T_426 X_426 e_426
  refine o_iconst X_426 K (2 : Int32) d20_150 151 rfl rfl ?_
  refine o_iload X_426 K d20_151 153 rfl rfl ?_
  refine o_imul X_426 K d20_153 154 rfl ?_
  refine o_lload X_426 K d20_154 156 rfl rfl ?_
  refine o_lastore X_426 K (i := (2 * i0.toInt.toNat)) (x' := ky) d20_156 157 rfl e_426 f_425 (ha0) (by omega) (rfl) N_422 g_la ?_
  intro T_427 h_427 locs_427 X_427 e_427 W_427 A_427 N_427
  have Z_427 : n0 ≤ h_427.size := by rw [Wr.size W_427]; exact Z_422
  have K_427 := K_422.wr W_427 (Or.inl (by simp))
  have f_428 := Exa.wr W_427 p_422f0
  have f_429 := f_424.other W_427 (Ne.symm ne_la_y)
  have f_430 := Fld.other W_427 p_422f1 (Or.inl (Ne.symm ne_la_a))
  have f_431 := Fld.other W_427 p_422f2 (Or.inl (Ne.symm ne_la_a))
  have f_432 := Fld.other W_427 p_422f3 (Or.inl (Ne.symm ne_la_a))
  have f_433 := Fld.other W_427 p_422f4 (Or.inl (Ne.symm ne_la_a))
  have f_434 := Fld.other W_427 p_422f5 (Or.inl (Ne.symm ne_la_a))
  have f_435 := Fld.other W_427 p_422f6 (Or.inl (Ne.symm ne_la_a))
  have f_436 := Fld.other W_427 p_422f7 (Or.inl (Ne.symm ne_la_a))
  have f_437 := p_422f8.other W_427 (Ne.symm ne_la_ba)
  have f_438 := p_422f9.other W_427 (Ne.symm ne_la_sa)
  refine o_aloadN X_427 K d20_157 158 rfl rfl rfl ?_
  refine o_getfield X_427 K (host := "") d20_158 161 rfl (Or.inl (w_57 hw)) Via.refl e_427 f_432 ?_
  intro T_439 X_439 e_439
  refine o_iconst X_439 K (2 : Int32) d20_161 162 rfl rfl ?_
  refine o_iload X_439 K d20_162 164 rfl rfl ?_
  refine o_imul X_439 K d20_164 165 rfl ?_
  refine o_iconst X_439 K (1 : Int32) d20_165 166 rfl rfl ?_
  refine o_iadd X_439 K d20_166 167 rfl ?_
  refine o_iload X_439 K d20_167 169 rfl rfl ?_
  refine o_i2l X_439 K d20_169 170 rfl ?_
  refine o_bipush X_439 K (32 : Int32) d20_170 172 rfl rfl ?_
  refine o_lshl X_439 K d20_172 173 rfl ?_
  refine o_iload X_439 K d20_173 175 rfl rfl ?_
  refine o_iconst X_439 K (1 : Int32) d20_175 176 rfl rfl ?_
  refine o_iadd X_439 K d20_176 177 rfl ?_
  refine o_i2l X_439 K d20_177 178 rfl ?_
  refine o_lor X_439 K d20_178 179 rfl ?_
  refine o_lastore X_439 K (i := (2 * i0.toInt.toNat + 1)) (x' := (((hh.toInt64) <<< ((32 : Int32) &&& 0x3f).toInt64) ||| ((ct + (1 : Int32)).toInt64))) d20_179 180 rfl e_439 A_427 (hb0) (hc0) (rfl) N_427 g_la ?_
  intro T_440 h_440 locs_440 X_440 e_440 W_440 A_440 N_440
  have Z_440 : n0 ≤ h_440.size := by rw [Wr.size W_440]; exact Z_427
  have K_440 := K_427.wr W_440 (Or.inl (by simp))
  have f_441 := Exa.wr W_440 f_428
  have f_442 := f_429.other W_440 (Ne.symm ne_la_y)
  have f_443 := Fld.other W_440 f_430 (Or.inl (Ne.symm ne_la_a))
  have f_444 := Fld.other W_440 f_431 (Or.inl (Ne.symm ne_la_a))
  have f_445 := Fld.other W_440 f_432 (Or.inl (Ne.symm ne_la_a))
  have f_446 := Fld.other W_440 f_433 (Or.inl (Ne.symm ne_la_a))
  have f_447 := Fld.other W_440 f_434 (Or.inl (Ne.symm ne_la_a))
  have f_448 := Fld.other W_440 f_435 (Or.inl (Ne.symm ne_la_a))
  have f_449 := Fld.other W_440 f_436 (Or.inl (Ne.symm ne_la_a))
  have f_450 := f_437.other W_440 (Ne.symm ne_la_ba)
  have f_451 := f_438.other W_440 (Ne.symm ne_la_sa)
  have AL_452 := OAr.congr A_440 (fun j _ => own_wr2 (2 * i0.toInt.toNat) (2 * i0.toInt.toNat + 1) ((hh.toInt64 <<< ((32 : Int32) &&& 0x3f).toInt64) ||| ((ct + (1 : Int32)).toInt64)) ky s0 j)
  refine o_aloadN X_440 K d20_180 181 rfl rfl rfl ?_
  refine o_getfield X_440 K (host := "") d20_181 184 rfl (Or.inl (w_126 hw)) Via.refl e_440 f_447 ?_
  intro T_453 X_453 e_453
  refine o_aloadN X_453 K d20_184 185 rfl rfl rfl ?_
  refine o_getfield X_453 K (host := "") d20_185 188 rfl (Or.inl (w_59 hw)) Via.refl e_453 f_446 ?_
  intro T_454 X_454 e_454
  refine o_iconst X_454 K (1 : Int32) d20_188 189 rfl rfl ?_
  refine o_iadd X_454 K d20_189 190 rfl ?_
  refine o_iconst X_454 K (4 : Int32) d20_190 191 rfl rfl ?_
  refine o_idiv X_454 K d20_191 192 rfl (by decide) ?_
  refine o_iconst X_454 K (3 : Int32) d20_192 193 rfl rfl ?_
  refine o_imul X_454 K d20_193 194 rfl ?_
  refine o_icmp_le_t X_454 K d20_194 201 (by decide) (by decide) (own_768 hct) ?_
  refine o_iload X_454 K d20_201 203 rfl rfl ?_
  refine o_ireturn X_454 K d20_203 (by decide) (by decide) N_440 ?_
  subst h_i0
  rw [e_454]
  exact ⟨rfl, K_440, f_441, f_443, f_444, f_445, f_446, f_447, f_448, f_449, f_450, f_451, AL_452⟩
theorem d20_37 : decode prog_7_method_4_code 37 = .ok (.lload 8, 2) := by decide +kernel
theorem d20_39 : decode prog_7_method_4_code 39 = .ok (.bipush 32, 2) := by decide +kernel
theorem d20_41 : decode prog_7_method_4_code 41 = .ok (.lushr, 1) := by decide +kernel
theorem d20_42 : decode prog_7_method_4_code 42 = .ok (.l2i, 1) := by decide +kernel
theorem d20_43 : decode prog_7_method_4_code 43 = .ok (.iload 4, 2) := by decide +kernel
theorem d20_45 : decode prog_7_method_4_code 45 = .ok (.if_icmp .ne 65, 3) := by decide +kernel
theorem d20_48 : decode prog_7_method_4_code 48 = .ok (.aload_n 0, 1) := by decide +kernel
theorem d20_49 : decode prog_7_method_4_code 49 = .ok (.getfield 17, 3) := by decide +kernel
theorem d20_52 : decode prog_7_method_4_code 52 = .ok (.iconst 2, 1) := by decide +kernel
theorem d20_53 : decode prog_7_method_4_code 53 = .ok (.iload 7, 2) := by decide +kernel
theorem d20_55 : decode prog_7_method_4_code 55 = .ok (.imul, 1) := by decide +kernel
theorem d20_56 : decode prog_7_method_4_code 56 = .ok (.laload, 1) := by decide +kernel
theorem d20_57 : decode prog_7_method_4_code 57 = .ok (.lload 5, 2) := by decide +kernel
theorem d20_59 : decode prog_7_method_4_code 59 = .ok (.lcmp, 1) := by decide +kernel
theorem d20_60 : decode prog_7_method_4_code 60 = .ok (.ifCond .ne 50, 3) := by decide +kernel
theorem d20_63 : decode prog_7_method_4_code 63 = .ok (.lload 8, 2) := by decide +kernel
theorem d20_65 : decode prog_7_method_4_code 65 = .ok (.l2i, 1) := by decide +kernel
theorem d20_66 : decode prog_7_method_4_code 66 = .ok (.iconst 1, 1) := by decide +kernel
theorem d20_67 : decode prog_7_method_4_code 67 = .ok (.isub, 1) := by decide +kernel
theorem d20_68 : decode prog_7_method_4_code 68 = .ok (.istore 10, 2) := by decide +kernel
theorem d20_70 : decode prog_7_method_4_code 70 = .ok (.iload_n 3, 1) := by decide +kernel
theorem d20_71 : decode prog_7_method_4_code 71 = .ok (.iload_n 2, 1) := by decide +kernel
theorem d20_72 : decode prog_7_method_4_code 72 = .ok (.isub, 1) := by decide +kernel
theorem d20_73 : decode prog_7_method_4_code 73 = .ok (.bipush 7, 2) := by decide +kernel
theorem d20_75 : decode prog_7_method_4_code 75 = .ok (.if_icmp .le 32, 3) := by decide +kernel
theorem d20_107 : decode prog_7_method_4_code 107 = .ok (.iload 10, 2) := by decide +kernel
theorem d20_109 : decode prog_7_method_4_code 109 = .ok (.ireturn, 1) := by decide +kernel
set_option maxHeartbeats 4000000 in
theorem c_n4H (l : Launch) (Z : State) (a0 : Array Value) (hw : OW Z a0) (n0 : Nat) (a y ba sa la : Addr) (g fb fs : Nat → Value) (s0 : Nat → Int64) (ln u ct hh : Int32) (pf ky inf : Int64) (h0 : Heap) (Z0 : n0 ≤ h0.size) (E_a : Exa Z h0 a "com/example/vikt/vikt/graph/NameTable") (F_a_bytes : Fld Z h0 a "com/example/vikt/vikt/graph/NameTable" "bytes" "[B" (.ref ba)) (F_a_starts : Fld Z h0 a "com/example/vikt/vikt/graph/NameTable" "starts" "[I" (.ref sa)) (F_a_slots : Fld Z h0 a "com/example/vikt/vikt/graph/NameTable" "slots" "[J" (.ref la)) (F_a_mask : Fld Z h0 a "com/example/vikt/vikt/graph/NameTable" "mask" "I" (.int (1023 : Int32))) (F_a_count : Fld Z h0 a "com/example/vikt/vikt/graph/NameTable" "count" "I" (.int ct)) (F_a_used : Fld Z h0 a "com/example/vikt/vikt/graph/NameTable" "used" "I" (.int u)) (F_a_prefetched : Fld Z h0 a "com/example/vikt/vikt/graph/NameTable" "prefetched" "J" (.long pf)) (g_a : n0 ≤ a) (A_y : OAr Z h0 y .byte ln.toInt.toNat g) (A_ba : OAr Z h0 ba .byte 4096 fb) (g_ba : n0 ≤ ba) (A_sa : OAr Z h0 sa .int 1025 fs) (g_sa : n0 ≤ sa) (ne_a_ba : a ≠ ba) (ne_a_sa : a ≠ sa) (ne_ba_sa : ba ≠ sa) (ne_y_a : y ≠ a) (ne_y_ba : y ≠ ba) (ne_y_sa : y ≠ sa) (hl : 0 ≤ ln.toInt ∧ ln.toInt ≤ 4) (hu : 0 ≤ u.toInt ∧ u.toInt ≤ 100) (hct : 0 ≤ ct.toInt ∧ ct.toInt ≤ 100) (A_la : OAr Z h0 la .long 2048 (fun q => .long (s0 q))) (g_la : n0 ≤ la) (ne_la_a : la ≠ a) (ne_la_ba : la ≠ ba) (ne_la_sa : la ≠ sa) (ne_la_y : la ≠ y) (ck : OCon l Z n0 (⟨"com/example/vikt/vikt/graph/NameTable", "key", "([BII)J"⟩ : MethodName) prog_7_method_8_code 8 (some .long) ({ frames := 1, cells := 0, slots := 0, locals := 20 } : Room) #[(.ref y), (.int (0 : Int32)), (.int ln)] h0 (fun v h => v = some (.long ky) ∧ h = h0)) (hI : s0 (2 * (hh &&& (1023 : Int32)).toInt.toNat + 1) = inf) (hn0 : ¬ inf = 0) (hk : s0 (2 * (hh &&& (1023 : Int32)).toInt.toNat) = ky) (hh1 : ((inf.toUInt64 >>> ((32 : Int32) &&& 0x3f).toInt64.toUInt64).toInt64).toInt32 = hh) :
    OCon l Z n0 (⟨"com/example/vikt/vikt/graph/NameTable", "number", "([BIII)I"⟩ : MethodName) prog_7_method_4_code 11 (some .int) ({ frames := 2, cells := 0, slots := 0, locals := 75 } : Room) #[(.ref a), (.ref y), (.int (0 : Int32)), (.int ln), (.int hh)] h0 (fun v h => v = some (.int (inf.toInt32 - (1 : Int32))) ∧ h = h0) := by
  refine OCon.of (Ls := #[.val (.ref a), .val (.ref y), .val (.int (0 : Int32)), .val (.int ln), .val (.int hh), .unset, .unset, .unset, .unset, .unset, .unset]) pn_20 rfl rfl (fun m => by first | (simp [entryFrame, mkF, argsToLocals, Value.category]; done) | rfl) ?_
  intro p e s m below meth c T0 X0 K e0
  have N0 := Fr.nil n0
  refine o_aloadN X0 K d20_0 1 rfl rfl rfl ?_
  refine o_iloadN X0 K d20_1 2 rfl rfl ?_
  refine o_iloadN X0 K d20_2 3 rfl rfl ?_
  refine o_invokestatic X0 K d20_3 6 rfl (w_112 hw) (w_113 hw) (w_46 hw) (w_114 hw) (by decide) [(.ref y), (.int (0 : Int32)), (.int ln)] [] rfl  (ck) e0 rfl (lenOf pd___BII_J rfl) (by decide) 0 (Nat.le_of_eq rfl) (by decide) (by decide) (by decide) N0 ?_
  rintro _ T_455 h_455 locs_455 X_455 q_455 ⟨rfl, r_455⟩ N_455
  have e_455 := q_455.trans r_455
  show OGo p e below _ n0 _ (T_455.setTop (mkF m 6 #[.val (.ref a), .val (.ref y), .val (.int (0 : Int32)), .val (.int ln), .val (.int hh), .unset, .unset, .unset, .unset, .unset, .unset] [(.long ky)]))
  refine o_lstore X_455 K d20_6 8 rfl #[.val (.ref a), .val (.ref y), .val (.int (0 : Int32)), .val (.int ln), .val (.int hh), .val (.long ky), .second, .unset, .unset, .unset, .unset] rfl rfl ?_
  refine o_iload X_455 K d20_8 10 rfl rfl ?_
  refine o_aloadN X_455 K d20_10 11 rfl rfl rfl ?_
  refine o_getfield X_455 K (host := "") d20_11 14 rfl (Or.inl (w_59 hw)) Via.refl e_455 F_a_mask ?_
  intro T_456 X_456 e_456
  refine o_iand X_456 K d20_14 15 rfl ?_
  obtain ⟨i0, h_i0⟩ : ∃ z_ : Int32, z_ = (hh &&& (1023 : Int32)) := ⟨_, rfl⟩
  refine o_istore X_456 K d20_15 17 rfl #[.val (.ref a), .val (.ref y), .val (.int (0 : Int32)), .val (.int ln), .val (.int hh), .val (.long ky), .second, .val (.int i0), .unset, .unset, .unset] h_i0.symm rfl ?_
  have hi0 : 0 ≤ i0.toInt ∧ i0.toInt ≤ 1023 := by rw [h_i0]; exact own_and hh
  obtain ⟨ha0, hb0, hc0⟩ := own_2i hi0
  have hJ : s0 (2 * i0.toInt.toNat + 1) = inf := by rw [h_i0]; exact hI
  have hK : s0 (2 * i0.toInt.toNat) = ky := by rw [h_i0]; exact hk
  refine o_aloadN X_456 K d20_17 18 rfl rfl rfl ?_
  refine o_getfield X_456 K (host := "") d20_18 21 rfl (Or.inl (w_57 hw)) Via.refl e_456 F_a_slots ?_
  intro T_457 X_457 e_457
  refine o_iconst X_457 K (2 : Int32) d20_21 22 rfl rfl ?_
  refine o_iload X_457 K d20_22 24 rfl rfl ?_
  refine o_imul X_457 K d20_24 25 rfl ?_
  refine o_iconst X_457 K (1 : Int32) d20_25 26 rfl rfl ?_
  refine o_iadd X_457 K d20_26 27 rfl ?_
  refine o_laload X_457 K (i := (2 * i0.toInt.toNat + 1)) (v := (.long inf)) d20_27 28 rfl e_457 A_la (hb0) (hc0) (congrArg Value.long hJ) ?_
  refine o_lstore X_457 K d20_28 30 rfl #[.val (.ref a), .val (.ref y), .val (.int (0 : Int32)), .val (.int ln), .val (.int hh), .val (.long ky), .second, .val (.int i0), .val (.long inf), .second, .unset] rfl rfl ?_
  refine o_lload X_457 K d20_30 32 rfl rfl ?_
  refine o_lconst X_457 K (0 : Int64) d20_32 33 rfl rfl ?_
  refine o_lcmp X_457 K d20_33 34 rfl ?_
  refine o_if_eq_f X_457 K d20_34 37 rfl (fun q_ => hn0 (o_lw_eq.mp q_)) ?_
  refine o_lload X_457 K d20_37 39 rfl rfl ?_
  refine o_bipush X_457 K (32 : Int32) d20_39 41 rfl rfl ?_
  refine o_lushr X_457 K d20_41 42 rfl ?_
  refine o_l2i X_457 K d20_42 43 rfl ?_
  refine o_iload X_457 K d20_43 45 rfl rfl ?_
  refine o_icmp_ne_f X_457 K d20_45 48 rfl (hh1) ?_
  refine o_aloadN X_457 K d20_48 49 rfl rfl rfl ?_
  refine o_getfield X_457 K (host := "") d20_49 52 rfl (Or.inl (w_57 hw)) Via.refl e_457 F_a_slots ?_
  intro T_458 X_458 e_458
  refine o_iconst X_458 K (2 : Int32) d20_52 53 rfl rfl ?_
  refine o_iload X_458 K d20_53 55 rfl rfl ?_
  refine o_imul X_458 K d20_55 56 rfl ?_
  refine o_laload X_458 K (i := (2 * i0.toInt.toNat)) (v := (.long ky)) d20_56 57 rfl e_458 A_la (ha0) (by omega) (congrArg Value.long hK) ?_
  refine o_lload X_458 K d20_57 59 rfl rfl ?_
  refine o_lcmp X_458 K d20_59 60 rfl ?_
  refine o_if_ne_f X_458 K d20_60 63 rfl (o_lw_eq.mpr rfl) ?_
  refine o_lload X_458 K d20_63 65 rfl rfl ?_
  refine o_l2i X_458 K d20_65 66 rfl ?_
  refine o_iconst X_458 K (1 : Int32) d20_66 67 rfl rfl ?_
  refine o_isub X_458 K d20_67 68 rfl ?_
  refine o_istore X_458 K d20_68 70 rfl #[.val (.ref a), .val (.ref y), .val (.int (0 : Int32)), .val (.int ln), .val (.int hh), .val (.long ky), .second, .val (.int i0), .val (.long inf), .second, .val (.int ((inf.toInt32) - (1 : Int32)))] rfl rfl ?_
  refine o_iloadN X_458 K d20_70 71 rfl rfl ?_
  refine o_iloadN X_458 K d20_71 72 rfl rfl ?_
  refine o_isub X_458 K d20_72 73 rfl ?_
  refine o_bipush X_458 K (7 : Int32) d20_73 75 rfl rfl ?_
  refine o_icmp_le_t X_458 K d20_75 107 (by decide) (by decide) (by have q1 := c_isub ln 0; have q2 := rng32 (ln - 0); have q3 : (0 : Int32).toInt = 0 := rfl; have q4 : (7 : Int32).toInt = 7 := rfl; omega) ?_
  refine o_iload X_458 K d20_107 109 rfl rfl ?_
  refine o_ireturn X_458 K d20_109 (by decide) (by decide) N_455 ?_
  exact ⟨rfl, e_458⟩
theorem d20_110 : decode prog_7_method_4_code 110 = .ok (.iload 7, 2) := by decide +kernel
theorem d20_112 : decode prog_7_method_4_code 112 = .ok (.iconst 1, 1) := by decide +kernel
theorem d20_113 : decode prog_7_method_4_code 113 = .ok (.iadd, 1) := by decide +kernel
theorem d20_114 : decode prog_7_method_4_code 114 = .ok (.aload_n 0, 1) := by decide +kernel
theorem d20_115 : decode prog_7_method_4_code 115 = .ok (.getfield 21, 3) := by decide +kernel
theorem d20_118 : decode prog_7_method_4_code 118 = .ok (.iand, 1) := by decide +kernel
theorem d20_119 : decode prog_7_method_4_code 119 = .ok (.istore 7, 2) := by decide +kernel
theorem d20_121 : decode prog_7_method_4_code 121 = .ok (.aload_n 0, 1) := by decide +kernel
theorem d20_122 : decode prog_7_method_4_code 122 = .ok (.getfield 17, 3) := by decide +kernel
theorem d20_125 : decode prog_7_method_4_code 125 = .ok (.iconst 2, 1) := by decide +kernel
theorem d20_126 : decode prog_7_method_4_code 126 = .ok (.iload 7, 2) := by decide +kernel
theorem d20_128 : decode prog_7_method_4_code 128 = .ok (.imul, 1) := by decide +kernel
theorem d20_129 : decode prog_7_method_4_code 129 = .ok (.iconst 1, 1) := by decide +kernel
theorem d20_130 : decode prog_7_method_4_code 130 = .ok (.iadd, 1) := by decide +kernel
theorem d20_131 : decode prog_7_method_4_code 131 = .ok (.laload, 1) := by decide +kernel
theorem d20_132 : decode prog_7_method_4_code 132 = .ok (.lstore 8, 2) := by decide +kernel
theorem d20_134 : decode prog_7_method_4_code 134 = .ok (.goto (-104), 3) := by decide +kernel
set_option maxHeartbeats 4000000 in
theorem c_n4C (l : Launch) (Z : State) (a0 : Array Value) (hw : OW Z a0) (n0 : Nat) (a y ba sa la : Addr) (g fb fs : Nat → Value) (s0 : Nat → Int64) (ln u ct hh : Int32) (pf ky inf kk : Int64) (h0 : Heap) (Z0 : n0 ≤ h0.size) (E_a : Exa Z h0 a "com/example/vikt/vikt/graph/NameTable") (F_a_bytes : Fld Z h0 a "com/example/vikt/vikt/graph/NameTable" "bytes" "[B" (.ref ba)) (F_a_starts : Fld Z h0 a "com/example/vikt/vikt/graph/NameTable" "starts" "[I" (.ref sa)) (F_a_slots : Fld Z h0 a "com/example/vikt/vikt/graph/NameTable" "slots" "[J" (.ref la)) (F_a_mask : Fld Z h0 a "com/example/vikt/vikt/graph/NameTable" "mask" "I" (.int (1023 : Int32))) (F_a_count : Fld Z h0 a "com/example/vikt/vikt/graph/NameTable" "count" "I" (.int ct)) (F_a_used : Fld Z h0 a "com/example/vikt/vikt/graph/NameTable" "used" "I" (.int u)) (F_a_prefetched : Fld Z h0 a "com/example/vikt/vikt/graph/NameTable" "prefetched" "J" (.long pf)) (g_a : n0 ≤ a) (A_y : OAr Z h0 y .byte ln.toInt.toNat g) (A_ba : OAr Z h0 ba .byte 4096 fb) (g_ba : n0 ≤ ba) (A_sa : OAr Z h0 sa .int 1025 fs) (g_sa : n0 ≤ sa) (ne_a_ba : a ≠ ba) (ne_a_sa : a ≠ sa) (ne_ba_sa : ba ≠ sa) (ne_y_a : y ≠ a) (ne_y_ba : y ≠ ba) (ne_y_sa : y ≠ sa) (hl : 0 ≤ ln.toInt ∧ ln.toInt ≤ 4) (hu : 0 ≤ u.toInt ∧ u.toInt ≤ 100) (hct : 0 ≤ ct.toInt ∧ ct.toInt ≤ 100) (A_la : OAr Z h0 la .long 2048 (fun q => .long (s0 q))) (g_la : n0 ≤ la) (ne_la_a : la ≠ a) (ne_la_ba : la ≠ ba) (ne_la_sa : la ≠ sa) (ne_la_y : la ≠ y) (ck : OCon l Z n0 (⟨"com/example/vikt/vikt/graph/NameTable", "key", "([BII)J"⟩ : MethodName) prog_7_method_8_code 8 (some .long) ({ frames := 1, cells := 0, slots := 0, locals := 20 } : Room) #[(.ref y), (.int (0 : Int32)), (.int ln)] h0 (fun v h => v = some (.long ky) ∧ h = h0)) (hI : s0 (2 * (hh &&& (1023 : Int32)).toInt.toNat + 1) = inf) (hn0 : ¬ inf = 0) (hk : s0 (2 * (hh &&& (1023 : Int32)).toInt.toNat) = kk) (hkk : ¬ kk = ky) (hI1 : s0 (2 * (((hh &&& (1023 : Int32)) + (1 : Int32)) &&& (1023 : Int32)).toInt.toNat + 1) = 0) :
    OCon l Z n0 (⟨"com/example/vikt/vikt/graph/NameTable", "number", "([BIII)I"⟩ : MethodName) prog_7_method_4_code 11 (some .int) ({ frames := 2, cells := 0, slots := 0, locals := 75 } : Room) #[(.ref a), (.ref y), (.int (0 : Int32)), (.int ln), (.int hh)] h0 (fun v h => v = some (.int ct) ∧ Keep h0 h [a, ba, sa, la] ∧ Exa Z h a "com/example/vikt/vikt/graph/NameTable" ∧ Fld Z h a "com/example/vikt/vikt/graph/NameTable" "bytes" "[B" (.ref ba) ∧ Fld Z h a "com/example/vikt/vikt/graph/NameTable" "starts" "[I" (.ref sa) ∧ Fld Z h a "com/example/vikt/vikt/graph/NameTable" "slots" "[J" (.ref la) ∧ Fld Z h a "com/example/vikt/vikt/graph/NameTable" "mask" "I" (.int (1023 : Int32)) ∧ Fld Z h a "com/example/vikt/vikt/graph/NameTable" "count" "I" (.int (ct + (1 : Int32))) ∧ Fld Z h a "com/example/vikt/vikt/graph/NameTable" "used" "I" (.int (u + (ln - (0 : Int32)))) ∧ Fld Z h a "com/example/vikt/vikt/graph/NameTable" "prefetched" "J" (.long pf) ∧ OAr Z h ba .byte 4096 (own_cp u.toInt.toNat ln.toInt.toNat g fb) ∧ OAr Z h sa .int 1025 (own_st (ct + (1 : Int32)).toInt.toNat (.int (u + (ln - (0 : Int32)))) fs) ∧ OAr Z h la .long 2048 (fun q => .long ((own_put (2 * (((hh &&& (1023 : Int32)) + (1 : Int32)) &&& (1023 : Int32)).toInt.toNat) (2 * (((hh &&& (1023 : Int32)) + (1 : Int32)) &&& (1023 : Int32)).toInt.toNat + 1) ((hh.toInt64 <<< ((32 : Int32) &&& 0x3f).toInt64) ||| ((ct + (1 : Int32)).toInt64)) ky s0) q))) := by
  refine OCon.of (Ls := #[.val (.ref a), .val (.ref y), .val (.int (0 : Int32)), .val (.int ln), .val (.int hh), .unset, .unset, .unset, .unset, .unset, .unset]) pn_20 rfl rfl (fun m => by first | (simp [entryFrame, mkF, argsToLocals, Value.category]; done) | rfl) ?_
  intro p e s m below meth c T0 X0 K e0
  have N0 := Fr.nil n0
  have KK0 := Keep.refl h0 [a, ba, sa, la]
  refine o_aloadN X0 K d20_0 1 rfl rfl rfl ?_
  refine o_iloadN X0 K d20_1 2 rfl rfl ?_
  refine o_iloadN X0 K d20_2 3 rfl rfl ?_
  refine o_invokestatic X0 K d20_3 6 rfl (w_112 hw) (w_113 hw) (w_46 hw) (w_114 hw) (by decide) [(.ref y), (.int (0 : Int32)), (.int ln)] [] rfl  (ck) e0 rfl (lenOf pd___BII_J rfl) (by decide) 0 (Nat.le_of_eq rfl) (by decide) (by decide) (by decide) N0 ?_
  rintro _ T_459 h_459 locs_459 X_459 q_459 ⟨rfl, r_459⟩ N_459
  have e_459 := q_459.trans r_459
  show OGo p e below _ n0 _ (T_459.setTop (mkF m 6 #[.val (.ref a), .val (.ref y), .val (.int (0 : Int32)), .val (.int ln), .val (.int hh), .unset, .unset, .unset, .unset, .unset, .unset] [(.long ky)]))
  refine o_lstore X_459 K d20_6 8 rfl #[.val (.ref a), .val (.ref y), .val (.int (0 : Int32)), .val (.int ln), .val (.int hh), .val (.long ky), .second, .unset, .unset, .unset, .unset] rfl rfl ?_
  refine o_iload X_459 K d20_8 10 rfl rfl ?_
  refine o_aloadN X_459 K d20_10 11 rfl rfl rfl ?_
  refine o_getfield X_459 K (host := "") d20_11 14 rfl (Or.inl (w_59 hw)) Via.refl e_459 F_a_mask ?_
  intro T_460 X_460 e_460
  refine o_iand X_460 K d20_14 15 rfl ?_
  obtain ⟨i0, h_i0⟩ : ∃ z_ : Int32, z_ = (hh &&& (1023 : Int32)) := ⟨_, rfl⟩
  refine o_istore X_460 K d20_15 17 rfl #[.val (.ref a), .val (.ref y), .val (.int (0 : Int32)), .val (.int ln), .val (.int hh), .val (.long ky), .second, .val (.int i0), .unset, .unset, .unset] h_i0.symm rfl ?_
  have hi0 : 0 ≤ i0.toInt ∧ i0.toInt ≤ 1023 := by rw [h_i0]; exact own_and hh
  obtain ⟨ha0, hb0, hc0⟩ := own_2i hi0
  have hJ : s0 (2 * i0.toInt.toNat + 1) = inf := by rw [h_i0]; exact hI
  have hK : s0 (2 * i0.toInt.toNat) = kk := by rw [h_i0]; exact hk
  refine o_aloadN X_460 K d20_17 18 rfl rfl rfl ?_
  refine o_getfield X_460 K (host := "") d20_18 21 rfl (Or.inl (w_57 hw)) Via.refl e_460 F_a_slots ?_
  intro T_461 X_461 e_461
  refine o_iconst X_461 K (2 : Int32) d20_21 22 rfl rfl ?_
  refine o_iload X_461 K d20_22 24 rfl rfl ?_
  refine o_imul X_461 K d20_24 25 rfl ?_
  refine o_iconst X_461 K (1 : Int32) d20_25 26 rfl rfl ?_
  refine o_iadd X_461 K d20_26 27 rfl ?_
  refine o_laload X_461 K (i := (2 * i0.toInt.toNat + 1)) (v := (.long inf)) d20_27 28 rfl e_461 A_la (hb0) (hc0) (congrArg Value.long hJ) ?_
  refine o_lstore X_461 K d20_28 30 rfl #[.val (.ref a), .val (.ref y), .val (.int (0 : Int32)), .val (.int ln), .val (.int hh), .val (.long ky), .second, .val (.int i0), .val (.long inf), .second, .unset] rfl rfl ?_
  refine o_lload X_461 K d20_30 32 rfl rfl ?_
  refine o_lconst X_461 K (0 : Int64) d20_32 33 rfl rfl ?_
  refine o_lcmp X_461 K d20_33 34 rfl ?_
  refine o_if_eq_f X_461 K d20_34 37 rfl (fun q_ => hn0 (o_lw_eq.mp q_)) ?_
  refine o_lload X_461 K d20_37 39 rfl rfl ?_
  refine o_bipush X_461 K (32 : Int32) d20_39 41 rfl rfl ?_
  refine o_lushr X_461 K d20_41 42 rfl ?_
  refine o_l2i X_461 K d20_42 43 rfl ?_
  refine o_iload X_461 K d20_43 45 rfl rfl ?_
  refine o_icmp_ne X_461 K d20_45 110 (by decide) (by decide) 48 rfl (fun hc45 => ?_) (fun hc45 => ?_)
  · refine o_iload X_461 K d20_110 112 rfl rfl ?_
    refine o_iconst X_461 K (1 : Int32) d20_112 113 rfl rfl ?_
    refine o_iadd X_461 K d20_113 114 rfl ?_
    refine o_aloadN X_461 K d20_114 115 rfl rfl rfl ?_
    refine o_getfield X_461 K (host := "") d20_115 118 rfl (Or.inl (w_59 hw)) Via.refl e_461 F_a_mask ?_
    intro T_462 X_462 e_462
    refine o_iand X_462 K d20_118 119 rfl ?_
    obtain ⟨i1, h_i1⟩ : ∃ z_ : Int32, z_ = ((i0 + (1 : Int32)) &&& (1023 : Int32)) := ⟨_, rfl⟩
    refine o_istore X_462 K d20_119 121 rfl #[.val (.ref a), .val (.ref y), .val (.int (0 : Int32)), .val (.int ln), .val (.int hh), .val (.long ky), .second, .val (.int i1), .val (.long inf), .second, .unset] h_i1.symm rfl ?_
    have hi1 : 0 ≤ i1.toInt ∧ i1.toInt ≤ 1023 := by rw [h_i1]; exact own_and _
    obtain ⟨ha1, hb1, hc1⟩ := own_2i hi1
    have hJ1 : s0 (2 * i1.toInt.toNat + 1) = 0 := by rw [h_i1, h_i0]; exact hI1
    refine o_aloadN X_462 K d20_121 122 rfl rfl rfl ?_
    refine o_getfield X_462 K (host := "") d20_122 125 rfl (Or.inl (w_57 hw)) Via.refl e_462 F_a_slots ?_
    intro T_463 X_463 e_463
    refine o_iconst X_463 K (2 : Int32) d20_125 126 rfl rfl ?_
    refine o_iload X_463 K d20_126 128 rfl rfl ?_
    refine o_imul X_463 K d20_128 129 rfl ?_
    refine o_iconst X_463 K (1 : Int32) d20_129 130 rfl rfl ?_
    refine o_iadd X_463 K d20_130 131 rfl ?_
    refine o_laload X_463 K (i := (2 * i1.toInt.toNat + 1)) (v := (.long (0 : Int64))) d20_131 132 rfl e_463 A_la (hb1) (hc1) (congrArg Value.long hJ1) ?_
    refine o_lstore X_463 K d20_132 134 rfl #[.val (.ref a), .val (.ref y), .val (.int (0 : Int32)), .val (.int ln), .val (.int hh), .val (.long ky), .second, .val (.int i1), .val (.long (0 : Int64)), .second, .unset] rfl rfl ?_
    refine o_goto X_463 K d20_134 30 (by decide) (by decide) ?_
    refine o_lload X_463 K d20_30 32 rfl rfl ?_
    refine o_lconst X_463 K (0 : Int64) d20_32 33 rfl rfl ?_
    refine o_lcmp X_463 K d20_33 34 rfl ?_
    refine o_if_eq_t X_463 K d20_34 137 (by decide) (by decide) (o_lw_eq.mpr rfl) ?_
    refine o_aloadN X_463 K d20_137 138 rfl rfl rfl ?_
    refine o_aloadN X_463 K d20_138 139 rfl rfl rfl ?_
    refine o_iloadN X_463 K d20_139 140 rfl rfl ?_
    refine o_iloadN X_463 K d20_140 141 rfl rfl ?_
    refine o_invokeprivate X_463 K d20_141 144 rfl (w_119 hw) (w_120 hw) (w_121 hw) (w_46 hw) (w_122 hw) (by decide) ⟨7, (w_45 hw)⟩ E_a [(.ref y), (.int (0 : Int32)), (.int ln)] [] rfl  (c_add l Z a0 hw n0 a y ba sa la _ _ _ ln u ct pf h0 Z0 E_a F_a_bytes F_a_starts F_a_slots F_a_mask F_a_count F_a_used F_a_prefetched g_a A_y A_ba g_ba A_sa g_sa ne_a_ba ne_a_sa ne_ba_sa ne_y_a ne_y_ba ne_y_sa (hl) (hu) (hct)) e_463 rfl (lenOf pd___BII_I rfl) (by decide) 0 (Nat.le_of_eq rfl) (by decide) (by decide) (by decide) N_459 ?_
    rintro _ T_464 h_464 locs_464 X_464 e_464 ⟨rfl, k_464, p_464f0, p_464f1, p_464f2, p_464f3, p_464f4, p_464f5, p_464f6, p_464f7, p_464f8, p_464f9⟩ N_464
    have Z_464 : n0 ≤ h_464.size := Nat.le_trans Z0 k_464.1
    have K_464 := KK0.trans k_464 (allS (Or.inl (by simp)) (allS (Or.inl (by simp)) (allS (Or.inl (by simp)) (all0))))
    have f_465 := Exa.keep E_a k_464
    have f_466 := A_y.keep k_464 (ninS ne_y_a (ninS ne_y_ba (ninS ne_y_sa (nin0))))
    have f_467 := A_la.keep k_464 (ninS ne_la_a (ninS ne_la_ba (ninS ne_la_sa (nin0))))
    show OGo p e below _ n0 _ (T_464.setTop (mkF m 144 #[.val (.ref a), .val (.ref y), .val (.int (0 : Int32)), .val (.int ln), .val (.int hh), .val (.long ky), .second, .val (.int i1), .val (.long (0 : Int64)), .second, .unset] [(.int ct)]))
    refine o_istore X_464 K d20_144 146 rfl #[.val (.ref a), .val (.ref y), .val (.int (0 : Int32)), .val (.int ln), .val (.int hh), .val (.long ky), .second, .val (.int i1), .val (.long (0 : Int64)), .second, .val (.int ct)] rfl rfl ?_
    refine o_aloadN X_464 K d20_146 147 rfl rfl rfl ?_
    refine o_getfield X_464 K (host := "") d20_147 150 rfl (Or.inl (w_57 hw)) Via.refl e_464 p_464f3 ?_
    intro T_468 X_468 e_468
    refine o_iconst X_468 K (2 : Int32) d20_150 151 rfl rfl ?_
    refine o_iload X_468 K d20_151 153 rfl rfl ?_
    refine o_imul X_468 K d20_153 154 rfl ?_
    refine o_lload X_468 K d20_154 156 rfl rfl ?_
    refine o_lastore X_468 K (i := (2 * i1.toInt.toNat)) (x' := ky) d20_156 157 rfl e_468 f_467 (ha1) (by omega) (rfl) N_464 g_la ?_
    intro T_469 h_469 locs_469 X_469 e_469 W_469 A_469 N_469
    have Z_469 : n0 ≤ h_469.size := by rw [Wr.size W_469]; exact Z_464
    have K_469 := K_464.wr W_469 (Or.inl (by simp))
    have f_470 := Exa.wr W_469 p_464f0
    have f_471 := f_466.other W_469 (Ne.symm ne_la_y)
    have f_472 := Fld.other W_469 p_464f1 (Or.inl (Ne.symm ne_la_a))
    have f_473 := Fld.other W_469 p_464f2 (Or.inl (Ne.symm ne_la_a))
    have f_474 := Fld.other W_469 p_464f3 (Or.inl (Ne.symm ne_la_a))
    have f_475 := Fld.other W_469 p_464f4 (Or.inl (Ne.symm ne_la_a))
    have f_476 := Fld.other W_469 p_464f5 (Or.inl (Ne.symm ne_la_a))
    have f_477 := Fld.other W_469 p_464f6 (Or.inl (Ne.symm ne_la_a))
    have f_478 := Fld.other W_469 p_464f7 (Or.inl (Ne.symm ne_la_a))
    have f_479 := p_464f8.other W_469 (Ne.symm ne_la_ba)
    have f_480 := p_464f9.other W_469 (Ne.symm ne_la_sa)
    refine o_aloadN X_469 K d20_157 158 rfl rfl rfl ?_
    refine o_getfield X_469 K (host := "") d20_158 161 rfl (Or.inl (w_57 hw)) Via.refl e_469 f_474 ?_
    intro T_481 X_481 e_481
    refine o_iconst X_481 K (2 : Int32) d20_161 162 rfl rfl ?_
    refine o_iload X_481 K d20_162 164 rfl rfl ?_
    refine o_imul X_481 K d20_164 165 rfl ?_
    refine o_iconst X_481 K (1 : Int32) d20_165 166 rfl rfl ?_
    refine o_iadd X_481 K d20_166 167 rfl ?_
    refine o_iload X_481 K d20_167 169 rfl rfl ?_
    refine o_i2l X_481 K d20_169 170 rfl ?_
    refine o_bipush X_481 K (32 : Int32) d20_170 172 rfl rfl ?_
    refine o_lshl X_481 K d20_172 173 rfl ?_
    refine o_iload X_481 K d20_173 175 rfl rfl ?_
    refine o_iconst X_481 K (1 : Int32) d20_175 176 rfl rfl ?_
    refine o_iadd X_481 K d20_176 177 rfl ?_
    refine o_i2l X_481 K d20_177 178 rfl ?_
    refine o_lor X_481 K d20_178 179 rfl ?_
    refine o_lastore X_481 K (i := (2 * i1.toInt.toNat + 1)) (x' := (((hh.toInt64) <<< ((32 : Int32) &&& 0x3f).toInt64) ||| ((ct + (1 : Int32)).toInt64))) d20_179 180 rfl e_481 A_469 (hb1) (hc1) (rfl) N_469 g_la ?_
    intro T_482 h_482 locs_482 X_482 e_482 W_482 A_482 N_482
    have Z_482 : n0 ≤ h_482.size := by rw [Wr.size W_482]; exact Z_469
    have K_482 := K_469.wr W_482 (Or.inl (by simp))
    have f_483 := Exa.wr W_482 f_470
    have f_484 := f_471.other W_482 (Ne.symm ne_la_y)
    have f_485 := Fld.other W_482 f_472 (Or.inl (Ne.symm ne_la_a))
    have f_486 := Fld.other W_482 f_473 (Or.inl (Ne.symm ne_la_a))
    have f_487 := Fld.other W_482 f_474 (Or.inl (Ne.symm ne_la_a))
    have f_488 := Fld.other W_482 f_475 (Or.inl (Ne.symm ne_la_a))
    have f_489 := Fld.other W_482 f_476 (Or.inl (Ne.symm ne_la_a))
    have f_490 := Fld.other W_482 f_477 (Or.inl (Ne.symm ne_la_a))
    have f_491 := Fld.other W_482 f_478 (Or.inl (Ne.symm ne_la_a))
    have f_492 := f_479.other W_482 (Ne.symm ne_la_ba)
    have f_493 := f_480.other W_482 (Ne.symm ne_la_sa)
    have AL_494 := OAr.congr A_482 (fun j _ => own_wr2 (2 * i1.toInt.toNat) (2 * i1.toInt.toNat + 1) ((hh.toInt64 <<< ((32 : Int32) &&& 0x3f).toInt64) ||| ((ct + (1 : Int32)).toInt64)) ky s0 j)
    refine o_aloadN X_482 K d20_180 181 rfl rfl rfl ?_
    refine o_getfield X_482 K (host := "") d20_181 184 rfl (Or.inl (w_126 hw)) Via.refl e_482 f_489 ?_
    intro T_495 X_495 e_495
    refine o_aloadN X_495 K d20_184 185 rfl rfl rfl ?_
    refine o_getfield X_495 K (host := "") d20_185 188 rfl (Or.inl (w_59 hw)) Via.refl e_495 f_488 ?_
    intro T_496 X_496 e_496
    refine o_iconst X_496 K (1 : Int32) d20_188 189 rfl rfl ?_
    refine o_iadd X_496 K d20_189 190 rfl ?_
    refine o_iconst X_496 K (4 : Int32) d20_190 191 rfl rfl ?_
    refine o_idiv X_496 K d20_191 192 rfl (by decide) ?_
    refine o_iconst X_496 K (3 : Int32) d20_192 193 rfl rfl ?_
    refine o_imul X_496 K d20_193 194 rfl ?_
    refine o_icmp_le_t X_496 K d20_194 201 (by decide) (by decide) (own_768 hct) ?_
    refine o_iload X_496 K d20_201 203 rfl rfl ?_
    refine o_ireturn X_496 K d20_203 (by decide) (by decide) N_482 ?_
    subst h_i1
    subst h_i0
    rw [e_496]
    exact ⟨rfl, K_482, f_483, f_485, f_486, f_487, f_488, f_489, f_490, f_491, f_492, f_493, AL_494⟩
  · refine o_aloadN X_461 K d20_48 49 rfl rfl rfl ?_
    refine o_getfield X_461 K (host := "") d20_49 52 rfl (Or.inl (w_57 hw)) Via.refl e_461 F_a_slots ?_
    intro T_497 X_497 e_497
    refine o_iconst X_497 K (2 : Int32) d20_52 53 rfl rfl ?_
    refine o_iload X_497 K d20_53 55 rfl rfl ?_
    refine o_imul X_497 K d20_55 56 rfl ?_
    refine o_laload X_497 K (i := (2 * i0.toInt.toNat)) (v := (.long kk)) d20_56 57 rfl e_497 A_la (ha0) (by omega) (congrArg Value.long hK) ?_
    refine o_lload X_497 K d20_57 59 rfl rfl ?_
    refine o_lcmp X_497 K d20_59 60 rfl ?_
    refine o_if_ne_t X_497 K d20_60 110 (by decide) (by decide) (fun q_ => hkk (o_lw_eq.mp q_)) ?_
    refine o_iload X_497 K d20_110 112 rfl rfl ?_
    refine o_iconst X_497 K (1 : Int32) d20_112 113 rfl rfl ?_
    refine o_iadd X_497 K d20_113 114 rfl ?_
    refine o_aloadN X_497 K d20_114 115 rfl rfl rfl ?_
    refine o_getfield X_497 K (host := "") d20_115 118 rfl (Or.inl (w_59 hw)) Via.refl e_497 F_a_mask ?_
    intro T_498 X_498 e_498
    refine o_iand X_498 K d20_118 119 rfl ?_
    obtain ⟨i1, h_i1⟩ : ∃ z_ : Int32, z_ = ((i0 + (1 : Int32)) &&& (1023 : Int32)) := ⟨_, rfl⟩
    refine o_istore X_498 K d20_119 121 rfl #[.val (.ref a), .val (.ref y), .val (.int (0 : Int32)), .val (.int ln), .val (.int hh), .val (.long ky), .second, .val (.int i1), .val (.long inf), .second, .unset] h_i1.symm rfl ?_
    have hi1 : 0 ≤ i1.toInt ∧ i1.toInt ≤ 1023 := by rw [h_i1]; exact own_and _
    obtain ⟨ha1, hb1, hc1⟩ := own_2i hi1
    have hJ1 : s0 (2 * i1.toInt.toNat + 1) = 0 := by rw [h_i1, h_i0]; exact hI1
    refine o_aloadN X_498 K d20_121 122 rfl rfl rfl ?_
    refine o_getfield X_498 K (host := "") d20_122 125 rfl (Or.inl (w_57 hw)) Via.refl e_498 F_a_slots ?_
    intro T_499 X_499 e_499
    refine o_iconst X_499 K (2 : Int32) d20_125 126 rfl rfl ?_
    refine o_iload X_499 K d20_126 128 rfl rfl ?_
    refine o_imul X_499 K d20_128 129 rfl ?_
    refine o_iconst X_499 K (1 : Int32) d20_129 130 rfl rfl ?_
    refine o_iadd X_499 K d20_130 131 rfl ?_
    refine o_laload X_499 K (i := (2 * i1.toInt.toNat + 1)) (v := (.long (0 : Int64))) d20_131 132 rfl e_499 A_la (hb1) (hc1) (congrArg Value.long hJ1) ?_
    refine o_lstore X_499 K d20_132 134 rfl #[.val (.ref a), .val (.ref y), .val (.int (0 : Int32)), .val (.int ln), .val (.int hh), .val (.long ky), .second, .val (.int i1), .val (.long (0 : Int64)), .second, .unset] rfl rfl ?_
    refine o_goto X_499 K d20_134 30 (by decide) (by decide) ?_
    refine o_lload X_499 K d20_30 32 rfl rfl ?_
    refine o_lconst X_499 K (0 : Int64) d20_32 33 rfl rfl ?_
    refine o_lcmp X_499 K d20_33 34 rfl ?_
    refine o_if_eq_t X_499 K d20_34 137 (by decide) (by decide) (o_lw_eq.mpr rfl) ?_
    refine o_aloadN X_499 K d20_137 138 rfl rfl rfl ?_
    refine o_aloadN X_499 K d20_138 139 rfl rfl rfl ?_
    refine o_iloadN X_499 K d20_139 140 rfl rfl ?_
    refine o_iloadN X_499 K d20_140 141 rfl rfl ?_
    refine o_invokeprivate X_499 K d20_141 144 rfl (w_119 hw) (w_120 hw) (w_121 hw) (w_46 hw) (w_122 hw) (by decide) ⟨7, (w_45 hw)⟩ E_a [(.ref y), (.int (0 : Int32)), (.int ln)] [] rfl  (c_add l Z a0 hw n0 a y ba sa la _ _ _ ln u ct pf h0 Z0 E_a F_a_bytes F_a_starts F_a_slots F_a_mask F_a_count F_a_used F_a_prefetched g_a A_y A_ba g_ba A_sa g_sa ne_a_ba ne_a_sa ne_ba_sa ne_y_a ne_y_ba ne_y_sa (hl) (hu) (hct)) e_499 rfl (lenOf pd___BII_I rfl) (by decide) 0 (Nat.le_of_eq rfl) (by decide) (by decide) (by decide) N_459 ?_
    rintro _ T_500 h_500 locs_500 X_500 e_500 ⟨rfl, k_500, p_500f0, p_500f1, p_500f2, p_500f3, p_500f4, p_500f5, p_500f6, p_500f7, p_500f8, p_500f9⟩ N_500
    have Z_500 : n0 ≤ h_500.size := Nat.le_trans Z0 k_500.1
    have K_500 := KK0.trans k_500 (allS (Or.inl (by simp)) (allS (Or.inl (by simp)) (allS (Or.inl (by simp)) (all0))))
    have f_501 := Exa.keep E_a k_500
    have f_502 := A_y.keep k_500 (ninS ne_y_a (ninS ne_y_ba (ninS ne_y_sa (nin0))))
    have f_503 := A_la.keep k_500 (ninS ne_la_a (ninS ne_la_ba (ninS ne_la_sa (nin0))))
    show OGo p e below _ n0 _ (T_500.setTop (mkF m 144 #[.val (.ref a), .val (.ref y), .val (.int (0 : Int32)), .val (.int ln), .val (.int hh), .val (.long ky), .second, .val (.int i1), .val (.long (0 : Int64)), .second, .unset] [(.int ct)]))
    refine o_istore X_500 K d20_144 146 rfl #[.val (.ref a), .val (.ref y), .val (.int (0 : Int32)), .val (.int ln), .val (.int hh), .val (.long ky), .second, .val (.int i1), .val (.long (0 : Int64)), .second, .val (.int ct)] rfl rfl ?_
    refine o_aloadN X_500 K d20_146 147 rfl rfl rfl ?_
    refine o_getfield X_500 K (host := "") d20_147 150 rfl (Or.inl (w_57 hw)) Via.refl e_500 p_500f3 ?_
    intro T_504 X_504 e_504
    refine o_iconst X_504 K (2 : Int32) d20_150 151 rfl rfl ?_
    refine o_iload X_504 K d20_151 153 rfl rfl ?_
    refine o_imul X_504 K d20_153 154 rfl ?_
    refine o_lload X_504 K d20_154 156 rfl rfl ?_
    refine o_lastore X_504 K (i := (2 * i1.toInt.toNat)) (x' := ky) d20_156 157 rfl e_504 f_503 (ha1) (by omega) (rfl) N_500 g_la ?_
    intro T_505 h_505 locs_505 X_505 e_505 W_505 A_505 N_505
    have Z_505 : n0 ≤ h_505.size := by rw [Wr.size W_505]; exact Z_500
    have K_505 := K_500.wr W_505 (Or.inl (by simp))
    have f_506 := Exa.wr W_505 p_500f0
    have f_507 := f_502.other W_505 (Ne.symm ne_la_y)
    have f_508 := Fld.other W_505 p_500f1 (Or.inl (Ne.symm ne_la_a))
    have f_509 := Fld.other W_505 p_500f2 (Or.inl (Ne.symm ne_la_a))
    have f_510 := Fld.other W_505 p_500f3 (Or.inl (Ne.symm ne_la_a))
    have f_511 := Fld.other W_505 p_500f4 (Or.inl (Ne.symm ne_la_a))
    have f_512 := Fld.other W_505 p_500f5 (Or.inl (Ne.symm ne_la_a))
    have f_513 := Fld.other W_505 p_500f6 (Or.inl (Ne.symm ne_la_a))
    have f_514 := Fld.other W_505 p_500f7 (Or.inl (Ne.symm ne_la_a))
    have f_515 := p_500f8.other W_505 (Ne.symm ne_la_ba)
    have f_516 := p_500f9.other W_505 (Ne.symm ne_la_sa)
    refine o_aloadN X_505 K d20_157 158 rfl rfl rfl ?_
    refine o_getfield X_505 K (host := "") d20_158 161 rfl (Or.inl (w_57 hw)) Via.refl e_505 f_510 ?_
    intro T_517 X_517 e_517
    refine o_iconst X_517 K (2 : Int32) d20_161 162 rfl rfl ?_
    refine o_iload X_517 K d20_162 164 rfl rfl ?_
    refine o_imul X_517 K d20_164 165 rfl ?_
    refine o_iconst X_517 K (1 : Int32) d20_165 166 rfl rfl ?_
    refine o_iadd X_517 K d20_166 167 rfl ?_
    refine o_iload X_517 K d20_167 169 rfl rfl ?_
    refine o_i2l X_517 K d20_169 170 rfl ?_
    refine o_bipush X_517 K (32 : Int32) d20_170 172 rfl rfl ?_
    refine o_lshl X_517 K d20_172 173 rfl ?_
    refine o_iload X_517 K d20_173 175 rfl rfl ?_
    refine o_iconst X_517 K (1 : Int32) d20_175 176 rfl rfl ?_
    refine o_iadd X_517 K d20_176 177 rfl ?_
    refine o_i2l X_517 K d20_177 178 rfl ?_
    refine o_lor X_517 K d20_178 179 rfl ?_
    refine o_lastore X_517 K (i := (2 * i1.toInt.toNat + 1)) (x' := (((hh.toInt64) <<< ((32 : Int32) &&& 0x3f).toInt64) ||| ((ct + (1 : Int32)).toInt64))) d20_179 180 rfl e_517 A_505 (hb1) (hc1) (rfl) N_505 g_la ?_
    intro T_518 h_518 locs_518 X_518 e_518 W_518 A_518 N_518
    have Z_518 : n0 ≤ h_518.size := by rw [Wr.size W_518]; exact Z_505
    have K_518 := K_505.wr W_518 (Or.inl (by simp))
    have f_519 := Exa.wr W_518 f_506
    have f_520 := f_507.other W_518 (Ne.symm ne_la_y)
    have f_521 := Fld.other W_518 f_508 (Or.inl (Ne.symm ne_la_a))
    have f_522 := Fld.other W_518 f_509 (Or.inl (Ne.symm ne_la_a))
    have f_523 := Fld.other W_518 f_510 (Or.inl (Ne.symm ne_la_a))
    have f_524 := Fld.other W_518 f_511 (Or.inl (Ne.symm ne_la_a))
    have f_525 := Fld.other W_518 f_512 (Or.inl (Ne.symm ne_la_a))
    have f_526 := Fld.other W_518 f_513 (Or.inl (Ne.symm ne_la_a))
    have f_527 := Fld.other W_518 f_514 (Or.inl (Ne.symm ne_la_a))
    have f_528 := f_515.other W_518 (Ne.symm ne_la_ba)
    have f_529 := f_516.other W_518 (Ne.symm ne_la_sa)
    have AL_530 := OAr.congr A_518 (fun j _ => own_wr2 (2 * i1.toInt.toNat) (2 * i1.toInt.toNat + 1) ((hh.toInt64 <<< ((32 : Int32) &&& 0x3f).toInt64) ||| ((ct + (1 : Int32)).toInt64)) ky s0 j)
    refine o_aloadN X_518 K d20_180 181 rfl rfl rfl ?_
    refine o_getfield X_518 K (host := "") d20_181 184 rfl (Or.inl (w_126 hw)) Via.refl e_518 f_525 ?_
    intro T_531 X_531 e_531
    refine o_aloadN X_531 K d20_184 185 rfl rfl rfl ?_
    refine o_getfield X_531 K (host := "") d20_185 188 rfl (Or.inl (w_59 hw)) Via.refl e_531 f_524 ?_
    intro T_532 X_532 e_532
    refine o_iconst X_532 K (1 : Int32) d20_188 189 rfl rfl ?_
    refine o_iadd X_532 K d20_189 190 rfl ?_
    refine o_iconst X_532 K (4 : Int32) d20_190 191 rfl rfl ?_
    refine o_idiv X_532 K d20_191 192 rfl (by decide) ?_
    refine o_iconst X_532 K (3 : Int32) d20_192 193 rfl rfl ?_
    refine o_imul X_532 K d20_193 194 rfl ?_
    refine o_icmp_le_t X_532 K d20_194 201 (by decide) (by decide) (own_768 hct) ?_
    refine o_iload X_532 K d20_201 203 rfl rfl ?_
    refine o_ireturn X_532 K d20_203 (by decide) (by decide) N_518 ?_
    subst h_i1
    subst h_i0
    rw [e_532]
    exact ⟨rfl, K_518, f_519, f_521, f_522, f_523, f_524, f_525, f_526, f_527, f_528, f_529, AL_530⟩
theorem d12_0 : decode prog_7_method_3_code 0 = .ok (.aload_n 1, 1) := by decide +kernel
theorem d12_1 : decode prog_7_method_3_code 1 = .ok (.getstatic 27, 3) := by decide +kernel
theorem d12_4 : decode prog_7_method_3_code 4 = .ok (.invokevirtual 33, 3) := by decide +kernel
theorem pd__Ljava_nio_charset_Charset___B : parseMethodDescriptor "(Ljava/nio/charset/Charset;)[B" = some ⟨[(.object "java/nio/charset/Charset")], some (.array .byte)⟩ := by decide +kernel
theorem d12_7 : decode prog_7_method_3_code 7 = .ok (.astore_n 2, 1) := by decide +kernel
theorem d12_8 : decode prog_7_method_3_code 8 = .ok (.aload_n 0, 1) := by decide +kernel
theorem d12_9 : decode prog_7_method_3_code 9 = .ok (.aload_n 2, 1) := by decide +kernel
theorem d12_10 : decode prog_7_method_3_code 10 = .ok (.iconst 0, 1) := by decide +kernel
theorem d12_11 : decode prog_7_method_3_code 11 = .ok (.aload_n 2, 1) := by decide +kernel
theorem d12_12 : decode prog_7_method_3_code 12 = .ok (.arraylength, 1) := by decide +kernel
theorem d12_13 : decode prog_7_method_3_code 13 = .ok (.aload_n 2, 1) := by decide +kernel
theorem d12_14 : decode prog_7_method_3_code 14 = .ok (.iconst 0, 1) := by decide +kernel
theorem d12_15 : decode prog_7_method_3_code 15 = .ok (.aload_n 2, 1) := by decide +kernel
theorem d12_16 : decode prog_7_method_3_code 16 = .ok (.arraylength, 1) := by decide +kernel
theorem d12_17 : decode prog_7_method_3_code 17 = .ok (.invokestatic 39, 3) := by decide +kernel
theorem d12_20 : decode prog_7_method_3_code 20 = .ok (.invokevirtual 43, 3) := by decide +kernel
theorem pd___BIII_I : parseMethodDescriptor "([BIII)I" = some ⟨[(.array .byte), .int, .int, .int], some .int⟩ := by decide +kernel
theorem d12_23 : decode prog_7_method_3_code 23 = .ok (.ireturn, 1) := by decide +kernel
theorem pn_12 : plainFor (⟨"com/example/vikt/vikt/graph/NameTable", "number", "(Ljava/lang/String;)I"⟩ : MethodName) = true := plainFor_of_name (by first | (simp [plainName, overriddenIn]; done) | decide +kernel)
set_option maxHeartbeats 4000000 in
theorem c_nSI_p (l : Launch) (Z : State) (a0 : Array Value) (hw : OW Z a0) (n0 : Nat) (a sx t u8 ba sa la : Addr) (x0 zcs u ct : Int32) (fb fs : Nat → Value) (s0 : Nat → Int64) (pf : Int64) (h0 : Heap) (Z0 : n0 ≤ h0.size) (S_COMPACT_STRINGS : Sta Z h0 "java/lang/String" "COMPACT_STRINGS" "Z" (.int zcs)) (hcs : ¬ zcs = 0) (S_INSTANCE : Sta Z h0 "sun/nio/cs/UTF_8" "INSTANCE" "Lsun/nio/cs/UTF_8;" (.ref u8)) (S_UTF_8 : Sta Z h0 "java/nio/charset/StandardCharsets" "UTF_8" "Ljava/nio/charset/Charset;" (.ref u8)) (E_sx : Exa Z h0 sx "java/lang/String") (F_sx_value : Fld Z h0 sx "java/lang/String" "value" "[B" (.ref t)) (F_sx_coder : Fld Z h0 sx "java/lang/String" "coder" "B" (.int (0 : Int32))) (A_t : OAr Z h0 t .byte 1 (own_B [x0])) (E_t : Exa Z h0 t "[B") (hs0 : 0 ≤ x0.toInt) (hb0 : nar .byte x0 = x0) (E_a : Exa Z h0 a "com/example/vikt/vikt/graph/NameTable") (F_a_bytes : Fld Z h0 a "com/example/vikt/vikt/graph/NameTable" "bytes" "[B" (.ref ba)) (F_a_starts : Fld Z h0 a "com/example/vikt/vikt/graph/NameTable" "starts" "[I" (.ref sa)) (F_a_slots : Fld Z h0 a "com/example/vikt/vikt/graph/NameTable" "slots" "[J" (.ref la)) (F_a_mask : Fld Z h0 a "com/example/vikt/vikt/graph/NameTable" "mask" "I" (.int (1023 : Int32))) (F_a_count : Fld Z h0 a "com/example/vikt/vikt/graph/NameTable" "count" "I" (.int ct)) (F_a_used : Fld Z h0 a "com/example/vikt/vikt/graph/NameTable" "used" "I" (.int u)) (F_a_prefetched : Fld Z h0 a "com/example/vikt/vikt/graph/NameTable" "prefetched" "J" (.long pf)) (g_a : n0 ≤ a) (A_ba : OAr Z h0 ba .byte 4096 fb) (g_ba : n0 ≤ ba) (A_sa : OAr Z h0 sa .int 1025 fs) (g_sa : n0 ≤ sa) (A_la : OAr Z h0 la .long 2048 (fun q => .long (s0 q))) (g_la : n0 ≤ la) (ne_a_ba : a ≠ ba) (ne_a_sa : a ≠ sa) (ne_ba_sa : ba ≠ sa) (ne_la_a : la ≠ a) (ne_la_ba : la ≠ ba) (ne_la_sa : la ≠ sa) (ne_sx_a : sx ≠ a) (ne_sx_ba : sx ≠ ba) (ne_sx_sa : sx ≠ sa) (ne_sx_la : sx ≠ la) (ne_t_a : t ≠ a) (ne_t_ba : t ≠ ba) (ne_t_sa : t ≠ sa) (ne_t_la : t ≠ la) (hu : 0 ≤ u.toInt ∧ u.toInt ≤ 100) (hct : 0 ≤ ct.toInt ∧ ct.toInt ≤ 100) (hI : s0 (2 * ((own_hash [x0] (1 : Int32)) &&& (1023 : Int32)).toInt.toNat + 1) = 0) :
    OCon l Z n0 (⟨"com/example/vikt/vikt/graph/NameTable", "number", "(Ljava/lang/String;)I"⟩ : MethodName) prog_7_method_3_code 3 (some .int) ({ frames := 5, cells := 2, slots := 7, locals := 115 } : Room) #[(.ref a), (.ref sx)] h0 (fun v h => v = some (.int ct) ∧ Keep h0 h [a, ba, sa, la] ∧ Exa Z h a "com/example/vikt/vikt/graph/NameTable" ∧ Fld Z h a "com/example/vikt/vikt/graph/NameTable" "bytes" "[B" (.ref ba) ∧ Fld Z h a "com/example/vikt/vikt/graph/NameTable" "starts" "[I" (.ref sa) ∧ Fld Z h a "com/example/vikt/vikt/graph/NameTable" "slots" "[J" (.ref la) ∧ Fld Z h a "com/example/vikt/vikt/graph/NameTable" "mask" "I" (.int (1023 : Int32)) ∧ Fld Z h a "com/example/vikt/vikt/graph/NameTable" "count" "I" (.int (ct + (1 : Int32))) ∧ Fld Z h a "com/example/vikt/vikt/graph/NameTable" "used" "I" (.int (u + ((1 : Int32) - (0 : Int32)))) ∧ Fld Z h a "com/example/vikt/vikt/graph/NameTable" "prefetched" "J" (.long pf) ∧ OAr Z h ba .byte 4096 (own_cp u.toInt.toNat (1 : Int32).toInt.toNat (own_B [x0]) fb) ∧ OAr Z h sa .int 1025 (own_st (ct + (1 : Int32)).toInt.toNat (.int (u + ((1 : Int32) - (0 : Int32)))) fs) ∧ OAr Z h la .long 2048 (fun q => .long ((own_put (2 * ((own_hash [x0] (1 : Int32)) &&& (1023 : Int32)).toInt.toNat) (2 * ((own_hash [x0] (1 : Int32)) &&& (1023 : Int32)).toInt.toNat + 1) (((own_hash [x0] (1 : Int32)).toInt64 <<< ((32 : Int32) &&& 0x3f).toInt64) ||| ((ct + (1 : Int32)).toInt64)) (own_key [x0] (1 : Int32)) s0) q))) := by
  refine OCon.of (Ls := #[.val (.ref a), .val (.ref sx), .unset]) pn_12 rfl rfl (fun m => by first | (simp [entryFrame, mkF, argsToLocals, Value.category]; done) | rfl) ?_
  intro p e s m below meth c T0 X0 K e0
  have N0 := Fr.nil n0
  have KK0 := Keep.refl h0 [a, ba, sa, la]
  refine o_aloadN X0 K d12_0 1 rfl rfl rfl ?_
  refine o_getstatic X0 K (host := "") d12_1 4 rfl (Or.inl (w_66 hw)) Via.refl e0 S_UTF_8 ?_
  intro T_533 X_533 e_533
  refine o_invokevirtual X_533 K d12_4 7 rfl (w_68 hw) (w_69 hw) (w_71 hw) (w_70 hw) (w_2 hw) (w_72 hw) (by decide) E_sx [(.ref u8)] [] rfl  (c_gb_p l Z a0 hw n0 sx t u8 x0 zcs h0 Z0 S_COMPACT_STRINGS (hcs) S_INSTANCE E_sx F_sx_value F_sx_coder A_t E_t (hs0) (hb0)) e_533 rfl (lenOf pd__Ljava_nio_charset_Charset___B rfl) (by decide) 0 (Nat.le_of_eq rfl) (by decide) (by decide) (by decide) N0 ?_
  rintro _ T_534 h_534 locs_534 X_534 e_534 ⟨r, rfl, k_534, gg_534_r, sz_534_r, p_534f0, p_534f1⟩ N_534
  have Z_534 : n0 ≤ h_534.size := Nat.le_trans Z0 k_534.1
  have K_534 := KK0.trans k_534 (all0)
  have f_535 := o_sta_keep S_COMPACT_STRINGS k_534 (o_plain0)
  have f_536 := o_sta_keep S_INSTANCE k_534 (o_plain0)
  have f_537 := o_sta_keep S_UTF_8 k_534 (o_plain0)
  have f_538 := Exa.keep E_sx k_534
  have f_539 := Fld.keep F_sx_value k_534 (nin0)
  have f_540 := Fld.keep F_sx_coder k_534 (nin0)
  have f_541 := A_t.keep k_534 (nin0)
  have f_542 := Exa.keep E_t k_534
  have f_543 := Exa.keep E_a k_534
  have f_544 := Fld.keep F_a_bytes k_534 (nin0)
  have f_545 := Fld.keep F_a_starts k_534 (nin0)
  have f_546 := Fld.keep F_a_slots k_534 (nin0)
  have f_547 := Fld.keep F_a_mask k_534 (nin0)
  have f_548 := Fld.keep F_a_count k_534 (nin0)
  have f_549 := Fld.keep F_a_used k_534 (nin0)
  have f_550 := Fld.keep F_a_prefetched k_534 (nin0)
  have f_551 := A_ba.keep k_534 (nin0)
  have f_552 := A_sa.keep k_534 (nin0)
  have f_553 := A_la.keep k_534 (nin0)
  have ne_sx_r : sx ≠ r := Nat.ne_of_lt (Nat.lt_of_lt_of_le E_sx.lt sz_534_r)
  have ne_t_r : t ≠ r := Nat.ne_of_lt (Nat.lt_of_lt_of_le A_t.lt sz_534_r)
  have ne_a_r : a ≠ r := Nat.ne_of_lt (Nat.lt_of_lt_of_le E_a.lt sz_534_r)
  have ne_ba_r : ba ≠ r := Nat.ne_of_lt (Nat.lt_of_lt_of_le A_ba.lt sz_534_r)
  have ne_sa_r : sa ≠ r := Nat.ne_of_lt (Nat.lt_of_lt_of_le A_sa.lt sz_534_r)
  have ne_la_r : la ≠ r := Nat.ne_of_lt (Nat.lt_of_lt_of_le A_la.lt sz_534_r)
  have sz_r : h0.size ≤ r := Nat.le_trans KK0.1 sz_534_r
  show OGo p e below _ n0 _ (T_534.setTop (mkF m 7 #[.val (.ref a), .val (.ref sx), .unset] [(.ref r)]))
  refine o_astoreN X_534 K d12_7 8 rfl #[.val (.ref a), .val (.ref sx), .val (.ref r)] rfl rfl ?_
  refine o_aloadN X_534 K d12_8 9 rfl rfl rfl ?_
  refine o_aloadN X_534 K d12_9 10 rfl rfl rfl ?_
  refine o_iconst X_534 K (0 : Int32) d12_10 11 rfl rfl ?_
  refine o_aloadN X_534 K d12_11 12 rfl rfl rfl ?_
  refine o_arraylength X_534 K d12_12 13 rfl e_534 p_534f0 (v := (1 : Int32)) (rfl) ?_
  refine o_aloadN X_534 K d12_13 14 rfl rfl rfl ?_
  refine o_iconst X_534 K (0 : Int32) d12_14 15 rfl rfl ?_
  refine o_aloadN X_534 K d12_15 16 rfl rfl rfl ?_
  refine o_arraylength X_534 K d12_16 17 rfl e_534 p_534f0 (v := (1 : Int32)) (rfl) ?_
  refine o_invokestatic X_534 K d12_17 20 rfl (w_102 hw) (w_103 hw) (w_46 hw) (w_104 hw) (by decide) [(.ref r), (.int (0 : Int32)), (.int (1 : Int32))] [(.int (1 : Int32)), (.int (0 : Int32)), (.ref r), (.ref a)] rfl  (c_hash l Z a0 hw n0 r 1 (fun j => [x0].getD j 0) (0 : Int32) (1 : Int32) h_534 Z_534 p_534f0 (by decide)) e_534 rfl (lenOf pd___BII_I rfl) (by decide) 4 (Nat.le_of_eq rfl) (by decide) (by decide) (by decide) N_534 ?_
  rintro _ T_554 h_554 locs_554 X_554 q_554 ⟨rfl, r_554⟩ N_554
  have e_554 := q_554.trans r_554
  show OGo p e below _ n0 _ (T_554.setTop (mkF m 20 #[.val (.ref a), .val (.ref sx), .val (.ref r)] [(.int (own_hash [x0] (1 : Int32))), (.int (1 : Int32)), (.int (0 : Int32)), (.ref r), (.ref a)]))
  refine o_invokevirtual X_554 K d12_20 23 rfl (w_107 hw) (w_108 hw) (w_110 hw) (w_109 hw) (w_46 hw) (w_111 hw) (by decide) f_543 [(.ref r), (.int (0 : Int32)), (.int (1 : Int32)), (.int (own_hash [x0] (1 : Int32)))] [] rfl  (c_n4I l Z a0 hw n0 a r ba sa la _ _ _ s0 (1 : Int32) u ct (own_hash [x0] (1 : Int32)) pf (own_key [x0] (1 : Int32)) h_534 Z_534 f_543 f_544 f_545 f_546 f_547 f_548 f_549 f_550 g_a p_534f0 f_551 g_ba f_552 g_sa ne_a_ba ne_a_sa ne_ba_sa (Ne.symm ne_a_r) (Ne.symm ne_ba_r) (Ne.symm ne_sa_r) (by decide) (hu) (hct) f_553 g_la ne_la_a ne_la_ba ne_la_sa ne_la_r (c_key1 l Z a0 hw n0 r x0 h_534 Z_534 p_534f0) (hI)) e_554 rfl (lenOf pd___BIII_I rfl) (by decide) 0 (Nat.le_of_eq rfl) (by decide) (by decide) (by decide) N_554 ?_
  rintro _ T_555 h_555 locs_555 X_555 e_555 ⟨rfl, k_555, p_555f0, p_555f1, p_555f2, p_555f3, p_555f4, p_555f5, p_555f6, p_555f7, p_555f8, p_555f9, p_555f10⟩ N_555
  have Z_555 : n0 ≤ h_555.size := Nat.le_trans Z_534 k_555.1
  have K_555 := K_534.trans k_555 (allS (Or.inl (by simp)) (allS (Or.inl (by simp)) (allS (Or.inl (by simp)) (allS (Or.inl (by simp)) (all0)))))
  have f_556 := o_sta_keep f_535 k_555 (o_plainS f_543 (o_plainR f_551 (o_plainR f_552 (o_plainR f_553 (o_plain0)))))
  have f_557 := o_sta_keep f_536 k_555 (o_plainS f_543 (o_plainR f_551 (o_plainR f_552 (o_plainR f_553 (o_plain0)))))
  have f_558 := o_sta_keep f_537 k_555 (o_plainS f_543 (o_plainR f_551 (o_plainR f_552 (o_plainR f_553 (o_plain0)))))
  have f_559 := Exa.keep f_538 k_555
  have f_560 := Fld.keep f_539 k_555 (ninS ne_sx_a (ninS ne_sx_ba (ninS ne_sx_sa (ninS ne_sx_la (nin0)))))
  have f_561 := Fld.keep f_540 k_555 (ninS ne_sx_a (ninS ne_sx_ba (ninS ne_sx_sa (ninS ne_sx_la (nin0)))))
  have f_562 := f_541.keep k_555 (ninS ne_t_a (ninS ne_t_ba (ninS ne_t_sa (ninS ne_t_la (nin0)))))
  have f_563 := Exa.keep f_542 k_555
  have f_564 := Exa.keep f_543 k_555
  have f_565 := p_534f0.keep k_555 (ninS (Ne.symm ne_a_r) (ninS (Ne.symm ne_ba_r) (ninS (Ne.symm ne_sa_r) (ninS (Ne.symm ne_la_r) (nin0)))))
  have f_566 := Exa.keep p_534f1 k_555
  show OGo p e below _ n0 _ (T_555.setTop (mkF m 23 #[.val (.ref a), .val (.ref sx), .val (.ref r)] [(.int ct)]))
  refine o_ireturn X_555 K d12_23 (by decide) (by decide) N_555 ?_
  rw [e_555]
  exact ⟨rfl, K_555, p_555f0, p_555f1, p_555f2, p_555f3, p_555f4, p_555f5, p_555f6, p_555f7, p_555f8, p_555f9, p_555f10⟩
set_option maxHeartbeats 4000000 in
theorem c_nSI_n (l : Launch) (Z : State) (a0 : Array Value) (hw : OW Z a0) (n0 : Nat) (a sx t u8 ba sa la : Addr) (x0 zcs u ct : Int32) (fb fs : Nat → Value) (s0 : Nat → Int64) (pf : Int64) (h0 : Heap) (Z0 : n0 ≤ h0.size) (S_COMPACT_STRINGS : Sta Z h0 "java/lang/String" "COMPACT_STRINGS" "Z" (.int zcs)) (hcs : ¬ zcs = 0) (S_INSTANCE : Sta Z h0 "sun/nio/cs/UTF_8" "INSTANCE" "Lsun/nio/cs/UTF_8;" (.ref u8)) (S_UTF_8 : Sta Z h0 "java/nio/charset/StandardCharsets" "UTF_8" "Ljava/nio/charset/Charset;" (.ref u8)) (E_sx : Exa Z h0 sx "java/lang/String") (F_sx_value : Fld Z h0 sx "java/lang/String" "value" "[B" (.ref t)) (F_sx_coder : Fld Z h0 sx "java/lang/String" "coder" "B" (.int (0 : Int32))) (A_t : OAr Z h0 t .byte 1 (own_B [x0])) (E_t : Exa Z h0 t "[B") (hs0 : x0.toInt < 0) (hb0 : nar .byte x0 = x0) (E_a : Exa Z h0 a "com/example/vikt/vikt/graph/NameTable") (F_a_bytes : Fld Z h0 a "com/example/vikt/vikt/graph/NameTable" "bytes" "[B" (.ref ba)) (F_a_starts : Fld Z h0 a "com/example/vikt/vikt/graph/NameTable" "starts" "[I" (.ref sa)) (F_a_slots : Fld Z h0 a "com/example/vikt/vikt/graph/NameTable" "slots" "[J" (.ref la)) (F_a_mask : Fld Z h0 a "com/example/vikt/vikt/graph/NameTable" "mask" "I" (.int (1023 : Int32))) (F_a_count : Fld Z h0 a "com/example/vikt/vikt/graph/NameTable" "count" "I" (.int ct)) (F_a_used : Fld Z h0 a "com/example/vikt/vikt/graph/NameTable" "used" "I" (.int u)) (F_a_prefetched : Fld Z h0 a "com/example/vikt/vikt/graph/NameTable" "prefetched" "J" (.long pf)) (g_a : n0 ≤ a) (A_ba : OAr Z h0 ba .byte 4096 fb) (g_ba : n0 ≤ ba) (A_sa : OAr Z h0 sa .int 1025 fs) (g_sa : n0 ≤ sa) (A_la : OAr Z h0 la .long 2048 (fun q => .long (s0 q))) (g_la : n0 ≤ la) (ne_a_ba : a ≠ ba) (ne_a_sa : a ≠ sa) (ne_ba_sa : ba ≠ sa) (ne_la_a : la ≠ a) (ne_la_ba : la ≠ ba) (ne_la_sa : la ≠ sa) (ne_sx_a : sx ≠ a) (ne_sx_ba : sx ≠ ba) (ne_sx_sa : sx ≠ sa) (ne_sx_la : sx ≠ la) (ne_t_a : t ≠ a) (ne_t_ba : t ≠ ba) (ne_t_sa : t ≠ sa) (ne_t_la : t ≠ la) (hu : 0 ≤ u.toInt ∧ u.toInt ≤ 100) (hct : 0 ≤ ct.toInt ∧ ct.toInt ≤ 100) (hI : s0 (2 * ((own_hash [(own_e1 x0), (own_e2 x0)] (2 : Int32)) &&& (1023 : Int32)).toInt.toNat + 1) = 0) :
    OCon l Z n0 (⟨"com/example/vikt/vikt/graph/NameTable", "number", "(Ljava/lang/String;)I"⟩ : MethodName) prog_7_method_3_code 3 (some .int) ({ frames := 5, cells := 2, slots := 7, locals := 115 } : Room) #[(.ref a), (.ref sx)] h0 (fun v h => v = some (.int ct) ∧ Keep h0 h [a, ba, sa, la] ∧ Exa Z h a "com/example/vikt/vikt/graph/NameTable" ∧ Fld Z h a "com/example/vikt/vikt/graph/NameTable" "bytes" "[B" (.ref ba) ∧ Fld Z h a "com/example/vikt/vikt/graph/NameTable" "starts" "[I" (.ref sa) ∧ Fld Z h a "com/example/vikt/vikt/graph/NameTable" "slots" "[J" (.ref la) ∧ Fld Z h a "com/example/vikt/vikt/graph/NameTable" "mask" "I" (.int (1023 : Int32)) ∧ Fld Z h a "com/example/vikt/vikt/graph/NameTable" "count" "I" (.int (ct + (1 : Int32))) ∧ Fld Z h a "com/example/vikt/vikt/graph/NameTable" "used" "I" (.int (u + ((2 : Int32) - (0 : Int32)))) ∧ Fld Z h a "com/example/vikt/vikt/graph/NameTable" "prefetched" "J" (.long pf) ∧ OAr Z h ba .byte 4096 (own_cp u.toInt.toNat (2 : Int32).toInt.toNat (own_B [(own_e1 x0), (own_e2 x0)]) fb) ∧ OAr Z h sa .int 1025 (own_st (ct + (1 : Int32)).toInt.toNat (.int (u + ((2 : Int32) - (0 : Int32)))) fs) ∧ OAr Z h la .long 2048 (fun q => .long ((own_put (2 * ((own_hash [(own_e1 x0), (own_e2 x0)] (2 : Int32)) &&& (1023 : Int32)).toInt.toNat) (2 * ((own_hash [(own_e1 x0), (own_e2 x0)] (2 : Int32)) &&& (1023 : Int32)).toInt.toNat + 1) (((own_hash [(own_e1 x0), (own_e2 x0)] (2 : Int32)).toInt64 <<< ((32 : Int32) &&& 0x3f).toInt64) ||| ((ct + (1 : Int32)).toInt64)) (own_key [(own_e1 x0), (own_e2 x0)] (2 : Int32)) s0) q))) := by
  refine OCon.of (Ls := #[.val (.ref a), .val (.ref sx), .unset]) pn_12 rfl rfl (fun m => by first | (simp [entryFrame, mkF, argsToLocals, Value.category]; done) | rfl) ?_
  intro p e s m below meth c T0 X0 K e0
  have N0 := Fr.nil n0
  have KK0 := Keep.refl h0 [a, ba, sa, la]
  refine o_aloadN X0 K d12_0 1 rfl rfl rfl ?_
  refine o_getstatic X0 K (host := "") d12_1 4 rfl (Or.inl (w_66 hw)) Via.refl e0 S_UTF_8 ?_
  intro T_567 X_567 e_567
  refine o_invokevirtual X_567 K d12_4 7 rfl (w_68 hw) (w_69 hw) (w_71 hw) (w_70 hw) (w_2 hw) (w_72 hw) (by decide) E_sx [(.ref u8)] [] rfl  (c_gb_n l Z a0 hw n0 sx t u8 x0 zcs h0 Z0 S_COMPACT_STRINGS (hcs) S_INSTANCE E_sx F_sx_value F_sx_coder A_t E_t (hs0) (hb0)) e_567 rfl (lenOf pd__Ljava_nio_charset_Charset___B rfl) (by decide) 0 (Nat.le_of_eq rfl) (by decide) (by decide) (by decide) N0 ?_
  rintro _ T_568 h_568 locs_568 X_568 e_568 ⟨r, rfl, k_568, gg_568_r, sz_568_r, p_568f0, p_568f1⟩ N_568
  have Z_568 : n0 ≤ h_568.size := Nat.le_trans Z0 k_568.1
  have K_568 := KK0.trans k_568 (all0)
  have f_569 := o_sta_keep S_COMPACT_STRINGS k_568 (o_plain0)
  have f_570 := o_sta_keep S_INSTANCE k_568 (o_plain0)
  have f_571 := o_sta_keep S_UTF_8 k_568 (o_plain0)
  have f_572 := Exa.keep E_sx k_568
  have f_573 := Fld.keep F_sx_value k_568 (nin0)
  have f_574 := Fld.keep F_sx_coder k_568 (nin0)
  have f_575 := A_t.keep k_568 (nin0)
  have f_576 := Exa.keep E_t k_568
  have f_577 := Exa.keep E_a k_568
  have f_578 := Fld.keep F_a_bytes k_568 (nin0)
  have f_579 := Fld.keep F_a_starts k_568 (nin0)
  have f_580 := Fld.keep F_a_slots k_568 (nin0)
  have f_581 := Fld.keep F_a_mask k_568 (nin0)
  have f_582 := Fld.keep F_a_count k_568 (nin0)
  have f_583 := Fld.keep F_a_used k_568 (nin0)
  have f_584 := Fld.keep F_a_prefetched k_568 (nin0)
  have f_585 := A_ba.keep k_568 (nin0)
  have f_586 := A_sa.keep k_568 (nin0)
  have f_587 := A_la.keep k_568 (nin0)
  have ne_sx_r : sx ≠ r := Nat.ne_of_lt (Nat.lt_of_lt_of_le E_sx.lt sz_568_r)
  have ne_t_r : t ≠ r := Nat.ne_of_lt (Nat.lt_of_lt_of_le A_t.lt sz_568_r)
  have ne_a_r : a ≠ r := Nat.ne_of_lt (Nat.lt_of_lt_of_le E_a.lt sz_568_r)
  have ne_ba_r : ba ≠ r := Nat.ne_of_lt (Nat.lt_of_lt_of_le A_ba.lt sz_568_r)
  have ne_sa_r : sa ≠ r := Nat.ne_of_lt (Nat.lt_of_lt_of_le A_sa.lt sz_568_r)
  have ne_la_r : la ≠ r := Nat.ne_of_lt (Nat.lt_of_lt_of_le A_la.lt sz_568_r)
  have sz_r : h0.size ≤ r := Nat.le_trans KK0.1 sz_568_r
  show OGo p e below _ n0 _ (T_568.setTop (mkF m 7 #[.val (.ref a), .val (.ref sx), .unset] [(.ref r)]))
  refine o_astoreN X_568 K d12_7 8 rfl #[.val (.ref a), .val (.ref sx), .val (.ref r)] rfl rfl ?_
  refine o_aloadN X_568 K d12_8 9 rfl rfl rfl ?_
  refine o_aloadN X_568 K d12_9 10 rfl rfl rfl ?_
  refine o_iconst X_568 K (0 : Int32) d12_10 11 rfl rfl ?_
  refine o_aloadN X_568 K d12_11 12 rfl rfl rfl ?_
  refine o_arraylength X_568 K d12_12 13 rfl e_568 p_568f0 (v := (2 : Int32)) (rfl) ?_
  refine o_aloadN X_568 K d12_13 14 rfl rfl rfl ?_
  refine o_iconst X_568 K (0 : Int32) d12_14 15 rfl rfl ?_
  refine o_aloadN X_568 K d12_15 16 rfl rfl rfl ?_
  refine o_arraylength X_568 K d12_16 17 rfl e_568 p_568f0 (v := (2 : Int32)) (rfl) ?_
  refine o_invokestatic X_568 K d12_17 20 rfl (w_102 hw) (w_103 hw) (w_46 hw) (w_104 hw) (by decide) [(.ref r), (.int (0 : Int32)), (.int (2 : Int32))] [(.int (2 : Int32)), (.int (0 : Int32)), (.ref r), (.ref a)] rfl  (c_hash l Z a0 hw n0 r 2 (fun j => [(own_e1 x0), (own_e2 x0)].getD j 0) (0 : Int32) (2 : Int32) h_568 Z_568 p_568f0 (by decide)) e_568 rfl (lenOf pd___BII_I rfl) (by decide) 4 (Nat.le_of_eq rfl) (by decide) (by decide) (by decide) N_568 ?_
  rintro _ T_588 h_588 locs_588 X_588 q_588 ⟨rfl, r_588⟩ N_588
  have e_588 := q_588.trans r_588
  show OGo p e below _ n0 _ (T_588.setTop (mkF m 20 #[.val (.ref a), .val (.ref sx), .val (.ref r)] [(.int (own_hash [(own_e1 x0), (own_e2 x0)] (2 : Int32))), (.int (2 : Int32)), (.int (0 : Int32)), (.ref r), (.ref a)]))
  refine o_invokevirtual X_588 K d12_20 23 rfl (w_107 hw) (w_108 hw) (w_110 hw) (w_109 hw) (w_46 hw) (w_111 hw) (by decide) f_577 [(.ref r), (.int (0 : Int32)), (.int (2 : Int32)), (.int (own_hash [(own_e1 x0), (own_e2 x0)] (2 : Int32)))] [] rfl  (c_n4I l Z a0 hw n0 a r ba sa la _ _ _ s0 (2 : Int32) u ct (own_hash [(own_e1 x0), (own_e2 x0)] (2 : Int32)) pf (own_key [(own_e1 x0), (own_e2 x0)] (2 : Int32)) h_568 Z_568 f_577 f_578 f_579 f_580 f_581 f_582 f_583 f_584 g_a p_568f0 f_585 g_ba f_586 g_sa ne_a_ba ne_a_sa ne_ba_sa (Ne.symm ne_a_r) (Ne.symm ne_ba_r) (Ne.symm ne_sa_r) (by decide) (hu) (hct) f_587 g_la ne_la_a ne_la_ba ne_la_sa ne_la_r (c_key2 l Z a0 hw n0 r (own_e1 x0) (own_e2 x0) h_568 Z_568 p_568f0) (hI)) e_588 rfl (lenOf pd___BIII_I rfl) (by decide) 0 (Nat.le_of_eq rfl) (by decide) (by decide) (by decide) N_588 ?_
  rintro _ T_589 h_589 locs_589 X_589 e_589 ⟨rfl, k_589, p_589f0, p_589f1, p_589f2, p_589f3, p_589f4, p_589f5, p_589f6, p_589f7, p_589f8, p_589f9, p_589f10⟩ N_589
  have Z_589 : n0 ≤ h_589.size := Nat.le_trans Z_568 k_589.1
  have K_589 := K_568.trans k_589 (allS (Or.inl (by simp)) (allS (Or.inl (by simp)) (allS (Or.inl (by simp)) (allS (Or.inl (by simp)) (all0)))))
  have f_590 := o_sta_keep f_569 k_589 (o_plainS f_577 (o_plainR f_585 (o_plainR f_586 (o_plainR f_587 (o_plain0)))))
  have f_591 := o_sta_keep f_570 k_589 (o_plainS f_577 (o_plainR f_585 (o_plainR f_586 (o_plainR f_587 (o_plain0)))))
  have f_592 := o_sta_keep f_571 k_589 (o_plainS f_577 (o_plainR f_585 (o_plainR f_586 (o_plainR f_587 (o_plain0)))))
  have f_593 := Exa.keep f_572 k_589
  have f_594 := Fld.keep f_573 k_589 (ninS ne_sx_a (ninS ne_sx_ba (ninS ne_sx_sa (ninS ne_sx_la (nin0)))))
  have f_595 := Fld.keep f_574 k_589 (ninS ne_sx_a (ninS ne_sx_ba (ninS ne_sx_sa (ninS ne_sx_la (nin0)))))
  have f_596 := f_575.keep k_589 (ninS ne_t_a (ninS ne_t_ba (ninS ne_t_sa (ninS ne_t_la (nin0)))))
  have f_597 := Exa.keep f_576 k_589
  have f_598 := Exa.keep f_577 k_589
  have f_599 := p_568f0.keep k_589 (ninS (Ne.symm ne_a_r) (ninS (Ne.symm ne_ba_r) (ninS (Ne.symm ne_sa_r) (ninS (Ne.symm ne_la_r) (nin0)))))
  have f_600 := Exa.keep p_568f1 k_589
  show OGo p e below _ n0 _ (T_589.setTop (mkF m 23 #[.val (.ref a), .val (.ref sx), .val (.ref r)] [(.int ct)]))
  refine o_ireturn X_589 K d12_23 (by decide) (by decide) N_589 ?_
  rw [e_589]
  exact ⟨rfl, K_589, p_589f0, p_589f1, p_589f2, p_589f3, p_589f4, p_589f5, p_589f6, p_589f7, p_589f8, p_589f9, p_589f10⟩
set_option maxHeartbeats 4000000 in
theorem c_nSI_pp (l : Launch) (Z : State) (a0 : Array Value) (hw : OW Z a0) (n0 : Nat) (a sx t u8 ba sa la : Addr) (x0 x1 zcs u ct : Int32) (fb fs : Nat → Value) (s0 : Nat → Int64) (pf : Int64) (h0 : Heap) (Z0 : n0 ≤ h0.size) (S_COMPACT_STRINGS : Sta Z h0 "java/lang/String" "COMPACT_STRINGS" "Z" (.int zcs)) (hcs : ¬ zcs = 0) (S_INSTANCE : Sta Z h0 "sun/nio/cs/UTF_8" "INSTANCE" "Lsun/nio/cs/UTF_8;" (.ref u8)) (S_UTF_8 : Sta Z h0 "java/nio/charset/StandardCharsets" "UTF_8" "Ljava/nio/charset/Charset;" (.ref u8)) (E_sx : Exa Z h0 sx "java/lang/String") (F_sx_value : Fld Z h0 sx "java/lang/String" "value" "[B" (.ref t)) (F_sx_coder : Fld Z h0 sx "java/lang/String" "coder" "B" (.int (0 : Int32))) (A_t : OAr Z h0 t .byte 2 (own_B [x0, x1])) (E_t : Exa Z h0 t "[B") (hs0 : 0 ≤ x0.toInt) (hb0 : nar .byte x0 = x0) (hs1 : 0 ≤ x1.toInt) (hb1 : nar .byte x1 = x1) (E_a : Exa Z h0 a "com/example/vikt/vikt/graph/NameTable") (F_a_bytes : Fld Z h0 a "com/example/vikt/vikt/graph/NameTable" "bytes" "[B" (.ref ba)) (F_a_starts : Fld Z h0 a "com/example/vikt/vikt/graph/NameTable" "starts" "[I" (.ref sa)) (F_a_slots : Fld Z h0 a "com/example/vikt/vikt/graph/NameTable" "slots" "[J" (.ref la)) (F_a_mask : Fld Z h0 a "com/example/vikt/vikt/graph/NameTable" "mask" "I" (.int (1023 : Int32))) (F_a_count : Fld Z h0 a "com/example/vikt/vikt/graph/NameTable" "count" "I" (.int ct)) (F_a_used : Fld Z h0 a "com/example/vikt/vikt/graph/NameTable" "used" "I" (.int u)) (F_a_prefetched : Fld Z h0 a "com/example/vikt/vikt/graph/NameTable" "prefetched" "J" (.long pf)) (g_a : n0 ≤ a) (A_ba : OAr Z h0 ba .byte 4096 fb) (g_ba : n0 ≤ ba) (A_sa : OAr Z h0 sa .int 1025 fs) (g_sa : n0 ≤ sa) (A_la : OAr Z h0 la .long 2048 (fun q => .long (s0 q))) (g_la : n0 ≤ la) (ne_a_ba : a ≠ ba) (ne_a_sa : a ≠ sa) (ne_ba_sa : ba ≠ sa) (ne_la_a : la ≠ a) (ne_la_ba : la ≠ ba) (ne_la_sa : la ≠ sa) (ne_sx_a : sx ≠ a) (ne_sx_ba : sx ≠ ba) (ne_sx_sa : sx ≠ sa) (ne_sx_la : sx ≠ la) (ne_t_a : t ≠ a) (ne_t_ba : t ≠ ba) (ne_t_sa : t ≠ sa) (ne_t_la : t ≠ la) (hu : 0 ≤ u.toInt ∧ u.toInt ≤ 100) (hct : 0 ≤ ct.toInt ∧ ct.toInt ≤ 100) (hI : s0 (2 * ((own_hash [x0, x1] (2 : Int32)) &&& (1023 : Int32)).toInt.toNat + 1) = 0) :
    OCon l Z n0 (⟨"com/example/vikt/vikt/graph/NameTable", "number", "(Ljava/lang/String;)I"⟩ : MethodName) prog_7_method_3_code 3 (some .int) ({ frames := 5, cells := 2, slots := 7, locals := 115 } : Room) #[(.ref a), (.ref sx)] h0 (fun v h => v = some (.int ct) ∧ Keep h0 h [a, ba, sa, la] ∧ Exa Z h a "com/example/vikt/vikt/graph/NameTable" ∧ Fld Z h a "com/example/vikt/vikt/graph/NameTable" "bytes" "[B" (.ref ba) ∧ Fld Z h a "com/example/vikt/vikt/graph/NameTable" "starts" "[I" (.ref sa) ∧ Fld Z h a "com/example/vikt/vikt/graph/NameTable" "slots" "[J" (.ref la) ∧ Fld Z h a "com/example/vikt/vikt/graph/NameTable" "mask" "I" (.int (1023 : Int32)) ∧ Fld Z h a "com/example/vikt/vikt/graph/NameTable" "count" "I" (.int (ct + (1 : Int32))) ∧ Fld Z h a "com/example/vikt/vikt/graph/NameTable" "used" "I" (.int (u + ((2 : Int32) - (0 : Int32)))) ∧ Fld Z h a "com/example/vikt/vikt/graph/NameTable" "prefetched" "J" (.long pf) ∧ OAr Z h ba .byte 4096 (own_cp u.toInt.toNat (2 : Int32).toInt.toNat (own_B [x0, x1]) fb) ∧ OAr Z h sa .int 1025 (own_st (ct + (1 : Int32)).toInt.toNat (.int (u + ((2 : Int32) - (0 : Int32)))) fs) ∧ OAr Z h la .long 2048 (fun q => .long ((own_put (2 * ((own_hash [x0, x1] (2 : Int32)) &&& (1023 : Int32)).toInt.toNat) (2 * ((own_hash [x0, x1] (2 : Int32)) &&& (1023 : Int32)).toInt.toNat + 1) (((own_hash [x0, x1] (2 : Int32)).toInt64 <<< ((32 : Int32) &&& 0x3f).toInt64) ||| ((ct + (1 : Int32)).toInt64)) (own_key [x0, x1] (2 : Int32)) s0) q))) := by
  refine OCon.of (Ls := #[.val (.ref a), .val (.ref sx), .unset]) pn_12 rfl rfl (fun m => by first | (simp [entryFrame, mkF, argsToLocals, Value.category]; done) | rfl) ?_
  intro p e s m below meth c T0 X0 K e0
  have N0 := Fr.nil n0
  have KK0 := Keep.refl h0 [a, ba, sa, la]
  refine o_aloadN X0 K d12_0 1 rfl rfl rfl ?_
  refine o_getstatic X0 K (host := "") d12_1 4 rfl (Or.inl (w_66 hw)) Via.refl e0 S_UTF_8 ?_
  intro T_601 X_601 e_601
  refine o_invokevirtual X_601 K d12_4 7 rfl (w_68 hw) (w_69 hw) (w_71 hw) (w_70 hw) (w_2 hw) (w_72 hw) (by decide) E_sx [(.ref u8)] [] rfl  (c_gb_pp l Z a0 hw n0 sx t u8 x0 x1 zcs h0 Z0 S_COMPACT_STRINGS (hcs) S_INSTANCE E_sx F_sx_value F_sx_coder A_t E_t (hs0) (hb0) (hs1) (hb1)) e_601 rfl (lenOf pd__Ljava_nio_charset_Charset___B rfl) (by decide) 0 (Nat.le_of_eq rfl) (by decide) (by decide) (by decide) N0 ?_
  rintro _ T_602 h_602 locs_602 X_602 e_602 ⟨r, rfl, k_602, gg_602_r, sz_602_r, p_602f0, p_602f1⟩ N_602
  have Z_602 : n0 ≤ h_602.size := Nat.le_trans Z0 k_602.1
  have K_602 := KK0.trans k_602 (all0)
  have f_603 := o_sta_keep S_COMPACT_STRINGS k_602 (o_plain0)
  have f_604 := o_sta_keep S_INSTANCE k_602 (o_plain0)
  have f_605 := o_sta_keep S_UTF_8 k_602 (o_plain0)
  have f_606 := Exa.keep E_sx k_602
  have f_607 := Fld.keep F_sx_value k_602 (nin0)
  have f_608 := Fld.keep F_sx_coder k_602 (nin0)
  have f_609 := A_t.keep k_602 (nin0)
  have f_610 := Exa.keep E_t k_602
  have f_611 := Exa.keep E_a k_602
  have f_612 := Fld.keep F_a_bytes k_602 (nin0)
  have f_613 := Fld.keep F_a_starts k_602 (nin0)
  have f_614 := Fld.keep F_a_slots k_602 (nin0)
  have f_615 := Fld.keep F_a_mask k_602 (nin0)
  have f_616 := Fld.keep F_a_count k_602 (nin0)
  have f_617 := Fld.keep F_a_used k_602 (nin0)
  have f_618 := Fld.keep F_a_prefetched k_602 (nin0)
  have f_619 := A_ba.keep k_602 (nin0)
  have f_620 := A_sa.keep k_602 (nin0)
  have f_621 := A_la.keep k_602 (nin0)
  have ne_sx_r : sx ≠ r := Nat.ne_of_lt (Nat.lt_of_lt_of_le E_sx.lt sz_602_r)
  have ne_t_r : t ≠ r := Nat.ne_of_lt (Nat.lt_of_lt_of_le A_t.lt sz_602_r)
  have ne_a_r : a ≠ r := Nat.ne_of_lt (Nat.lt_of_lt_of_le E_a.lt sz_602_r)
  have ne_ba_r : ba ≠ r := Nat.ne_of_lt (Nat.lt_of_lt_of_le A_ba.lt sz_602_r)
  have ne_sa_r : sa ≠ r := Nat.ne_of_lt (Nat.lt_of_lt_of_le A_sa.lt sz_602_r)
  have ne_la_r : la ≠ r := Nat.ne_of_lt (Nat.lt_of_lt_of_le A_la.lt sz_602_r)
  have sz_r : h0.size ≤ r := Nat.le_trans KK0.1 sz_602_r
  show OGo p e below _ n0 _ (T_602.setTop (mkF m 7 #[.val (.ref a), .val (.ref sx), .unset] [(.ref r)]))
  refine o_astoreN X_602 K d12_7 8 rfl #[.val (.ref a), .val (.ref sx), .val (.ref r)] rfl rfl ?_
  refine o_aloadN X_602 K d12_8 9 rfl rfl rfl ?_
  refine o_aloadN X_602 K d12_9 10 rfl rfl rfl ?_
  refine o_iconst X_602 K (0 : Int32) d12_10 11 rfl rfl ?_
  refine o_aloadN X_602 K d12_11 12 rfl rfl rfl ?_
  refine o_arraylength X_602 K d12_12 13 rfl e_602 p_602f0 (v := (2 : Int32)) (rfl) ?_
  refine o_aloadN X_602 K d12_13 14 rfl rfl rfl ?_
  refine o_iconst X_602 K (0 : Int32) d12_14 15 rfl rfl ?_
  refine o_aloadN X_602 K d12_15 16 rfl rfl rfl ?_
  refine o_arraylength X_602 K d12_16 17 rfl e_602 p_602f0 (v := (2 : Int32)) (rfl) ?_
  refine o_invokestatic X_602 K d12_17 20 rfl (w_102 hw) (w_103 hw) (w_46 hw) (w_104 hw) (by decide) [(.ref r), (.int (0 : Int32)), (.int (2 : Int32))] [(.int (2 : Int32)), (.int (0 : Int32)), (.ref r), (.ref a)] rfl  (c_hash l Z a0 hw n0 r 2 (fun j => [x0, x1].getD j 0) (0 : Int32) (2 : Int32) h_602 Z_602 p_602f0 (by decide)) e_602 rfl (lenOf pd___BII_I rfl) (by decide) 4 (Nat.le_of_eq rfl) (by decide) (by decide) (by decide) N_602 ?_
  rintro _ T_622 h_622 locs_622 X_622 q_622 ⟨rfl, r_622⟩ N_622
  have e_622 := q_622.trans r_622
  show OGo p e below _ n0 _ (T_622.setTop (mkF m 20 #[.val (.ref a), .val (.ref sx), .val (.ref r)] [(.int (own_hash [x0, x1] (2 : Int32))), (.int (2 : Int32)), (.int (0 : Int32)), (.ref r), (.ref a)]))
  refine o_invokevirtual X_622 K d12_20 23 rfl (w_107 hw) (w_108 hw) (w_110 hw) (w_109 hw) (w_46 hw) (w_111 hw) (by decide) f_611 [(.ref r), (.int (0 : Int32)), (.int (2 : Int32)), (.int (own_hash [x0, x1] (2 : Int32)))] [] rfl  (c_n4I l Z a0 hw n0 a r ba sa la _ _ _ s0 (2 : Int32) u ct (own_hash [x0, x1] (2 : Int32)) pf (own_key [x0, x1] (2 : Int32)) h_602 Z_602 f_611 f_612 f_613 f_614 f_615 f_616 f_617 f_618 g_a p_602f0 f_619 g_ba f_620 g_sa ne_a_ba ne_a_sa ne_ba_sa (Ne.symm ne_a_r) (Ne.symm ne_ba_r) (Ne.symm ne_sa_r) (by decide) (hu) (hct) f_621 g_la ne_la_a ne_la_ba ne_la_sa ne_la_r (c_key2 l Z a0 hw n0 r x0 x1 h_602 Z_602 p_602f0) (hI)) e_622 rfl (lenOf pd___BIII_I rfl) (by decide) 0 (Nat.le_of_eq rfl) (by decide) (by decide) (by decide) N_622 ?_
  rintro _ T_623 h_623 locs_623 X_623 e_623 ⟨rfl, k_623, p_623f0, p_623f1, p_623f2, p_623f3, p_623f4, p_623f5, p_623f6, p_623f7, p_623f8, p_623f9, p_623f10⟩ N_623
  have Z_623 : n0 ≤ h_623.size := Nat.le_trans Z_602 k_623.1
  have K_623 := K_602.trans k_623 (allS (Or.inl (by simp)) (allS (Or.inl (by simp)) (allS (Or.inl (by simp)) (allS (Or.inl (by simp)) (all0)))))
  have f_624 := o_sta_keep f_603 k_623 (o_plainS f_611 (o_plainR f_619 (o_plainR f_620 (o_plainR f_621 (o_plain0)))))
  have f_625 := o_sta_keep f_604 k_623 (o_plainS f_611 (o_plainR f_619 (o_plainR f_620 (o_plainR f_621 (o_plain0)))))
  have f_626 := o_sta_keep f_605 k_623 (o_plainS f_611 (o_plainR f_619 (o_plainR f_620 (o_plainR f_621 (o_plain0)))))
  have f_627 := Exa.keep f_606 k_623
  have f_628 := Fld.keep f_607 k_623 (ninS ne_sx_a (ninS ne_sx_ba (ninS ne_sx_sa (ninS ne_sx_la (nin0)))))
  have f_629 := Fld.keep f_608 k_623 (ninS ne_sx_a (ninS ne_sx_ba (ninS ne_sx_sa (ninS ne_sx_la (nin0)))))
  have f_630 := f_609.keep k_623 (ninS ne_t_a (ninS ne_t_ba (ninS ne_t_sa (ninS ne_t_la (nin0)))))
  have f_631 := Exa.keep f_610 k_623
  have f_632 := Exa.keep f_611 k_623
  have f_633 := p_602f0.keep k_623 (ninS (Ne.symm ne_a_r) (ninS (Ne.symm ne_ba_r) (ninS (Ne.symm ne_sa_r) (ninS (Ne.symm ne_la_r) (nin0)))))
  have f_634 := Exa.keep p_602f1 k_623
  show OGo p e below _ n0 _ (T_623.setTop (mkF m 23 #[.val (.ref a), .val (.ref sx), .val (.ref r)] [(.int ct)]))
  refine o_ireturn X_623 K d12_23 (by decide) (by decide) N_623 ?_
  rw [e_623]
  exact ⟨rfl, K_623, p_623f0, p_623f1, p_623f2, p_623f3, p_623f4, p_623f5, p_623f6, p_623f7, p_623f8, p_623f9, p_623f10⟩
set_option maxHeartbeats 4000000 in
theorem c_nSI_pn (l : Launch) (Z : State) (a0 : Array Value) (hw : OW Z a0) (n0 : Nat) (a sx t u8 ba sa la : Addr) (x0 x1 zcs u ct : Int32) (fb fs : Nat → Value) (s0 : Nat → Int64) (pf : Int64) (h0 : Heap) (Z0 : n0 ≤ h0.size) (S_COMPACT_STRINGS : Sta Z h0 "java/lang/String" "COMPACT_STRINGS" "Z" (.int zcs)) (hcs : ¬ zcs = 0) (S_INSTANCE : Sta Z h0 "sun/nio/cs/UTF_8" "INSTANCE" "Lsun/nio/cs/UTF_8;" (.ref u8)) (S_UTF_8 : Sta Z h0 "java/nio/charset/StandardCharsets" "UTF_8" "Ljava/nio/charset/Charset;" (.ref u8)) (E_sx : Exa Z h0 sx "java/lang/String") (F_sx_value : Fld Z h0 sx "java/lang/String" "value" "[B" (.ref t)) (F_sx_coder : Fld Z h0 sx "java/lang/String" "coder" "B" (.int (0 : Int32))) (A_t : OAr Z h0 t .byte 2 (own_B [x0, x1])) (E_t : Exa Z h0 t "[B") (hs0 : 0 ≤ x0.toInt) (hb0 : nar .byte x0 = x0) (hs1 : x1.toInt < 0) (hb1 : nar .byte x1 = x1) (E_a : Exa Z h0 a "com/example/vikt/vikt/graph/NameTable") (F_a_bytes : Fld Z h0 a "com/example/vikt/vikt/graph/NameTable" "bytes" "[B" (.ref ba)) (F_a_starts : Fld Z h0 a "com/example/vikt/vikt/graph/NameTable" "starts" "[I" (.ref sa)) (F_a_slots : Fld Z h0 a "com/example/vikt/vikt/graph/NameTable" "slots" "[J" (.ref la)) (F_a_mask : Fld Z h0 a "com/example/vikt/vikt/graph/NameTable" "mask" "I" (.int (1023 : Int32))) (F_a_count : Fld Z h0 a "com/example/vikt/vikt/graph/NameTable" "count" "I" (.int ct)) (F_a_used : Fld Z h0 a "com/example/vikt/vikt/graph/NameTable" "used" "I" (.int u)) (F_a_prefetched : Fld Z h0 a "com/example/vikt/vikt/graph/NameTable" "prefetched" "J" (.long pf)) (g_a : n0 ≤ a) (A_ba : OAr Z h0 ba .byte 4096 fb) (g_ba : n0 ≤ ba) (A_sa : OAr Z h0 sa .int 1025 fs) (g_sa : n0 ≤ sa) (A_la : OAr Z h0 la .long 2048 (fun q => .long (s0 q))) (g_la : n0 ≤ la) (ne_a_ba : a ≠ ba) (ne_a_sa : a ≠ sa) (ne_ba_sa : ba ≠ sa) (ne_la_a : la ≠ a) (ne_la_ba : la ≠ ba) (ne_la_sa : la ≠ sa) (ne_sx_a : sx ≠ a) (ne_sx_ba : sx ≠ ba) (ne_sx_sa : sx ≠ sa) (ne_sx_la : sx ≠ la) (ne_t_a : t ≠ a) (ne_t_ba : t ≠ ba) (ne_t_sa : t ≠ sa) (ne_t_la : t ≠ la) (hu : 0 ≤ u.toInt ∧ u.toInt ≤ 100) (hct : 0 ≤ ct.toInt ∧ ct.toInt ≤ 100) (hI : s0 (2 * ((own_hash [x0, (own_e1 x1), (own_e2 x1)] (3 : Int32)) &&& (1023 : Int32)).toInt.toNat + 1) = 0) :
    OCon l Z n0 (⟨"com/example/vikt/vikt/graph/NameTable", "number", "(Ljava/lang/String;)I"⟩ : MethodName) prog_7_method_3_code 3 (some .int) ({ frames := 5, cells := 2, slots := 7, locals := 115 } : Room) #[(.ref a), (.ref sx)] h0 (fun v h => v = some (.int ct) ∧ Keep h0 h [a, ba, sa, la] ∧ Exa Z h a "com/example/vikt/vikt/graph/NameTable" ∧ Fld Z h a "com/example/vikt/vikt/graph/NameTable" "bytes" "[B" (.ref ba) ∧ Fld Z h a "com/example/vikt/vikt/graph/NameTable" "starts" "[I" (.ref sa) ∧ Fld Z h a "com/example/vikt/vikt/graph/NameTable" "slots" "[J" (.ref la) ∧ Fld Z h a "com/example/vikt/vikt/graph/NameTable" "mask" "I" (.int (1023 : Int32)) ∧ Fld Z h a "com/example/vikt/vikt/graph/NameTable" "count" "I" (.int (ct + (1 : Int32))) ∧ Fld Z h a "com/example/vikt/vikt/graph/NameTable" "used" "I" (.int (u + ((3 : Int32) - (0 : Int32)))) ∧ Fld Z h a "com/example/vikt/vikt/graph/NameTable" "prefetched" "J" (.long pf) ∧ OAr Z h ba .byte 4096 (own_cp u.toInt.toNat (3 : Int32).toInt.toNat (own_B [x0, (own_e1 x1), (own_e2 x1)]) fb) ∧ OAr Z h sa .int 1025 (own_st (ct + (1 : Int32)).toInt.toNat (.int (u + ((3 : Int32) - (0 : Int32)))) fs) ∧ OAr Z h la .long 2048 (fun q => .long ((own_put (2 * ((own_hash [x0, (own_e1 x1), (own_e2 x1)] (3 : Int32)) &&& (1023 : Int32)).toInt.toNat) (2 * ((own_hash [x0, (own_e1 x1), (own_e2 x1)] (3 : Int32)) &&& (1023 : Int32)).toInt.toNat + 1) (((own_hash [x0, (own_e1 x1), (own_e2 x1)] (3 : Int32)).toInt64 <<< ((32 : Int32) &&& 0x3f).toInt64) ||| ((ct + (1 : Int32)).toInt64)) (own_key [x0, (own_e1 x1), (own_e2 x1)] (3 : Int32)) s0) q))) := by
  refine OCon.of (Ls := #[.val (.ref a), .val (.ref sx), .unset]) pn_12 rfl rfl (fun m => by first | (simp [entryFrame, mkF, argsToLocals, Value.category]; done) | rfl) ?_
  intro p e s m below meth c T0 X0 K e0
  have N0 := Fr.nil n0
  have KK0 := Keep.refl h0 [a, ba, sa, la]
  refine o_aloadN X0 K d12_0 1 rfl rfl rfl ?_
  refine o_getstatic X0 K (host := "") d12_1 4 rfl (Or.inl (w_66 hw)) Via.refl e0 S_UTF_8 ?_
  intro T_635 X_635 e_635
  refine o_invokevirtual X_635 K d12_4 7 rfl (w_68 hw) (w_69 hw) (w_71 hw) (w_70 hw) (w_2 hw) (w_72 hw) (by decide) E_sx [(.ref u8)] [] rfl  (c_gb_pn l Z a0 hw n0 sx t u8 x0 x1 zcs h0 Z0 S_COMPACT_STRINGS (hcs) S_INSTANCE E_sx F_sx_value F_sx_coder A_t E_t (hs0) (hb0) (hs1) (hb1)) e_635 rfl (lenOf pd__Ljava_nio_charset_Charset___B rfl) (by decide) 0 (Nat.le_of_eq rfl) (by decide) (by decide) (by decide) N0 ?_
  rintro _ T_636 h_636 locs_636 X_636 e_636 ⟨r, rfl, k_636, gg_636_r, sz_636_r, p_636f0, p_636f1⟩ N_636
  have Z_636 : n0 ≤ h_636.size := Nat.le_trans Z0 k_636.1
  have K_636 := KK0.trans k_636 (all0)
  have f_637 := o_sta_keep S_COMPACT_STRINGS k_636 (o_plain0)
  have f_638 := o_sta_keep S_INSTANCE k_636 (o_plain0)
  have f_639 := o_sta_keep S_UTF_8 k_636 (o_plain0)
  have f_640 := Exa.keep E_sx k_636
  have f_641 := Fld.keep F_sx_value k_636 (nin0)
  have f_642 := Fld.keep F_sx_coder k_636 (nin0)
  have f_643 := A_t.keep k_636 (nin0)
  have f_644 := Exa.keep E_t k_636
  have f_645 := Exa.keep E_a k_636
  have f_646 := Fld.keep F_a_bytes k_636 (nin0)
  have f_647 := Fld.keep F_a_starts k_636 (nin0)
  have f_648 := Fld.keep F_a_slots k_636 (nin0)
  have f_649 := Fld.keep F_a_mask k_636 (nin0)
  have f_650 := Fld.keep F_a_count k_636 (nin0)
  have f_651 := Fld.keep F_a_used k_636 (nin0)
  have f_652 := Fld.keep F_a_prefetched k_636 (nin0)
  have f_653 := A_ba.keep k_636 (nin0)
  have f_654 := A_sa.keep k_636 (nin0)
  have f_655 := A_la.keep k_636 (nin0)
  have ne_sx_r : sx ≠ r := Nat.ne_of_lt (Nat.lt_of_lt_of_le E_sx.lt sz_636_r)
  have ne_t_r : t ≠ r := Nat.ne_of_lt (Nat.lt_of_lt_of_le A_t.lt sz_636_r)
  have ne_a_r : a ≠ r := Nat.ne_of_lt (Nat.lt_of_lt_of_le E_a.lt sz_636_r)
  have ne_ba_r : ba ≠ r := Nat.ne_of_lt (Nat.lt_of_lt_of_le A_ba.lt sz_636_r)
  have ne_sa_r : sa ≠ r := Nat.ne_of_lt (Nat.lt_of_lt_of_le A_sa.lt sz_636_r)
  have ne_la_r : la ≠ r := Nat.ne_of_lt (Nat.lt_of_lt_of_le A_la.lt sz_636_r)
  have sz_r : h0.size ≤ r := Nat.le_trans KK0.1 sz_636_r
  show OGo p e below _ n0 _ (T_636.setTop (mkF m 7 #[.val (.ref a), .val (.ref sx), .unset] [(.ref r)]))
  refine o_astoreN X_636 K d12_7 8 rfl #[.val (.ref a), .val (.ref sx), .val (.ref r)] rfl rfl ?_
  refine o_aloadN X_636 K d12_8 9 rfl rfl rfl ?_
  refine o_aloadN X_636 K d12_9 10 rfl rfl rfl ?_
  refine o_iconst X_636 K (0 : Int32) d12_10 11 rfl rfl ?_
  refine o_aloadN X_636 K d12_11 12 rfl rfl rfl ?_
  refine o_arraylength X_636 K d12_12 13 rfl e_636 p_636f0 (v := (3 : Int32)) (rfl) ?_
  refine o_aloadN X_636 K d12_13 14 rfl rfl rfl ?_
  refine o_iconst X_636 K (0 : Int32) d12_14 15 rfl rfl ?_
  refine o_aloadN X_636 K d12_15 16 rfl rfl rfl ?_
  refine o_arraylength X_636 K d12_16 17 rfl e_636 p_636f0 (v := (3 : Int32)) (rfl) ?_
  refine o_invokestatic X_636 K d12_17 20 rfl (w_102 hw) (w_103 hw) (w_46 hw) (w_104 hw) (by decide) [(.ref r), (.int (0 : Int32)), (.int (3 : Int32))] [(.int (3 : Int32)), (.int (0 : Int32)), (.ref r), (.ref a)] rfl  (c_hash l Z a0 hw n0 r 3 (fun j => [x0, (own_e1 x1), (own_e2 x1)].getD j 0) (0 : Int32) (3 : Int32) h_636 Z_636 p_636f0 (by decide)) e_636 rfl (lenOf pd___BII_I rfl) (by decide) 4 (Nat.le_of_eq rfl) (by decide) (by decide) (by decide) N_636 ?_
  rintro _ T_656 h_656 locs_656 X_656 q_656 ⟨rfl, r_656⟩ N_656
  have e_656 := q_656.trans r_656
  show OGo p e below _ n0 _ (T_656.setTop (mkF m 20 #[.val (.ref a), .val (.ref sx), .val (.ref r)] [(.int (own_hash [x0, (own_e1 x1), (own_e2 x1)] (3 : Int32))), (.int (3 : Int32)), (.int (0 : Int32)), (.ref r), (.ref a)]))
  refine o_invokevirtual X_656 K d12_20 23 rfl (w_107 hw) (w_108 hw) (w_110 hw) (w_109 hw) (w_46 hw) (w_111 hw) (by decide) f_645 [(.ref r), (.int (0 : Int32)), (.int (3 : Int32)), (.int (own_hash [x0, (own_e1 x1), (own_e2 x1)] (3 : Int32)))] [] rfl  (c_n4I l Z a0 hw n0 a r ba sa la _ _ _ s0 (3 : Int32) u ct (own_hash [x0, (own_e1 x1), (own_e2 x1)] (3 : Int32)) pf (own_key [x0, (own_e1 x1), (own_e2 x1)] (3 : Int32)) h_636 Z_636 f_645 f_646 f_647 f_648 f_649 f_650 f_651 f_652 g_a p_636f0 f_653 g_ba f_654 g_sa ne_a_ba ne_a_sa ne_ba_sa (Ne.symm ne_a_r) (Ne.symm ne_ba_r) (Ne.symm ne_sa_r) (by decide) (hu) (hct) f_655 g_la ne_la_a ne_la_ba ne_la_sa ne_la_r (c_key3 l Z a0 hw n0 r x0 (own_e1 x1) (own_e2 x1) h_636 Z_636 p_636f0) (hI)) e_656 rfl (lenOf pd___BIII_I rfl) (by decide) 0 (Nat.le_of_eq rfl) (by decide) (by decide) (by decide) N_656 ?_
  rintro _ T_657 h_657 locs_657 X_657 e_657 ⟨rfl, k_657, p_657f0, p_657f1, p_657f2, p_657f3, p_657f4, p_657f5, p_657f6, p_657f7, p_657f8, p_657f9, p_657f10⟩ N_657
  have Z_657 : n0 ≤ h_657.size := Nat.le_trans Z_636 k_657.1
  have K_657 := K_636.trans k_657 (allS (Or.inl (by simp)) (allS (Or.inl (by simp)) (allS (Or.inl (by simp)) (allS (Or.inl (by simp)) (all0)))))
  have f_658 := o_sta_keep f_637 k_657 (o_plainS f_645 (o_plainR f_653 (o_plainR f_654 (o_plainR f_655 (o_plain0)))))
  have f_659 := o_sta_keep f_638 k_657 (o_plainS f_645 (o_plainR f_653 (o_plainR f_654 (o_plainR f_655 (o_plain0)))))
  have f_660 := o_sta_keep f_639 k_657 (o_plainS f_645 (o_plainR f_653 (o_plainR f_654 (o_plainR f_655 (o_plain0)))))
  have f_661 := Exa.keep f_640 k_657
  have f_662 := Fld.keep f_641 k_657 (ninS ne_sx_a (ninS ne_sx_ba (ninS ne_sx_sa (ninS ne_sx_la (nin0)))))
  have f_663 := Fld.keep f_642 k_657 (ninS ne_sx_a (ninS ne_sx_ba (ninS ne_sx_sa (ninS ne_sx_la (nin0)))))
  have f_664 := f_643.keep k_657 (ninS ne_t_a (ninS ne_t_ba (ninS ne_t_sa (ninS ne_t_la (nin0)))))
  have f_665 := Exa.keep f_644 k_657
  have f_666 := Exa.keep f_645 k_657
  have f_667 := p_636f0.keep k_657 (ninS (Ne.symm ne_a_r) (ninS (Ne.symm ne_ba_r) (ninS (Ne.symm ne_sa_r) (ninS (Ne.symm ne_la_r) (nin0)))))
  have f_668 := Exa.keep p_636f1 k_657
  show OGo p e below _ n0 _ (T_657.setTop (mkF m 23 #[.val (.ref a), .val (.ref sx), .val (.ref r)] [(.int ct)]))
  refine o_ireturn X_657 K d12_23 (by decide) (by decide) N_657 ?_
  rw [e_657]
  exact ⟨rfl, K_657, p_657f0, p_657f1, p_657f2, p_657f3, p_657f4, p_657f5, p_657f6, p_657f7, p_657f8, p_657f9, p_657f10⟩
set_option maxHeartbeats 4000000 in
theorem c_nSI_np (l : Launch) (Z : State) (a0 : Array Value) (hw : OW Z a0) (n0 : Nat) (a sx t u8 ba sa la : Addr) (x0 x1 zcs u ct : Int32) (fb fs : Nat → Value) (s0 : Nat → Int64) (pf : Int64) (h0 : Heap) (Z0 : n0 ≤ h0.size) (S_COMPACT_STRINGS : Sta Z h0 "java/lang/String" "COMPACT_STRINGS" "Z" (.int zcs)) (hcs : ¬ zcs = 0) (S_INSTANCE : Sta Z h0 "sun/nio/cs/UTF_8" "INSTANCE" "Lsun/nio/cs/UTF_8;" (.ref u8)) (S_UTF_8 : Sta Z h0 "java/nio/charset/StandardCharsets" "UTF_8" "Ljava/nio/charset/Charset;" (.ref u8)) (E_sx : Exa Z h0 sx "java/lang/String") (F_sx_value : Fld Z h0 sx "java/lang/String" "value" "[B" (.ref t)) (F_sx_coder : Fld Z h0 sx "java/lang/String" "coder" "B" (.int (0 : Int32))) (A_t : OAr Z h0 t .byte 2 (own_B [x0, x1])) (E_t : Exa Z h0 t "[B") (hs0 : x0.toInt < 0) (hb0 : nar .byte x0 = x0) (hs1 : 0 ≤ x1.toInt) (hb1 : nar .byte x1 = x1) (E_a : Exa Z h0 a "com/example/vikt/vikt/graph/NameTable") (F_a_bytes : Fld Z h0 a "com/example/vikt/vikt/graph/NameTable" "bytes" "[B" (.ref ba)) (F_a_starts : Fld Z h0 a "com/example/vikt/vikt/graph/NameTable" "starts" "[I" (.ref sa)) (F_a_slots : Fld Z h0 a "com/example/vikt/vikt/graph/NameTable" "slots" "[J" (.ref la)) (F_a_mask : Fld Z h0 a "com/example/vikt/vikt/graph/NameTable" "mask" "I" (.int (1023 : Int32))) (F_a_count : Fld Z h0 a "com/example/vikt/vikt/graph/NameTable" "count" "I" (.int ct)) (F_a_used : Fld Z h0 a "com/example/vikt/vikt/graph/NameTable" "used" "I" (.int u)) (F_a_prefetched : Fld Z h0 a "com/example/vikt/vikt/graph/NameTable" "prefetched" "J" (.long pf)) (g_a : n0 ≤ a) (A_ba : OAr Z h0 ba .byte 4096 fb) (g_ba : n0 ≤ ba) (A_sa : OAr Z h0 sa .int 1025 fs) (g_sa : n0 ≤ sa) (A_la : OAr Z h0 la .long 2048 (fun q => .long (s0 q))) (g_la : n0 ≤ la) (ne_a_ba : a ≠ ba) (ne_a_sa : a ≠ sa) (ne_ba_sa : ba ≠ sa) (ne_la_a : la ≠ a) (ne_la_ba : la ≠ ba) (ne_la_sa : la ≠ sa) (ne_sx_a : sx ≠ a) (ne_sx_ba : sx ≠ ba) (ne_sx_sa : sx ≠ sa) (ne_sx_la : sx ≠ la) (ne_t_a : t ≠ a) (ne_t_ba : t ≠ ba) (ne_t_sa : t ≠ sa) (ne_t_la : t ≠ la) (hu : 0 ≤ u.toInt ∧ u.toInt ≤ 100) (hct : 0 ≤ ct.toInt ∧ ct.toInt ≤ 100) (hI : s0 (2 * ((own_hash [(own_e1 x0), (own_e2 x0), x1] (3 : Int32)) &&& (1023 : Int32)).toInt.toNat + 1) = 0) :
    OCon l Z n0 (⟨"com/example/vikt/vikt/graph/NameTable", "number", "(Ljava/lang/String;)I"⟩ : MethodName) prog_7_method_3_code 3 (some .int) ({ frames := 5, cells := 2, slots := 7, locals := 115 } : Room) #[(.ref a), (.ref sx)] h0 (fun v h => v = some (.int ct) ∧ Keep h0 h [a, ba, sa, la] ∧ Exa Z h a "com/example/vikt/vikt/graph/NameTable" ∧ Fld Z h a "com/example/vikt/vikt/graph/NameTable" "bytes" "[B" (.ref ba) ∧ Fld Z h a "com/example/vikt/vikt/graph/NameTable" "starts" "[I" (.ref sa) ∧ Fld Z h a "com/example/vikt/vikt/graph/NameTable" "slots" "[J" (.ref la) ∧ Fld Z h a "com/example/vikt/vikt/graph/NameTable" "mask" "I" (.int (1023 : Int32)) ∧ Fld Z h a "com/example/vikt/vikt/graph/NameTable" "count" "I" (.int (ct + (1 : Int32))) ∧ Fld Z h a "com/example/vikt/vikt/graph/NameTable" "used" "I" (.int (u + ((3 : Int32) - (0 : Int32)))) ∧ Fld Z h a "com/example/vikt/vikt/graph/NameTable" "prefetched" "J" (.long pf) ∧ OAr Z h ba .byte 4096 (own_cp u.toInt.toNat (3 : Int32).toInt.toNat (own_B [(own_e1 x0), (own_e2 x0), x1]) fb) ∧ OAr Z h sa .int 1025 (own_st (ct + (1 : Int32)).toInt.toNat (.int (u + ((3 : Int32) - (0 : Int32)))) fs) ∧ OAr Z h la .long 2048 (fun q => .long ((own_put (2 * ((own_hash [(own_e1 x0), (own_e2 x0), x1] (3 : Int32)) &&& (1023 : Int32)).toInt.toNat) (2 * ((own_hash [(own_e1 x0), (own_e2 x0), x1] (3 : Int32)) &&& (1023 : Int32)).toInt.toNat + 1) (((own_hash [(own_e1 x0), (own_e2 x0), x1] (3 : Int32)).toInt64 <<< ((32 : Int32) &&& 0x3f).toInt64) ||| ((ct + (1 : Int32)).toInt64)) (own_key [(own_e1 x0), (own_e2 x0), x1] (3 : Int32)) s0) q))) := by
  refine OCon.of (Ls := #[.val (.ref a), .val (.ref sx), .unset]) pn_12 rfl rfl (fun m => by first | (simp [entryFrame, mkF, argsToLocals, Value.category]; done) | rfl) ?_
  intro p e s m below meth c T0 X0 K e0
  have N0 := Fr.nil n0
  have KK0 := Keep.refl h0 [a, ba, sa, la]
  refine o_aloadN X0 K d12_0 1 rfl rfl rfl ?_
  refine o_getstatic X0 K (host := "") d12_1 4 rfl (Or.inl (w_66 hw)) Via.refl e0 S_UTF_8 ?_
  intro T_669 X_669 e_669
  refine o_invokevirtual X_669 K d12_4 7 rfl (w_68 hw) (w_69 hw) (w_71 hw) (w_70 hw) (w_2 hw) (w_72 hw) (by decide) E_sx [(.ref u8)] [] rfl  (c_gb_np l Z a0 hw n0 sx t u8 x0 x1 zcs h0 Z0 S_COMPACT_STRINGS (hcs) S_INSTANCE E_sx F_sx_value F_sx_coder A_t E_t (hs0) (hb0) (hs1) (hb1)) e_669 rfl (lenOf pd__Ljava_nio_charset_Charset___B rfl) (by decide) 0 (Nat.le_of_eq rfl) (by decide) (by decide) (by decide) N0 ?_
  rintro _ T_670 h_670 locs_670 X_670 e_670 ⟨r, rfl, k_670, gg_670_r, sz_670_r, p_670f0, p_670f1⟩ N_670
  have Z_670 : n0 ≤ h_670.size := Nat.le_trans Z0 k_670.1
  have K_670 := KK0.trans k_670 (all0)
  have f_671 := o_sta_keep S_COMPACT_STRINGS k_670 (o_plain0)
  have f_672 := o_sta_keep S_INSTANCE k_670 (o_plain0)
  have f_673 := o_sta_keep S_UTF_8 k_670 (o_plain0)
  have f_674 := Exa.keep E_sx k_670
  have f_675 := Fld.keep F_sx_value k_670 (nin0)
  have f_676 := Fld.keep F_sx_coder k_670 (nin0)
  have f_677 := A_t.keep k_670 (nin0)
  have f_678 := Exa.keep E_t k_670
  have f_679 := Exa.keep E_a k_670
  have f_680 := Fld.keep F_a_bytes k_670 (nin0)
  have f_681 := Fld.keep F_a_starts k_670 (nin0)
  have f_682 := Fld.keep F_a_slots k_670 (nin0)
  have f_683 := Fld.keep F_a_mask k_670 (nin0)
  have f_684 := Fld.keep F_a_count k_670 (nin0)
  have f_685 := Fld.keep F_a_used k_670 (nin0)
  have f_686 := Fld.keep F_a_prefetched k_670 (nin0)
  have f_687 := A_ba.keep k_670 (nin0)
  have f_688 := A_sa.keep k_670 (nin0)
  have f_689 := A_la.keep k_670 (nin0)
  have ne_sx_r : sx ≠ r := Nat.ne_of_lt (Nat.lt_of_lt_of_le E_sx.lt sz_670_r)
  have ne_t_r : t ≠ r := Nat.ne_of_lt (Nat.lt_of_lt_of_le A_t.lt sz_670_r)
  have ne_a_r : a ≠ r := Nat.ne_of_lt (Nat.lt_of_lt_of_le E_a.lt sz_670_r)
  have ne_ba_r : ba ≠ r := Nat.ne_of_lt (Nat.lt_of_lt_of_le A_ba.lt sz_670_r)
  have ne_sa_r : sa ≠ r := Nat.ne_of_lt (Nat.lt_of_lt_of_le A_sa.lt sz_670_r)
  have ne_la_r : la ≠ r := Nat.ne_of_lt (Nat.lt_of_lt_of_le A_la.lt sz_670_r)
  have sz_r : h0.size ≤ r := Nat.le_trans KK0.1 sz_670_r
  show OGo p e below _ n0 _ (T_670.setTop (mkF m 7 #[.val (.ref a), .val (.ref sx), .unset] [(.ref r)]))
  refine o_astoreN X_670 K d12_7 8 rfl #[.val (.ref a), .val (.ref sx), .val (.ref r)] rfl rfl ?_
  refine o_aloadN X_670 K d12_8 9 rfl rfl rfl ?_
  refine o_aloadN X_670 K d12_9 10 rfl rfl rfl ?_
  refine o_iconst X_670 K (0 : Int32) d12_10 11 rfl rfl ?_
  refine o_aloadN X_670 K d12_11 12 rfl rfl rfl ?_
  refine o_arraylength X_670 K d12_12 13 rfl e_670 p_670f0 (v := (3 : Int32)) (rfl) ?_
  refine o_aloadN X_670 K d12_13 14 rfl rfl rfl ?_
  refine o_iconst X_670 K (0 : Int32) d12_14 15 rfl rfl ?_
  refine o_aloadN X_670 K d12_15 16 rfl rfl rfl ?_
  refine o_arraylength X_670 K d12_16 17 rfl e_670 p_670f0 (v := (3 : Int32)) (rfl) ?_
  refine o_invokestatic X_670 K d12_17 20 rfl (w_102 hw) (w_103 hw) (w_46 hw) (w_104 hw) (by decide) [(.ref r), (.int (0 : Int32)), (.int (3 : Int32))] [(.int (3 : Int32)), (.int (0 : Int32)), (.ref r), (.ref a)] rfl  (c_hash l Z a0 hw n0 r 3 (fun j => [(own_e1 x0), (own_e2 x0), x1].getD j 0) (0 : Int32) (3 : Int32) h_670 Z_670 p_670f0 (by decide)) e_670 rfl (lenOf pd___BII_I rfl) (by decide) 4 (Nat.le_of_eq rfl) (by decide) (by decide) (by decide) N_670 ?_
  rintro _ T_690 h_690 locs_690 X_690 q_690 ⟨rfl, r_690⟩ N_690
  have e_690 := q_690.trans r_690
  show OGo p e below _ n0 _ (T_690.setTop (mkF m 20 #[.val (.ref a), .val (.ref sx), .val (.ref r)] [(.int (own_hash [(own_e1 x0), (own_e2 x0), x1] (3 : Int32))), (.int (3 : Int32)), (.int (0 : Int32)), (.ref r), (.ref a)]))
  refine o_invokevirtual X_690 K d12_20 23 rfl (w_107 hw) (w_108 hw) (w_110 hw) (w_109 hw) (w_46 hw) (w_111 hw) (by decide) f_679 [(.ref r), (.int (0 : Int32)), (.int (3 : Int32)), (.int (own_hash [(own_e1 x0), (own_e2 x0), x1] (3 : Int32)))] [] rfl  (c_n4I l Z a0 hw n0 a r ba sa la _ _ _ s0 (3 : Int32) u ct (own_hash [(own_e1 x0), (own_e2 x0), x1] (3 : Int32)) pf (own_key [(own_e1 x0), (own_e2 x0), x1] (3 : Int32)) h_670 Z_670 f_679 f_680 f_681 f_682 f_683 f_684 f_685 f_686 g_a p_670f0 f_687 g_ba f_688 g_sa ne_a_ba ne_a_sa ne_ba_sa (Ne.symm ne_a_r) (Ne.symm ne_ba_r) (Ne.symm ne_sa_r) (by decide) (hu) (hct) f_689 g_la ne_la_a ne_la_ba ne_la_sa ne_la_r (c_key3 l Z a0 hw n0 r (own_e1 x0) (own_e2 x0) x1 h_670 Z_670 p_670f0) (hI)) e_690 rfl (lenOf pd___BIII_I rfl) (by decide) 0 (Nat.le_of_eq rfl) (by decide) (by decide) (by decide) N_690 ?_
  rintro _ T_691 h_691 locs_691 X_691 e_691 ⟨rfl, k_691, p_691f0, p_691f1, p_691f2, p_691f3, p_691f4, p_691f5, p_691f6, p_691f7, p_691f8, p_691f9, p_691f10⟩ N_691
  have Z_691 : n0 ≤ h_691.size := Nat.le_trans Z_670 k_691.1
  have K_691 := K_670.trans k_691 (allS (Or.inl (by simp)) (allS (Or.inl (by simp)) (allS (Or.inl (by simp)) (allS (Or.inl (by simp)) (all0)))))
  have f_692 := o_sta_keep f_671 k_691 (o_plainS f_679 (o_plainR f_687 (o_plainR f_688 (o_plainR f_689 (o_plain0)))))
  have f_693 := o_sta_keep f_672 k_691 (o_plainS f_679 (o_plainR f_687 (o_plainR f_688 (o_plainR f_689 (o_plain0)))))
  have f_694 := o_sta_keep f_673 k_691 (o_plainS f_679 (o_plainR f_687 (o_plainR f_688 (o_plainR f_689 (o_plain0)))))
  have f_695 := Exa.keep f_674 k_691
  have f_696 := Fld.keep f_675 k_691 (ninS ne_sx_a (ninS ne_sx_ba (ninS ne_sx_sa (ninS ne_sx_la (nin0)))))
  have f_697 := Fld.keep f_676 k_691 (ninS ne_sx_a (ninS ne_sx_ba (ninS ne_sx_sa (ninS ne_sx_la (nin0)))))
  have f_698 := f_677.keep k_691 (ninS ne_t_a (ninS ne_t_ba (ninS ne_t_sa (ninS ne_t_la (nin0)))))
  have f_699 := Exa.keep f_678 k_691
  have f_700 := Exa.keep f_679 k_691
  have f_701 := p_670f0.keep k_691 (ninS (Ne.symm ne_a_r) (ninS (Ne.symm ne_ba_r) (ninS (Ne.symm ne_sa_r) (ninS (Ne.symm ne_la_r) (nin0)))))
  have f_702 := Exa.keep p_670f1 k_691
  show OGo p e below _ n0 _ (T_691.setTop (mkF m 23 #[.val (.ref a), .val (.ref sx), .val (.ref r)] [(.int ct)]))
  refine o_ireturn X_691 K d12_23 (by decide) (by decide) N_691 ?_
  rw [e_691]
  exact ⟨rfl, K_691, p_691f0, p_691f1, p_691f2, p_691f3, p_691f4, p_691f5, p_691f6, p_691f7, p_691f8, p_691f9, p_691f10⟩
set_option maxHeartbeats 4000000 in
theorem c_nSI_nn (l : Launch) (Z : State) (a0 : Array Value) (hw : OW Z a0) (n0 : Nat) (a sx t u8 ba sa la : Addr) (x0 x1 zcs u ct : Int32) (fb fs : Nat → Value) (s0 : Nat → Int64) (pf : Int64) (h0 : Heap) (Z0 : n0 ≤ h0.size) (S_COMPACT_STRINGS : Sta Z h0 "java/lang/String" "COMPACT_STRINGS" "Z" (.int zcs)) (hcs : ¬ zcs = 0) (S_INSTANCE : Sta Z h0 "sun/nio/cs/UTF_8" "INSTANCE" "Lsun/nio/cs/UTF_8;" (.ref u8)) (S_UTF_8 : Sta Z h0 "java/nio/charset/StandardCharsets" "UTF_8" "Ljava/nio/charset/Charset;" (.ref u8)) (E_sx : Exa Z h0 sx "java/lang/String") (F_sx_value : Fld Z h0 sx "java/lang/String" "value" "[B" (.ref t)) (F_sx_coder : Fld Z h0 sx "java/lang/String" "coder" "B" (.int (0 : Int32))) (A_t : OAr Z h0 t .byte 2 (own_B [x0, x1])) (E_t : Exa Z h0 t "[B") (hs0 : x0.toInt < 0) (hb0 : nar .byte x0 = x0) (hs1 : x1.toInt < 0) (hb1 : nar .byte x1 = x1) (E_a : Exa Z h0 a "com/example/vikt/vikt/graph/NameTable") (F_a_bytes : Fld Z h0 a "com/example/vikt/vikt/graph/NameTable" "bytes" "[B" (.ref ba)) (F_a_starts : Fld Z h0 a "com/example/vikt/vikt/graph/NameTable" "starts" "[I" (.ref sa)) (F_a_slots : Fld Z h0 a "com/example/vikt/vikt/graph/NameTable" "slots" "[J" (.ref la)) (F_a_mask : Fld Z h0 a "com/example/vikt/vikt/graph/NameTable" "mask" "I" (.int (1023 : Int32))) (F_a_count : Fld Z h0 a "com/example/vikt/vikt/graph/NameTable" "count" "I" (.int ct)) (F_a_used : Fld Z h0 a "com/example/vikt/vikt/graph/NameTable" "used" "I" (.int u)) (F_a_prefetched : Fld Z h0 a "com/example/vikt/vikt/graph/NameTable" "prefetched" "J" (.long pf)) (g_a : n0 ≤ a) (A_ba : OAr Z h0 ba .byte 4096 fb) (g_ba : n0 ≤ ba) (A_sa : OAr Z h0 sa .int 1025 fs) (g_sa : n0 ≤ sa) (A_la : OAr Z h0 la .long 2048 (fun q => .long (s0 q))) (g_la : n0 ≤ la) (ne_a_ba : a ≠ ba) (ne_a_sa : a ≠ sa) (ne_ba_sa : ba ≠ sa) (ne_la_a : la ≠ a) (ne_la_ba : la ≠ ba) (ne_la_sa : la ≠ sa) (ne_sx_a : sx ≠ a) (ne_sx_ba : sx ≠ ba) (ne_sx_sa : sx ≠ sa) (ne_sx_la : sx ≠ la) (ne_t_a : t ≠ a) (ne_t_ba : t ≠ ba) (ne_t_sa : t ≠ sa) (ne_t_la : t ≠ la) (hu : 0 ≤ u.toInt ∧ u.toInt ≤ 100) (hct : 0 ≤ ct.toInt ∧ ct.toInt ≤ 100) (hI : s0 (2 * ((own_hash [(own_e1 x0), (own_e2 x0), (own_e1 x1), (own_e2 x1)] (4 : Int32)) &&& (1023 : Int32)).toInt.toNat + 1) = 0) :
    OCon l Z n0 (⟨"com/example/vikt/vikt/graph/NameTable", "number", "(Ljava/lang/String;)I"⟩ : MethodName) prog_7_method_3_code 3 (some .int) ({ frames := 5, cells := 2, slots := 7, locals := 115 } : Room) #[(.ref a), (.ref sx)] h0 (fun v h => v = some (.int ct) ∧ Keep h0 h [a, ba, sa, la] ∧ Exa Z h a "com/example/vikt/vikt/graph/NameTable" ∧ Fld Z h a "com/example/vikt/vikt/graph/NameTable" "bytes" "[B" (.ref ba) ∧ Fld Z h a "com/example/vikt/vikt/graph/NameTable" "starts" "[I" (.ref sa) ∧ Fld Z h a "com/example/vikt/vikt/graph/NameTable" "slots" "[J" (.ref la) ∧ Fld Z h a "com/example/vikt/vikt/graph/NameTable" "mask" "I" (.int (1023 : Int32)) ∧ Fld Z h a "com/example/vikt/vikt/graph/NameTable" "count" "I" (.int (ct + (1 : Int32))) ∧ Fld Z h a "com/example/vikt/vikt/graph/NameTable" "used" "I" (.int (u + ((4 : Int32) - (0 : Int32)))) ∧ Fld Z h a "com/example/vikt/vikt/graph/NameTable" "prefetched" "J" (.long pf) ∧ OAr Z h ba .byte 4096 (own_cp u.toInt.toNat (4 : Int32).toInt.toNat (own_B [(own_e1 x0), (own_e2 x0), (own_e1 x1), (own_e2 x1)]) fb) ∧ OAr Z h sa .int 1025 (own_st (ct + (1 : Int32)).toInt.toNat (.int (u + ((4 : Int32) - (0 : Int32)))) fs) ∧ OAr Z h la .long 2048 (fun q => .long ((own_put (2 * ((own_hash [(own_e1 x0), (own_e2 x0), (own_e1 x1), (own_e2 x1)] (4 : Int32)) &&& (1023 : Int32)).toInt.toNat) (2 * ((own_hash [(own_e1 x0), (own_e2 x0), (own_e1 x1), (own_e2 x1)] (4 : Int32)) &&& (1023 : Int32)).toInt.toNat + 1) (((own_hash [(own_e1 x0), (own_e2 x0), (own_e1 x1), (own_e2 x1)] (4 : Int32)).toInt64 <<< ((32 : Int32) &&& 0x3f).toInt64) ||| ((ct + (1 : Int32)).toInt64)) (own_key [(own_e1 x0), (own_e2 x0), (own_e1 x1), (own_e2 x1)] (4 : Int32)) s0) q))) := by
  refine OCon.of (Ls := #[.val (.ref a), .val (.ref sx), .unset]) pn_12 rfl rfl (fun m => by first | (simp [entryFrame, mkF, argsToLocals, Value.category]; done) | rfl) ?_
  intro p e s m below meth c T0 X0 K e0
  have N0 := Fr.nil n0
  have KK0 := Keep.refl h0 [a, ba, sa, la]
  refine o_aloadN X0 K d12_0 1 rfl rfl rfl ?_
  refine o_getstatic X0 K (host := "") d12_1 4 rfl (Or.inl (w_66 hw)) Via.refl e0 S_UTF_8 ?_
  intro T_703 X_703 e_703
  refine o_invokevirtual X_703 K d12_4 7 rfl (w_68 hw) (w_69 hw) (w_71 hw) (w_70 hw) (w_2 hw) (w_72 hw) (by decide) E_sx [(.ref u8)] [] rfl  (c_gb_nn l Z a0 hw n0 sx t u8 x0 x1 zcs h0 Z0 S_COMPACT_STRINGS (hcs) S_INSTANCE E_sx F_sx_value F_sx_coder A_t E_t (hs0) (hb0) (hs1) (hb1)) e_703 rfl (lenOf pd__Ljava_nio_charset_Charset___B rfl) (by decide) 0 (Nat.le_of_eq rfl) (by decide) (by decide) (by decide) N0 ?_
  rintro _ T_704 h_704 locs_704 X_704 e_704 ⟨r, rfl, k_704, gg_704_r, sz_704_r, p_704f0, p_704f1⟩ N_704
  have Z_704 : n0 ≤ h_704.size := Nat.le_trans Z0 k_704.1
  have K_704 := KK0.trans k_704 (all0)
  have f_705 := o_sta_keep S_COMPACT_STRINGS k_704 (o_plain0)
  have f_706 := o_sta_keep S_INSTANCE k_704 (o_plain0)
  have f_707 := o_sta_keep S_UTF_8 k_704 (o_plain0)
  have f_708 := Exa.keep E_sx k_704
  have f_709 := Fld.keep F_sx_value k_704 (nin0)
  have f_710 := Fld.keep F_sx_coder k_704 (nin0)
  have f_711 := A_t.keep k_704 (nin0)
  have f_712 := Exa.keep E_t k_704
  have f_713 := Exa.keep E_a k_704
  have f_714 := Fld.keep F_a_bytes k_704 (nin0)
  have f_715 := Fld.keep F_a_starts k_704 (nin0)
  have f_716 := Fld.keep F_a_slots k_704 (nin0)
  have f_717 := Fld.keep F_a_mask k_704 (nin0)
  have f_718 := Fld.keep F_a_count k_704 (nin0)
  have f_719 := Fld.keep F_a_used k_704 (nin0)
  have f_720 := Fld.keep F_a_prefetched k_704 (nin0)
  have f_721 := A_ba.keep k_704 (nin0)
  have f_722 := A_sa.keep k_704 (nin0)
  have f_723 := A_la.keep k_704 (nin0)
  have ne_sx_r : sx ≠ r := Nat.ne_of_lt (Nat.lt_of_lt_of_le E_sx.lt sz_704_r)
  have ne_t_r : t ≠ r := Nat.ne_of_lt (Nat.lt_of_lt_of_le A_t.lt sz_704_r)
  have ne_a_r : a ≠ r := Nat.ne_of_lt (Nat.lt_of_lt_of_le E_a.lt sz_704_r)
  have ne_ba_r : ba ≠ r := Nat.ne_of_lt (Nat.lt_of_lt_of_le A_ba.lt sz_704_r)
  have ne_sa_r : sa ≠ r := Nat.ne_of_lt (Nat.lt_of_lt_of_le A_sa.lt sz_704_r)
  have ne_la_r : la ≠ r := Nat.ne_of_lt (Nat.lt_of_lt_of_le A_la.lt sz_704_r)
  have sz_r : h0.size ≤ r := Nat.le_trans KK0.1 sz_704_r
  show OGo p e below _ n0 _ (T_704.setTop (mkF m 7 #[.val (.ref a), .val (.ref sx), .unset] [(.ref r)]))
  refine o_astoreN X_704 K d12_7 8 rfl #[.val (.ref a), .val (.ref sx), .val (.ref r)] rfl rfl ?_
  refine o_aloadN X_704 K d12_8 9 rfl rfl rfl ?_
  refine o_aloadN X_704 K d12_9 10 rfl rfl rfl ?_
  refine o_iconst X_704 K (0 : Int32) d12_10 11 rfl rfl ?_
  refine o_aloadN X_704 K d12_11 12 rfl rfl rfl ?_
  refine o_arraylength X_704 K d12_12 13 rfl e_704 p_704f0 (v := (4 : Int32)) (rfl) ?_
  refine o_aloadN X_704 K d12_13 14 rfl rfl rfl ?_
  refine o_iconst X_704 K (0 : Int32) d12_14 15 rfl rfl ?_
  refine o_aloadN X_704 K d12_15 16 rfl rfl rfl ?_
  refine o_arraylength X_704 K d12_16 17 rfl e_704 p_704f0 (v := (4 : Int32)) (rfl) ?_
  refine o_invokestatic X_704 K d12_17 20 rfl (w_102 hw) (w_103 hw) (w_46 hw) (w_104 hw) (by decide) [(.ref r), (.int (0 : Int32)), (.int (4 : Int32))] [(.int (4 : Int32)), (.int (0 : Int32)), (.ref r), (.ref a)] rfl  (c_hash l Z a0 hw n0 r 4 (fun j => [(own_e1 x0), (own_e2 x0), (own_e1 x1), (own_e2 x1)].getD j 0) (0 : Int32) (4 : Int32) h_704 Z_704 p_704f0 (by decide)) e_704 rfl (lenOf pd___BII_I rfl) (by decide) 4 (Nat.le_of_eq rfl) (by decide) (by decide) (by decide) N_704 ?_
  rintro _ T_724 h_724 locs_724 X_724 q_724 ⟨rfl, r_724⟩ N_724
  have e_724 := q_724.trans r_724
  show OGo p e below _ n0 _ (T_724.setTop (mkF m 20 #[.val (.ref a), .val (.ref sx), .val (.ref r)] [(.int (own_hash [(own_e1 x0), (own_e2 x0), (own_e1 x1), (own_e2 x1)] (4 : Int32))), (.int (4 : Int32)), (.int (0 : Int32)), (.ref r), (.ref a)]))
  refine o_invokevirtual X_724 K d12_20 23 rfl (w_107 hw) (w_108 hw) (w_110 hw) (w_109 hw) (w_46 hw) (w_111 hw) (by decide) f_713 [(.ref r), (.int (0 : Int32)), (.int (4 : Int32)), (.int (own_hash [(own_e1 x0), (own_e2 x0), (own_e1 x1), (own_e2 x1)] (4 : Int32)))] [] rfl  (c_n4I l Z a0 hw n0 a r ba sa la _ _ _ s0 (4 : Int32) u ct (own_hash [(own_e1 x0), (own_e2 x0), (own_e1 x1), (own_e2 x1)] (4 : Int32)) pf (own_key [(own_e1 x0), (own_e2 x0), (own_e1 x1), (own_e2 x1)] (4 : Int32)) h_704 Z_704 f_713 f_714 f_715 f_716 f_717 f_718 f_719 f_720 g_a p_704f0 f_721 g_ba f_722 g_sa ne_a_ba ne_a_sa ne_ba_sa (Ne.symm ne_a_r) (Ne.symm ne_ba_r) (Ne.symm ne_sa_r) (by decide) (hu) (hct) f_723 g_la ne_la_a ne_la_ba ne_la_sa ne_la_r (c_key4 l Z a0 hw n0 r (own_e1 x0) (own_e2 x0) (own_e1 x1) (own_e2 x1) h_704 Z_704 p_704f0) (hI)) e_724 rfl (lenOf pd___BIII_I rfl) (by decide) 0 (Nat.le_of_eq rfl) (by decide) (by decide) (by decide) N_724 ?_
  rintro _ T_725 h_725 locs_725 X_725 e_725 ⟨rfl, k_725, p_725f0, p_725f1, p_725f2, p_725f3, p_725f4, p_725f5, p_725f6, p_725f7, p_725f8, p_725f9, p_725f10⟩ N_725
  have Z_725 : n0 ≤ h_725.size := Nat.le_trans Z_704 k_725.1
  have K_725 := K_704.trans k_725 (allS (Or.inl (by simp)) (allS (Or.inl (by simp)) (allS (Or.inl (by simp)) (allS (Or.inl (by simp)) (all0)))))
  have f_726 := o_sta_keep f_705 k_725 (o_plainS f_713 (o_plainR f_721 (o_plainR f_722 (o_plainR f_723 (o_plain0)))))
  have f_727 := o_sta_keep f_706 k_725 (o_plainS f_713 (o_plainR f_721 (o_plainR f_722 (o_plainR f_723 (o_plain0)))))
  have f_728 := o_sta_keep f_707 k_725 (o_plainS f_713 (o_plainR f_721 (o_plainR f_722 (o_plainR f_723 (o_plain0)))))
  have f_729 := Exa.keep f_708 k_725
  have f_730 := Fld.keep f_709 k_725 (ninS ne_sx_a (ninS ne_sx_ba (ninS ne_sx_sa (ninS ne_sx_la (nin0)))))
  have f_731 := Fld.keep f_710 k_725 (ninS ne_sx_a (ninS ne_sx_ba (ninS ne_sx_sa (ninS ne_sx_la (nin0)))))
  have f_732 := f_711.keep k_725 (ninS ne_t_a (ninS ne_t_ba (ninS ne_t_sa (ninS ne_t_la (nin0)))))
  have f_733 := Exa.keep f_712 k_725
  have f_734 := Exa.keep f_713 k_725
  have f_735 := p_704f0.keep k_725 (ninS (Ne.symm ne_a_r) (ninS (Ne.symm ne_ba_r) (ninS (Ne.symm ne_sa_r) (ninS (Ne.symm ne_la_r) (nin0)))))
  have f_736 := Exa.keep p_704f1 k_725
  show OGo p e below _ n0 _ (T_725.setTop (mkF m 23 #[.val (.ref a), .val (.ref sx), .val (.ref r)] [(.int ct)]))
  refine o_ireturn X_725 K d12_23 (by decide) (by decide) N_725 ?_
  rw [e_725]
  exact ⟨rfl, K_725, p_725f0, p_725f1, p_725f2, p_725f3, p_725f4, p_725f5, p_725f6, p_725f7, p_725f8, p_725f9, p_725f10⟩
set_option maxHeartbeats 4000000 in
theorem c_nSH_p (l : Launch) (Z : State) (a0 : Array Value) (hw : OW Z a0) (n0 : Nat) (a sx t u8 ba sa la : Addr) (x0 zcs u ct : Int32) (fb fs : Nat → Value) (s0 : Nat → Int64) (pf : Int64) (inf : Int64) (h0 : Heap) (Z0 : n0 ≤ h0.size) (S_COMPACT_STRINGS : Sta Z h0 "java/lang/String" "COMPACT_STRINGS" "Z" (.int zcs)) (hcs : ¬ zcs = 0) (S_INSTANCE : Sta Z h0 "sun/nio/cs/UTF_8" "INSTANCE" "Lsun/nio/cs/UTF_8;" (.ref u8)) (S_UTF_8 : Sta Z h0 "java/nio/charset/StandardCharsets" "UTF_8" "Ljava/nio/charset/Charset;" (.ref u8)) (E_sx : Exa Z h0 sx "java/lang/String") (F_sx_value : Fld Z h0 sx "java/lang/String" "value" "[B" (.ref t)) (F_sx_coder : Fld Z h0 sx "java/lang/String" "coder" "B" (.int (0 : Int32))) (A_t : OAr Z h0 t .byte 1 (own_B [x0])) (E_t : Exa Z h0 t "[B") (hs0 : 0 ≤ x0.toInt) (hb0 : nar .byte x0 = x0) (E_a : Exa Z h0 a "com/example/vikt/vikt/graph/NameTable") (F_a_bytes : Fld Z h0 a "com/example/vikt/vikt/graph/NameTable" "bytes" "[B" (.ref ba)) (F_a_starts : Fld Z h0 a "com/example/vikt/vikt/graph/NameTable" "starts" "[I" (.ref sa)) (F_a_slots : Fld Z h0 a "com/example/vikt/vikt/graph/NameTable" "slots" "[J" (.ref la)) (F_a_mask : Fld Z h0 a "com/example/vikt/vikt/graph/NameTable" "mask" "I" (.int (1023 : Int32))) (F_a_count : Fld Z h0 a "com/example/vikt/vikt/graph/NameTable" "count" "I" (.int ct)) (F_a_used : Fld Z h0 a "com/example/vikt/vikt/graph/NameTable" "used" "I" (.int u)) (F_a_prefetched : Fld Z h0 a "com/example/vikt/vikt/graph/NameTable" "prefetched" "J" (.long pf)) (g_a : n0 ≤ a) (A_ba : OAr Z h0 ba .byte 4096 fb) (g_ba : n0 ≤ ba) (A_sa : OAr Z h0 sa .int 1025 fs) (g_sa : n0 ≤ sa) (A_la : OAr Z h0 la .long 2048 (fun q => .long (s0 q))) (g_la : n0 ≤ la) (ne_a_ba : a ≠ ba) (ne_a_sa : a ≠ sa) (ne_ba_sa : ba ≠ sa) (ne_la_a : la ≠ a) (ne_la_ba : la ≠ ba) (ne_la_sa : la ≠ sa) (ne_sx_a : sx ≠ a) (ne_sx_ba : sx ≠ ba) (ne_sx_sa : sx ≠ sa) (ne_sx_la : sx ≠ la) (ne_t_a : t ≠ a) (ne_t_ba : t ≠ ba) (ne_t_sa : t ≠ sa) (ne_t_la : t ≠ la) (hu : 0 ≤ u.toInt ∧ u.toInt ≤ 100) (hct : 0 ≤ ct.toInt ∧ ct.toInt ≤ 100) (hI : s0 (2 * ((own_hash [x0] (1 : Int32)) &&& (1023 : Int32)).toInt.toNat + 1) = inf) (hn0 : ¬ inf = 0) (hk : s0 (2 * ((own_hash [x0] (1 : Int32)) &&& (1023 : Int32)).toInt.toNat) = (own_key [x0] (1 : Int32))) (hh1 : ((inf.toUInt64 >>> ((32 : Int32) &&& 0x3f).toInt64.toUInt64).toInt64).toInt32 = (own_hash [x0] (1 : Int32))) :
    OCon l Z n0 (⟨"com/example/vikt/vikt/graph/NameTable", "number", "(Ljava/lang/String;)I"⟩ : MethodName) prog_7_method_3_code 3 (some .int) ({ frames := 5, cells := 2, slots := 7, locals := 115 } : Room) #[(.ref a), (.ref sx)] h0 (fun v h => v = some (.int (inf.toInt32 - (1 : Int32))) ∧ Keep h0 h []) := by
  refine OCon.of (Ls := #[.val (.ref a), .val (.ref sx), .unset]) pn_12 rfl rfl (fun m => by first | (simp [entryFrame, mkF, argsToLocals, Value.category]; done) | rfl) ?_
  intro p e s m below meth c T0 X0 K e0
  have N0 := Fr.nil n0
  have KK0 := Keep.refl h0 []
  refine o_aloadN X0 K d12_0 1 rfl rfl rfl ?_
  refine o_getstatic X0 K (host := "") d12_1 4 rfl (Or.inl (w_66 hw)) Via.refl e0 S_UTF_8 ?_
  intro T_737 X_737 e_737
  refine o_invokevirtual X_737 K d12_4 7 rfl (w_68 hw) (w_69 hw) (w_71 hw) (w_70 hw) (w_2 hw) (w_72 hw) (by decide) E_sx [(.ref u8)] [] rfl  (c_gb_p l Z a0 hw n0 sx t u8 x0 zcs h0 Z0 S_COMPACT_STRINGS (hcs) S_INSTANCE E_sx F_sx_value F_sx_coder A_t E_t (hs0) (hb0)) e_737 rfl (lenOf pd__Ljava_nio_charset_Charset___B rfl) (by decide) 0 (Nat.le_of_eq rfl) (by decide) (by decide) (by decide) N0 ?_
  rintro _ T_738 h_738 locs_738 X_738 e_738 ⟨r, rfl, k_738, gg_738_r, sz_738_r, p_738f0, p_738f1⟩ N_738
  have Z_738 : n0 ≤ h_738.size := Nat.le_trans Z0 k_738.1
  have K_738 := KK0.trans k_738 (all0)
  have f_739 := o_sta_keep S_COMPACT_STRINGS k_738 (o_plain0)
  have f_740 := o_sta_keep S_INSTANCE k_738 (o_plain0)
  have f_741 := o_sta_keep S_UTF_8 k_738 (o_plain0)
  have f_742 := Exa.keep E_sx k_738
  have f_743 := Fld.keep F_sx_value k_738 (nin0)
  have f_744 := Fld.keep F_sx_coder k_738 (nin0)
  have f_745 := A_t.keep k_738 (nin0)
  have f_746 := Exa.keep E_t k_738
  have f_747 := Exa.keep E_a k_738
  have f_748 := Fld.keep F_a_bytes k_738 (nin0)
  have f_749 := Fld.keep F_a_starts k_738 (nin0)
  have f_750 := Fld.keep F_a_slots k_738 (nin0)
  have f_751 := Fld.keep F_a_mask k_738 (nin0)
  have f_752 := Fld.keep F_a_count k_738 (nin0)
  have f_753 := Fld.keep F_a_used k_738 (nin0)
  have f_754 := Fld.keep F_a_prefetched k_738 (nin0)
  have f_755 := A_ba.keep k_738 (nin0)
  have f_756 := A_sa.keep k_738 (nin0)
  have f_757 := A_la.keep k_738 (nin0)
  have ne_sx_r : sx ≠ r := Nat.ne_of_lt (Nat.lt_of_lt_of_le E_sx.lt sz_738_r)
  have ne_t_r : t ≠ r := Nat.ne_of_lt (Nat.lt_of_lt_of_le A_t.lt sz_738_r)
  have ne_a_r : a ≠ r := Nat.ne_of_lt (Nat.lt_of_lt_of_le E_a.lt sz_738_r)
  have ne_ba_r : ba ≠ r := Nat.ne_of_lt (Nat.lt_of_lt_of_le A_ba.lt sz_738_r)
  have ne_sa_r : sa ≠ r := Nat.ne_of_lt (Nat.lt_of_lt_of_le A_sa.lt sz_738_r)
  have ne_la_r : la ≠ r := Nat.ne_of_lt (Nat.lt_of_lt_of_le A_la.lt sz_738_r)
  have sz_r : h0.size ≤ r := Nat.le_trans KK0.1 sz_738_r
  show OGo p e below _ n0 _ (T_738.setTop (mkF m 7 #[.val (.ref a), .val (.ref sx), .unset] [(.ref r)]))
  refine o_astoreN X_738 K d12_7 8 rfl #[.val (.ref a), .val (.ref sx), .val (.ref r)] rfl rfl ?_
  refine o_aloadN X_738 K d12_8 9 rfl rfl rfl ?_
  refine o_aloadN X_738 K d12_9 10 rfl rfl rfl ?_
  refine o_iconst X_738 K (0 : Int32) d12_10 11 rfl rfl ?_
  refine o_aloadN X_738 K d12_11 12 rfl rfl rfl ?_
  refine o_arraylength X_738 K d12_12 13 rfl e_738 p_738f0 (v := (1 : Int32)) (rfl) ?_
  refine o_aloadN X_738 K d12_13 14 rfl rfl rfl ?_
  refine o_iconst X_738 K (0 : Int32) d12_14 15 rfl rfl ?_
  refine o_aloadN X_738 K d12_15 16 rfl rfl rfl ?_
  refine o_arraylength X_738 K d12_16 17 rfl e_738 p_738f0 (v := (1 : Int32)) (rfl) ?_
  refine o_invokestatic X_738 K d12_17 20 rfl (w_102 hw) (w_103 hw) (w_46 hw) (w_104 hw) (by decide) [(.ref r), (.int (0 : Int32)), (.int (1 : Int32))] [(.int (1 : Int32)), (.int (0 : Int32)), (.ref r), (.ref a)] rfl  (c_hash l Z a0 hw n0 r 1 (fun j => [x0].getD j 0) (0 : Int32) (1 : Int32) h_738 Z_738 p_738f0 (by decide)) e_738 rfl (lenOf pd___BII_I rfl) (by decide) 4 (Nat.le_of_eq rfl) (by decide) (by decide) (by decide) N_738 ?_
  rintro _ T_758 h_758 locs_758 X_758 q_758 ⟨rfl, r_758⟩ N_758
  have e_758 := q_758.trans r_758
  show OGo p e below _ n0 _ (T_758.setTop (mkF m 20 #[.val (.ref a), .val (.ref sx), .val (.ref r)] [(.int (own_hash [x0] (1 : Int32))), (.int (1 : Int32)), (.int (0 : Int32)), (.ref r), (.ref a)]))
  refine o_invokevirtual X_758 K d12_20 23 rfl (w_107 hw) (w_108 hw) (w_110 hw) (w_109 hw) (w_46 hw) (w_111 hw) (by decide) f_747 [(.ref r), (.int (0 : Int32)), (.int (1 : Int32)), (.int (own_hash [x0] (1 : Int32)))] [] rfl  (c_n4H l Z a0 hw n0 a r ba sa la _ _ _ s0 (1 : Int32) u ct (own_hash [x0] (1 : Int32)) pf (own_key [x0] (1 : Int32)) inf h_738 Z_738 f_747 f_748 f_749 f_750 f_751 f_752 f_753 f_754 g_a p_738f0 f_755 g_ba f_756 g_sa ne_a_ba ne_a_sa ne_ba_sa (Ne.symm ne_a_r) (Ne.symm ne_ba_r) (Ne.symm ne_sa_r) (by decide) (hu) (hct) f_757 g_la ne_la_a ne_la_ba ne_la_sa ne_la_r (c_key1 l Z a0 hw n0 r x0 h_738 Z_738 p_738f0) (hI) (hn0) (hk) (hh1)) e_758 rfl (lenOf pd___BIII_I rfl) (by decide) 0 (Nat.le_of_eq rfl) (by decide) (by decide) (by decide) N_758 ?_
  rintro _ T_759 h_759 locs_759 X_759 q_759 ⟨rfl, r_759⟩ N_759
  have e_759 := q_759.trans r_759
  show OGo p e below _ n0 _ (T_759.setTop (mkF m 23 #[.val (.ref a), .val (.ref sx), .val (.ref r)] [(.int (inf.toInt32 - (1 : Int32)))]))
  refine o_ireturn X_759 K d12_23 (by decide) (by decide) N_759 ?_
  rw [e_759]
  exact ⟨rfl, K_738⟩
set_option maxHeartbeats 4000000 in
theorem c_nSH_n (l : Launch) (Z : State) (a0 : Array Value) (hw : OW Z a0) (n0 : Nat) (a sx t u8 ba sa la : Addr) (x0 zcs u ct : Int32) (fb fs : Nat → Value) (s0 : Nat → Int64) (pf : Int64) (inf : Int64) (h0 : Heap) (Z0 : n0 ≤ h0.size) (S_COMPACT_STRINGS : Sta Z h0 "java/lang/String" "COMPACT_STRINGS" "Z" (.int zcs)) (hcs : ¬ zcs = 0) (S_INSTANCE : Sta Z h0 "sun/nio/cs/UTF_8" "INSTANCE" "Lsun/nio/cs/UTF_8;" (.ref u8)) (S_UTF_8 : Sta Z h0 "java/nio/charset/StandardCharsets" "UTF_8" "Ljava/nio/charset/Charset;" (.ref u8)) (E_sx : Exa Z h0 sx "java/lang/String") (F_sx_value : Fld Z h0 sx "java/lang/String" "value" "[B" (.ref t)) (F_sx_coder : Fld Z h0 sx "java/lang/String" "coder" "B" (.int (0 : Int32))) (A_t : OAr Z h0 t .byte 1 (own_B [x0])) (E_t : Exa Z h0 t "[B") (hs0 : x0.toInt < 0) (hb0 : nar .byte x0 = x0) (E_a : Exa Z h0 a "com/example/vikt/vikt/graph/NameTable") (F_a_bytes : Fld Z h0 a "com/example/vikt/vikt/graph/NameTable" "bytes" "[B" (.ref ba)) (F_a_starts : Fld Z h0 a "com/example/vikt/vikt/graph/NameTable" "starts" "[I" (.ref sa)) (F_a_slots : Fld Z h0 a "com/example/vikt/vikt/graph/NameTable" "slots" "[J" (.ref la)) (F_a_mask : Fld Z h0 a "com/example/vikt/vikt/graph/NameTable" "mask" "I" (.int (1023 : Int32))) (F_a_count : Fld Z h0 a "com/example/vikt/vikt/graph/NameTable" "count" "I" (.int ct)) (F_a_used : Fld Z h0 a "com/example/vikt/vikt/graph/NameTable" "used" "I" (.int u)) (F_a_prefetched : Fld Z h0 a "com/example/vikt/vikt/graph/NameTable" "prefetched" "J" (.long pf)) (g_a : n0 ≤ a) (A_ba : OAr Z h0 ba .byte 4096 fb) (g_ba : n0 ≤ ba) (A_sa : OAr Z h0 sa .int 1025 fs) (g_sa : n0 ≤ sa) (A_la : OAr Z h0 la .long 2048 (fun q => .long (s0 q))) (g_la : n0 ≤ la) (ne_a_ba : a ≠ ba) (ne_a_sa : a ≠ sa) (ne_ba_sa : ba ≠ sa) (ne_la_a : la ≠ a) (ne_la_ba : la ≠ ba) (ne_la_sa : la ≠ sa) (ne_sx_a : sx ≠ a) (ne_sx_ba : sx ≠ ba) (ne_sx_sa : sx ≠ sa) (ne_sx_la : sx ≠ la) (ne_t_a : t ≠ a) (ne_t_ba : t ≠ ba) (ne_t_sa : t ≠ sa) (ne_t_la : t ≠ la) (hu : 0 ≤ u.toInt ∧ u.toInt ≤ 100) (hct : 0 ≤ ct.toInt ∧ ct.toInt ≤ 100) (hI : s0 (2 * ((own_hash [(own_e1 x0), (own_e2 x0)] (2 : Int32)) &&& (1023 : Int32)).toInt.toNat + 1) = inf) (hn0 : ¬ inf = 0) (hk : s0 (2 * ((own_hash [(own_e1 x0), (own_e2 x0)] (2 : Int32)) &&& (1023 : Int32)).toInt.toNat) = (own_key [(own_e1 x0), (own_e2 x0)] (2 : Int32))) (hh1 : ((inf.toUInt64 >>> ((32 : Int32) &&& 0x3f).toInt64.toUInt64).toInt64).toInt32 = (own_hash [(own_e1 x0), (own_e2 x0)] (2 : Int32))) :
    OCon l Z n0 (⟨"com/example/vikt/vikt/graph/NameTable", "number", "(Ljava/lang/String;)I"⟩ : MethodName) prog_7_method_3_code 3 (some .int) ({ frames := 5, cells := 2, slots := 7, locals := 115 } : Room) #[(.ref a), (.ref sx)] h0 (fun v h => v = some (.int (inf.toInt32 - (1 : Int32))) ∧ Keep h0 h []) := by
  refine OCon.of (Ls := #[.val (.ref a), .val (.ref sx), .unset]) pn_12 rfl rfl (fun m => by first | (simp [entryFrame, mkF, argsToLocals, Value.category]; done) | rfl) ?_
  intro p e s m below meth c T0 X0 K e0
  have N0 := Fr.nil n0
  have KK0 := Keep.refl h0 []
  refine o_aloadN X0 K d12_0 1 rfl rfl rfl ?_
  refine o_getstatic X0 K (host := "") d12_1 4 rfl (Or.inl (w_66 hw)) Via.refl e0 S_UTF_8 ?_
  intro T_760 X_760 e_760
  refine o_invokevirtual X_760 K d12_4 7 rfl (w_68 hw) (w_69 hw) (w_71 hw) (w_70 hw) (w_2 hw) (w_72 hw) (by decide) E_sx [(.ref u8)] [] rfl  (c_gb_n l Z a0 hw n0 sx t u8 x0 zcs h0 Z0 S_COMPACT_STRINGS (hcs) S_INSTANCE E_sx F_sx_value F_sx_coder A_t E_t (hs0) (hb0)) e_760 rfl (lenOf pd__Ljava_nio_charset_Charset___B rfl) (by decide) 0 (Nat.le_of_eq rfl) (by decide) (by decide) (by decide) N0 ?_
  rintro _ T_761 h_761 locs_761 X_761 e_761 ⟨r, rfl, k_761, gg_761_r, sz_761_r, p_761f0, p_761f1⟩ N_761
  have Z_761 : n0 ≤ h_761.size := Nat.le_trans Z0 k_761.1
  have K_761 := KK0.trans k_761 (all0)
  have f_762 := o_sta_keep S_COMPACT_STRINGS k_761 (o_plain0)
  have f_763 := o_sta_keep S_INSTANCE k_761 (o_plain0)
  have f_764 := o_sta_keep S_UTF_8 k_761 (o_plain0)
  have f_765 := Exa.keep E_sx k_761
  have f_766 := Fld.keep F_sx_value k_761 (nin0)
  have f_767 := Fld.keep F_sx_coder k_761 (nin0)
  have f_768 := A_t.keep k_761 (nin0)
  have f_769 := Exa.keep E_t k_761
  have f_770 := Exa.keep E_a k_761
  have f_771 := Fld.keep F_a_bytes k_761 (nin0)
  have f_772 := Fld.keep F_a_starts k_761 (nin0)
  have f_773 := Fld.keep F_a_slots k_761 (nin0)
  have f_774 := Fld.keep F_a_mask k_761 (nin0)
  have f_775 := Fld.keep F_a_count k_761 (nin0)
  have f_776 := Fld.keep F_a_used k_761 (nin0)
  have f_777 := Fld.keep F_a_prefetched k_761 (nin0)
  have f_778 := A_ba.keep k_761 (nin0)
  have f_779 := A_sa.keep k_761 (nin0)
  have f_780 := A_la.keep k_761 (nin0)
  have ne_sx_r : sx ≠ r := Nat.ne_of_lt (Nat.lt_of_lt_of_le E_sx.lt sz_761_r)
  have ne_t_r : t ≠ r := Nat.ne_of_lt (Nat.lt_of_lt_of_le A_t.lt sz_761_r)
  have ne_a_r : a ≠ r := Nat.ne_of_lt (Nat.lt_of_lt_of_le E_a.lt sz_761_r)
  have ne_ba_r : ba ≠ r := Nat.ne_of_lt (Nat.lt_of_lt_of_le A_ba.lt sz_761_r)
  have ne_sa_r : sa ≠ r := Nat.ne_of_lt (Nat.lt_of_lt_of_le A_sa.lt sz_761_r)
  have ne_la_r : la ≠ r := Nat.ne_of_lt (Nat.lt_of_lt_of_le A_la.lt sz_761_r)
  have sz_r : h0.size ≤ r := Nat.le_trans KK0.1 sz_761_r
  show OGo p e below _ n0 _ (T_761.setTop (mkF m 7 #[.val (.ref a), .val (.ref sx), .unset] [(.ref r)]))
  refine o_astoreN X_761 K d12_7 8 rfl #[.val (.ref a), .val (.ref sx), .val (.ref r)] rfl rfl ?_
  refine o_aloadN X_761 K d12_8 9 rfl rfl rfl ?_
  refine o_aloadN X_761 K d12_9 10 rfl rfl rfl ?_
  refine o_iconst X_761 K (0 : Int32) d12_10 11 rfl rfl ?_
  refine o_aloadN X_761 K d12_11 12 rfl rfl rfl ?_
  refine o_arraylength X_761 K d12_12 13 rfl e_761 p_761f0 (v := (2 : Int32)) (rfl) ?_
  refine o_aloadN X_761 K d12_13 14 rfl rfl rfl ?_
  refine o_iconst X_761 K (0 : Int32) d12_14 15 rfl rfl ?_
  refine o_aloadN X_761 K d12_15 16 rfl rfl rfl ?_
  refine o_arraylength X_761 K d12_16 17 rfl e_761 p_761f0 (v := (2 : Int32)) (rfl) ?_
  refine o_invokestatic X_761 K d12_17 20 rfl (w_102 hw) (w_103 hw) (w_46 hw) (w_104 hw) (by decide) [(.ref r), (.int (0 : Int32)), (.int (2 : Int32))] [(.int (2 : Int32)), (.int (0 : Int32)), (.ref r), (.ref a)] rfl  (c_hash l Z a0 hw n0 r 2 (fun j => [(own_e1 x0), (own_e2 x0)].getD j 0) (0 : Int32) (2 : Int32) h_761 Z_761 p_761f0 (by decide)) e_761 rfl (lenOf pd___BII_I rfl) (by decide) 4 (Nat.le_of_eq rfl) (by decide) (by decide) (by decide) N_761 ?_
  rintro _ T_781 h_781 locs_781 X_781 q_781 ⟨rfl, r_781⟩ N_781
  have e_781 := q_781.trans r_781
  show OGo p e below _ n0 _ (T_781.setTop (mkF m 20 #[.val (.ref a), .val (.ref sx), .val (.ref r)] [(.int (own_hash [(own_e1 x0), (own_e2 x0)] (2 : Int32))), (.int (2 : Int32)), (.int (0 : Int32)), (.ref r), (.ref a)]))
  refine o_invokevirtual X_781 K d12_20 23 rfl (w_107 hw) (w_108 hw) (w_110 hw) (w_109 hw) (w_46 hw) (w_111 hw) (by decide) f_770 [(.ref r), (.int (0 : Int32)), (.int (2 : Int32)), (.int (own_hash [(own_e1 x0), (own_e2 x0)] (2 : Int32)))] [] rfl  (c_n4H l Z a0 hw n0 a r ba sa la _ _ _ s0 (2 : Int32) u ct (own_hash [(own_e1 x0), (own_e2 x0)] (2 : Int32)) pf (own_key [(own_e1 x0), (own_e2 x0)] (2 : Int32)) inf h_761 Z_761 f_770 f_771 f_772 f_773 f_774 f_775 f_776 f_777 g_a p_761f0 f_778 g_ba f_779 g_sa ne_a_ba ne_a_sa ne_ba_sa (Ne.symm ne_a_r) (Ne.symm ne_ba_r) (Ne.symm ne_sa_r) (by decide) (hu) (hct) f_780 g_la ne_la_a ne_la_ba ne_la_sa ne_la_r (c_key2 l Z a0 hw n0 r (own_e1 x0) (own_e2 x0) h_761 Z_761 p_761f0) (hI) (hn0) (hk) (hh1)) e_781 rfl (lenOf pd___BIII_I rfl) (by decide) 0 (Nat.le_of_eq rfl) (by decide) (by decide) (by decide) N_781 ?_
  rintro _ T_782 h_782 locs_782 X_782 q_782 ⟨rfl, r_782⟩ N_782
  have e_782 := q_782.trans r_782
  show OGo p e below _ n0 _ (T_782.setTop (mkF m 23 #[.val (.ref a), .val (.ref sx), .val (.ref r)] [(.int (inf.toInt32 - (1 : Int32)))]))
  refine o_ireturn X_782 K d12_23 (by decide) (by decide) N_782 ?_
  rw [e_782]
  exact ⟨rfl, K_761⟩
set_option maxHeartbeats 4000000 in
theorem c_nSC_pp (l : Launch) (Z : State) (a0 : Array Value) (hw : OW Z a0) (n0 : Nat) (a sx t u8 ba sa la : Addr) (x0 x1 zcs u ct : Int32) (fb fs : Nat → Value) (s0 : Nat → Int64) (pf : Int64) (inf kk : Int64) (h0 : Heap) (Z0 : n0 ≤ h0.size) (S_COMPACT_STRINGS : Sta Z h0 "java/lang/String" "COMPACT_STRINGS" "Z" (.int zcs)) (hcs : ¬ zcs = 0) (S_INSTANCE : Sta Z h0 "sun/nio/cs/UTF_8" "INSTANCE" "Lsun/nio/cs/UTF_8;" (.ref u8)) (S_UTF_8 : Sta Z h0 "java/nio/charset/StandardCharsets" "UTF_8" "Ljava/nio/charset/Charset;" (.ref u8)) (E_sx : Exa Z h0 sx "java/lang/String") (F_sx_value : Fld Z h0 sx "java/lang/String" "value" "[B" (.ref t)) (F_sx_coder : Fld Z h0 sx "java/lang/String" "coder" "B" (.int (0 : Int32))) (A_t : OAr Z h0 t .byte 2 (own_B [x0, x1])) (E_t : Exa Z h0 t "[B") (hs0 : 0 ≤ x0.toInt) (hb0 : nar .byte x0 = x0) (hs1 : 0 ≤ x1.toInt) (hb1 : nar .byte x1 = x1) (E_a : Exa Z h0 a "com/example/vikt/vikt/graph/NameTable") (F_a_bytes : Fld Z h0 a "com/example/vikt/vikt/graph/NameTable" "bytes" "[B" (.ref ba)) (F_a_starts : Fld Z h0 a "com/example/vikt/vikt/graph/NameTable" "starts" "[I" (.ref sa)) (F_a_slots : Fld Z h0 a "com/example/vikt/vikt/graph/NameTable" "slots" "[J" (.ref la)) (F_a_mask : Fld Z h0 a "com/example/vikt/vikt/graph/NameTable" "mask" "I" (.int (1023 : Int32))) (F_a_count : Fld Z h0 a "com/example/vikt/vikt/graph/NameTable" "count" "I" (.int ct)) (F_a_used : Fld Z h0 a "com/example/vikt/vikt/graph/NameTable" "used" "I" (.int u)) (F_a_prefetched : Fld Z h0 a "com/example/vikt/vikt/graph/NameTable" "prefetched" "J" (.long pf)) (g_a : n0 ≤ a) (A_ba : OAr Z h0 ba .byte 4096 fb) (g_ba : n0 ≤ ba) (A_sa : OAr Z h0 sa .int 1025 fs) (g_sa : n0 ≤ sa) (A_la : OAr Z h0 la .long 2048 (fun q => .long (s0 q))) (g_la : n0 ≤ la) (ne_a_ba : a ≠ ba) (ne_a_sa : a ≠ sa) (ne_ba_sa : ba ≠ sa) (ne_la_a : la ≠ a) (ne_la_ba : la ≠ ba) (ne_la_sa : la ≠ sa) (ne_sx_a : sx ≠ a) (ne_sx_ba : sx ≠ ba) (ne_sx_sa : sx ≠ sa) (ne_sx_la : sx ≠ la) (ne_t_a : t ≠ a) (ne_t_ba : t ≠ ba) (ne_t_sa : t ≠ sa) (ne_t_la : t ≠ la) (hu : 0 ≤ u.toInt ∧ u.toInt ≤ 100) (hct : 0 ≤ ct.toInt ∧ ct.toInt ≤ 100) (hI : s0 (2 * ((own_hash [x0, x1] (2 : Int32)) &&& (1023 : Int32)).toInt.toNat + 1) = inf) (hn0 : ¬ inf = 0) (hk : s0 (2 * ((own_hash [x0, x1] (2 : Int32)) &&& (1023 : Int32)).toInt.toNat) = kk) (hkk : ¬ kk = (own_key [x0, x1] (2 : Int32))) (hI1 : s0 (2 * ((((own_hash [x0, x1] (2 : Int32)) &&& (1023 : Int32)) + (1 : Int32)) &&& (1023 : Int32)).toInt.toNat + 1) = 0) :
    OCon l Z n0 (⟨"com/example/vikt/vikt/graph/NameTable", "number", "(Ljava/lang/String;)I"⟩ : MethodName) prog_7_method_3_code 3 (some .int) ({ frames := 5, cells := 2, slots := 7, locals := 115 } : Room) #[(.ref a), (.ref sx)] h0 (fun v h => v = some (.int ct) ∧ Keep h0 h [a, ba, sa, la] ∧ Exa Z h a "com/example/vikt/vikt/graph/NameTable" ∧ Fld Z h a "com/example/vikt/vikt/graph/NameTable" "bytes" "[B" (.ref ba) ∧ Fld Z h a "com/example/vikt/vikt/graph/NameTable" "starts" "[I" (.ref sa) ∧ Fld Z h a "com/example/vikt/vikt/graph/NameTable" "slots" "[J" (.ref la) ∧ Fld Z h a "com/example/vikt/vikt/graph/NameTable" "mask" "I" (.int (1023 : Int32)) ∧ Fld Z h a "com/example/vikt/vikt/graph/NameTable" "count" "I" (.int (ct + (1 : Int32))) ∧ Fld Z h a "com/example/vikt/vikt/graph/NameTable" "used" "I" (.int (u + ((2 : Int32) - (0 : Int32)))) ∧ Fld Z h a "com/example/vikt/vikt/graph/NameTable" "prefetched" "J" (.long pf) ∧ OAr Z h ba .byte 4096 (own_cp u.toInt.toNat (2 : Int32).toInt.toNat (own_B [x0, x1]) fb) ∧ OAr Z h sa .int 1025 (own_st (ct + (1 : Int32)).toInt.toNat (.int (u + ((2 : Int32) - (0 : Int32)))) fs) ∧ OAr Z h la .long 2048 (fun q => .long ((own_put (2 * ((((own_hash [x0, x1] (2 : Int32)) &&& (1023 : Int32)) + (1 : Int32)) &&& (1023 : Int32)).toInt.toNat) (2 * ((((own_hash [x0, x1] (2 : Int32)) &&& (1023 : Int32)) + (1 : Int32)) &&& (1023 : Int32)).toInt.toNat + 1) (((own_hash [x0, x1] (2 : Int32)).toInt64 <<< ((32 : Int32) &&& 0x3f).toInt64) ||| ((ct + (1 : Int32)).toInt64)) (own_key [x0, x1] (2 : Int32)) s0) q))) := by
  refine OCon.of (Ls := #[.val (.ref a), .val (.ref sx), .unset]) pn_12 rfl rfl (fun m => by first | (simp [entryFrame, mkF, argsToLocals, Value.category]; done) | rfl) ?_
  intro p e s m below meth c T0 X0 K e0
  have N0 := Fr.nil n0
  have KK0 := Keep.refl h0 [a, ba, sa, la]
  refine o_aloadN X0 K d12_0 1 rfl rfl rfl ?_
  refine o_getstatic X0 K (host := "") d12_1 4 rfl (Or.inl (w_66 hw)) Via.refl e0 S_UTF_8 ?_
  intro T_783 X_783 e_783
  refine o_invokevirtual X_783 K d12_4 7 rfl (w_68 hw) (w_69 hw) (w_71 hw) (w_70 hw) (w_2 hw) (w_72 hw) (by decide) E_sx [(.ref u8)] [] rfl  (c_gb_pp l Z a0 hw n0 sx t u8 x0 x1 zcs h0 Z0 S_COMPACT_STRINGS (hcs) S_INSTANCE E_sx F_sx_value F_sx_coder A_t E_t (hs0) (hb0) (hs1) (hb1)) e_783 rfl (lenOf pd__Ljava_nio_charset_Charset___B rfl) (by decide) 0 (Nat.le_of_eq rfl) (by decide) (by decide) (by decide) N0 ?_
  rintro _ T_784 h_784 locs_784 X_784 e_784 ⟨r, rfl, k_784, gg_784_r, sz_784_r, p_784f0, p_784f1⟩ N_784
  have Z_784 : n0 ≤ h_784.size := Nat.le_trans Z0 k_784.1
  have K_784 := KK0.trans k_784 (all0)
  have f_785 := o_sta_keep S_COMPACT_STRINGS k_784 (o_plain0)
  have f_786 := o_sta_keep S_INSTANCE k_784 (o_plain0)
  have f_787 := o_sta_keep S_UTF_8 k_784 (o_plain0)
  have f_788 := Exa.keep E_sx k_784
  have f_789 := Fld.keep F_sx_value k_784 (nin0)
  have f_790 := Fld.keep F_sx_coder k_784 (nin0)
  have f_791 := A_t.keep k_784 (nin0)
  have f_792 := Exa.keep E_t k_784
  have f_793 := Exa.keep E_a k_784
  have f_794 := Fld.keep F_a_bytes k_784 (nin0)
  have f_795 := Fld.keep F_a_starts k_784 (nin0)
  have f_796 := Fld.keep F_a_slots k_784 (nin0)
  have f_797 := Fld.keep F_a_mask k_784 (nin0)
  have f_798 := Fld.keep F_a_count k_784 (nin0)
  have f_799 := Fld.keep F_a_used k_784 (nin0)
  have f_800 := Fld.keep F_a_prefetched k_784 (nin0)
  have f_801 := A_ba.keep k_784 (nin0)
  have f_802 := A_sa.keep k_784 (nin0)
  have f_803 := A_la.keep k_784 (nin0)
  have ne_sx_r : sx ≠ r := Nat.ne_of_lt (Nat.lt_of_lt_of_le E_sx.lt sz_784_r)
  have ne_t_r : t ≠ r := Nat.ne_of_lt (Nat.lt_of_lt_of_le A_t.lt sz_784_r)
  have ne_a_r : a ≠ r := Nat.ne_of_lt (Nat.lt_of_lt_of_le E_a.lt sz_784_r)
  have ne_ba_r : ba ≠ r := Nat.ne_of_lt (Nat.lt_of_lt_of_le A_ba.lt sz_784_r)
  have ne_sa_r : sa ≠ r := Nat.ne_of_lt (Nat.lt_of_lt_of_le A_sa.lt sz_784_r)
  have ne_la_r : la ≠ r := Nat.ne_of_lt (Nat.lt_of_lt_of_le A_la.lt sz_784_r)
  have sz_r : h0.size ≤ r := Nat.le_trans KK0.1 sz_784_r
  show OGo p e below _ n0 _ (T_784.setTop (mkF m 7 #[.val (.ref a), .val (.ref sx), .unset] [(.ref r)]))
  refine o_astoreN X_784 K d12_7 8 rfl #[.val (.ref a), .val (.ref sx), .val (.ref r)] rfl rfl ?_
  refine o_aloadN X_784 K d12_8 9 rfl rfl rfl ?_
  refine o_aloadN X_784 K d12_9 10 rfl rfl rfl ?_
  refine o_iconst X_784 K (0 : Int32) d12_10 11 rfl rfl ?_
  refine o_aloadN X_784 K d12_11 12 rfl rfl rfl ?_
  refine o_arraylength X_784 K d12_12 13 rfl e_784 p_784f0 (v := (2 : Int32)) (rfl) ?_
  refine o_aloadN X_784 K d12_13 14 rfl rfl rfl ?_
  refine o_iconst X_784 K (0 : Int32) d12_14 15 rfl rfl ?_
  refine o_aloadN X_784 K d12_15 16 rfl rfl rfl ?_
  refine o_arraylength X_784 K d12_16 17 rfl e_784 p_784f0 (v := (2 : Int32)) (rfl) ?_
  refine o_invokestatic X_784 K d12_17 20 rfl (w_102 hw) (w_103 hw) (w_46 hw) (w_104 hw) (by decide) [(.ref r), (.int (0 : Int32)), (.int (2 : Int32))] [(.int (2 : Int32)), (.int (0 : Int32)), (.ref r), (.ref a)] rfl  (c_hash l Z a0 hw n0 r 2 (fun j => [x0, x1].getD j 0) (0 : Int32) (2 : Int32) h_784 Z_784 p_784f0 (by decide)) e_784 rfl (lenOf pd___BII_I rfl) (by decide) 4 (Nat.le_of_eq rfl) (by decide) (by decide) (by decide) N_784 ?_
  rintro _ T_804 h_804 locs_804 X_804 q_804 ⟨rfl, r_804⟩ N_804
  have e_804 := q_804.trans r_804
  show OGo p e below _ n0 _ (T_804.setTop (mkF m 20 #[.val (.ref a), .val (.ref sx), .val (.ref r)] [(.int (own_hash [x0, x1] (2 : Int32))), (.int (2 : Int32)), (.int (0 : Int32)), (.ref r), (.ref a)]))
  refine o_invokevirtual X_804 K d12_20 23 rfl (w_107 hw) (w_108 hw) (w_110 hw) (w_109 hw) (w_46 hw) (w_111 hw) (by decide) f_793 [(.ref r), (.int (0 : Int32)), (.int (2 : Int32)), (.int (own_hash [x0, x1] (2 : Int32)))] [] rfl  (c_n4C l Z a0 hw n0 a r ba sa la _ _ _ s0 (2 : Int32) u ct (own_hash [x0, x1] (2 : Int32)) pf (own_key [x0, x1] (2 : Int32)) inf kk h_784 Z_784 f_793 f_794 f_795 f_796 f_797 f_798 f_799 f_800 g_a p_784f0 f_801 g_ba f_802 g_sa ne_a_ba ne_a_sa ne_ba_sa (Ne.symm ne_a_r) (Ne.symm ne_ba_r) (Ne.symm ne_sa_r) (by decide) (hu) (hct) f_803 g_la ne_la_a ne_la_ba ne_la_sa ne_la_r (c_key2 l Z a0 hw n0 r x0 x1 h_784 Z_784 p_784f0) (hI) (hn0) (hk) (hkk) (hI1)) e_804 rfl (lenOf pd___BIII_I rfl) (by decide) 0 (Nat.le_of_eq rfl) (by decide) (by decide) (by decide) N_804 ?_
  rintro _ T_805 h_805 locs_805 X_805 e_805 ⟨rfl, k_805, p_805f0, p_805f1, p_805f2, p_805f3, p_805f4, p_805f5, p_805f6, p_805f7, p_805f8, p_805f9, p_805f10⟩ N_805
  have Z_805 : n0 ≤ h_805.size := Nat.le_trans Z_784 k_805.1
  have K_805 := K_784.trans k_805 (allS (Or.inl (by simp)) (allS (Or.inl (by simp)) (allS (Or.inl (by simp)) (allS (Or.inl (by simp)) (all0)))))
  have f_806 := o_sta_keep f_785 k_805 (o_plainS f_793 (o_plainR f_801 (o_plainR f_802 (o_plainR f_803 (o_plain0)))))
  have f_807 := o_sta_keep f_786 k_805 (o_plainS f_793 (o_plainR f_801 (o_plainR f_802 (o_plainR f_803 (o_plain0)))))
  have f_808 := o_sta_keep f_787 k_805 (o_plainS f_793 (o_plainR f_801 (o_plainR f_802 (o_plainR f_803 (o_plain0)))))
  have f_809 := Exa.keep f_788 k_805
  have f_810 := Fld.keep f_789 k_805 (ninS ne_sx_a (ninS ne_sx_ba (ninS ne_sx_sa (ninS ne_sx_la (nin0)))))
  have f_811 := Fld.keep f_790 k_805 (ninS ne_sx_a (ninS ne_sx_ba (ninS ne_sx_sa (ninS ne_sx_la (nin0)))))
  have f_812 := f_791.keep k_805 (ninS ne_t_a (ninS ne_t_ba (ninS ne_t_sa (ninS ne_t_la (nin0)))))
  have f_813 := Exa.keep f_792 k_805
  have f_814 := Exa.keep f_793 k_805
  have f_815 := p_784f0.keep k_805 (ninS (Ne.symm ne_a_r) (ninS (Ne.symm ne_ba_r) (ninS (Ne.symm ne_sa_r) (ninS (Ne.symm ne_la_r) (nin0)))))
  have f_816 := Exa.keep p_784f1 k_805
  show OGo p e below _ n0 _ (T_805.setTop (mkF m 23 #[.val (.ref a), .val (.ref sx), .val (.ref r)] [(.int ct)]))
  refine o_ireturn X_805 K d12_23 (by decide) (by decide) N_805 ?_
  rw [e_805]
  exact ⟨rfl, K_805, p_805f0, p_805f1, p_805f2, p_805f3, p_805f4, p_805f5, p_805f6, p_805f7, p_805f8, p_805f9, p_805f10⟩
set_option maxHeartbeats 4000000 in
theorem c_nSC_pn (l : Launch) (Z : State) (a0 : Array Value) (hw : OW Z a0) (n0 : Nat) (a sx t u8 ba sa la : Addr) (x0 x1 zcs u ct : Int32) (fb fs : Nat → Value) (s0 : Nat → Int64) (pf : Int64) (inf kk : Int64) (h0 : Heap) (Z0 : n0 ≤ h0.size) (S_COMPACT_STRINGS : Sta Z h0 "java/lang/String" "COMPACT_STRINGS" "Z" (.int zcs)) (hcs : ¬ zcs = 0) (S_INSTANCE : Sta Z h0 "sun/nio/cs/UTF_8" "INSTANCE" "Lsun/nio/cs/UTF_8;" (.ref u8)) (S_UTF_8 : Sta Z h0 "java/nio/charset/StandardCharsets" "UTF_8" "Ljava/nio/charset/Charset;" (.ref u8)) (E_sx : Exa Z h0 sx "java/lang/String") (F_sx_value : Fld Z h0 sx "java/lang/String" "value" "[B" (.ref t)) (F_sx_coder : Fld Z h0 sx "java/lang/String" "coder" "B" (.int (0 : Int32))) (A_t : OAr Z h0 t .byte 2 (own_B [x0, x1])) (E_t : Exa Z h0 t "[B") (hs0 : 0 ≤ x0.toInt) (hb0 : nar .byte x0 = x0) (hs1 : x1.toInt < 0) (hb1 : nar .byte x1 = x1) (E_a : Exa Z h0 a "com/example/vikt/vikt/graph/NameTable") (F_a_bytes : Fld Z h0 a "com/example/vikt/vikt/graph/NameTable" "bytes" "[B" (.ref ba)) (F_a_starts : Fld Z h0 a "com/example/vikt/vikt/graph/NameTable" "starts" "[I" (.ref sa)) (F_a_slots : Fld Z h0 a "com/example/vikt/vikt/graph/NameTable" "slots" "[J" (.ref la)) (F_a_mask : Fld Z h0 a "com/example/vikt/vikt/graph/NameTable" "mask" "I" (.int (1023 : Int32))) (F_a_count : Fld Z h0 a "com/example/vikt/vikt/graph/NameTable" "count" "I" (.int ct)) (F_a_used : Fld Z h0 a "com/example/vikt/vikt/graph/NameTable" "used" "I" (.int u)) (F_a_prefetched : Fld Z h0 a "com/example/vikt/vikt/graph/NameTable" "prefetched" "J" (.long pf)) (g_a : n0 ≤ a) (A_ba : OAr Z h0 ba .byte 4096 fb) (g_ba : n0 ≤ ba) (A_sa : OAr Z h0 sa .int 1025 fs) (g_sa : n0 ≤ sa) (A_la : OAr Z h0 la .long 2048 (fun q => .long (s0 q))) (g_la : n0 ≤ la) (ne_a_ba : a ≠ ba) (ne_a_sa : a ≠ sa) (ne_ba_sa : ba ≠ sa) (ne_la_a : la ≠ a) (ne_la_ba : la ≠ ba) (ne_la_sa : la ≠ sa) (ne_sx_a : sx ≠ a) (ne_sx_ba : sx ≠ ba) (ne_sx_sa : sx ≠ sa) (ne_sx_la : sx ≠ la) (ne_t_a : t ≠ a) (ne_t_ba : t ≠ ba) (ne_t_sa : t ≠ sa) (ne_t_la : t ≠ la) (hu : 0 ≤ u.toInt ∧ u.toInt ≤ 100) (hct : 0 ≤ ct.toInt ∧ ct.toInt ≤ 100) (hI : s0 (2 * ((own_hash [x0, (own_e1 x1), (own_e2 x1)] (3 : Int32)) &&& (1023 : Int32)).toInt.toNat + 1) = inf) (hn0 : ¬ inf = 0) (hk : s0 (2 * ((own_hash [x0, (own_e1 x1), (own_e2 x1)] (3 : Int32)) &&& (1023 : Int32)).toInt.toNat) = kk) (hkk : ¬ kk = (own_key [x0, (own_e1 x1), (own_e2 x1)] (3 : Int32))) (hI1 : s0 (2 * ((((own_hash [x0, (own_e1 x1), (own_e2 x1)] (3 : Int32)) &&& (1023 : Int32)) + (1 : Int32)) &&& (1023 : Int32)).toInt.toNat + 1) = 0) :
    OCon l Z n0 (⟨"com/example/vikt/vikt/graph/NameTable", "number", "(Ljava/lang/String;)I"⟩ : MethodName) prog_7_method_3_code 3 (some .int) ({ frames := 5, cells := 2, slots := 7, locals := 115 } : Room) #[(.ref a), (.ref sx)] h0 (fun v h => v = some (.int ct) ∧ Keep h0 h [a, ba, sa, la] ∧ Exa Z h a "com/example/vikt/vikt/graph/NameTable" ∧ Fld Z h a "com/example/vikt/vikt/graph/NameTable" "bytes" "[B" (.ref ba) ∧ Fld Z h a "com/example/vikt/vikt/graph/NameTable" "starts" "[I" (.ref sa) ∧ Fld Z h a "com/example/vikt/vikt/graph/NameTable" "slots" "[J" (.ref la) ∧ Fld Z h a "com/example/vikt/vikt/graph/NameTable" "mask" "I" (.int (1023 : Int32)) ∧ Fld Z h a "com/example/vikt/vikt/graph/NameTable" "count" "I" (.int (ct + (1 : Int32))) ∧ Fld Z h a "com/example/vikt/vikt/graph/NameTable" "used" "I" (.int (u + ((3 : Int32) - (0 : Int32)))) ∧ Fld Z h a "com/example/vikt/vikt/graph/NameTable" "prefetched" "J" (.long pf) ∧ OAr Z h ba .byte 4096 (own_cp u.toInt.toNat (3 : Int32).toInt.toNat (own_B [x0, (own_e1 x1), (own_e2 x1)]) fb) ∧ OAr Z h sa .int 1025 (own_st (ct + (1 : Int32)).toInt.toNat (.int (u + ((3 : Int32) - (0 : Int32)))) fs) ∧ OAr Z h la .long 2048 (fun q => .long ((own_put (2 * ((((own_hash [x0, (own_e1 x1), (own_e2 x1)] (3 : Int32)) &&& (1023 : Int32)) + (1 : Int32)) &&& (1023 : Int32)).toInt.toNat) (2 * ((((own_hash [x0, (own_e1 x1), (own_e2 x1)] (3 : Int32)) &&& (1023 : Int32)) + (1 : Int32)) &&& (1023 : Int32)).toInt.toNat + 1) (((own_hash [x0, (own_e1 x1), (own_e2 x1)] (3 : Int32)).toInt64 <<< ((32 : Int32) &&& 0x3f).toInt64) ||| ((ct + (1 : Int32)).toInt64)) (own_key [x0, (own_e1 x1), (own_e2 x1)] (3 : Int32)) s0) q))) := by
  refine OCon.of (Ls := #[.val (.ref a), .val (.ref sx), .unset]) pn_12 rfl rfl (fun m => by first | (simp [entryFrame, mkF, argsToLocals, Value.category]; done) | rfl) ?_
  intro p e s m below meth c T0 X0 K e0
  have N0 := Fr.nil n0
  have KK0 := Keep.refl h0 [a, ba, sa, la]
  refine o_aloadN X0 K d12_0 1 rfl rfl rfl ?_
  refine o_getstatic X0 K (host := "") d12_1 4 rfl (Or.inl (w_66 hw)) Via.refl e0 S_UTF_8 ?_
  intro T_817 X_817 e_817
  refine o_invokevirtual X_817 K d12_4 7 rfl (w_68 hw) (w_69 hw) (w_71 hw) (w_70 hw) (w_2 hw) (w_72 hw) (by decide) E_sx [(.ref u8)] [] rfl  (c_gb_pn l Z a0 hw n0 sx t u8 x0 x1 zcs h0 Z0 S_COMPACT_STRINGS (hcs) S_INSTANCE E_sx F_sx_value F_sx_coder A_t E_t (hs0) (hb0) (hs1) (hb1)) e_817 rfl (lenOf pd__Ljava_nio_charset_Charset___B rfl) (by decide) 0 (Nat.le_of_eq rfl) (by decide) (by decide) (by decide) N0 ?_
  rintro _ T_818 h_818 locs_818 X_818 e_818 ⟨r, rfl, k_818, gg_818_r, sz_818_r, p_818f0, p_818f1⟩ N_818
  have Z_818 : n0 ≤ h_818.size := Nat.le_trans Z0 k_818.1
  have K_818 := KK0.trans k_818 (all0)
  have f_819 := o_sta_keep S_COMPACT_STRINGS k_818 (o_plain0)
  have f_820 := o_sta_keep S_INSTANCE k_818 (o_plain0)
  have f_821 := o_sta_keep S_UTF_8 k_818 (o_plain0)
  have f_822 := Exa.keep E_sx k_818
  have f_823 := Fld.keep F_sx_value k_818 (nin0)
  have f_824 := Fld.keep F_sx_coder k_818 (nin0)
  have f_825 := A_t.keep k_818 (nin0)
  have f_826 := Exa.keep E_t k_818
  have f_827 := Exa.keep E_a k_818
  have f_828 := Fld.keep F_a_bytes k_818 (nin0)
  have f_829 := Fld.keep F_a_starts k_818 (nin0)
  have f_830 := Fld.keep F_a_slots k_818 (nin0)
  have f_831 := Fld.keep F_a_mask k_818 (nin0)
  have f_832 := Fld.keep F_a_count k_818 (nin0)
  have f_833 := Fld.keep F_a_used k_818 (nin0)
  have f_834 := Fld.keep F_a_prefetched k_818 (nin0)
  have f_835 := A_ba.keep k_818 (nin0)
  have f_836 := A_sa.keep k_818 (nin0)
  have f_837 := A_la.keep k_818 (nin0)
  have ne_sx_r : sx ≠ r := Nat.ne_of_lt (Nat.lt_of_lt_of_le E_sx.lt sz_818_r)
  have ne_t_r : t ≠ r := Nat.ne_of_lt (Nat.lt_of_lt_of_le A_t.lt sz_818_r)
  have ne_a_r : a ≠ r := Nat.ne_of_lt (Nat.lt_of_lt_of_le E_a.lt sz_818_r)
  have ne_ba_r : ba ≠ r := Nat.ne_of_lt (Nat.lt_of_lt_of_le A_ba.lt sz_818_r)
  have ne_sa_r : sa ≠ r := Nat.ne_of_lt (Nat.lt_of_lt_of_le A_sa.lt sz_818_r)
  have ne_la_r : la ≠ r := Nat.ne_of_lt (Nat.lt_of_lt_of_le A_la.lt sz_818_r)
  have sz_r : h0.size ≤ r := Nat.le_trans KK0.1 sz_818_r
  show OGo p e below _ n0 _ (T_818.setTop (mkF m 7 #[.val (.ref a), .val (.ref sx), .unset] [(.ref r)]))
  refine o_astoreN X_818 K d12_7 8 rfl #[.val (.ref a), .val (.ref sx), .val (.ref r)] rfl rfl ?_
  refine o_aloadN X_818 K d12_8 9 rfl rfl rfl ?_
  refine o_aloadN X_818 K d12_9 10 rfl rfl rfl ?_
  refine o_iconst X_818 K (0 : Int32) d12_10 11 rfl rfl ?_
  refine o_aloadN X_818 K d12_11 12 rfl rfl rfl ?_
  refine o_arraylength X_818 K d12_12 13 rfl e_818 p_818f0 (v := (3 : Int32)) (rfl) ?_
  refine o_aloadN X_818 K d12_13 14 rfl rfl rfl ?_
  refine o_iconst X_818 K (0 : Int32) d12_14 15 rfl rfl ?_
  refine o_aloadN X_818 K d12_15 16 rfl rfl rfl ?_
  refine o_arraylength X_818 K d12_16 17 rfl e_818 p_818f0 (v := (3 : Int32)) (rfl) ?_
  refine o_invokestatic X_818 K d12_17 20 rfl (w_102 hw) (w_103 hw) (w_46 hw) (w_104 hw) (by decide) [(.ref r), (.int (0 : Int32)), (.int (3 : Int32))] [(.int (3 : Int32)), (.int (0 : Int32)), (.ref r), (.ref a)] rfl  (c_hash l Z a0 hw n0 r 3 (fun j => [x0, (own_e1 x1), (own_e2 x1)].getD j 0) (0 : Int32) (3 : Int32) h_818 Z_818 p_818f0 (by decide)) e_818 rfl (lenOf pd___BII_I rfl) (by decide) 4 (Nat.le_of_eq rfl) (by decide) (by decide) (by decide) N_818 ?_
  rintro _ T_838 h_838 locs_838 X_838 q_838 ⟨rfl, r_838⟩ N_838
  have e_838 := q_838.trans r_838
  show OGo p e below _ n0 _ (T_838.setTop (mkF m 20 #[.val (.ref a), .val (.ref sx), .val (.ref r)] [(.int (own_hash [x0, (own_e1 x1), (own_e2 x1)] (3 : Int32))), (.int (3 : Int32)), (.int (0 : Int32)), (.ref r), (.ref a)]))
  refine o_invokevirtual X_838 K d12_20 23 rfl (w_107 hw) (w_108 hw) (w_110 hw) (w_109 hw) (w_46 hw) (w_111 hw) (by decide) f_827 [(.ref r), (.int (0 : Int32)), (.int (3 : Int32)), (.int (own_hash [x0, (own_e1 x1), (own_e2 x1)] (3 : Int32)))] [] rfl  (c_n4C l Z a0 hw n0 a r ba sa la _ _ _ s0 (3 : Int32) u ct (own_hash [x0, (own_e1 x1), (own_e2 x1)] (3 : Int32)) pf (own_key [x0, (own_e1 x1), (own_e2 x1)] (3 : Int32)) inf kk h_818 Z_818 f_827 f_828 f_829 f_830 f_831 f_832 f_833 f_834 g_a p_818f0 f_835 g_ba f_836 g_sa ne_a_ba ne_a_sa ne_ba_sa (Ne.symm ne_a_r) (Ne.symm ne_ba_r) (Ne.symm ne_sa_r) (by decide) (hu) (hct) f_837 g_la ne_la_a ne_la_ba ne_la_sa ne_la_r (c_key3 l Z a0 hw n0 r x0 (own_e1 x1) (own_e2 x1) h_818 Z_818 p_818f0) (hI) (hn0) (hk) (hkk) (hI1)) e_838 rfl (lenOf pd___BIII_I rfl) (by decide) 0 (Nat.le_of_eq rfl) (by decide) (by decide) (by decide) N_838 ?_
  rintro _ T_839 h_839 locs_839 X_839 e_839 ⟨rfl, k_839, p_839f0, p_839f1, p_839f2, p_839f3, p_839f4, p_839f5, p_839f6, p_839f7, p_839f8, p_839f9, p_839f10⟩ N_839
  have Z_839 : n0 ≤ h_839.size := Nat.le_trans Z_818 k_839.1
  have K_839 := K_818.trans k_839 (allS (Or.inl (by simp)) (allS (Or.inl (by simp)) (allS (Or.inl (by simp)) (allS (Or.inl (by simp)) (all0)))))
  have f_840 := o_sta_keep f_819 k_839 (o_plainS f_827 (o_plainR f_835 (o_plainR f_836 (o_plainR f_837 (o_plain0)))))
  have f_841 := o_sta_keep f_820 k_839 (o_plainS f_827 (o_plainR f_835 (o_plainR f_836 (o_plainR f_837 (o_plain0)))))
  have f_842 := o_sta_keep f_821 k_839 (o_plainS f_827 (o_plainR f_835 (o_plainR f_836 (o_plainR f_837 (o_plain0)))))
  have f_843 := Exa.keep f_822 k_839
  have f_844 := Fld.keep f_823 k_839 (ninS ne_sx_a (ninS ne_sx_ba (ninS ne_sx_sa (ninS ne_sx_la (nin0)))))
  have f_845 := Fld.keep f_824 k_839 (ninS ne_sx_a (ninS ne_sx_ba (ninS ne_sx_sa (ninS ne_sx_la (nin0)))))
  have f_846 := f_825.keep k_839 (ninS ne_t_a (ninS ne_t_ba (ninS ne_t_sa (ninS ne_t_la (nin0)))))
  have f_847 := Exa.keep f_826 k_839
  have f_848 := Exa.keep f_827 k_839
  have f_849 := p_818f0.keep k_839 (ninS (Ne.symm ne_a_r) (ninS (Ne.symm ne_ba_r) (ninS (Ne.symm ne_sa_r) (ninS (Ne.symm ne_la_r) (nin0)))))
  have f_850 := Exa.keep p_818f1 k_839
  show OGo p e below _ n0 _ (T_839.setTop (mkF m 23 #[.val (.ref a), .val (.ref sx), .val (.ref r)] [(.int ct)]))
  refine o_ireturn X_839 K d12_23 (by decide) (by decide) N_839 ?_
  rw [e_839]
  exact ⟨rfl, K_839, p_839f0, p_839f1, p_839f2, p_839f3, p_839f4, p_839f5, p_839f6, p_839f7, p_839f8, p_839f9, p_839f10⟩
set_option maxHeartbeats 4000000 in
theorem c_nSC_np (l : Launch) (Z : State) (a0 : Array Value) (hw : OW Z a0) (n0 : Nat) (a sx t u8 ba sa la : Addr) (x0 x1 zcs u ct : Int32) (fb fs : Nat → Value) (s0 : Nat → Int64) (pf : Int64) (inf kk : Int64) (h0 : Heap) (Z0 : n0 ≤ h0.size) (S_COMPACT_STRINGS : Sta Z h0 "java/lang/String" "COMPACT_STRINGS" "Z" (.int zcs)) (hcs : ¬ zcs = 0) (S_INSTANCE : Sta Z h0 "sun/nio/cs/UTF_8" "INSTANCE" "Lsun/nio/cs/UTF_8;" (.ref u8)) (S_UTF_8 : Sta Z h0 "java/nio/charset/StandardCharsets" "UTF_8" "Ljava/nio/charset/Charset;" (.ref u8)) (E_sx : Exa Z h0 sx "java/lang/String") (F_sx_value : Fld Z h0 sx "java/lang/String" "value" "[B" (.ref t)) (F_sx_coder : Fld Z h0 sx "java/lang/String" "coder" "B" (.int (0 : Int32))) (A_t : OAr Z h0 t .byte 2 (own_B [x0, x1])) (E_t : Exa Z h0 t "[B") (hs0 : x0.toInt < 0) (hb0 : nar .byte x0 = x0) (hs1 : 0 ≤ x1.toInt) (hb1 : nar .byte x1 = x1) (E_a : Exa Z h0 a "com/example/vikt/vikt/graph/NameTable") (F_a_bytes : Fld Z h0 a "com/example/vikt/vikt/graph/NameTable" "bytes" "[B" (.ref ba)) (F_a_starts : Fld Z h0 a "com/example/vikt/vikt/graph/NameTable" "starts" "[I" (.ref sa)) (F_a_slots : Fld Z h0 a "com/example/vikt/vikt/graph/NameTable" "slots" "[J" (.ref la)) (F_a_mask : Fld Z h0 a "com/example/vikt/vikt/graph/NameTable" "mask" "I" (.int (1023 : Int32))) (F_a_count : Fld Z h0 a "com/example/vikt/vikt/graph/NameTable" "count" "I" (.int ct)) (F_a_used : Fld Z h0 a "com/example/vikt/vikt/graph/NameTable" "used" "I" (.int u)) (F_a_prefetched : Fld Z h0 a "com/example/vikt/vikt/graph/NameTable" "prefetched" "J" (.long pf)) (g_a : n0 ≤ a) (A_ba : OAr Z h0 ba .byte 4096 fb) (g_ba : n0 ≤ ba) (A_sa : OAr Z h0 sa .int 1025 fs) (g_sa : n0 ≤ sa) (A_la : OAr Z h0 la .long 2048 (fun q => .long (s0 q))) (g_la : n0 ≤ la) (ne_a_ba : a ≠ ba) (ne_a_sa : a ≠ sa) (ne_ba_sa : ba ≠ sa) (ne_la_a : la ≠ a) (ne_la_ba : la ≠ ba) (ne_la_sa : la ≠ sa) (ne_sx_a : sx ≠ a) (ne_sx_ba : sx ≠ ba) (ne_sx_sa : sx ≠ sa) (ne_sx_la : sx ≠ la) (ne_t_a : t ≠ a) (ne_t_ba : t ≠ ba) (ne_t_sa : t ≠ sa) (ne_t_la : t ≠ la) (hu : 0 ≤ u.toInt ∧ u.toInt ≤ 100) (hct : 0 ≤ ct.toInt ∧ ct.toInt ≤ 100) (hI : s0 (2 * ((own_hash [(own_e1 x0), (own_e2 x0), x1] (3 : Int32)) &&& (1023 : Int32)).toInt.toNat + 1) = inf) (hn0 : ¬ inf = 0) (hk : s0 (2 * ((own_hash [(own_e1 x0), (own_e2 x0), x1] (3 : Int32)) &&& (1023 : Int32)).toInt.toNat) = kk) (hkk : ¬ kk = (own_key [(own_e1 x0), (own_e2 x0), x1] (3 : Int32))) (hI1 : s0 (2 * ((((own_hash [(own_e1 x0), (own_e2 x0), x1] (3 : Int32)) &&& (1023 : Int32)) + (1 : Int32)) &&& (1023 : Int32)).toInt.toNat + 1) = 0) :
    OCon l Z n0 (⟨"com/example/vikt/vikt/graph/NameTable", "number", "(Ljava/lang/String;)I"⟩ : MethodName) prog_7_method_3_code 3 (some .int) ({ frames := 5, cells := 2, slots := 7, locals := 115 } : Room) #[(.ref a), (.ref sx)] h0 (fun v h => v = some (.int ct) ∧ Keep h0 h [a, ba, sa, la] ∧ Exa Z h a "com/example/vikt/vikt/graph/NameTable" ∧ Fld Z h a "com/example/vikt/vikt/graph/NameTable" "bytes" "[B" (.ref ba) ∧ Fld Z h a "com/example/vikt/vikt/graph/NameTable" "starts" "[I" (.ref sa) ∧ Fld Z h a "com/example/vikt/vikt/graph/NameTable" "slots" "[J" (.ref la) ∧ Fld Z h a "com/example/vikt/vikt/graph/NameTable" "mask" "I" (.int (1023 : Int32)) ∧ Fld Z h a "com/example/vikt/vikt/graph/NameTable" "count" "I" (.int (ct + (1 : Int32))) ∧ Fld Z h a "com/example/vikt/vikt/graph/NameTable" "used" "I" (.int (u + ((3 : Int32) - (0 : Int32)))) ∧ Fld Z h a "com/example/vikt/vikt/graph/NameTable" "prefetched" "J" (.long pf) ∧ OAr Z h ba .byte 4096 (own_cp u.toInt.toNat (3 : Int32).toInt.toNat (own_B [(own_e1 x0), (own_e2 x0), x1]) fb) ∧ OAr Z h sa .int 1025 (own_st (ct + (1 : Int32)).toInt.toNat (.int (u + ((3 : Int32) - (0 : Int32)))) fs) ∧ OAr Z h la .long 2048 (fun q => .long ((own_put (2 * ((((own_hash [(own_e1 x0), (own_e2 x0), x1] (3 : Int32)) &&& (1023 : Int32)) + (1 : Int32)) &&& (1023 : Int32)).toInt.toNat) (2 * ((((own_hash [(own_e1 x0), (own_e2 x0), x1] (3 : Int32)) &&& (1023 : Int32)) + (1 : Int32)) &&& (1023 : Int32)).toInt.toNat + 1) (((own_hash [(own_e1 x0), (own_e2 x0), x1] (3 : Int32)).toInt64 <<< ((32 : Int32) &&& 0x3f).toInt64) ||| ((ct + (1 : Int32)).toInt64)) (own_key [(own_e1 x0), (own_e2 x0), x1] (3 : Int32)) s0) q))) := by
  refine OCon.of (Ls := #[.val (.ref a), .val (.ref sx), .unset]) pn_12 rfl rfl (fun m => by first | (simp [entryFrame, mkF, argsToLocals, Value.category]; done) | rfl) ?_
  intro p e s m below meth c T0 X0 K e0
  have N0 := Fr.nil n0
  have KK0 := Keep.refl h0 [a, ba, sa, la]
  refine o_aloadN X0 K d12_0 1 rfl rfl rfl ?_
  refine o_getstatic X0 K (host := "") d12_1 4 rfl (Or.inl (w_66 hw)) Via.refl e0 S_UTF_8 ?_
  intro T_851 X_851 e_851
  refine o_invokevirtual X_851 K d12_4 7 rfl (w_68 hw) (w_69 hw) (w_71 hw) (w_70 hw) (w_2 hw) (w_72 hw) (by decide) E_sx [(.ref u8)] [] rfl  (c_gb_np l Z a0 hw n0 sx t u8 x0 x1 zcs h0 Z0 S_COMPACT_STRINGS (hcs) S_INSTANCE E_sx F_sx_value F_sx_coder A_t E_t (hs0) (hb0) (hs1) (hb1)) e_851 rfl (lenOf pd__Ljava_nio_charset_Charset___B rfl) (by decide) 0 (Nat.le_of_eq rfl) (by decide) (by decide) (by decide) N0 ?_
  rintro _ T_852 h_852 locs_852 X_852 e_852 ⟨r, rfl, k_852, gg_852_r, sz_852_r, p_852f0, p_852f1⟩ N_852
  have Z_852 : n0 ≤ h_852.size := Nat.le_trans Z0 k_852.1
  have K_852 := KK0.trans k_852 (all0)
  have f_853 := o_sta_keep S_COMPACT_STRINGS k_852 (o_plain0)
  have f_854 := o_sta_keep S_INSTANCE k_852 (o_plain0)
  have f_855 := o_sta_keep S_UTF_8 k_852 (o_plain0)
  have f_856 := Exa.keep E_sx k_852
  have f_857 := Fld.keep F_sx_value k_852 (nin0)
  have f_858 := Fld.keep F_sx_coder k_852 (nin0)
  have f_859 := A_t.keep k_852 (nin0)
  have f_860 := Exa.keep E_t k_852
  have f_861 := Exa.keep E_a k_852
  have f_862 := Fld.keep F_a_bytes k_852 (nin0)
  have f_863 := Fld.keep F_a_starts k_852 (nin0)
  have f_864 := Fld.keep F_a_slots k_852 (nin0)
  have f_865 := Fld.keep F_a_mask k_852 (nin0)
  have f_866 := Fld.keep F_a_count k_852 (nin0)
  have f_867 := Fld.keep F_a_used k_852 (nin0)
  have f_868 := Fld.keep F_a_prefetched k_852 (nin0)
  have f_869 := A_ba.keep k_852 (nin0)
  have f_870 := A_sa.keep k_852 (nin0)
  have f_871 := A_la.keep k_852 (nin0)
  have ne_sx_r : sx ≠ r := Nat.ne_of_lt (Nat.lt_of_lt_of_le E_sx.lt sz_852_r)
  have ne_t_r : t ≠ r := Nat.ne_of_lt (Nat.lt_of_lt_of_le A_t.lt sz_852_r)
  have ne_a_r : a ≠ r := Nat.ne_of_lt (Nat.lt_of_lt_of_le E_a.lt sz_852_r)
  have ne_ba_r : ba ≠ r := Nat.ne_of_lt (Nat.lt_of_lt_of_le A_ba.lt sz_852_r)
  have ne_sa_r : sa ≠ r := Nat.ne_of_lt (Nat.lt_of_lt_of_le A_sa.lt sz_852_r)
  have ne_la_r : la ≠ r := Nat.ne_of_lt (Nat.lt_of_lt_of_le A_la.lt sz_852_r)
  have sz_r : h0.size ≤ r := Nat.le_trans KK0.1 sz_852_r
  show OGo p e below _ n0 _ (T_852.setTop (mkF m 7 #[.val (.ref a), .val (.ref sx), .unset] [(.ref r)]))
  refine o_astoreN X_852 K d12_7 8 rfl #[.val (.ref a), .val (.ref sx), .val (.ref r)] rfl rfl ?_
  refine o_aloadN X_852 K d12_8 9 rfl rfl rfl ?_
  refine o_aloadN X_852 K d12_9 10 rfl rfl rfl ?_
  refine o_iconst X_852 K (0 : Int32) d12_10 11 rfl rfl ?_
  refine o_aloadN X_852 K d12_11 12 rfl rfl rfl ?_
  refine o_arraylength X_852 K d12_12 13 rfl e_852 p_852f0 (v := (3 : Int32)) (rfl) ?_
  refine o_aloadN X_852 K d12_13 14 rfl rfl rfl ?_
  refine o_iconst X_852 K (0 : Int32) d12_14 15 rfl rfl ?_
  refine o_aloadN X_852 K d12_15 16 rfl rfl rfl ?_
  refine o_arraylength X_852 K d12_16 17 rfl e_852 p_852f0 (v := (3 : Int32)) (rfl) ?_
  refine o_invokestatic X_852 K d12_17 20 rfl (w_102 hw) (w_103 hw) (w_46 hw) (w_104 hw) (by decide) [(.ref r), (.int (0 : Int32)), (.int (3 : Int32))] [(.int (3 : Int32)), (.int (0 : Int32)), (.ref r), (.ref a)] rfl  (c_hash l Z a0 hw n0 r 3 (fun j => [(own_e1 x0), (own_e2 x0), x1].getD j 0) (0 : Int32) (3 : Int32) h_852 Z_852 p_852f0 (by decide)) e_852 rfl (lenOf pd___BII_I rfl) (by decide) 4 (Nat.le_of_eq rfl) (by decide) (by decide) (by decide) N_852 ?_
  rintro _ T_872 h_872 locs_872 X_872 q_872 ⟨rfl, r_872⟩ N_872
  have e_872 := q_872.trans r_872
  show OGo p e below _ n0 _ (T_872.setTop (mkF m 20 #[.val (.ref a), .val (.ref sx), .val (.ref r)] [(.int (own_hash [(own_e1 x0), (own_e2 x0), x1] (3 : Int32))), (.int (3 : Int32)), (.int (0 : Int32)), (.ref r), (.ref a)]))
  refine o_invokevirtual X_872 K d12_20 23 rfl (w_107 hw) (w_108 hw) (w_110 hw) (w_109 hw) (w_46 hw) (w_111 hw) (by decide) f_861 [(.ref r), (.int (0 : Int32)), (.int (3 : Int32)), (.int (own_hash [(own_e1 x0), (own_e2 x0), x1] (3 : Int32)))] [] rfl  (c_n4C l Z a0 hw n0 a r ba sa la _ _ _ s0 (3 : Int32) u ct (own_hash [(own_e1 x0), (own_e2 x0), x1] (3 : Int32)) pf (own_key [(own_e1 x0), (own_e2 x0), x1] (3 : Int32)) inf kk h_852 Z_852 f_861 f_862 f_863 f_864 f_865 f_866 f_867 f_868 g_a p_852f0 f_869 g_ba f_870 g_sa ne_a_ba ne_a_sa ne_ba_sa (Ne.symm ne_a_r) (Ne.symm ne_ba_r) (Ne.symm ne_sa_r) (by decide) (hu) (hct) f_871 g_la ne_la_a ne_la_ba ne_la_sa ne_la_r (c_key3 l Z a0 hw n0 r (own_e1 x0) (own_e2 x0) x1 h_852 Z_852 p_852f0) (hI) (hn0) (hk) (hkk) (hI1)) e_872 rfl (lenOf pd___BIII_I rfl) (by decide) 0 (Nat.le_of_eq rfl) (by decide) (by decide) (by decide) N_872 ?_
  rintro _ T_873 h_873 locs_873 X_873 e_873 ⟨rfl, k_873, p_873f0, p_873f1, p_873f2, p_873f3, p_873f4, p_873f5, p_873f6, p_873f7, p_873f8, p_873f9, p_873f10⟩ N_873
  have Z_873 : n0 ≤ h_873.size := Nat.le_trans Z_852 k_873.1
  have K_873 := K_852.trans k_873 (allS (Or.inl (by simp)) (allS (Or.inl (by simp)) (allS (Or.inl (by simp)) (allS (Or.inl (by simp)) (all0)))))
  have f_874 := o_sta_keep f_853 k_873 (o_plainS f_861 (o_plainR f_869 (o_plainR f_870 (o_plainR f_871 (o_plain0)))))
  have f_875 := o_sta_keep f_854 k_873 (o_plainS f_861 (o_plainR f_869 (o_plainR f_870 (o_plainR f_871 (o_plain0)))))
  have f_876 := o_sta_keep f_855 k_873 (o_plainS f_861 (o_plainR f_869 (o_plainR f_870 (o_plainR f_871 (o_plain0)))))
  have f_877 := Exa.keep f_856 k_873
  have f_878 := Fld.keep f_857 k_873 (ninS ne_sx_a (ninS ne_sx_ba (ninS ne_sx_sa (ninS ne_sx_la (nin0)))))
  have f_879 := Fld.keep f_858 k_873 (ninS ne_sx_a (ninS ne_sx_ba (ninS ne_sx_sa (ninS ne_sx_la (nin0)))))
  have f_880 := f_859.keep k_873 (ninS ne_t_a (ninS ne_t_ba (ninS ne_t_sa (ninS ne_t_la (nin0)))))
  have f_881 := Exa.keep f_860 k_873
  have f_882 := Exa.keep f_861 k_873
  have f_883 := p_852f0.keep k_873 (ninS (Ne.symm ne_a_r) (ninS (Ne.symm ne_ba_r) (ninS (Ne.symm ne_sa_r) (ninS (Ne.symm ne_la_r) (nin0)))))
  have f_884 := Exa.keep p_852f1 k_873
  show OGo p e below _ n0 _ (T_873.setTop (mkF m 23 #[.val (.ref a), .val (.ref sx), .val (.ref r)] [(.int ct)]))
  refine o_ireturn X_873 K d12_23 (by decide) (by decide) N_873 ?_
  rw [e_873]
  exact ⟨rfl, K_873, p_873f0, p_873f1, p_873f2, p_873f3, p_873f4, p_873f5, p_873f6, p_873f7, p_873f8, p_873f9, p_873f10⟩
set_option maxHeartbeats 4000000 in
theorem c_nSC_nn (l : Launch) (Z : State) (a0 : Array Value) (hw : OW Z a0) (n0 : Nat) (a sx t u8 ba sa la : Addr) (x0 x1 zcs u ct : Int32) (fb fs : Nat → Value) (s0 : Nat → Int64) (pf : Int64) (inf kk : Int64) (h0 : Heap) (Z0 : n0 ≤ h0.size) (S_COMPACT_STRINGS : Sta Z h0 "java/lang/String" "COMPACT_STRINGS" "Z" (.int zcs)) (hcs : ¬ zcs = 0) (S_INSTANCE : Sta Z h0 "sun/nio/cs/UTF_8" "INSTANCE" "Lsun/nio/cs/UTF_8;" (.ref u8)) (S_UTF_8 : Sta Z h0 "java/nio/charset/StandardCharsets" "UTF_8" "Ljava/nio/charset/Charset;" (.ref u8)) (E_sx : Exa Z h0 sx "java/lang/String") (F_sx_value : Fld Z h0 sx "java/lang/String" "value" "[B" (.ref t)) (F_sx_coder : Fld Z h0 sx "java/lang/String" "coder" "B" (.int (0 : Int32))) (A_t : OAr Z h0 t .byte 2 (own_B [x0, x1])) (E_t : Exa Z h0 t "[B") (hs0 : x0.toInt < 0) (hb0 : nar .byte x0 = x0) (hs1 : x1.toInt < 0) (hb1 : nar .byte x1 = x1) (E_a : Exa Z h0 a "com/example/vikt/vikt/graph/NameTable") (F_a_bytes : Fld Z h0 a "com/example/vikt/vikt/graph/NameTable" "bytes" "[B" (.ref ba)) (F_a_starts : Fld Z h0 a "com/example/vikt/vikt/graph/NameTable" "starts" "[I" (.ref sa)) (F_a_slots : Fld Z h0 a "com/example/vikt/vikt/graph/NameTable" "slots" "[J" (.ref la)) (F_a_mask : Fld Z h0 a "com/example/vikt/vikt/graph/NameTable" "mask" "I" (.int (1023 : Int32))) (F_a_count : Fld Z h0 a "com/example/vikt/vikt/graph/NameTable" "count" "I" (.int ct)) (F_a_used : Fld Z h0 a "com/example/vikt/vikt/graph/NameTable" "used" "I" (.int u)) (F_a_prefetched : Fld Z h0 a "com/example/vikt/vikt/graph/NameTable" "prefetched" "J" (.long pf)) (g_a : n0 ≤ a) (A_ba : OAr Z h0 ba .byte 4096 fb) (g_ba : n0 ≤ ba) (A_sa : OAr Z h0 sa .int 1025 fs) (g_sa : n0 ≤ sa) (A_la : OAr Z h0 la .long 2048 (fun q => .long (s0 q))) (g_la : n0 ≤ la) (ne_a_ba : a ≠ ba) (ne_a_sa : a ≠ sa) (ne_ba_sa : ba ≠ sa) (ne_la_a : la ≠ a) (ne_la_ba : la ≠ ba) (ne_la_sa : la ≠ sa) (ne_sx_a : sx ≠ a) (ne_sx_ba : sx ≠ ba) (ne_sx_sa : sx ≠ sa) (ne_sx_la : sx ≠ la) (ne_t_a : t ≠ a) (ne_t_ba : t ≠ ba) (ne_t_sa : t ≠ sa) (ne_t_la : t ≠ la) (hu : 0 ≤ u.toInt ∧ u.toInt ≤ 100) (hct : 0 ≤ ct.toInt ∧ ct.toInt ≤ 100) (hI : s0 (2 * ((own_hash [(own_e1 x0), (own_e2 x0), (own_e1 x1), (own_e2 x1)] (4 : Int32)) &&& (1023 : Int32)).toInt.toNat + 1) = inf) (hn0 : ¬ inf = 0) (hk : s0 (2 * ((own_hash [(own_e1 x0), (own_e2 x0), (own_e1 x1), (own_e2 x1)] (4 : Int32)) &&& (1023 : Int32)).toInt.toNat) = kk) (hkk : ¬ kk = (own_key [(own_e1 x0), (own_e2 x0), (own_e1 x1), (own_e2 x1)] (4 : Int32))) (hI1 : s0 (2 * ((((own_hash [(own_e1 x0), (own_e2 x0), (own_e1 x1), (own_e2 x1)] (4 : Int32)) &&& (1023 : Int32)) + (1 : Int32)) &&& (1023 : Int32)).toInt.toNat + 1) = 0) :
    OCon l Z n0 (⟨"com/example/vikt/vikt/graph/NameTable", "number", "(Ljava/lang/String;)I"⟩ : MethodName) prog_7_method_3_code 3 (some .int) ({ frames := 5, cells := 2, slots := 7, locals := 115 } : Room) #[(.ref a), (.ref sx)] h0 (fun v h => v = some (.int ct) ∧ Keep h0 h [a, ba, sa, la] ∧ Exa Z h a "com/example/vikt/vikt/graph/NameTable" ∧ Fld Z h a "com/example/vikt/vikt/graph/NameTable" "bytes" "[B" (.ref ba) ∧ Fld Z h a "com/example/vikt/vikt/graph/NameTable" "starts" "[I" (.ref sa) ∧ Fld Z h a "com/example/vikt/vikt/graph/NameTable" "slots" "[J" (.ref la) ∧ Fld Z h a "com/example/vikt/vikt/graph/NameTable" "mask" "I" (.int (1023 : Int32)) ∧ Fld Z h a "com/example/vikt/vikt/graph/NameTable" "count" "I" (.int (ct + (1 : Int32))) ∧ Fld Z h a "com/example/vikt/vikt/graph/NameTable" "used" "I" (.int (u + ((4 : Int32) - (0 : Int32)))) ∧ Fld Z h a "com/example/vikt/vikt/graph/NameTable" "prefetched" "J" (.long pf) ∧ OAr Z h ba .byte 4096 (own_cp u.toInt.toNat (4 : Int32).toInt.toNat (own_B [(own_e1 x0), (own_e2 x0), (own_e1 x1), (own_e2 x1)]) fb) ∧ OAr Z h sa .int 1025 (own_st (ct + (1 : Int32)).toInt.toNat (.int (u + ((4 : Int32) - (0 : Int32)))) fs) ∧ OAr Z h la .long 2048 (fun q => .long ((own_put (2 * ((((own_hash [(own_e1 x0), (own_e2 x0), (own_e1 x1), (own_e2 x1)] (4 : Int32)) &&& (1023 : Int32)) + (1 : Int32)) &&& (1023 : Int32)).toInt.toNat) (2 * ((((own_hash [(own_e1 x0), (own_e2 x0), (own_e1 x1), (own_e2 x1)] (4 : Int32)) &&& (1023 : Int32)) + (1 : Int32)) &&& (1023 : Int32)).toInt.toNat + 1) (((own_hash [(own_e1 x0), (own_e2 x0), (own_e1 x1), (own_e2 x1)] (4 : Int32)).toInt64 <<< ((32 : Int32) &&& 0x3f).toInt64) ||| ((ct + (1 : Int32)).toInt64)) (own_key [(own_e1 x0), (own_e2 x0), (own_e1 x1), (own_e2 x1)] (4 : Int32)) s0) q))) := by
  refine OCon.of (Ls := #[.val (.ref a), .val (.ref sx), .unset]) pn_12 rfl rfl (fun m => by first | (simp [entryFrame, mkF, argsToLocals, Value.category]; done) | rfl) ?_
  intro p e s m below meth c T0 X0 K e0
  have N0 := Fr.nil n0
  have KK0 := Keep.refl h0 [a, ba, sa, la]
  refine o_aloadN X0 K d12_0 1 rfl rfl rfl ?_
  refine o_getstatic X0 K (host := "") d12_1 4 rfl (Or.inl (w_66 hw)) Via.refl e0 S_UTF_8 ?_
  intro T_885 X_885 e_885
  refine o_invokevirtual X_885 K d12_4 7 rfl (w_68 hw) (w_69 hw) (w_71 hw) (w_70 hw) (w_2 hw) (w_72 hw) (by decide) E_sx [(.ref u8)] [] rfl  (c_gb_nn l Z a0 hw n0 sx t u8 x0 x1 zcs h0 Z0 S_COMPACT_STRINGS (hcs) S_INSTANCE E_sx F_sx_value F_sx_coder A_t E_t (hs0) (hb0) (hs1) (hb1)) e_885 rfl (lenOf pd__Ljava_nio_charset_Charset___B rfl) (by decide) 0 (Nat.le_of_eq rfl) (by decide) (by decide) (by decide) N0 ?_
  rintro _ T_886 h_886 locs_886 X_886 e_886 ⟨r, rfl, k_886, gg_886_r, sz_886_r, p_886f0, p_886f1⟩ N_886
  have Z_886 : n0 ≤ h_886.size := Nat.le_trans Z0 k_886.1
  have K_886 := KK0.trans k_886 (all0)
  have f_887 := o_sta_keep S_COMPACT_STRINGS k_886 (o_plain0)
  have f_888 := o_sta_keep S_INSTANCE k_886 (o_plain0)
  have f_889 := o_sta_keep S_UTF_8 k_886 (o_plain0)
  have f_890 := Exa.keep E_sx k_886
  have f_891 := Fld.keep F_sx_value k_886 (nin0)
  have f_892 := Fld.keep F_sx_coder k_886 (nin0)
  have f_893 := A_t.keep k_886 (nin0)
  have f_894 := Exa.keep E_t k_886
  have f_895 := Exa.keep E_a k_886
  have f_896 := Fld.keep F_a_bytes k_886 (nin0)
  have f_897 := Fld.keep F_a_starts k_886 (nin0)
  have f_898 := Fld.keep F_a_slots k_886 (nin0)
  have f_899 := Fld.keep F_a_mask k_886 (nin0)
  have f_900 := Fld.keep F_a_count k_886 (nin0)
  have f_901 := Fld.keep F_a_used k_886 (nin0)
  have f_902 := Fld.keep F_a_prefetched k_886 (nin0)
  have f_903 := A_ba.keep k_886 (nin0)
  have f_904 := A_sa.keep k_886 (nin0)
  have f_905 := A_la.keep k_886 (nin0)
  have ne_sx_r : sx ≠ r := Nat.ne_of_lt (Nat.lt_of_lt_of_le E_sx.lt sz_886_r)
  have ne_t_r : t ≠ r := Nat.ne_of_lt (Nat.lt_of_lt_of_le A_t.lt sz_886_r)
  have ne_a_r : a ≠ r := Nat.ne_of_lt (Nat.lt_of_lt_of_le E_a.lt sz_886_r)
  have ne_ba_r : ba ≠ r := Nat.ne_of_lt (Nat.lt_of_lt_of_le A_ba.lt sz_886_r)
  have ne_sa_r : sa ≠ r := Nat.ne_of_lt (Nat.lt_of_lt_of_le A_sa.lt sz_886_r)
  have ne_la_r : la ≠ r := Nat.ne_of_lt (Nat.lt_of_lt_of_le A_la.lt sz_886_r)
  have sz_r : h0.size ≤ r := Nat.le_trans KK0.1 sz_886_r
  show OGo p e below _ n0 _ (T_886.setTop (mkF m 7 #[.val (.ref a), .val (.ref sx), .unset] [(.ref r)]))
  refine o_astoreN X_886 K d12_7 8 rfl #[.val (.ref a), .val (.ref sx), .val (.ref r)] rfl rfl ?_
  refine o_aloadN X_886 K d12_8 9 rfl rfl rfl ?_
  refine o_aloadN X_886 K d12_9 10 rfl rfl rfl ?_
  refine o_iconst X_886 K (0 : Int32) d12_10 11 rfl rfl ?_
  refine o_aloadN X_886 K d12_11 12 rfl rfl rfl ?_
  refine o_arraylength X_886 K d12_12 13 rfl e_886 p_886f0 (v := (4 : Int32)) (rfl) ?_
  refine o_aloadN X_886 K d12_13 14 rfl rfl rfl ?_
  refine o_iconst X_886 K (0 : Int32) d12_14 15 rfl rfl ?_
  refine o_aloadN X_886 K d12_15 16 rfl rfl rfl ?_
  refine o_arraylength X_886 K d12_16 17 rfl e_886 p_886f0 (v := (4 : Int32)) (rfl) ?_
  refine o_invokestatic X_886 K d12_17 20 rfl (w_102 hw) (w_103 hw) (w_46 hw) (w_104 hw) (by decide) [(.ref r), (.int (0 : Int32)), (.int (4 : Int32))] [(.int (4 : Int32)), (.int (0 : Int32)), (.ref r), (.ref a)] rfl  (c_hash l Z a0 hw n0 r 4 (fun j => [(own_e1 x0), (own_e2 x0), (own_e1 x1), (own_e2 x1)].getD j 0) (0 : Int32) (4 : Int32) h_886 Z_886 p_886f0 (by decide)) e_886 rfl (lenOf pd___BII_I rfl) (by decide) 4 (Nat.le_of_eq rfl) (by decide) (by decide) (by decide) N_886 ?_
  rintro _ T_906 h_906 locs_906 X_906 q_906 ⟨rfl, r_906⟩ N_906
  have e_906 := q_906.trans r_906
  show OGo p e below _ n0 _ (T_906.setTop (mkF m 20 #[.val (.ref a), .val (.ref sx), .val (.ref r)] [(.int (own_hash [(own_e1 x0), (own_e2 x0), (own_e1 x1), (own_e2 x1)] (4 : Int32))), (.int (4 : Int32)), (.int (0 : Int32)), (.ref r), (.ref a)]))
  refine o_invokevirtual X_906 K d12_20 23 rfl (w_107 hw) (w_108 hw) (w_110 hw) (w_109 hw) (w_46 hw) (w_111 hw) (by decide) f_895 [(.ref r), (.int (0 : Int32)), (.int (4 : Int32)), (.int (own_hash [(own_e1 x0), (own_e2 x0), (own_e1 x1), (own_e2 x1)] (4 : Int32)))] [] rfl  (c_n4C l Z a0 hw n0 a r ba sa la _ _ _ s0 (4 : Int32) u ct (own_hash [(own_e1 x0), (own_e2 x0), (own_e1 x1), (own_e2 x1)] (4 : Int32)) pf (own_key [(own_e1 x0), (own_e2 x0), (own_e1 x1), (own_e2 x1)] (4 : Int32)) inf kk h_886 Z_886 f_895 f_896 f_897 f_898 f_899 f_900 f_901 f_902 g_a p_886f0 f_903 g_ba f_904 g_sa ne_a_ba ne_a_sa ne_ba_sa (Ne.symm ne_a_r) (Ne.symm ne_ba_r) (Ne.symm ne_sa_r) (by decide) (hu) (hct) f_905 g_la ne_la_a ne_la_ba ne_la_sa ne_la_r (c_key4 l Z a0 hw n0 r (own_e1 x0) (own_e2 x0) (own_e1 x1) (own_e2 x1) h_886 Z_886 p_886f0) (hI) (hn0) (hk) (hkk) (hI1)) e_906 rfl (lenOf pd___BIII_I rfl) (by decide) 0 (Nat.le_of_eq rfl) (by decide) (by decide) (by decide) N_906 ?_
  rintro _ T_907 h_907 locs_907 X_907 e_907 ⟨rfl, k_907, p_907f0, p_907f1, p_907f2, p_907f3, p_907f4, p_907f5, p_907f6, p_907f7, p_907f8, p_907f9, p_907f10⟩ N_907
  have Z_907 : n0 ≤ h_907.size := Nat.le_trans Z_886 k_907.1
  have K_907 := K_886.trans k_907 (allS (Or.inl (by simp)) (allS (Or.inl (by simp)) (allS (Or.inl (by simp)) (allS (Or.inl (by simp)) (all0)))))
  have f_908 := o_sta_keep f_887 k_907 (o_plainS f_895 (o_plainR f_903 (o_plainR f_904 (o_plainR f_905 (o_plain0)))))
  have f_909 := o_sta_keep f_888 k_907 (o_plainS f_895 (o_plainR f_903 (o_plainR f_904 (o_plainR f_905 (o_plain0)))))
  have f_910 := o_sta_keep f_889 k_907 (o_plainS f_895 (o_plainR f_903 (o_plainR f_904 (o_plainR f_905 (o_plain0)))))
  have f_911 := Exa.keep f_890 k_907
  have f_912 := Fld.keep f_891 k_907 (ninS ne_sx_a (ninS ne_sx_ba (ninS ne_sx_sa (ninS ne_sx_la (nin0)))))
  have f_913 := Fld.keep f_892 k_907 (ninS ne_sx_a (ninS ne_sx_ba (ninS ne_sx_sa (ninS ne_sx_la (nin0)))))
  have f_914 := f_893.keep k_907 (ninS ne_t_a (ninS ne_t_ba (ninS ne_t_sa (ninS ne_t_la (nin0)))))
  have f_915 := Exa.keep f_894 k_907
  have f_916 := Exa.keep f_895 k_907
  have f_917 := p_886f0.keep k_907 (ninS (Ne.symm ne_a_r) (ninS (Ne.symm ne_ba_r) (ninS (Ne.symm ne_sa_r) (ninS (Ne.symm ne_la_r) (nin0)))))
  have f_918 := Exa.keep p_886f1 k_907
  show OGo p e below _ n0 _ (T_907.setTop (mkF m 23 #[.val (.ref a), .val (.ref sx), .val (.ref r)] [(.int ct)]))
  refine o_ireturn X_907 K d12_23 (by decide) (by decide) N_907 ?_
  rw [e_907]
  exact ⟨rfl, K_907, p_907f0, p_907f1, p_907f2, p_907f3, p_907f4, p_907f5, p_907f6, p_907f7, p_907f8, p_907f9, p_907f10⟩
theorem d25_0 : decode prog_7_method_6_code 0 = .ok (.aload_n 0, 1) := by decide +kernel
theorem d25_1 : decode prog_7_method_6_code 1 = .ok (.getfield 60, 3) := by decide +kernel
theorem d25_4 : decode prog_7_method_6_code 4 = .ok (.ireturn, 1) := by decide +kernel
theorem pn_25 : plainFor (⟨"com/example/vikt/vikt/graph/NameTable", "count", "()I"⟩ : MethodName) = true := plainFor_of_name (by first | (simp [plainName, overriddenIn]; done) | decide +kernel)
set_option maxHeartbeats 4000000 in
theorem c_count (l : Launch) (Z : State) (a0 : Array Value) (hw : OW Z a0) (n0 : Nat) (a : Addr) (ct : Int32) (h0 : Heap) (Z0 : n0 ≤ h0.size) (F_a_count : Fld Z h0 a "com/example/vikt/vikt/graph/NameTable" "count" "I" (.int ct)) :
    OCon l Z n0 (⟨"com/example/vikt/vikt/graph/NameTable", "count", "()I"⟩ : MethodName) prog_7_method_6_code 1 (some .int) ({ frames := 0, cells := 0, slots := 0, locals := 0 } : Room) #[(.ref a)] h0 (fun v h => v = some (.int ct) ∧ h = h0) := by
  refine OCon.of (Ls := #[.val (.ref a)]) pn_25 rfl rfl (fun m => by first | (simp [entryFrame, mkF, argsToLocals, Value.category]; done) | rfl) ?_
  intro p e s m below meth c T0 X0 K e0
  have N0 := Fr.nil n0
  refine o_aloadN X0 K d25_0 1 rfl rfl rfl ?_
  refine o_getfield X0 K (host := "") d25_1 4 rfl (Or.inl (w_126 hw)) Via.refl e0 F_a_count ?_
  intro T_919 X_919 e_919
  refine o_ireturn X_919 K d25_4 (by decide) (by decide) N0 ?_
  exact ⟨rfl, e_919⟩
theorem d24_0 : decode prog_7_method_5_code 0 = .ok (.lconst 0, 1) := by decide +kernel
theorem d24_1 : decode prog_7_method_5_code 1 = .ok (.lstore_n 3, 1) := by decide +kernel
theorem d24_2 : decode prog_7_method_5_code 2 = .ok (.iconst 0, 1) := by decide +kernel
theorem d24_3 : decode prog_7_method_5_code 3 = .ok (.istore 5, 2) := by decide +kernel
theorem d24_5 : decode prog_7_method_5_code 5 = .ok (.iload 5, 2) := by decide +kernel
theorem d24_7 : decode prog_7_method_5_code 7 = .ok (.iload_n 2, 1) := by decide +kernel
theorem d24_8 : decode prog_7_method_5_code 8 = .ok (.if_icmp .ge 30, 3) := by decide +kernel
theorem d24_38 : decode prog_7_method_5_code 38 = .ok (.aload_n 0, 1) := by decide +kernel
theorem d24_39 : decode prog_7_method_5_code 39 = .ok (.dup, 1) := by decide +kernel
theorem d24_40 : decode prog_7_method_5_code 40 = .ok (.getfield 66, 3) := by decide +kernel
theorem d24_43 : decode prog_7_method_5_code 43 = .ok (.lload_n 3, 1) := by decide +kernel
theorem d24_44 : decode prog_7_method_5_code 44 = .ok (.ladd, 1) := by decide +kernel
theorem d24_45 : decode prog_7_method_5_code 45 = .ok (.putfield 66, 3) := by decide +kernel
theorem d24_48 : decode prog_7_method_5_code 48 = .ok (.return_, 1) := by decide +kernel
theorem d24_11 : decode prog_7_method_5_code 11 = .ok (.lload_n 3, 1) := by decide +kernel
theorem d24_12 : decode prog_7_method_5_code 12 = .ok (.aload_n 0, 1) := by decide +kernel
theorem d24_13 : decode prog_7_method_5_code 13 = .ok (.getfield 17, 3) := by decide +kernel
theorem d24_16 : decode prog_7_method_5_code 16 = .ok (.iconst 2, 1) := by decide +kernel
theorem d24_17 : decode prog_7_method_5_code 17 = .ok (.aload_n 1, 1) := by decide +kernel
theorem d24_18 : decode prog_7_method_5_code 18 = .ok (.iload 5, 2) := by decide +kernel
theorem d24_20 : decode prog_7_method_5_code 20 = .ok (.iaload, 1) := by decide +kernel
theorem d24_21 : decode prog_7_method_5_code 21 = .ok (.aload_n 0, 1) := by decide +kernel
theorem d24_22 : decode prog_7_method_5_code 22 = .ok (.getfield 21, 3) := by decide +kernel
theorem d24_25 : decode prog_7_method_5_code 25 = .ok (.iand, 1) := by decide +kernel
theorem d24_26 : decode prog_7_method_5_code 26 = .ok (.imul, 1) := by decide +kernel
theorem d24_27 : decode prog_7_method_5_code 27 = .ok (.iconst 1, 1) := by decide +kernel
theorem d24_28 : decode prog_7_method_5_code 28 = .ok (.iadd, 1) := by decide +kernel
theorem d24_29 : decode prog_7_method_5_code 29 = .ok (.laload, 1) := by decide +kernel
theorem d24_30 : decode prog_7_method_5_code 30 = .ok (.ladd, 1) := by decide +kernel
theorem d24_31 : decode prog_7_method_5_code 31 = .ok (.lstore_n 3, 1) := by decide +kernel
theorem d24_32 : decode prog_7_method_5_code 32 = .ok (.iinc 5 1, 3) := by decide +kernel
theorem d24_35 : decode prog_7_method_5_code 35 = .ok (.goto (-30), 3) := by decide +kernel
theorem pn_24 : plainFor (⟨"com/example/vikt/vikt/graph/NameTable", "prefetch", "([II)V"⟩ : MethodName) = true := plainFor_of_name (by first | (simp [plainName, overriddenIn]; done) | decide +kernel)
set_option maxHeartbeats 4000000 in
theorem c_pref (l : Launch) (Z : State) (a0 : Array Value) (hw : OW Z a0) (n0 : Nat) (a hs ba sa la : Addr) (n u ct : Int32) (gg : Nat → Int32) (s0 : Nat → Int64) (pf : Int64) (h0 : Heap) (Z0 : n0 ≤ h0.size) (E_a : Exa Z h0 a "com/example/vikt/vikt/graph/NameTable") (F_a_bytes : Fld Z h0 a "com/example/vikt/vikt/graph/NameTable" "bytes" "[B" (.ref ba)) (F_a_starts : Fld Z h0 a "com/example/vikt/vikt/graph/NameTable" "starts" "[I" (.ref sa)) (F_a_slots : Fld Z h0 a "com/example/vikt/vikt/graph/NameTable" "slots" "[J" (.ref la)) (F_a_mask : Fld Z h0 a "com/example/vikt/vikt/graph/NameTable" "mask" "I" (.int (1023 : Int32))) (F_a_count : Fld Z h0 a "com/example/vikt/vikt/graph/NameTable" "count" "I" (.int ct)) (F_a_used : Fld Z h0 a "com/example/vikt/vikt/graph/NameTable" "used" "I" (.int u)) (F_a_prefetched : Fld Z h0 a "com/example/vikt/vikt/graph/NameTable" "prefetched" "J" (.long pf)) (g_a : n0 ≤ a) (A_hs : OAr Z h0 hs .int 3 (fun j => .int (gg j))) (A_la : OAr Z h0 la .long 2048 (fun q => .long (s0 q))) (hn : 0 ≤ n.toInt ∧ n.toInt ≤ 3) (ne_hs_a : hs ≠ a) (ne_la_a : la ≠ a) :
    OCon l Z n0 (⟨"com/example/vikt/vikt/graph/NameTable", "prefetch", "([II)V"⟩ : MethodName) prog_7_method_5_code 6 none ({ frames := 0, cells := 0, slots := 0, locals := 0 } : Room) #[(.ref a), (.ref hs), (.int n)] h0 (fun v h => v = none ∧ Keep h0 h [a] ∧ Exa Z h a "com/example/vikt/vikt/graph/NameTable" ∧ Fld Z h a "com/example/vikt/vikt/graph/NameTable" "bytes" "[B" (.ref ba) ∧ Fld Z h a "com/example/vikt/vikt/graph/NameTable" "starts" "[I" (.ref sa) ∧ Fld Z h a "com/example/vikt/vikt/graph/NameTable" "slots" "[J" (.ref la) ∧ Fld Z h a "com/example/vikt/vikt/graph/NameTable" "mask" "I" (.int (1023 : Int32)) ∧ Fld Z h a "com/example/vikt/vikt/graph/NameTable" "count" "I" (.int ct) ∧ Fld Z h a "com/example/vikt/vikt/graph/NameTable" "used" "I" (.int u) ∧ ∃ pw : Int64, Fld Z h a "com/example/vikt/vikt/graph/NameTable" "prefetched" "J" (.long pw)) := by
  refine OCon.of (Ls := #[.val (.ref a), .val (.ref hs), .val (.int n), .unset, .unset, .unset]) pn_24 rfl rfl (fun m => by first | (simp [entryFrame, mkF, argsToLocals, Value.category]; done) | rfl) ?_
  intro p e s m below meth c T0 X0 K e0
  have N0 := Fr.nil n0
  have KK0 := Keep.refl h0 [a]
  refine o_lconst X0 K (0 : Int64) d24_0 1 rfl rfl ?_
  refine o_lstoreN X0 K d24_1 2 rfl #[.val (.ref a), .val (.ref hs), .val (.int n), .val (.long (0 : Int64)), .second, .unset] rfl rfl ?_
  refine o_iconst X0 K (0 : Int32) d24_2 3 rfl rfl ?_
  refine o_istore X0 K d24_3 5 rfl #[.val (.ref a), .val (.ref hs), .val (.int n), .val (.long (0 : Int64)), .second, .val (.int (0 : Int32))] rfl rfl ?_
  have q1 : (1 : Int32).toInt = 1 := rfl
  refine o_ind (fun (t : State × Int64 × Int32) => t.1.setTop (mkF m 5 #[.val (.ref a), .val (.ref hs), .val (.int n), .val (.long t.2.1), .second, .val (.int t.2.2)] [])) (fun d t => Stand p l e ({ frames := 0, cells := 0, slots := 0, locals := 0 } : Room) s m #[(.ref a), (.ref hs), (.int n)] below meth c t.1 [] 0 0 ∧ t.1.heap = h0 ∧ t.2.2.toInt + d = n.toInt ∧ 0 ≤ t.2.2.toInt) ?_ ?_ n.toInt.toNat (T0, (0 : Int64), (0 : Int32)) ⟨X0, e0, by show (0 : Int32).toInt + _ = _; have z0 : (0 : Int32).toInt = 0 := rfl; omega, by show 0 ≤ (0 : Int32).toInt; decide⟩
  · rintro ⟨T1, acc, i1⟩ ⟨X1, e1, hi1, hp1⟩
    dsimp only at X1 e1 hi1 hp1
    show OGo p e below _ n0 _ (T1.setTop (mkF m 5 #[.val (.ref a), .val (.ref hs), .val (.int n), .val (.long acc), .second, .val (.int i1)] []))
    refine o_iload X1 K d24_5 7 rfl rfl ?_
    refine o_iloadN X1 K d24_7 8 rfl rfl ?_
    refine o_icmp_ge_t X1 K d24_8 38 (by decide) (by decide) (by omega) ?_
    refine o_aloadN X1 K d24_38 39 rfl rfl rfl ?_
    refine o_dup X1 K d24_39 40 rfl rfl ?_
    refine o_getfield X1 K (host := "") d24_40 43 rfl (Or.inl (w_138 hw)) Via.refl e1 F_a_prefetched ?_
    intro T_920 X_920 e_920
    refine o_lloadN X_920 K d24_43 44 rfl rfl ?_
    refine o_ladd X_920 K d24_44 45 rfl ?_
    refine o_putfield X_920 K (host := "") (ty := .long) d24_45 48 rfl (Or.inl (w_138 hw)) Via.refl e_920 F_a_prefetched E_a (Or.inl (w_139 hw)) (w_45 hw) (by decide) rfl rfl N0 g_a ?_
    intro T_921 h_921 locs_921 X_921 e_921 W_921 N_921
    have Z_921 : n0 ≤ h_921.size := by rw [Wr.size W_921]; exact Z0
    have K_921 := KK0.wr W_921 (Or.inl (by simp))
    have f_922 := Exa.wr W_921 E_a
    have f_923 := Fld.other W_921 F_a_bytes (Or.inr (slot_ne (Or.inl (w_52 hw)) (Or.inl (w_139 hw)) (by decide) (t := (.array .byte)) (t' := .long) (by decide) (by decide)))
    have f_924 := Fld.other W_921 F_a_starts (Or.inr (slot_ne (Or.inl (w_55 hw)) (Or.inl (w_139 hw)) (by decide) (t := (.array .int)) (t' := .long) (by decide) (by decide)))
    have f_925 := Fld.other W_921 F_a_slots (Or.inr (slot_ne (Or.inl (w_58 hw)) (Or.inl (w_139 hw)) (by decide) (t := (.array .long)) (t' := .long) (by decide) (by decide)))
    have f_926 := Fld.other W_921 F_a_mask (Or.inr (slot_ne (Or.inl (w_60 hw)) (Or.inl (w_139 hw)) (by decide) (t := .int) (t' := .long) (by decide) (by decide)))
    have f_927 := Fld.other W_921 F_a_count (Or.inr (slot_ne (Or.inl (w_127 hw)) (Or.inl (w_139 hw)) (by decide) (t := .int) (t' := .long) (by decide) (by decide)))
    have f_928 := Fld.other W_921 F_a_used (Or.inr (slot_ne (Or.inl (w_125 hw)) (Or.inl (w_139 hw)) (by decide) (t := .int) (t' := .long) (by decide) (by decide)))
    have f_929 := Fld.same W_921 F_a_prefetched
    have f_930 := A_hs.other W_921 ne_hs_a
    have f_931 := A_la.other W_921 ne_la_a
    refine o_return X_921 K d24_48 (by decide) (by decide) N_921 ?_
    rw [e_921]
    exact ⟨rfl, K_921, f_922, f_923, f_924, f_925, f_926, f_927, f_928, ⟨_, f_929⟩⟩
  · rintro d ih ⟨T1, acc, i1⟩ ⟨X1, e1, hi1, hp1⟩
    dsimp only at X1 e1 hi1 hp1
    show OGo p e below _ n0 _ (T1.setTop (mkF m 5 #[.val (.ref a), .val (.ref hs), .val (.int n), .val (.long acc), .second, .val (.int i1)] []))
    refine o_iload X1 K d24_5 7 rfl rfl ?_
    refine o_iloadN X1 K d24_7 8 rfl rfl ?_
    refine o_icmp_ge_f X1 K d24_8 11 rfl (by omega) ?_
    refine o_lloadN X1 K d24_11 12 rfl rfl ?_
    refine o_aloadN X1 K d24_12 13 rfl rfl rfl ?_
    refine o_getfield X1 K (host := "") d24_13 16 rfl (Or.inl (w_57 hw)) Via.refl e1 F_a_slots ?_
    intro T_932 X_932 e_932
    refine o_iconst X_932 K (2 : Int32) d24_16 17 rfl rfl ?_
    refine o_aloadN X_932 K d24_17 18 rfl rfl rfl ?_
    refine o_iload X_932 K d24_18 20 rfl rfl ?_
    refine o_iaload X_932 K (i := i1.toInt.toNat) (v := (.int (gg i1.toInt.toNat))) d24_20 21 rfl e_932 A_hs (by omega) (by omega) (rfl) ?_
    refine o_aloadN X_932 K d24_21 22 rfl rfl rfl ?_
    refine o_getfield X_932 K (host := "") d24_22 25 rfl (Or.inl (w_59 hw)) Via.refl e_932 F_a_mask ?_
    intro T_933 X_933 e_933
    refine o_iand X_933 K d24_25 26 rfl ?_
    refine o_imul X_933 K d24_26 27 rfl ?_
    refine o_iconst X_933 K (1 : Int32) d24_27 28 rfl rfl ?_
    refine o_iadd X_933 K d24_28 29 rfl ?_
    refine o_laload X_933 K (i := (2 * ((gg i1.toInt.toNat) &&& (1023 : Int32)).toInt.toNat + 1)) (v := (.long (s0 (2 * ((gg i1.toInt.toNat) &&& (1023 : Int32)).toInt.toNat + 1)))) d24_29 30 rfl e_933 A_la ((own_2i (own_and _)).2.1) ((own_2i (own_and _)).2.2) (rfl) ?_
    refine o_ladd X_933 K d24_30 31 rfl ?_
    refine o_lstoreN X_933 K d24_31 32 rfl #[.val (.ref a), .val (.ref hs), .val (.int n), .val (.long (acc + (s0 (2 * ((gg i1.toInt.toNat) &&& (1023 : Int32)).toInt.toNat + 1)))), .second, .val (.int i1)] rfl rfl ?_
    obtain ⟨i2, h_i2⟩ : ∃ z_ : Int32, z_ = (i1 + (1 : Int32)) := ⟨_, rfl⟩
    refine o_iinc X_933 K d24_32 35 rfl #[.val (.ref a), .val (.ref hs), .val (.int n), .val (.long (acc + (s0 (2 * ((gg i1.toInt.toNat) &&& (1023 : Int32)).toInt.toNat + 1)))), .second, .val (.int i2)] rfl h_i2.symm rfl ?_
    refine o_goto X_933 K d24_35 5 (by decide) (by decide) ?_
    have hi2 : i2.toInt = i1.toInt + 1 := by rw [h_i2]; have q2 := c_iadd i1 1; have q3 := rng32 (i1 + 1); omega
    exact ih (T_933, _, i2) ⟨X_933, e_933, by show i2.toInt + (d : Int) = _; omega, by show 0 ≤ i2.toInt; omega⟩
theorem own_putb {a b : Nat} {x y : Int64} {f : Nat → Int64} : own_put a b x y f b = x := if_pos rfl
theorem own_puta {a b : Nat} {x y : Int64} {f : Nat → Int64} (h : ¬ a = b) : own_put a b x y f a = y := (if_neg h).trans (if_pos rfl)
theorem own_puto {a b q : Nat} {x y : Int64} {f : Nat → Int64} (h1 : ¬ q = b) (h2 : ¬ q = a) : own_put a b x y f q = f q := (if_neg h1).trans (if_neg h2)
theorem own_n1 {x y : Nat} (h : ¬ y = x) : ¬ 2 * y + 1 = 2 * x + 1 := by omega
theorem own_n2 {x y : Nat} : ¬ 2 * y + 1 = 2 * x := by omega
theorem own_n3 {x : Nat} : ¬ 2 * x = 2 * x + 1 := by omega
theorem own_sg (x y : Int32) : (0 ≤ x.toInt ∧ 0 ≤ y.toInt) ∨ (0 ≤ x.toInt ∧ y.toInt < 0) ∨ (x.toInt < 0 ∧ 0 ≤ y.toInt) ∨ (x.toInt < 0 ∧ y.toInt < 0) := by omega
theorem own_c255 (x : Int32) : ((x &&& (255 : Int32)).toUInt32.toUInt16.toUInt32.toInt32).toInt ≤ (255 : Int32).toInt := by
  have q1 := c_i2c (x &&& 255)
  have q2 : (x &&& 255).toInt = x.toInt % 256 := c_mask x 255 8 (by decide) (by decide)
  have q3 : (255 : Int32).toInt = 255 := rfl
  omega
theorem own_nc (x : Int32) : nar .char (x.toUInt32.toUInt16.toUInt32.toInt32) = x.toUInt32.toUInt16.toUInt32.toInt32 := by
  show x.toUInt32.toUInt16.toUInt32.toInt32.toUInt32.toUInt16.toUInt32.toInt32 = _
  rw [← Int32.toInt_inj]
  have q1 := c_i2c x
  have q2 := c_i2c (x.toUInt32.toUInt16.toUInt32.toInt32)
  omega
theorem own_next (x : Int32) : ¬ (((x &&& (1023 : Int32)) + (1 : Int32)) &&& (1023 : Int32)).toInt.toNat = (x &&& (1023 : Int32)).toInt.toNat := by
  have h := own_and x
  have h2 := own_and ((x &&& (1023 : Int32)) + 1)
  have q2 : (((x &&& (1023 : Int32)) + 1) &&& 1023).toInt = ((x &&& (1023 : Int32)) + 1).toInt % 1024 := c_mask _ 1023 10 (by decide) (by decide)
  have q3 := c_iadd (x &&& (1023 : Int32)) 1
  have q4 := rng32 ((x &&& (1023 : Int32)) + 1)
  have q5 : (1 : Int32).toInt = 1 := rfl
  omega
theorem own_four (x : Int32) : 0 ≤ ((x &&& (2147483647 : Int32)) % (4 : Int32)).toInt ∧ ((x &&& (2147483647 : Int32)) % (4 : Int32)).toInt ≤ 3 := by
  have q1 := c_and x 2147483647 (by decide)
  have q2 := (c_iremV (x &&& 2147483647) 4).1 q1.1 (by decide)
  have q3 : (4 : Int32).toInt = 4 := rfl
  omega
theorem own_eqref {args : Array Value} {s : State} {t u : Term} {x y : Addr} (ht : t.eval args s none [] s = some (.ref x)) (hu : u.eval args s none [] s = some (.ref y)) (h : (Jvm.Cond.eq t u).value args s none s [] = some true) : x = y := by
  simpa [Cond.value, ht, hu] using h
theorem pd__C_Ljava_lang_String_ : parseMethodDescriptor "(C)Ljava/lang/String;" = some ⟨[.char], some (.object "java/lang/String")⟩ := by decide +kernel
theorem pd___C_V : parseMethodDescriptor "([C)V" = some ⟨[(.array .char)], none⟩ := by decide +kernel
theorem pd___V : parseMethodDescriptor "()V" = some ⟨[], none⟩ := by decide +kernel
theorem pd__Ljava_lang_String__I : parseMethodDescriptor "(Ljava/lang/String;)I" = some ⟨[(.object "java/lang/String")], some .int⟩ := by decide +kernel
theorem pd___II_V : parseMethodDescriptor "([II)V" = some ⟨[(.array .int), .int], none⟩ := by decide +kernel
theorem pd___I : parseMethodDescriptor "()I" = some ⟨[], some .int⟩ := by decide +kernel
theorem pn_0 : plainFor x = true := plainFor_of_name (by first | (simp [plainName, overriddenIn, x]; done) | decide +kernel)
set_option maxHeartbeats 4000000 in
theorem rm0 (l : Launch) (Z : State) (a0 : Array Value) (hw : OW Z a0) (n0 : Nat) (p0 p1 p2 p3 p4 p5 zcs : Int32) (u8 : Addr) (h0 : Heap) (Z0 : n0 ≤ h0.size) (S_COMPACT_STRINGS : Sta Z h0 "java/lang/String" "COMPACT_STRINGS" "Z" (.int zcs)) (hcs : ¬ zcs = 0) (S_INSTANCE : Sta Z h0 "sun/nio/cs/UTF_8" "INSTANCE" "Lsun/nio/cs/UTF_8;" (.ref u8)) (S_UTF_8 : Sta Z h0 "java/nio/charset/StandardCharsets" "UTF_8" "Ljava/nio/charset/Charset;" (.ref u8)) :
    OCon l Z n0 x code maxLocals ret room_1 #[(.int p0), (.int p1), (.int p2), (.int p3), (.int p4), (.int p5)] h0 (fun v _ => v = some (.int 1)) := by
  refine OCon.of (Ls := #[.val (.int p0), .val (.int p1), .val (.int p2), .val (.int p3), .val (.int p4), .val (.int p5), .unset, .unset, .unset, .unset, .unset, .unset, .unset, .unset, .unset]) pn_0 rfl rfl (fun m => by first | (simp [entryFrame, mkF, argsToLocals, Value.category, maxLocals]; done) | rfl) ?_
  intro p e s m below meth c T0 X0 K e0
  have N0 := Fr.nil n0
  refine o_iloadN X0 K at_0 1 rfl rfl ?_
  refine o_sipush X0 K (255 : Int32) at_1 4 rfl rfl ?_
  refine o_iand X0 K at_4 5 rfl ?_
  refine o_i2c X0 K at_5 6 rfl ?_
  obtain ⟨y0, h_y0⟩ : ∃ z_ : Int32, z_ = ((p0 &&& (255 : Int32)).toUInt32.toUInt16.toUInt32.toInt32) := ⟨_, rfl⟩
  refine o_istore X0 K at_6 8 rfl #[.val (.int p0), .val (.int p1), .val (.int p2), .val (.int p3), .val (.int p4), .val (.int p5), .val (.int y0), .unset, .unset, .unset, .unset, .unset, .unset, .unset, .unset] h_y0.symm rfl ?_
  refine o_iloadN X0 K at_8 9 rfl rfl ?_
  refine o_sipush X0 K (255 : Int32) at_9 12 rfl rfl ?_
  refine o_iand X0 K at_12 13 rfl ?_
  refine o_i2c X0 K at_13 14 rfl ?_
  obtain ⟨y1, h_y1⟩ : ∃ z_ : Int32, z_ = ((p1 &&& (255 : Int32)).toUInt32.toUInt16.toUInt32.toInt32) := ⟨_, rfl⟩
  refine o_istore X0 K at_14 16 rfl #[.val (.int p0), .val (.int p1), .val (.int p2), .val (.int p3), .val (.int p4), .val (.int p5), .val (.int y0), .val (.int y1), .unset, .unset, .unset, .unset, .unset, .unset, .unset] h_y1.symm rfl ?_
  have hy0 : y0.toInt ≤ (255 : Int32).toInt := by rw [h_y0]; exact own_c255 p0
  have hn0 : nar .char y0 = y0 := by rw [h_y0]; exact own_nc _
  have hy1 : y1.toInt ≤ (255 : Int32).toInt := by rw [h_y1]; exact own_c255 p1
  have hn1 : nar .char y1 = y1 := by rw [h_y1]; exact own_nc _
  rcases own_sg (y0.toInt8.toInt32) (y1.toInt8.toInt32) with ⟨g0, g1⟩ | ⟨g0, g1⟩ | ⟨g0, g1⟩ | ⟨g0, g1⟩
  · skip
    refine o_iload X0 K at_16 18 rfl rfl ?_
    refine o_invokestatic X0 K at_18 21 rfl (w_0 hw) (w_1 hw) (w_2 hw) (w_3 hw) (by decide) [(.int y0)] [] rfl  (c_sval l Z a0 hw n0 y0 zcs h0 Z0 S_COMPACT_STRINGS (hcs) (hy0)) e0 rfl (lenOf pd__C_Ljava_lang_String_ rfl) (by decide) 0 (Nat.le_of_eq rfl) (by decide) (by decide) (by decide) N0 ?_
    rintro _ T_934 h_934 locs_934 X_934 e_934 ⟨s1, t1, rfl, k_934, gg_934_sx, sz_934_sx, gg_934_tb, sz_934_tb, p_934f0, p_934f1, p_934f2, p_934f3, p_934f4⟩ N_934
    have Z_934 : n0 ≤ h_934.size := Nat.le_trans Z0 k_934.1
    have f_935 := o_sta_keep S_COMPACT_STRINGS k_934 (o_plain0)
    have f_936 := o_sta_keep S_INSTANCE k_934 (o_plain0)
    have f_937 := o_sta_keep S_UTF_8 k_934 (o_plain0)
    show OGo p e below _ n0 _ (T_934.setTop (mkF m 21 #[.val (.int p0), .val (.int p1), .val (.int p2), .val (.int p3), .val (.int p4), .val (.int p5), .val (.int y0), .val (.int y1), .unset, .unset, .unset, .unset, .unset, .unset, .unset] [(.ref s1)]))
    refine o_astore X_934 K at_21 23 rfl #[.val (.int p0), .val (.int p1), .val (.int p2), .val (.int p3), .val (.int p4), .val (.int p5), .val (.int y0), .val (.int y1), .val (.ref s1), .unset, .unset, .unset, .unset, .unset, .unset] rfl rfl ?_
    refine o_new X_934 K at_23 26 rfl (w_26 hw) (w_10 hw) (w_2 hw) e_934 (by decide) (by decide) ?_
    intro T_938 h_938 s2 g_938 X_938 e_938 E_938 B_938 D_938
    have Z_938 : n0 ≤ h_938.size := Nat.le_trans Z_934 E_938.1
    have f_939 := Sta.ext E_938 f_935
    have f_940 := Sta.ext E_938 f_936
    have f_941 := Sta.ext E_938 f_937
    have f_942 := Exa.ext E_938 p_934f0
    have f_943 := Fld.ext E_938 p_934f1
    have f_944 := Fld.ext E_938 p_934f2
    have f_945 := p_934f3.ext E_938
    have f_946 := Exa.ext E_938 p_934f4
    have g_s2 : n0 ≤ s2 := by rw [g_938]; exact Z_934
    have ne_s1_s2 : s1 ≠ s2 := by rw [g_938]; exact Nat.ne_of_lt p_934f0.lt
    have ne_t1_s2 : t1 ≠ s2 := by rw [g_938]; exact Nat.ne_of_lt p_934f3.lt
    have F_value__938 : Fld Z h_938 s2 "java/lang/String" "value" "[B" .null := D_938 (Or.inr (w_23 hw)) (ty := (.array .byte)) (by decide)
    have F_coder__938 : Fld Z h_938 s2 "java/lang/String" "coder" "B" (.int (0 : Int32)) := D_938 (Or.inr (w_25 hw)) (ty := .byte) (by decide)
    refine o_dup X_938 K at_26 27 rfl rfl ?_
    refine o_iconst X_938 K (2 : Int32) at_27 28 rfl rfl ?_
    refine o_newarray X_938 K (n := 2) at_28 30 rfl (w_27 hw) e_938 (by decide) 2 (by decide) (by decide) (by decide) (by decide) rfl ?_
    intro T_947 h_947 ca g_947 X_947 e_947 E_947 A_947
    dsimp only [newarray.typeOf, defaultValue] at A_947
    have Z_947 : n0 ≤ h_947.size := Nat.le_trans Z_938 E_947.1
    have f_948 := Sta.ext E_947 f_939
    have f_949 := Sta.ext E_947 f_940
    have f_950 := Sta.ext E_947 f_941
    have f_951 := Exa.ext E_947 f_942
    have f_952 := Fld.ext E_947 f_943
    have f_953 := Fld.ext E_947 f_944
    have f_954 := f_945.ext E_947
    have f_955 := Exa.ext E_947 f_946
    have f_956 := Exa.ext E_947 B_938
    have f_957 := Fld.ext E_947 F_value__938
    have f_958 := Fld.ext E_947 F_coder__938
    have g_ca : n0 ≤ ca := by rw [g_947]; exact Z_938
    have ne_s1_ca : s1 ≠ ca := by rw [g_947]; exact Nat.ne_of_lt f_942.lt
    have ne_t1_ca : t1 ≠ ca := by rw [g_947]; exact Nat.ne_of_lt f_945.lt
    have ne_s2_ca : s2 ≠ ca := by rw [g_947]; exact Nat.ne_of_lt B_938.lt
    refine o_dup X_947 K at_30 31 rfl rfl ?_
    refine o_iconst X_947 K (0 : Int32) at_31 32 rfl rfl ?_
    refine o_iload X_947 K at_32 34 rfl rfl ?_
    refine o_castore X_947 K (i := 0) (x' := y0) at_34 35 rfl e_947 A_947 (by decide) (by decide) (hn0) N_934 g_ca ?_
    intro T_959 h_959 locs_959 X_959 e_959 W_959 A_959 N_959
    have Z_959 : n0 ≤ h_959.size := by rw [Wr.size W_959]; exact Z_947
    have f_960 := Sta.wr W_959 f_948
    have f_961 := Sta.wr W_959 f_949
    have f_962 := Sta.wr W_959 f_950
    have f_963 := Exa.wr W_959 f_951
    have f_964 := Fld.other W_959 f_952 (Or.inl ne_s1_ca)
    have f_965 := Fld.other W_959 f_953 (Or.inl ne_s1_ca)
    have f_966 := f_954.other W_959 ne_t1_ca
    have f_967 := Exa.wr W_959 f_955
    have f_968 := Exa.wr W_959 f_956
    have f_969 := Fld.other W_959 f_957 (Or.inl ne_s2_ca)
    have f_970 := Fld.other W_959 f_958 (Or.inl ne_s2_ca)
    refine o_dup X_959 K at_35 36 rfl rfl ?_
    refine o_iconst X_959 K (1 : Int32) at_36 37 rfl rfl ?_
    refine o_iload X_959 K at_37 39 rfl rfl ?_
    refine o_castore X_959 K (i := 1) (x' := y1) at_39 40 rfl e_959 A_959 (by decide) (by decide) (hn1) N_959 g_ca ?_
    intro T_971 h_971 locs_971 X_971 e_971 W_971 A_971 N_971
    have Z_971 : n0 ≤ h_971.size := by rw [Wr.size W_971]; exact Z_959
    have f_972 := Sta.wr W_971 f_960
    have f_973 := Sta.wr W_971 f_961
    have f_974 := Sta.wr W_971 f_962
    have f_975 := Exa.wr W_971 f_963
    have f_976 := Fld.other W_971 f_964 (Or.inl ne_s1_ca)
    have f_977 := Fld.other W_971 f_965 (Or.inl ne_s1_ca)
    have f_978 := f_966.other W_971 ne_t1_ca
    have f_979 := Exa.wr W_971 f_967
    have f_980 := Exa.wr W_971 f_968
    have f_981 := Fld.other W_971 f_969 (Or.inl ne_s2_ca)
    have f_982 := Fld.other W_971 f_970 (Or.inl ne_s2_ca)
    have AB_983 := OAr.congr A_971 (g := own_B [y0, y1]) (fun j hj => by rcases (by omega : j = 0 ∨ j = 1) with rfl | rfl <;> rfl)
    refine o_invokespecial X_971 K at_40 43 rfl rfl (w_28 hw) (w_29 hw) (w_2 hw) (w_30 hw) (by decide) [(.ref ca)] [(.ref s2)] rfl  (c_new6 l Z a0 hw n0 s2 ca y0 y1 zcs h_971 Z_971 f_972 (hcs) f_980 f_981 f_982 g_s2 AB_983 ne_s2_ca (hy0) (hy1)) e_971 rfl (lenOf pd___C_V rfl) (by decide) 1 (Nat.le_of_eq rfl) (by decide) (by decide) (by decide) N_971 ?_
    rintro _ T_984 h_984 locs_984 X_984 e_984 ⟨t2, rfl, k_984, gg_984_bb, sz_984_bb, p_984f0, p_984f1, p_984f2, p_984f3, p_984f4⟩ N_984
    have Z_984 : n0 ≤ h_984.size := Nat.le_trans Z_971 k_984.1
    have f_985 := o_sta_keep f_972 k_984 (o_plainS f_980 (o_plain0))
    have f_986 := o_sta_keep f_973 k_984 (o_plainS f_980 (o_plain0))
    have f_987 := o_sta_keep f_974 k_984 (o_plainS f_980 (o_plain0))
    have f_988 := Exa.keep f_975 k_984
    have f_989 := Fld.keep f_976 k_984 (ninS ne_s1_s2 (nin0))
    have f_990 := Fld.keep f_977 k_984 (ninS ne_s1_s2 (nin0))
    have f_991 := f_978.keep k_984 (ninS ne_t1_s2 (nin0))
    have f_992 := Exa.keep f_979 k_984
    have f_993 := Exa.keep f_980 k_984
    have f_994 := AB_983.keep k_984 (ninS (Ne.symm ne_s2_ca) (nin0))
    have ne_s1_t2 : s1 ≠ t2 := Nat.ne_of_lt (Nat.lt_of_lt_of_le f_975.lt sz_984_bb)
    have ne_t1_t2 : t1 ≠ t2 := Nat.ne_of_lt (Nat.lt_of_lt_of_le f_978.lt sz_984_bb)
    have ne_s2_t2 : s2 ≠ t2 := Nat.ne_of_lt (Nat.lt_of_lt_of_le f_980.lt sz_984_bb)
    have ne_ca_t2 : ca ≠ t2 := Nat.ne_of_lt (Nat.lt_of_lt_of_le AB_983.lt sz_984_bb)
    show OGo p e below _ n0 _ (T_984.setTop (mkF m 43 #[.val (.int p0), .val (.int p1), .val (.int p2), .val (.int p3), .val (.int p4), .val (.int p5), .val (.int y0), .val (.int y1), .val (.ref s1), .unset, .unset, .unset, .unset, .unset, .unset] [(.ref s2)]))
    refine o_astore X_984 K at_43 45 rfl #[.val (.int p0), .val (.int p1), .val (.int p2), .val (.int p3), .val (.int p4), .val (.int p5), .val (.int y0), .val (.int y1), .val (.ref s1), .val (.ref s2), .unset, .unset, .unset, .unset, .unset] rfl rfl ?_
    refine o_new X_984 K at_45 48 rfl (w_44 hw) (w_45 hw) (w_46 hw) e_984 (by decide) (by decide) ?_
    intro T_995 h_995 nt g_995 X_995 e_995 E_995 B_995 D_995
    have Z_995 : n0 ≤ h_995.size := Nat.le_trans Z_984 E_995.1
    have f_996 := Sta.ext E_995 f_985
    have f_997 := Sta.ext E_995 f_986
    have f_998 := Sta.ext E_995 f_987
    have f_999 := Exa.ext E_995 f_988
    have f_1000 := Fld.ext E_995 f_989
    have f_1001 := Fld.ext E_995 f_990
    have f_1002 := f_991.ext E_995
    have f_1003 := Exa.ext E_995 f_992
    have f_1004 := Exa.ext E_995 p_984f0
    have f_1005 := f_994.ext E_995
    have f_1006 := Fld.ext E_995 p_984f1
    have f_1007 := Fld.ext E_995 p_984f2
    have f_1008 := p_984f3.ext E_995
    have f_1009 := Exa.ext E_995 p_984f4
    have g_nt : n0 ≤ nt := by rw [g_995]; exact Z_984
    have ne_s1_nt : s1 ≠ nt := by rw [g_995]; exact Nat.ne_of_lt f_988.lt
    have ne_t1_nt : t1 ≠ nt := by rw [g_995]; exact Nat.ne_of_lt f_991.lt
    have ne_s2_nt : s2 ≠ nt := by rw [g_995]; exact Nat.ne_of_lt p_984f0.lt
    have ne_ca_nt : ca ≠ nt := by rw [g_995]; exact Nat.ne_of_lt f_994.lt
    have ne_t2_nt : t2 ≠ nt := by rw [g_995]; exact Nat.ne_of_lt p_984f3.lt
    have F_bytes__995 : Fld Z h_995 nt "com/example/vikt/vikt/graph/NameTable" "bytes" "[B" .null := D_995 (Or.inl (w_52 hw)) (ty := (.array .byte)) (by decide)
    have F_starts__995 : Fld Z h_995 nt "com/example/vikt/vikt/graph/NameTable" "starts" "[I" .null := D_995 (Or.inl (w_55 hw)) (ty := (.array .int)) (by decide)
    have F_slots__995 : Fld Z h_995 nt "com/example/vikt/vikt/graph/NameTable" "slots" "[J" .null := D_995 (Or.inl (w_58 hw)) (ty := (.array .long)) (by decide)
    have F_mask__995 : Fld Z h_995 nt "com/example/vikt/vikt/graph/NameTable" "mask" "I" (.int (0 : Int32)) := D_995 (Or.inl (w_60 hw)) (ty := .int) (by decide)
    have F_used__995 : Fld Z h_995 nt "com/example/vikt/vikt/graph/NameTable" "used" "I" (.int (0 : Int32)) := D_995 (Or.inl (w_125 hw)) (ty := .int) (by decide)
    have F_count__995 : Fld Z h_995 nt "com/example/vikt/vikt/graph/NameTable" "count" "I" (.int (0 : Int32)) := D_995 (Or.inl (w_127 hw)) (ty := .int) (by decide)
    have F_prefetched__995 : Fld Z h_995 nt "com/example/vikt/vikt/graph/NameTable" "prefetched" "J" (.long (0 : Int64)) := D_995 (Or.inl (w_139 hw)) (ty := .long) (by decide)
    refine o_dup X_995 K at_48 49 rfl rfl ?_
    refine o_invokespecial X_995 K at_49 52 rfl rfl (w_47 hw) (w_48 hw) (w_46 hw) (w_49 hw) (by decide) [] [(.ref nt)] rfl  (c_ninit l Z a0 hw n0 nt h_995 Z_995 B_995 F_bytes__995 F_starts__995 F_slots__995 F_mask__995 F_count__995 F_used__995 F_prefetched__995 g_nt) e_995 rfl (lenOf pd___V rfl) (by decide) 1 (Nat.le_of_eq rfl) (by decide) (by decide) (by decide) N_984 ?_
    rintro _ T_1010 h_1010 locs_1010 X_1010 e_1010 ⟨ba, sa, la, rfl, k_1010, gg_1010_ba, sz_1010_ba, gg_1010_sa, sz_1010_sa, gg_1010_la, sz_1010_la, p_1010f0, p_1010f1, p_1010f2, p_1010f3, p_1010f4, p_1010f5, p_1010f6, p_1010f7, p_1010f8, p_1010f9, p_1010f10, p_1010_n1, p_1010_n2, p_1010_n3⟩ N_1010
    have Z_1010 : n0 ≤ h_1010.size := Nat.le_trans Z_995 k_1010.1
    have f_1011 := o_sta_keep f_996 k_1010 (o_plainS B_995 (o_plain0))
    have f_1012 := o_sta_keep f_997 k_1010 (o_plainS B_995 (o_plain0))
    have f_1013 := o_sta_keep f_998 k_1010 (o_plainS B_995 (o_plain0))
    have f_1014 := Exa.keep f_999 k_1010
    have f_1015 := Fld.keep f_1000 k_1010 (ninS ne_s1_nt (nin0))
    have f_1016 := Fld.keep f_1001 k_1010 (ninS ne_s1_nt (nin0))
    have f_1017 := f_1002.keep k_1010 (ninS ne_t1_nt (nin0))
    have f_1018 := Exa.keep f_1003 k_1010
    have f_1019 := Exa.keep f_1004 k_1010
    have f_1020 := f_1005.keep k_1010 (ninS ne_ca_nt (nin0))
    have f_1021 := Fld.keep f_1006 k_1010 (ninS ne_s2_nt (nin0))
    have f_1022 := Fld.keep f_1007 k_1010 (ninS ne_s2_nt (nin0))
    have f_1023 := f_1008.keep k_1010 (ninS ne_t2_nt (nin0))
    have f_1024 := Exa.keep f_1009 k_1010
    have f_1025 := Exa.keep B_995 k_1010
    have ne_s1_ba : s1 ≠ ba := Nat.ne_of_lt (Nat.lt_of_lt_of_le f_999.lt sz_1010_ba)
    have ne_t1_ba : t1 ≠ ba := Nat.ne_of_lt (Nat.lt_of_lt_of_le f_1002.lt sz_1010_ba)
    have ne_s2_ba : s2 ≠ ba := Nat.ne_of_lt (Nat.lt_of_lt_of_le f_1004.lt sz_1010_ba)
    have ne_ca_ba : ca ≠ ba := Nat.ne_of_lt (Nat.lt_of_lt_of_le f_1005.lt sz_1010_ba)
    have ne_t2_ba : t2 ≠ ba := Nat.ne_of_lt (Nat.lt_of_lt_of_le f_1008.lt sz_1010_ba)
    have ne_nt_ba : nt ≠ ba := Nat.ne_of_lt (Nat.lt_of_lt_of_le B_995.lt sz_1010_ba)
    have ne_s1_sa : s1 ≠ sa := Nat.ne_of_lt (Nat.lt_of_lt_of_le f_999.lt sz_1010_sa)
    have ne_t1_sa : t1 ≠ sa := Nat.ne_of_lt (Nat.lt_of_lt_of_le f_1002.lt sz_1010_sa)
    have ne_s2_sa : s2 ≠ sa := Nat.ne_of_lt (Nat.lt_of_lt_of_le f_1004.lt sz_1010_sa)
    have ne_ca_sa : ca ≠ sa := Nat.ne_of_lt (Nat.lt_of_lt_of_le f_1005.lt sz_1010_sa)
    have ne_t2_sa : t2 ≠ sa := Nat.ne_of_lt (Nat.lt_of_lt_of_le f_1008.lt sz_1010_sa)
    have ne_nt_sa : nt ≠ sa := Nat.ne_of_lt (Nat.lt_of_lt_of_le B_995.lt sz_1010_sa)
    have ne_s1_la : s1 ≠ la := Nat.ne_of_lt (Nat.lt_of_lt_of_le f_999.lt sz_1010_la)
    have ne_t1_la : t1 ≠ la := Nat.ne_of_lt (Nat.lt_of_lt_of_le f_1002.lt sz_1010_la)
    have ne_s2_la : s2 ≠ la := Nat.ne_of_lt (Nat.lt_of_lt_of_le f_1004.lt sz_1010_la)
    have ne_ca_la : ca ≠ la := Nat.ne_of_lt (Nat.lt_of_lt_of_le f_1005.lt sz_1010_la)
    have ne_t2_la : t2 ≠ la := Nat.ne_of_lt (Nat.lt_of_lt_of_le f_1008.lt sz_1010_la)
    have ne_nt_la : nt ≠ la := Nat.ne_of_lt (Nat.lt_of_lt_of_le B_995.lt sz_1010_la)
    show OGo p e below _ n0 _ (T_1010.setTop (mkF m 52 #[.val (.int p0), .val (.int p1), .val (.int p2), .val (.int p3), .val (.int p4), .val (.int p5), .val (.int y0), .val (.int y1), .val (.ref s1), .val (.ref s2), .unset, .unset, .unset, .unset, .unset] [(.ref nt)]))
    refine o_astore X_1010 K at_52 54 rfl #[.val (.int p0), .val (.int p1), .val (.int p2), .val (.int p3), .val (.int p4), .val (.int p5), .val (.int y0), .val (.int y1), .val (.ref s1), .val (.ref s2), .val (.ref nt), .unset, .unset, .unset, .unset] rfl rfl ?_
    refine o_aload X_1010 K at_54 56 rfl rfl rfl ?_
    refine o_aload X_1010 K at_56 58 rfl rfl rfl ?_
    refine o_invokevirtual X_1010 K at_58 61 rfl (w_61 hw) (w_62 hw) (w_64 hw) (w_63 hw) (w_46 hw) (w_65 hw) (by decide) p_1010f0 [(.ref s1)] [] rfl  (c_nSI_p l Z a0 hw n0 nt s1 t1 u8 ba sa la (y0.toInt8.toInt32) zcs (0 : Int32) (0 : Int32) _ _ (fun _ => 0) (0 : Int64) h_1010 Z_1010 f_1011 (hcs) f_1012 f_1013 f_1014 f_1015 f_1016 f_1017 f_1018 (g0) (o_nb _) p_1010f0 p_1010f1 p_1010f2 p_1010f3 p_1010f4 p_1010f5 p_1010f6 p_1010f7 g_nt p_1010f8 gg_1010_ba p_1010f9 gg_1010_sa p_1010f10 gg_1010_la ne_nt_ba ne_nt_sa p_1010_n1 (Ne.symm ne_nt_la) (Ne.symm p_1010_n2) (Ne.symm p_1010_n3) ne_s1_nt ne_s1_ba ne_s1_sa ne_s1_la ne_t1_nt ne_t1_ba ne_t1_sa ne_t1_la (by decide) (by decide) (rfl)) e_1010 rfl (lenOf pd__Ljava_lang_String__I rfl) (by decide) 0 (Nat.le_of_eq rfl) (by decide) (by decide) (by decide) N_1010 ?_
    rintro _ T_1026 h_1026 locs_1026 X_1026 e_1026 ⟨rfl, k_1026, p_1026f0, p_1026f1, p_1026f2, p_1026f3, p_1026f4, p_1026f5, p_1026f6, p_1026f7, p_1026f8, p_1026f9, p_1026f10⟩ N_1026
    have Z_1026 : n0 ≤ h_1026.size := Nat.le_trans Z_1010 k_1026.1
    have f_1027 := o_sta_keep f_1011 k_1026 (o_plainS p_1010f0 (o_plainR p_1010f8 (o_plainR p_1010f9 (o_plainR p_1010f10 (o_plain0)))))
    have f_1028 := o_sta_keep f_1012 k_1026 (o_plainS p_1010f0 (o_plainR p_1010f8 (o_plainR p_1010f9 (o_plainR p_1010f10 (o_plain0)))))
    have f_1029 := o_sta_keep f_1013 k_1026 (o_plainS p_1010f0 (o_plainR p_1010f8 (o_plainR p_1010f9 (o_plainR p_1010f10 (o_plain0)))))
    have f_1030 := Exa.keep f_1014 k_1026
    have f_1031 := Fld.keep f_1015 k_1026 (ninS ne_s1_nt (ninS ne_s1_ba (ninS ne_s1_sa (ninS ne_s1_la (nin0)))))
    have f_1032 := Fld.keep f_1016 k_1026 (ninS ne_s1_nt (ninS ne_s1_ba (ninS ne_s1_sa (ninS ne_s1_la (nin0)))))
    have f_1033 := f_1017.keep k_1026 (ninS ne_t1_nt (ninS ne_t1_ba (ninS ne_t1_sa (ninS ne_t1_la (nin0)))))
    have f_1034 := Exa.keep f_1018 k_1026
    have f_1035 := Exa.keep f_1019 k_1026
    have f_1036 := f_1020.keep k_1026 (ninS ne_ca_nt (ninS ne_ca_ba (ninS ne_ca_sa (ninS ne_ca_la (nin0)))))
    have f_1037 := Fld.keep f_1021 k_1026 (ninS ne_s2_nt (ninS ne_s2_ba (ninS ne_s2_sa (ninS ne_s2_la (nin0)))))
    have f_1038 := Fld.keep f_1022 k_1026 (ninS ne_s2_nt (ninS ne_s2_ba (ninS ne_s2_sa (ninS ne_s2_la (nin0)))))
    have f_1039 := f_1023.keep k_1026 (ninS ne_t2_nt (ninS ne_t2_ba (ninS ne_t2_sa (ninS ne_t2_la (nin0)))))
    have f_1040 := Exa.keep f_1024 k_1026
    have f_1041 := Exa.keep p_1010f0 k_1026
    show OGo p e below _ n0 _ (T_1026.setTop (mkF m 61 #[.val (.int p0), .val (.int p1), .val (.int p2), .val (.int p3), .val (.int p4), .val (.int p5), .val (.int y0), .val (.int y1), .val (.ref s1), .val (.ref s2), .val (.ref nt), .unset, .unset, .unset, .unset] [(.int (0 : Int32))]))
    refine o_istore X_1026 K at_61 63 rfl #[.val (.int p0), .val (.int p1), .val (.int p2), .val (.int p3), .val (.int p4), .val (.int p5), .val (.int y0), .val (.int y1), .val (.ref s1), .val (.ref s2), .val (.ref nt), .val (.int (0 : Int32)), .unset, .unset, .unset] rfl rfl ?_
    refine o_iconst X_1026 K (3 : Int32) at_63 64 rfl rfl ?_
    refine o_newarray X_1026 K (n := 3) at_64 66 rfl (w_53 hw) e_1026 (by decide) 3 (by decide) (by decide) (by decide) (by decide) rfl ?_
    intro T_1042 h_1042 hs g_1042 X_1042 e_1042 E_1042 A_1042
    dsimp only [newarray.typeOf, defaultValue] at A_1042
    have Z_1042 : n0 ≤ h_1042.size := Nat.le_trans Z_1026 E_1042.1
    have f_1043 := Sta.ext E_1042 f_1027
    have f_1044 := Sta.ext E_1042 f_1028
    have f_1045 := Sta.ext E_1042 f_1029
    have f_1046 := Exa.ext E_1042 f_1030
    have f_1047 := Fld.ext E_1042 f_1031
    have f_1048 := Fld.ext E_1042 f_1032
    have f_1049 := f_1033.ext E_1042
    have f_1050 := Exa.ext E_1042 f_1034
    have f_1051 := Exa.ext E_1042 f_1035
    have f_1052 := f_1036.ext E_1042
    have f_1053 := Fld.ext E_1042 f_1037
    have f_1054 := Fld.ext E_1042 f_1038
    have f_1055 := f_1039.ext E_1042
    have f_1056 := Exa.ext E_1042 f_1040
    have f_1057 := Exa.ext E_1042 p_1026f0
    have f_1058 := Fld.ext E_1042 p_1026f1
    have f_1059 := Fld.ext E_1042 p_1026f2
    have f_1060 := Fld.ext E_1042 p_1026f3
    have f_1061 := Fld.ext E_1042 p_1026f4
    have f_1062 := Fld.ext E_1042 p_1026f5
    have f_1063 := Fld.ext E_1042 p_1026f6
    have f_1064 := Fld.ext E_1042 p_1026f7
    have f_1065 := p_1026f8.ext E_1042
    have f_1066 := p_1026f9.ext E_1042
    have f_1067 := p_1026f10.ext E_1042
    have g_hs : n0 ≤ hs := by rw [g_1042]; exact Z_1026
    have ne_s1_hs : s1 ≠ hs := by rw [g_1042]; exact Nat.ne_of_lt f_1030.lt
    have ne_t1_hs : t1 ≠ hs := by rw [g_1042]; exact Nat.ne_of_lt f_1033.lt
    have ne_s2_hs : s2 ≠ hs := by rw [g_1042]; exact Nat.ne_of_lt f_1035.lt
    have ne_ca_hs : ca ≠ hs := by rw [g_1042]; exact Nat.ne_of_lt f_1036.lt
    have ne_t2_hs : t2 ≠ hs := by rw [g_1042]; exact Nat.ne_of_lt f_1039.lt
    have ne_nt_hs : nt ≠ hs := by rw [g_1042]; exact Nat.ne_of_lt p_1026f0.lt
    have ne_ba_hs : ba ≠ hs := by rw [g_1042]; exact Nat.ne_of_lt p_1026f8.lt
    have ne_sa_hs : sa ≠ hs := by rw [g_1042]; exact Nat.ne_of_lt p_1026f9.lt
    have ne_la_hs : la ≠ hs := by rw [g_1042]; exact Nat.ne_of_lt p_1026f10.lt
    refine o_dup X_1042 K at_66 67 rfl rfl ?_
    refine o_iconst X_1042 K (0 : Int32) at_67 68 rfl rfl ?_
    refine o_iloadN X_1042 K at_68 69 rfl rfl ?_
    refine o_iastore X_1042 K (i := 0) (x' := p2) at_69 70 rfl e_1042 A_1042 (by decide) (by decide) (rfl) N_1026 g_hs ?_
    intro T_1068 h_1068 locs_1068 X_1068 e_1068 W_1068 A_1068 N_1068
    have Z_1068 : n0 ≤ h_1068.size := by rw [Wr.size W_1068]; exact Z_1042
    have f_1069 := Sta.wr W_1068 f_1043
    have f_1070 := Sta.wr W_1068 f_1044
    have f_1071 := Sta.wr W_1068 f_1045
    have f_1072 := Exa.wr W_1068 f_1046
    have f_1073 := Fld.other W_1068 f_1047 (Or.inl ne_s1_hs)
    have f_1074 := Fld.other W_1068 f_1048 (Or.inl ne_s1_hs)
    have f_1075 := f_1049.other W_1068 ne_t1_hs
    have f_1076 := Exa.wr W_1068 f_1050
    have f_1077 := Exa.wr W_1068 f_1051
    have f_1078 := f_1052.other W_1068 ne_ca_hs
    have f_1079 := Fld.other W_1068 f_1053 (Or.inl ne_s2_hs)
    have f_1080 := Fld.other W_1068 f_1054 (Or.inl ne_s2_hs)
    have f_1081 := f_1055.other W_1068 ne_t2_hs
    have f_1082 := Exa.wr W_1068 f_1056
    have f_1083 := Exa.wr W_1068 f_1057
    have f_1084 := Fld.other W_1068 f_1058 (Or.inl ne_nt_hs)
    have f_1085 := Fld.other W_1068 f_1059 (Or.inl ne_nt_hs)
    have f_1086 := Fld.other W_1068 f_1060 (Or.inl ne_nt_hs)
    have f_1087 := Fld.other W_1068 f_1061 (Or.inl ne_nt_hs)
    have f_1088 := Fld.other W_1068 f_1062 (Or.inl ne_nt_hs)
    have f_1089 := Fld.other W_1068 f_1063 (Or.inl ne_nt_hs)
    have f_1090 := Fld.other W_1068 f_1064 (Or.inl ne_nt_hs)
    have f_1091 := f_1065.other W_1068 ne_ba_hs
    have f_1092 := f_1066.other W_1068 ne_sa_hs
    have f_1093 := f_1067.other W_1068 ne_la_hs
    refine o_dup X_1068 K at_70 71 rfl rfl ?_
    refine o_iconst X_1068 K (1 : Int32) at_71 72 rfl rfl ?_
    refine o_iloadN X_1068 K at_72 73 rfl rfl ?_
    refine o_iastore X_1068 K (i := 1) (x' := p3) at_73 74 rfl e_1068 A_1068 (by decide) (by decide) (rfl) N_1068 g_hs ?_
    intro T_1094 h_1094 locs_1094 X_1094 e_1094 W_1094 A_1094 N_1094
    have Z_1094 : n0 ≤ h_1094.size := by rw [Wr.size W_1094]; exact Z_1068
    have f_1095 := Sta.wr W_1094 f_1069
    have f_1096 := Sta.wr W_1094 f_1070
    have f_1097 := Sta.wr W_1094 f_1071
    have f_1098 := Exa.wr W_1094 f_1072
    have f_1099 := Fld.other W_1094 f_1073 (Or.inl ne_s1_hs)
    have f_1100 := Fld.other W_1094 f_1074 (Or.inl ne_s1_hs)
    have f_1101 := f_1075.other W_1094 ne_t1_hs
    have f_1102 := Exa.wr W_1094 f_1076
    have f_1103 := Exa.wr W_1094 f_1077
    have f_1104 := f_1078.other W_1094 ne_ca_hs
    have f_1105 := Fld.other W_1094 f_1079 (Or.inl ne_s2_hs)
    have f_1106 := Fld.other W_1094 f_1080 (Or.inl ne_s2_hs)
    have f_1107 := f_1081.other W_1094 ne_t2_hs
    have f_1108 := Exa.wr W_1094 f_1082
    have f_1109 := Exa.wr W_1094 f_1083
    have f_1110 := Fld.other W_1094 f_1084 (Or.inl ne_nt_hs)
    have f_1111 := Fld.other W_1094 f_1085 (Or.inl ne_nt_hs)
    have f_1112 := Fld.other W_1094 f_1086 (Or.inl ne_nt_hs)
    have f_1113 := Fld.other W_1094 f_1087 (Or.inl ne_nt_hs)
    have f_1114 := Fld.other W_1094 f_1088 (Or.inl ne_nt_hs)
    have f_1115 := Fld.other W_1094 f_1089 (Or.inl ne_nt_hs)
    have f_1116 := Fld.other W_1094 f_1090 (Or.inl ne_nt_hs)
    have f_1117 := f_1091.other W_1094 ne_ba_hs
    have f_1118 := f_1092.other W_1094 ne_sa_hs
    have f_1119 := f_1093.other W_1094 ne_la_hs
    refine o_dup X_1094 K at_74 75 rfl rfl ?_
    refine o_iconst X_1094 K (2 : Int32) at_75 76 rfl rfl ?_
    refine o_iload X_1094 K at_76 78 rfl rfl ?_
    refine o_iastore X_1094 K (i := 2) (x' := p4) at_78 79 rfl e_1094 A_1094 (by decide) (by decide) (rfl) N_1094 g_hs ?_
    intro T_1120 h_1120 locs_1120 X_1120 e_1120 W_1120 A_1120 N_1120
    have Z_1120 : n0 ≤ h_1120.size := by rw [Wr.size W_1120]; exact Z_1094
    have f_1121 := Sta.wr W_1120 f_1095
    have f_1122 := Sta.wr W_1120 f_1096
    have f_1123 := Sta.wr W_1120 f_1097
    have f_1124 := Exa.wr W_1120 f_1098
    have f_1125 := Fld.other W_1120 f_1099 (Or.inl ne_s1_hs)
    have f_1126 := Fld.other W_1120 f_1100 (Or.inl ne_s1_hs)
    have f_1127 := f_1101.other W_1120 ne_t1_hs
    have f_1128 := Exa.wr W_1120 f_1102
    have f_1129 := Exa.wr W_1120 f_1103
    have f_1130 := f_1104.other W_1120 ne_ca_hs
    have f_1131 := Fld.other W_1120 f_1105 (Or.inl ne_s2_hs)
    have f_1132 := Fld.other W_1120 f_1106 (Or.inl ne_s2_hs)
    have f_1133 := f_1107.other W_1120 ne_t2_hs
    have f_1134 := Exa.wr W_1120 f_1108
    have f_1135 := Exa.wr W_1120 f_1109
    have f_1136 := Fld.other W_1120 f_1110 (Or.inl ne_nt_hs)
    have f_1137 := Fld.other W_1120 f_1111 (Or.inl ne_nt_hs)
    have f_1138 := Fld.other W_1120 f_1112 (Or.inl ne_nt_hs)
    have f_1139 := Fld.other W_1120 f_1113 (Or.inl ne_nt_hs)
    have f_1140 := Fld.other W_1120 f_1114 (Or.inl ne_nt_hs)
    have f_1141 := Fld.other W_1120 f_1115 (Or.inl ne_nt_hs)
    have f_1142 := Fld.other W_1120 f_1116 (Or.inl ne_nt_hs)
    have f_1143 := f_1117.other W_1120 ne_ba_hs
    have f_1144 := f_1118.other W_1120 ne_sa_hs
    have f_1145 := f_1119.other W_1120 ne_la_hs
    have AB_1146 := OAr.congr A_1120 (g := fun j => .int ([p2, p3, p4].getD j 0)) (fun j hj => by rcases (by omega : j = 0 ∨ j = 1 ∨ j = 2) with rfl | rfl | rfl <;> rfl)
    refine o_astore X_1120 K at_79 81 rfl #[.val (.int p0), .val (.int p1), .val (.int p2), .val (.int p3), .val (.int p4), .val (.int p5), .val (.int y0), .val (.int y1), .val (.ref s1), .val (.ref s2), .val (.ref nt), .val (.int (0 : Int32)), .val (.ref hs), .unset, .unset] rfl rfl ?_
    refine o_iload X_1120 K at_81 83 rfl rfl ?_
    refine o_ldcI X_1120 K at_83 85 rfl (w_132 hw) ?_
    refine o_iand X_1120 K at_85 86 rfl ?_
    refine o_iconst X_1120 K (4 : Int32) at_86 87 rfl rfl ?_
    refine o_irem X_1120 K at_87 88 rfl (by decide) ?_
    obtain ⟨n, h_n⟩ : ∃ z_ : Int32, z_ = ((p5 &&& (2147483647 : Int32)) % (4 : Int32)) := ⟨_, rfl⟩
    refine o_istore X_1120 K at_88 90 rfl #[.val (.int p0), .val (.int p1), .val (.int p2), .val (.int p3), .val (.int p4), .val (.int p5), .val (.int y0), .val (.int y1), .val (.ref s1), .val (.ref s2), .val (.ref nt), .val (.int (0 : Int32)), .val (.ref hs), .val (.int n), .unset] h_n.symm rfl ?_
    refine o_aload X_1120 K at_90 92 rfl rfl rfl ?_
    refine o_aload X_1120 K at_92 94 rfl rfl rfl ?_
    refine o_iload X_1120 K at_94 96 rfl rfl ?_
    refine o_invokevirtual X_1120 K at_96 99 rfl (w_133 hw) (w_134 hw) (w_136 hw) (w_135 hw) (w_46 hw) (w_137 hw) (by decide) f_1135 [(.ref hs), (.int n)] [] rfl  (c_pref l Z a0 hw n0 nt hs ba sa la n ((0 : Int32) + ((1 : Int32) - (0 : Int32))) ((0 : Int32) + (1 : Int32)) (fun j => [p2, p3, p4].getD j 0) (own_put (2 * ((own_hash [(y0.toInt8.toInt32)] (1 : Int32)) &&& (1023 : Int32)).toInt.toNat) (2 * ((own_hash [(y0.toInt8.toInt32)] (1 : Int32)) &&& (1023 : Int32)).toInt.toNat + 1) (((own_hash [(y0.toInt8.toInt32)] (1 : Int32)).toInt64 <<< ((32 : Int32) &&& 0x3f).toInt64) ||| (((0 : Int32) + (1 : Int32)).toInt64)) (own_key [(y0.toInt8.toInt32)] (1 : Int32)) (fun _ => 0)) (0 : Int64) h_1120 Z_1120 f_1135 f_1136 f_1137 f_1138 f_1139 f_1140 f_1141 f_1142 g_nt AB_1146 f_1145 (by rw [h_n]; exact own_four p5) (Ne.symm ne_nt_hs) (Ne.symm ne_nt_la)) e_1120 rfl (lenOf pd___II_V rfl) (by decide) 0 (Nat.le_of_eq rfl) (by decide) (by decide) (by decide) N_1120 ?_
    rintro _ T_1147 h_1147 locs_1147 X_1147 e_1147 ⟨rfl, k_1147, p_1147f0, p_1147f1, p_1147f2, p_1147f3, p_1147f4, p_1147f5, p_1147f6, p_1147_pv⟩ N_1147
    have Z_1147 : n0 ≤ h_1147.size := Nat.le_trans Z_1120 k_1147.1
    have f_1148 := o_sta_keep f_1121 k_1147 (o_plainS f_1135 (o_plain0))
    have f_1149 := o_sta_keep f_1122 k_1147 (o_plainS f_1135 (o_plain0))
    have f_1150 := o_sta_keep f_1123 k_1147 (o_plainS f_1135 (o_plain0))
    have f_1151 := Exa.keep f_1124 k_1147
    have f_1152 := Fld.keep f_1125 k_1147 (ninS ne_s1_nt (nin0))
    have f_1153 := Fld.keep f_1126 k_1147 (ninS ne_s1_nt (nin0))
    have f_1154 := f_1127.keep k_1147 (ninS ne_t1_nt (nin0))
    have f_1155 := Exa.keep f_1128 k_1147
    have f_1156 := Exa.keep f_1129 k_1147
    have f_1157 := f_1130.keep k_1147 (ninS ne_ca_nt (nin0))
    have f_1158 := Fld.keep f_1131 k_1147 (ninS ne_s2_nt (nin0))
    have f_1159 := Fld.keep f_1132 k_1147 (ninS ne_s2_nt (nin0))
    have f_1160 := f_1133.keep k_1147 (ninS ne_t2_nt (nin0))
    have f_1161 := Exa.keep f_1134 k_1147
    have f_1162 := Exa.keep f_1135 k_1147
    have f_1163 := f_1143.keep k_1147 (ninS (Ne.symm ne_nt_ba) (nin0))
    have f_1164 := f_1144.keep k_1147 (ninS (Ne.symm ne_nt_sa) (nin0))
    have f_1165 := f_1145.keep k_1147 (ninS (Ne.symm ne_nt_la) (nin0))
    have f_1166 := AB_1146.keep k_1147 (ninS (Ne.symm ne_nt_hs) (nin0))
    obtain ⟨pw, Fpw⟩ := p_1147_pv
    show OGo p e below _ n0 _ (T_1147.setTop (mkF m 99 #[.val (.int p0), .val (.int p1), .val (.int p2), .val (.int p3), .val (.int p4), .val (.int p5), .val (.int y0), .val (.int y1), .val (.ref s1), .val (.ref s2), .val (.ref nt), .val (.int (0 : Int32)), .val (.ref hs), .val (.int n), .unset] []))
    refine o_iload X_1147 K at_99 101 rfl rfl ?_
    refine o_if_ne_f X_1147 K at_101 104 rfl (by decide) ?_
    refine o_aload X_1147 K at_104 106 rfl rfl rfl ?_
    refine o_invokevirtual X_1147 K at_106 109 rfl (w_140 hw) (w_141 hw) (w_143 hw) (w_142 hw) (w_46 hw) (w_144 hw) (by decide) p_1147f0 [] [] rfl  (c_count l Z a0 hw n0 nt ((0 : Int32) + (1 : Int32)) h_1147 Z_1147 p_1147f5) e_1147 rfl (lenOf pd___I rfl) (by decide) 0 (Nat.le_of_eq rfl) (by decide) (by decide) (by decide) N_1147 ?_
    rintro _ T_1167 h_1167 locs_1167 X_1167 q_1167 ⟨rfl, r_1167⟩ N_1167
    have e_1167 := q_1167.trans r_1167
    show OGo p e below _ n0 _ (T_1167.setTop (mkF m 109 #[.val (.int p0), .val (.int p1), .val (.int p2), .val (.int p3), .val (.int p4), .val (.int p5), .val (.int y0), .val (.int y1), .val (.ref s1), .val (.ref s2), .val (.ref nt), .val (.int (0 : Int32)), .val (.ref hs), .val (.int n), .unset] [(.int ((0 : Int32) + (1 : Int32)))]))
    refine o_iconst X_1167 K (1 : Int32) at_109 110 rfl rfl ?_
    refine o_icmp_ne_f X_1167 K at_110 113 rfl (by decide) ?_
    refine o_iconst X_1167 K (1 : Int32) at_113 114 rfl rfl ?_
    refine o_goto X_1167 K at_114 118 (by decide) (by decide) ?_
    refine o_istore X_1167 K at_118 120 rfl #[.val (.int p0), .val (.int p1), .val (.int p2), .val (.int p3), .val (.int p4), .val (.int p5), .val (.int y0), .val (.int y1), .val (.ref s1), .val (.ref s2), .val (.ref nt), .val (.int (0 : Int32)), .val (.ref hs), .val (.int n), .val (.int (1 : Int32))] rfl rfl ?_
    refine o_iload X_1167 K at_120 122 rfl rfl ?_
    refine o_if_eq_f X_1167 K at_122 125 rfl (by decide) ?_
    refine o_aload X_1167 K at_125 127 rfl rfl rfl ?_
    refine o_aload X_1167 K at_127 129 rfl rfl rfl ?_
    refine o_invokevirtual X_1167 K at_129 132 rfl (w_61 hw) (w_62 hw) (w_64 hw) (w_63 hw) (w_46 hw) (w_65 hw) (by decide) p_1147f0 [(.ref s1)] [] rfl  (c_nSH_p l Z a0 hw n0 nt s1 t1 u8 ba sa la (y0.toInt8.toInt32) zcs ((0 : Int32) + ((1 : Int32) - (0 : Int32))) ((0 : Int32) + (1 : Int32)) _ _ (own_put (2 * ((own_hash [(y0.toInt8.toInt32)] (1 : Int32)) &&& (1023 : Int32)).toInt.toNat) (2 * ((own_hash [(y0.toInt8.toInt32)] (1 : Int32)) &&& (1023 : Int32)).toInt.toNat + 1) (((own_hash [(y0.toInt8.toInt32)] (1 : Int32)).toInt64 <<< ((32 : Int32) &&& 0x3f).toInt64) ||| (((0 : Int32) + (1 : Int32)).toInt64)) (own_key [(y0.toInt8.toInt32)] (1 : Int32)) (fun _ => 0)) pw (((own_hash [(y0.toInt8.toInt32)] (1 : Int32)).toInt64 <<< ((32 : Int32) &&& 0x3f).toInt64) ||| (((0 : Int32) + (1 : Int32)).toInt64)) h_1147 Z_1147 f_1148 (hcs) f_1149 f_1150 f_1151 f_1152 f_1153 f_1154 f_1155 (g0) (o_nb _) p_1147f0 p_1147f1 p_1147f2 p_1147f3 p_1147f4 p_1147f5 p_1147f6 Fpw g_nt f_1163 gg_1010_ba f_1164 gg_1010_sa f_1165 gg_1010_la ne_nt_ba ne_nt_sa p_1010_n1 (Ne.symm ne_nt_la) (Ne.symm p_1010_n2) (Ne.symm p_1010_n3) ne_s1_nt ne_s1_ba ne_s1_sa ne_s1_la ne_t1_nt ne_t1_ba ne_t1_sa ne_t1_la (by decide) (by decide) (own_putb) (own_i0 _) (own_puta own_n3) (own_i1 _)) e_1167 rfl (lenOf pd__Ljava_lang_String__I rfl) (by decide) 0 (Nat.le_of_eq rfl) (by decide) (by decide) (by decide) N_1167 ?_
    rintro _ T_1168 h_1168 locs_1168 X_1168 e_1168 ⟨rfl, k_1168⟩ N_1168
    have Z_1168 : n0 ≤ h_1168.size := Nat.le_trans Z_1147 k_1168.1
    have f_1169 := o_sta_keep f_1148 k_1168 (o_plain0)
    have f_1170 := o_sta_keep f_1149 k_1168 (o_plain0)
    have f_1171 := o_sta_keep f_1150 k_1168 (o_plain0)
    have f_1172 := Exa.keep f_1151 k_1168
    have f_1173 := Fld.keep f_1152 k_1168 (nin0)
    have f_1174 := Fld.keep f_1153 k_1168 (nin0)
    have f_1175 := f_1154.keep k_1168 (nin0)
    have f_1176 := Exa.keep f_1155 k_1168
    have f_1177 := Exa.keep f_1156 k_1168
    have f_1178 := f_1157.keep k_1168 (nin0)
    have f_1179 := Fld.keep f_1158 k_1168 (nin0)
    have f_1180 := Fld.keep f_1159 k_1168 (nin0)
    have f_1181 := f_1160.keep k_1168 (nin0)
    have f_1182 := Exa.keep f_1161 k_1168
    have f_1183 := Exa.keep p_1147f0 k_1168
    have f_1184 := f_1163.keep k_1168 (nin0)
    have f_1185 := f_1164.keep k_1168 (nin0)
    have f_1186 := f_1165.keep k_1168 (nin0)
    have f_1187 := f_1166.keep k_1168 (nin0)
    have f_1188 := Fld.keep p_1147f1 k_1168 (nin0)
    have f_1189 := Fld.keep p_1147f2 k_1168 (nin0)
    have f_1190 := Fld.keep p_1147f3 k_1168 (nin0)
    have f_1191 := Fld.keep p_1147f4 k_1168 (nin0)
    have f_1192 := Fld.keep p_1147f5 k_1168 (nin0)
    have f_1193 := Fld.keep p_1147f6 k_1168 (nin0)
    have f_1194 := Fld.keep Fpw k_1168 (nin0)
    show OGo p e below _ n0 _ (T_1168.setTop (mkF m 132 #[.val (.int p0), .val (.int p1), .val (.int p2), .val (.int p3), .val (.int p4), .val (.int p5), .val (.int y0), .val (.int y1), .val (.ref s1), .val (.ref s2), .val (.ref nt), .val (.int (0 : Int32)), .val (.ref hs), .val (.int n), .val (.int (1 : Int32))] [(.int ((((own_hash [(y0.toInt8.toInt32)] (1 : Int32)).toInt64 <<< ((32 : Int32) &&& 0x3f).toInt64) ||| (((0 : Int32) + (1 : Int32)).toInt64)).toInt32 - (1 : Int32)))]))
    refine o_if_ne_f X_1168 K at_132 135 rfl (by rw [own_i2]; rfl) ?_
    refine o_aload X_1168 K at_135 137 rfl rfl rfl ?_
    refine o_invokevirtual X_1168 K at_137 140 rfl (w_140 hw) (w_141 hw) (w_143 hw) (w_142 hw) (w_46 hw) (w_144 hw) (by decide) f_1183 [] [] rfl  (c_count l Z a0 hw n0 nt ((0 : Int32) + (1 : Int32)) h_1168 Z_1168 f_1192) e_1168 rfl (lenOf pd___I rfl) (by decide) 0 (Nat.le_of_eq rfl) (by decide) (by decide) (by decide) N_1168 ?_
    rintro _ T_1195 h_1195 locs_1195 X_1195 q_1195 ⟨rfl, r_1195⟩ N_1195
    have e_1195 := q_1195.trans r_1195
    show OGo p e below _ n0 _ (T_1195.setTop (mkF m 140 #[.val (.int p0), .val (.int p1), .val (.int p2), .val (.int p3), .val (.int p4), .val (.int p5), .val (.int y0), .val (.int y1), .val (.ref s1), .val (.ref s2), .val (.ref nt), .val (.int (0 : Int32)), .val (.ref hs), .val (.int n), .val (.int (1 : Int32))] [(.int ((0 : Int32) + (1 : Int32)))]))
    refine o_iconst X_1195 K (1 : Int32) at_140 141 rfl rfl ?_
    refine o_icmp_ne_f X_1195 K at_141 144 rfl (by decide) ?_
    refine o_iconst X_1195 K (1 : Int32) at_144 145 rfl rfl ?_
    refine o_goto X_1195 K at_145 149 (by decide) (by decide) ?_
    refine o_istore X_1195 K at_149 151 rfl #[.val (.int p0), .val (.int p1), .val (.int p2), .val (.int p3), .val (.int p4), .val (.int p5), .val (.int y0), .val (.int y1), .val (.ref s1), .val (.ref s2), .val (.ref nt), .val (.int (0 : Int32)), .val (.ref hs), .val (.int n), .val (.int (1 : Int32))] rfl rfl ?_
    refine o_iload X_1195 K at_151 153 rfl rfl ?_
    refine o_if_eq_f X_1195 K at_153 156 rfl (by decide) ?_
    rcases Classical.em (((own_hash [(y0.toInt8.toInt32), (y1.toInt8.toInt32)] (2 : Int32)) &&& (1023 : Int32)).toInt.toNat = ((own_hash [(y0.toInt8.toInt32)] (1 : Int32)) &&& (1023 : Int32)).toInt.toNat) with hcol | hcol
    · skip
      have hnx := own_next (own_hash [(y0.toInt8.toInt32), (y1.toInt8.toInt32)] (2 : Int32))
      refine o_aload X_1195 K at_156 158 rfl rfl rfl ?_
      refine o_aload X_1195 K at_158 160 rfl rfl rfl ?_
      refine o_invokevirtual X_1195 K at_160 163 rfl (w_61 hw) (w_62 hw) (w_64 hw) (w_63 hw) (w_46 hw) (w_65 hw) (by decide) f_1183 [(.ref s2)] [] rfl  (c_nSC_pp l Z a0 hw n0 nt s2 t2 u8 ba sa la (y0.toInt8.toInt32) (y1.toInt8.toInt32) zcs ((0 : Int32) + ((1 : Int32) - (0 : Int32))) ((0 : Int32) + (1 : Int32)) _ _ (own_put (2 * ((own_hash [(y0.toInt8.toInt32)] (1 : Int32)) &&& (1023 : Int32)).toInt.toNat) (2 * ((own_hash [(y0.toInt8.toInt32)] (1 : Int32)) &&& (1023 : Int32)).toInt.toNat + 1) (((own_hash [(y0.toInt8.toInt32)] (1 : Int32)).toInt64 <<< ((32 : Int32) &&& 0x3f).toInt64) ||| (((0 : Int32) + (1 : Int32)).toInt64)) (own_key [(y0.toInt8.toInt32)] (1 : Int32)) (fun _ => 0)) pw (((own_hash [(y0.toInt8.toInt32)] (1 : Int32)).toInt64 <<< ((32 : Int32) &&& 0x3f).toInt64) ||| (((0 : Int32) + (1 : Int32)).toInt64)) (own_key [(y0.toInt8.toInt32)] (1 : Int32)) h_1168 Z_1168 f_1169 (hcs) f_1170 f_1171 f_1177 f_1179 f_1180 f_1181 f_1182 (g0) (o_nb _) (g1) (o_nb _) f_1183 f_1188 f_1189 f_1190 f_1191 f_1192 f_1193 f_1194 g_nt f_1184 gg_1010_ba f_1185 gg_1010_sa f_1186 gg_1010_la ne_nt_ba ne_nt_sa p_1010_n1 (Ne.symm ne_nt_la) (Ne.symm p_1010_n2) (Ne.symm p_1010_n3) ne_s2_nt ne_s2_ba ne_s2_sa ne_s2_la ne_t2_nt ne_t2_ba ne_t2_sa ne_t2_la (by decide) (by decide) (by rw [hcol]; exact own_putb) (own_i0 _) (by rw [hcol]; exact own_puta own_n3) (own_k12 _ _ _) (own_puto (own_n1 (fun q_ => hnx (q_.trans hcol.symm))) own_n2)) e_1195 rfl (lenOf pd__Ljava_lang_String__I rfl) (by decide) 0 (Nat.le_of_eq rfl) (by decide) (by decide) (by decide) N_1195 ?_
      rintro _ T_1196 h_1196 locs_1196 X_1196 e_1196 ⟨rfl, k_1196, p_1196f0, p_1196f1, p_1196f2, p_1196f3, p_1196f4, p_1196f5, p_1196f6, p_1196f7, p_1196f8, p_1196f9, p_1196f10⟩ N_1196
      have Z_1196 : n0 ≤ h_1196.size := Nat.le_trans Z_1168 k_1196.1
      have f_1197 := o_sta_keep f_1169 k_1196 (o_plainS f_1183 (o_plainR f_1184 (o_plainR f_1185 (o_plainR f_1186 (o_plain0)))))
      have f_1198 := o_sta_keep f_1170 k_1196 (o_plainS f_1183 (o_plainR f_1184 (o_plainR f_1185 (o_plainR f_1186 (o_plain0)))))
      have f_1199 := o_sta_keep f_1171 k_1196 (o_plainS f_1183 (o_plainR f_1184 (o_plainR f_1185 (o_plainR f_1186 (o_plain0)))))
      have f_1200 := Exa.keep f_1172 k_1196
      have f_1201 := Fld.keep f_1173 k_1196 (ninS ne_s1_nt (ninS ne_s1_ba (ninS ne_s1_sa (ninS ne_s1_la (nin0)))))
      have f_1202 := Fld.keep f_1174 k_1196 (ninS ne_s1_nt (ninS ne_s1_ba (ninS ne_s1_sa (ninS ne_s1_la (nin0)))))
      have f_1203 := f_1175.keep k_1196 (ninS ne_t1_nt (ninS ne_t1_ba (ninS ne_t1_sa (ninS ne_t1_la (nin0)))))
      have f_1204 := Exa.keep f_1176 k_1196
      have f_1205 := Exa.keep f_1177 k_1196
      have f_1206 := f_1178.keep k_1196 (ninS ne_ca_nt (ninS ne_ca_ba (ninS ne_ca_sa (ninS ne_ca_la (nin0)))))
      have f_1207 := Fld.keep f_1179 k_1196 (ninS ne_s2_nt (ninS ne_s2_ba (ninS ne_s2_sa (ninS ne_s2_la (nin0)))))
      have f_1208 := Fld.keep f_1180 k_1196 (ninS ne_s2_nt (ninS ne_s2_ba (ninS ne_s2_sa (ninS ne_s2_la (nin0)))))
      have f_1209 := f_1181.keep k_1196 (ninS ne_t2_nt (ninS ne_t2_ba (ninS ne_t2_sa (ninS ne_t2_la (nin0)))))
      have f_1210 := Exa.keep f_1182 k_1196
      have f_1211 := Exa.keep f_1183 k_1196
      have f_1212 := f_1187.keep k_1196 (ninS (Ne.symm ne_nt_hs) (ninS (Ne.symm ne_ba_hs) (ninS (Ne.symm ne_sa_hs) (ninS (Ne.symm ne_la_hs) (nin0)))))
      show OGo p e below _ n0 _ (T_1196.setTop (mkF m 163 #[.val (.int p0), .val (.int p1), .val (.int p2), .val (.int p3), .val (.int p4), .val (.int p5), .val (.int y0), .val (.int y1), .val (.ref s1), .val (.ref s2), .val (.ref nt), .val (.int (0 : Int32)), .val (.ref hs), .val (.int n), .val (.int (1 : Int32))] [(.int ((0 : Int32) + (1 : Int32)))]))
      refine o_iconst X_1196 K (1 : Int32) at_163 164 rfl rfl ?_
      refine o_icmp_ne_f X_1196 K at_164 167 rfl (by decide) ?_
      refine o_aload X_1196 K at_167 169 rfl rfl rfl ?_
      refine o_invokevirtual X_1196 K at_169 172 rfl (w_140 hw) (w_141 hw) (w_143 hw) (w_142 hw) (w_46 hw) (w_144 hw) (by decide) p_1196f0 [] [] rfl  (c_count l Z a0 hw n0 nt (((0 : Int32) + (1 : Int32)) + (1 : Int32)) h_1196 Z_1196 p_1196f5) e_1196 rfl (lenOf pd___I rfl) (by decide) 0 (Nat.le_of_eq rfl) (by decide) (by decide) (by decide) N_1196 ?_
      rintro _ T_1213 h_1213 locs_1213 X_1213 q_1213 ⟨rfl, r_1213⟩ N_1213
      have e_1213 := q_1213.trans r_1213
      show OGo p e below _ n0 _ (T_1213.setTop (mkF m 172 #[.val (.int p0), .val (.int p1), .val (.int p2), .val (.int p3), .val (.int p4), .val (.int p5), .val (.int y0), .val (.int y1), .val (.ref s1), .val (.ref s2), .val (.ref nt), .val (.int (0 : Int32)), .val (.ref hs), .val (.int n), .val (.int (1 : Int32))] [(.int (((0 : Int32) + (1 : Int32)) + (1 : Int32)))]))
      refine o_iconst X_1213 K (2 : Int32) at_172 173 rfl rfl ?_
      refine o_icmp_ne_f X_1213 K at_173 176 rfl (by decide) ?_
      refine o_iconst X_1213 K (1 : Int32) at_176 177 rfl rfl ?_
      refine o_goto X_1213 K at_177 181 (by decide) (by decide) ?_
      refine o_istore X_1213 K at_181 183 rfl #[.val (.int p0), .val (.int p1), .val (.int p2), .val (.int p3), .val (.int p4), .val (.int p5), .val (.int y0), .val (.int y1), .val (.ref s1), .val (.ref s2), .val (.ref nt), .val (.int (0 : Int32)), .val (.ref hs), .val (.int n), .val (.int (1 : Int32))] rfl rfl ?_
      refine o_iload X_1213 K at_183 185 rfl rfl ?_
      refine o_ireturnN X_1213 K (by decide) at_185 (by decide) (by decide) N_1213 ?_
      exact rfl
    · skip
      refine o_aload X_1195 K at_156 158 rfl rfl rfl ?_
      refine o_aload X_1195 K at_158 160 rfl rfl rfl ?_
      refine o_invokevirtual X_1195 K at_160 163 rfl (w_61 hw) (w_62 hw) (w_64 hw) (w_63 hw) (w_46 hw) (w_65 hw) (by decide) f_1183 [(.ref s2)] [] rfl  (c_nSI_pp l Z a0 hw n0 nt s2 t2 u8 ba sa la (y0.toInt8.toInt32) (y1.toInt8.toInt32) zcs ((0 : Int32) + ((1 : Int32) - (0 : Int32))) ((0 : Int32) + (1 : Int32)) _ _ (own_put (2 * ((own_hash [(y0.toInt8.toInt32)] (1 : Int32)) &&& (1023 : Int32)).toInt.toNat) (2 * ((own_hash [(y0.toInt8.toInt32)] (1 : Int32)) &&& (1023 : Int32)).toInt.toNat + 1) (((own_hash [(y0.toInt8.toInt32)] (1 : Int32)).toInt64 <<< ((32 : Int32) &&& 0x3f).toInt64) ||| (((0 : Int32) + (1 : Int32)).toInt64)) (own_key [(y0.toInt8.toInt32)] (1 : Int32)) (fun _ => 0)) pw h_1168 Z_1168 f_1169 (hcs) f_1170 f_1171 f_1177 f_1179 f_1180 f_1181 f_1182 (g0) (o_nb _) (g1) (o_nb _) f_1183 f_1188 f_1189 f_1190 f_1191 f_1192 f_1193 f_1194 g_nt f_1184 gg_1010_ba f_1185 gg_1010_sa f_1186 gg_1010_la ne_nt_ba ne_nt_sa p_1010_n1 (Ne.symm ne_nt_la) (Ne.symm p_1010_n2) (Ne.symm p_1010_n3) ne_s2_nt ne_s2_ba ne_s2_sa ne_s2_la ne_t2_nt ne_t2_ba ne_t2_sa ne_t2_la (by decide) (by decide) (own_puto (own_n1 hcol) own_n2)) e_1195 rfl (lenOf pd__Ljava_lang_String__I rfl) (by decide) 0 (Nat.le_of_eq rfl) (by decide) (by decide) (by decide) N_1195 ?_
      rintro _ T_1214 h_1214 locs_1214 X_1214 e_1214 ⟨rfl, k_1214, p_1214f0, p_1214f1, p_1214f2, p_1214f3, p_1214f4, p_1214f5, p_1214f6, p_1214f7, p_1214f8, p_1214f9, p_1214f10⟩ N_1214
      have Z_1214 : n0 ≤ h_1214.size := Nat.le_trans Z_1168 k_1214.1
      have f_1215 := o_sta_keep f_1169 k_1214 (o_plainS f_1183 (o_plainR f_1184 (o_plainR f_1185 (o_plainR f_1186 (o_plain0)))))
      have f_1216 := o_sta_keep f_1170 k_1214 (o_plainS f_1183 (o_plainR f_1184 (o_plainR f_1185 (o_plainR f_1186 (o_plain0)))))
      have f_1217 := o_sta_keep f_1171 k_1214 (o_plainS f_1183 (o_plainR f_1184 (o_plainR f_1185 (o_plainR f_1186 (o_plain0)))))
      have f_1218 := Exa.keep f_1172 k_1214
      have f_1219 := Fld.keep f_1173 k_1214 (ninS ne_s1_nt (ninS ne_s1_ba (ninS ne_s1_sa (ninS ne_s1_la (nin0)))))
      have f_1220 := Fld.keep f_1174 k_1214 (ninS ne_s1_nt (ninS ne_s1_ba (ninS ne_s1_sa (ninS ne_s1_la (nin0)))))
      have f_1221 := f_1175.keep k_1214 (ninS ne_t1_nt (ninS ne_t1_ba (ninS ne_t1_sa (ninS ne_t1_la (nin0)))))
      have f_1222 := Exa.keep f_1176 k_1214
      have f_1223 := Exa.keep f_1177 k_1214
      have f_1224 := f_1178.keep k_1214 (ninS ne_ca_nt (ninS ne_ca_ba (ninS ne_ca_sa (ninS ne_ca_la (nin0)))))
      have f_1225 := Fld.keep f_1179 k_1214 (ninS ne_s2_nt (ninS ne_s2_ba (ninS ne_s2_sa (ninS ne_s2_la (nin0)))))
      have f_1226 := Fld.keep f_1180 k_1214 (ninS ne_s2_nt (ninS ne_s2_ba (ninS ne_s2_sa (ninS ne_s2_la (nin0)))))
      have f_1227 := f_1181.keep k_1214 (ninS ne_t2_nt (ninS ne_t2_ba (ninS ne_t2_sa (ninS ne_t2_la (nin0)))))
      have f_1228 := Exa.keep f_1182 k_1214
      have f_1229 := Exa.keep f_1183 k_1214
      have f_1230 := f_1187.keep k_1214 (ninS (Ne.symm ne_nt_hs) (ninS (Ne.symm ne_ba_hs) (ninS (Ne.symm ne_sa_hs) (ninS (Ne.symm ne_la_hs) (nin0)))))
      show OGo p e below _ n0 _ (T_1214.setTop (mkF m 163 #[.val (.int p0), .val (.int p1), .val (.int p2), .val (.int p3), .val (.int p4), .val (.int p5), .val (.int y0), .val (.int y1), .val (.ref s1), .val (.ref s2), .val (.ref nt), .val (.int (0 : Int32)), .val (.ref hs), .val (.int n), .val (.int (1 : Int32))] [(.int ((0 : Int32) + (1 : Int32)))]))
      refine o_iconst X_1214 K (1 : Int32) at_163 164 rfl rfl ?_
      refine o_icmp_ne_f X_1214 K at_164 167 rfl (by decide) ?_
      refine o_aload X_1214 K at_167 169 rfl rfl rfl ?_
      refine o_invokevirtual X_1214 K at_169 172 rfl (w_140 hw) (w_141 hw) (w_143 hw) (w_142 hw) (w_46 hw) (w_144 hw) (by decide) p_1214f0 [] [] rfl  (c_count l Z a0 hw n0 nt (((0 : Int32) + (1 : Int32)) + (1 : Int32)) h_1214 Z_1214 p_1214f5) e_1214 rfl (lenOf pd___I rfl) (by decide) 0 (Nat.le_of_eq rfl) (by decide) (by decide) (by decide) N_1214 ?_
      rintro _ T_1231 h_1231 locs_1231 X_1231 q_1231 ⟨rfl, r_1231⟩ N_1231
      have e_1231 := q_1231.trans r_1231
      show OGo p e below _ n0 _ (T_1231.setTop (mkF m 172 #[.val (.int p0), .val (.int p1), .val (.int p2), .val (.int p3), .val (.int p4), .val (.int p5), .val (.int y0), .val (.int y1), .val (.ref s1), .val (.ref s2), .val (.ref nt), .val (.int (0 : Int32)), .val (.ref hs), .val (.int n), .val (.int (1 : Int32))] [(.int (((0 : Int32) + (1 : Int32)) + (1 : Int32)))]))
      refine o_iconst X_1231 K (2 : Int32) at_172 173 rfl rfl ?_
      refine o_icmp_ne_f X_1231 K at_173 176 rfl (by decide) ?_
      refine o_iconst X_1231 K (1 : Int32) at_176 177 rfl rfl ?_
      refine o_goto X_1231 K at_177 181 (by decide) (by decide) ?_
      refine o_istore X_1231 K at_181 183 rfl #[.val (.int p0), .val (.int p1), .val (.int p2), .val (.int p3), .val (.int p4), .val (.int p5), .val (.int y0), .val (.int y1), .val (.ref s1), .val (.ref s2), .val (.ref nt), .val (.int (0 : Int32)), .val (.ref hs), .val (.int n), .val (.int (1 : Int32))] rfl rfl ?_
      refine o_iload X_1231 K at_183 185 rfl rfl ?_
      refine o_ireturnN X_1231 K (by decide) at_185 (by decide) (by decide) N_1231 ?_
      exact rfl
  · skip
    refine o_iload X0 K at_16 18 rfl rfl ?_
    refine o_invokestatic X0 K at_18 21 rfl (w_0 hw) (w_1 hw) (w_2 hw) (w_3 hw) (by decide) [(.int y0)] [] rfl  (c_sval l Z a0 hw n0 y0 zcs h0 Z0 S_COMPACT_STRINGS (hcs) (hy0)) e0 rfl (lenOf pd__C_Ljava_lang_String_ rfl) (by decide) 0 (Nat.le_of_eq rfl) (by decide) (by decide) (by decide) N0 ?_
    rintro _ T_1232 h_1232 locs_1232 X_1232 e_1232 ⟨s1, t1, rfl, k_1232, gg_1232_sx, sz_1232_sx, gg_1232_tb, sz_1232_tb, p_1232f0, p_1232f1, p_1232f2, p_1232f3, p_1232f4⟩ N_1232
    have Z_1232 : n0 ≤ h_1232.size := Nat.le_trans Z0 k_1232.1
    have f_1233 := o_sta_keep S_COMPACT_STRINGS k_1232 (o_plain0)
    have f_1234 := o_sta_keep S_INSTANCE k_1232 (o_plain0)
    have f_1235 := o_sta_keep S_UTF_8 k_1232 (o_plain0)
    show OGo p e below _ n0 _ (T_1232.setTop (mkF m 21 #[.val (.int p0), .val (.int p1), .val (.int p2), .val (.int p3), .val (.int p4), .val (.int p5), .val (.int y0), .val (.int y1), .unset, .unset, .unset, .unset, .unset, .unset, .unset] [(.ref s1)]))
    refine o_astore X_1232 K at_21 23 rfl #[.val (.int p0), .val (.int p1), .val (.int p2), .val (.int p3), .val (.int p4), .val (.int p5), .val (.int y0), .val (.int y1), .val (.ref s1), .unset, .unset, .unset, .unset, .unset, .unset] rfl rfl ?_
    refine o_new X_1232 K at_23 26 rfl (w_26 hw) (w_10 hw) (w_2 hw) e_1232 (by decide) (by decide) ?_
    intro T_1236 h_1236 s2 g_1236 X_1236 e_1236 E_1236 B_1236 D_1236
    have Z_1236 : n0 ≤ h_1236.size := Nat.le_trans Z_1232 E_1236.1
    have f_1237 := Sta.ext E_1236 f_1233
    have f_1238 := Sta.ext E_1236 f_1234
    have f_1239 := Sta.ext E_1236 f_1235
    have f_1240 := Exa.ext E_1236 p_1232f0
    have f_1241 := Fld.ext E_1236 p_1232f1
    have f_1242 := Fld.ext E_1236 p_1232f2
    have f_1243 := p_1232f3.ext E_1236
    have f_1244 := Exa.ext E_1236 p_1232f4
    have g_s2 : n0 ≤ s2 := by rw [g_1236]; exact Z_1232
    have ne_s1_s2 : s1 ≠ s2 := by rw [g_1236]; exact Nat.ne_of_lt p_1232f0.lt
    have ne_t1_s2 : t1 ≠ s2 := by rw [g_1236]; exact Nat.ne_of_lt p_1232f3.lt
    have F_value__1236 : Fld Z h_1236 s2 "java/lang/String" "value" "[B" .null := D_1236 (Or.inr (w_23 hw)) (ty := (.array .byte)) (by decide)
    have F_coder__1236 : Fld Z h_1236 s2 "java/lang/String" "coder" "B" (.int (0 : Int32)) := D_1236 (Or.inr (w_25 hw)) (ty := .byte) (by decide)
    refine o_dup X_1236 K at_26 27 rfl rfl ?_
    refine o_iconst X_1236 K (2 : Int32) at_27 28 rfl rfl ?_
    refine o_newarray X_1236 K (n := 2) at_28 30 rfl (w_27 hw) e_1236 (by decide) 2 (by decide) (by decide) (by decide) (by decide) rfl ?_
    intro T_1245 h_1245 ca g_1245 X_1245 e_1245 E_1245 A_1245
    dsimp only [newarray.typeOf, defaultValue] at A_1245
    have Z_1245 : n0 ≤ h_1245.size := Nat.le_trans Z_1236 E_1245.1
    have f_1246 := Sta.ext E_1245 f_1237
    have f_1247 := Sta.ext E_1245 f_1238
    have f_1248 := Sta.ext E_1245 f_1239
    have f_1249 := Exa.ext E_1245 f_1240
    have f_1250 := Fld.ext E_1245 f_1241
    have f_1251 := Fld.ext E_1245 f_1242
    have f_1252 := f_1243.ext E_1245
    have f_1253 := Exa.ext E_1245 f_1244
    have f_1254 := Exa.ext E_1245 B_1236
    have f_1255 := Fld.ext E_1245 F_value__1236
    have f_1256 := Fld.ext E_1245 F_coder__1236
    have g_ca : n0 ≤ ca := by rw [g_1245]; exact Z_1236
    have ne_s1_ca : s1 ≠ ca := by rw [g_1245]; exact Nat.ne_of_lt f_1240.lt
    have ne_t1_ca : t1 ≠ ca := by rw [g_1245]; exact Nat.ne_of_lt f_1243.lt
    have ne_s2_ca : s2 ≠ ca := by rw [g_1245]; exact Nat.ne_of_lt B_1236.lt
    refine o_dup X_1245 K at_30 31 rfl rfl ?_
    refine o_iconst X_1245 K (0 : Int32) at_31 32 rfl rfl ?_
    refine o_iload X_1245 K at_32 34 rfl rfl ?_
    refine o_castore X_1245 K (i := 0) (x' := y0) at_34 35 rfl e_1245 A_1245 (by decide) (by decide) (hn0) N_1232 g_ca ?_
    intro T_1257 h_1257 locs_1257 X_1257 e_1257 W_1257 A_1257 N_1257
    have Z_1257 : n0 ≤ h_1257.size := by rw [Wr.size W_1257]; exact Z_1245
    have f_1258 := Sta.wr W_1257 f_1246
    have f_1259 := Sta.wr W_1257 f_1247
    have f_1260 := Sta.wr W_1257 f_1248
    have f_1261 := Exa.wr W_1257 f_1249
    have f_1262 := Fld.other W_1257 f_1250 (Or.inl ne_s1_ca)
    have f_1263 := Fld.other W_1257 f_1251 (Or.inl ne_s1_ca)
    have f_1264 := f_1252.other W_1257 ne_t1_ca
    have f_1265 := Exa.wr W_1257 f_1253
    have f_1266 := Exa.wr W_1257 f_1254
    have f_1267 := Fld.other W_1257 f_1255 (Or.inl ne_s2_ca)
    have f_1268 := Fld.other W_1257 f_1256 (Or.inl ne_s2_ca)
    refine o_dup X_1257 K at_35 36 rfl rfl ?_
    refine o_iconst X_1257 K (1 : Int32) at_36 37 rfl rfl ?_
    refine o_iload X_1257 K at_37 39 rfl rfl ?_
    refine o_castore X_1257 K (i := 1) (x' := y1) at_39 40 rfl e_1257 A_1257 (by decide) (by decide) (hn1) N_1257 g_ca ?_
    intro T_1269 h_1269 locs_1269 X_1269 e_1269 W_1269 A_1269 N_1269
    have Z_1269 : n0 ≤ h_1269.size := by rw [Wr.size W_1269]; exact Z_1257
    have f_1270 := Sta.wr W_1269 f_1258
    have f_1271 := Sta.wr W_1269 f_1259
    have f_1272 := Sta.wr W_1269 f_1260
    have f_1273 := Exa.wr W_1269 f_1261
    have f_1274 := Fld.other W_1269 f_1262 (Or.inl ne_s1_ca)
    have f_1275 := Fld.other W_1269 f_1263 (Or.inl ne_s1_ca)
    have f_1276 := f_1264.other W_1269 ne_t1_ca
    have f_1277 := Exa.wr W_1269 f_1265
    have f_1278 := Exa.wr W_1269 f_1266
    have f_1279 := Fld.other W_1269 f_1267 (Or.inl ne_s2_ca)
    have f_1280 := Fld.other W_1269 f_1268 (Or.inl ne_s2_ca)
    have AB_1281 := OAr.congr A_1269 (g := own_B [y0, y1]) (fun j hj => by rcases (by omega : j = 0 ∨ j = 1) with rfl | rfl <;> rfl)
    refine o_invokespecial X_1269 K at_40 43 rfl rfl (w_28 hw) (w_29 hw) (w_2 hw) (w_30 hw) (by decide) [(.ref ca)] [(.ref s2)] rfl  (c_new6 l Z a0 hw n0 s2 ca y0 y1 zcs h_1269 Z_1269 f_1270 (hcs) f_1278 f_1279 f_1280 g_s2 AB_1281 ne_s2_ca (hy0) (hy1)) e_1269 rfl (lenOf pd___C_V rfl) (by decide) 1 (Nat.le_of_eq rfl) (by decide) (by decide) (by decide) N_1269 ?_
    rintro _ T_1282 h_1282 locs_1282 X_1282 e_1282 ⟨t2, rfl, k_1282, gg_1282_bb, sz_1282_bb, p_1282f0, p_1282f1, p_1282f2, p_1282f3, p_1282f4⟩ N_1282
    have Z_1282 : n0 ≤ h_1282.size := Nat.le_trans Z_1269 k_1282.1
    have f_1283 := o_sta_keep f_1270 k_1282 (o_plainS f_1278 (o_plain0))
    have f_1284 := o_sta_keep f_1271 k_1282 (o_plainS f_1278 (o_plain0))
    have f_1285 := o_sta_keep f_1272 k_1282 (o_plainS f_1278 (o_plain0))
    have f_1286 := Exa.keep f_1273 k_1282
    have f_1287 := Fld.keep f_1274 k_1282 (ninS ne_s1_s2 (nin0))
    have f_1288 := Fld.keep f_1275 k_1282 (ninS ne_s1_s2 (nin0))
    have f_1289 := f_1276.keep k_1282 (ninS ne_t1_s2 (nin0))
    have f_1290 := Exa.keep f_1277 k_1282
    have f_1291 := Exa.keep f_1278 k_1282
    have f_1292 := AB_1281.keep k_1282 (ninS (Ne.symm ne_s2_ca) (nin0))
    have ne_s1_t2 : s1 ≠ t2 := Nat.ne_of_lt (Nat.lt_of_lt_of_le f_1273.lt sz_1282_bb)
    have ne_t1_t2 : t1 ≠ t2 := Nat.ne_of_lt (Nat.lt_of_lt_of_le f_1276.lt sz_1282_bb)
    have ne_s2_t2 : s2 ≠ t2 := Nat.ne_of_lt (Nat.lt_of_lt_of_le f_1278.lt sz_1282_bb)
    have ne_ca_t2 : ca ≠ t2 := Nat.ne_of_lt (Nat.lt_of_lt_of_le AB_1281.lt sz_1282_bb)
    show OGo p e below _ n0 _ (T_1282.setTop (mkF m 43 #[.val (.int p0), .val (.int p1), .val (.int p2), .val (.int p3), .val (.int p4), .val (.int p5), .val (.int y0), .val (.int y1), .val (.ref s1), .unset, .unset, .unset, .unset, .unset, .unset] [(.ref s2)]))
    refine o_astore X_1282 K at_43 45 rfl #[.val (.int p0), .val (.int p1), .val (.int p2), .val (.int p3), .val (.int p4), .val (.int p5), .val (.int y0), .val (.int y1), .val (.ref s1), .val (.ref s2), .unset, .unset, .unset, .unset, .unset] rfl rfl ?_
    refine o_new X_1282 K at_45 48 rfl (w_44 hw) (w_45 hw) (w_46 hw) e_1282 (by decide) (by decide) ?_
    intro T_1293 h_1293 nt g_1293 X_1293 e_1293 E_1293 B_1293 D_1293
    have Z_1293 : n0 ≤ h_1293.size := Nat.le_trans Z_1282 E_1293.1
    have f_1294 := Sta.ext E_1293 f_1283
    have f_1295 := Sta.ext E_1293 f_1284
    have f_1296 := Sta.ext E_1293 f_1285
    have f_1297 := Exa.ext E_1293 f_1286
    have f_1298 := Fld.ext E_1293 f_1287
    have f_1299 := Fld.ext E_1293 f_1288
    have f_1300 := f_1289.ext E_1293
    have f_1301 := Exa.ext E_1293 f_1290
    have f_1302 := Exa.ext E_1293 p_1282f0
    have f_1303 := f_1292.ext E_1293
    have f_1304 := Fld.ext E_1293 p_1282f1
    have f_1305 := Fld.ext E_1293 p_1282f2
    have f_1306 := p_1282f3.ext E_1293
    have f_1307 := Exa.ext E_1293 p_1282f4
    have g_nt : n0 ≤ nt := by rw [g_1293]; exact Z_1282
    have ne_s1_nt : s1 ≠ nt := by rw [g_1293]; exact Nat.ne_of_lt f_1286.lt
    have ne_t1_nt : t1 ≠ nt := by rw [g_1293]; exact Nat.ne_of_lt f_1289.lt
    have ne_s2_nt : s2 ≠ nt := by rw [g_1293]; exact Nat.ne_of_lt p_1282f0.lt
    have ne_ca_nt : ca ≠ nt := by rw [g_1293]; exact Nat.ne_of_lt f_1292.lt
    have ne_t2_nt : t2 ≠ nt := by rw [g_1293]; exact Nat.ne_of_lt p_1282f3.lt
    have F_bytes__1293 : Fld Z h_1293 nt "com/example/vikt/vikt/graph/NameTable" "bytes" "[B" .null := D_1293 (Or.inl (w_52 hw)) (ty := (.array .byte)) (by decide)
    have F_starts__1293 : Fld Z h_1293 nt "com/example/vikt/vikt/graph/NameTable" "starts" "[I" .null := D_1293 (Or.inl (w_55 hw)) (ty := (.array .int)) (by decide)
    have F_slots__1293 : Fld Z h_1293 nt "com/example/vikt/vikt/graph/NameTable" "slots" "[J" .null := D_1293 (Or.inl (w_58 hw)) (ty := (.array .long)) (by decide)
    have F_mask__1293 : Fld Z h_1293 nt "com/example/vikt/vikt/graph/NameTable" "mask" "I" (.int (0 : Int32)) := D_1293 (Or.inl (w_60 hw)) (ty := .int) (by decide)
    have F_used__1293 : Fld Z h_1293 nt "com/example/vikt/vikt/graph/NameTable" "used" "I" (.int (0 : Int32)) := D_1293 (Or.inl (w_125 hw)) (ty := .int) (by decide)
    have F_count__1293 : Fld Z h_1293 nt "com/example/vikt/vikt/graph/NameTable" "count" "I" (.int (0 : Int32)) := D_1293 (Or.inl (w_127 hw)) (ty := .int) (by decide)
    have F_prefetched__1293 : Fld Z h_1293 nt "com/example/vikt/vikt/graph/NameTable" "prefetched" "J" (.long (0 : Int64)) := D_1293 (Or.inl (w_139 hw)) (ty := .long) (by decide)
    refine o_dup X_1293 K at_48 49 rfl rfl ?_
    refine o_invokespecial X_1293 K at_49 52 rfl rfl (w_47 hw) (w_48 hw) (w_46 hw) (w_49 hw) (by decide) [] [(.ref nt)] rfl  (c_ninit l Z a0 hw n0 nt h_1293 Z_1293 B_1293 F_bytes__1293 F_starts__1293 F_slots__1293 F_mask__1293 F_count__1293 F_used__1293 F_prefetched__1293 g_nt) e_1293 rfl (lenOf pd___V rfl) (by decide) 1 (Nat.le_of_eq rfl) (by decide) (by decide) (by decide) N_1282 ?_
    rintro _ T_1308 h_1308 locs_1308 X_1308 e_1308 ⟨ba, sa, la, rfl, k_1308, gg_1308_ba, sz_1308_ba, gg_1308_sa, sz_1308_sa, gg_1308_la, sz_1308_la, p_1308f0, p_1308f1, p_1308f2, p_1308f3, p_1308f4, p_1308f5, p_1308f6, p_1308f7, p_1308f8, p_1308f9, p_1308f10, p_1308_n1, p_1308_n2, p_1308_n3⟩ N_1308
    have Z_1308 : n0 ≤ h_1308.size := Nat.le_trans Z_1293 k_1308.1
    have f_1309 := o_sta_keep f_1294 k_1308 (o_plainS B_1293 (o_plain0))
    have f_1310 := o_sta_keep f_1295 k_1308 (o_plainS B_1293 (o_plain0))
    have f_1311 := o_sta_keep f_1296 k_1308 (o_plainS B_1293 (o_plain0))
    have f_1312 := Exa.keep f_1297 k_1308
    have f_1313 := Fld.keep f_1298 k_1308 (ninS ne_s1_nt (nin0))
    have f_1314 := Fld.keep f_1299 k_1308 (ninS ne_s1_nt (nin0))
    have f_1315 := f_1300.keep k_1308 (ninS ne_t1_nt (nin0))
    have f_1316 := Exa.keep f_1301 k_1308
    have f_1317 := Exa.keep f_1302 k_1308
    have f_1318 := f_1303.keep k_1308 (ninS ne_ca_nt (nin0))
    have f_1319 := Fld.keep f_1304 k_1308 (ninS ne_s2_nt (nin0))
    have f_1320 := Fld.keep f_1305 k_1308 (ninS ne_s2_nt (nin0))
    have f_1321 := f_1306.keep k_1308 (ninS ne_t2_nt (nin0))
    have f_1322 := Exa.keep f_1307 k_1308
    have f_1323 := Exa.keep B_1293 k_1308
    have ne_s1_ba : s1 ≠ ba := Nat.ne_of_lt (Nat.lt_of_lt_of_le f_1297.lt sz_1308_ba)
    have ne_t1_ba : t1 ≠ ba := Nat.ne_of_lt (Nat.lt_of_lt_of_le f_1300.lt sz_1308_ba)
    have ne_s2_ba : s2 ≠ ba := Nat.ne_of_lt (Nat.lt_of_lt_of_le f_1302.lt sz_1308_ba)
    have ne_ca_ba : ca ≠ ba := Nat.ne_of_lt (Nat.lt_of_lt_of_le f_1303.lt sz_1308_ba)
    have ne_t2_ba : t2 ≠ ba := Nat.ne_of_lt (Nat.lt_of_lt_of_le f_1306.lt sz_1308_ba)
    have ne_nt_ba : nt ≠ ba := Nat.ne_of_lt (Nat.lt_of_lt_of_le B_1293.lt sz_1308_ba)
    have ne_s1_sa : s1 ≠ sa := Nat.ne_of_lt (Nat.lt_of_lt_of_le f_1297.lt sz_1308_sa)
    have ne_t1_sa : t1 ≠ sa := Nat.ne_of_lt (Nat.lt_of_lt_of_le f_1300.lt sz_1308_sa)
    have ne_s2_sa : s2 ≠ sa := Nat.ne_of_lt (Nat.lt_of_lt_of_le f_1302.lt sz_1308_sa)
    have ne_ca_sa : ca ≠ sa := Nat.ne_of_lt (Nat.lt_of_lt_of_le f_1303.lt sz_1308_sa)
    have ne_t2_sa : t2 ≠ sa := Nat.ne_of_lt (Nat.lt_of_lt_of_le f_1306.lt sz_1308_sa)
    have ne_nt_sa : nt ≠ sa := Nat.ne_of_lt (Nat.lt_of_lt_of_le B_1293.lt sz_1308_sa)
    have ne_s1_la : s1 ≠ la := Nat.ne_of_lt (Nat.lt_of_lt_of_le f_1297.lt sz_1308_la)
    have ne_t1_la : t1 ≠ la := Nat.ne_of_lt (Nat.lt_of_lt_of_le f_1300.lt sz_1308_la)
    have ne_s2_la : s2 ≠ la := Nat.ne_of_lt (Nat.lt_of_lt_of_le f_1302.lt sz_1308_la)
    have ne_ca_la : ca ≠ la := Nat.ne_of_lt (Nat.lt_of_lt_of_le f_1303.lt sz_1308_la)
    have ne_t2_la : t2 ≠ la := Nat.ne_of_lt (Nat.lt_of_lt_of_le f_1306.lt sz_1308_la)
    have ne_nt_la : nt ≠ la := Nat.ne_of_lt (Nat.lt_of_lt_of_le B_1293.lt sz_1308_la)
    show OGo p e below _ n0 _ (T_1308.setTop (mkF m 52 #[.val (.int p0), .val (.int p1), .val (.int p2), .val (.int p3), .val (.int p4), .val (.int p5), .val (.int y0), .val (.int y1), .val (.ref s1), .val (.ref s2), .unset, .unset, .unset, .unset, .unset] [(.ref nt)]))
    refine o_astore X_1308 K at_52 54 rfl #[.val (.int p0), .val (.int p1), .val (.int p2), .val (.int p3), .val (.int p4), .val (.int p5), .val (.int y0), .val (.int y1), .val (.ref s1), .val (.ref s2), .val (.ref nt), .unset, .unset, .unset, .unset] rfl rfl ?_
    refine o_aload X_1308 K at_54 56 rfl rfl rfl ?_
    refine o_aload X_1308 K at_56 58 rfl rfl rfl ?_
    refine o_invokevirtual X_1308 K at_58 61 rfl (w_61 hw) (w_62 hw) (w_64 hw) (w_63 hw) (w_46 hw) (w_65 hw) (by decide) p_1308f0 [(.ref s1)] [] rfl  (c_nSI_p l Z a0 hw n0 nt s1 t1 u8 ba sa la (y0.toInt8.toInt32) zcs (0 : Int32) (0 : Int32) _ _ (fun _ => 0) (0 : Int64) h_1308 Z_1308 f_1309 (hcs) f_1310 f_1311 f_1312 f_1313 f_1314 f_1315 f_1316 (g0) (o_nb _) p_1308f0 p_1308f1 p_1308f2 p_1308f3 p_1308f4 p_1308f5 p_1308f6 p_1308f7 g_nt p_1308f8 gg_1308_ba p_1308f9 gg_1308_sa p_1308f10 gg_1308_la ne_nt_ba ne_nt_sa p_1308_n1 (Ne.symm ne_nt_la) (Ne.symm p_1308_n2) (Ne.symm p_1308_n3) ne_s1_nt ne_s1_ba ne_s1_sa ne_s1_la ne_t1_nt ne_t1_ba ne_t1_sa ne_t1_la (by decide) (by decide) (rfl)) e_1308 rfl (lenOf pd__Ljava_lang_String__I rfl) (by decide) 0 (Nat.le_of_eq rfl) (by decide) (by decide) (by decide) N_1308 ?_
    rintro _ T_1324 h_1324 locs_1324 X_1324 e_1324 ⟨rfl, k_1324, p_1324f0, p_1324f1, p_1324f2, p_1324f3, p_1324f4, p_1324f5, p_1324f6, p_1324f7, p_1324f8, p_1324f9, p_1324f10⟩ N_1324
    have Z_1324 : n0 ≤ h_1324.size := Nat.le_trans Z_1308 k_1324.1
    have f_1325 := o_sta_keep f_1309 k_1324 (o_plainS p_1308f0 (o_plainR p_1308f8 (o_plainR p_1308f9 (o_plainR p_1308f10 (o_plain0)))))
    have f_1326 := o_sta_keep f_1310 k_1324 (o_plainS p_1308f0 (o_plainR p_1308f8 (o_plainR p_1308f9 (o_plainR p_1308f10 (o_plain0)))))
    have f_1327 := o_sta_keep f_1311 k_1324 (o_plainS p_1308f0 (o_plainR p_1308f8 (o_plainR p_1308f9 (o_plainR p_1308f10 (o_plain0)))))
    have f_1328 := Exa.keep f_1312 k_1324
    have f_1329 := Fld.keep f_1313 k_1324 (ninS ne_s1_nt (ninS ne_s1_ba (ninS ne_s1_sa (ninS ne_s1_la (nin0)))))
    have f_1330 := Fld.keep f_1314 k_1324 (ninS ne_s1_nt (ninS ne_s1_ba (ninS ne_s1_sa (ninS ne_s1_la (nin0)))))
    have f_1331 := f_1315.keep k_1324 (ninS ne_t1_nt (ninS ne_t1_ba (ninS ne_t1_sa (ninS ne_t1_la (nin0)))))
    have f_1332 := Exa.keep f_1316 k_1324
    have f_1333 := Exa.keep f_1317 k_1324
    have f_1334 := f_1318.keep k_1324 (ninS ne_ca_nt (ninS ne_ca_ba (ninS ne_ca_sa (ninS ne_ca_la (nin0)))))
    have f_1335 := Fld.keep f_1319 k_1324 (ninS ne_s2_nt (ninS ne_s2_ba (ninS ne_s2_sa (ninS ne_s2_la (nin0)))))
    have f_1336 := Fld.keep f_1320 k_1324 (ninS ne_s2_nt (ninS ne_s2_ba (ninS ne_s2_sa (ninS ne_s2_la (nin0)))))
    have f_1337 := f_1321.keep k_1324 (ninS ne_t2_nt (ninS ne_t2_ba (ninS ne_t2_sa (ninS ne_t2_la (nin0)))))
    have f_1338 := Exa.keep f_1322 k_1324
    have f_1339 := Exa.keep p_1308f0 k_1324
    show OGo p e below _ n0 _ (T_1324.setTop (mkF m 61 #[.val (.int p0), .val (.int p1), .val (.int p2), .val (.int p3), .val (.int p4), .val (.int p5), .val (.int y0), .val (.int y1), .val (.ref s1), .val (.ref s2), .val (.ref nt), .unset, .unset, .unset, .unset] [(.int (0 : Int32))]))
    refine o_istore X_1324 K at_61 63 rfl #[.val (.int p0), .val (.int p1), .val (.int p2), .val (.int p3), .val (.int p4), .val (.int p5), .val (.int y0), .val (.int y1), .val (.ref s1), .val (.ref s2), .val (.ref nt), .val (.int (0 : Int32)), .unset, .unset, .unset] rfl rfl ?_
    refine o_iconst X_1324 K (3 : Int32) at_63 64 rfl rfl ?_
    refine o_newarray X_1324 K (n := 3) at_64 66 rfl (w_53 hw) e_1324 (by decide) 3 (by decide) (by decide) (by decide) (by decide) rfl ?_
    intro T_1340 h_1340 hs g_1340 X_1340 e_1340 E_1340 A_1340
    dsimp only [newarray.typeOf, defaultValue] at A_1340
    have Z_1340 : n0 ≤ h_1340.size := Nat.le_trans Z_1324 E_1340.1
    have f_1341 := Sta.ext E_1340 f_1325
    have f_1342 := Sta.ext E_1340 f_1326
    have f_1343 := Sta.ext E_1340 f_1327
    have f_1344 := Exa.ext E_1340 f_1328
    have f_1345 := Fld.ext E_1340 f_1329
    have f_1346 := Fld.ext E_1340 f_1330
    have f_1347 := f_1331.ext E_1340
    have f_1348 := Exa.ext E_1340 f_1332
    have f_1349 := Exa.ext E_1340 f_1333
    have f_1350 := f_1334.ext E_1340
    have f_1351 := Fld.ext E_1340 f_1335
    have f_1352 := Fld.ext E_1340 f_1336
    have f_1353 := f_1337.ext E_1340
    have f_1354 := Exa.ext E_1340 f_1338
    have f_1355 := Exa.ext E_1340 p_1324f0
    have f_1356 := Fld.ext E_1340 p_1324f1
    have f_1357 := Fld.ext E_1340 p_1324f2
    have f_1358 := Fld.ext E_1340 p_1324f3
    have f_1359 := Fld.ext E_1340 p_1324f4
    have f_1360 := Fld.ext E_1340 p_1324f5
    have f_1361 := Fld.ext E_1340 p_1324f6
    have f_1362 := Fld.ext E_1340 p_1324f7
    have f_1363 := p_1324f8.ext E_1340
    have f_1364 := p_1324f9.ext E_1340
    have f_1365 := p_1324f10.ext E_1340
    have g_hs : n0 ≤ hs := by rw [g_1340]; exact Z_1324
    have ne_s1_hs : s1 ≠ hs := by rw [g_1340]; exact Nat.ne_of_lt f_1328.lt
    have ne_t1_hs : t1 ≠ hs := by rw [g_1340]; exact Nat.ne_of_lt f_1331.lt
    have ne_s2_hs : s2 ≠ hs := by rw [g_1340]; exact Nat.ne_of_lt f_1333.lt
    have ne_ca_hs : ca ≠ hs := by rw [g_1340]; exact Nat.ne_of_lt f_1334.lt
    have ne_t2_hs : t2 ≠ hs := by rw [g_1340]; exact Nat.ne_of_lt f_1337.lt
    have ne_nt_hs : nt ≠ hs := by rw [g_1340]; exact Nat.ne_of_lt p_1324f0.lt
    have ne_ba_hs : ba ≠ hs := by rw [g_1340]; exact Nat.ne_of_lt p_1324f8.lt
    have ne_sa_hs : sa ≠ hs := by rw [g_1340]; exact Nat.ne_of_lt p_1324f9.lt
    have ne_la_hs : la ≠ hs := by rw [g_1340]; exact Nat.ne_of_lt p_1324f10.lt
    refine o_dup X_1340 K at_66 67 rfl rfl ?_
    refine o_iconst X_1340 K (0 : Int32) at_67 68 rfl rfl ?_
    refine o_iloadN X_1340 K at_68 69 rfl rfl ?_
    refine o_iastore X_1340 K (i := 0) (x' := p2) at_69 70 rfl e_1340 A_1340 (by decide) (by decide) (rfl) N_1324 g_hs ?_
    intro T_1366 h_1366 locs_1366 X_1366 e_1366 W_1366 A_1366 N_1366
    have Z_1366 : n0 ≤ h_1366.size := by rw [Wr.size W_1366]; exact Z_1340
    have f_1367 := Sta.wr W_1366 f_1341
    have f_1368 := Sta.wr W_1366 f_1342
    have f_1369 := Sta.wr W_1366 f_1343
    have f_1370 := Exa.wr W_1366 f_1344
    have f_1371 := Fld.other W_1366 f_1345 (Or.inl ne_s1_hs)
    have f_1372 := Fld.other W_1366 f_1346 (Or.inl ne_s1_hs)
    have f_1373 := f_1347.other W_1366 ne_t1_hs
    have f_1374 := Exa.wr W_1366 f_1348
    have f_1375 := Exa.wr W_1366 f_1349
    have f_1376 := f_1350.other W_1366 ne_ca_hs
    have f_1377 := Fld.other W_1366 f_1351 (Or.inl ne_s2_hs)
    have f_1378 := Fld.other W_1366 f_1352 (Or.inl ne_s2_hs)
    have f_1379 := f_1353.other W_1366 ne_t2_hs
    have f_1380 := Exa.wr W_1366 f_1354
    have f_1381 := Exa.wr W_1366 f_1355
    have f_1382 := Fld.other W_1366 f_1356 (Or.inl ne_nt_hs)
    have f_1383 := Fld.other W_1366 f_1357 (Or.inl ne_nt_hs)
    have f_1384 := Fld.other W_1366 f_1358 (Or.inl ne_nt_hs)
    have f_1385 := Fld.other W_1366 f_1359 (Or.inl ne_nt_hs)
    have f_1386 := Fld.other W_1366 f_1360 (Or.inl ne_nt_hs)
    have f_1387 := Fld.other W_1366 f_1361 (Or.inl ne_nt_hs)
    have f_1388 := Fld.other W_1366 f_1362 (Or.inl ne_nt_hs)
    have f_1389 := f_1363.other W_1366 ne_ba_hs
    have f_1390 := f_1364.other W_1366 ne_sa_hs
    have f_1391 := f_1365.other W_1366 ne_la_hs
    refine o_dup X_1366 K at_70 71 rfl rfl ?_
    refine o_iconst X_1366 K (1 : Int32) at_71 72 rfl rfl ?_
    refine o_iloadN X_1366 K at_72 73 rfl rfl ?_
    refine o_iastore X_1366 K (i := 1) (x' := p3) at_73 74 rfl e_1366 A_1366 (by decide) (by decide) (rfl) N_1366 g_hs ?_
    intro T_1392 h_1392 locs_1392 X_1392 e_1392 W_1392 A_1392 N_1392
    have Z_1392 : n0 ≤ h_1392.size := by rw [Wr.size W_1392]; exact Z_1366
    have f_1393 := Sta.wr W_1392 f_1367
    have f_1394 := Sta.wr W_1392 f_1368
    have f_1395 := Sta.wr W_1392 f_1369
    have f_1396 := Exa.wr W_1392 f_1370
    have f_1397 := Fld.other W_1392 f_1371 (Or.inl ne_s1_hs)
    have f_1398 := Fld.other W_1392 f_1372 (Or.inl ne_s1_hs)
    have f_1399 := f_1373.other W_1392 ne_t1_hs
    have f_1400 := Exa.wr W_1392 f_1374
    have f_1401 := Exa.wr W_1392 f_1375
    have f_1402 := f_1376.other W_1392 ne_ca_hs
    have f_1403 := Fld.other W_1392 f_1377 (Or.inl ne_s2_hs)
    have f_1404 := Fld.other W_1392 f_1378 (Or.inl ne_s2_hs)
    have f_1405 := f_1379.other W_1392 ne_t2_hs
    have f_1406 := Exa.wr W_1392 f_1380
    have f_1407 := Exa.wr W_1392 f_1381
    have f_1408 := Fld.other W_1392 f_1382 (Or.inl ne_nt_hs)
    have f_1409 := Fld.other W_1392 f_1383 (Or.inl ne_nt_hs)
    have f_1410 := Fld.other W_1392 f_1384 (Or.inl ne_nt_hs)
    have f_1411 := Fld.other W_1392 f_1385 (Or.inl ne_nt_hs)
    have f_1412 := Fld.other W_1392 f_1386 (Or.inl ne_nt_hs)
    have f_1413 := Fld.other W_1392 f_1387 (Or.inl ne_nt_hs)
    have f_1414 := Fld.other W_1392 f_1388 (Or.inl ne_nt_hs)
    have f_1415 := f_1389.other W_1392 ne_ba_hs
    have f_1416 := f_1390.other W_1392 ne_sa_hs
    have f_1417 := f_1391.other W_1392 ne_la_hs
    refine o_dup X_1392 K at_74 75 rfl rfl ?_
    refine o_iconst X_1392 K (2 : Int32) at_75 76 rfl rfl ?_
    refine o_iload X_1392 K at_76 78 rfl rfl ?_
    refine o_iastore X_1392 K (i := 2) (x' := p4) at_78 79 rfl e_1392 A_1392 (by decide) (by decide) (rfl) N_1392 g_hs ?_
    intro T_1418 h_1418 locs_1418 X_1418 e_1418 W_1418 A_1418 N_1418
    have Z_1418 : n0 ≤ h_1418.size := by rw [Wr.size W_1418]; exact Z_1392
    have f_1419 := Sta.wr W_1418 f_1393
    have f_1420 := Sta.wr W_1418 f_1394
    have f_1421 := Sta.wr W_1418 f_1395
    have f_1422 := Exa.wr W_1418 f_1396
    have f_1423 := Fld.other W_1418 f_1397 (Or.inl ne_s1_hs)
    have f_1424 := Fld.other W_1418 f_1398 (Or.inl ne_s1_hs)
    have f_1425 := f_1399.other W_1418 ne_t1_hs
    have f_1426 := Exa.wr W_1418 f_1400
    have f_1427 := Exa.wr W_1418 f_1401
    have f_1428 := f_1402.other W_1418 ne_ca_hs
    have f_1429 := Fld.other W_1418 f_1403 (Or.inl ne_s2_hs)
    have f_1430 := Fld.other W_1418 f_1404 (Or.inl ne_s2_hs)
    have f_1431 := f_1405.other W_1418 ne_t2_hs
    have f_1432 := Exa.wr W_1418 f_1406
    have f_1433 := Exa.wr W_1418 f_1407
    have f_1434 := Fld.other W_1418 f_1408 (Or.inl ne_nt_hs)
    have f_1435 := Fld.other W_1418 f_1409 (Or.inl ne_nt_hs)
    have f_1436 := Fld.other W_1418 f_1410 (Or.inl ne_nt_hs)
    have f_1437 := Fld.other W_1418 f_1411 (Or.inl ne_nt_hs)
    have f_1438 := Fld.other W_1418 f_1412 (Or.inl ne_nt_hs)
    have f_1439 := Fld.other W_1418 f_1413 (Or.inl ne_nt_hs)
    have f_1440 := Fld.other W_1418 f_1414 (Or.inl ne_nt_hs)
    have f_1441 := f_1415.other W_1418 ne_ba_hs
    have f_1442 := f_1416.other W_1418 ne_sa_hs
    have f_1443 := f_1417.other W_1418 ne_la_hs
    have AB_1444 := OAr.congr A_1418 (g := fun j => .int ([p2, p3, p4].getD j 0)) (fun j hj => by rcases (by omega : j = 0 ∨ j = 1 ∨ j = 2) with rfl | rfl | rfl <;> rfl)
    refine o_astore X_1418 K at_79 81 rfl #[.val (.int p0), .val (.int p1), .val (.int p2), .val (.int p3), .val (.int p4), .val (.int p5), .val (.int y0), .val (.int y1), .val (.ref s1), .val (.ref s2), .val (.ref nt), .val (.int (0 : Int32)), .val (.ref hs), .unset, .unset] rfl rfl ?_
    refine o_iload X_1418 K at_81 83 rfl rfl ?_
    refine o_ldcI X_1418 K at_83 85 rfl (w_132 hw) ?_
    refine o_iand X_1418 K at_85 86 rfl ?_
    refine o_iconst X_1418 K (4 : Int32) at_86 87 rfl rfl ?_
    refine o_irem X_1418 K at_87 88 rfl (by decide) ?_
    obtain ⟨n, h_n⟩ : ∃ z_ : Int32, z_ = ((p5 &&& (2147483647 : Int32)) % (4 : Int32)) := ⟨_, rfl⟩
    refine o_istore X_1418 K at_88 90 rfl #[.val (.int p0), .val (.int p1), .val (.int p2), .val (.int p3), .val (.int p4), .val (.int p5), .val (.int y0), .val (.int y1), .val (.ref s1), .val (.ref s2), .val (.ref nt), .val (.int (0 : Int32)), .val (.ref hs), .val (.int n), .unset] h_n.symm rfl ?_
    refine o_aload X_1418 K at_90 92 rfl rfl rfl ?_
    refine o_aload X_1418 K at_92 94 rfl rfl rfl ?_
    refine o_iload X_1418 K at_94 96 rfl rfl ?_
    refine o_invokevirtual X_1418 K at_96 99 rfl (w_133 hw) (w_134 hw) (w_136 hw) (w_135 hw) (w_46 hw) (w_137 hw) (by decide) f_1433 [(.ref hs), (.int n)] [] rfl  (c_pref l Z a0 hw n0 nt hs ba sa la n ((0 : Int32) + ((1 : Int32) - (0 : Int32))) ((0 : Int32) + (1 : Int32)) (fun j => [p2, p3, p4].getD j 0) (own_put (2 * ((own_hash [(y0.toInt8.toInt32)] (1 : Int32)) &&& (1023 : Int32)).toInt.toNat) (2 * ((own_hash [(y0.toInt8.toInt32)] (1 : Int32)) &&& (1023 : Int32)).toInt.toNat + 1) (((own_hash [(y0.toInt8.toInt32)] (1 : Int32)).toInt64 <<< ((32 : Int32) &&& 0x3f).toInt64) ||| (((0 : Int32) + (1 : Int32)).toInt64)) (own_key [(y0.toInt8.toInt32)] (1 : Int32)) (fun _ => 0)) (0 : Int64) h_1418 Z_1418 f_1433 f_1434 f_1435 f_1436 f_1437 f_1438 f_1439 f_1440 g_nt AB_1444 f_1443 (by rw [h_n]; exact own_four p5) (Ne.symm ne_nt_hs) (Ne.symm ne_nt_la)) e_1418 rfl (lenOf pd___II_V rfl) (by decide) 0 (Nat.le_of_eq rfl) (by decide) (by decide) (by decide) N_1418 ?_
    rintro _ T_1445 h_1445 locs_1445 X_1445 e_1445 ⟨rfl, k_1445, p_1445f0, p_1445f1, p_1445f2, p_1445f3, p_1445f4, p_1445f5, p_1445f6, p_1445_pv⟩ N_1445
    have Z_1445 : n0 ≤ h_1445.size := Nat.le_trans Z_1418 k_1445.1
    have f_1446 := o_sta_keep f_1419 k_1445 (o_plainS f_1433 (o_plain0))
    have f_1447 := o_sta_keep f_1420 k_1445 (o_plainS f_1433 (o_plain0))
    have f_1448 := o_sta_keep f_1421 k_1445 (o_plainS f_1433 (o_plain0))
    have f_1449 := Exa.keep f_1422 k_1445
    have f_1450 := Fld.keep f_1423 k_1445 (ninS ne_s1_nt (nin0))
    have f_1451 := Fld.keep f_1424 k_1445 (ninS ne_s1_nt (nin0))
    have f_1452 := f_1425.keep k_1445 (ninS ne_t1_nt (nin0))
    have f_1453 := Exa.keep f_1426 k_1445
    have f_1454 := Exa.keep f_1427 k_1445
    have f_1455 := f_1428.keep k_1445 (ninS ne_ca_nt (nin0))
    have f_1456 := Fld.keep f_1429 k_1445 (ninS ne_s2_nt (nin0))
    have f_1457 := Fld.keep f_1430 k_1445 (ninS ne_s2_nt (nin0))
    have f_1458 := f_1431.keep k_1445 (ninS ne_t2_nt (nin0))
    have f_1459 := Exa.keep f_1432 k_1445
    have f_1460 := Exa.keep f_1433 k_1445
    have f_1461 := f_1441.keep k_1445 (ninS (Ne.symm ne_nt_ba) (nin0))
    have f_1462 := f_1442.keep k_1445 (ninS (Ne.symm ne_nt_sa) (nin0))
    have f_1463 := f_1443.keep k_1445 (ninS (Ne.symm ne_nt_la) (nin0))
    have f_1464 := AB_1444.keep k_1445 (ninS (Ne.symm ne_nt_hs) (nin0))
    obtain ⟨pw, Fpw⟩ := p_1445_pv
    show OGo p e below _ n0 _ (T_1445.setTop (mkF m 99 #[.val (.int p0), .val (.int p1), .val (.int p2), .val (.int p3), .val (.int p4), .val (.int p5), .val (.int y0), .val (.int y1), .val (.ref s1), .val (.ref s2), .val (.ref nt), .val (.int (0 : Int32)), .val (.ref hs), .val (.int n), .unset] []))
    refine o_iload X_1445 K at_99 101 rfl rfl ?_
    refine o_if_ne_f X_1445 K at_101 104 rfl (by decide) ?_
    refine o_aload X_1445 K at_104 106 rfl rfl rfl ?_
    refine o_invokevirtual X_1445 K at_106 109 rfl (w_140 hw) (w_141 hw) (w_143 hw) (w_142 hw) (w_46 hw) (w_144 hw) (by decide) p_1445f0 [] [] rfl  (c_count l Z a0 hw n0 nt ((0 : Int32) + (1 : Int32)) h_1445 Z_1445 p_1445f5) e_1445 rfl (lenOf pd___I rfl) (by decide) 0 (Nat.le_of_eq rfl) (by decide) (by decide) (by decide) N_1445 ?_
    rintro _ T_1465 h_1465 locs_1465 X_1465 q_1465 ⟨rfl, r_1465⟩ N_1465
    have e_1465 := q_1465.trans r_1465
    show OGo p e below _ n0 _ (T_1465.setTop (mkF m 109 #[.val (.int p0), .val (.int p1), .val (.int p2), .val (.int p3), .val (.int p4), .val (.int p5), .val (.int y0), .val (.int y1), .val (.ref s1), .val (.ref s2), .val (.ref nt), .val (.int (0 : Int32)), .val (.ref hs), .val (.int n), .unset] [(.int ((0 : Int32) + (1 : Int32)))]))
    refine o_iconst X_1465 K (1 : Int32) at_109 110 rfl rfl ?_
    refine o_icmp_ne_f X_1465 K at_110 113 rfl (by decide) ?_
    refine o_iconst X_1465 K (1 : Int32) at_113 114 rfl rfl ?_
    refine o_goto X_1465 K at_114 118 (by decide) (by decide) ?_
    refine o_istore X_1465 K at_118 120 rfl #[.val (.int p0), .val (.int p1), .val (.int p2), .val (.int p3), .val (.int p4), .val (.int p5), .val (.int y0), .val (.int y1), .val (.ref s1), .val (.ref s2), .val (.ref nt), .val (.int (0 : Int32)), .val (.ref hs), .val (.int n), .val (.int (1 : Int32))] rfl rfl ?_
    refine o_iload X_1465 K at_120 122 rfl rfl ?_
    refine o_if_eq_f X_1465 K at_122 125 rfl (by decide) ?_
    refine o_aload X_1465 K at_125 127 rfl rfl rfl ?_
    refine o_aload X_1465 K at_127 129 rfl rfl rfl ?_
    refine o_invokevirtual X_1465 K at_129 132 rfl (w_61 hw) (w_62 hw) (w_64 hw) (w_63 hw) (w_46 hw) (w_65 hw) (by decide) p_1445f0 [(.ref s1)] [] rfl  (c_nSH_p l Z a0 hw n0 nt s1 t1 u8 ba sa la (y0.toInt8.toInt32) zcs ((0 : Int32) + ((1 : Int32) - (0 : Int32))) ((0 : Int32) + (1 : Int32)) _ _ (own_put (2 * ((own_hash [(y0.toInt8.toInt32)] (1 : Int32)) &&& (1023 : Int32)).toInt.toNat) (2 * ((own_hash [(y0.toInt8.toInt32)] (1 : Int32)) &&& (1023 : Int32)).toInt.toNat + 1) (((own_hash [(y0.toInt8.toInt32)] (1 : Int32)).toInt64 <<< ((32 : Int32) &&& 0x3f).toInt64) ||| (((0 : Int32) + (1 : Int32)).toInt64)) (own_key [(y0.toInt8.toInt32)] (1 : Int32)) (fun _ => 0)) pw (((own_hash [(y0.toInt8.toInt32)] (1 : Int32)).toInt64 <<< ((32 : Int32) &&& 0x3f).toInt64) ||| (((0 : Int32) + (1 : Int32)).toInt64)) h_1445 Z_1445 f_1446 (hcs) f_1447 f_1448 f_1449 f_1450 f_1451 f_1452 f_1453 (g0) (o_nb _) p_1445f0 p_1445f1 p_1445f2 p_1445f3 p_1445f4 p_1445f5 p_1445f6 Fpw g_nt f_1461 gg_1308_ba f_1462 gg_1308_sa f_1463 gg_1308_la ne_nt_ba ne_nt_sa p_1308_n1 (Ne.symm ne_nt_la) (Ne.symm p_1308_n2) (Ne.symm p_1308_n3) ne_s1_nt ne_s1_ba ne_s1_sa ne_s1_la ne_t1_nt ne_t1_ba ne_t1_sa ne_t1_la (by decide) (by decide) (own_putb) (own_i0 _) (own_puta own_n3) (own_i1 _)) e_1465 rfl (lenOf pd__Ljava_lang_String__I rfl) (by decide) 0 (Nat.le_of_eq rfl) (by decide) (by decide) (by decide) N_1465 ?_
    rintro _ T_1466 h_1466 locs_1466 X_1466 e_1466 ⟨rfl, k_1466⟩ N_1466
    have Z_1466 : n0 ≤ h_1466.size := Nat.le_trans Z_1445 k_1466.1
    have f_1467 := o_sta_keep f_1446 k_1466 (o_plain0)
    have f_1468 := o_sta_keep f_1447 k_1466 (o_plain0)
    have f_1469 := o_sta_keep f_1448 k_1466 (o_plain0)
    have f_1470 := Exa.keep f_1449 k_1466
    have f_1471 := Fld.keep f_1450 k_1466 (nin0)
    have f_1472 := Fld.keep f_1451 k_1466 (nin0)
    have f_1473 := f_1452.keep k_1466 (nin0)
    have f_1474 := Exa.keep f_1453 k_1466
    have f_1475 := Exa.keep f_1454 k_1466
    have f_1476 := f_1455.keep k_1466 (nin0)
    have f_1477 := Fld.keep f_1456 k_1466 (nin0)
    have f_1478 := Fld.keep f_1457 k_1466 (nin0)
    have f_1479 := f_1458.keep k_1466 (nin0)
    have f_1480 := Exa.keep f_1459 k_1466
    have f_1481 := Exa.keep p_1445f0 k_1466
    have f_1482 := f_1461.keep k_1466 (nin0)
    have f_1483 := f_1462.keep k_1466 (nin0)
    have f_1484 := f_1463.keep k_1466 (nin0)
    have f_1485 := f_1464.keep k_1466 (nin0)
    have f_1486 := Fld.keep p_1445f1 k_1466 (nin0)
    have f_1487 := Fld.keep p_1445f2 k_1466 (nin0)
    have f_1488 := Fld.keep p_1445f3 k_1466 (nin0)
    have f_1489 := Fld.keep p_1445f4 k_1466 (nin0)
    have f_1490 := Fld.keep p_1445f5 k_1466 (nin0)
    have f_1491 := Fld.keep p_1445f6 k_1466 (nin0)
    have f_1492 := Fld.keep Fpw k_1466 (nin0)
    show OGo p e below _ n0 _ (T_1466.setTop (mkF m 132 #[.val (.int p0), .val (.int p1), .val (.int p2), .val (.int p3), .val (.int p4), .val (.int p5), .val (.int y0), .val (.int y1), .val (.ref s1), .val (.ref s2), .val (.ref nt), .val (.int (0 : Int32)), .val (.ref hs), .val (.int n), .val (.int (1 : Int32))] [(.int ((((own_hash [(y0.toInt8.toInt32)] (1 : Int32)).toInt64 <<< ((32 : Int32) &&& 0x3f).toInt64) ||| (((0 : Int32) + (1 : Int32)).toInt64)).toInt32 - (1 : Int32)))]))
    refine o_if_ne_f X_1466 K at_132 135 rfl (by rw [own_i2]; rfl) ?_
    refine o_aload X_1466 K at_135 137 rfl rfl rfl ?_
    refine o_invokevirtual X_1466 K at_137 140 rfl (w_140 hw) (w_141 hw) (w_143 hw) (w_142 hw) (w_46 hw) (w_144 hw) (by decide) f_1481 [] [] rfl  (c_count l Z a0 hw n0 nt ((0 : Int32) + (1 : Int32)) h_1466 Z_1466 f_1490) e_1466 rfl (lenOf pd___I rfl) (by decide) 0 (Nat.le_of_eq rfl) (by decide) (by decide) (by decide) N_1466 ?_
    rintro _ T_1493 h_1493 locs_1493 X_1493 q_1493 ⟨rfl, r_1493⟩ N_1493
    have e_1493 := q_1493.trans r_1493
    show OGo p e below _ n0 _ (T_1493.setTop (mkF m 140 #[.val (.int p0), .val (.int p1), .val (.int p2), .val (.int p3), .val (.int p4), .val (.int p5), .val (.int y0), .val (.int y1), .val (.ref s1), .val (.ref s2), .val (.ref nt), .val (.int (0 : Int32)), .val (.ref hs), .val (.int n), .val (.int (1 : Int32))] [(.int ((0 : Int32) + (1 : Int32)))]))
    refine o_iconst X_1493 K (1 : Int32) at_140 141 rfl rfl ?_
    refine o_icmp_ne_f X_1493 K at_141 144 rfl (by decide) ?_
    refine o_iconst X_1493 K (1 : Int32) at_144 145 rfl rfl ?_
    refine o_goto X_1493 K at_145 149 (by decide) (by decide) ?_
    refine o_istore X_1493 K at_149 151 rfl #[.val (.int p0), .val (.int p1), .val (.int p2), .val (.int p3), .val (.int p4), .val (.int p5), .val (.int y0), .val (.int y1), .val (.ref s1), .val (.ref s2), .val (.ref nt), .val (.int (0 : Int32)), .val (.ref hs), .val (.int n), .val (.int (1 : Int32))] rfl rfl ?_
    refine o_iload X_1493 K at_151 153 rfl rfl ?_
    refine o_if_eq_f X_1493 K at_153 156 rfl (by decide) ?_
    rcases Classical.em (((own_hash [(y0.toInt8.toInt32), (own_e1 (y1.toInt8.toInt32)), (own_e2 (y1.toInt8.toInt32))] (3 : Int32)) &&& (1023 : Int32)).toInt.toNat = ((own_hash [(y0.toInt8.toInt32)] (1 : Int32)) &&& (1023 : Int32)).toInt.toNat) with hcol | hcol
    · skip
      have hnx := own_next (own_hash [(y0.toInt8.toInt32), (own_e1 (y1.toInt8.toInt32)), (own_e2 (y1.toInt8.toInt32))] (3 : Int32))
      refine o_aload X_1493 K at_156 158 rfl rfl rfl ?_
      refine o_aload X_1493 K at_158 160 rfl rfl rfl ?_
      refine o_invokevirtual X_1493 K at_160 163 rfl (w_61 hw) (w_62 hw) (w_64 hw) (w_63 hw) (w_46 hw) (w_65 hw) (by decide) f_1481 [(.ref s2)] [] rfl  (c_nSC_pn l Z a0 hw n0 nt s2 t2 u8 ba sa la (y0.toInt8.toInt32) (y1.toInt8.toInt32) zcs ((0 : Int32) + ((1 : Int32) - (0 : Int32))) ((0 : Int32) + (1 : Int32)) _ _ (own_put (2 * ((own_hash [(y0.toInt8.toInt32)] (1 : Int32)) &&& (1023 : Int32)).toInt.toNat) (2 * ((own_hash [(y0.toInt8.toInt32)] (1 : Int32)) &&& (1023 : Int32)).toInt.toNat + 1) (((own_hash [(y0.toInt8.toInt32)] (1 : Int32)).toInt64 <<< ((32 : Int32) &&& 0x3f).toInt64) ||| (((0 : Int32) + (1 : Int32)).toInt64)) (own_key [(y0.toInt8.toInt32)] (1 : Int32)) (fun _ => 0)) pw (((own_hash [(y0.toInt8.toInt32)] (1 : Int32)).toInt64 <<< ((32 : Int32) &&& 0x3f).toInt64) ||| (((0 : Int32) + (1 : Int32)).toInt64)) (own_key [(y0.toInt8.toInt32)] (1 : Int32)) h_1466 Z_1466 f_1467 (hcs) f_1468 f_1469 f_1475 f_1477 f_1478 f_1479 f_1480 (g0) (o_nb _) (g1) (o_nb _) f_1481 f_1486 f_1487 f_1488 f_1489 f_1490 f_1491 f_1492 g_nt f_1482 gg_1308_ba f_1483 gg_1308_sa f_1484 gg_1308_la ne_nt_ba ne_nt_sa p_1308_n1 (Ne.symm ne_nt_la) (Ne.symm p_1308_n2) (Ne.symm p_1308_n3) ne_s2_nt ne_s2_ba ne_s2_sa ne_s2_la ne_t2_nt ne_t2_ba ne_t2_sa ne_t2_la (by decide) (by decide) (by rw [hcol]; exact own_putb) (own_i0 _) (by rw [hcol]; exact own_puta own_n3) (own_k13 _ _ _ _) (own_puto (own_n1 (fun q_ => hnx (q_.trans hcol.symm))) own_n2)) e_1493 rfl (lenOf pd__Ljava_lang_String__I rfl) (by decide) 0 (Nat.le_of_eq rfl) (by decide) (by decide) (by decide) N_1493 ?_
      rintro _ T_1494 h_1494 locs_1494 X_1494 e_1494 ⟨rfl, k_1494, p_1494f0, p_1494f1, p_1494f2, p_1494f3, p_1494f4, p_1494f5, p_1494f6, p_1494f7, p_1494f8, p_1494f9, p_1494f10⟩ N_1494
      have Z_1494 : n0 ≤ h_1494.size := Nat.le_trans Z_1466 k_1494.1
      have f_1495 := o_sta_keep f_1467 k_1494 (o_plainS f_1481 (o_plainR f_1482 (o_plainR f_1483 (o_plainR f_1484 (o_plain0)))))
      have f_1496 := o_sta_keep f_1468 k_1494 (o_plainS f_1481 (o_plainR f_1482 (o_plainR f_1483 (o_plainR f_1484 (o_plain0)))))
      have f_1497 := o_sta_keep f_1469 k_1494 (o_plainS f_1481 (o_plainR f_1482 (o_plainR f_1483 (o_plainR f_1484 (o_plain0)))))
      have f_1498 := Exa.keep f_1470 k_1494
      have f_1499 := Fld.keep f_1471 k_1494 (ninS ne_s1_nt (ninS ne_s1_ba (ninS ne_s1_sa (ninS ne_s1_la (nin0)))))
      have f_1500 := Fld.keep f_1472 k_1494 (ninS ne_s1_nt (ninS ne_s1_ba (ninS ne_s1_sa (ninS ne_s1_la (nin0)))))
      have f_1501 := f_1473.keep k_1494 (ninS ne_t1_nt (ninS ne_t1_ba (ninS ne_t1_sa (ninS ne_t1_la (nin0)))))
      have f_1502 := Exa.keep f_1474 k_1494
      have f_1503 := Exa.keep f_1475 k_1494
      have f_1504 := f_1476.keep k_1494 (ninS ne_ca_nt (ninS ne_ca_ba (ninS ne_ca_sa (ninS ne_ca_la (nin0)))))
      have f_1505 := Fld.keep f_1477 k_1494 (ninS ne_s2_nt (ninS ne_s2_ba (ninS ne_s2_sa (ninS ne_s2_la (nin0)))))
      have f_1506 := Fld.keep f_1478 k_1494 (ninS ne_s2_nt (ninS ne_s2_ba (ninS ne_s2_sa (ninS ne_s2_la (nin0)))))
      have f_1507 := f_1479.keep k_1494 (ninS ne_t2_nt (ninS ne_t2_ba (ninS ne_t2_sa (ninS ne_t2_la (nin0)))))
      have f_1508 := Exa.keep f_1480 k_1494
      have f_1509 := Exa.keep f_1481 k_1494
      have f_1510 := f_1485.keep k_1494 (ninS (Ne.symm ne_nt_hs) (ninS (Ne.symm ne_ba_hs) (ninS (Ne.symm ne_sa_hs) (ninS (Ne.symm ne_la_hs) (nin0)))))
      show OGo p e below _ n0 _ (T_1494.setTop (mkF m 163 #[.val (.int p0), .val (.int p1), .val (.int p2), .val (.int p3), .val (.int p4), .val (.int p5), .val (.int y0), .val (.int y1), .val (.ref s1), .val (.ref s2), .val (.ref nt), .val (.int (0 : Int32)), .val (.ref hs), .val (.int n), .val (.int (1 : Int32))] [(.int ((0 : Int32) + (1 : Int32)))]))
      refine o_iconst X_1494 K (1 : Int32) at_163 164 rfl rfl ?_
      refine o_icmp_ne_f X_1494 K at_164 167 rfl (by decide) ?_
      refine o_aload X_1494 K at_167 169 rfl rfl rfl ?_
      refine o_invokevirtual X_1494 K at_169 172 rfl (w_140 hw) (w_141 hw) (w_143 hw) (w_142 hw) (w_46 hw) (w_144 hw) (by decide) p_1494f0 [] [] rfl  (c_count l Z a0 hw n0 nt (((0 : Int32) + (1 : Int32)) + (1 : Int32)) h_1494 Z_1494 p_1494f5) e_1494 rfl (lenOf pd___I rfl) (by decide) 0 (Nat.le_of_eq rfl) (by decide) (by decide) (by decide) N_1494 ?_
      rintro _ T_1511 h_1511 locs_1511 X_1511 q_1511 ⟨rfl, r_1511⟩ N_1511
      have e_1511 := q_1511.trans r_1511
      show OGo p e below _ n0 _ (T_1511.setTop (mkF m 172 #[.val (.int p0), .val (.int p1), .val (.int p2), .val (.int p3), .val (.int p4), .val (.int p5), .val (.int y0), .val (.int y1), .val (.ref s1), .val (.ref s2), .val (.ref nt), .val (.int (0 : Int32)), .val (.ref hs), .val (.int n), .val (.int (1 : Int32))] [(.int (((0 : Int32) + (1 : Int32)) + (1 : Int32)))]))
      refine o_iconst X_1511 K (2 : Int32) at_172 173 rfl rfl ?_
      refine o_icmp_ne_f X_1511 K at_173 176 rfl (by decide) ?_
      refine o_iconst X_1511 K (1 : Int32) at_176 177 rfl rfl ?_
      refine o_goto X_1511 K at_177 181 (by decide) (by decide) ?_
      refine o_istore X_1511 K at_181 183 rfl #[.val (.int p0), .val (.int p1), .val (.int p2), .val (.int p3), .val (.int p4), .val (.int p5), .val (.int y0), .val (.int y1), .val (.ref s1), .val (.ref s2), .val (.ref nt), .val (.int (0 : Int32)), .val (.ref hs), .val (.int n), .val (.int (1 : Int32))] rfl rfl ?_
      refine o_iload X_1511 K at_183 185 rfl rfl ?_
      refine o_ireturnN X_1511 K (by decide) at_185 (by decide) (by decide) N_1511 ?_
      exact rfl
    · skip
      refine o_aload X_1493 K at_156 158 rfl rfl rfl ?_
      refine o_aload X_1493 K at_158 160 rfl rfl rfl ?_
      refine o_invokevirtual X_1493 K at_160 163 rfl (w_61 hw) (w_62 hw) (w_64 hw) (w_63 hw) (w_46 hw) (w_65 hw) (by decide) f_1481 [(.ref s2)] [] rfl  (c_nSI_pn l Z a0 hw n0 nt s2 t2 u8 ba sa la (y0.toInt8.toInt32) (y1.toInt8.toInt32) zcs ((0 : Int32) + ((1 : Int32) - (0 : Int32))) ((0 : Int32) + (1 : Int32)) _ _ (own_put (2 * ((own_hash [(y0.toInt8.toInt32)] (1 : Int32)) &&& (1023 : Int32)).toInt.toNat) (2 * ((own_hash [(y0.toInt8.toInt32)] (1 : Int32)) &&& (1023 : Int32)).toInt.toNat + 1) (((own_hash [(y0.toInt8.toInt32)] (1 : Int32)).toInt64 <<< ((32 : Int32) &&& 0x3f).toInt64) ||| (((0 : Int32) + (1 : Int32)).toInt64)) (own_key [(y0.toInt8.toInt32)] (1 : Int32)) (fun _ => 0)) pw h_1466 Z_1466 f_1467 (hcs) f_1468 f_1469 f_1475 f_1477 f_1478 f_1479 f_1480 (g0) (o_nb _) (g1) (o_nb _) f_1481 f_1486 f_1487 f_1488 f_1489 f_1490 f_1491 f_1492 g_nt f_1482 gg_1308_ba f_1483 gg_1308_sa f_1484 gg_1308_la ne_nt_ba ne_nt_sa p_1308_n1 (Ne.symm ne_nt_la) (Ne.symm p_1308_n2) (Ne.symm p_1308_n3) ne_s2_nt ne_s2_ba ne_s2_sa ne_s2_la ne_t2_nt ne_t2_ba ne_t2_sa ne_t2_la (by decide) (by decide) (own_puto (own_n1 hcol) own_n2)) e_1493 rfl (lenOf pd__Ljava_lang_String__I rfl) (by decide) 0 (Nat.le_of_eq rfl) (by decide) (by decide) (by decide) N_1493 ?_
      rintro _ T_1512 h_1512 locs_1512 X_1512 e_1512 ⟨rfl, k_1512, p_1512f0, p_1512f1, p_1512f2, p_1512f3, p_1512f4, p_1512f5, p_1512f6, p_1512f7, p_1512f8, p_1512f9, p_1512f10⟩ N_1512
      have Z_1512 : n0 ≤ h_1512.size := Nat.le_trans Z_1466 k_1512.1
      have f_1513 := o_sta_keep f_1467 k_1512 (o_plainS f_1481 (o_plainR f_1482 (o_plainR f_1483 (o_plainR f_1484 (o_plain0)))))
      have f_1514 := o_sta_keep f_1468 k_1512 (o_plainS f_1481 (o_plainR f_1482 (o_plainR f_1483 (o_plainR f_1484 (o_plain0)))))
      have f_1515 := o_sta_keep f_1469 k_1512 (o_plainS f_1481 (o_plainR f_1482 (o_plainR f_1483 (o_plainR f_1484 (o_plain0)))))
      have f_1516 := Exa.keep f_1470 k_1512
      have f_1517 := Fld.keep f_1471 k_1512 (ninS ne_s1_nt (ninS ne_s1_ba (ninS ne_s1_sa (ninS ne_s1_la (nin0)))))
      have f_1518 := Fld.keep f_1472 k_1512 (ninS ne_s1_nt (ninS ne_s1_ba (ninS ne_s1_sa (ninS ne_s1_la (nin0)))))
      have f_1519 := f_1473.keep k_1512 (ninS ne_t1_nt (ninS ne_t1_ba (ninS ne_t1_sa (ninS ne_t1_la (nin0)))))
      have f_1520 := Exa.keep f_1474 k_1512
      have f_1521 := Exa.keep f_1475 k_1512
      have f_1522 := f_1476.keep k_1512 (ninS ne_ca_nt (ninS ne_ca_ba (ninS ne_ca_sa (ninS ne_ca_la (nin0)))))
      have f_1523 := Fld.keep f_1477 k_1512 (ninS ne_s2_nt (ninS ne_s2_ba (ninS ne_s2_sa (ninS ne_s2_la (nin0)))))
      have f_1524 := Fld.keep f_1478 k_1512 (ninS ne_s2_nt (ninS ne_s2_ba (ninS ne_s2_sa (ninS ne_s2_la (nin0)))))
      have f_1525 := f_1479.keep k_1512 (ninS ne_t2_nt (ninS ne_t2_ba (ninS ne_t2_sa (ninS ne_t2_la (nin0)))))
      have f_1526 := Exa.keep f_1480 k_1512
      have f_1527 := Exa.keep f_1481 k_1512
      have f_1528 := f_1485.keep k_1512 (ninS (Ne.symm ne_nt_hs) (ninS (Ne.symm ne_ba_hs) (ninS (Ne.symm ne_sa_hs) (ninS (Ne.symm ne_la_hs) (nin0)))))
      show OGo p e below _ n0 _ (T_1512.setTop (mkF m 163 #[.val (.int p0), .val (.int p1), .val (.int p2), .val (.int p3), .val (.int p4), .val (.int p5), .val (.int y0), .val (.int y1), .val (.ref s1), .val (.ref s2), .val (.ref nt), .val (.int (0 : Int32)), .val (.ref hs), .val (.int n), .val (.int (1 : Int32))] [(.int ((0 : Int32) + (1 : Int32)))]))
      refine o_iconst X_1512 K (1 : Int32) at_163 164 rfl rfl ?_
      refine o_icmp_ne_f X_1512 K at_164 167 rfl (by decide) ?_
      refine o_aload X_1512 K at_167 169 rfl rfl rfl ?_
      refine o_invokevirtual X_1512 K at_169 172 rfl (w_140 hw) (w_141 hw) (w_143 hw) (w_142 hw) (w_46 hw) (w_144 hw) (by decide) p_1512f0 [] [] rfl  (c_count l Z a0 hw n0 nt (((0 : Int32) + (1 : Int32)) + (1 : Int32)) h_1512 Z_1512 p_1512f5) e_1512 rfl (lenOf pd___I rfl) (by decide) 0 (Nat.le_of_eq rfl) (by decide) (by decide) (by decide) N_1512 ?_
      rintro _ T_1529 h_1529 locs_1529 X_1529 q_1529 ⟨rfl, r_1529⟩ N_1529
      have e_1529 := q_1529.trans r_1529
      show OGo p e below _ n0 _ (T_1529.setTop (mkF m 172 #[.val (.int p0), .val (.int p1), .val (.int p2), .val (.int p3), .val (.int p4), .val (.int p5), .val (.int y0), .val (.int y1), .val (.ref s1), .val (.ref s2), .val (.ref nt), .val (.int (0 : Int32)), .val (.ref hs), .val (.int n), .val (.int (1 : Int32))] [(.int (((0 : Int32) + (1 : Int32)) + (1 : Int32)))]))
      refine o_iconst X_1529 K (2 : Int32) at_172 173 rfl rfl ?_
      refine o_icmp_ne_f X_1529 K at_173 176 rfl (by decide) ?_
      refine o_iconst X_1529 K (1 : Int32) at_176 177 rfl rfl ?_
      refine o_goto X_1529 K at_177 181 (by decide) (by decide) ?_
      refine o_istore X_1529 K at_181 183 rfl #[.val (.int p0), .val (.int p1), .val (.int p2), .val (.int p3), .val (.int p4), .val (.int p5), .val (.int y0), .val (.int y1), .val (.ref s1), .val (.ref s2), .val (.ref nt), .val (.int (0 : Int32)), .val (.ref hs), .val (.int n), .val (.int (1 : Int32))] rfl rfl ?_
      refine o_iload X_1529 K at_183 185 rfl rfl ?_
      refine o_ireturnN X_1529 K (by decide) at_185 (by decide) (by decide) N_1529 ?_
      exact rfl
  · skip
    refine o_iload X0 K at_16 18 rfl rfl ?_
    refine o_invokestatic X0 K at_18 21 rfl (w_0 hw) (w_1 hw) (w_2 hw) (w_3 hw) (by decide) [(.int y0)] [] rfl  (c_sval l Z a0 hw n0 y0 zcs h0 Z0 S_COMPACT_STRINGS (hcs) (hy0)) e0 rfl (lenOf pd__C_Ljava_lang_String_ rfl) (by decide) 0 (Nat.le_of_eq rfl) (by decide) (by decide) (by decide) N0 ?_
    rintro _ T_1530 h_1530 locs_1530 X_1530 e_1530 ⟨s1, t1, rfl, k_1530, gg_1530_sx, sz_1530_sx, gg_1530_tb, sz_1530_tb, p_1530f0, p_1530f1, p_1530f2, p_1530f3, p_1530f4⟩ N_1530
    have Z_1530 : n0 ≤ h_1530.size := Nat.le_trans Z0 k_1530.1
    have f_1531 := o_sta_keep S_COMPACT_STRINGS k_1530 (o_plain0)
    have f_1532 := o_sta_keep S_INSTANCE k_1530 (o_plain0)
    have f_1533 := o_sta_keep S_UTF_8 k_1530 (o_plain0)
    show OGo p e below _ n0 _ (T_1530.setTop (mkF m 21 #[.val (.int p0), .val (.int p1), .val (.int p2), .val (.int p3), .val (.int p4), .val (.int p5), .val (.int y0), .val (.int y1), .unset, .unset, .unset, .unset, .unset, .unset, .unset] [(.ref s1)]))
    refine o_astore X_1530 K at_21 23 rfl #[.val (.int p0), .val (.int p1), .val (.int p2), .val (.int p3), .val (.int p4), .val (.int p5), .val (.int y0), .val (.int y1), .val (.ref s1), .unset, .unset, .unset, .unset, .unset, .unset] rfl rfl ?_
    refine o_new X_1530 K at_23 26 rfl (w_26 hw) (w_10 hw) (w_2 hw) e_1530 (by decide) (by decide) ?_
    intro T_1534 h_1534 s2 g_1534 X_1534 e_1534 E_1534 B_1534 D_1534
    have Z_1534 : n0 ≤ h_1534.size := Nat.le_trans Z_1530 E_1534.1
    have f_1535 := Sta.ext E_1534 f_1531
    have f_1536 := Sta.ext E_1534 f_1532
    have f_1537 := Sta.ext E_1534 f_1533
    have f_1538 := Exa.ext E_1534 p_1530f0
    have f_1539 := Fld.ext E_1534 p_1530f1
    have f_1540 := Fld.ext E_1534 p_1530f2
    have f_1541 := p_1530f3.ext E_1534
    have f_1542 := Exa.ext E_1534 p_1530f4
    have g_s2 : n0 ≤ s2 := by rw [g_1534]; exact Z_1530
    have ne_s1_s2 : s1 ≠ s2 := by rw [g_1534]; exact Nat.ne_of_lt p_1530f0.lt
    have ne_t1_s2 : t1 ≠ s2 := by rw [g_1534]; exact Nat.ne_of_lt p_1530f3.lt
    have F_value__1534 : Fld Z h_1534 s2 "java/lang/String" "value" "[B" .null := D_1534 (Or.inr (w_23 hw)) (ty := (.array .byte)) (by decide)
    have F_coder__1534 : Fld Z h_1534 s2 "java/lang/String" "coder" "B" (.int (0 : Int32)) := D_1534 (Or.inr (w_25 hw)) (ty := .byte) (by decide)
    refine o_dup X_1534 K at_26 27 rfl rfl ?_
    refine o_iconst X_1534 K (2 : Int32) at_27 28 rfl rfl ?_
    refine o_newarray X_1534 K (n := 2) at_28 30 rfl (w_27 hw) e_1534 (by decide) 2 (by decide) (by decide) (by decide) (by decide) rfl ?_
    intro T_1543 h_1543 ca g_1543 X_1543 e_1543 E_1543 A_1543
    dsimp only [newarray.typeOf, defaultValue] at A_1543
    have Z_1543 : n0 ≤ h_1543.size := Nat.le_trans Z_1534 E_1543.1
    have f_1544 := Sta.ext E_1543 f_1535
    have f_1545 := Sta.ext E_1543 f_1536
    have f_1546 := Sta.ext E_1543 f_1537
    have f_1547 := Exa.ext E_1543 f_1538
    have f_1548 := Fld.ext E_1543 f_1539
    have f_1549 := Fld.ext E_1543 f_1540
    have f_1550 := f_1541.ext E_1543
    have f_1551 := Exa.ext E_1543 f_1542
    have f_1552 := Exa.ext E_1543 B_1534
    have f_1553 := Fld.ext E_1543 F_value__1534
    have f_1554 := Fld.ext E_1543 F_coder__1534
    have g_ca : n0 ≤ ca := by rw [g_1543]; exact Z_1534
    have ne_s1_ca : s1 ≠ ca := by rw [g_1543]; exact Nat.ne_of_lt f_1538.lt
    have ne_t1_ca : t1 ≠ ca := by rw [g_1543]; exact Nat.ne_of_lt f_1541.lt
    have ne_s2_ca : s2 ≠ ca := by rw [g_1543]; exact Nat.ne_of_lt B_1534.lt
    refine o_dup X_1543 K at_30 31 rfl rfl ?_
    refine o_iconst X_1543 K (0 : Int32) at_31 32 rfl rfl ?_
    refine o_iload X_1543 K at_32 34 rfl rfl ?_
    refine o_castore X_1543 K (i := 0) (x' := y0) at_34 35 rfl e_1543 A_1543 (by decide) (by decide) (hn0) N_1530 g_ca ?_
    intro T_1555 h_1555 locs_1555 X_1555 e_1555 W_1555 A_1555 N_1555
    have Z_1555 : n0 ≤ h_1555.size := by rw [Wr.size W_1555]; exact Z_1543
    have f_1556 := Sta.wr W_1555 f_1544
    have f_1557 := Sta.wr W_1555 f_1545
    have f_1558 := Sta.wr W_1555 f_1546
    have f_1559 := Exa.wr W_1555 f_1547
    have f_1560 := Fld.other W_1555 f_1548 (Or.inl ne_s1_ca)
    have f_1561 := Fld.other W_1555 f_1549 (Or.inl ne_s1_ca)
    have f_1562 := f_1550.other W_1555 ne_t1_ca
    have f_1563 := Exa.wr W_1555 f_1551
    have f_1564 := Exa.wr W_1555 f_1552
    have f_1565 := Fld.other W_1555 f_1553 (Or.inl ne_s2_ca)
    have f_1566 := Fld.other W_1555 f_1554 (Or.inl ne_s2_ca)
    refine o_dup X_1555 K at_35 36 rfl rfl ?_
    refine o_iconst X_1555 K (1 : Int32) at_36 37 rfl rfl ?_
    refine o_iload X_1555 K at_37 39 rfl rfl ?_
    refine o_castore X_1555 K (i := 1) (x' := y1) at_39 40 rfl e_1555 A_1555 (by decide) (by decide) (hn1) N_1555 g_ca ?_
    intro T_1567 h_1567 locs_1567 X_1567 e_1567 W_1567 A_1567 N_1567
    have Z_1567 : n0 ≤ h_1567.size := by rw [Wr.size W_1567]; exact Z_1555
    have f_1568 := Sta.wr W_1567 f_1556
    have f_1569 := Sta.wr W_1567 f_1557
    have f_1570 := Sta.wr W_1567 f_1558
    have f_1571 := Exa.wr W_1567 f_1559
    have f_1572 := Fld.other W_1567 f_1560 (Or.inl ne_s1_ca)
    have f_1573 := Fld.other W_1567 f_1561 (Or.inl ne_s1_ca)
    have f_1574 := f_1562.other W_1567 ne_t1_ca
    have f_1575 := Exa.wr W_1567 f_1563
    have f_1576 := Exa.wr W_1567 f_1564
    have f_1577 := Fld.other W_1567 f_1565 (Or.inl ne_s2_ca)
    have f_1578 := Fld.other W_1567 f_1566 (Or.inl ne_s2_ca)
    have AB_1579 := OAr.congr A_1567 (g := own_B [y0, y1]) (fun j hj => by rcases (by omega : j = 0 ∨ j = 1) with rfl | rfl <;> rfl)
    refine o_invokespecial X_1567 K at_40 43 rfl rfl (w_28 hw) (w_29 hw) (w_2 hw) (w_30 hw) (by decide) [(.ref ca)] [(.ref s2)] rfl  (c_new6 l Z a0 hw n0 s2 ca y0 y1 zcs h_1567 Z_1567 f_1568 (hcs) f_1576 f_1577 f_1578 g_s2 AB_1579 ne_s2_ca (hy0) (hy1)) e_1567 rfl (lenOf pd___C_V rfl) (by decide) 1 (Nat.le_of_eq rfl) (by decide) (by decide) (by decide) N_1567 ?_
    rintro _ T_1580 h_1580 locs_1580 X_1580 e_1580 ⟨t2, rfl, k_1580, gg_1580_bb, sz_1580_bb, p_1580f0, p_1580f1, p_1580f2, p_1580f3, p_1580f4⟩ N_1580
    have Z_1580 : n0 ≤ h_1580.size := Nat.le_trans Z_1567 k_1580.1
    have f_1581 := o_sta_keep f_1568 k_1580 (o_plainS f_1576 (o_plain0))
    have f_1582 := o_sta_keep f_1569 k_1580 (o_plainS f_1576 (o_plain0))
    have f_1583 := o_sta_keep f_1570 k_1580 (o_plainS f_1576 (o_plain0))
    have f_1584 := Exa.keep f_1571 k_1580
    have f_1585 := Fld.keep f_1572 k_1580 (ninS ne_s1_s2 (nin0))
    have f_1586 := Fld.keep f_1573 k_1580 (ninS ne_s1_s2 (nin0))
    have f_1587 := f_1574.keep k_1580 (ninS ne_t1_s2 (nin0))
    have f_1588 := Exa.keep f_1575 k_1580
    have f_1589 := Exa.keep f_1576 k_1580
    have f_1590 := AB_1579.keep k_1580 (ninS (Ne.symm ne_s2_ca) (nin0))
    have ne_s1_t2 : s1 ≠ t2 := Nat.ne_of_lt (Nat.lt_of_lt_of_le f_1571.lt sz_1580_bb)
    have ne_t1_t2 : t1 ≠ t2 := Nat.ne_of_lt (Nat.lt_of_lt_of_le f_1574.lt sz_1580_bb)
    have ne_s2_t2 : s2 ≠ t2 := Nat.ne_of_lt (Nat.lt_of_lt_of_le f_1576.lt sz_1580_bb)
    have ne_ca_t2 : ca ≠ t2 := Nat.ne_of_lt (Nat.lt_of_lt_of_le AB_1579.lt sz_1580_bb)
    show OGo p e below _ n0 _ (T_1580.setTop (mkF m 43 #[.val (.int p0), .val (.int p1), .val (.int p2), .val (.int p3), .val (.int p4), .val (.int p5), .val (.int y0), .val (.int y1), .val (.ref s1), .unset, .unset, .unset, .unset, .unset, .unset] [(.ref s2)]))
    refine o_astore X_1580 K at_43 45 rfl #[.val (.int p0), .val (.int p1), .val (.int p2), .val (.int p3), .val (.int p4), .val (.int p5), .val (.int y0), .val (.int y1), .val (.ref s1), .val (.ref s2), .unset, .unset, .unset, .unset, .unset] rfl rfl ?_
    refine o_new X_1580 K at_45 48 rfl (w_44 hw) (w_45 hw) (w_46 hw) e_1580 (by decide) (by decide) ?_
    intro T_1591 h_1591 nt g_1591 X_1591 e_1591 E_1591 B_1591 D_1591
    have Z_1591 : n0 ≤ h_1591.size := Nat.le_trans Z_1580 E_1591.1
    have f_1592 := Sta.ext E_1591 f_1581
    have f_1593 := Sta.ext E_1591 f_1582
    have f_1594 := Sta.ext E_1591 f_1583
    have f_1595 := Exa.ext E_1591 f_1584
    have f_1596 := Fld.ext E_1591 f_1585
    have f_1597 := Fld.ext E_1591 f_1586
    have f_1598 := f_1587.ext E_1591
    have f_1599 := Exa.ext E_1591 f_1588
    have f_1600 := Exa.ext E_1591 p_1580f0
    have f_1601 := f_1590.ext E_1591
    have f_1602 := Fld.ext E_1591 p_1580f1
    have f_1603 := Fld.ext E_1591 p_1580f2
    have f_1604 := p_1580f3.ext E_1591
    have f_1605 := Exa.ext E_1591 p_1580f4
    have g_nt : n0 ≤ nt := by rw [g_1591]; exact Z_1580
    have ne_s1_nt : s1 ≠ nt := by rw [g_1591]; exact Nat.ne_of_lt f_1584.lt
    have ne_t1_nt : t1 ≠ nt := by rw [g_1591]; exact Nat.ne_of_lt f_1587.lt
    have ne_s2_nt : s2 ≠ nt := by rw [g_1591]; exact Nat.ne_of_lt p_1580f0.lt
    have ne_ca_nt : ca ≠ nt := by rw [g_1591]; exact Nat.ne_of_lt f_1590.lt
    have ne_t2_nt : t2 ≠ nt := by rw [g_1591]; exact Nat.ne_of_lt p_1580f3.lt
    have F_bytes__1591 : Fld Z h_1591 nt "com/example/vikt/vikt/graph/NameTable" "bytes" "[B" .null := D_1591 (Or.inl (w_52 hw)) (ty := (.array .byte)) (by decide)
    have F_starts__1591 : Fld Z h_1591 nt "com/example/vikt/vikt/graph/NameTable" "starts" "[I" .null := D_1591 (Or.inl (w_55 hw)) (ty := (.array .int)) (by decide)
    have F_slots__1591 : Fld Z h_1591 nt "com/example/vikt/vikt/graph/NameTable" "slots" "[J" .null := D_1591 (Or.inl (w_58 hw)) (ty := (.array .long)) (by decide)
    have F_mask__1591 : Fld Z h_1591 nt "com/example/vikt/vikt/graph/NameTable" "mask" "I" (.int (0 : Int32)) := D_1591 (Or.inl (w_60 hw)) (ty := .int) (by decide)
    have F_used__1591 : Fld Z h_1591 nt "com/example/vikt/vikt/graph/NameTable" "used" "I" (.int (0 : Int32)) := D_1591 (Or.inl (w_125 hw)) (ty := .int) (by decide)
    have F_count__1591 : Fld Z h_1591 nt "com/example/vikt/vikt/graph/NameTable" "count" "I" (.int (0 : Int32)) := D_1591 (Or.inl (w_127 hw)) (ty := .int) (by decide)
    have F_prefetched__1591 : Fld Z h_1591 nt "com/example/vikt/vikt/graph/NameTable" "prefetched" "J" (.long (0 : Int64)) := D_1591 (Or.inl (w_139 hw)) (ty := .long) (by decide)
    refine o_dup X_1591 K at_48 49 rfl rfl ?_
    refine o_invokespecial X_1591 K at_49 52 rfl rfl (w_47 hw) (w_48 hw) (w_46 hw) (w_49 hw) (by decide) [] [(.ref nt)] rfl  (c_ninit l Z a0 hw n0 nt h_1591 Z_1591 B_1591 F_bytes__1591 F_starts__1591 F_slots__1591 F_mask__1591 F_count__1591 F_used__1591 F_prefetched__1591 g_nt) e_1591 rfl (lenOf pd___V rfl) (by decide) 1 (Nat.le_of_eq rfl) (by decide) (by decide) (by decide) N_1580 ?_
    rintro _ T_1606 h_1606 locs_1606 X_1606 e_1606 ⟨ba, sa, la, rfl, k_1606, gg_1606_ba, sz_1606_ba, gg_1606_sa, sz_1606_sa, gg_1606_la, sz_1606_la, p_1606f0, p_1606f1, p_1606f2, p_1606f3, p_1606f4, p_1606f5, p_1606f6, p_1606f7, p_1606f8, p_1606f9, p_1606f10, p_1606_n1, p_1606_n2, p_1606_n3⟩ N_1606
    have Z_1606 : n0 ≤ h_1606.size := Nat.le_trans Z_1591 k_1606.1
    have f_1607 := o_sta_keep f_1592 k_1606 (o_plainS B_1591 (o_plain0))
    have f_1608 := o_sta_keep f_1593 k_1606 (o_plainS B_1591 (o_plain0))
    have f_1609 := o_sta_keep f_1594 k_1606 (o_plainS B_1591 (o_plain0))
    have f_1610 := Exa.keep f_1595 k_1606
    have f_1611 := Fld.keep f_1596 k_1606 (ninS ne_s1_nt (nin0))
    have f_1612 := Fld.keep f_1597 k_1606 (ninS ne_s1_nt (nin0))
    have f_1613 := f_1598.keep k_1606 (ninS ne_t1_nt (nin0))
    have f_1614 := Exa.keep f_1599 k_1606
    have f_1615 := Exa.keep f_1600 k_1606
    have f_1616 := f_1601.keep k_1606 (ninS ne_ca_nt (nin0))
    have f_1617 := Fld.keep f_1602 k_1606 (ninS ne_s2_nt (nin0))
    have f_1618 := Fld.keep f_1603 k_1606 (ninS ne_s2_nt (nin0))
    have f_1619 := f_1604.keep k_1606 (ninS ne_t2_nt (nin0))
    have f_1620 := Exa.keep f_1605 k_1606
    have f_1621 := Exa.keep B_1591 k_1606
    have ne_s1_ba : s1 ≠ ba := Nat.ne_of_lt (Nat.lt_of_lt_of_le f_1595.lt sz_1606_ba)
    have ne_t1_ba : t1 ≠ ba := Nat.ne_of_lt (Nat.lt_of_lt_of_le f_1598.lt sz_1606_ba)
    have ne_s2_ba : s2 ≠ ba := Nat.ne_of_lt (Nat.lt_of_lt_of_le f_1600.lt sz_1606_ba)
    have ne_ca_ba : ca ≠ ba := Nat.ne_of_lt (Nat.lt_of_lt_of_le f_1601.lt sz_1606_ba)
    have ne_t2_ba : t2 ≠ ba := Nat.ne_of_lt (Nat.lt_of_lt_of_le f_1604.lt sz_1606_ba)
    have ne_nt_ba : nt ≠ ba := Nat.ne_of_lt (Nat.lt_of_lt_of_le B_1591.lt sz_1606_ba)
    have ne_s1_sa : s1 ≠ sa := Nat.ne_of_lt (Nat.lt_of_lt_of_le f_1595.lt sz_1606_sa)
    have ne_t1_sa : t1 ≠ sa := Nat.ne_of_lt (Nat.lt_of_lt_of_le f_1598.lt sz_1606_sa)
    have ne_s2_sa : s2 ≠ sa := Nat.ne_of_lt (Nat.lt_of_lt_of_le f_1600.lt sz_1606_sa)
    have ne_ca_sa : ca ≠ sa := Nat.ne_of_lt (Nat.lt_of_lt_of_le f_1601.lt sz_1606_sa)
    have ne_t2_sa : t2 ≠ sa := Nat.ne_of_lt (Nat.lt_of_lt_of_le f_1604.lt sz_1606_sa)
    have ne_nt_sa : nt ≠ sa := Nat.ne_of_lt (Nat.lt_of_lt_of_le B_1591.lt sz_1606_sa)
    have ne_s1_la : s1 ≠ la := Nat.ne_of_lt (Nat.lt_of_lt_of_le f_1595.lt sz_1606_la)
    have ne_t1_la : t1 ≠ la := Nat.ne_of_lt (Nat.lt_of_lt_of_le f_1598.lt sz_1606_la)
    have ne_s2_la : s2 ≠ la := Nat.ne_of_lt (Nat.lt_of_lt_of_le f_1600.lt sz_1606_la)
    have ne_ca_la : ca ≠ la := Nat.ne_of_lt (Nat.lt_of_lt_of_le f_1601.lt sz_1606_la)
    have ne_t2_la : t2 ≠ la := Nat.ne_of_lt (Nat.lt_of_lt_of_le f_1604.lt sz_1606_la)
    have ne_nt_la : nt ≠ la := Nat.ne_of_lt (Nat.lt_of_lt_of_le B_1591.lt sz_1606_la)
    show OGo p e below _ n0 _ (T_1606.setTop (mkF m 52 #[.val (.int p0), .val (.int p1), .val (.int p2), .val (.int p3), .val (.int p4), .val (.int p5), .val (.int y0), .val (.int y1), .val (.ref s1), .val (.ref s2), .unset, .unset, .unset, .unset, .unset] [(.ref nt)]))
    refine o_astore X_1606 K at_52 54 rfl #[.val (.int p0), .val (.int p1), .val (.int p2), .val (.int p3), .val (.int p4), .val (.int p5), .val (.int y0), .val (.int y1), .val (.ref s1), .val (.ref s2), .val (.ref nt), .unset, .unset, .unset, .unset] rfl rfl ?_
    refine o_aload X_1606 K at_54 56 rfl rfl rfl ?_
    refine o_aload X_1606 K at_56 58 rfl rfl rfl ?_
    refine o_invokevirtual X_1606 K at_58 61 rfl (w_61 hw) (w_62 hw) (w_64 hw) (w_63 hw) (w_46 hw) (w_65 hw) (by decide) p_1606f0 [(.ref s1)] [] rfl  (c_nSI_n l Z a0 hw n0 nt s1 t1 u8 ba sa la (y0.toInt8.toInt32) zcs (0 : Int32) (0 : Int32) _ _ (fun _ => 0) (0 : Int64) h_1606 Z_1606 f_1607 (hcs) f_1608 f_1609 f_1610 f_1611 f_1612 f_1613 f_1614 (g0) (o_nb _) p_1606f0 p_1606f1 p_1606f2 p_1606f3 p_1606f4 p_1606f5 p_1606f6 p_1606f7 g_nt p_1606f8 gg_1606_ba p_1606f9 gg_1606_sa p_1606f10 gg_1606_la ne_nt_ba ne_nt_sa p_1606_n1 (Ne.symm ne_nt_la) (Ne.symm p_1606_n2) (Ne.symm p_1606_n3) ne_s1_nt ne_s1_ba ne_s1_sa ne_s1_la ne_t1_nt ne_t1_ba ne_t1_sa ne_t1_la (by decide) (by decide) (rfl)) e_1606 rfl (lenOf pd__Ljava_lang_String__I rfl) (by decide) 0 (Nat.le_of_eq rfl) (by decide) (by decide) (by decide) N_1606 ?_
    rintro _ T_1622 h_1622 locs_1622 X_1622 e_1622 ⟨rfl, k_1622, p_1622f0, p_1622f1, p_1622f2, p_1622f3, p_1622f4, p_1622f5, p_1622f6, p_1622f7, p_1622f8, p_1622f9, p_1622f10⟩ N_1622
    have Z_1622 : n0 ≤ h_1622.size := Nat.le_trans Z_1606 k_1622.1
    have f_1623 := o_sta_keep f_1607 k_1622 (o_plainS p_1606f0 (o_plainR p_1606f8 (o_plainR p_1606f9 (o_plainR p_1606f10 (o_plain0)))))
    have f_1624 := o_sta_keep f_1608 k_1622 (o_plainS p_1606f0 (o_plainR p_1606f8 (o_plainR p_1606f9 (o_plainR p_1606f10 (o_plain0)))))
    have f_1625 := o_sta_keep f_1609 k_1622 (o_plainS p_1606f0 (o_plainR p_1606f8 (o_plainR p_1606f9 (o_plainR p_1606f10 (o_plain0)))))
    have f_1626 := Exa.keep f_1610 k_1622
    have f_1627 := Fld.keep f_1611 k_1622 (ninS ne_s1_nt (ninS ne_s1_ba (ninS ne_s1_sa (ninS ne_s1_la (nin0)))))
    have f_1628 := Fld.keep f_1612 k_1622 (ninS ne_s1_nt (ninS ne_s1_ba (ninS ne_s1_sa (ninS ne_s1_la (nin0)))))
    have f_1629 := f_1613.keep k_1622 (ninS ne_t1_nt (ninS ne_t1_ba (ninS ne_t1_sa (ninS ne_t1_la (nin0)))))
    have f_1630 := Exa.keep f_1614 k_1622
    have f_1631 := Exa.keep f_1615 k_1622
    have f_1632 := f_1616.keep k_1622 (ninS ne_ca_nt (ninS ne_ca_ba (ninS ne_ca_sa (ninS ne_ca_la (nin0)))))
    have f_1633 := Fld.keep f_1617 k_1622 (ninS ne_s2_nt (ninS ne_s2_ba (ninS ne_s2_sa (ninS ne_s2_la (nin0)))))
    have f_1634 := Fld.keep f_1618 k_1622 (ninS ne_s2_nt (ninS ne_s2_ba (ninS ne_s2_sa (ninS ne_s2_la (nin0)))))
    have f_1635 := f_1619.keep k_1622 (ninS ne_t2_nt (ninS ne_t2_ba (ninS ne_t2_sa (ninS ne_t2_la (nin0)))))
    have f_1636 := Exa.keep f_1620 k_1622
    have f_1637 := Exa.keep p_1606f0 k_1622
    show OGo p e below _ n0 _ (T_1622.setTop (mkF m 61 #[.val (.int p0), .val (.int p1), .val (.int p2), .val (.int p3), .val (.int p4), .val (.int p5), .val (.int y0), .val (.int y1), .val (.ref s1), .val (.ref s2), .val (.ref nt), .unset, .unset, .unset, .unset] [(.int (0 : Int32))]))
    refine o_istore X_1622 K at_61 63 rfl #[.val (.int p0), .val (.int p1), .val (.int p2), .val (.int p3), .val (.int p4), .val (.int p5), .val (.int y0), .val (.int y1), .val (.ref s1), .val (.ref s2), .val (.ref nt), .val (.int (0 : Int32)), .unset, .unset, .unset] rfl rfl ?_
    refine o_iconst X_1622 K (3 : Int32) at_63 64 rfl rfl ?_
    refine o_newarray X_1622 K (n := 3) at_64 66 rfl (w_53 hw) e_1622 (by decide) 3 (by decide) (by decide) (by decide) (by decide) rfl ?_
    intro T_1638 h_1638 hs g_1638 X_1638 e_1638 E_1638 A_1638
    dsimp only [newarray.typeOf, defaultValue] at A_1638
    have Z_1638 : n0 ≤ h_1638.size := Nat.le_trans Z_1622 E_1638.1
    have f_1639 := Sta.ext E_1638 f_1623
    have f_1640 := Sta.ext E_1638 f_1624
    have f_1641 := Sta.ext E_1638 f_1625
    have f_1642 := Exa.ext E_1638 f_1626
    have f_1643 := Fld.ext E_1638 f_1627
    have f_1644 := Fld.ext E_1638 f_1628
    have f_1645 := f_1629.ext E_1638
    have f_1646 := Exa.ext E_1638 f_1630
    have f_1647 := Exa.ext E_1638 f_1631
    have f_1648 := f_1632.ext E_1638
    have f_1649 := Fld.ext E_1638 f_1633
    have f_1650 := Fld.ext E_1638 f_1634
    have f_1651 := f_1635.ext E_1638
    have f_1652 := Exa.ext E_1638 f_1636
    have f_1653 := Exa.ext E_1638 p_1622f0
    have f_1654 := Fld.ext E_1638 p_1622f1
    have f_1655 := Fld.ext E_1638 p_1622f2
    have f_1656 := Fld.ext E_1638 p_1622f3
    have f_1657 := Fld.ext E_1638 p_1622f4
    have f_1658 := Fld.ext E_1638 p_1622f5
    have f_1659 := Fld.ext E_1638 p_1622f6
    have f_1660 := Fld.ext E_1638 p_1622f7
    have f_1661 := p_1622f8.ext E_1638
    have f_1662 := p_1622f9.ext E_1638
    have f_1663 := p_1622f10.ext E_1638
    have g_hs : n0 ≤ hs := by rw [g_1638]; exact Z_1622
    have ne_s1_hs : s1 ≠ hs := by rw [g_1638]; exact Nat.ne_of_lt f_1626.lt
    have ne_t1_hs : t1 ≠ hs := by rw [g_1638]; exact Nat.ne_of_lt f_1629.lt
    have ne_s2_hs : s2 ≠ hs := by rw [g_1638]; exact Nat.ne_of_lt f_1631.lt
    have ne_ca_hs : ca ≠ hs := by rw [g_1638]; exact Nat.ne_of_lt f_1632.lt
    have ne_t2_hs : t2 ≠ hs := by rw [g_1638]; exact Nat.ne_of_lt f_1635.lt
    have ne_nt_hs : nt ≠ hs := by rw [g_1638]; exact Nat.ne_of_lt p_1622f0.lt
    have ne_ba_hs : ba ≠ hs := by rw [g_1638]; exact Nat.ne_of_lt p_1622f8.lt
    have ne_sa_hs : sa ≠ hs := by rw [g_1638]; exact Nat.ne_of_lt p_1622f9.lt
    have ne_la_hs : la ≠ hs := by rw [g_1638]; exact Nat.ne_of_lt p_1622f10.lt
    refine o_dup X_1638 K at_66 67 rfl rfl ?_
    refine o_iconst X_1638 K (0 : Int32) at_67 68 rfl rfl ?_
    refine o_iloadN X_1638 K at_68 69 rfl rfl ?_
    refine o_iastore X_1638 K (i := 0) (x' := p2) at_69 70 rfl e_1638 A_1638 (by decide) (by decide) (rfl) N_1622 g_hs ?_
    intro T_1664 h_1664 locs_1664 X_1664 e_1664 W_1664 A_1664 N_1664
    have Z_1664 : n0 ≤ h_1664.size := by rw [Wr.size W_1664]; exact Z_1638
    have f_1665 := Sta.wr W_1664 f_1639
    have f_1666 := Sta.wr W_1664 f_1640
    have f_1667 := Sta.wr W_1664 f_1641
    have f_1668 := Exa.wr W_1664 f_1642
    have f_1669 := Fld.other W_1664 f_1643 (Or.inl ne_s1_hs)
    have f_1670 := Fld.other W_1664 f_1644 (Or.inl ne_s1_hs)
    have f_1671 := f_1645.other W_1664 ne_t1_hs
    have f_1672 := Exa.wr W_1664 f_1646
    have f_1673 := Exa.wr W_1664 f_1647
    have f_1674 := f_1648.other W_1664 ne_ca_hs
    have f_1675 := Fld.other W_1664 f_1649 (Or.inl ne_s2_hs)
    have f_1676 := Fld.other W_1664 f_1650 (Or.inl ne_s2_hs)
    have f_1677 := f_1651.other W_1664 ne_t2_hs
    have f_1678 := Exa.wr W_1664 f_1652
    have f_1679 := Exa.wr W_1664 f_1653
    have f_1680 := Fld.other W_1664 f_1654 (Or.inl ne_nt_hs)
    have f_1681 := Fld.other W_1664 f_1655 (Or.inl ne_nt_hs)
    have f_1682 := Fld.other W_1664 f_1656 (Or.inl ne_nt_hs)
    have f_1683 := Fld.other W_1664 f_1657 (Or.inl ne_nt_hs)
    have f_1684 := Fld.other W_1664 f_1658 (Or.inl ne_nt_hs)
    have f_1685 := Fld.other W_1664 f_1659 (Or.inl ne_nt_hs)
    have f_1686 := Fld.other W_1664 f_1660 (Or.inl ne_nt_hs)
    have f_1687 := f_1661.other W_1664 ne_ba_hs
    have f_1688 := f_1662.other W_1664 ne_sa_hs
    have f_1689 := f_1663.other W_1664 ne_la_hs
    refine o_dup X_1664 K at_70 71 rfl rfl ?_
    refine o_iconst X_1664 K (1 : Int32) at_71 72 rfl rfl ?_
    refine o_iloadN X_1664 K at_72 73 rfl rfl ?_
    refine o_iastore X_1664 K (i := 1) (x' := p3) at_73 74 rfl e_1664 A_1664 (by decide) (by decide) (rfl) N_1664 g_hs ?_
    intro T_1690 h_1690 locs_1690 X_1690 e_1690 W_1690 A_1690 N_1690
    have Z_1690 : n0 ≤ h_1690.size := by rw [Wr.size W_1690]; exact Z_1664
    have f_1691 := Sta.wr W_1690 f_1665
    have f_1692 := Sta.wr W_1690 f_1666
    have f_1693 := Sta.wr W_1690 f_1667
    have f_1694 := Exa.wr W_1690 f_1668
    have f_1695 := Fld.other W_1690 f_1669 (Or.inl ne_s1_hs)
    have f_1696 := Fld.other W_1690 f_1670 (Or.inl ne_s1_hs)
    have f_1697 := f_1671.other W_1690 ne_t1_hs
    have f_1698 := Exa.wr W_1690 f_1672
    have f_1699 := Exa.wr W_1690 f_1673
    have f_1700 := f_1674.other W_1690 ne_ca_hs
    have f_1701 := Fld.other W_1690 f_1675 (Or.inl ne_s2_hs)
    have f_1702 := Fld.other W_1690 f_1676 (Or.inl ne_s2_hs)
    have f_1703 := f_1677.other W_1690 ne_t2_hs
    have f_1704 := Exa.wr W_1690 f_1678
    have f_1705 := Exa.wr W_1690 f_1679
    have f_1706 := Fld.other W_1690 f_1680 (Or.inl ne_nt_hs)
    have f_1707 := Fld.other W_1690 f_1681 (Or.inl ne_nt_hs)
    have f_1708 := Fld.other W_1690 f_1682 (Or.inl ne_nt_hs)
    have f_1709 := Fld.other W_1690 f_1683 (Or.inl ne_nt_hs)
    have f_1710 := Fld.other W_1690 f_1684 (Or.inl ne_nt_hs)
    have f_1711 := Fld.other W_1690 f_1685 (Or.inl ne_nt_hs)
    have f_1712 := Fld.other W_1690 f_1686 (Or.inl ne_nt_hs)
    have f_1713 := f_1687.other W_1690 ne_ba_hs
    have f_1714 := f_1688.other W_1690 ne_sa_hs
    have f_1715 := f_1689.other W_1690 ne_la_hs
    refine o_dup X_1690 K at_74 75 rfl rfl ?_
    refine o_iconst X_1690 K (2 : Int32) at_75 76 rfl rfl ?_
    refine o_iload X_1690 K at_76 78 rfl rfl ?_
    refine o_iastore X_1690 K (i := 2) (x' := p4) at_78 79 rfl e_1690 A_1690 (by decide) (by decide) (rfl) N_1690 g_hs ?_
    intro T_1716 h_1716 locs_1716 X_1716 e_1716 W_1716 A_1716 N_1716
    have Z_1716 : n0 ≤ h_1716.size := by rw [Wr.size W_1716]; exact Z_1690
    have f_1717 := Sta.wr W_1716 f_1691
    have f_1718 := Sta.wr W_1716 f_1692
    have f_1719 := Sta.wr W_1716 f_1693
    have f_1720 := Exa.wr W_1716 f_1694
    have f_1721 := Fld.other W_1716 f_1695 (Or.inl ne_s1_hs)
    have f_1722 := Fld.other W_1716 f_1696 (Or.inl ne_s1_hs)
    have f_1723 := f_1697.other W_1716 ne_t1_hs
    have f_1724 := Exa.wr W_1716 f_1698
    have f_1725 := Exa.wr W_1716 f_1699
    have f_1726 := f_1700.other W_1716 ne_ca_hs
    have f_1727 := Fld.other W_1716 f_1701 (Or.inl ne_s2_hs)
    have f_1728 := Fld.other W_1716 f_1702 (Or.inl ne_s2_hs)
    have f_1729 := f_1703.other W_1716 ne_t2_hs
    have f_1730 := Exa.wr W_1716 f_1704
    have f_1731 := Exa.wr W_1716 f_1705
    have f_1732 := Fld.other W_1716 f_1706 (Or.inl ne_nt_hs)
    have f_1733 := Fld.other W_1716 f_1707 (Or.inl ne_nt_hs)
    have f_1734 := Fld.other W_1716 f_1708 (Or.inl ne_nt_hs)
    have f_1735 := Fld.other W_1716 f_1709 (Or.inl ne_nt_hs)
    have f_1736 := Fld.other W_1716 f_1710 (Or.inl ne_nt_hs)
    have f_1737 := Fld.other W_1716 f_1711 (Or.inl ne_nt_hs)
    have f_1738 := Fld.other W_1716 f_1712 (Or.inl ne_nt_hs)
    have f_1739 := f_1713.other W_1716 ne_ba_hs
    have f_1740 := f_1714.other W_1716 ne_sa_hs
    have f_1741 := f_1715.other W_1716 ne_la_hs
    have AB_1742 := OAr.congr A_1716 (g := fun j => .int ([p2, p3, p4].getD j 0)) (fun j hj => by rcases (by omega : j = 0 ∨ j = 1 ∨ j = 2) with rfl | rfl | rfl <;> rfl)
    refine o_astore X_1716 K at_79 81 rfl #[.val (.int p0), .val (.int p1), .val (.int p2), .val (.int p3), .val (.int p4), .val (.int p5), .val (.int y0), .val (.int y1), .val (.ref s1), .val (.ref s2), .val (.ref nt), .val (.int (0 : Int32)), .val (.ref hs), .unset, .unset] rfl rfl ?_
    refine o_iload X_1716 K at_81 83 rfl rfl ?_
    refine o_ldcI X_1716 K at_83 85 rfl (w_132 hw) ?_
    refine o_iand X_1716 K at_85 86 rfl ?_
    refine o_iconst X_1716 K (4 : Int32) at_86 87 rfl rfl ?_
    refine o_irem X_1716 K at_87 88 rfl (by decide) ?_
    obtain ⟨n, h_n⟩ : ∃ z_ : Int32, z_ = ((p5 &&& (2147483647 : Int32)) % (4 : Int32)) := ⟨_, rfl⟩
    refine o_istore X_1716 K at_88 90 rfl #[.val (.int p0), .val (.int p1), .val (.int p2), .val (.int p3), .val (.int p4), .val (.int p5), .val (.int y0), .val (.int y1), .val (.ref s1), .val (.ref s2), .val (.ref nt), .val (.int (0 : Int32)), .val (.ref hs), .val (.int n), .unset] h_n.symm rfl ?_
    refine o_aload X_1716 K at_90 92 rfl rfl rfl ?_
    refine o_aload X_1716 K at_92 94 rfl rfl rfl ?_
    refine o_iload X_1716 K at_94 96 rfl rfl ?_
    refine o_invokevirtual X_1716 K at_96 99 rfl (w_133 hw) (w_134 hw) (w_136 hw) (w_135 hw) (w_46 hw) (w_137 hw) (by decide) f_1731 [(.ref hs), (.int n)] [] rfl  (c_pref l Z a0 hw n0 nt hs ba sa la n ((0 : Int32) + ((2 : Int32) - (0 : Int32))) ((0 : Int32) + (1 : Int32)) (fun j => [p2, p3, p4].getD j 0) (own_put (2 * ((own_hash [(own_e1 (y0.toInt8.toInt32)), (own_e2 (y0.toInt8.toInt32))] (2 : Int32)) &&& (1023 : Int32)).toInt.toNat) (2 * ((own_hash [(own_e1 (y0.toInt8.toInt32)), (own_e2 (y0.toInt8.toInt32))] (2 : Int32)) &&& (1023 : Int32)).toInt.toNat + 1) (((own_hash [(own_e1 (y0.toInt8.toInt32)), (own_e2 (y0.toInt8.toInt32))] (2 : Int32)).toInt64 <<< ((32 : Int32) &&& 0x3f).toInt64) ||| (((0 : Int32) + (1 : Int32)).toInt64)) (own_key [(own_e1 (y0.toInt8.toInt32)), (own_e2 (y0.toInt8.toInt32))] (2 : Int32)) (fun _ => 0)) (0 : Int64) h_1716 Z_1716 f_1731 f_1732 f_1733 f_1734 f_1735 f_1736 f_1737 f_1738 g_nt AB_1742 f_1741 (by rw [h_n]; exact own_four p5) (Ne.symm ne_nt_hs) (Ne.symm ne_nt_la)) e_1716 rfl (lenOf pd___II_V rfl) (by decide) 0 (Nat.le_of_eq rfl) (by decide) (by decide) (by decide) N_1716 ?_
    rintro _ T_1743 h_1743 locs_1743 X_1743 e_1743 ⟨rfl, k_1743, p_1743f0, p_1743f1, p_1743f2, p_1743f3, p_1743f4, p_1743f5, p_1743f6, p_1743_pv⟩ N_1743
    have Z_1743 : n0 ≤ h_1743.size := Nat.le_trans Z_1716 k_1743.1
    have f_1744 := o_sta_keep f_1717 k_1743 (o_plainS f_1731 (o_plain0))
    have f_1745 := o_sta_keep f_1718 k_1743 (o_plainS f_1731 (o_plain0))
    have f_1746 := o_sta_keep f_1719 k_1743 (o_plainS f_1731 (o_plain0))
    have f_1747 := Exa.keep f_1720 k_1743
    have f_1748 := Fld.keep f_1721 k_1743 (ninS ne_s1_nt (nin0))
    have f_1749 := Fld.keep f_1722 k_1743 (ninS ne_s1_nt (nin0))
    have f_1750 := f_1723.keep k_1743 (ninS ne_t1_nt (nin0))
    have f_1751 := Exa.keep f_1724 k_1743
    have f_1752 := Exa.keep f_1725 k_1743
    have f_1753 := f_1726.keep k_1743 (ninS ne_ca_nt (nin0))
    have f_1754 := Fld.keep f_1727 k_1743 (ninS ne_s2_nt (nin0))
    have f_1755 := Fld.keep f_1728 k_1743 (ninS ne_s2_nt (nin0))
    have f_1756 := f_1729.keep k_1743 (ninS ne_t2_nt (nin0))
    have f_1757 := Exa.keep f_1730 k_1743
    have f_1758 := Exa.keep f_1731 k_1743
    have f_1759 := f_1739.keep k_1743 (ninS (Ne.symm ne_nt_ba) (nin0))
    have f_1760 := f_1740.keep k_1743 (ninS (Ne.symm ne_nt_sa) (nin0))
    have f_1761 := f_1741.keep k_1743 (ninS (Ne.symm ne_nt_la) (nin0))
    have f_1762 := AB_1742.keep k_1743 (ninS (Ne.symm ne_nt_hs) (nin0))
    obtain ⟨pw, Fpw⟩ := p_1743_pv
    show OGo p e below _ n0 _ (T_1743.setTop (mkF m 99 #[.val (.int p0), .val (.int p1), .val (.int p2), .val (.int p3), .val (.int p4), .val (.int p5), .val (.int y0), .val (.int y1), .val (.ref s1), .val (.ref s2), .val (.ref nt), .val (.int (0 : Int32)), .val (.ref hs), .val (.int n), .unset] []))
    refine o_iload X_1743 K at_99 101 rfl rfl ?_
    refine o_if_ne_f X_1743 K at_101 104 rfl (by decide) ?_
    refine o_aload X_1743 K at_104 106 rfl rfl rfl ?_
    refine o_invokevirtual X_1743 K at_106 109 rfl (w_140 hw) (w_141 hw) (w_143 hw) (w_142 hw) (w_46 hw) (w_144 hw) (by decide) p_1743f0 [] [] rfl  (c_count l Z a0 hw n0 nt ((0 : Int32) + (1 : Int32)) h_1743 Z_1743 p_1743f5) e_1743 rfl (lenOf pd___I rfl) (by decide) 0 (Nat.le_of_eq rfl) (by decide) (by decide) (by decide) N_1743 ?_
    rintro _ T_1763 h_1763 locs_1763 X_1763 q_1763 ⟨rfl, r_1763⟩ N_1763
    have e_1763 := q_1763.trans r_1763
    show OGo p e below _ n0 _ (T_1763.setTop (mkF m 109 #[.val (.int p0), .val (.int p1), .val (.int p2), .val (.int p3), .val (.int p4), .val (.int p5), .val (.int y0), .val (.int y1), .val (.ref s1), .val (.ref s2), .val (.ref nt), .val (.int (0 : Int32)), .val (.ref hs), .val (.int n), .unset] [(.int ((0 : Int32) + (1 : Int32)))]))
    refine o_iconst X_1763 K (1 : Int32) at_109 110 rfl rfl ?_
    refine o_icmp_ne_f X_1763 K at_110 113 rfl (by decide) ?_
    refine o_iconst X_1763 K (1 : Int32) at_113 114 rfl rfl ?_
    refine o_goto X_1763 K at_114 118 (by decide) (by decide) ?_
    refine o_istore X_1763 K at_118 120 rfl #[.val (.int p0), .val (.int p1), .val (.int p2), .val (.int p3), .val (.int p4), .val (.int p5), .val (.int y0), .val (.int y1), .val (.ref s1), .val (.ref s2), .val (.ref nt), .val (.int (0 : Int32)), .val (.ref hs), .val (.int n), .val (.int (1 : Int32))] rfl rfl ?_
    refine o_iload X_1763 K at_120 122 rfl rfl ?_
    refine o_if_eq_f X_1763 K at_122 125 rfl (by decide) ?_
    refine o_aload X_1763 K at_125 127 rfl rfl rfl ?_
    refine o_aload X_1763 K at_127 129 rfl rfl rfl ?_
    refine o_invokevirtual X_1763 K at_129 132 rfl (w_61 hw) (w_62 hw) (w_64 hw) (w_63 hw) (w_46 hw) (w_65 hw) (by decide) p_1743f0 [(.ref s1)] [] rfl  (c_nSH_n l Z a0 hw n0 nt s1 t1 u8 ba sa la (y0.toInt8.toInt32) zcs ((0 : Int32) + ((2 : Int32) - (0 : Int32))) ((0 : Int32) + (1 : Int32)) _ _ (own_put (2 * ((own_hash [(own_e1 (y0.toInt8.toInt32)), (own_e2 (y0.toInt8.toInt32))] (2 : Int32)) &&& (1023 : Int32)).toInt.toNat) (2 * ((own_hash [(own_e1 (y0.toInt8.toInt32)), (own_e2 (y0.toInt8.toInt32))] (2 : Int32)) &&& (1023 : Int32)).toInt.toNat + 1) (((own_hash [(own_e1 (y0.toInt8.toInt32)), (own_e2 (y0.toInt8.toInt32))] (2 : Int32)).toInt64 <<< ((32 : Int32) &&& 0x3f).toInt64) ||| (((0 : Int32) + (1 : Int32)).toInt64)) (own_key [(own_e1 (y0.toInt8.toInt32)), (own_e2 (y0.toInt8.toInt32))] (2 : Int32)) (fun _ => 0)) pw (((own_hash [(own_e1 (y0.toInt8.toInt32)), (own_e2 (y0.toInt8.toInt32))] (2 : Int32)).toInt64 <<< ((32 : Int32) &&& 0x3f).toInt64) ||| (((0 : Int32) + (1 : Int32)).toInt64)) h_1743 Z_1743 f_1744 (hcs) f_1745 f_1746 f_1747 f_1748 f_1749 f_1750 f_1751 (g0) (o_nb _) p_1743f0 p_1743f1 p_1743f2 p_1743f3 p_1743f4 p_1743f5 p_1743f6 Fpw g_nt f_1759 gg_1606_ba f_1760 gg_1606_sa f_1761 gg_1606_la ne_nt_ba ne_nt_sa p_1606_n1 (Ne.symm ne_nt_la) (Ne.symm p_1606_n2) (Ne.symm p_1606_n3) ne_s1_nt ne_s1_ba ne_s1_sa ne_s1_la ne_t1_nt ne_t1_ba ne_t1_sa ne_t1_la (by decide) (by decide) (own_putb) (own_i0 _) (own_puta own_n3) (own_i1 _)) e_1763 rfl (lenOf pd__Ljava_lang_String__I rfl) (by decide) 0 (Nat.le_of_eq rfl) (by decide) (by decide) (by decide) N_1763 ?_
    rintro _ T_1764 h_1764 locs_1764 X_1764 e_1764 ⟨rfl, k_1764⟩ N_1764
    have Z_1764 : n0 ≤ h_1764.size := Nat.le_trans Z_1743 k_1764.1
    have f_1765 := o_sta_keep f_1744 k_1764 (o_plain0)
    have f_1766 := o_sta_keep f_1745 k_1764 (o_plain0)
    have f_1767 := o_sta_keep f_1746 k_1764 (o_plain0)
    have f_1768 := Exa.keep f_1747 k_1764
    have f_1769 := Fld.keep f_1748 k_1764 (nin0)
    have f_1770 := Fld.keep f_1749 k_1764 (nin0)
    have f_1771 := f_1750.keep k_1764 (nin0)
    have f_1772 := Exa.keep f_1751 k_1764
    have f_1773 := Exa.keep f_1752 k_1764
    have f_1774 := f_1753.keep k_1764 (nin0)
    have f_1775 := Fld.keep f_1754 k_1764 (nin0)
    have f_1776 := Fld.keep f_1755 k_1764 (nin0)
    have f_1777 := f_1756.keep k_1764 (nin0)
    have f_1778 := Exa.keep f_1757 k_1764
    have f_1779 := Exa.keep p_1743f0 k_1764
    have f_1780 := f_1759.keep k_1764 (nin0)
    have f_1781 := f_1760.keep k_1764 (nin0)
    have f_1782 := f_1761.keep k_1764 (nin0)
    have f_1783 := f_1762.keep k_1764 (nin0)
    have f_1784 := Fld.keep p_1743f1 k_1764 (nin0)
    have f_1785 := Fld.keep p_1743f2 k_1764 (nin0)
    have f_1786 := Fld.keep p_1743f3 k_1764 (nin0)
    have f_1787 := Fld.keep p_1743f4 k_1764 (nin0)
    have f_1788 := Fld.keep p_1743f5 k_1764 (nin0)
    have f_1789 := Fld.keep p_1743f6 k_1764 (nin0)
    have f_1790 := Fld.keep Fpw k_1764 (nin0)
    show OGo p e below _ n0 _ (T_1764.setTop (mkF m 132 #[.val (.int p0), .val (.int p1), .val (.int p2), .val (.int p3), .val (.int p4), .val (.int p5), .val (.int y0), .val (.int y1), .val (.ref s1), .val (.ref s2), .val (.ref nt), .val (.int (0 : Int32)), .val (.ref hs), .val (.int n), .val (.int (1 : Int32))] [(.int ((((own_hash [(own_e1 (y0.toInt8.toInt32)), (own_e2 (y0.toInt8.toInt32))] (2 : Int32)).toInt64 <<< ((32 : Int32) &&& 0x3f).toInt64) ||| (((0 : Int32) + (1 : Int32)).toInt64)).toInt32 - (1 : Int32)))]))
    refine o_if_ne_f X_1764 K at_132 135 rfl (by rw [own_i2]; rfl) ?_
    refine o_aload X_1764 K at_135 137 rfl rfl rfl ?_
    refine o_invokevirtual X_1764 K at_137 140 rfl (w_140 hw) (w_141 hw) (w_143 hw) (w_142 hw) (w_46 hw) (w_144 hw) (by decide) f_1779 [] [] rfl  (c_count l Z a0 hw n0 nt ((0 : Int32) + (1 : Int32)) h_1764 Z_1764 f_1788) e_1764 rfl (lenOf pd___I rfl) (by decide) 0 (Nat.le_of_eq rfl) (by decide) (by decide) (by decide) N_1764 ?_
    rintro _ T_1791 h_1791 locs_1791 X_1791 q_1791 ⟨rfl, r_1791⟩ N_1791
    have e_1791 := q_1791.trans r_1791
    show OGo p e below _ n0 _ (T_1791.setTop (mkF m 140 #[.val (.int p0), .val (.int p1), .val (.int p2), .val (.int p3), .val (.int p4), .val (.int p5), .val (.int y0), .val (.int y1), .val (.ref s1), .val (.ref s2), .val (.ref nt), .val (.int (0 : Int32)), .val (.ref hs), .val (.int n), .val (.int (1 : Int32))] [(.int ((0 : Int32) + (1 : Int32)))]))
    refine o_iconst X_1791 K (1 : Int32) at_140 141 rfl rfl ?_
    refine o_icmp_ne_f X_1791 K at_141 144 rfl (by decide) ?_
    refine o_iconst X_1791 K (1 : Int32) at_144 145 rfl rfl ?_
    refine o_goto X_1791 K at_145 149 (by decide) (by decide) ?_
    refine o_istore X_1791 K at_149 151 rfl #[.val (.int p0), .val (.int p1), .val (.int p2), .val (.int p3), .val (.int p4), .val (.int p5), .val (.int y0), .val (.int y1), .val (.ref s1), .val (.ref s2), .val (.ref nt), .val (.int (0 : Int32)), .val (.ref hs), .val (.int n), .val (.int (1 : Int32))] rfl rfl ?_
    refine o_iload X_1791 K at_151 153 rfl rfl ?_
    refine o_if_eq_f X_1791 K at_153 156 rfl (by decide) ?_
    rcases Classical.em (((own_hash [(own_e1 (y0.toInt8.toInt32)), (own_e2 (y0.toInt8.toInt32)), (y1.toInt8.toInt32)] (3 : Int32)) &&& (1023 : Int32)).toInt.toNat = ((own_hash [(own_e1 (y0.toInt8.toInt32)), (own_e2 (y0.toInt8.toInt32))] (2 : Int32)) &&& (1023 : Int32)).toInt.toNat) with hcol | hcol
    · skip
      have hnx := own_next (own_hash [(own_e1 (y0.toInt8.toInt32)), (own_e2 (y0.toInt8.toInt32)), (y1.toInt8.toInt32)] (3 : Int32))
      refine o_aload X_1791 K at_156 158 rfl rfl rfl ?_
      refine o_aload X_1791 K at_158 160 rfl rfl rfl ?_
      refine o_invokevirtual X_1791 K at_160 163 rfl (w_61 hw) (w_62 hw) (w_64 hw) (w_63 hw) (w_46 hw) (w_65 hw) (by decide) f_1779 [(.ref s2)] [] rfl  (c_nSC_np l Z a0 hw n0 nt s2 t2 u8 ba sa la (y0.toInt8.toInt32) (y1.toInt8.toInt32) zcs ((0 : Int32) + ((2 : Int32) - (0 : Int32))) ((0 : Int32) + (1 : Int32)) _ _ (own_put (2 * ((own_hash [(own_e1 (y0.toInt8.toInt32)), (own_e2 (y0.toInt8.toInt32))] (2 : Int32)) &&& (1023 : Int32)).toInt.toNat) (2 * ((own_hash [(own_e1 (y0.toInt8.toInt32)), (own_e2 (y0.toInt8.toInt32))] (2 : Int32)) &&& (1023 : Int32)).toInt.toNat + 1) (((own_hash [(own_e1 (y0.toInt8.toInt32)), (own_e2 (y0.toInt8.toInt32))] (2 : Int32)).toInt64 <<< ((32 : Int32) &&& 0x3f).toInt64) ||| (((0 : Int32) + (1 : Int32)).toInt64)) (own_key [(own_e1 (y0.toInt8.toInt32)), (own_e2 (y0.toInt8.toInt32))] (2 : Int32)) (fun _ => 0)) pw (((own_hash [(own_e1 (y0.toInt8.toInt32)), (own_e2 (y0.toInt8.toInt32))] (2 : Int32)).toInt64 <<< ((32 : Int32) &&& 0x3f).toInt64) ||| (((0 : Int32) + (1 : Int32)).toInt64)) (own_key [(own_e1 (y0.toInt8.toInt32)), (own_e2 (y0.toInt8.toInt32))] (2 : Int32)) h_1764 Z_1764 f_1765 (hcs) f_1766 f_1767 f_1773 f_1775 f_1776 f_1777 f_1778 (g0) (o_nb _) (g1) (o_nb _) f_1779 f_1784 f_1785 f_1786 f_1787 f_1788 f_1789 f_1790 g_nt f_1780 gg_1606_ba f_1781 gg_1606_sa f_1782 gg_1606_la ne_nt_ba ne_nt_sa p_1606_n1 (Ne.symm ne_nt_la) (Ne.symm p_1606_n2) (Ne.symm p_1606_n3) ne_s2_nt ne_s2_ba ne_s2_sa ne_s2_la ne_t2_nt ne_t2_ba ne_t2_sa ne_t2_la (by decide) (by decide) (by rw [hcol]; exact own_putb) (own_i0 _) (by rw [hcol]; exact own_puta own_n3) (own_k23 _ _ _ _ _) (own_puto (own_n1 (fun q_ => hnx (q_.trans hcol.symm))) own_n2)) e_1791 rfl (lenOf pd__Ljava_lang_String__I rfl) (by decide) 0 (Nat.le_of_eq rfl) (by decide) (by decide) (by decide) N_1791 ?_
      rintro _ T_1792 h_1792 locs_1792 X_1792 e_1792 ⟨rfl, k_1792, p_1792f0, p_1792f1, p_1792f2, p_1792f3, p_1792f4, p_1792f5, p_1792f6, p_1792f7, p_1792f8, p_1792f9, p_1792f10⟩ N_1792
      have Z_1792 : n0 ≤ h_1792.size := Nat.le_trans Z_1764 k_1792.1
      have f_1793 := o_sta_keep f_1765 k_1792 (o_plainS f_1779 (o_plainR f_1780 (o_plainR f_1781 (o_plainR f_1782 (o_plain0)))))
      have f_1794 := o_sta_keep f_1766 k_1792 (o_plainS f_1779 (o_plainR f_1780 (o_plainR f_1781 (o_plainR f_1782 (o_plain0)))))
      have f_1795 := o_sta_keep f_1767 k_1792 (o_plainS f_1779 (o_plainR f_1780 (o_plainR f_1781 (o_plainR f_1782 (o_plain0)))))
      have f_1796 := Exa.keep f_1768 k_1792
      have f_1797 := Fld.keep f_1769 k_1792 (ninS ne_s1_nt (ninS ne_s1_ba (ninS ne_s1_sa (ninS ne_s1_la (nin0)))))
      have f_1798 := Fld.keep f_1770 k_1792 (ninS ne_s1_nt (ninS ne_s1_ba (ninS ne_s1_sa (ninS ne_s1_la (nin0)))))
      have f_1799 := f_1771.keep k_1792 (ninS ne_t1_nt (ninS ne_t1_ba (ninS ne_t1_sa (ninS ne_t1_la (nin0)))))
      have f_1800 := Exa.keep f_1772 k_1792
      have f_1801 := Exa.keep f_1773 k_1792
      have f_1802 := f_1774.keep k_1792 (ninS ne_ca_nt (ninS ne_ca_ba (ninS ne_ca_sa (ninS ne_ca_la (nin0)))))
      have f_1803 := Fld.keep f_1775 k_1792 (ninS ne_s2_nt (ninS ne_s2_ba (ninS ne_s2_sa (ninS ne_s2_la (nin0)))))
      have f_1804 := Fld.keep f_1776 k_1792 (ninS ne_s2_nt (ninS ne_s2_ba (ninS ne_s2_sa (ninS ne_s2_la (nin0)))))
      have f_1805 := f_1777.keep k_1792 (ninS ne_t2_nt (ninS ne_t2_ba (ninS ne_t2_sa (ninS ne_t2_la (nin0)))))
      have f_1806 := Exa.keep f_1778 k_1792
      have f_1807 := Exa.keep f_1779 k_1792
      have f_1808 := f_1783.keep k_1792 (ninS (Ne.symm ne_nt_hs) (ninS (Ne.symm ne_ba_hs) (ninS (Ne.symm ne_sa_hs) (ninS (Ne.symm ne_la_hs) (nin0)))))
      show OGo p e below _ n0 _ (T_1792.setTop (mkF m 163 #[.val (.int p0), .val (.int p1), .val (.int p2), .val (.int p3), .val (.int p4), .val (.int p5), .val (.int y0), .val (.int y1), .val (.ref s1), .val (.ref s2), .val (.ref nt), .val (.int (0 : Int32)), .val (.ref hs), .val (.int n), .val (.int (1 : Int32))] [(.int ((0 : Int32) + (1 : Int32)))]))
      refine o_iconst X_1792 K (1 : Int32) at_163 164 rfl rfl ?_
      refine o_icmp_ne_f X_1792 K at_164 167 rfl (by decide) ?_
      refine o_aload X_1792 K at_167 169 rfl rfl rfl ?_
      refine o_invokevirtual X_1792 K at_169 172 rfl (w_140 hw) (w_141 hw) (w_143 hw) (w_142 hw) (w_46 hw) (w_144 hw) (by decide) p_1792f0 [] [] rfl  (c_count l Z a0 hw n0 nt (((0 : Int32) + (1 : Int32)) + (1 : Int32)) h_1792 Z_1792 p_1792f5) e_1792 rfl (lenOf pd___I rfl) (by decide) 0 (Nat.le_of_eq rfl) (by decide) (by decide) (by decide) N_1792 ?_
      rintro _ T_1809 h_1809 locs_1809 X_1809 q_1809 ⟨rfl, r_1809⟩ N_1809
      have e_1809 := q_1809.trans r_1809
      show OGo p e below _ n0 _ (T_1809.setTop (mkF m 172 #[.val (.int p0), .val (.int p1), .val (.int p2), .val (.int p3), .val (.int p4), .val (.int p5), .val (.int y0), .val (.int y1), .val (.ref s1), .val (.ref s2), .val (.ref nt), .val (.int (0 : Int32)), .val (.ref hs), .val (.int n), .val (.int (1 : Int32))] [(.int (((0 : Int32) + (1 : Int32)) + (1 : Int32)))]))
      refine o_iconst X_1809 K (2 : Int32) at_172 173 rfl rfl ?_
      refine o_icmp_ne_f X_1809 K at_173 176 rfl (by decide) ?_
      refine o_iconst X_1809 K (1 : Int32) at_176 177 rfl rfl ?_
      refine o_goto X_1809 K at_177 181 (by decide) (by decide) ?_
      refine o_istore X_1809 K at_181 183 rfl #[.val (.int p0), .val (.int p1), .val (.int p2), .val (.int p3), .val (.int p4), .val (.int p5), .val (.int y0), .val (.int y1), .val (.ref s1), .val (.ref s2), .val (.ref nt), .val (.int (0 : Int32)), .val (.ref hs), .val (.int n), .val (.int (1 : Int32))] rfl rfl ?_
      refine o_iload X_1809 K at_183 185 rfl rfl ?_
      refine o_ireturnN X_1809 K (by decide) at_185 (by decide) (by decide) N_1809 ?_
      exact rfl
    · skip
      refine o_aload X_1791 K at_156 158 rfl rfl rfl ?_
      refine o_aload X_1791 K at_158 160 rfl rfl rfl ?_
      refine o_invokevirtual X_1791 K at_160 163 rfl (w_61 hw) (w_62 hw) (w_64 hw) (w_63 hw) (w_46 hw) (w_65 hw) (by decide) f_1779 [(.ref s2)] [] rfl  (c_nSI_np l Z a0 hw n0 nt s2 t2 u8 ba sa la (y0.toInt8.toInt32) (y1.toInt8.toInt32) zcs ((0 : Int32) + ((2 : Int32) - (0 : Int32))) ((0 : Int32) + (1 : Int32)) _ _ (own_put (2 * ((own_hash [(own_e1 (y0.toInt8.toInt32)), (own_e2 (y0.toInt8.toInt32))] (2 : Int32)) &&& (1023 : Int32)).toInt.toNat) (2 * ((own_hash [(own_e1 (y0.toInt8.toInt32)), (own_e2 (y0.toInt8.toInt32))] (2 : Int32)) &&& (1023 : Int32)).toInt.toNat + 1) (((own_hash [(own_e1 (y0.toInt8.toInt32)), (own_e2 (y0.toInt8.toInt32))] (2 : Int32)).toInt64 <<< ((32 : Int32) &&& 0x3f).toInt64) ||| (((0 : Int32) + (1 : Int32)).toInt64)) (own_key [(own_e1 (y0.toInt8.toInt32)), (own_e2 (y0.toInt8.toInt32))] (2 : Int32)) (fun _ => 0)) pw h_1764 Z_1764 f_1765 (hcs) f_1766 f_1767 f_1773 f_1775 f_1776 f_1777 f_1778 (g0) (o_nb _) (g1) (o_nb _) f_1779 f_1784 f_1785 f_1786 f_1787 f_1788 f_1789 f_1790 g_nt f_1780 gg_1606_ba f_1781 gg_1606_sa f_1782 gg_1606_la ne_nt_ba ne_nt_sa p_1606_n1 (Ne.symm ne_nt_la) (Ne.symm p_1606_n2) (Ne.symm p_1606_n3) ne_s2_nt ne_s2_ba ne_s2_sa ne_s2_la ne_t2_nt ne_t2_ba ne_t2_sa ne_t2_la (by decide) (by decide) (own_puto (own_n1 hcol) own_n2)) e_1791 rfl (lenOf pd__Ljava_lang_String__I rfl) (by decide) 0 (Nat.le_of_eq rfl) (by decide) (by decide) (by decide) N_1791 ?_
      rintro _ T_1810 h_1810 locs_1810 X_1810 e_1810 ⟨rfl, k_1810, p_1810f0, p_1810f1, p_1810f2, p_1810f3, p_1810f4, p_1810f5, p_1810f6, p_1810f7, p_1810f8, p_1810f9, p_1810f10⟩ N_1810
      have Z_1810 : n0 ≤ h_1810.size := Nat.le_trans Z_1764 k_1810.1
      have f_1811 := o_sta_keep f_1765 k_1810 (o_plainS f_1779 (o_plainR f_1780 (o_plainR f_1781 (o_plainR f_1782 (o_plain0)))))
      have f_1812 := o_sta_keep f_1766 k_1810 (o_plainS f_1779 (o_plainR f_1780 (o_plainR f_1781 (o_plainR f_1782 (o_plain0)))))
      have f_1813 := o_sta_keep f_1767 k_1810 (o_plainS f_1779 (o_plainR f_1780 (o_plainR f_1781 (o_plainR f_1782 (o_plain0)))))
      have f_1814 := Exa.keep f_1768 k_1810
      have f_1815 := Fld.keep f_1769 k_1810 (ninS ne_s1_nt (ninS ne_s1_ba (ninS ne_s1_sa (ninS ne_s1_la (nin0)))))
      have f_1816 := Fld.keep f_1770 k_1810 (ninS ne_s1_nt (ninS ne_s1_ba (ninS ne_s1_sa (ninS ne_s1_la (nin0)))))
      have f_1817 := f_1771.keep k_1810 (ninS ne_t1_nt (ninS ne_t1_ba (ninS ne_t1_sa (ninS ne_t1_la (nin0)))))
      have f_1818 := Exa.keep f_1772 k_1810
      have f_1819 := Exa.keep f_1773 k_1810
      have f_1820 := f_1774.keep k_1810 (ninS ne_ca_nt (ninS ne_ca_ba (ninS ne_ca_sa (ninS ne_ca_la (nin0)))))
      have f_1821 := Fld.keep f_1775 k_1810 (ninS ne_s2_nt (ninS ne_s2_ba (ninS ne_s2_sa (ninS ne_s2_la (nin0)))))
      have f_1822 := Fld.keep f_1776 k_1810 (ninS ne_s2_nt (ninS ne_s2_ba (ninS ne_s2_sa (ninS ne_s2_la (nin0)))))
      have f_1823 := f_1777.keep k_1810 (ninS ne_t2_nt (ninS ne_t2_ba (ninS ne_t2_sa (ninS ne_t2_la (nin0)))))
      have f_1824 := Exa.keep f_1778 k_1810
      have f_1825 := Exa.keep f_1779 k_1810
      have f_1826 := f_1783.keep k_1810 (ninS (Ne.symm ne_nt_hs) (ninS (Ne.symm ne_ba_hs) (ninS (Ne.symm ne_sa_hs) (ninS (Ne.symm ne_la_hs) (nin0)))))
      show OGo p e below _ n0 _ (T_1810.setTop (mkF m 163 #[.val (.int p0), .val (.int p1), .val (.int p2), .val (.int p3), .val (.int p4), .val (.int p5), .val (.int y0), .val (.int y1), .val (.ref s1), .val (.ref s2), .val (.ref nt), .val (.int (0 : Int32)), .val (.ref hs), .val (.int n), .val (.int (1 : Int32))] [(.int ((0 : Int32) + (1 : Int32)))]))
      refine o_iconst X_1810 K (1 : Int32) at_163 164 rfl rfl ?_
      refine o_icmp_ne_f X_1810 K at_164 167 rfl (by decide) ?_
      refine o_aload X_1810 K at_167 169 rfl rfl rfl ?_
      refine o_invokevirtual X_1810 K at_169 172 rfl (w_140 hw) (w_141 hw) (w_143 hw) (w_142 hw) (w_46 hw) (w_144 hw) (by decide) p_1810f0 [] [] rfl  (c_count l Z a0 hw n0 nt (((0 : Int32) + (1 : Int32)) + (1 : Int32)) h_1810 Z_1810 p_1810f5) e_1810 rfl (lenOf pd___I rfl) (by decide) 0 (Nat.le_of_eq rfl) (by decide) (by decide) (by decide) N_1810 ?_
      rintro _ T_1827 h_1827 locs_1827 X_1827 q_1827 ⟨rfl, r_1827⟩ N_1827
      have e_1827 := q_1827.trans r_1827
      show OGo p e below _ n0 _ (T_1827.setTop (mkF m 172 #[.val (.int p0), .val (.int p1), .val (.int p2), .val (.int p3), .val (.int p4), .val (.int p5), .val (.int y0), .val (.int y1), .val (.ref s1), .val (.ref s2), .val (.ref nt), .val (.int (0 : Int32)), .val (.ref hs), .val (.int n), .val (.int (1 : Int32))] [(.int (((0 : Int32) + (1 : Int32)) + (1 : Int32)))]))
      refine o_iconst X_1827 K (2 : Int32) at_172 173 rfl rfl ?_
      refine o_icmp_ne_f X_1827 K at_173 176 rfl (by decide) ?_
      refine o_iconst X_1827 K (1 : Int32) at_176 177 rfl rfl ?_
      refine o_goto X_1827 K at_177 181 (by decide) (by decide) ?_
      refine o_istore X_1827 K at_181 183 rfl #[.val (.int p0), .val (.int p1), .val (.int p2), .val (.int p3), .val (.int p4), .val (.int p5), .val (.int y0), .val (.int y1), .val (.ref s1), .val (.ref s2), .val (.ref nt), .val (.int (0 : Int32)), .val (.ref hs), .val (.int n), .val (.int (1 : Int32))] rfl rfl ?_
      refine o_iload X_1827 K at_183 185 rfl rfl ?_
      refine o_ireturnN X_1827 K (by decide) at_185 (by decide) (by decide) N_1827 ?_
      exact rfl
  · skip
    refine o_iload X0 K at_16 18 rfl rfl ?_
    refine o_invokestatic X0 K at_18 21 rfl (w_0 hw) (w_1 hw) (w_2 hw) (w_3 hw) (by decide) [(.int y0)] [] rfl  (c_sval l Z a0 hw n0 y0 zcs h0 Z0 S_COMPACT_STRINGS (hcs) (hy0)) e0 rfl (lenOf pd__C_Ljava_lang_String_ rfl) (by decide) 0 (Nat.le_of_eq rfl) (by decide) (by decide) (by decide) N0 ?_
    rintro _ T_1828 h_1828 locs_1828 X_1828 e_1828 ⟨s1, t1, rfl, k_1828, gg_1828_sx, sz_1828_sx, gg_1828_tb, sz_1828_tb, p_1828f0, p_1828f1, p_1828f2, p_1828f3, p_1828f4⟩ N_1828
    have Z_1828 : n0 ≤ h_1828.size := Nat.le_trans Z0 k_1828.1
    have f_1829 := o_sta_keep S_COMPACT_STRINGS k_1828 (o_plain0)
    have f_1830 := o_sta_keep S_INSTANCE k_1828 (o_plain0)
    have f_1831 := o_sta_keep S_UTF_8 k_1828 (o_plain0)
    show OGo p e below _ n0 _ (T_1828.setTop (mkF m 21 #[.val (.int p0), .val (.int p1), .val (.int p2), .val (.int p3), .val (.int p4), .val (.int p5), .val (.int y0), .val (.int y1), .unset, .unset, .unset, .unset, .unset, .unset, .unset] [(.ref s1)]))
    refine o_astore X_1828 K at_21 23 rfl #[.val (.int p0), .val (.int p1), .val (.int p2), .val (.int p3), .val (.int p4), .val (.int p5), .val (.int y0), .val (.int y1), .val (.ref s1), .unset, .unset, .unset, .unset, .unset, .unset] rfl rfl ?_
    refine o_new X_1828 K at_23 26 rfl (w_26 hw) (w_10 hw) (w_2 hw) e_1828 (by decide) (by decide) ?_
    intro T_1832 h_1832 s2 g_1832 X_1832 e_1832 E_1832 B_1832 D_1832
    have Z_1832 : n0 ≤ h_1832.size := Nat.le_trans Z_1828 E_1832.1
    have f_1833 := Sta.ext E_1832 f_1829
    have f_1834 := Sta.ext E_1832 f_1830
    have f_1835 := Sta.ext E_1832 f_1831
    have f_1836 := Exa.ext E_1832 p_1828f0
    have f_1837 := Fld.ext E_1832 p_1828f1
    have f_1838 := Fld.ext E_1832 p_1828f2
    have f_1839 := p_1828f3.ext E_1832
    have f_1840 := Exa.ext E_1832 p_1828f4
    have g_s2 : n0 ≤ s2 := by rw [g_1832]; exact Z_1828
    have ne_s1_s2 : s1 ≠ s2 := by rw [g_1832]; exact Nat.ne_of_lt p_1828f0.lt
    have ne_t1_s2 : t1 ≠ s2 := by rw [g_1832]; exact Nat.ne_of_lt p_1828f3.lt
    have F_value__1832 : Fld Z h_1832 s2 "java/lang/String" "value" "[B" .null := D_1832 (Or.inr (w_23 hw)) (ty := (.array .byte)) (by decide)
    have F_coder__1832 : Fld Z h_1832 s2 "java/lang/String" "coder" "B" (.int (0 : Int32)) := D_1832 (Or.inr (w_25 hw)) (ty := .byte) (by decide)
    refine o_dup X_1832 K at_26 27 rfl rfl ?_
    refine o_iconst X_1832 K (2 : Int32) at_27 28 rfl rfl ?_
    refine o_newarray X_1832 K (n := 2) at_28 30 rfl (w_27 hw) e_1832 (by decide) 2 (by decide) (by decide) (by decide) (by decide) rfl ?_
    intro T_1841 h_1841 ca g_1841 X_1841 e_1841 E_1841 A_1841
    dsimp only [newarray.typeOf, defaultValue] at A_1841
    have Z_1841 : n0 ≤ h_1841.size := Nat.le_trans Z_1832 E_1841.1
    have f_1842 := Sta.ext E_1841 f_1833
    have f_1843 := Sta.ext E_1841 f_1834
    have f_1844 := Sta.ext E_1841 f_1835
    have f_1845 := Exa.ext E_1841 f_1836
    have f_1846 := Fld.ext E_1841 f_1837
    have f_1847 := Fld.ext E_1841 f_1838
    have f_1848 := f_1839.ext E_1841
    have f_1849 := Exa.ext E_1841 f_1840
    have f_1850 := Exa.ext E_1841 B_1832
    have f_1851 := Fld.ext E_1841 F_value__1832
    have f_1852 := Fld.ext E_1841 F_coder__1832
    have g_ca : n0 ≤ ca := by rw [g_1841]; exact Z_1832
    have ne_s1_ca : s1 ≠ ca := by rw [g_1841]; exact Nat.ne_of_lt f_1836.lt
    have ne_t1_ca : t1 ≠ ca := by rw [g_1841]; exact Nat.ne_of_lt f_1839.lt
    have ne_s2_ca : s2 ≠ ca := by rw [g_1841]; exact Nat.ne_of_lt B_1832.lt
    refine o_dup X_1841 K at_30 31 rfl rfl ?_
    refine o_iconst X_1841 K (0 : Int32) at_31 32 rfl rfl ?_
    refine o_iload X_1841 K at_32 34 rfl rfl ?_
    refine o_castore X_1841 K (i := 0) (x' := y0) at_34 35 rfl e_1841 A_1841 (by decide) (by decide) (hn0) N_1828 g_ca ?_
    intro T_1853 h_1853 locs_1853 X_1853 e_1853 W_1853 A_1853 N_1853
    have Z_1853 : n0 ≤ h_1853.size := by rw [Wr.size W_1853]; exact Z_1841
    have f_1854 := Sta.wr W_1853 f_1842
    have f_1855 := Sta.wr W_1853 f_1843
    have f_1856 := Sta.wr W_1853 f_1844
    have f_1857 := Exa.wr W_1853 f_1845
    have f_1858 := Fld.other W_1853 f_1846 (Or.inl ne_s1_ca)
    have f_1859 := Fld.other W_1853 f_1847 (Or.inl ne_s1_ca)
    have f_1860 := f_1848.other W_1853 ne_t1_ca
    have f_1861 := Exa.wr W_1853 f_1849
    have f_1862 := Exa.wr W_1853 f_1850
    have f_1863 := Fld.other W_1853 f_1851 (Or.inl ne_s2_ca)
    have f_1864 := Fld.other W_1853 f_1852 (Or.inl ne_s2_ca)
    refine o_dup X_1853 K at_35 36 rfl rfl ?_
    refine o_iconst X_1853 K (1 : Int32) at_36 37 rfl rfl ?_
    refine o_iload X_1853 K at_37 39 rfl rfl ?_
    refine o_castore X_1853 K (i := 1) (x' := y1) at_39 40 rfl e_1853 A_1853 (by decide) (by decide) (hn1) N_1853 g_ca ?_
    intro T_1865 h_1865 locs_1865 X_1865 e_1865 W_1865 A_1865 N_1865
    have Z_1865 : n0 ≤ h_1865.size := by rw [Wr.size W_1865]; exact Z_1853
    have f_1866 := Sta.wr W_1865 f_1854
    have f_1867 := Sta.wr W_1865 f_1855
    have f_1868 := Sta.wr W_1865 f_1856
    have f_1869 := Exa.wr W_1865 f_1857
    have f_1870 := Fld.other W_1865 f_1858 (Or.inl ne_s1_ca)
    have f_1871 := Fld.other W_1865 f_1859 (Or.inl ne_s1_ca)
    have f_1872 := f_1860.other W_1865 ne_t1_ca
    have f_1873 := Exa.wr W_1865 f_1861
    have f_1874 := Exa.wr W_1865 f_1862
    have f_1875 := Fld.other W_1865 f_1863 (Or.inl ne_s2_ca)
    have f_1876 := Fld.other W_1865 f_1864 (Or.inl ne_s2_ca)
    have AB_1877 := OAr.congr A_1865 (g := own_B [y0, y1]) (fun j hj => by rcases (by omega : j = 0 ∨ j = 1) with rfl | rfl <;> rfl)
    refine o_invokespecial X_1865 K at_40 43 rfl rfl (w_28 hw) (w_29 hw) (w_2 hw) (w_30 hw) (by decide) [(.ref ca)] [(.ref s2)] rfl  (c_new6 l Z a0 hw n0 s2 ca y0 y1 zcs h_1865 Z_1865 f_1866 (hcs) f_1874 f_1875 f_1876 g_s2 AB_1877 ne_s2_ca (hy0) (hy1)) e_1865 rfl (lenOf pd___C_V rfl) (by decide) 1 (Nat.le_of_eq rfl) (by decide) (by decide) (by decide) N_1865 ?_
    rintro _ T_1878 h_1878 locs_1878 X_1878 e_1878 ⟨t2, rfl, k_1878, gg_1878_bb, sz_1878_bb, p_1878f0, p_1878f1, p_1878f2, p_1878f3, p_1878f4⟩ N_1878
    have Z_1878 : n0 ≤ h_1878.size := Nat.le_trans Z_1865 k_1878.1
    have f_1879 := o_sta_keep f_1866 k_1878 (o_plainS f_1874 (o_plain0))
    have f_1880 := o_sta_keep f_1867 k_1878 (o_plainS f_1874 (o_plain0))
    have f_1881 := o_sta_keep f_1868 k_1878 (o_plainS f_1874 (o_plain0))
    have f_1882 := Exa.keep f_1869 k_1878
    have f_1883 := Fld.keep f_1870 k_1878 (ninS ne_s1_s2 (nin0))
    have f_1884 := Fld.keep f_1871 k_1878 (ninS ne_s1_s2 (nin0))
    have f_1885 := f_1872.keep k_1878 (ninS ne_t1_s2 (nin0))
    have f_1886 := Exa.keep f_1873 k_1878
    have f_1887 := Exa.keep f_1874 k_1878
    have f_1888 := AB_1877.keep k_1878 (ninS (Ne.symm ne_s2_ca) (nin0))
    have ne_s1_t2 : s1 ≠ t2 := Nat.ne_of_lt (Nat.lt_of_lt_of_le f_1869.lt sz_1878_bb)
    have ne_t1_t2 : t1 ≠ t2 := Nat.ne_of_lt (Nat.lt_of_lt_of_le f_1872.lt sz_1878_bb)
    have ne_s2_t2 : s2 ≠ t2 := Nat.ne_of_lt (Nat.lt_of_lt_of_le f_1874.lt sz_1878_bb)
    have ne_ca_t2 : ca ≠ t2 := Nat.ne_of_lt (Nat.lt_of_lt_of_le AB_1877.lt sz_1878_bb)
    show OGo p e below _ n0 _ (T_1878.setTop (mkF m 43 #[.val (.int p0), .val (.int p1), .val (.int p2), .val (.int p3), .val (.int p4), .val (.int p5), .val (.int y0), .val (.int y1), .val (.ref s1), .unset, .unset, .unset, .unset, .unset, .unset] [(.ref s2)]))
    refine o_astore X_1878 K at_43 45 rfl #[.val (.int p0), .val (.int p1), .val (.int p2), .val (.int p3), .val (.int p4), .val (.int p5), .val (.int y0), .val (.int y1), .val (.ref s1), .val (.ref s2), .unset, .unset, .unset, .unset, .unset] rfl rfl ?_
    refine o_new X_1878 K at_45 48 rfl (w_44 hw) (w_45 hw) (w_46 hw) e_1878 (by decide) (by decide) ?_
    intro T_1889 h_1889 nt g_1889 X_1889 e_1889 E_1889 B_1889 D_1889
    have Z_1889 : n0 ≤ h_1889.size := Nat.le_trans Z_1878 E_1889.1
    have f_1890 := Sta.ext E_1889 f_1879
    have f_1891 := Sta.ext E_1889 f_1880
    have f_1892 := Sta.ext E_1889 f_1881
    have f_1893 := Exa.ext E_1889 f_1882
    have f_1894 := Fld.ext E_1889 f_1883
    have f_1895 := Fld.ext E_1889 f_1884
    have f_1896 := f_1885.ext E_1889
    have f_1897 := Exa.ext E_1889 f_1886
    have f_1898 := Exa.ext E_1889 p_1878f0
    have f_1899 := f_1888.ext E_1889
    have f_1900 := Fld.ext E_1889 p_1878f1
    have f_1901 := Fld.ext E_1889 p_1878f2
    have f_1902 := p_1878f3.ext E_1889
    have f_1903 := Exa.ext E_1889 p_1878f4
    have g_nt : n0 ≤ nt := by rw [g_1889]; exact Z_1878
    have ne_s1_nt : s1 ≠ nt := by rw [g_1889]; exact Nat.ne_of_lt f_1882.lt
    have ne_t1_nt : t1 ≠ nt := by rw [g_1889]; exact Nat.ne_of_lt f_1885.lt
    have ne_s2_nt : s2 ≠ nt := by rw [g_1889]; exact Nat.ne_of_lt p_1878f0.lt
    have ne_ca_nt : ca ≠ nt := by rw [g_1889]; exact Nat.ne_of_lt f_1888.lt
    have ne_t2_nt : t2 ≠ nt := by rw [g_1889]; exact Nat.ne_of_lt p_1878f3.lt
    have F_bytes__1889 : Fld Z h_1889 nt "com/example/vikt/vikt/graph/NameTable" "bytes" "[B" .null := D_1889 (Or.inl (w_52 hw)) (ty := (.array .byte)) (by decide)
    have F_starts__1889 : Fld Z h_1889 nt "com/example/vikt/vikt/graph/NameTable" "starts" "[I" .null := D_1889 (Or.inl (w_55 hw)) (ty := (.array .int)) (by decide)
    have F_slots__1889 : Fld Z h_1889 nt "com/example/vikt/vikt/graph/NameTable" "slots" "[J" .null := D_1889 (Or.inl (w_58 hw)) (ty := (.array .long)) (by decide)
    have F_mask__1889 : Fld Z h_1889 nt "com/example/vikt/vikt/graph/NameTable" "mask" "I" (.int (0 : Int32)) := D_1889 (Or.inl (w_60 hw)) (ty := .int) (by decide)
    have F_used__1889 : Fld Z h_1889 nt "com/example/vikt/vikt/graph/NameTable" "used" "I" (.int (0 : Int32)) := D_1889 (Or.inl (w_125 hw)) (ty := .int) (by decide)
    have F_count__1889 : Fld Z h_1889 nt "com/example/vikt/vikt/graph/NameTable" "count" "I" (.int (0 : Int32)) := D_1889 (Or.inl (w_127 hw)) (ty := .int) (by decide)
    have F_prefetched__1889 : Fld Z h_1889 nt "com/example/vikt/vikt/graph/NameTable" "prefetched" "J" (.long (0 : Int64)) := D_1889 (Or.inl (w_139 hw)) (ty := .long) (by decide)
    refine o_dup X_1889 K at_48 49 rfl rfl ?_
    refine o_invokespecial X_1889 K at_49 52 rfl rfl (w_47 hw) (w_48 hw) (w_46 hw) (w_49 hw) (by decide) [] [(.ref nt)] rfl  (c_ninit l Z a0 hw n0 nt h_1889 Z_1889 B_1889 F_bytes__1889 F_starts__1889 F_slots__1889 F_mask__1889 F_count__1889 F_used__1889 F_prefetched__1889 g_nt) e_1889 rfl (lenOf pd___V rfl) (by decide) 1 (Nat.le_of_eq rfl) (by decide) (by decide) (by decide) N_1878 ?_
    rintro _ T_1904 h_1904 locs_1904 X_1904 e_1904 ⟨ba, sa, la, rfl, k_1904, gg_1904_ba, sz_1904_ba, gg_1904_sa, sz_1904_sa, gg_1904_la, sz_1904_la, p_1904f0, p_1904f1, p_1904f2, p_1904f3, p_1904f4, p_1904f5, p_1904f6, p_1904f7, p_1904f8, p_1904f9, p_1904f10, p_1904_n1, p_1904_n2, p_1904_n3⟩ N_1904
    have Z_1904 : n0 ≤ h_1904.size := Nat.le_trans Z_1889 k_1904.1
    have f_1905 := o_sta_keep f_1890 k_1904 (o_plainS B_1889 (o_plain0))
    have f_1906 := o_sta_keep f_1891 k_1904 (o_plainS B_1889 (o_plain0))
    have f_1907 := o_sta_keep f_1892 k_1904 (o_plainS B_1889 (o_plain0))
    have f_1908 := Exa.keep f_1893 k_1904
    have f_1909 := Fld.keep f_1894 k_1904 (ninS ne_s1_nt (nin0))
    have f_1910 := Fld.keep f_1895 k_1904 (ninS ne_s1_nt (nin0))
    have f_1911 := f_1896.keep k_1904 (ninS ne_t1_nt (nin0))
    have f_1912 := Exa.keep f_1897 k_1904
    have f_1913 := Exa.keep f_1898 k_1904
    have f_1914 := f_1899.keep k_1904 (ninS ne_ca_nt (nin0))
    have f_1915 := Fld.keep f_1900 k_1904 (ninS ne_s2_nt (nin0))
    have f_1916 := Fld.keep f_1901 k_1904 (ninS ne_s2_nt (nin0))
    have f_1917 := f_1902.keep k_1904 (ninS ne_t2_nt (nin0))
    have f_1918 := Exa.keep f_1903 k_1904
    have f_1919 := Exa.keep B_1889 k_1904
    have ne_s1_ba : s1 ≠ ba := Nat.ne_of_lt (Nat.lt_of_lt_of_le f_1893.lt sz_1904_ba)
    have ne_t1_ba : t1 ≠ ba := Nat.ne_of_lt (Nat.lt_of_lt_of_le f_1896.lt sz_1904_ba)
    have ne_s2_ba : s2 ≠ ba := Nat.ne_of_lt (Nat.lt_of_lt_of_le f_1898.lt sz_1904_ba)
    have ne_ca_ba : ca ≠ ba := Nat.ne_of_lt (Nat.lt_of_lt_of_le f_1899.lt sz_1904_ba)
    have ne_t2_ba : t2 ≠ ba := Nat.ne_of_lt (Nat.lt_of_lt_of_le f_1902.lt sz_1904_ba)
    have ne_nt_ba : nt ≠ ba := Nat.ne_of_lt (Nat.lt_of_lt_of_le B_1889.lt sz_1904_ba)
    have ne_s1_sa : s1 ≠ sa := Nat.ne_of_lt (Nat.lt_of_lt_of_le f_1893.lt sz_1904_sa)
    have ne_t1_sa : t1 ≠ sa := Nat.ne_of_lt (Nat.lt_of_lt_of_le f_1896.lt sz_1904_sa)
    have ne_s2_sa : s2 ≠ sa := Nat.ne_of_lt (Nat.lt_of_lt_of_le f_1898.lt sz_1904_sa)
    have ne_ca_sa : ca ≠ sa := Nat.ne_of_lt (Nat.lt_of_lt_of_le f_1899.lt sz_1904_sa)
    have ne_t2_sa : t2 ≠ sa := Nat.ne_of_lt (Nat.lt_of_lt_of_le f_1902.lt sz_1904_sa)
    have ne_nt_sa : nt ≠ sa := Nat.ne_of_lt (Nat.lt_of_lt_of_le B_1889.lt sz_1904_sa)
    have ne_s1_la : s1 ≠ la := Nat.ne_of_lt (Nat.lt_of_lt_of_le f_1893.lt sz_1904_la)
    have ne_t1_la : t1 ≠ la := Nat.ne_of_lt (Nat.lt_of_lt_of_le f_1896.lt sz_1904_la)
    have ne_s2_la : s2 ≠ la := Nat.ne_of_lt (Nat.lt_of_lt_of_le f_1898.lt sz_1904_la)
    have ne_ca_la : ca ≠ la := Nat.ne_of_lt (Nat.lt_of_lt_of_le f_1899.lt sz_1904_la)
    have ne_t2_la : t2 ≠ la := Nat.ne_of_lt (Nat.lt_of_lt_of_le f_1902.lt sz_1904_la)
    have ne_nt_la : nt ≠ la := Nat.ne_of_lt (Nat.lt_of_lt_of_le B_1889.lt sz_1904_la)
    show OGo p e below _ n0 _ (T_1904.setTop (mkF m 52 #[.val (.int p0), .val (.int p1), .val (.int p2), .val (.int p3), .val (.int p4), .val (.int p5), .val (.int y0), .val (.int y1), .val (.ref s1), .val (.ref s2), .unset, .unset, .unset, .unset, .unset] [(.ref nt)]))
    refine o_astore X_1904 K at_52 54 rfl #[.val (.int p0), .val (.int p1), .val (.int p2), .val (.int p3), .val (.int p4), .val (.int p5), .val (.int y0), .val (.int y1), .val (.ref s1), .val (.ref s2), .val (.ref nt), .unset, .unset, .unset, .unset] rfl rfl ?_
    refine o_aload X_1904 K at_54 56 rfl rfl rfl ?_
    refine o_aload X_1904 K at_56 58 rfl rfl rfl ?_
    refine o_invokevirtual X_1904 K at_58 61 rfl (w_61 hw) (w_62 hw) (w_64 hw) (w_63 hw) (w_46 hw) (w_65 hw) (by decide) p_1904f0 [(.ref s1)] [] rfl  (c_nSI_n l Z a0 hw n0 nt s1 t1 u8 ba sa la (y0.toInt8.toInt32) zcs (0 : Int32) (0 : Int32) _ _ (fun _ => 0) (0 : Int64) h_1904 Z_1904 f_1905 (hcs) f_1906 f_1907 f_1908 f_1909 f_1910 f_1911 f_1912 (g0) (o_nb _) p_1904f0 p_1904f1 p_1904f2 p_1904f3 p_1904f4 p_1904f5 p_1904f6 p_1904f7 g_nt p_1904f8 gg_1904_ba p_1904f9 gg_1904_sa p_1904f10 gg_1904_la ne_nt_ba ne_nt_sa p_1904_n1 (Ne.symm ne_nt_la) (Ne.symm p_1904_n2) (Ne.symm p_1904_n3) ne_s1_nt ne_s1_ba ne_s1_sa ne_s1_la ne_t1_nt ne_t1_ba ne_t1_sa ne_t1_la (by decide) (by decide) (rfl)) e_1904 rfl (lenOf pd__Ljava_lang_String__I rfl) (by decide) 0 (Nat.le_of_eq rfl) (by decide) (by decide) (by decide) N_1904 ?_
    rintro _ T_1920 h_1920 locs_1920 X_1920 e_1920 ⟨rfl, k_1920, p_1920f0, p_1920f1, p_1920f2, p_1920f3, p_1920f4, p_1920f5, p_1920f6, p_1920f7, p_1920f8, p_1920f9, p_1920f10⟩ N_1920
    have Z_1920 : n0 ≤ h_1920.size := Nat.le_trans Z_1904 k_1920.1
    have f_1921 := o_sta_keep f_1905 k_1920 (o_plainS p_1904f0 (o_plainR p_1904f8 (o_plainR p_1904f9 (o_plainR p_1904f10 (o_plain0)))))
    have f_1922 := o_sta_keep f_1906 k_1920 (o_plainS p_1904f0 (o_plainR p_1904f8 (o_plainR p_1904f9 (o_plainR p_1904f10 (o_plain0)))))
    have f_1923 := o_sta_keep f_1907 k_1920 (o_plainS p_1904f0 (o_plainR p_1904f8 (o_plainR p_1904f9 (o_plainR p_1904f10 (o_plain0)))))
    have f_1924 := Exa.keep f_1908 k_1920
    have f_1925 := Fld.keep f_1909 k_1920 (ninS ne_s1_nt (ninS ne_s1_ba (ninS ne_s1_sa (ninS ne_s1_la (nin0)))))
    have f_1926 := Fld.keep f_1910 k_1920 (ninS ne_s1_nt (ninS ne_s1_ba (ninS ne_s1_sa (ninS ne_s1_la (nin0)))))
    have f_1927 := f_1911.keep k_1920 (ninS ne_t1_nt (ninS ne_t1_ba (ninS ne_t1_sa (ninS ne_t1_la (nin0)))))
    have f_1928 := Exa.keep f_1912 k_1920
    have f_1929 := Exa.keep f_1913 k_1920
    have f_1930 := f_1914.keep k_1920 (ninS ne_ca_nt (ninS ne_ca_ba (ninS ne_ca_sa (ninS ne_ca_la (nin0)))))
    have f_1931 := Fld.keep f_1915 k_1920 (ninS ne_s2_nt (ninS ne_s2_ba (ninS ne_s2_sa (ninS ne_s2_la (nin0)))))
    have f_1932 := Fld.keep f_1916 k_1920 (ninS ne_s2_nt (ninS ne_s2_ba (ninS ne_s2_sa (ninS ne_s2_la (nin0)))))
    have f_1933 := f_1917.keep k_1920 (ninS ne_t2_nt (ninS ne_t2_ba (ninS ne_t2_sa (ninS ne_t2_la (nin0)))))
    have f_1934 := Exa.keep f_1918 k_1920
    have f_1935 := Exa.keep p_1904f0 k_1920
    show OGo p e below _ n0 _ (T_1920.setTop (mkF m 61 #[.val (.int p0), .val (.int p1), .val (.int p2), .val (.int p3), .val (.int p4), .val (.int p5), .val (.int y0), .val (.int y1), .val (.ref s1), .val (.ref s2), .val (.ref nt), .unset, .unset, .unset, .unset] [(.int (0 : Int32))]))
    refine o_istore X_1920 K at_61 63 rfl #[.val (.int p0), .val (.int p1), .val (.int p2), .val (.int p3), .val (.int p4), .val (.int p5), .val (.int y0), .val (.int y1), .val (.ref s1), .val (.ref s2), .val (.ref nt), .val (.int (0 : Int32)), .unset, .unset, .unset] rfl rfl ?_
    refine o_iconst X_1920 K (3 : Int32) at_63 64 rfl rfl ?_
    refine o_newarray X_1920 K (n := 3) at_64 66 rfl (w_53 hw) e_1920 (by decide) 3 (by decide) (by decide) (by decide) (by decide) rfl ?_
    intro T_1936 h_1936 hs g_1936 X_1936 e_1936 E_1936 A_1936
    dsimp only [newarray.typeOf, defaultValue] at A_1936
    have Z_1936 : n0 ≤ h_1936.size := Nat.le_trans Z_1920 E_1936.1
    have f_1937 := Sta.ext E_1936 f_1921
    have f_1938 := Sta.ext E_1936 f_1922
    have f_1939 := Sta.ext E_1936 f_1923
    have f_1940 := Exa.ext E_1936 f_1924
    have f_1941 := Fld.ext E_1936 f_1925
    have f_1942 := Fld.ext E_1936 f_1926
    have f_1943 := f_1927.ext E_1936
    have f_1944 := Exa.ext E_1936 f_1928
    have f_1945 := Exa.ext E_1936 f_1929
    have f_1946 := f_1930.ext E_1936
    have f_1947 := Fld.ext E_1936 f_1931
    have f_1948 := Fld.ext E_1936 f_1932
    have f_1949 := f_1933.ext E_1936
    have f_1950 := Exa.ext E_1936 f_1934
    have f_1951 := Exa.ext E_1936 p_1920f0
    have f_1952 := Fld.ext E_1936 p_1920f1
    have f_1953 := Fld.ext E_1936 p_1920f2
    have f_1954 := Fld.ext E_1936 p_1920f3
    have f_1955 := Fld.ext E_1936 p_1920f4
    have f_1956 := Fld.ext E_1936 p_1920f5
    have f_1957 := Fld.ext E_1936 p_1920f6
    have f_1958 := Fld.ext E_1936 p_1920f7
    have f_1959 := p_1920f8.ext E_1936
    have f_1960 := p_1920f9.ext E_1936
    have f_1961 := p_1920f10.ext E_1936
    have g_hs : n0 ≤ hs := by rw [g_1936]; exact Z_1920
    have ne_s1_hs : s1 ≠ hs := by rw [g_1936]; exact Nat.ne_of_lt f_1924.lt
    have ne_t1_hs : t1 ≠ hs := by rw [g_1936]; exact Nat.ne_of_lt f_1927.lt
    have ne_s2_hs : s2 ≠ hs := by rw [g_1936]; exact Nat.ne_of_lt f_1929.lt
    have ne_ca_hs : ca ≠ hs := by rw [g_1936]; exact Nat.ne_of_lt f_1930.lt
    have ne_t2_hs : t2 ≠ hs := by rw [g_1936]; exact Nat.ne_of_lt f_1933.lt
    have ne_nt_hs : nt ≠ hs := by rw [g_1936]; exact Nat.ne_of_lt p_1920f0.lt
    have ne_ba_hs : ba ≠ hs := by rw [g_1936]; exact Nat.ne_of_lt p_1920f8.lt
    have ne_sa_hs : sa ≠ hs := by rw [g_1936]; exact Nat.ne_of_lt p_1920f9.lt
    have ne_la_hs : la ≠ hs := by rw [g_1936]; exact Nat.ne_of_lt p_1920f10.lt
    refine o_dup X_1936 K at_66 67 rfl rfl ?_
    refine o_iconst X_1936 K (0 : Int32) at_67 68 rfl rfl ?_
    refine o_iloadN X_1936 K at_68 69 rfl rfl ?_
    refine o_iastore X_1936 K (i := 0) (x' := p2) at_69 70 rfl e_1936 A_1936 (by decide) (by decide) (rfl) N_1920 g_hs ?_
    intro T_1962 h_1962 locs_1962 X_1962 e_1962 W_1962 A_1962 N_1962
    have Z_1962 : n0 ≤ h_1962.size := by rw [Wr.size W_1962]; exact Z_1936
    have f_1963 := Sta.wr W_1962 f_1937
    have f_1964 := Sta.wr W_1962 f_1938
    have f_1965 := Sta.wr W_1962 f_1939
    have f_1966 := Exa.wr W_1962 f_1940
    have f_1967 := Fld.other W_1962 f_1941 (Or.inl ne_s1_hs)
    have f_1968 := Fld.other W_1962 f_1942 (Or.inl ne_s1_hs)
    have f_1969 := f_1943.other W_1962 ne_t1_hs
    have f_1970 := Exa.wr W_1962 f_1944
    have f_1971 := Exa.wr W_1962 f_1945
    have f_1972 := f_1946.other W_1962 ne_ca_hs
    have f_1973 := Fld.other W_1962 f_1947 (Or.inl ne_s2_hs)
    have f_1974 := Fld.other W_1962 f_1948 (Or.inl ne_s2_hs)
    have f_1975 := f_1949.other W_1962 ne_t2_hs
    have f_1976 := Exa.wr W_1962 f_1950
    have f_1977 := Exa.wr W_1962 f_1951
    have f_1978 := Fld.other W_1962 f_1952 (Or.inl ne_nt_hs)
    have f_1979 := Fld.other W_1962 f_1953 (Or.inl ne_nt_hs)
    have f_1980 := Fld.other W_1962 f_1954 (Or.inl ne_nt_hs)
    have f_1981 := Fld.other W_1962 f_1955 (Or.inl ne_nt_hs)
    have f_1982 := Fld.other W_1962 f_1956 (Or.inl ne_nt_hs)
    have f_1983 := Fld.other W_1962 f_1957 (Or.inl ne_nt_hs)
    have f_1984 := Fld.other W_1962 f_1958 (Or.inl ne_nt_hs)
    have f_1985 := f_1959.other W_1962 ne_ba_hs
    have f_1986 := f_1960.other W_1962 ne_sa_hs
    have f_1987 := f_1961.other W_1962 ne_la_hs
    refine o_dup X_1962 K at_70 71 rfl rfl ?_
    refine o_iconst X_1962 K (1 : Int32) at_71 72 rfl rfl ?_
    refine o_iloadN X_1962 K at_72 73 rfl rfl ?_
    refine o_iastore X_1962 K (i := 1) (x' := p3) at_73 74 rfl e_1962 A_1962 (by decide) (by decide) (rfl) N_1962 g_hs ?_
    intro T_1988 h_1988 locs_1988 X_1988 e_1988 W_1988 A_1988 N_1988
    have Z_1988 : n0 ≤ h_1988.size := by rw [Wr.size W_1988]; exact Z_1962
    have f_1989 := Sta.wr W_1988 f_1963
    have f_1990 := Sta.wr W_1988 f_1964
    have f_1991 := Sta.wr W_1988 f_1965
    have f_1992 := Exa.wr W_1988 f_1966
    have f_1993 := Fld.other W_1988 f_1967 (Or.inl ne_s1_hs)
    have f_1994 := Fld.other W_1988 f_1968 (Or.inl ne_s1_hs)
    have f_1995 := f_1969.other W_1988 ne_t1_hs
    have f_1996 := Exa.wr W_1988 f_1970
    have f_1997 := Exa.wr W_1988 f_1971
    have f_1998 := f_1972.other W_1988 ne_ca_hs
    have f_1999 := Fld.other W_1988 f_1973 (Or.inl ne_s2_hs)
    have f_2000 := Fld.other W_1988 f_1974 (Or.inl ne_s2_hs)
    have f_2001 := f_1975.other W_1988 ne_t2_hs
    have f_2002 := Exa.wr W_1988 f_1976
    have f_2003 := Exa.wr W_1988 f_1977
    have f_2004 := Fld.other W_1988 f_1978 (Or.inl ne_nt_hs)
    have f_2005 := Fld.other W_1988 f_1979 (Or.inl ne_nt_hs)
    have f_2006 := Fld.other W_1988 f_1980 (Or.inl ne_nt_hs)
    have f_2007 := Fld.other W_1988 f_1981 (Or.inl ne_nt_hs)
    have f_2008 := Fld.other W_1988 f_1982 (Or.inl ne_nt_hs)
    have f_2009 := Fld.other W_1988 f_1983 (Or.inl ne_nt_hs)
    have f_2010 := Fld.other W_1988 f_1984 (Or.inl ne_nt_hs)
    have f_2011 := f_1985.other W_1988 ne_ba_hs
    have f_2012 := f_1986.other W_1988 ne_sa_hs
    have f_2013 := f_1987.other W_1988 ne_la_hs
    refine o_dup X_1988 K at_74 75 rfl rfl ?_
    refine o_iconst X_1988 K (2 : Int32) at_75 76 rfl rfl ?_
    refine o_iload X_1988 K at_76 78 rfl rfl ?_
    refine o_iastore X_1988 K (i := 2) (x' := p4) at_78 79 rfl e_1988 A_1988 (by decide) (by decide) (rfl) N_1988 g_hs ?_
    intro T_2014 h_2014 locs_2014 X_2014 e_2014 W_2014 A_2014 N_2014
    have Z_2014 : n0 ≤ h_2014.size := by rw [Wr.size W_2014]; exact Z_1988
    have f_2015 := Sta.wr W_2014 f_1989
    have f_2016 := Sta.wr W_2014 f_1990
    have f_2017 := Sta.wr W_2014 f_1991
    have f_2018 := Exa.wr W_2014 f_1992
    have f_2019 := Fld.other W_2014 f_1993 (Or.inl ne_s1_hs)
    have f_2020 := Fld.other W_2014 f_1994 (Or.inl ne_s1_hs)
    have f_2021 := f_1995.other W_2014 ne_t1_hs
    have f_2022 := Exa.wr W_2014 f_1996
    have f_2023 := Exa.wr W_2014 f_1997
    have f_2024 := f_1998.other W_2014 ne_ca_hs
    have f_2025 := Fld.other W_2014 f_1999 (Or.inl ne_s2_hs)
    have f_2026 := Fld.other W_2014 f_2000 (Or.inl ne_s2_hs)
    have f_2027 := f_2001.other W_2014 ne_t2_hs
    have f_2028 := Exa.wr W_2014 f_2002
    have f_2029 := Exa.wr W_2014 f_2003
    have f_2030 := Fld.other W_2014 f_2004 (Or.inl ne_nt_hs)
    have f_2031 := Fld.other W_2014 f_2005 (Or.inl ne_nt_hs)
    have f_2032 := Fld.other W_2014 f_2006 (Or.inl ne_nt_hs)
    have f_2033 := Fld.other W_2014 f_2007 (Or.inl ne_nt_hs)
    have f_2034 := Fld.other W_2014 f_2008 (Or.inl ne_nt_hs)
    have f_2035 := Fld.other W_2014 f_2009 (Or.inl ne_nt_hs)
    have f_2036 := Fld.other W_2014 f_2010 (Or.inl ne_nt_hs)
    have f_2037 := f_2011.other W_2014 ne_ba_hs
    have f_2038 := f_2012.other W_2014 ne_sa_hs
    have f_2039 := f_2013.other W_2014 ne_la_hs
    have AB_2040 := OAr.congr A_2014 (g := fun j => .int ([p2, p3, p4].getD j 0)) (fun j hj => by rcases (by omega : j = 0 ∨ j = 1 ∨ j = 2) with rfl | rfl | rfl <;> rfl)
    refine o_astore X_2014 K at_79 81 rfl #[.val (.int p0), .val (.int p1), .val (.int p2), .val (.int p3), .val (.int p4), .val (.int p5), .val (.int y0), .val (.int y1), .val (.ref s1), .val (.ref s2), .val (.ref nt), .val (.int (0 : Int32)), .val (.ref hs), .unset, .unset] rfl rfl ?_
    refine o_iload X_2014 K at_81 83 rfl rfl ?_
    refine o_ldcI X_2014 K at_83 85 rfl (w_132 hw) ?_
    refine o_iand X_2014 K at_85 86 rfl ?_
    refine o_iconst X_2014 K (4 : Int32) at_86 87 rfl rfl ?_
    refine o_irem X_2014 K at_87 88 rfl (by decide) ?_
    obtain ⟨n, h_n⟩ : ∃ z_ : Int32, z_ = ((p5 &&& (2147483647 : Int32)) % (4 : Int32)) := ⟨_, rfl⟩
    refine o_istore X_2014 K at_88 90 rfl #[.val (.int p0), .val (.int p1), .val (.int p2), .val (.int p3), .val (.int p4), .val (.int p5), .val (.int y0), .val (.int y1), .val (.ref s1), .val (.ref s2), .val (.ref nt), .val (.int (0 : Int32)), .val (.ref hs), .val (.int n), .unset] h_n.symm rfl ?_
    refine o_aload X_2014 K at_90 92 rfl rfl rfl ?_
    refine o_aload X_2014 K at_92 94 rfl rfl rfl ?_
    refine o_iload X_2014 K at_94 96 rfl rfl ?_
    refine o_invokevirtual X_2014 K at_96 99 rfl (w_133 hw) (w_134 hw) (w_136 hw) (w_135 hw) (w_46 hw) (w_137 hw) (by decide) f_2029 [(.ref hs), (.int n)] [] rfl  (c_pref l Z a0 hw n0 nt hs ba sa la n ((0 : Int32) + ((2 : Int32) - (0 : Int32))) ((0 : Int32) + (1 : Int32)) (fun j => [p2, p3, p4].getD j 0) (own_put (2 * ((own_hash [(own_e1 (y0.toInt8.toInt32)), (own_e2 (y0.toInt8.toInt32))] (2 : Int32)) &&& (1023 : Int32)).toInt.toNat) (2 * ((own_hash [(own_e1 (y0.toInt8.toInt32)), (own_e2 (y0.toInt8.toInt32))] (2 : Int32)) &&& (1023 : Int32)).toInt.toNat + 1) (((own_hash [(own_e1 (y0.toInt8.toInt32)), (own_e2 (y0.toInt8.toInt32))] (2 : Int32)).toInt64 <<< ((32 : Int32) &&& 0x3f).toInt64) ||| (((0 : Int32) + (1 : Int32)).toInt64)) (own_key [(own_e1 (y0.toInt8.toInt32)), (own_e2 (y0.toInt8.toInt32))] (2 : Int32)) (fun _ => 0)) (0 : Int64) h_2014 Z_2014 f_2029 f_2030 f_2031 f_2032 f_2033 f_2034 f_2035 f_2036 g_nt AB_2040 f_2039 (by rw [h_n]; exact own_four p5) (Ne.symm ne_nt_hs) (Ne.symm ne_nt_la)) e_2014 rfl (lenOf pd___II_V rfl) (by decide) 0 (Nat.le_of_eq rfl) (by decide) (by decide) (by decide) N_2014 ?_
    rintro _ T_2041 h_2041 locs_2041 X_2041 e_2041 ⟨rfl, k_2041, p_2041f0, p_2041f1, p_2041f2, p_2041f3, p_2041f4, p_2041f5, p_2041f6, p_2041_pv⟩ N_2041
    have Z_2041 : n0 ≤ h_2041.size := Nat.le_trans Z_2014 k_2041.1
    have f_2042 := o_sta_keep f_2015 k_2041 (o_plainS f_2029 (o_plain0))
    have f_2043 := o_sta_keep f_2016 k_2041 (o_plainS f_2029 (o_plain0))
    have f_2044 := o_sta_keep f_2017 k_2041 (o_plainS f_2029 (o_plain0))
    have f_2045 := Exa.keep f_2018 k_2041
    have f_2046 := Fld.keep f_2019 k_2041 (ninS ne_s1_nt (nin0))
    have f_2047 := Fld.keep f_2020 k_2041 (ninS ne_s1_nt (nin0))
    have f_2048 := f_2021.keep k_2041 (ninS ne_t1_nt (nin0))
    have f_2049 := Exa.keep f_2022 k_2041
    have f_2050 := Exa.keep f_2023 k_2041
    have f_2051 := f_2024.keep k_2041 (ninS ne_ca_nt (nin0))
    have f_2052 := Fld.keep f_2025 k_2041 (ninS ne_s2_nt (nin0))
    have f_2053 := Fld.keep f_2026 k_2041 (ninS ne_s2_nt (nin0))
    have f_2054 := f_2027.keep k_2041 (ninS ne_t2_nt (nin0))
    have f_2055 := Exa.keep f_2028 k_2041
    have f_2056 := Exa.keep f_2029 k_2041
    have f_2057 := f_2037.keep k_2041 (ninS (Ne.symm ne_nt_ba) (nin0))
    have f_2058 := f_2038.keep k_2041 (ninS (Ne.symm ne_nt_sa) (nin0))
    have f_2059 := f_2039.keep k_2041 (ninS (Ne.symm ne_nt_la) (nin0))
    have f_2060 := AB_2040.keep k_2041 (ninS (Ne.symm ne_nt_hs) (nin0))
    obtain ⟨pw, Fpw⟩ := p_2041_pv
    show OGo p e below _ n0 _ (T_2041.setTop (mkF m 99 #[.val (.int p0), .val (.int p1), .val (.int p2), .val (.int p3), .val (.int p4), .val (.int p5), .val (.int y0), .val (.int y1), .val (.ref s1), .val (.ref s2), .val (.ref nt), .val (.int (0 : Int32)), .val (.ref hs), .val (.int n), .unset] []))
    refine o_iload X_2041 K at_99 101 rfl rfl ?_
    refine o_if_ne_f X_2041 K at_101 104 rfl (by decide) ?_
    refine o_aload X_2041 K at_104 106 rfl rfl rfl ?_
    refine o_invokevirtual X_2041 K at_106 109 rfl (w_140 hw) (w_141 hw) (w_143 hw) (w_142 hw) (w_46 hw) (w_144 hw) (by decide) p_2041f0 [] [] rfl  (c_count l Z a0 hw n0 nt ((0 : Int32) + (1 : Int32)) h_2041 Z_2041 p_2041f5) e_2041 rfl (lenOf pd___I rfl) (by decide) 0 (Nat.le_of_eq rfl) (by decide) (by decide) (by decide) N_2041 ?_
    rintro _ T_2061 h_2061 locs_2061 X_2061 q_2061 ⟨rfl, r_2061⟩ N_2061
    have e_2061 := q_2061.trans r_2061
    show OGo p e below _ n0 _ (T_2061.setTop (mkF m 109 #[.val (.int p0), .val (.int p1), .val (.int p2), .val (.int p3), .val (.int p4), .val (.int p5), .val (.int y0), .val (.int y1), .val (.ref s1), .val (.ref s2), .val (.ref nt), .val (.int (0 : Int32)), .val (.ref hs), .val (.int n), .unset] [(.int ((0 : Int32) + (1 : Int32)))]))
    refine o_iconst X_2061 K (1 : Int32) at_109 110 rfl rfl ?_
    refine o_icmp_ne_f X_2061 K at_110 113 rfl (by decide) ?_
    refine o_iconst X_2061 K (1 : Int32) at_113 114 rfl rfl ?_
    refine o_goto X_2061 K at_114 118 (by decide) (by decide) ?_
    refine o_istore X_2061 K at_118 120 rfl #[.val (.int p0), .val (.int p1), .val (.int p2), .val (.int p3), .val (.int p4), .val (.int p5), .val (.int y0), .val (.int y1), .val (.ref s1), .val (.ref s2), .val (.ref nt), .val (.int (0 : Int32)), .val (.ref hs), .val (.int n), .val (.int (1 : Int32))] rfl rfl ?_
    refine o_iload X_2061 K at_120 122 rfl rfl ?_
    refine o_if_eq_f X_2061 K at_122 125 rfl (by decide) ?_
    refine o_aload X_2061 K at_125 127 rfl rfl rfl ?_
    refine o_aload X_2061 K at_127 129 rfl rfl rfl ?_
    refine o_invokevirtual X_2061 K at_129 132 rfl (w_61 hw) (w_62 hw) (w_64 hw) (w_63 hw) (w_46 hw) (w_65 hw) (by decide) p_2041f0 [(.ref s1)] [] rfl  (c_nSH_n l Z a0 hw n0 nt s1 t1 u8 ba sa la (y0.toInt8.toInt32) zcs ((0 : Int32) + ((2 : Int32) - (0 : Int32))) ((0 : Int32) + (1 : Int32)) _ _ (own_put (2 * ((own_hash [(own_e1 (y0.toInt8.toInt32)), (own_e2 (y0.toInt8.toInt32))] (2 : Int32)) &&& (1023 : Int32)).toInt.toNat) (2 * ((own_hash [(own_e1 (y0.toInt8.toInt32)), (own_e2 (y0.toInt8.toInt32))] (2 : Int32)) &&& (1023 : Int32)).toInt.toNat + 1) (((own_hash [(own_e1 (y0.toInt8.toInt32)), (own_e2 (y0.toInt8.toInt32))] (2 : Int32)).toInt64 <<< ((32 : Int32) &&& 0x3f).toInt64) ||| (((0 : Int32) + (1 : Int32)).toInt64)) (own_key [(own_e1 (y0.toInt8.toInt32)), (own_e2 (y0.toInt8.toInt32))] (2 : Int32)) (fun _ => 0)) pw (((own_hash [(own_e1 (y0.toInt8.toInt32)), (own_e2 (y0.toInt8.toInt32))] (2 : Int32)).toInt64 <<< ((32 : Int32) &&& 0x3f).toInt64) ||| (((0 : Int32) + (1 : Int32)).toInt64)) h_2041 Z_2041 f_2042 (hcs) f_2043 f_2044 f_2045 f_2046 f_2047 f_2048 f_2049 (g0) (o_nb _) p_2041f0 p_2041f1 p_2041f2 p_2041f3 p_2041f4 p_2041f5 p_2041f6 Fpw g_nt f_2057 gg_1904_ba f_2058 gg_1904_sa f_2059 gg_1904_la ne_nt_ba ne_nt_sa p_1904_n1 (Ne.symm ne_nt_la) (Ne.symm p_1904_n2) (Ne.symm p_1904_n3) ne_s1_nt ne_s1_ba ne_s1_sa ne_s1_la ne_t1_nt ne_t1_ba ne_t1_sa ne_t1_la (by decide) (by decide) (own_putb) (own_i0 _) (own_puta own_n3) (own_i1 _)) e_2061 rfl (lenOf pd__Ljava_lang_String__I rfl) (by decide) 0 (Nat.le_of_eq rfl) (by decide) (by decide) (by decide) N_2061 ?_
    rintro _ T_2062 h_2062 locs_2062 X_2062 e_2062 ⟨rfl, k_2062⟩ N_2062
    have Z_2062 : n0 ≤ h_2062.size := Nat.le_trans Z_2041 k_2062.1
    have f_2063 := o_sta_keep f_2042 k_2062 (o_plain0)
    have f_2064 := o_sta_keep f_2043 k_2062 (o_plain0)
    have f_2065 := o_sta_keep f_2044 k_2062 (o_plain0)
    have f_2066 := Exa.keep f_2045 k_2062
    have f_2067 := Fld.keep f_2046 k_2062 (nin0)
    have f_2068 := Fld.keep f_2047 k_2062 (nin0)
    have f_2069 := f_2048.keep k_2062 (nin0)
    have f_2070 := Exa.keep f_2049 k_2062
    have f_2071 := Exa.keep f_2050 k_2062
    have f_2072 := f_2051.keep k_2062 (nin0)
    have f_2073 := Fld.keep f_2052 k_2062 (nin0)
    have f_2074 := Fld.keep f_2053 k_2062 (nin0)
    have f_2075 := f_2054.keep k_2062 (nin0)
    have f_2076 := Exa.keep f_2055 k_2062
    have f_2077 := Exa.keep p_2041f0 k_2062
    have f_2078 := f_2057.keep k_2062 (nin0)
    have f_2079 := f_2058.keep k_2062 (nin0)
    have f_2080 := f_2059.keep k_2062 (nin0)
    have f_2081 := f_2060.keep k_2062 (nin0)
    have f_2082 := Fld.keep p_2041f1 k_2062 (nin0)
    have f_2083 := Fld.keep p_2041f2 k_2062 (nin0)
    have f_2084 := Fld.keep p_2041f3 k_2062 (nin0)
    have f_2085 := Fld.keep p_2041f4 k_2062 (nin0)
    have f_2086 := Fld.keep p_2041f5 k_2062 (nin0)
    have f_2087 := Fld.keep p_2041f6 k_2062 (nin0)
    have f_2088 := Fld.keep Fpw k_2062 (nin0)
    show OGo p e below _ n0 _ (T_2062.setTop (mkF m 132 #[.val (.int p0), .val (.int p1), .val (.int p2), .val (.int p3), .val (.int p4), .val (.int p5), .val (.int y0), .val (.int y1), .val (.ref s1), .val (.ref s2), .val (.ref nt), .val (.int (0 : Int32)), .val (.ref hs), .val (.int n), .val (.int (1 : Int32))] [(.int ((((own_hash [(own_e1 (y0.toInt8.toInt32)), (own_e2 (y0.toInt8.toInt32))] (2 : Int32)).toInt64 <<< ((32 : Int32) &&& 0x3f).toInt64) ||| (((0 : Int32) + (1 : Int32)).toInt64)).toInt32 - (1 : Int32)))]))
    refine o_if_ne_f X_2062 K at_132 135 rfl (by rw [own_i2]; rfl) ?_
    refine o_aload X_2062 K at_135 137 rfl rfl rfl ?_
    refine o_invokevirtual X_2062 K at_137 140 rfl (w_140 hw) (w_141 hw) (w_143 hw) (w_142 hw) (w_46 hw) (w_144 hw) (by decide) f_2077 [] [] rfl  (c_count l Z a0 hw n0 nt ((0 : Int32) + (1 : Int32)) h_2062 Z_2062 f_2086) e_2062 rfl (lenOf pd___I rfl) (by decide) 0 (Nat.le_of_eq rfl) (by decide) (by decide) (by decide) N_2062 ?_
    rintro _ T_2089 h_2089 locs_2089 X_2089 q_2089 ⟨rfl, r_2089⟩ N_2089
    have e_2089 := q_2089.trans r_2089
    show OGo p e below _ n0 _ (T_2089.setTop (mkF m 140 #[.val (.int p0), .val (.int p1), .val (.int p2), .val (.int p3), .val (.int p4), .val (.int p5), .val (.int y0), .val (.int y1), .val (.ref s1), .val (.ref s2), .val (.ref nt), .val (.int (0 : Int32)), .val (.ref hs), .val (.int n), .val (.int (1 : Int32))] [(.int ((0 : Int32) + (1 : Int32)))]))
    refine o_iconst X_2089 K (1 : Int32) at_140 141 rfl rfl ?_
    refine o_icmp_ne_f X_2089 K at_141 144 rfl (by decide) ?_
    refine o_iconst X_2089 K (1 : Int32) at_144 145 rfl rfl ?_
    refine o_goto X_2089 K at_145 149 (by decide) (by decide) ?_
    refine o_istore X_2089 K at_149 151 rfl #[.val (.int p0), .val (.int p1), .val (.int p2), .val (.int p3), .val (.int p4), .val (.int p5), .val (.int y0), .val (.int y1), .val (.ref s1), .val (.ref s2), .val (.ref nt), .val (.int (0 : Int32)), .val (.ref hs), .val (.int n), .val (.int (1 : Int32))] rfl rfl ?_
    refine o_iload X_2089 K at_151 153 rfl rfl ?_
    refine o_if_eq_f X_2089 K at_153 156 rfl (by decide) ?_
    rcases Classical.em (((own_hash [(own_e1 (y0.toInt8.toInt32)), (own_e2 (y0.toInt8.toInt32)), (own_e1 (y1.toInt8.toInt32)), (own_e2 (y1.toInt8.toInt32))] (4 : Int32)) &&& (1023 : Int32)).toInt.toNat = ((own_hash [(own_e1 (y0.toInt8.toInt32)), (own_e2 (y0.toInt8.toInt32))] (2 : Int32)) &&& (1023 : Int32)).toInt.toNat) with hcol | hcol
    · skip
      have hnx := own_next (own_hash [(own_e1 (y0.toInt8.toInt32)), (own_e2 (y0.toInt8.toInt32)), (own_e1 (y1.toInt8.toInt32)), (own_e2 (y1.toInt8.toInt32))] (4 : Int32))
      refine o_aload X_2089 K at_156 158 rfl rfl rfl ?_
      refine o_aload X_2089 K at_158 160 rfl rfl rfl ?_
      refine o_invokevirtual X_2089 K at_160 163 rfl (w_61 hw) (w_62 hw) (w_64 hw) (w_63 hw) (w_46 hw) (w_65 hw) (by decide) f_2077 [(.ref s2)] [] rfl  (c_nSC_nn l Z a0 hw n0 nt s2 t2 u8 ba sa la (y0.toInt8.toInt32) (y1.toInt8.toInt32) zcs ((0 : Int32) + ((2 : Int32) - (0 : Int32))) ((0 : Int32) + (1 : Int32)) _ _ (own_put (2 * ((own_hash [(own_e1 (y0.toInt8.toInt32)), (own_e2 (y0.toInt8.toInt32))] (2 : Int32)) &&& (1023 : Int32)).toInt.toNat) (2 * ((own_hash [(own_e1 (y0.toInt8.toInt32)), (own_e2 (y0.toInt8.toInt32))] (2 : Int32)) &&& (1023 : Int32)).toInt.toNat + 1) (((own_hash [(own_e1 (y0.toInt8.toInt32)), (own_e2 (y0.toInt8.toInt32))] (2 : Int32)).toInt64 <<< ((32 : Int32) &&& 0x3f).toInt64) ||| (((0 : Int32) + (1 : Int32)).toInt64)) (own_key [(own_e1 (y0.toInt8.toInt32)), (own_e2 (y0.toInt8.toInt32))] (2 : Int32)) (fun _ => 0)) pw (((own_hash [(own_e1 (y0.toInt8.toInt32)), (own_e2 (y0.toInt8.toInt32))] (2 : Int32)).toInt64 <<< ((32 : Int32) &&& 0x3f).toInt64) ||| (((0 : Int32) + (1 : Int32)).toInt64)) (own_key [(own_e1 (y0.toInt8.toInt32)), (own_e2 (y0.toInt8.toInt32))] (2 : Int32)) h_2062 Z_2062 f_2063 (hcs) f_2064 f_2065 f_2071 f_2073 f_2074 f_2075 f_2076 (g0) (o_nb _) (g1) (o_nb _) f_2077 f_2082 f_2083 f_2084 f_2085 f_2086 f_2087 f_2088 g_nt f_2078 gg_1904_ba f_2079 gg_1904_sa f_2080 gg_1904_la ne_nt_ba ne_nt_sa p_1904_n1 (Ne.symm ne_nt_la) (Ne.symm p_1904_n2) (Ne.symm p_1904_n3) ne_s2_nt ne_s2_ba ne_s2_sa ne_s2_la ne_t2_nt ne_t2_ba ne_t2_sa ne_t2_la (by decide) (by decide) (by rw [hcol]; exact own_putb) (own_i0 _) (by rw [hcol]; exact own_puta own_n3) (own_k24 _ _ _ _ _ _) (own_puto (own_n1 (fun q_ => hnx (q_.trans hcol.symm))) own_n2)) e_2089 rfl (lenOf pd__Ljava_lang_String__I rfl) (by decide) 0 (Nat.le_of_eq rfl) (by decide) (by decide) (by decide) N_2089 ?_
      rintro _ T_2090 h_2090 locs_2090 X_2090 e_2090 ⟨rfl, k_2090, p_2090f0, p_2090f1, p_2090f2, p_2090f3, p_2090f4, p_2090f5, p_2090f6, p_2090f7, p_2090f8, p_2090f9, p_2090f10⟩ N_2090
      have Z_2090 : n0 ≤ h_2090.size := Nat.le_trans Z_2062 k_2090.1
      have f_2091 := o_sta_keep f_2063 k_2090 (o_plainS f_2077 (o_plainR f_2078 (o_plainR f_2079 (o_plainR f_2080 (o_plain0)))))
      have f_2092 := o_sta_keep f_2064 k_2090 (o_plainS f_2077 (o_plainR f_2078 (o_plainR f_2079 (o_plainR f_2080 (o_plain0)))))
      have f_2093 := o_sta_keep f_2065 k_2090 (o_plainS f_2077 (o_plainR f_2078 (o_plainR f_2079 (o_plainR f_2080 (o_plain0)))))
      have f_2094 := Exa.keep f_2066 k_2090
      have f_2095 := Fld.keep f_2067 k_2090 (ninS ne_s1_nt (ninS ne_s1_ba (ninS ne_s1_sa (ninS ne_s1_la (nin0)))))
      have f_2096 := Fld.keep f_2068 k_2090 (ninS ne_s1_nt (ninS ne_s1_ba (ninS ne_s1_sa (ninS ne_s1_la (nin0)))))
      have f_2097 := f_2069.keep k_2090 (ninS ne_t1_nt (ninS ne_t1_ba (ninS ne_t1_sa (ninS ne_t1_la (nin0)))))
      have f_2098 := Exa.keep f_2070 k_2090
      have f_2099 := Exa.keep f_2071 k_2090
      have f_2100 := f_2072.keep k_2090 (ninS ne_ca_nt (ninS ne_ca_ba (ninS ne_ca_sa (ninS ne_ca_la (nin0)))))
      have f_2101 := Fld.keep f_2073 k_2090 (ninS ne_s2_nt (ninS ne_s2_ba (ninS ne_s2_sa (ninS ne_s2_la (nin0)))))
      have f_2102 := Fld.keep f_2074 k_2090 (ninS ne_s2_nt (ninS ne_s2_ba (ninS ne_s2_sa (ninS ne_s2_la (nin0)))))
      have f_2103 := f_2075.keep k_2090 (ninS ne_t2_nt (ninS ne_t2_ba (ninS ne_t2_sa (ninS ne_t2_la (nin0)))))
      have f_2104 := Exa.keep f_2076 k_2090
      have f_2105 := Exa.keep f_2077 k_2090
      have f_2106 := f_2081.keep k_2090 (ninS (Ne.symm ne_nt_hs) (ninS (Ne.symm ne_ba_hs) (ninS (Ne.symm ne_sa_hs) (ninS (Ne.symm ne_la_hs) (nin0)))))
      show OGo p e below _ n0 _ (T_2090.setTop (mkF m 163 #[.val (.int p0), .val (.int p1), .val (.int p2), .val (.int p3), .val (.int p4), .val (.int p5), .val (.int y0), .val (.int y1), .val (.ref s1), .val (.ref s2), .val (.ref nt), .val (.int (0 : Int32)), .val (.ref hs), .val (.int n), .val (.int (1 : Int32))] [(.int ((0 : Int32) + (1 : Int32)))]))
      refine o_iconst X_2090 K (1 : Int32) at_163 164 rfl rfl ?_
      refine o_icmp_ne_f X_2090 K at_164 167 rfl (by decide) ?_
      refine o_aload X_2090 K at_167 169 rfl rfl rfl ?_
      refine o_invokevirtual X_2090 K at_169 172 rfl (w_140 hw) (w_141 hw) (w_143 hw) (w_142 hw) (w_46 hw) (w_144 hw) (by decide) p_2090f0 [] [] rfl  (c_count l Z a0 hw n0 nt (((0 : Int32) + (1 : Int32)) + (1 : Int32)) h_2090 Z_2090 p_2090f5) e_2090 rfl (lenOf pd___I rfl) (by decide) 0 (Nat.le_of_eq rfl) (by decide) (by decide) (by decide) N_2090 ?_
      rintro _ T_2107 h_2107 locs_2107 X_2107 q_2107 ⟨rfl, r_2107⟩ N_2107
      have e_2107 := q_2107.trans r_2107
      show OGo p e below _ n0 _ (T_2107.setTop (mkF m 172 #[.val (.int p0), .val (.int p1), .val (.int p2), .val (.int p3), .val (.int p4), .val (.int p5), .val (.int y0), .val (.int y1), .val (.ref s1), .val (.ref s2), .val (.ref nt), .val (.int (0 : Int32)), .val (.ref hs), .val (.int n), .val (.int (1 : Int32))] [(.int (((0 : Int32) + (1 : Int32)) + (1 : Int32)))]))
      refine o_iconst X_2107 K (2 : Int32) at_172 173 rfl rfl ?_
      refine o_icmp_ne_f X_2107 K at_173 176 rfl (by decide) ?_
      refine o_iconst X_2107 K (1 : Int32) at_176 177 rfl rfl ?_
      refine o_goto X_2107 K at_177 181 (by decide) (by decide) ?_
      refine o_istore X_2107 K at_181 183 rfl #[.val (.int p0), .val (.int p1), .val (.int p2), .val (.int p3), .val (.int p4), .val (.int p5), .val (.int y0), .val (.int y1), .val (.ref s1), .val (.ref s2), .val (.ref nt), .val (.int (0 : Int32)), .val (.ref hs), .val (.int n), .val (.int (1 : Int32))] rfl rfl ?_
      refine o_iload X_2107 K at_183 185 rfl rfl ?_
      refine o_ireturnN X_2107 K (by decide) at_185 (by decide) (by decide) N_2107 ?_
      exact rfl
    · skip
      refine o_aload X_2089 K at_156 158 rfl rfl rfl ?_
      refine o_aload X_2089 K at_158 160 rfl rfl rfl ?_
      refine o_invokevirtual X_2089 K at_160 163 rfl (w_61 hw) (w_62 hw) (w_64 hw) (w_63 hw) (w_46 hw) (w_65 hw) (by decide) f_2077 [(.ref s2)] [] rfl  (c_nSI_nn l Z a0 hw n0 nt s2 t2 u8 ba sa la (y0.toInt8.toInt32) (y1.toInt8.toInt32) zcs ((0 : Int32) + ((2 : Int32) - (0 : Int32))) ((0 : Int32) + (1 : Int32)) _ _ (own_put (2 * ((own_hash [(own_e1 (y0.toInt8.toInt32)), (own_e2 (y0.toInt8.toInt32))] (2 : Int32)) &&& (1023 : Int32)).toInt.toNat) (2 * ((own_hash [(own_e1 (y0.toInt8.toInt32)), (own_e2 (y0.toInt8.toInt32))] (2 : Int32)) &&& (1023 : Int32)).toInt.toNat + 1) (((own_hash [(own_e1 (y0.toInt8.toInt32)), (own_e2 (y0.toInt8.toInt32))] (2 : Int32)).toInt64 <<< ((32 : Int32) &&& 0x3f).toInt64) ||| (((0 : Int32) + (1 : Int32)).toInt64)) (own_key [(own_e1 (y0.toInt8.toInt32)), (own_e2 (y0.toInt8.toInt32))] (2 : Int32)) (fun _ => 0)) pw h_2062 Z_2062 f_2063 (hcs) f_2064 f_2065 f_2071 f_2073 f_2074 f_2075 f_2076 (g0) (o_nb _) (g1) (o_nb _) f_2077 f_2082 f_2083 f_2084 f_2085 f_2086 f_2087 f_2088 g_nt f_2078 gg_1904_ba f_2079 gg_1904_sa f_2080 gg_1904_la ne_nt_ba ne_nt_sa p_1904_n1 (Ne.symm ne_nt_la) (Ne.symm p_1904_n2) (Ne.symm p_1904_n3) ne_s2_nt ne_s2_ba ne_s2_sa ne_s2_la ne_t2_nt ne_t2_ba ne_t2_sa ne_t2_la (by decide) (by decide) (own_puto (own_n1 hcol) own_n2)) e_2089 rfl (lenOf pd__Ljava_lang_String__I rfl) (by decide) 0 (Nat.le_of_eq rfl) (by decide) (by decide) (by decide) N_2089 ?_
      rintro _ T_2108 h_2108 locs_2108 X_2108 e_2108 ⟨rfl, k_2108, p_2108f0, p_2108f1, p_2108f2, p_2108f3, p_2108f4, p_2108f5, p_2108f6, p_2108f7, p_2108f8, p_2108f9, p_2108f10⟩ N_2108
      have Z_2108 : n0 ≤ h_2108.size := Nat.le_trans Z_2062 k_2108.1
      have f_2109 := o_sta_keep f_2063 k_2108 (o_plainS f_2077 (o_plainR f_2078 (o_plainR f_2079 (o_plainR f_2080 (o_plain0)))))
      have f_2110 := o_sta_keep f_2064 k_2108 (o_plainS f_2077 (o_plainR f_2078 (o_plainR f_2079 (o_plainR f_2080 (o_plain0)))))
      have f_2111 := o_sta_keep f_2065 k_2108 (o_plainS f_2077 (o_plainR f_2078 (o_plainR f_2079 (o_plainR f_2080 (o_plain0)))))
      have f_2112 := Exa.keep f_2066 k_2108
      have f_2113 := Fld.keep f_2067 k_2108 (ninS ne_s1_nt (ninS ne_s1_ba (ninS ne_s1_sa (ninS ne_s1_la (nin0)))))
      have f_2114 := Fld.keep f_2068 k_2108 (ninS ne_s1_nt (ninS ne_s1_ba (ninS ne_s1_sa (ninS ne_s1_la (nin0)))))
      have f_2115 := f_2069.keep k_2108 (ninS ne_t1_nt (ninS ne_t1_ba (ninS ne_t1_sa (ninS ne_t1_la (nin0)))))
      have f_2116 := Exa.keep f_2070 k_2108
      have f_2117 := Exa.keep f_2071 k_2108
      have f_2118 := f_2072.keep k_2108 (ninS ne_ca_nt (ninS ne_ca_ba (ninS ne_ca_sa (ninS ne_ca_la (nin0)))))
      have f_2119 := Fld.keep f_2073 k_2108 (ninS ne_s2_nt (ninS ne_s2_ba (ninS ne_s2_sa (ninS ne_s2_la (nin0)))))
      have f_2120 := Fld.keep f_2074 k_2108 (ninS ne_s2_nt (ninS ne_s2_ba (ninS ne_s2_sa (ninS ne_s2_la (nin0)))))
      have f_2121 := f_2075.keep k_2108 (ninS ne_t2_nt (ninS ne_t2_ba (ninS ne_t2_sa (ninS ne_t2_la (nin0)))))
      have f_2122 := Exa.keep f_2076 k_2108
      have f_2123 := Exa.keep f_2077 k_2108
      have f_2124 := f_2081.keep k_2108 (ninS (Ne.symm ne_nt_hs) (ninS (Ne.symm ne_ba_hs) (ninS (Ne.symm ne_sa_hs) (ninS (Ne.symm ne_la_hs) (nin0)))))
      show OGo p e below _ n0 _ (T_2108.setTop (mkF m 163 #[.val (.int p0), .val (.int p1), .val (.int p2), .val (.int p3), .val (.int p4), .val (.int p5), .val (.int y0), .val (.int y1), .val (.ref s1), .val (.ref s2), .val (.ref nt), .val (.int (0 : Int32)), .val (.ref hs), .val (.int n), .val (.int (1 : Int32))] [(.int ((0 : Int32) + (1 : Int32)))]))
      refine o_iconst X_2108 K (1 : Int32) at_163 164 rfl rfl ?_
      refine o_icmp_ne_f X_2108 K at_164 167 rfl (by decide) ?_
      refine o_aload X_2108 K at_167 169 rfl rfl rfl ?_
      refine o_invokevirtual X_2108 K at_169 172 rfl (w_140 hw) (w_141 hw) (w_143 hw) (w_142 hw) (w_46 hw) (w_144 hw) (by decide) p_2108f0 [] [] rfl  (c_count l Z a0 hw n0 nt (((0 : Int32) + (1 : Int32)) + (1 : Int32)) h_2108 Z_2108 p_2108f5) e_2108 rfl (lenOf pd___I rfl) (by decide) 0 (Nat.le_of_eq rfl) (by decide) (by decide) (by decide) N_2108 ?_
      rintro _ T_2125 h_2125 locs_2125 X_2125 q_2125 ⟨rfl, r_2125⟩ N_2125
      have e_2125 := q_2125.trans r_2125
      show OGo p e below _ n0 _ (T_2125.setTop (mkF m 172 #[.val (.int p0), .val (.int p1), .val (.int p2), .val (.int p3), .val (.int p4), .val (.int p5), .val (.int y0), .val (.int y1), .val (.ref s1), .val (.ref s2), .val (.ref nt), .val (.int (0 : Int32)), .val (.ref hs), .val (.int n), .val (.int (1 : Int32))] [(.int (((0 : Int32) + (1 : Int32)) + (1 : Int32)))]))
      refine o_iconst X_2125 K (2 : Int32) at_172 173 rfl rfl ?_
      refine o_icmp_ne_f X_2125 K at_173 176 rfl (by decide) ?_
      refine o_iconst X_2125 K (1 : Int32) at_176 177 rfl rfl ?_
      refine o_goto X_2125 K at_177 181 (by decide) (by decide) ?_
      refine o_istore X_2125 K at_181 183 rfl #[.val (.int p0), .val (.int p1), .val (.int p2), .val (.int p3), .val (.int p4), .val (.int p5), .val (.int y0), .val (.int y1), .val (.ref s1), .val (.ref s2), .val (.ref nt), .val (.int (0 : Int32)), .val (.ref hs), .val (.int n), .val (.int (1 : Int32))] rfl rfl ?_
      refine o_iload X_2125 K at_183 185 rfl rfl ?_
      refine o_ireturnN X_2125 K (by decide) at_185 (by decide) (by decide) N_2125 ?_
      exact rfl
set_option maxHeartbeats 4000000 in
theorem comes_1 {Post : Tables → Env → Array Value → State → Outcome → State → Prop} (hpost : ∀ tb e args s v u, (limb_1_1.after args s (.returned v) u = true ∧ limb_1_2.after args s (.returned v) u = true ∧ True) → FrameEnd s (.returned v) u (Jvm.fieldLocs frame_1_writes args s ++ Jvm.arrayLocs frame_1_arrays args s ++ Jvm.staticLocs frame_1_statics s) 40 14528 → Post tb e args s (.returned v) u) :
    ArmFor flags0 classFile x code maxLocals ret World_1 tables_1 room_1 Calls_1 rest_1 Pre_1 Post := by
  intro l hfl _ _ p e ha hc hk s m args below hf hA hF happ hP
  obtain ⟨hcalls, hrest, hpre⟩ := hP
  obtain ⟨-, -, -, hnamed, -, -, -, hat⟩ := (Spec.applies_iff hf).mp happ
  obtain ⟨hg, hn⟩ := and_e (Cond.before_iff.mp (show (Jvm.Cond.and given_1 narrow_1).before args s = true from hpre))
  obtain ⟨g1, g2⟩ := and_e hg
  obtain ⟨g3, g4⟩ := and_e g2
  obtain ⟨g5, g6⟩ := and_e g4
  obtain ⟨g7, g8⟩ := and_e g6
  obtain ⟨g9, g10⟩ := and_e g8
  obtain ⟨g11, g12⟩ := and_e g10
  obtain ⟨w0, w1, w2, w3, w4, w5, rfl⟩ : ∃ w0 w1 w2 w3 w4 w5 : Value, args = #[w0, w1, w2, w3, w4, w5] := by
    have hs : args.size = 6 := by simpa [Cond.value, given_1] using g1
    obtain ⟨L⟩ := args
    match L, hs with
    | [w0, w1, w2, w3, w4, w5], _ => exact ⟨w0, w1, w2, w3, w4, w5, rfl⟩
  have hw := fun d (hd : d ∈ tables_1) => atoms_spec (ws := Jvm.Cond.code x code maxLocals ret :: tables_1) hat d (List.mem_cons_of_mem _ hd)
  have hfit : Fit s := fun {y c} hc i hi => by
    obtain ⟨ha, rfl⟩ := Array.getElem?_eq_some_iff.mp hc
    have q := List.all_eq_true.mp ((Array.all_eq_true_iff_forall_mem.mp hF) _ (Array.getElem_mem ha)) i (List.mem_range.mpr hi)
    simpa [Array.getElem?_eq_getElem hi] using q
  obtain ⟨hsets, hown0⟩ := atoms_of _ (rest_1_c_eq ▸ (show rest_1_c.before _ s = true from hrest))
  have hr0 := Cond.before_iff.mp hown0
  obtain ⟨i0, ei0⟩ := is_v g3
  obtain rfl : w0 = (.int i0) := Option.some.inj ei0
  obtain ⟨i1, ei1⟩ := is_v g5
  obtain rfl : w1 = (.int i1) := Option.some.inj ei1
  obtain ⟨i2, ei2⟩ := is_v g7
  obtain rfl : w2 = (.int i2) := Option.some.inj ei2
  obtain ⟨i3, ei3⟩ := is_v g9
  obtain rfl : w3 = (.int i3) := Option.some.inj ei3
  obtain ⟨i4, ei4⟩ := is_v g11
  obtain rfl : w4 = (.int i4) := Option.some.inj ei4
  obtain ⟨i5, ei5⟩ := is_v g12
  obtain rfl : w5 = (.int i5) := Option.some.inj ei5
  have ncs := not_v (Cond.before_iff.mp (hsets _ (List.mem_of_getElem? (i := 2) rfl)))
  obtain ⟨zcs, ecs⟩ := is_v (Cond.before_iff.mp (hsets _ (List.mem_of_getElem? (i := 1) rfl)))
  have Scs : Sta s s.heap "java/lang/String" "COMPACT_STRINGS" "Z" (.int zcs) := Sta.start ecs (Or.inl (hsets _ (List.mem_of_getElem? (i := 0) rfl)))
  have hcs : ¬ (zcs = (0 : Int32)) := gotF (Cond.eq_ints ecs (Term.int_eval (0))) ncs
  obtain ⟨u8, vu⟩ := exa_v (Cond.before_iff.mp (hsets _ (List.mem_of_getElem? (i := 17) rfl)))
  obtain ⟨u9, vv⟩ := exa_v (Cond.before_iff.mp (hsets _ (List.mem_of_getElem? (i := 14) rfl)))
  obtain rfl := own_eqref vv vu (Cond.before_iff.mp (hsets _ (List.mem_of_getElem? (i := 13) rfl)))
  have Su := Sta.start vu (Or.inl (hsets _ (List.mem_of_getElem? (i := 12) rfl)))
  have Sv := Sta.start vv (Or.inl (hsets _ (List.mem_of_getElem? (i := 10) rfl)))
  obtain ⟨n, o, h1, h2, h3, _, L, rfl, ⟨rfl, N⟩, hq⟩ := rm0 l s _ hw s.heap.size i0 i1 i2 i3 i4 i5 zcs _ s.heap (Nat.le_refl _) Scs hcs Su Sv tables_1 p e ha hc hk s m _ below hf ((Spec.applies_iff_loose hf).mp happ).1 ⟨rfl, State.Warmed39.refl s, rfl⟩ trivial
  refine ⟨n, _, h1, h2, h3, hpost _ _ _ _ _ _ ⟨Cond.after_iff.mpr rfl, Cond.after_iff.mpr (eq_i res_at (Term.int_eval (1)) rfl), trivial⟩ ⟨hq.1, hq.2.1, (hq.2.2.sift fun y hy => Or.inr (N y hy)).mono (by decide) (by decide)⟩⟩
theorem main_1_1 : Claimed_1_1 := comes_1 fun _ _ _ _ _ _ h hF => ⟨h.1, hF⟩
theorem main_1_2 : Claimed_1_2 := comes_1 fun _ _ _ _ _ _ h hF => ⟨h.2.1, hF⟩
end Jvm.Pilot.@@N@@
namespace Jvm.Pilot.@@N@@
open Jvm Jvm.ClassFile Sem Op Lib Jvm.Free Jvm.Stand Jvm.Pilot.@@N@@.Jvm.D
/-! MADE BY PROGRAM (witnessworld.py) out of the Statement's table words and the real class files: 31 classes; the members and pool entries that the words name. The judged class is class 1, her method 1. -/
namespace start1
open Jvm.ClassFile
def u (s : String) : CpInfo := .utf8 (stringToUtf16 s)
/-- a pool by its gaps: so many unusable entries, then the entry; so many at the end -/
def gap : Nat → List CpInfo → List CpInfo
  | 0, r => r
  | n + 1, r => .unusable :: gap n r
def poolList (es : List (Nat × CpInfo)) (last : Nat) : List CpInfo := es.foldr (fun e r => gap e.1 (e.2 :: r)) (gap last [])
def pool (es : List (Nat × CpInfo)) (last : Nat) : Array CpInfo := ⟨poolList es last⟩
def fileOf (pool : Array CpInfo) (this : Nat) (attrs : Array Attribute := #[]) (ms : Array MethodInfo := #[]) (fl : Nat := 33) (sup : Nat := 0) (ifs : Array Nat := #[]) (fds : Array FieldInfo := #[]) : ClassFile where
  minorVersion := 0
  majorVersion := 65
  constantPool := pool
  accessFlags := fl
  thisClass := this
  superClass := sup
  interfaces := ifs
  fields := fds
  methods := ms
  attributes := attrs
def plain (name : String) (sup : Option ClassId) : Class where
  name := name
  kind := .ordinary
  loader := none
  accessFlags := 33
  super := sup
  interfaces := #[]
  cf := none
  fields := #[]
  methods := #[]
  instanceTypes := #[]
  staticTypes := #[]
  resolved := #[]
  callSites := []
  init := .initialized
  statics := none
  mirror := none

def pool0 : Array CpInfo := pool [(5, u "<init>"), (0, u "()V"), (1, .class_ 10), (1, u "java/lang/Object"), (85, u "clone"), (0, u "()Ljava/lang/Object;")] 26

def k0c0 : Code := { maxStack := 0, maxLocals := 1, code := object_method_1_code, exceptionTable := #[], attributes := #[] }
def k0m0 : Method := { name := "<init>", desc := "()V", sig := { parameters := [], returnType := none }, accessFlags := 1, code := some k0c0 }
def k0m1 : Method := { name := "clone", desc := "()Ljava/lang/Object;", sig := { parameters := [], returnType := some (.object "java/lang/Object") }, accessFlags := 260, code := none }
/-- java/lang/Object -/
def k0 : Class := { plain "java/lang/Object" none with
  accessFlags := 33
  interfaces := #[]
  cf := some (fileOf pool0 8 #[] #[{ accessFlags := 1, nameIndex := 5, descriptorIndex := 6, attributes := #[] }, { accessFlags := 260, nameIndex := 96, descriptorIndex := 97, attributes := #[] }] 33 0 #[] #[])
  fields := #[]
  methods := #[k0m0, k0m1]
  instanceTypes := #[]
  staticTypes := #[]
  resolved := Array.replicate 124 none
  statics := none }

def pool1 : Array CpInfo := pool [(2, .class_ 4), (0, .nameAndType 5 6), (0, u "java/lang/Object"), (0, u "<init>"), (0, u "()V"), (0, .methodref 8 9), (0, .class_ 10), (0, .nameAndType 11 12), (0, u "java/lang/String"), (0, u "valueOf"), (0, u "(C)Ljava/lang/String;"), (0, .methodref 8 14), (0, .nameAndType 5 15), (0, u "([C)V"), (0, .class_ 17), (0, u "com/example/vikt/vikt/graph/NameTable"), (0, .methodref 16 3), (0, .methodref 16 20), (0, .nameAndType 21 22), (0, u "number"), (0, u "(Ljava/lang/String;)I"), (0, .integer 2147483647), (0, .methodref 16 25), (0, .nameAndType 26 27), (0, u "prefetch"), (0, u "([II)V"), (0, .methodref 16 29), (0, .nameAndType 30 31), (0, u "count"), (0, u "()I"), (0, .class_ 33), (0, u "com/example/vikt/vikt/graph/NameTablePrefetchPinLaw"), (2, u "law"), (0, u "(IIIIII)Z")] 5

def k1m0 : Method := { name := "<init>", desc := "()V", sig := { parameters := [], returnType := none }, accessFlags := 1, code := none }
def k1c1 : Code := { maxStack := 6, maxLocals := 15, code := code, exceptionTable := #[], attributes := #[] }
def k1m1 : Method := { name := "law", desc := "(IIIIII)Z", sig := { parameters := [.int, .int, .int, .int, .int, .int], returnType := some .boolean }, accessFlags := 9, code := some k1c1 }
/-- com/example/vikt/vikt/graph/NameTablePrefetchPinLaw -/
def k1 : Class := { plain "com/example/vikt/vikt/graph/NameTablePrefetchPinLaw" (some 0) with
  accessFlags := 49
  interfaces := #[]
  cf := some (fileOf pool1 32 #[] #[{ accessFlags := 1, nameIndex := 5, descriptorIndex := 6, attributes := #[] }, { accessFlags := 9, nameIndex := 36, descriptorIndex := 37, attributes := #[] }] 49 2 #[] #[])
  fields := #[]
  methods := #[k1m0, k1m1]
  instanceTypes := #[]
  staticTypes := #[]
  resolved := Array.replicate 43 none
  statics := none }

def pool2 : Array CpInfo := pool [(1, .class_ 2), (0, u "java/io/Serializable"), (0, .class_ 4), (0, u "java/lang/Object")] 2

/-- java/io/Serializable -/
def k2 : Class := { plain "java/io/Serializable" (some 0) with
  accessFlags := 1537
  interfaces := #[]
  cf := some (fileOf pool2 1 #[] #[] 1537 3 #[] #[])
  fields := #[]
  methods := #[]
  instanceTypes := #[]
  staticTypes := #[]
  resolved := Array.replicate 7 none
  statics := none }

def pool3 : Array CpInfo := pool [(1, .class_ 2), (0, u "java/lang/Comparable"), (0, .class_ 4), (0, u "java/lang/Object")] 7

/-- java/lang/Comparable -/
def k3 : Class := { plain "java/lang/Comparable" (some 0) with
  accessFlags := 1537
  interfaces := #[]
  cf := some (fileOf pool3 1 #[] #[] 1537 3 #[] #[])
  fields := #[]
  methods := #[]
  instanceTypes := #[]
  staticTypes := #[]
  resolved := Array.replicate 12 none
  statics := none }

def pool4 : Array CpInfo := pool [(2, .class_ 4), (1, u "java/lang/CharSequence"), (42, .class_ 48), (0, u "java/lang/CharSequence$1CodePointIterator"), (10, .class_ 60), (0, u "java/lang/CharSequence$1CharIterator"), (5, .class_ 67), (0, u "java/lang/Object")] 63

/-- java/lang/CharSequence -/
def k4 : Class := { plain "java/lang/CharSequence" (some 0) with
  accessFlags := 1537
  interfaces := #[]
  cf := some (fileOf pool4 2 #[.nestMembers #[47, 59]] #[] 1537 66 #[] #[])
  fields := #[]
  methods := #[]
  instanceTypes := #[]
  staticTypes := #[]
  resolved := Array.replicate 131 none
  statics := none }

def pool5 : Array CpInfo := pool [(1, .class_ 2), (0, u "java/lang/constant/Constable"), (0, .class_ 4), (0, u "java/lang/Object")] 6

/-- java/lang/constant/Constable -/
def k5 : Class := { plain "java/lang/constant/Constable" (some 0) with
  accessFlags := 1537
  interfaces := #[]
  cf := some (fileOf pool5 1 #[] #[] 1537 3 #[] #[])
  fields := #[]
  methods := #[]
  instanceTypes := #[]
  staticTypes := #[]
  resolved := Array.replicate 11 none
  statics := none }

def pool6 : Array CpInfo := pool [(1, .class_ 2), (0, u "java/lang/constant/ConstantDesc"), (0, .class_ 4), (0, u "java/lang/Object")] 32

/-- java/lang/constant/ConstantDesc -/
def k6 : Class := { plain "java/lang/constant/ConstantDesc" (some 0) with
  accessFlags := 1537
  interfaces := #[]
  cf := some (fileOf pool6 1 #[] #[] 1537 3 #[] #[])
  fields := #[]
  methods := #[]
  instanceTypes := #[]
  staticTypes := #[]
  resolved := Array.replicate 37 none
  statics := none }

def pool7 : Array CpInfo := pool [(1, .methodref 2 3), (0, .class_ 4), (0, .nameAndType 5 6), (0, u "java/lang/Object"), (0, u "<init>"), (0, u "()V"), (2, .fieldref 10 11), (0, .class_ 12), (0, .nameAndType 13 14), (0, u "java/lang/String"), (0, u "value"), (0, u "[B"), (0, .fieldref 10 16), (0, .nameAndType 17 18), (0, u "coder"), (0, u "B"), (2, u "hash"), (0, u "I"), (2, u "hashIsZero"), (0, u "Z"), (0, .methodref 10 28), (0, .nameAndType 5 29), (0, u "([CIILjava/lang/Void;)V"), (8, .fieldref 10 39), (0, .nameAndType 40 26), (0, u "COMPACT_STRINGS"), (1, .class_ 44), (1, u "java/lang/StringUTF16"), (0, u "compress"), (1, .methodref 42 48), (0, .nameAndType 49 50), (0, u "coderFromArrayLen"), (0, u "([BI)B"), (2, u "toBytes"), (1, .class_ 57), (1, u "java/util/Arrays"), (2, .methodref 42 61), (0, .nameAndType 62 63), (0, u "newBytesFor"), (0, u "(I)[B"), (22, .fieldref 87 88), (0, .class_ 89), (0, .nameAndType 90 91), (0, u "sun/nio/cs/UTF_8"), (0, u "INSTANCE"), (0, u "Lsun/nio/cs/UTF_8;"), (1, .class_ 95), (1, u "java/lang/StringCoding"), (6, .methodref 55 103), (0, .nameAndType 104 105), (0, u "copyOf"), (0, u "([BI)[B"), (1, .class_ 109), (1, u "java/lang/StringLatin1"), (18, .methodref 93 129), (0, .nameAndType 130 131), (0, u "hasNegatives"), (0, u "([BII)Z"), (45, .methodref 42 178), (0, .nameAndType 45 179), (0, u "([CII)[B"), (29, .methodref 10 210), (0, .nameAndType 5 211), (0, u "([BB)V"), (40, .methodref 10 253), (0, .nameAndType 254 255), (0, u "encodeUTF8"), (0, u "(B[BZ)[B"), (23, .methodref 280 281), (0, .class_ 14), (0, .nameAndType 282 283), (0, u "clone"), (0, u "()Ljava/lang/Object;"), (33, u "encode"), (17, .methodref 10 336), (0, .nameAndType 17 337), (0, u "()B"), (31, u "(C)Z"), (162, u "getBytes"), (2, .methodref 10 536), (0, .nameAndType 317 537), (0, u "(Ljava/nio/charset/Charset;B[B)[B"), (37, .class_ 576), (0, u "java/lang/CharSequence"), (22, u "CASE_INSENSITIVE_ORDER"), (0, u "Ljava/util/Comparator;"), (181, u "valueOf"), (0, u "(C)Ljava/lang/String;"), (226, u "([C)V"), (4, .methodref 107 1016), (0, .nameAndType 1017 369), (0, u "canEncode"), (0, .methodref 107 1019), (0, .nameAndType 53 1020), (0, u "(C)[B"), (80, u "serialPersistentFields"), (0, u "[Ljava/io/ObjectStreamField;"), (0, .class_ 1104), (0, u "java/lang/String$CaseInsensitiveComparator"), (1, .class_ 1107), (0, u "java/io/Serializable"), (0, .class_ 1109), (0, u "java/lang/Comparable"), (0, .class_ 1111), (0, u "java/lang/constant/Constable"), (0, .class_ 1113), (0, u "java/lang/constant/ConstantDesc"), (2, u "serialVersionUID"), (0, u "J"), (3, u "REPL"), (0, u "C"), (2, u "LATIN1"), (1, u "UTF16"), (117, u "(Ljava/nio/charset/Charset;)[B")] 205

def k7m0 : Method := { name := "<init>", desc := "()V", sig := { parameters := [], returnType := none }, accessFlags := 1, code := none }
def k7c1 : Code := { maxStack := 5, maxLocals := 2, code := jdk_42_method_3_code, exceptionTable := #[], attributes := #[] }
def k7m1 : Method := { name := "<init>", desc := "([C)V", sig := { parameters := [(.array .char)], returnType := none }, accessFlags := 1, code := some k7c1 }
def k7c2 : Code := { maxStack := 4, maxLocals := 3, code := jdk_42_method_18_code, exceptionTable := #[], attributes := #[] }
def k7m2 : Method := { name := "encode", desc := "(Ljava/nio/charset/Charset;B[B)[B", sig := { parameters := [(.object "java/nio/charset/Charset"), .byte, (.array .byte)], returnType := some (.array .byte) }, accessFlags := 10, code := some k7c2 }
def k7c3 : Code := { maxStack := 5, maxLocals := 9, code := jdk_42_method_46_code, exceptionTable := #[], attributes := #[] }
def k7m3 : Method := { name := "encodeUTF8", desc := "(B[BZ)[B", sig := { parameters := [.byte, (.array .byte), .boolean], returnType := some (.array .byte) }, accessFlags := 10, code := some k7c3 }
def k7c4 : Code := { maxStack := 3, maxLocals := 2, code := jdk_42_method_64_code, exceptionTable := #[], attributes := #[] }
def k7m4 : Method := { name := "getBytes", desc := "(Ljava/nio/charset/Charset;)[B", sig := { parameters := [(.object "java/nio/charset/Charset")], returnType := some (.array .byte) }, accessFlags := 1, code := some k7c4 }
def k7c5 : Code := { maxStack := 4, maxLocals := 1, code := jdk_42_method_139_code, exceptionTable := #[], attributes := #[] }
def k7m5 : Method := { name := "valueOf", desc := "(C)Ljava/lang/String;", sig := { parameters := [.char], returnType := some (.object "java/lang/String") }, accessFlags := 9, code := some k7c5 }
def k7c6 : Code := { maxStack := 4, maxLocals := 6, code := jdk_42_method_149_code, exceptionTable := #[], attributes := #[] }
def k7m6 : Method := { name := "<init>", desc := "([CIILjava/lang/Void;)V", sig := { parameters := [(.array .char), .int, .int, (.object "java/lang/Void")], returnType := none }, accessFlags := 2, code := some k7c6 }
def k7c7 : Code := { maxStack := 2, maxLocals := 3, code := jdk_42_method_151_code, exceptionTable := #[], attributes := #[] }
def k7m7 : Method := { name := "<init>", desc := "([BB)V", sig := { parameters := [(.array .byte), .byte], returnType := none }, accessFlags := 0, code := some k7c7 }
def k7c8 : Code := { maxStack := 1, maxLocals := 1, code := jdk_42_method_152_code, exceptionTable := #[], attributes := #[] }
def k7m8 : Method := { name := "coder", desc := "()B", sig := { parameters := [], returnType := some .byte }, accessFlags := 0, code := some k7c8 }
/-- java/lang/String -/
def k7 : Class := { plain "java/lang/String" (some 0) with
  accessFlags := 49
  interfaces := #[2, 3, 4, 5, 6]
  cf := some (fileOf pool7 10 #[.nestMembers #[1103]] #[{ accessFlags := 1, nameIndex := 5, descriptorIndex := 6, attributes := #[] }, { accessFlags := 1, nameIndex := 5, descriptorIndex := 1010, attributes := #[] }, { accessFlags := 10, nameIndex := 317, descriptorIndex := 537, attributes := #[] }, { accessFlags := 10, nameIndex := 254, descriptorIndex := 255, attributes := #[] }, { accessFlags := 1, nameIndex := 532, descriptorIndex := 1245, attributes := #[] }, { accessFlags := 9, nameIndex := 782, descriptorIndex := 783, attributes := #[] }, { accessFlags := 2, nameIndex := 5, descriptorIndex := 29, attributes := #[] }, { accessFlags := 0, nameIndex := 5, descriptorIndex := 211, attributes := #[] }, { accessFlags := 0, nameIndex := 17, descriptorIndex := 337, attributes := #[] }] 49 2 #[1106, 1108, 575, 1110, 1112] #[{ accessFlags := 18, nameIndex := 13, descriptorIndex := 14, attributes := #[] }, { accessFlags := 18, nameIndex := 17, descriptorIndex := 18, attributes := #[] }, { accessFlags := 2, nameIndex := 21, descriptorIndex := 22, attributes := #[] }, { accessFlags := 2, nameIndex := 25, descriptorIndex := 26, attributes := #[] }, { accessFlags := 26, nameIndex := 1116, descriptorIndex := 1117, attributes := #[] }, { accessFlags := 24, nameIndex := 40, descriptorIndex := 26, attributes := #[] }, { accessFlags := 26, nameIndex := 1101, descriptorIndex := 1102, attributes := #[] }, { accessFlags := 26, nameIndex := 1121, descriptorIndex := 1122, attributes := #[] }, { accessFlags := 25, nameIndex := 599, descriptorIndex := 600, attributes := #[] }, { accessFlags := 24, nameIndex := 1125, descriptorIndex := 18, attributes := #[] }, { accessFlags := 24, nameIndex := 1127, descriptorIndex := 18, attributes := #[] }])
  fields := #[{ name := "value", type := (.array .byte), accessFlags := 18, slot := 0, constantValue := 0 }, { name := "coder", type := .byte, accessFlags := 18, slot := 1, constantValue := 0 }, { name := "hash", type := .int, accessFlags := 2, slot := 2, constantValue := 0 }, { name := "hashIsZero", type := .boolean, accessFlags := 2, slot := 3, constantValue := 0 }, { name := "serialVersionUID", type := .long, accessFlags := 26, slot := 0, constantValue := 0 }, { name := "COMPACT_STRINGS", type := .boolean, accessFlags := 24, slot := 1, constantValue := 0 }, { name := "serialPersistentFields", type := (.array (.object "java/io/ObjectStreamField")), accessFlags := 26, slot := 2, constantValue := 0 }, { name := "REPL", type := .char, accessFlags := 26, slot := 3, constantValue := 0 }, { name := "CASE_INSENSITIVE_ORDER", type := (.object "java/util/Comparator"), accessFlags := 25, slot := 4, constantValue := 0 }, { name := "LATIN1", type := .byte, accessFlags := 24, slot := 5, constantValue := 0 }, { name := "UTF16", type := .byte, accessFlags := 24, slot := 6, constantValue := 0 }]
  methods := #[k7m0, k7m1, k7m2, k7m3, k7m4, k7m5, k7m6, k7m7, k7m8]
  instanceTypes := #[(.array .byte), .byte, .int, .boolean]
  staticTypes := #[.long, .boolean, (.array (.object "java/io/ObjectStreamField")), .char, (.object "java/util/Comparator"), .byte, .byte]
  resolved := Array.replicate 1451 none
  statics := some 0 }

def pool8 : Array CpInfo := pool [(4, .class_ 6), (1, u "java/lang/Object"), (0, u "<init>"), (0, u "()V"), (5, .class_ 16), (1, u "java/lang/StringLatin1"), (73, u "canEncode"), (14, u "(C)Z"), (15, u "$assertionsDisabled"), (0, u "Z"), (98, .class_ 223), (1, u "java/lang/StringLatin1$LinesSpliterator"), (156, u "toBytes"), (1, u "(C)[B"), (7, .class_ 391), (0, u "java/lang/StringLatin1$CharsSpliterator")] 3

def k8m0 : Method := { name := "<init>", desc := "()V", sig := { parameters := [], returnType := none }, accessFlags := 0, code := none }
def k8c1 : Code := { maxStack := 2, maxLocals := 1, code := jdk_43_method_3_code, exceptionTable := #[], attributes := #[] }
def k8m1 : Method := { name := "canEncode", desc := "(C)Z", sig := { parameters := [.char], returnType := some .boolean }, accessFlags := 9, code := some k8c1 }
def k8c2 : Code := { maxStack := 4, maxLocals := 1, code := jdk_43_method_46_code, exceptionTable := #[], attributes := #[] }
def k8m2 : Method := { name := "toBytes", desc := "(C)[B", sig := { parameters := [.char], returnType := some (.array .byte) }, accessFlags := 9, code := some k8c2 }
/-- java/lang/StringLatin1 -/
def k8 : Class := { plain "java/lang/StringLatin1" (some 0) with
  accessFlags := 48
  interfaces := #[]
  cf := some (fileOf pool8 14 #[.nestMembers #[390, 221]] #[{ accessFlags := 0, nameIndex := 7, descriptorIndex := 8, attributes := #[] }, { accessFlags := 9, nameIndex := 90, descriptorIndex := 105, attributes := #[] }, { accessFlags := 9, nameIndex := 380, descriptorIndex := 382, attributes := #[] }] 48 4 #[] #[{ accessFlags := 4120, nameIndex := 121, descriptorIndex := 122, attributes := #[] }])
  fields := #[{ name := "$assertionsDisabled", type := .boolean, accessFlags := 4120, slot := 0, constantValue := 0 }]
  methods := #[k8m0, k8m1, k8m2]
  instanceTypes := #[]
  staticTypes := #[.boolean]
  resolved := Array.replicate 395 none
  statics := none }

def pool9 : Array CpInfo := pool [(6, .class_ 8), (1, u "java/lang/Object"), (0, u "<init>"), (0, u "()V"), (0, .methodref 12 13), (0, .class_ 14), (0, .nameAndType 15 16), (0, u "java/lang/StringUTF16"), (0, u "newBytesLength"), (0, u "(I)I"), (3, .integer 1073741823), (25, u "$assertionsDisabled"), (0, u "Z"), (13, u "HI_BYTE_SHIFT"), (0, u "I"), (2, u "LO_BYTE_SHIFT"), (43, u "newBytesFor"), (0, u "(I)[B"), (4, .methodref 12 116), (0, .nameAndType 117 118), (0, u "compress"), (0, u "([CI[BII)I"), (3, u "([CII)[B"), (138, u "coderFromArrayLen"), (0, u "([BI)B"), (106, .class_ 371), (1, u "java/lang/StringUTF16$LinesSpliterator"), (58, u "MAX_LENGTH"), (196, .class_ 628), (0, u "java/lang/StringUTF16$CodePointsSpliterator"), (0, .class_ 630), (0, u "java/lang/StringUTF16$CharsSpliterator")] 4

def k9m0 : Method := { name := "<init>", desc := "()V", sig := { parameters := [], returnType := none }, accessFlags := 0, code := none }
def k9c1 : Code := { maxStack := 1, maxLocals := 1, code := jdk_52_method_2_code, exceptionTable := #[], attributes := #[] }
def k9m1 : Method := { name := "newBytesFor", desc := "(I)[B", sig := { parameters := [.int], returnType := some (.array .byte) }, accessFlags := 9, code := some k9c1 }
def k9c2 : Code := { maxStack := 4, maxLocals := 1, code := jdk_52_method_3_code, exceptionTable := #[], attributes := #[] }
def k9m2 : Method := { name := "newBytesLength", desc := "(I)I", sig := { parameters := [.int], returnType := some .int }, accessFlags := 9, code := some k9c2 }
def k9c3 : Code := { maxStack := 2, maxLocals := 2, code := jdk_52_method_15_code, exceptionTable := #[], attributes := #[] }
def k9m3 : Method := { name := "coderFromArrayLen", desc := "([BI)B", sig := { parameters := [(.array .byte), .int], returnType := some .byte }, accessFlags := 8, code := some k9c3 }
def k9c4 : Code := { maxStack := 5, maxLocals := 6, code := jdk_52_method_16_code, exceptionTable := #[], attributes := #[] }
def k9m4 : Method := { name := "compress", desc := "([CII)[B", sig := { parameters := [(.array .char), .int, .int], returnType := some (.array .byte) }, accessFlags := 9, code := some k9c4 }
def k9c5 : Code := { maxStack := 3, maxLocals := 7, code := jdk_52_method_21_code, exceptionTable := #[], attributes := #[] }
def k9m5 : Method := { name := "compress", desc := "([CI[BII)I", sig := { parameters := [(.array .char), .int, (.array .byte), .int, .int], returnType := some .int }, accessFlags := 9, code := some k9c5 }
/-- java/lang/StringUTF16 -/
def k9 : Class := { plain "java/lang/StringUTF16" (some 0) with
  accessFlags := 48
  interfaces := #[]
  cf := some (fileOf pool9 12 #[.nestMembers #[627, 629, 369]] #[{ accessFlags := 0, nameIndex := 9, descriptorIndex := 10, attributes := #[] }, { accessFlags := 9, nameIndex := 109, descriptorIndex := 110, attributes := #[] }, { accessFlags := 9, nameIndex := 15, descriptorIndex := 16, attributes := #[] }, { accessFlags := 8, nameIndex := 261, descriptorIndex := 262, attributes := #[] }, { accessFlags := 9, nameIndex := 117, descriptorIndex := 122, attributes := #[] }, { accessFlags := 9, nameIndex := 117, descriptorIndex := 118, attributes := #[] }] 48 6 #[] #[{ accessFlags := 26, nameIndex := 61, descriptorIndex := 62, attributes := #[] }, { accessFlags := 26, nameIndex := 65, descriptorIndex := 62, attributes := #[] }, { accessFlags := 24, nameIndex := 430, descriptorIndex := 62, attributes := #[] }, { accessFlags := 4120, nameIndex := 46, descriptorIndex := 47, attributes := #[] }])
  fields := #[{ name := "HI_BYTE_SHIFT", type := .int, accessFlags := 26, slot := 0, constantValue := 0 }, { name := "LO_BYTE_SHIFT", type := .int, accessFlags := 26, slot := 1, constantValue := 0 }, { name := "MAX_LENGTH", type := .int, accessFlags := 24, slot := 2, constantValue := 0 }, { name := "$assertionsDisabled", type := .boolean, accessFlags := 4120, slot := 3, constantValue := 0 }]
  methods := #[k9m0, k9m1, k9m2, k9m3, k9m4, k9m5]
  instanceTypes := #[]
  staticTypes := #[.int, .int, .int, .boolean]
  resolved := Array.replicate 635 none
  statics := none }

def pool10 : Array CpInfo := pool [(1, .methodref 2 3), (0, .class_ 4), (0, .nameAndType 5 6), (0, u "java/lang/Object"), (0, u "<init>"), (0, u "()V"), (0, .fieldref 8 9), (0, .class_ 10), (0, .nameAndType 11 12), (0, u "com/example/vikt/vikt/graph/NameTable"), (0, u "bytes"), (0, u "[B"), (0, .fieldref 8 14), (0, .nameAndType 15 16), (0, u "starts"), (0, u "[I"), (0, .fieldref 8 18), (0, .nameAndType 19 20), (0, u "slots"), (0, u "[J"), (0, .fieldref 8 22), (0, .nameAndType 23 24), (0, u "mask"), (0, u "I"), (0, .integer 2246822507), (0, .integer 3266489909), (0, .fieldref 28 29), (0, .class_ 30), (0, .nameAndType 31 32), (0, u "java/nio/charset/StandardCharsets"), (0, u "UTF_8"), (0, u "Ljava/nio/charset/Charset;"), (0, .methodref 34 35), (0, .class_ 36), (0, .nameAndType 37 38), (0, u "java/lang/String"), (0, u "getBytes"), (0, u "(Ljava/nio/charset/Charset;)[B"), (0, .methodref 8 40), (0, .nameAndType 41 42), (0, u "hash"), (0, u "([BII)I"), (0, .methodref 8 44), (0, .nameAndType 45 46), (0, u "number"), (0, u "([BIII)I"), (0, .methodref 8 48), (0, .nameAndType 49 50), (0, u "key"), (0, u "([BII)J"), (1, .class_ 54), (1, u "java/util/Arrays"), (2, .methodref 8 58), (0, .nameAndType 59 42), (0, u "add"), (0, .fieldref 8 61), (0, .nameAndType 62 24), (0, u "count"), (3, .fieldref 8 67), (0, .nameAndType 68 69), (0, u "prefetched"), (0, u "J"), (2, .fieldref 8 73), (0, .nameAndType 74 24), (0, u "used"), (0, .methodref 52 76), (0, .nameAndType 77 78), (0, u "copyOf"), (0, u "([BI)[B"), (6, .methodref 86 87), (0, .class_ 88), (0, .nameAndType 89 90), (0, u "java/lang/Math"), (0, u "min"), (0, u "(II)I"), (2, .integer 2147483639), (10, .methodref 105 106), (0, .class_ 107), (0, .nameAndType 108 109), (0, u "java/lang/System"), (0, u "arraycopy"), (0, u "(Ljava/lang/Object;ILjava/lang/Object;II)V"), (10, u "KEY_BYTES"), (2, u "INITIAL_SLOTS"), (4, u "(Ljava/lang/String;)I"), (0, u "prefetch"), (0, u "([II)V"), (0, u "()I")] 6

def k10c0 : Code := { maxStack := 2, maxLocals := 1, code := prog_7_method_1_code, exceptionTable := #[], attributes := #[] }
def k10m0 : Method := { name := "<init>", desc := "()V", sig := { parameters := [], returnType := none }, accessFlags := 0, code := some k10c0 }
def k10c1 : Code := { maxStack := 3, maxLocals := 5, code := prog_7_method_2_code, exceptionTable := #[], attributes := #[] }
def k10m1 : Method := { name := "hash", desc := "([BII)I", sig := { parameters := [(.array .byte), .int, .int], returnType := some .int }, accessFlags := 8, code := some k10c1 }
def k10c2 : Code := { maxStack := 7, maxLocals := 3, code := prog_7_method_3_code, exceptionTable := #[], attributes := #[] }
def k10m2 : Method := { name := "number", desc := "(Ljava/lang/String;)I", sig := { parameters := [(.object "java/lang/String")], returnType := some .int }, accessFlags := 0, code := some k10c2 }
def k10c3 : Code := { maxStack := 6, maxLocals := 11, code := prog_7_method_4_code, exceptionTable := #[], attributes := #[] }
def k10m3 : Method := { name := "number", desc := "([BIII)I", sig := { parameters := [(.array .byte), .int, .int, .int], returnType := some .int }, accessFlags := 0, code := some k10c3 }
def k10c4 : Code := { maxStack := 6, maxLocals := 6, code := prog_7_method_5_code, exceptionTable := #[], attributes := #[] }
def k10m4 : Method := { name := "prefetch", desc := "([II)V", sig := { parameters := [(.array .int), .int], returnType := none }, accessFlags := 0, code := some k10c4 }
def k10c5 : Code := { maxStack := 1, maxLocals := 1, code := prog_7_method_6_code, exceptionTable := #[], attributes := #[] }
def k10m5 : Method := { name := "count", desc := "()I", sig := { parameters := [], returnType := some .int }, accessFlags := 0, code := some k10c5 }
def k10c6 : Code := { maxStack := 6, maxLocals := 8, code := prog_7_method_8_code, exceptionTable := #[], attributes := #[] }
def k10m6 : Method := { name := "key", desc := "([BII)J", sig := { parameters := [(.array .byte), .int, .int], returnType := some .long }, accessFlags := 10, code := some k10c6 }
def k10c7 : Code := { maxStack := 5, maxLocals := 5, code := prog_7_method_9_code, exceptionTable := #[], attributes := #[] }
def k10m7 : Method := { name := "add", desc := "([BII)I", sig := { parameters := [(.array .byte), .int, .int], returnType := some .int }, accessFlags := 2, code := some k10c7 }
/-- com/example/vikt/vikt/graph/NameTable -/
def k10 : Class := { plain "com/example/vikt/vikt/graph/NameTable" (some 0) with
  accessFlags := 48
  interfaces := #[]
  cf := some (fileOf pool10 8 #[] #[{ accessFlags := 0, nameIndex := 5, descriptorIndex := 6, attributes := #[] }, { accessFlags := 8, nameIndex := 41, descriptorIndex := 42, attributes := #[] }, { accessFlags := 0, nameIndex := 45, descriptorIndex := 128, attributes := #[] }, { accessFlags := 0, nameIndex := 45, descriptorIndex := 46, attributes := #[] }, { accessFlags := 0, nameIndex := 129, descriptorIndex := 130, attributes := #[] }, { accessFlags := 0, nameIndex := 62, descriptorIndex := 131, attributes := #[] }, { accessFlags := 10, nameIndex := 49, descriptorIndex := 50, attributes := #[] }, { accessFlags := 2, nameIndex := 59, descriptorIndex := 42, attributes := #[] }] 48 2 #[] #[{ accessFlags := 26, nameIndex := 120, descriptorIndex := 24, attributes := #[] }, { accessFlags := 26, nameIndex := 123, descriptorIndex := 24, attributes := #[] }, { accessFlags := 2, nameIndex := 11, descriptorIndex := 12, attributes := #[] }, { accessFlags := 2, nameIndex := 74, descriptorIndex := 24, attributes := #[] }, { accessFlags := 2, nameIndex := 15, descriptorIndex := 16, attributes := #[] }, { accessFlags := 2, nameIndex := 62, descriptorIndex := 24, attributes := #[] }, { accessFlags := 2, nameIndex := 19, descriptorIndex := 20, attributes := #[] }, { accessFlags := 2, nameIndex := 23, descriptorIndex := 24, attributes := #[] }, { accessFlags := 2, nameIndex := 68, descriptorIndex := 69, attributes := #[] }])
  fields := #[{ name := "KEY_BYTES", type := .int, accessFlags := 26, slot := 0, constantValue := 0 }, { name := "INITIAL_SLOTS", type := .int, accessFlags := 26, slot := 1, constantValue := 0 }, { name := "bytes", type := (.array .byte), accessFlags := 2, slot := 0, constantValue := 0 }, { name := "used", type := .int, accessFlags := 2, slot := 1, constantValue := 0 }, { name := "starts", type := (.array .int), accessFlags := 2, slot := 2, constantValue := 0 }, { name := "count", type := .int, accessFlags := 2, slot := 3, constantValue := 0 }, { name := "slots", type := (.array .long), accessFlags := 2, slot := 4, constantValue := 0 }, { name := "mask", type := .int, accessFlags := 2, slot := 5, constantValue := 0 }, { name := "prefetched", type := .long, accessFlags := 2, slot := 6, constantValue := 0 }]
  methods := #[k10m0, k10m1, k10m2, k10m3, k10m4, k10m5, k10m6, k10m7]
  instanceTypes := #[(.array .byte), .int, (.array .int), .int, (.array .long), .int, .long]
  staticTypes := #[.int, .int]
  resolved := Array.replicate 138 none
  statics := none }

def pool11 : Array CpInfo := pool [(2, .class_ 4), (1, u "java/lang/Object"), (0, u "<init>"), (0, u "()V"), (14, .class_ 23), (1, u "java/nio/charset/StandardCharsets"), (0, u "US_ASCII"), (0, u "Ljava/nio/charset/Charset;"), (7, u "ISO_8859_1"), (7, u "UTF_8"), (5, u "UTF_16BE"), (5, u "UTF_16LE"), (5, u "UTF_16")] 8

def k11m0 : Method := { name := "<init>", desc := "()V", sig := { parameters := [], returnType := none }, accessFlags := 2, code := none }
/-- java/nio/charset/StandardCharsets -/
def k11 : Class := { plain "java/nio/charset/StandardCharsets" (some 0) with
  accessFlags := 49
  interfaces := #[]
  cf := some (fileOf pool11 21 #[] #[{ accessFlags := 2, nameIndex := 5, descriptorIndex := 6, attributes := #[] }] 49 2 #[] #[{ accessFlags := 25, nameIndex := 24, descriptorIndex := 25, attributes := #[] }, { accessFlags := 25, nameIndex := 33, descriptorIndex := 25, attributes := #[] }, { accessFlags := 25, nameIndex := 41, descriptorIndex := 25, attributes := #[] }, { accessFlags := 25, nameIndex := 47, descriptorIndex := 25, attributes := #[] }, { accessFlags := 25, nameIndex := 53, descriptorIndex := 25, attributes := #[] }, { accessFlags := 25, nameIndex := 59, descriptorIndex := 25, attributes := #[] }])
  fields := #[{ name := "US_ASCII", type := (.object "java/nio/charset/Charset"), accessFlags := 25, slot := 0, constantValue := 0 }, { name := "ISO_8859_1", type := (.object "java/nio/charset/Charset"), accessFlags := 25, slot := 1, constantValue := 0 }, { name := "UTF_8", type := (.object "java/nio/charset/Charset"), accessFlags := 25, slot := 2, constantValue := 0 }, { name := "UTF_16BE", type := (.object "java/nio/charset/Charset"), accessFlags := 25, slot := 3, constantValue := 0 }, { name := "UTF_16LE", type := (.object "java/nio/charset/Charset"), accessFlags := 25, slot := 4, constantValue := 0 }, { name := "UTF_16", type := (.object "java/nio/charset/Charset"), accessFlags := 25, slot := 5, constantValue := 0 }]
  methods := #[k11m0]
  instanceTypes := #[]
  staticTypes := #[(.object "java/nio/charset/Charset"), (.object "java/nio/charset/Charset"), (.object "java/nio/charset/Charset"), (.object "java/nio/charset/Charset"), (.object "java/nio/charset/Charset"), (.object "java/nio/charset/Charset")]
  resolved := Array.replicate 68 none
  statics := some 1 }

def pool12 : Array CpInfo := pool [(18, .class_ 20), (1, u "java/nio/charset/Charset"), (0, u "cache1"), (0, u "[Ljava/lang/Object;"), (2, u "cache2"), (0, .class_ 27), (0, u "java/lang/Object"), (0, .class_ 29), (0, u "java/nio/charset/Charset$1"), (4, .class_ 36), (1, u "java/nio/charset/Charset$ThreadTrackHolder"), (21, .class_ 59), (0, u "java/nio/charset/Charset$2"), (11, .class_ 73), (1, u "java/nio/charset/Charset$ExtendedProviderHolder"), (22, u "standardProvider"), (0, u "Ljava/nio/charset/spi/CharsetProvider;"), (29, u "name"), (7, .class_ 136), (0, u "java/nio/charset/Charset$3"), (5, u "defaultCharset"), (0, u "Ljava/nio/charset/Charset;"), (14, u "zeroAliases"), (0, u "[Ljava/lang/String;"), (29, u "Ljava/lang/String;"), (2, u "aliases"), (2, u "aliasSet"), (0, u "Ljava/util/Set;"), (82, .class_ 280), (0, u "java/lang/Comparable"), (84, .class_ 366), (0, u "java/nio/charset/Charset$ExtendedProviderHolder$1")] 3

/-- java/nio/charset/Charset -/
def k12 : Class := { plain "java/nio/charset/Charset" (some 0) with
  accessFlags := 1057
  interfaces := #[3]
  cf := some (fileOf pool12 18 #[.nestMembers #[71, 365, 34, 135, 58, 28]] #[] 1057 26 #[279] #[{ accessFlags := 26, nameIndex := 96, descriptorIndex := 97, attributes := #[] }, { accessFlags := 26, nameIndex := 158, descriptorIndex := 159, attributes := #[] }, { accessFlags := 74, nameIndex := 21, descriptorIndex := 22, attributes := #[] }, { accessFlags := 74, nameIndex := 25, descriptorIndex := 22, attributes := #[] }, { accessFlags := 10, nameIndex := 142, descriptorIndex := 143, attributes := #[] }, { accessFlags := 18, nameIndex := 127, descriptorIndex := 189, attributes := #[] }, { accessFlags := 18, nameIndex := 192, descriptorIndex := 159, attributes := #[] }, { accessFlags := 2, nameIndex := 195, descriptorIndex := 196, attributes := #[] }])
  fields := #[{ name := "standardProvider", type := (.object "java/nio/charset/spi/CharsetProvider"), accessFlags := 26, slot := 0, constantValue := 0 }, { name := "zeroAliases", type := (.array (.object "java/lang/String")), accessFlags := 26, slot := 1, constantValue := 0 }, { name := "cache1", type := (.array (.object "java/lang/Object")), accessFlags := 74, slot := 2, constantValue := 0 }, { name := "cache2", type := (.array (.object "java/lang/Object")), accessFlags := 74, slot := 3, constantValue := 0 }, { name := "defaultCharset", type := (.object "java/nio/charset/Charset"), accessFlags := 10, slot := 4, constantValue := 0 }, { name := "name", type := (.object "java/lang/String"), accessFlags := 18, slot := 0, constantValue := 0 }, { name := "aliases", type := (.array (.object "java/lang/String")), accessFlags := 18, slot := 1, constantValue := 0 }, { name := "aliasSet", type := (.object "java/util/Set"), accessFlags := 2, slot := 2, constantValue := 0 }]
  methods := #[]
  instanceTypes := #[(.object "java/lang/String"), (.array (.object "java/lang/String")), (.object "java/util/Set")]
  staticTypes := #[(.object "java/nio/charset/spi/CharsetProvider"), (.array (.object "java/lang/String")), (.array (.object "java/lang/Object")), (.array (.object "java/lang/Object")), (.object "java/nio/charset/Charset")]
  resolved := Array.replicate 370 none
  statics := none }

def pool13 : Array CpInfo := pool [(1, .class_ 2), (0, u "sun/nio/cs/HistoricallyNamedCharset"), (0, .class_ 4), (0, u "java/lang/Object")] 4

/-- sun/nio/cs/HistoricallyNamedCharset -/
def k13 : Class := { plain "sun/nio/cs/HistoricallyNamedCharset" (some 0) with
  accessFlags := 1537
  interfaces := #[]
  cf := some (fileOf pool13 1 #[] #[] 1537 3 #[] #[])
  fields := #[]
  methods := #[]
  instanceTypes := #[]
  staticTypes := #[]
  resolved := Array.replicate 9 none
  statics := none }

def pool14 : Array CpInfo := pool [(2, .class_ 4), (1, u "java/nio/charset/Charset"), (130, .class_ 136), (0, u "sun/nio/cs/Unicode"), (0, .class_ 138), (0, u "sun/nio/cs/HistoricallyNamedCharset")] 15

/-- sun/nio/cs/Unicode -/
def k14 : Class := { plain "sun/nio/cs/Unicode" (some 12) with
  accessFlags := 1056
  interfaces := #[13]
  cf := some (fileOf pool14 135 #[] #[] 1056 2 #[137] #[])
  fields := #[]
  methods := #[]
  instanceTypes := #[(.object "java/lang/String"), (.array (.object "java/lang/String")), (.object "java/util/Set")]
  staticTypes := #[]
  resolved := Array.replicate 154 none
  statics := none }

def pool15 : Array CpInfo := pool [(10, .class_ 12), (1, u "sun/nio/cs/Unicode"), (0, u "<init>"), (3, .class_ 18), (0, u "sun/nio/cs/UTF_8$Decoder"), (3, .class_ 23), (0, u "sun/nio/cs/UTF_8$Encoder"), (15, .class_ 40), (0, u "sun/nio/cs/UTF_8"), (2, u "()V"), (2, u "INSTANCE"), (0, u "Lsun/nio/cs/UTF_8;"), (8, u "JLA"), (0, u "Ljdk/internal/access/JavaLangAccess;")] 26

def k15m0 : Method := { name := "<init>", desc := "()V", sig := { parameters := [], returnType := none }, accessFlags := 1, code := none }
/-- sun/nio/cs/UTF_8 -/
def k15 : Class := { plain "sun/nio/cs/UTF_8" (some 14) with
  accessFlags := 49
  interfaces := #[]
  cf := some (fileOf pool15 39 #[.nestMembers #[22, 17]] #[{ accessFlags := 1, nameIndex := 13, descriptorIndex := 43, attributes := #[] }] 49 10 #[] #[{ accessFlags := 25, nameIndex := 46, descriptorIndex := 47, attributes := #[] }, { accessFlags := 26, nameIndex := 56, descriptorIndex := 57, attributes := #[] }])
  fields := #[{ name := "INSTANCE", type := (.object "sun/nio/cs/UTF_8"), accessFlags := 25, slot := 0, constantValue := 0 }, { name := "JLA", type := (.object "jdk/internal/access/JavaLangAccess"), accessFlags := 26, slot := 1, constantValue := 0 }]
  methods := #[k15m0]
  instanceTypes := #[(.object "java/lang/String"), (.array (.object "java/lang/String")), (.object "java/util/Set")]
  staticTypes := #[(.object "sun/nio/cs/UTF_8"), (.object "jdk/internal/access/JavaLangAccess")]
  resolved := Array.replicate 84 none
  statics := some 2 }

def pool16 : Array CpInfo := pool [(2, .class_ 4), (1, u "java/lang/Object"), (0, u "<init>"), (0, u "()V"), (0, .methodref 8 9), (0, .class_ 10), (0, .nameAndType 11 12), (0, u "java/lang/StringCoding"), (0, u "countPositives"), (0, u "([BII)I"), (11, u "hasNegatives"), (0, u "([BII)Z")] 23

def k16m0 : Method := { name := "<init>", desc := "()V", sig := { parameters := [], returnType := none }, accessFlags := 2, code := none }
def k16c1 : Code := { maxStack := 3, maxLocals := 3, code := jdk_123_method_2_code, exceptionTable := #[], attributes := #[] }
def k16m1 : Method := { name := "hasNegatives", desc := "([BII)Z", sig := { parameters := [(.array .byte), .int, .int], returnType := some .boolean }, accessFlags := 9, code := some k16c1 }
def k16c2 : Code := { maxStack := 2, maxLocals := 5, code := jdk_123_method_3_code, exceptionTable := #[], attributes := #[] }
def k16m2 : Method := { name := "countPositives", desc := "([BII)I", sig := { parameters := [(.array .byte), .int, .int], returnType := some .int }, accessFlags := 9, code := some k16c2 }
/-- java/lang/StringCoding -/
def k16 : Class := { plain "java/lang/StringCoding" (some 0) with
  accessFlags := 32
  interfaces := #[]
  cf := some (fileOf pool16 8 #[] #[{ accessFlags := 2, nameIndex := 5, descriptorIndex := 6, attributes := #[] }, { accessFlags := 9, nameIndex := 24, descriptorIndex := 25, attributes := #[] }, { accessFlags := 9, nameIndex := 11, descriptorIndex := 12, attributes := #[] }] 32 2 #[] #[])
  fields := #[]
  methods := #[k16m0, k16m1, k16m2]
  instanceTypes := #[]
  staticTypes := #[]
  resolved := Array.replicate 49 none
  statics := none }

def pool17 : Array CpInfo := pool [(1, .class_ 2), (0, u "java/lang/Cloneable"), (0, .class_ 4), (0, u "java/lang/Object")] 2

/-- java/lang/Cloneable -/
def k17 : Class := { plain "java/lang/Cloneable" (some 0) with
  accessFlags := 1537
  interfaces := #[]
  cf := some (fileOf pool17 1 #[] #[] 1537 3 #[] #[])
  fields := #[]
  methods := #[]
  instanceTypes := #[]
  staticTypes := #[]
  resolved := Array.replicate 7 none
  statics := none }

def pool18 : Array CpInfo := pool [(1, .class_ 2), (0, u "java/lang/Math"), (1, .class_ 6), (1, u "java/lang/Object"), (0, u "<init>"), (0, u "()V"), (89, .class_ 100), (1, u "java/lang/Math$RandomNumberGeneratorHolder"), (71, u "negativeZeroFloatBits"), (0, u "J"), (2, u "negativeZeroDoubleBits"), (24, u "min"), (43, u "$assertionsDisabled"), (0, u "Z"), (88, u "(II)I"), (2, u "twoToTheDoubleScaleDown"), (0, u "D"), (4, u "twoToTheDoubleScaleUp"), (9, u "E"), (3, u "PI"), (2, u "TAU"), (2, u "DEGREES_TO_RADIANS"), (0, u "RADIANS_TO_DEGREES")] 94

def k18m0 : Method := { name := "<init>", desc := "()V", sig := { parameters := [], returnType := none }, accessFlags := 2, code := none }
def k18c1 : Code := { maxStack := 2, maxLocals := 2, code := jdk_29_method_69_code, exceptionTable := #[], attributes := #[] }
def k18m1 : Method := { name := "min", desc := "(II)I", sig := { parameters := [.int, .int], returnType := some .int }, accessFlags := 9, code := some k18c1 }
/-- java/lang/Math -/
def k18 : Class := { plain "java/lang/Math" (some 0) with
  accessFlags := 49
  interfaces := #[]
  cf := some (fileOf pool18 1 #[.nestMembers #[98]] #[{ accessFlags := 2, nameIndex := 7, descriptorIndex := 8, attributes := #[] }, { accessFlags := 9, nameIndex := 201, descriptorIndex := 335, attributes := #[] }] 49 4 #[] #[{ accessFlags := 25, nameIndex := 354, descriptorIndex := 339, attributes := #[] }, { accessFlags := 25, nameIndex := 358, descriptorIndex := 339, attributes := #[] }, { accessFlags := 25, nameIndex := 361, descriptorIndex := 339, attributes := #[] }, { accessFlags := 26, nameIndex := 364, descriptorIndex := 339, attributes := #[] }, { accessFlags := 26, nameIndex := 365, descriptorIndex := 339, attributes := #[] }, { accessFlags := 26, nameIndex := 172, descriptorIndex := 173, attributes := #[] }, { accessFlags := 26, nameIndex := 176, descriptorIndex := 173, attributes := #[] }, { accessFlags := 8, nameIndex := 344, descriptorIndex := 339, attributes := #[] }, { accessFlags := 8, nameIndex := 338, descriptorIndex := 339, attributes := #[] }, { accessFlags := 4120, nameIndex := 245, descriptorIndex := 246, attributes := #[] }])
  fields := #[{ name := "E", type := .double, accessFlags := 25, slot := 0, constantValue := 0 }, { name := "PI", type := .double, accessFlags := 25, slot := 1, constantValue := 0 }, { name := "TAU", type := .double, accessFlags := 25, slot := 2, constantValue := 0 }, { name := "DEGREES_TO_RADIANS", type := .double, accessFlags := 26, slot := 3, constantValue := 0 }, { name := "RADIANS_TO_DEGREES", type := .double, accessFlags := 26, slot := 4, constantValue := 0 }, { name := "negativeZeroFloatBits", type := .long, accessFlags := 26, slot := 5, constantValue := 0 }, { name := "negativeZeroDoubleBits", type := .long, accessFlags := 26, slot := 6, constantValue := 0 }, { name := "twoToTheDoubleScaleUp", type := .double, accessFlags := 8, slot := 7, constantValue := 0 }, { name := "twoToTheDoubleScaleDown", type := .double, accessFlags := 8, slot := 8, constantValue := 0 }, { name := "$assertionsDisabled", type := .boolean, accessFlags := 4120, slot := 9, constantValue := 0 }]
  methods := #[k18m0, k18m1]
  instanceTypes := #[]
  staticTypes := #[.double, .double, .double, .double, .double, .long, .long, .double, .double, .boolean]
  resolved := Array.replicate 460 none
  statics := none }

def pool19 : Array CpInfo := pool [(2, .class_ 4), (1, u "java/lang/Object"), (0, u "<init>"), (0, u "()V"), (1, .class_ 10), (1, u "java/lang/System"), (0, u "allowSecurityManager"), (0, u "I"), (16, u "cons"), (0, u "Ljava/io/Console;"), (77, .class_ 110), (1, u "java/lang/System$CallersHolder"), (43, u "initialErrStream"), (0, u "Ljava/io/PrintStream;"), (19, u "security"), (0, u "Ljava/lang/SecurityManager;"), (31, .class_ 209), (0, u "java/lang/System$1"), (7, u "props"), (0, u "Ljava/util/Properties;"), (2, u "lineSeparator"), (0, u "Ljava/lang/String;"), (96, .class_ 321), (1, u "java/lang/System$LoggerFinder"), (5, .class_ 328), (0, u "java/lang/System$Logger"), (67, u "err"), (2, u "out"), (91, u "notSupportedJnuEncoding"), (15, u "in"), (17, u "initialIn"), (0, u "Ljava/io/InputStream;"), (35, u "bootLayer"), (0, u "Ljava/lang/ModuleLayer;"), (99, .class_ 664), (0, u "java/lang/System$2"), (9, u "NEVER"), (2, u "MAYBE"), (49, u "arraycopy"), (0, u "(Ljava/lang/Object;ILjava/lang/Object;II)V"), (72, .class_ 802), (0, u "java/lang/System$Logger$Level")] 31

def k19m0 : Method := { name := "<init>", desc := "()V", sig := { parameters := [], returnType := none }, accessFlags := 2, code := none }
def k19m1 : Method := { name := "arraycopy", desc := "(Ljava/lang/Object;ILjava/lang/Object;II)V", sig := { parameters := [(.object "java/lang/Object"), .int, (.object "java/lang/Object"), .int, .int], returnType := none }, accessFlags := 265, code := none }
/-- java/lang/System -/
def k19 : Class := { plain "java/lang/System" (some 0) with
  accessFlags := 49
  interfaces := #[]
  cf := some (fileOf pool19 8 #[.nestMembers #[319, 327, 801, 108, 663, 208]] #[{ accessFlags := 2, nameIndex := 5, descriptorIndex := 6, attributes := #[] }, { accessFlags := 265, nameIndex := 727, descriptorIndex := 728, attributes := #[] }] 49 2 #[] #[{ accessFlags := 25, nameIndex := 507, descriptorIndex := 526, attributes := #[] }, { accessFlags := 25, nameIndex := 399, descriptorIndex := 155, attributes := #[] }, { accessFlags := 25, nameIndex := 396, descriptorIndex := 155, attributes := #[] }, { accessFlags := 10, nameIndex := 525, descriptorIndex := 526, attributes := #[] }, { accessFlags := 26, nameIndex := 674, descriptorIndex := 12, attributes := #[] }, { accessFlags := 26, nameIndex := 677, descriptorIndex := 12, attributes := #[] }, { accessFlags := 10, nameIndex := 11, descriptorIndex := 12, attributes := #[] }, { accessFlags := 74, nameIndex := 175, descriptorIndex := 176, attributes := #[] }, { accessFlags := 10, nameIndex := 491, descriptorIndex := 222, attributes := #[] }, { accessFlags := 74, nameIndex := 29, descriptorIndex := 30, attributes := #[] }, { accessFlags := 74, nameIndex := 154, descriptorIndex := 155, attributes := #[] }, { accessFlags := 10, nameIndex := 217, descriptorIndex := 218, attributes := #[] }, { accessFlags := 10, nameIndex := 221, descriptorIndex := 222, attributes := #[] }, { accessFlags := 8, nameIndex := 562, descriptorIndex := 563, attributes := #[] }])
  fields := #[{ name := "in", type := (.object "java/io/InputStream"), accessFlags := 25, slot := 0, constantValue := 0 }, { name := "out", type := (.object "java/io/PrintStream"), accessFlags := 25, slot := 1, constantValue := 0 }, { name := "err", type := (.object "java/io/PrintStream"), accessFlags := 25, slot := 2, constantValue := 0 }, { name := "initialIn", type := (.object "java/io/InputStream"), accessFlags := 10, slot := 3, constantValue := 0 }, { name := "NEVER", type := .int, accessFlags := 26, slot := 4, constantValue := 0 }, { name := "MAYBE", type := .int, accessFlags := 26, slot := 5, constantValue := 0 }, { name := "allowSecurityManager", type := .int, accessFlags := 10, slot := 6, constantValue := 0 }, { name := "security", type := (.object "java/lang/SecurityManager"), accessFlags := 74, slot := 7, constantValue := 0 }, { name := "notSupportedJnuEncoding", type := (.object "java/lang/String"), accessFlags := 10, slot := 8, constantValue := 0 }, { name := "cons", type := (.object "java/io/Console"), accessFlags := 74, slot := 9, constantValue := 0 }, { name := "initialErrStream", type := (.object "java/io/PrintStream"), accessFlags := 74, slot := 10, constantValue := 0 }, { name := "props", type := (.object "java/util/Properties"), accessFlags := 10, slot := 11, constantValue := 0 }, { name := "lineSeparator", type := (.object "java/lang/String"), accessFlags := 10, slot := 12, constantValue := 0 }, { name := "bootLayer", type := (.object "java/lang/ModuleLayer"), accessFlags := 8, slot := 13, constantValue := 0 }]
  methods := #[k19m0, k19m1]
  instanceTypes := #[]
  staticTypes := #[(.object "java/io/InputStream"), (.object "java/io/PrintStream"), (.object "java/io/PrintStream"), (.object "java/io/InputStream"), .int, .int, .int, (.object "java/lang/SecurityManager"), (.object "java/lang/String"), (.object "java/io/Console"), (.object "java/io/PrintStream"), (.object "java/util/Properties"), (.object "java/lang/String"), (.object "java/lang/ModuleLayer")]
  resolved := Array.replicate 834 none
  statics := none }

def pool20 : Array CpInfo := pool [(2, .class_ 4), (1, u "java/lang/Object"), (0, u "<init>"), (0, u "()V"), (7, .class_ 16), (1, u "java/util/Arrays"), (57, .class_ 76), (1, u "java/util/Arrays$NaturalOrder"), (36, .class_ 115), (1, u "java/util/Arrays$LegacyMergeSort"), (1, u "Z"), (32, .methodref 151 152), (0, .class_ 153), (0, .nameAndType 154 155), (0, u "java/lang/System"), (0, u "arraycopy"), (0, u "(Ljava/lang/Object;ILjava/lang/Object;II)V"), (146, u "copyOf"), (1, .methodref 305 306), (0, .class_ 307), (0, .nameAndType 308 309), (0, u "java/lang/Math"), (0, u "min"), (0, u "(II)I"), (65, .class_ 376), (0, u "java/util/Arrays$ArrayList"), (68, u "$assertionsDisabled"), (269, u "MIN_ARRAY_SORT_GRAN"), (0, u "I"), (2, u "INSERTIONSORT_THRESHOLD"), (149, u "([BI)[B"), (105, .class_ 976), (0, u "java/util/Arrays$ArrayItr")] 52

def k20m0 : Method := { name := "<init>", desc := "()V", sig := { parameters := [], returnType := none }, accessFlags := 2, code := none }
def k20c1 : Code := { maxStack := 6, maxLocals := 3, code := jdk_65_method_121_code, exceptionTable := #[], attributes := #[] }
def k20m1 : Method := { name := "copyOf", desc := "([BI)[B", sig := { parameters := [(.array .byte), .int], returnType := some (.array .byte) }, accessFlags := 9, code := some k20c1 }
/-- java/util/Arrays -/
def k20 : Class := { plain "java/util/Arrays" (some 0) with
  accessFlags := 49
  interfaces := #[]
  cf := some (fileOf pool20 14 #[.nestMembers #[975, 375, 113, 74]] #[{ accessFlags := 2, nameIndex := 5, descriptorIndex := 6, attributes := #[] }, { accessFlags := 9, nameIndex := 302, descriptorIndex := 869, attributes := #[] }] 49 2 #[] #[{ accessFlags := 26, nameIndex := 715, descriptorIndex := 716, attributes := #[] }, { accessFlags := 26, nameIndex := 719, descriptorIndex := 716, attributes := #[] }, { accessFlags := 4120, nameIndex := 445, descriptorIndex := 117, attributes := #[] }])
  fields := #[{ name := "MIN_ARRAY_SORT_GRAN", type := .int, accessFlags := 26, slot := 0, constantValue := 0 }, { name := "INSERTIONSORT_THRESHOLD", type := .int, accessFlags := 26, slot := 1, constantValue := 0 }, { name := "$assertionsDisabled", type := .boolean, accessFlags := 4120, slot := 2, constantValue := 0 }]
  methods := #[k20m0, k20m1]
  instanceTypes := #[]
  staticTypes := #[.int, .int, .boolean]
  resolved := Array.replicate 1029 none
  statics := none }

def pool21 : Array CpInfo := pool [(2, .class_ 4), (1, u "java/lang/Object"), (0, u "<init>"), (0, u "()V"), (17, .class_ 26), (1, u "jdk/internal/util/Preconditions"), (28, .class_ 56), (0, u "jdk/internal/util/Preconditions$4"), (57, .class_ 115), (0, u "jdk/internal/util/Preconditions$1"), (7, u "SIOOBE_FORMATTER"), (0, u "Ljava/util/function/BiFunction;"), (0, .class_ 126), (0, u "jdk/internal/util/Preconditions$2"), (3, u "AIOOBE_FORMATTER"), (0, .class_ 132), (0, u "jdk/internal/util/Preconditions$3"), (3, u "IOOBE_FORMATTER")] 57

def k21m0 : Method := { name := "<init>", desc := "()V", sig := { parameters := [], returnType := none }, accessFlags := 1, code := none }
/-- jdk/internal/util/Preconditions -/
def k21 : Class := { plain "jdk/internal/util/Preconditions" (some 0) with
  accessFlags := 33
  interfaces := #[]
  cf := some (fileOf pool21 24 #[.nestMembers #[55, 131, 125, 114]] #[{ accessFlags := 1, nameIndex := 5, descriptorIndex := 6, attributes := #[] }] 33 2 #[] #[{ accessFlags := 25, nameIndex := 123, descriptorIndex := 124, attributes := #[] }, { accessFlags := 25, nameIndex := 130, descriptorIndex := 124, attributes := #[] }, { accessFlags := 25, nameIndex := 136, descriptorIndex := 124, attributes := #[] }])
  fields := #[{ name := "SIOOBE_FORMATTER", type := (.object "java/util/function/BiFunction"), accessFlags := 25, slot := 0, constantValue := 0 }, { name := "AIOOBE_FORMATTER", type := (.object "java/util/function/BiFunction"), accessFlags := 25, slot := 1, constantValue := 0 }, { name := "IOOBE_FORMATTER", type := (.object "java/util/function/BiFunction"), accessFlags := 25, slot := 2, constantValue := 0 }]
  methods := #[k21m0]
  instanceTypes := #[]
  staticTypes := #[(.object "java/util/function/BiFunction"), (.object "java/util/function/BiFunction"), (.object "java/util/function/BiFunction")]
  resolved := Array.replicate 194 none
  statics := some 3 }

def pool22 : Array CpInfo := pool [(9, u "<init>"), (6, .class_ 18), (1, u "java/lang/Object"), (0, u "()V"), (1, .class_ 23), (1, u "jdk/internal/util/ArraysSupport"), (0, u "LOG2_ARRAY_LONG_INDEX_SCALE"), (0, u "I"), (2, u "U"), (0, u "Ljdk/internal/misc/Unsafe;"), (8, u "BIG_ENDIAN"), (0, u "Z"), (8, u "LOG2_BYTE_BIT_SIZE"), (4, u "LOG2_ARRAY_INT_INDEX_SCALE"), (54, u "JLA"), (0, u "Ljdk/internal/access/JavaLangAccess;"), (11, u "LOG2_ARRAY_BOOLEAN_INDEX_SCALE"), (9, u "LOG2_ARRAY_BYTE_INDEX_SCALE"), (5, u "LOG2_ARRAY_CHAR_INDEX_SCALE"), (5, u "LOG2_ARRAY_SHORT_INDEX_SCALE"), (18, u "LOG2_ARRAY_FLOAT_INDEX_SCALE"), (24, u "LOG2_ARRAY_DOUBLE_INDEX_SCALE"), (89, u "T_BOOLEAN"), (2, u "T_CHAR"), (1, u "T_FLOAT"), (1, u "T_DOUBLE"), (1, u "T_BYTE"), (1, u "T_SHORT"), (1, u "T_INT"), (1, u "T_LONG"), (1, u "SOFT_MAX_ARRAY_LENGTH")] 83

def k22m0 : Method := { name := "<init>", desc := "()V", sig := { parameters := [], returnType := none }, accessFlags := 2, code := none }
/-- jdk/internal/util/ArraysSupport -/
def k22 : Class := { plain "jdk/internal/util/ArraysSupport" (some 0) with
  accessFlags := 33
  interfaces := #[]
  cf := some (fileOf pool22 21 #[] #[{ accessFlags := 2, nameIndex := 9, descriptorIndex := 19, attributes := #[] }] 33 16 #[] #[{ accessFlags := 24, nameIndex := 28, descriptorIndex := 29, attributes := #[] }, { accessFlags := 26, nameIndex := 38, descriptorIndex := 39, attributes := #[] }, { accessFlags := 25, nameIndex := 121, descriptorIndex := 25, attributes := #[] }, { accessFlags := 25, nameIndex := 131, descriptorIndex := 25, attributes := #[] }, { accessFlags := 25, nameIndex := 137, descriptorIndex := 25, attributes := #[] }, { accessFlags := 25, nameIndex := 143, descriptorIndex := 25, attributes := #[] }, { accessFlags := 25, nameIndex := 53, descriptorIndex := 25, attributes := #[] }, { accessFlags := 25, nameIndex := 24, descriptorIndex := 25, attributes := #[] }, { accessFlags := 25, nameIndex := 162, descriptorIndex := 25, attributes := #[] }, { accessFlags := 25, nameIndex := 187, descriptorIndex := 25, attributes := #[] }, { accessFlags := 26, nameIndex := 48, descriptorIndex := 25, attributes := #[] }, { accessFlags := 25, nameIndex := 277, descriptorIndex := 25, attributes := #[] }, { accessFlags := 25, nameIndex := 280, descriptorIndex := 25, attributes := #[] }, { accessFlags := 25, nameIndex := 282, descriptorIndex := 25, attributes := #[] }, { accessFlags := 25, nameIndex := 284, descriptorIndex := 25, attributes := #[] }, { accessFlags := 25, nameIndex := 286, descriptorIndex := 25, attributes := #[] }, { accessFlags := 25, nameIndex := 288, descriptorIndex := 25, attributes := #[] }, { accessFlags := 25, nameIndex := 290, descriptorIndex := 25, attributes := #[] }, { accessFlags := 25, nameIndex := 292, descriptorIndex := 25, attributes := #[] }, { accessFlags := 26, nameIndex := 108, descriptorIndex := 109, attributes := #[] }, { accessFlags := 25, nameIndex := 294, descriptorIndex := 25, attributes := #[] }])
  fields := #[{ name := "U", type := (.object "jdk/internal/misc/Unsafe"), accessFlags := 24, slot := 0, constantValue := 0 }, { name := "BIG_ENDIAN", type := .boolean, accessFlags := 26, slot := 1, constantValue := 0 }, { name := "LOG2_ARRAY_BOOLEAN_INDEX_SCALE", type := .int, accessFlags := 25, slot := 2, constantValue := 0 }, { name := "LOG2_ARRAY_BYTE_INDEX_SCALE", type := .int, accessFlags := 25, slot := 3, constantValue := 0 }, { name := "LOG2_ARRAY_CHAR_INDEX_SCALE", type := .int, accessFlags := 25, slot := 4, constantValue := 0 }, { name := "LOG2_ARRAY_SHORT_INDEX_SCALE", type := .int, accessFlags := 25, slot := 5, constantValue := 0 }, { name := "LOG2_ARRAY_INT_INDEX_SCALE", type := .int, accessFlags := 25, slot := 6, constantValue := 0 }, { name := "LOG2_ARRAY_LONG_INDEX_SCALE", type := .int, accessFlags := 25, slot := 7, constantValue := 0 }, { name := "LOG2_ARRAY_FLOAT_INDEX_SCALE", type := .int, accessFlags := 25, slot := 8, constantValue := 0 }, { name := "LOG2_ARRAY_DOUBLE_INDEX_SCALE", type := .int, accessFlags := 25, slot := 9, constantValue := 0 }, { name := "LOG2_BYTE_BIT_SIZE", type := .int, accessFlags := 26, slot := 10, constantValue := 0 }, { name := "T_BOOLEAN", type := .int, accessFlags := 25, slot := 11, constantValue := 0 }, { name := "T_CHAR", type := .int, accessFlags := 25, slot := 12, constantValue := 0 }, { name := "T_FLOAT", type := .int, accessFlags := 25, slot := 13, constantValue := 0 }, { name := "T_DOUBLE", type := .int, accessFlags := 25, slot := 14, constantValue := 0 }, { name := "T_BYTE", type := .int, accessFlags := 25, slot := 15, constantValue := 0 }, { name := "T_SHORT", type := .int, accessFlags := 25, slot := 16, constantValue := 0 }, { name := "T_INT", type := .int, accessFlags := 25, slot := 17, constantValue := 0 }, { name := "T_LONG", type := .int, accessFlags := 25, slot := 18, constantValue := 0 }, { name := "JLA", type := (.object "jdk/internal/access/JavaLangAccess"), accessFlags := 26, slot := 19, constantValue := 0 }, { name := "SOFT_MAX_ARRAY_LENGTH", type := .int, accessFlags := 25, slot := 20, constantValue := 0 }]
  methods := #[k22m0]
  instanceTypes := #[]
  staticTypes := #[(.object "jdk/internal/misc/Unsafe"), .boolean, .int, .int, .int, .int, .int, .int, .int, .int, .int, .int, .int, .int, .int, .int, .int, .int, .int, (.object "jdk/internal/access/JavaLangAccess"), .int]
  resolved := Array.replicate 378 none
  statics := none }

/-- the primitive byte -/
def k23 : Class := { plain "byte" none with kind := .primitive 'B', accessFlags := 0x411 }
/-- [B -/
def k24 : Class := { plain "[B" (some 0) with kind := .array 23 .byte, interfaces := #[17, 2], accessFlags := 1041 }

/-- the primitive char -/
def k25 : Class := { plain "char" none with kind := .primitive 'C', accessFlags := 0x411 }
/-- [C -/
def k26 : Class := { plain "[C" (some 0) with kind := .array 25 .char, interfaces := #[17, 2], accessFlags := 1041 }

/-- the primitive int -/
def k27 : Class := { plain "int" none with kind := .primitive 'I', accessFlags := 0x411 }
/-- [I -/
def k28 : Class := { plain "[I" (some 0) with kind := .array 27 .int, interfaces := #[17, 2], accessFlags := 1041 }

/-- the primitive long -/
def k29 : Class := { plain "long" none with kind := .primitive 'J', accessFlags := 0x411 }
/-- [J -/
def k30 : Class := { plain "[J" (some 0) with kind := .array 29 .long, interfaces := #[17, 2], accessFlags := 1041 }

def heap : Heap := #[{ cls := 7, slots := #[.long 0, .int 1, .null, .int 0, .null, .int 0, .int 0], vm := .statics 7 },
  { cls := 11, slots := #[.null, .null, .ref 4, .null, .null, .null], vm := .statics 11 },
  { cls := 15, slots := #[.ref 4, .null], vm := .statics 15 },
  { cls := 21, slots := #[.null, .null, .null], vm := .statics 21 },
  { cls := 15, slots := #[.null, .null, .null], vm := .none }]
def classes : Array Class := #[k0, k1, k2, k3, k4, k5, k6, k7, k8, k9, k10, k11, k12, k13, k14, k15, k16, k17, k18, k19, k20, k21, k22, k23, k24, k25, k26, k27, k28, k29, k30]
def interned : List (Array UInt16 × Addr) := []
def slotsUsed : Nat := 21
def theMethod : MethodId := ⟨1, 1⟩
def args0 : Array Value := #[.int 65, .int 200, .int 1, .int 2, .int 3, .int 3]
def aboutOver (below : List Frame) : State where
  vm := { classes := classes, interned := interned.toArray }
  heap := heap
  slotsUsed := slotsUsed
  threads := #[{ frames := .invoking theMethod args0 :: below }]
def below0 : List Frame := [.native { method := ⟨0, 0⟩, args := #[] }]
def about1 : State := aboutOver below0
def p0 : Program := .bare "" "" ""
def e0 : Env := launch0.env 0 0 0
theorem w_frames : about1.frames = Frame.invoking theMethod args0 :: below0 := rfl
set_option maxRecDepth 65536 in
theorem w_args : argsFit about1.vm theMethod args0 = true := by decide +kernel
set_option maxRecDepth 65536 in
theorem w_heap : heapFits about1 = true := by decide +kernel
set_option maxRecDepth 65536 in
theorem w_runnable : about1.curStatus? = some .runnable := by decide +kernel
set_option maxRecDepth 65536 in
theorem w_alone : about1.alone = true := by decide +kernel
set_option maxRecDepth 65536 in
theorem w_named : about1.methodNamed? x = some theMethod := by decide +kernel
set_option maxRecDepth 65536 in
theorem w_hears : about1.hears theMethod below0 = true := by decide +kernel
set_option maxRecDepth 65536 in
theorem w_ripe : about1.ripe theMethod args0 below0 = true := by decide +kernel
theorem w_running : about1.status = .running := rfl
set_option maxRecDepth 65536 in
theorem w_room : about1.hasRoom e0.platform room_1 = true :=
  launch0.hasRoom_least _ room_1 (by decide +kernel) (by decide +kernel) (by decide +kernel) (by decide +kernel) (by decide +kernel) (by decide +kernel)
theorem allAtoms_all (ts : List Jvm.Cond) (a : Array Jvm.Value) (st : Jvm.State) : (allAtoms ts).before a st = ts.all (fun c => c.before a st) := by
  induction ts with
  | nil => rfl
  | cons c t ih =>
    show (Jvm.Cond.and c (allAtoms t)).before a st = _
    rw [Jvm.Cond.before_and, ih, List.all_cons]
def words1 : List Jvm.Cond := Jvm.Cond.code x code maxLocals ret :: tables_1
/-- a 'code' word, met by the world's own term for the bytes: nothing is compared byte by byte -/
theorem code_word {y : MethodName} {bytes : ByteArray} {mx : Nat} {rt : Option FieldType} {a : Array Value} {s : State} {m : MethodId} {meth : Method} {c : Code} (h1 : s.methodNamed? y = some m) (h2 : s.vm.method? m = some meth) (h3 : meth.code = some c) (h4 : c.code = bytes)
    (h5 : (c.maxLocals == mx && c.exceptionTable.isEmpty && decide (c.maxStack ≤ mostOperands) && decide (meth.sig.returnType = rt) && !meth.locks && decide (parseMethodDescriptor y.desc = some meth.sig)) = true) : (Jvm.Cond.code y bytes mx rt).before a s = true := by
  simp only [Bool.and_eq_true, beq_iff_eq, Bool.not_eq_true', decide_eq_true_eq] at h5
  obtain ⟨⟨⟨⟨⟨g1, g2⟩, g3⟩, g4⟩, g5⟩, g6⟩ := h5
  simp [Cond.before, Cond.holds, Cond.value, h1, h2, h3, h4, g1, g2, g3, g4, g5, g6]
def isCode : Jvm.Cond → Bool
  | .code _ _ _ _ => true
  | _ => false
theorem all_split {L : List Jvm.Cond} {P : Jvm.Cond → Bool} (h1 : L.all (fun c => isCode c || P c) = true) (h2 : ∀ c ∈ L.filter isCode, P c = true) : L.all P = true := by
  refine List.all_eq_true.mpr fun c hc => ?_
  have h := List.all_eq_true.mp h1 c hc
  rcases Bool.eq_false_or_eq_true (isCode c) with hi | hi
  · exact h2 c (List.mem_filter.mpr ⟨hc, hi⟩)
  · simpa [hi] using h
set_option maxRecDepth 65536 in
theorem w_c0 : (Jvm.Cond.code x code maxLocals ret).before args0 about1 = true := code_word (m := ⟨1, 1⟩) (meth := k1m1) (c := k1c1) (by decide +kernel) rfl rfl rfl (by decide +kernel)
set_option maxRecDepth 65536 in
theorem w_c1 : (Jvm.Cond.code ({ cls := "java/lang/String", name := "valueOf", desc := "(C)Ljava/lang/String;" } : Jvm.MethodName) jdk_42_method_139_code (1 : Nat) (Option.some (Jvm.ClassFile.FieldType.object "java/lang/String"))).before args0 about1 = true := code_word (m := ⟨7, 5⟩) (meth := k7m5) (c := k7c5) (by decide +kernel) rfl rfl rfl (by decide +kernel)
set_option maxRecDepth 65536 in
theorem w_c2 : (Jvm.Cond.code ({ cls := "java/lang/StringLatin1", name := "canEncode", desc := "(C)Z" } : Jvm.MethodName) jdk_43_method_3_code (1 : Nat) (Option.some Jvm.ClassFile.FieldType.boolean)).before args0 about1 = true := code_word (m := ⟨8, 1⟩) (meth := k8m1) (c := k8c1) (by decide +kernel) rfl rfl rfl (by decide +kernel)
set_option maxRecDepth 65536 in
theorem w_c3 : (Jvm.Cond.code ({ cls := "java/lang/StringLatin1", name := "toBytes", desc := "(C)[B" } : Jvm.MethodName) jdk_43_method_46_code (1 : Nat) (Option.some (Jvm.ClassFile.FieldType.array Jvm.ClassFile.FieldType.byte))).before args0 about1 = true := code_word (m := ⟨8, 2⟩) (meth := k8m2) (c := k8c2) (by decide +kernel) rfl rfl rfl (by decide +kernel)
set_option maxRecDepth 65536 in
theorem w_c4 : (Jvm.Cond.code ({ cls := "java/lang/String", name := "<init>", desc := "([BB)V" } : Jvm.MethodName) jdk_42_method_151_code (3 : Nat) (Option.none : Option Jvm.ClassFile.FieldType)).before args0 about1 = true := code_word (m := ⟨7, 7⟩) (meth := k7m7) (c := k7c7) (by decide +kernel) rfl rfl rfl (by decide +kernel)
set_option maxRecDepth 65536 in
theorem w_c5 : (Jvm.Cond.code ({ cls := "java/lang/Object", name := "<init>", desc := "()V" } : Jvm.MethodName) object_method_1_code (1 : Nat) (Option.none : Option Jvm.ClassFile.FieldType)).before args0 about1 = true := code_word (m := ⟨0, 0⟩) (meth := k0m0) (c := k0c0) (by decide +kernel) rfl rfl rfl (by decide +kernel)
set_option maxRecDepth 65536 in
theorem w_c6 : (Jvm.Cond.code ({ cls := "java/lang/String", name := "<init>", desc := "([C)V" } : Jvm.MethodName) jdk_42_method_3_code (2 : Nat) (Option.none : Option Jvm.ClassFile.FieldType)).before args0 about1 = true := code_word (m := ⟨7, 1⟩) (meth := k7m1) (c := k7c1) (by decide +kernel) rfl rfl rfl (by decide +kernel)
set_option maxRecDepth 65536 in
theorem w_c7 : (Jvm.Cond.code ({ cls := "java/lang/String", name := "<init>", desc := "([CIILjava/lang/Void;)V" } : Jvm.MethodName) jdk_42_method_149_code (6 : Nat) (Option.none : Option Jvm.ClassFile.FieldType)).before args0 about1 = true := code_word (m := ⟨7, 6⟩) (meth := k7m6) (c := k7c6) (by decide +kernel) rfl rfl rfl (by decide +kernel)
set_option maxRecDepth 65536 in
theorem w_c8 : (Jvm.Cond.code ({ cls := "java/lang/StringUTF16", name := "compress", desc := "([CII)[B" } : Jvm.MethodName) jdk_52_method_16_code (6 : Nat) (Option.some (Jvm.ClassFile.FieldType.array Jvm.ClassFile.FieldType.byte))).before args0 about1 = true := code_word (m := ⟨9, 4⟩) (meth := k9m4) (c := k9c4) (by decide +kernel) rfl rfl rfl (by decide +kernel)
set_option maxRecDepth 65536 in
theorem w_c9 : (Jvm.Cond.code ({ cls := "java/lang/StringUTF16", name := "compress", desc := "([CI[BII)I" } : Jvm.MethodName) jdk_52_method_21_code (7 : Nat) (Option.some Jvm.ClassFile.FieldType.int)).before args0 about1 = true := code_word (m := ⟨9, 5⟩) (meth := k9m5) (c := k9c5) (by decide +kernel) rfl rfl rfl (by decide +kernel)
set_option maxRecDepth 65536 in
theorem w_c10 : (Jvm.Cond.code ({ cls := "java/lang/StringUTF16", name := "coderFromArrayLen", desc := "([BI)B" } : Jvm.MethodName) jdk_52_method_15_code (2 : Nat) (Option.some Jvm.ClassFile.FieldType.byte)).before args0 about1 = true := code_word (m := ⟨9, 3⟩) (meth := k9m3) (c := k9c3) (by decide +kernel) rfl rfl rfl (by decide +kernel)
set_option maxRecDepth 65536 in
theorem w_c11 : (Jvm.Cond.code ({ cls := "com/example/vikt/vikt/graph/NameTable", name := "<init>", desc := "()V" } : Jvm.MethodName) prog_7_method_1_code (1 : Nat) (Option.none : Option Jvm.ClassFile.FieldType)).before args0 about1 = true := code_word (m := ⟨10, 0⟩) (meth := k10m0) (c := k10c0) (by decide +kernel) rfl rfl rfl (by decide +kernel)
set_option maxRecDepth 65536 in
theorem w_c12 : (Jvm.Cond.code ({ cls := "com/example/vikt/vikt/graph/NameTable", name := "number", desc := "(Ljava/lang/String;)I" } : Jvm.MethodName) prog_7_method_3_code (3 : Nat) (Option.some Jvm.ClassFile.FieldType.int)).before args0 about1 = true := code_word (m := ⟨10, 2⟩) (meth := k10m2) (c := k10c2) (by decide +kernel) rfl rfl rfl (by decide +kernel)
set_option maxRecDepth 65536 in
theorem w_c13 : (Jvm.Cond.code ({ cls := "java/lang/String", name := "getBytes", desc := "(Ljava/nio/charset/Charset;)[B" } : Jvm.MethodName) jdk_42_method_64_code (2 : Nat) (Option.some (Jvm.ClassFile.FieldType.array Jvm.ClassFile.FieldType.byte))).before args0 about1 = true := code_word (m := ⟨7, 4⟩) (meth := k7m4) (c := k7c4) (by decide +kernel) rfl rfl rfl (by decide +kernel)
set_option maxRecDepth 65536 in
theorem w_c14 : (Jvm.Cond.code ({ cls := "java/lang/String", name := "coder", desc := "()B" } : Jvm.MethodName) jdk_42_method_152_code (1 : Nat) (Option.some Jvm.ClassFile.FieldType.byte)).before args0 about1 = true := code_word (m := ⟨7, 8⟩) (meth := k7m8) (c := k7c8) (by decide +kernel) rfl rfl rfl (by decide +kernel)
set_option maxRecDepth 65536 in
theorem w_c15 : (Jvm.Cond.code ({ cls := "java/lang/String", name := "encode", desc := "(Ljava/nio/charset/Charset;B[B)[B" } : Jvm.MethodName) jdk_42_method_18_code (3 : Nat) (Option.some (Jvm.ClassFile.FieldType.array Jvm.ClassFile.FieldType.byte))).before args0 about1 = true := code_word (m := ⟨7, 2⟩) (meth := k7m2) (c := k7c2) (by decide +kernel) rfl rfl rfl (by decide +kernel)
set_option maxRecDepth 65536 in
theorem w_c16 : (Jvm.Cond.code ({ cls := "java/lang/String", name := "encodeUTF8", desc := "(B[BZ)[B" } : Jvm.MethodName) jdk_42_method_46_code (9 : Nat) (Option.some (Jvm.ClassFile.FieldType.array Jvm.ClassFile.FieldType.byte))).before args0 about1 = true := code_word (m := ⟨7, 3⟩) (meth := k7m3) (c := k7c3) (by decide +kernel) rfl rfl rfl (by decide +kernel)
set_option maxRecDepth 65536 in
theorem w_c17 : (Jvm.Cond.code ({ cls := "java/lang/StringCoding", name := "hasNegatives", desc := "([BII)Z" } : Jvm.MethodName) jdk_123_method_2_code (3 : Nat) (Option.some Jvm.ClassFile.FieldType.boolean)).before args0 about1 = true := code_word (m := ⟨16, 1⟩) (meth := k16m1) (c := k16c1) (by decide +kernel) rfl rfl rfl (by decide +kernel)
set_option maxRecDepth 65536 in
theorem w_c18 : (Jvm.Cond.code ({ cls := "java/lang/StringCoding", name := "countPositives", desc := "([BII)I" } : Jvm.MethodName) jdk_123_method_3_code (5 : Nat) (Option.some Jvm.ClassFile.FieldType.int)).before args0 about1 = true := code_word (m := ⟨16, 2⟩) (meth := k16m2) (c := k16c2) (by decide +kernel) rfl rfl rfl (by decide +kernel)
set_option maxRecDepth 65536 in
theorem w_c19 : (Jvm.Cond.code ({ cls := "com/example/vikt/vikt/graph/NameTable", name := "hash", desc := "([BII)I" } : Jvm.MethodName) prog_7_method_2_code (5 : Nat) (Option.some Jvm.ClassFile.FieldType.int)).before args0 about1 = true := code_word (m := ⟨10, 1⟩) (meth := k10m1) (c := k10c1) (by decide +kernel) rfl rfl rfl (by decide +kernel)
set_option maxRecDepth 65536 in
theorem w_c20 : (Jvm.Cond.code ({ cls := "com/example/vikt/vikt/graph/NameTable", name := "number", desc := "([BIII)I" } : Jvm.MethodName) prog_7_method_4_code (11 : Nat) (Option.some Jvm.ClassFile.FieldType.int)).before args0 about1 = true := code_word (m := ⟨10, 3⟩) (meth := k10m3) (c := k10c3) (by decide +kernel) rfl rfl rfl (by decide +kernel)
set_option maxRecDepth 65536 in
theorem w_c21 : (Jvm.Cond.code ({ cls := "com/example/vikt/vikt/graph/NameTable", name := "key", desc := "([BII)J" } : Jvm.MethodName) prog_7_method_8_code (8 : Nat) (Option.some Jvm.ClassFile.FieldType.long)).before args0 about1 = true := code_word (m := ⟨10, 6⟩) (meth := k10m6) (c := k10c6) (by decide +kernel) rfl rfl rfl (by decide +kernel)
set_option maxRecDepth 65536 in
theorem w_c22 : (Jvm.Cond.code ({ cls := "java/lang/Math", name := "min", desc := "(II)I" } : Jvm.MethodName) jdk_29_method_69_code (2 : Nat) (Option.some Jvm.ClassFile.FieldType.int)).before args0 about1 = true := code_word (m := ⟨18, 1⟩) (meth := k18m1) (c := k18c1) (by decide +kernel) rfl rfl rfl (by decide +kernel)
set_option maxRecDepth 65536 in
theorem w_c23 : (Jvm.Cond.code ({ cls := "com/example/vikt/vikt/graph/NameTable", name := "add", desc := "([BII)I" } : Jvm.MethodName) prog_7_method_9_code (5 : Nat) (Option.some Jvm.ClassFile.FieldType.int)).before args0 about1 = true := code_word (m := ⟨10, 7⟩) (meth := k10m7) (c := k10c7) (by decide +kernel) rfl rfl rfl (by decide +kernel)
set_option maxRecDepth 65536 in
theorem w_c24 : (Jvm.Cond.code ({ cls := "com/example/vikt/vikt/graph/NameTable", name := "prefetch", desc := "([II)V" } : Jvm.MethodName) prog_7_method_5_code (6 : Nat) (Option.none : Option Jvm.ClassFile.FieldType)).before args0 about1 = true := code_word (m := ⟨10, 4⟩) (meth := k10m4) (c := k10c4) (by decide +kernel) rfl rfl rfl (by decide +kernel)
set_option maxRecDepth 65536 in
theorem w_c25 : (Jvm.Cond.code ({ cls := "com/example/vikt/vikt/graph/NameTable", name := "count", desc := "()I" } : Jvm.MethodName) prog_7_method_6_code (1 : Nat) (Option.some Jvm.ClassFile.FieldType.int)).before args0 about1 = true := code_word (m := ⟨10, 5⟩) (meth := k10m5) (c := k10c5) (by decide +kernel) rfl rfl rfl (by decide +kernel)
set_option maxRecDepth 65536 in
theorem w_c26 : (Jvm.Cond.code ({ cls := "java/lang/StringUTF16", name := "newBytesFor", desc := "(I)[B" } : Jvm.MethodName) jdk_52_method_2_code (1 : Nat) (Option.some (Jvm.ClassFile.FieldType.array Jvm.ClassFile.FieldType.byte))).before args0 about1 = true := code_word (m := ⟨9, 1⟩) (meth := k9m1) (c := k9c1) (by decide +kernel) rfl rfl rfl (by decide +kernel)
set_option maxRecDepth 65536 in
theorem w_c27 : (Jvm.Cond.code ({ cls := "java/lang/StringUTF16", name := "newBytesLength", desc := "(I)I" } : Jvm.MethodName) jdk_52_method_3_code (1 : Nat) (Option.some Jvm.ClassFile.FieldType.int)).before args0 about1 = true := code_word (m := ⟨9, 2⟩) (meth := k9m2) (c := k9c2) (by decide +kernel) rfl rfl rfl (by decide +kernel)
set_option maxRecDepth 65536 in
theorem w_c28 : (Jvm.Cond.code ({ cls := "java/util/Arrays", name := "copyOf", desc := "([BI)[B" } : Jvm.MethodName) jdk_65_method_121_code (3 : Nat) (Option.some (Jvm.ClassFile.FieldType.array Jvm.ClassFile.FieldType.byte))).before args0 about1 = true := code_word (m := ⟨20, 1⟩) (meth := k20m1) (c := k20c1) (by decide +kernel) rfl rfl rfl (by decide +kernel)
def codes1 : List Jvm.Cond := [Jvm.Cond.code x code maxLocals ret, Jvm.Cond.code ({ cls := "java/lang/String", name := "valueOf", desc := "(C)Ljava/lang/String;" } : Jvm.MethodName) jdk_42_method_139_code (1 : Nat) (Option.some (Jvm.ClassFile.FieldType.object "java/lang/String")), Jvm.Cond.code ({ cls := "java/lang/StringLatin1", name := "canEncode", desc := "(C)Z" } : Jvm.MethodName) jdk_43_method_3_code (1 : Nat) (Option.some Jvm.ClassFile.FieldType.boolean), Jvm.Cond.code ({ cls := "java/lang/StringLatin1", name := "toBytes", desc := "(C)[B" } : Jvm.MethodName) jdk_43_method_46_code (1 : Nat) (Option.some (Jvm.ClassFile.FieldType.array Jvm.ClassFile.FieldType.byte)), Jvm.Cond.code ({ cls := "java/lang/String", name := "<init>", desc := "([BB)V" } : Jvm.MethodName) jdk_42_method_151_code (3 : Nat) (Option.none : Option Jvm.ClassFile.FieldType), Jvm.Cond.code ({ cls := "java/lang/Object", name := "<init>", desc := "()V" } : Jvm.MethodName) object_method_1_code (1 : Nat) (Option.none : Option Jvm.ClassFile.FieldType), Jvm.Cond.code ({ cls := "java/lang/String", name := "<init>", desc := "([C)V" } : Jvm.MethodName) jdk_42_method_3_code (2 : Nat) (Option.none : Option Jvm.ClassFile.FieldType), Jvm.Cond.code ({ cls := "java/lang/String", name := "<init>", desc := "([CIILjava/lang/Void;)V" } : Jvm.MethodName) jdk_42_method_149_code (6 : Nat) (Option.none : Option Jvm.ClassFile.FieldType), Jvm.Cond.code ({ cls := "java/lang/StringUTF16", name := "compress", desc := "([CII)[B" } : Jvm.MethodName) jdk_52_method_16_code (6 : Nat) (Option.some (Jvm.ClassFile.FieldType.array Jvm.ClassFile.FieldType.byte)), Jvm.Cond.code ({ cls := "java/lang/StringUTF16", name := "compress", desc := "([CI[BII)I" } : Jvm.MethodName) jdk_52_method_21_code (7 : Nat) (Option.some Jvm.ClassFile.FieldType.int), Jvm.Cond.code ({ cls := "java/lang/StringUTF16", name := "coderFromArrayLen", desc := "([BI)B" } : Jvm.MethodName) jdk_52_method_15_code (2 : Nat) (Option.some Jvm.ClassFile.FieldType.byte), Jvm.Cond.code ({ cls := "com/example/vikt/vikt/graph/NameTable", name := "<init>", desc := "()V" } : Jvm.MethodName) prog_7_method_1_code (1 : Nat) (Option.none : Option Jvm.ClassFile.FieldType), Jvm.Cond.code ({ cls := "com/example/vikt/vikt/graph/NameTable", name := "number", desc := "(Ljava/lang/String;)I" } : Jvm.MethodName) prog_7_method_3_code (3 : Nat) (Option.some Jvm.ClassFile.FieldType.int), Jvm.Cond.code ({ cls := "java/lang/String", name := "getBytes", desc := "(Ljava/nio/charset/Charset;)[B" } : Jvm.MethodName) jdk_42_method_64_code (2 : Nat) (Option.some (Jvm.ClassFile.FieldType.array Jvm.ClassFile.FieldType.byte)), Jvm.Cond.code ({ cls := "java/lang/String", name := "coder", desc := "()B" } : Jvm.MethodName) jdk_42_method_152_code (1 : Nat) (Option.some Jvm.ClassFile.FieldType.byte), Jvm.Cond.code ({ cls := "java/lang/String", name := "encode", desc := "(Ljava/nio/charset/Charset;B[B)[B" } : Jvm.MethodName) jdk_42_method_18_code (3 : Nat) (Option.some (Jvm.ClassFile.FieldType.array Jvm.ClassFile.FieldType.byte)), Jvm.Cond.code ({ cls := "java/lang/String", name := "encodeUTF8", desc := "(B[BZ)[B" } : Jvm.MethodName) jdk_42_method_46_code (9 : Nat) (Option.some (Jvm.ClassFile.FieldType.array Jvm.ClassFile.FieldType.byte)), Jvm.Cond.code ({ cls := "java/lang/StringCoding", name := "hasNegatives", desc := "([BII)Z" } : Jvm.MethodName) jdk_123_method_2_code (3 : Nat) (Option.some Jvm.ClassFile.FieldType.boolean), Jvm.Cond.code ({ cls := "java/lang/StringCoding", name := "countPositives", desc := "([BII)I" } : Jvm.MethodName) jdk_123_method_3_code (5 : Nat) (Option.some Jvm.ClassFile.FieldType.int), Jvm.Cond.code ({ cls := "com/example/vikt/vikt/graph/NameTable", name := "hash", desc := "([BII)I" } : Jvm.MethodName) prog_7_method_2_code (5 : Nat) (Option.some Jvm.ClassFile.FieldType.int), Jvm.Cond.code ({ cls := "com/example/vikt/vikt/graph/NameTable", name := "number", desc := "([BIII)I" } : Jvm.MethodName) prog_7_method_4_code (11 : Nat) (Option.some Jvm.ClassFile.FieldType.int), Jvm.Cond.code ({ cls := "com/example/vikt/vikt/graph/NameTable", name := "key", desc := "([BII)J" } : Jvm.MethodName) prog_7_method_8_code (8 : Nat) (Option.some Jvm.ClassFile.FieldType.long), Jvm.Cond.code ({ cls := "java/lang/Math", name := "min", desc := "(II)I" } : Jvm.MethodName) jdk_29_method_69_code (2 : Nat) (Option.some Jvm.ClassFile.FieldType.int), Jvm.Cond.code ({ cls := "com/example/vikt/vikt/graph/NameTable", name := "add", desc := "([BII)I" } : Jvm.MethodName) prog_7_method_9_code (5 : Nat) (Option.some Jvm.ClassFile.FieldType.int), Jvm.Cond.code ({ cls := "com/example/vikt/vikt/graph/NameTable", name := "prefetch", desc := "([II)V" } : Jvm.MethodName) prog_7_method_5_code (6 : Nat) (Option.none : Option Jvm.ClassFile.FieldType), Jvm.Cond.code ({ cls := "com/example/vikt/vikt/graph/NameTable", name := "count", desc := "()I" } : Jvm.MethodName) prog_7_method_6_code (1 : Nat) (Option.some Jvm.ClassFile.FieldType.int), Jvm.Cond.code ({ cls := "java/lang/StringUTF16", name := "newBytesFor", desc := "(I)[B" } : Jvm.MethodName) jdk_52_method_2_code (1 : Nat) (Option.some (Jvm.ClassFile.FieldType.array Jvm.ClassFile.FieldType.byte)), Jvm.Cond.code ({ cls := "java/lang/StringUTF16", name := "newBytesLength", desc := "(I)I" } : Jvm.MethodName) jdk_52_method_3_code (1 : Nat) (Option.some Jvm.ClassFile.FieldType.int), Jvm.Cond.code ({ cls := "java/util/Arrays", name := "copyOf", desc := "([BI)[B" } : Jvm.MethodName) jdk_65_method_121_code (3 : Nat) (Option.some (Jvm.ClassFile.FieldType.array Jvm.ClassFile.FieldType.byte))]
set_option maxRecDepth 65536 in
theorem codes_eq : words1.filter isCode = codes1 := rfl
theorem w_codes : ∀ c ∈ words1.filter isCode, c.before args0 about1 = true := by
  rw [codes_eq]
  intro c hc
  simp only [codes1, List.mem_cons, List.not_mem_nil, or_false] at hc
  rcases hc with rfl | rfl | rfl | rfl | rfl | rfl | rfl | rfl | rfl | rfl | rfl | rfl | rfl | rfl | rfl | rfl | rfl | rfl | rfl | rfl | rfl | rfl | rfl | rfl | rfl | rfl | rfl | rfl | rfl
  · exact w_c0
  · exact w_c1
  · exact w_c2
  · exact w_c3
  · exact w_c4
  · exact w_c5
  · exact w_c6
  · exact w_c7
  · exact w_c8
  · exact w_c9
  · exact w_c10
  · exact w_c11
  · exact w_c12
  · exact w_c13
  · exact w_c14
  · exact w_c15
  · exact w_c16
  · exact w_c17
  · exact w_c18
  · exact w_c19
  · exact w_c20
  · exact w_c21
  · exact w_c22
  · exact w_c23
  · exact w_c24
  · exact w_c25
  · exact w_c26
  · exact w_c27
  · exact w_c28
set_option maxRecDepth 65536 in
theorem w_t1 : (words1.take 24).all (fun c => isCode c || c.before args0 about1) = true := by decide +kernel
set_option maxRecDepth 65536 in
theorem w_t2 : ((words1.drop 24).take 24).all (fun c => isCode c || c.before args0 about1) = true := by decide +kernel
set_option maxRecDepth 65536 in
theorem w_t3 : (((words1.drop 24).drop 24).take 24).all (fun c => isCode c || c.before args0 about1) = true := by decide +kernel
set_option maxRecDepth 65536 in
theorem w_t4 : ((((words1.drop 24).drop 24).drop 24).take 24).all (fun c => isCode c || c.before args0 about1) = true := by decide +kernel
set_option maxRecDepth 65536 in
theorem w_t5 : (((((words1.drop 24).drop 24).drop 24).drop 24).take 24).all (fun c => isCode c || c.before args0 about1) = true := by decide +kernel
set_option maxRecDepth 65536 in
theorem w_t6 : ((((((words1.drop 24).drop 24).drop 24).drop 24).drop 24).take 24).all (fun c => isCode c || c.before args0 about1) = true := by decide +kernel
set_option maxRecDepth 65536 in
theorem w_t7 : ((((((words1.drop 24).drop 24).drop 24).drop 24).drop 24).drop 24).all (fun c => isCode c || c.before args0 about1) = true := by decide +kernel
theorem w_tables : (allAtoms (Jvm.Cond.code x code maxLocals ret :: tables_1)).before args0 about1 = true := by
  rw [allAtoms_all]
  show words1.all (fun c => c.before args0 about1) = true
  refine all_split ?_ w_codes
  rw [← List.take_append_drop 24 words1, List.all_append, w_t1, ← List.take_append_drop 24 (words1.drop 24), List.all_append, w_t2, ← List.take_append_drop 24 ((words1.drop 24).drop 24), List.all_append, w_t3, ← List.take_append_drop 24 (((words1.drop 24).drop 24).drop 24), List.all_append, w_t4, ← List.take_append_drop 24 ((((words1.drop 24).drop 24).drop 24).drop 24), List.all_append, w_t5, ← List.take_append_drop 24 (((((words1.drop 24).drop 24).drop 24).drop 24).drop 24), List.all_append, w_t6, w_t7]
  rfl
set_option maxRecDepth 65536 in
theorem w_rest : rest_1_c.before args0 about1 = true := by decide +kernel
set_option maxRecDepth 65536 in
theorem w_case : (Jvm.Cond.and given_1 narrow_1).before args0 about1 = true := by decide +kernel
theorem w_applies : (headSpec (Jvm.Cond.code x code maxLocals ret :: tables_1) room_1).applies x e0.platform about1 = true :=
  (Spec.applies_iff w_frames).mpr ⟨w_running, w_runnable, w_alone, w_named, w_hears, w_ripe, w_room, w_tables⟩
theorem atStart : AtStart classFile x code maxLocals ret World_1 tables_1 room_1 Calls_1 rest_1 Pre_1 launch0 p0 e0 about1 theMethod args0 below0 :=
  ⟨lists_1, trivial, launch0.admits_env _ _ _, launch0.least_env, fairChoices_fair.cas, fairChoices_fair.clock, w_frames, w_args, w_heap, w_applies, trivial, w_rest, w_case⟩
end start1
theorem witness_1 : WitnessClaimed_1 := ⟨start1.p0, start1.e0, start1.about1, start1.theMethod, start1.args0, start1.below0, start1.atStart⟩
end Jvm.Pilot.@@N@@
