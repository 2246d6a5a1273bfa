import JvmDerived
import JvmDerived.Pilot.@@N@@Statement
import JvmDerived.Pilot.@@N@@Code
set_option linter.unusedVariables false
set_option linter.unusedSimpArgs false
namespace Jvm.RoadKit
open Sem ClassFile Op Lib Jvm.Stand Jvm.Free Jvm.LawKit
section New
variable {p : Program} {l : Launch} {e : Env} {R : Room} {s : State} {m : MethodId} {args : Array Value} {below : List Frame} {meth : Method} {c : Code} {T : State} {locs : List Loc} {cells slots : Nat}
theorem retI (X : Stand p l e R s m args below meth c T locs cells slots) (hx : p.tables.exec = Jvm.exec) {pc : Nat} {Ls : Array Slot} {z : Int32} {rest : List Value} (hret : meth.sig.returnType = some .int) (hd : decode c.code pc = .ok (.ireturn, 1)) {fs : List Frame}
    (hl : ∀ (f : JFrame) (acts : List Action), f.method = m → f.locked = none → f.entered = [] → (doReturn e (T.setTop f) acts (some (.int z))).1 = T.setFrames fs) : Steps p.tables e below (T.setTop (mkF m pc Ls (.int z :: rest))) (T.setFrames fs) := by
  have hm' : T.vm.method? m = some meth := X.method'
  have hn : narrow .int (.int z) = .int z := rfl
  show Steps p.tables e below (T.setTop { method := m, pc := pc, locals := Ls, stack := _ :: rest, locked := none }) _
  jvm_step X.here [X.here.top, hx, hd, hm', hret, hn]
  first | (intro acts; rw [hl _ acts rfl rfl rfl]) | rw [hl _ _ rfl rfl rfl]
  exact Steps.refl _
end New
end Jvm.RoadKit
namespace Jvm.Pilot.@@N@@
open Jvm Jvm.ClassFile Sem Op Lib Jvm.Free Jvm.Stand Jvm.LawKit Jvm.RoadKit Bundle Jvm.Pilot.@@N@@.Jvm.D
open Jvm.Free.XT (ushr ushrL cmpL)
section GoKit
open Jvm.Free.XT (ushr ushrL cmpL)
variable {p : Program} {l : Launch} {e : Env} {R : Room} {s : State} {m : MethodId} {args : Array Value} {below : List Frame} {meth : Method} {c : Code} {T : State} {locs : List Loc} {cells slots : Nat} {Q : Option Value → Heap → List Loc → Prop} {rc rs : Nat} {Fi : Outcome → State → Prop} {bytes : ByteArray} {pc pc' : Nat} {Ls : Array Slot} {rest : List Value}
def GoE (p : Program) (e : Env) (below : List Frame) (Fi : Outcome → State → Prop) (S : State) : Prop :=
  ∃ t o, Steps p.tables e below S t ∧ t.status = .running ∧ Ended t below o ∧ Fi o t
abbrev Go (p : Program) (e : Env) (below : List Frame) (s : State) (rc rs : Nat) (Q : Option Value → Heap → List Loc → Prop) (S : State) : Prop :=
  GoE p e below (fun o t => ∃ v L, o = .returned v ∧ Q v t.heap L ∧ FrameEnd s o t L rc rs) S
theorem GoE.pull {a b : State} (h : GoE p e below Fi b) (f : ∀ t, Steps p.tables e below b t → Steps p.tables e below a t) : GoE p e below Fi a := by
  obtain ⟨t, o, h1, h2⟩ := h
  exact ⟨t, o, f t h1, h2⟩
theorem GoE.imp {Fi' : Outcome → State → Prop} {a : State} (h : GoE p e below Fi a) (f : ∀ o t, Fi o t → Fi' o t) : GoE p e below Fi' a := by
  obtain ⟨t, o, h1, h2, h3, h4⟩ := h
  exact ⟨t, o, h1, h2, h3, f _ _ h4⟩
def Ctr (l : Launch) (Z : State) (y : MethodName) (bytes : ByteArray) (ml : Nat) (ret : Option FieldType) (ws : List Jvm.Cond) (rm : Room) (as : Array Value) (h0 : Heap) (Q : Option Value → Heap → List Loc → Prop) : Prop :=
  MetFree l y (head1 (Jvm.Cond.code y bytes ml ret :: ws) rm) (fun a U => a = as ∧ Z.Warmed39 U.vm ∧ U.heap = h0) (fun _ _ _ _ _ => True) (fun _ U o U' => ∃ v L, o = .returned v ∧ Q v U'.heap L ∧ FrameEnd U o U' L rm.cells rm.slots)
theorem Ctr.enter {Z : State} {y : MethodName} {ml : Nat} {ret : Option FieldType} {ws : List Jvm.Cond} {rm : Room} {as : Array Value} {h0 : Heap} (hpl : plainFor y = true) (hef : ∀ m, entryFrame m as ml = mkF m 0 Ls [])
    (body : ∀ (p : Program) (e : Env) (s : State) (m : MethodId) (below : List Frame) (meth : Method) (c : Code) (T : State), p.tables.exec = Jvm.exec → c.code = bytes → c.maxLocals = ml → s.vm.findClass y.cls = some m.cls → meth.name = y.name → meth.sig.returnType = ret → meth.locks = false → Z.Warmed39 s.vm → s.heap = h0 →
      Stand p l e rm s m as below meth c T [] 0 0 → T.heap = h0 → Go p e below s rm.cells rm.slots Q (T.setTop (mkF m 0 Ls []))) : Ctr l Z y bytes ml ret ws rm as h0 Q := by
  refine MetFree.of_bodySF hpl hisR ?_
  intro p e s m args below meth c s₁ Bd hml0 hP hK
  obtain ⟨rfl, hZ, hh⟩ := hP
  have h := body p e s m below meth c s₁ Bd.exec Bd.bytes hml0 (findClass_of_methodNamed Bd.named) (name_of_methodNamed Bd.named Bd.method).1 Bd.returns (BodyLoose.notSynchronized Bd) hZ hh (Stand.of_body Bd) (by rw [← hh, Bd.state]; rfl)
  exact h.pull fun t k => castTop (hef m) k
theorem Ctr.imp {Z : State} {y : MethodName} {ml : Nat} {ret : Option FieldType} {ws : List Jvm.Cond} {rm : Room} {as : Array Value} {h0 : Heap} {Q' : Option Value → Heap → List Loc → Prop} (C : Ctr l Z y bytes ml ret ws rm as h0 Q) (f : ∀ v h L, Q v h L → Q' v h L) : Ctr l Z y bytes ml ret ws rm as h0 Q' := by
  intro p e ha hc hk s m args below hf happ hP hK
  obtain ⟨n, o, h1, h2, h3, v, L, h4, h5, h6⟩ := C p e ha hc hk s m args below hf happ hP hK
  exact ⟨n, o, h1, h2, h3, v, L, h4, f _ _ _ h5, h6⟩
theorem g_iload (X : Stand p l e R s m args below meth c T locs cells slots) (hx : p.tables.exec = Jvm.exec) {k : Nat} {v : Int32} (hby : c.code = bytes) (hd : decode bytes pc = .ok (.iload k, 2)) (hp : pc + 2 = pc') (hl : Ls[k]? = some (.val (.int v)))
    (H : GoE p e below Fi (T.setTop (mkF m pc' Ls (.int v :: rest)))) : GoE p e below Fi (T.setTop (mkF m pc Ls rest)) := by
  subst hp; exact H.pull fun t k => Jvm.Free.XS.iload X.here hx rfl (hb hby hd) hl k
theorem g_iloadN (X : Stand p l e R s m args below meth c T locs cells slots) (hx : p.tables.exec = Jvm.exec) {k : Fin 4} {v : Int32} (hby : c.code = bytes) (hd : decode bytes pc = .ok (.iload_n k, 1)) (hp : pc + 1 = pc') (hl : Ls[k.val]? = some (.val (.int v)))
    (H : GoE p e below Fi (T.setTop (mkF m pc' Ls (.int v :: rest)))) : GoE p e below Fi (T.setTop (mkF m pc Ls rest)) := by
  subst hp; exact H.pull fun t k => Jvm.Free.XS.iloadN X.here hx rfl (hb hby hd) hl k
theorem g_istore (X : Stand p l e R s m args below meth c T locs cells slots) (hx : p.tables.exec = Jvm.exec) {k : Nat} {x : Int32} {l' : Array Slot} (hby : c.code = bytes) (hd : decode bytes pc = .ok (.istore k, 2)) (hp : pc + 2 = pc') (hl : storeLocals Ls k (.int x) = some l')
    (H : GoE p e below Fi (T.setTop (mkF m pc' l' rest))) : GoE p e below Fi (T.setTop (mkF m pc Ls (.int x :: rest))) := by
  subst hp; exact H.pull fun t k => Jvm.Free.XS.istore X.here hx rfl (hb hby hd) rfl hl k
theorem g_istoreN (X : Stand p l e R s m args below meth c T locs cells slots) (hx : p.tables.exec = Jvm.exec) {k : Fin 4} {x : Int32} {l' : Array Slot} (hby : c.code = bytes) (hd : decode bytes pc = .ok (.istore_n k, 1)) (hp : pc + 1 = pc') (hl : storeLocals Ls k.val (.int x) = some l')
    (H : GoE p e below Fi (T.setTop (mkF m pc' l' rest))) : GoE p e below Fi (T.setTop (mkF m pc Ls (.int x :: rest))) := by
  subst hp; exact H.pull fun t k => Jvm.Free.XS.istoreN X.here hx rfl (hb hby hd) rfl hl k
theorem g_lload (X : Stand p l e R s m args below meth c T locs cells slots) (hx : p.tables.exec = Jvm.exec) {k : Nat} {v : Int64} (hby : c.code = bytes) (hd : decode bytes pc = .ok (.lload k, 2)) (hp : pc + 2 = pc') (hl : Ls[k]? = some (.val (.long v)))
    (H : GoE p e below Fi (T.setTop (mkF m pc' Ls (.long v :: rest)))) : GoE p e below Fi (T.setTop (mkF m pc Ls rest)) := by
  subst hp; exact H.pull fun t k => Jvm.Free.XT.lload X.here hx rfl (hb hby hd) hl k
theorem g_lloadN (X : Stand p l e R s m args below meth c T locs cells slots) (hx : p.tables.exec = Jvm.exec) {k : Fin 4} {v : Int64} (hby : c.code = bytes) (hd : decode bytes pc = .ok (.lload_n k, 1)) (hp : pc + 1 = pc') (hl : Ls[k.val]? = some (.val (.long v)))
    (H : GoE p e below Fi (T.setTop (mkF m pc' Ls (.long v :: rest)))) : GoE p e below Fi (T.setTop (mkF m pc Ls rest)) := by
  subst hp; exact H.pull fun t k => Jvm.Free.XT.lloadN X.here hx rfl (hb hby hd) hl k
theorem g_lstore (X : Stand p l e R s m args below meth c T locs cells slots) (hx : p.tables.exec = Jvm.exec) {k : Nat} {x : Int64} {l' : Array Slot} (hby : c.code = bytes) (hd : decode bytes pc = .ok (.lstore k, 2)) (hp : pc + 2 = pc') (hl : storeLocals Ls k (.long x) = some l')
    (H : GoE p e below Fi (T.setTop (mkF m pc' l' rest))) : GoE p e below Fi (T.setTop (mkF m pc Ls (.long x :: rest))) := by
  subst hp; exact H.pull fun t k => Jvm.Free.XT.lstore X.here hx rfl (hb hby hd) rfl hl k
theorem g_lstoreN (X : Stand p l e R s m args below meth c T locs cells slots) (hx : p.tables.exec = Jvm.exec) {k : Fin 4} {x : Int64} {l' : Array Slot} (hby : c.code = bytes) (hd : decode bytes pc = .ok (.lstore_n k, 1)) (hp : pc + 1 = pc') (hl : storeLocals Ls k.val (.long x) = some l')
    (H : GoE p e below Fi (T.setTop (mkF m pc' l' rest))) : GoE p e below Fi (T.setTop (mkF m pc Ls (.long x :: rest))) := by
  subst hp; exact H.pull fun t k => Jvm.Free.XT.lstoreN X.here hx rfl (hb hby hd) rfl hl k
theorem g_dload (X : Stand p l e R s m args below meth c T locs cells slots) (hx : p.tables.exec = Jvm.exec) {k : Nat} {v : UInt64} (hby : c.code = bytes) (hd : decode bytes pc = .ok (.dload k, 2)) (hp : pc + 2 = pc') (hl : Ls[k]? = some (.val (.double v)))
    (H : GoE p e below Fi (T.setTop (mkF m pc' Ls (.double v :: rest)))) : GoE p e below Fi (T.setTop (mkF m pc Ls rest)) := by
  subst hp; exact H.pull fun t k => Jvm.Free.XS.dload X.here hx rfl (hb hby hd) hl k
theorem g_dloadN (X : Stand p l e R s m args below meth c T locs cells slots) (hx : p.tables.exec = Jvm.exec) {k : Fin 4} {v : UInt64} (hby : c.code = bytes) (hd : decode bytes pc = .ok (.dload_n k, 1)) (hp : pc + 1 = pc') (hl : Ls[k.val]? = some (.val (.double v)))
    (H : GoE p e below Fi (T.setTop (mkF m pc' Ls (.double v :: rest)))) : GoE p e below Fi (T.setTop (mkF m pc Ls rest)) := by
  subst hp; exact H.pull fun t k => Jvm.Free.XS.dloadN X.here hx rfl (hb hby hd) hl k
theorem g_dstore (X : Stand p l e R s m args below meth c T locs cells slots) (hx : p.tables.exec = Jvm.exec) {k : Nat} {x : UInt64} {l' : Array Slot} (hby : c.code = bytes) (hd : decode bytes pc = .ok (.dstore k, 2)) (hp : pc + 2 = pc') (hl : storeLocals Ls k (.double x) = some l')
    (H : GoE p e below Fi (T.setTop (mkF m pc' l' rest))) : GoE p e below Fi (T.setTop (mkF m pc Ls (.double x :: rest))) := by
  subst hp; exact H.pull fun t k => Jvm.Free.XS.dstore X.here hx rfl (hb hby hd) rfl hl k
theorem g_dstoreN (X : Stand p l e R s m args below meth c T locs cells slots) (hx : p.tables.exec = Jvm.exec) {k : Fin 4} {x : UInt64} {l' : Array Slot} (hby : c.code = bytes) (hd : decode bytes pc = .ok (.dstore_n k, 1)) (hp : pc + 1 = pc') (hl : storeLocals Ls k.val (.double x) = some l')
    (H : GoE p e below Fi (T.setTop (mkF m pc' l' rest))) : GoE p e below Fi (T.setTop (mkF m pc Ls (.double x :: rest))) := by
  subst hp; exact H.pull fun t k => Jvm.Free.XS.dstoreN X.here hx rfl (hb hby hd) rfl hl k
theorem g_aload (X : Stand p l e R s m args below meth c T locs cells slots) (hx : p.tables.exec = Jvm.exec) {k : Nat} {v : Value} (hby : c.code = bytes) (hd : decode bytes pc = .ok (.aload k, 2)) (hp : pc + 2 = pc') (hl : Ls[k]? = some (.val v)) (hv : v.isRef = true)
    (H : GoE p e below Fi (T.setTop (mkF m pc' Ls (v :: rest)))) : GoE p e below Fi (T.setTop (mkF m pc Ls rest)) := by
  subst hp; exact H.pull fun t k => Jvm.Free.XS.aload X.here hx rfl (hb hby hd) hl hv k
theorem g_aloadN (X : Stand p l e R s m args below meth c T locs cells slots) (hx : p.tables.exec = Jvm.exec) {k : Fin 4} {v : Value} (hby : c.code = bytes) (hd : decode bytes pc = .ok (.aload_n k, 1)) (hp : pc + 1 = pc') (hl : Ls[k.val]? = some (.val v)) (hv : v.isRef = true)
    (H : GoE p e below Fi (T.setTop (mkF m pc' Ls (v :: rest)))) : GoE p e below Fi (T.setTop (mkF m pc Ls rest)) := by
  subst hp; exact H.pull fun t k => Jvm.Free.XS.aloadN X.here hx rfl (hb hby hd) hl hv k
theorem g_astore (X : Stand p l e R s m args below meth c T locs cells slots) (hx : p.tables.exec = Jvm.exec) {k : Nat} {x : Value} {l' : Array Slot} (hby : c.code = bytes) (hd : decode bytes pc = .ok (.astore k, 2)) (hp : pc + 2 = pc') (hv : x.isRef = true) (hl : storeLocals Ls k x = some l')
    (H : GoE p e below Fi (T.setTop (mkF m pc' l' rest))) : GoE p e below Fi (T.setTop (mkF m pc Ls (x :: rest))) := by
  subst hp; exact H.pull fun t k => Jvm.Free.XS.astore X.here hx rfl (hb hby hd) rfl hv hl k
theorem g_astoreN (X : Stand p l e R s m args below meth c T locs cells slots) (hx : p.tables.exec = Jvm.exec) {k : Fin 4} {x : Value} {l' : Array Slot} (hby : c.code = bytes) (hd : decode bytes pc = .ok (.astore_n k, 1)) (hp : pc + 1 = pc') (hv : x.isRef = true) (hl : storeLocals Ls k.val x = some l')
    (H : GoE p e below Fi (T.setTop (mkF m pc' l' rest))) : GoE p e below Fi (T.setTop (mkF m pc Ls (x :: rest))) := by
  subst hp; exact H.pull fun t k => Jvm.Free.XS.astoreN X.here hx rfl (hb hby hd) rfl hv hl k
theorem g_iconst (X : Stand p l e R s m args below meth c T locs cells slots) (hx : p.tables.exec = Jvm.exec) {i : Int} {z : Int32} (hby : c.code = bytes) (hd : decode bytes pc = .ok (.iconst i, 1)) (hp : pc + 1 = pc') (hz : z = Int32.ofInt i)
    (H : GoE p e below Fi (T.setTop (mkF m pc' Ls (.int z :: rest)))) : GoE p e below Fi (T.setTop (mkF m pc Ls rest)) := by
  subst hp; exact H.pull fun t k => Jvm.Free.XS.iconst X.here hx rfl (hb hby hd) (hz ▸ k)
theorem g_bipush (X : Stand p l e R s m args below meth c T locs cells slots) (hx : p.tables.exec = Jvm.exec) {i : Int} {z : Int32} (hby : c.code = bytes) (hd : decode bytes pc = .ok (.bipush i, 2)) (hp : pc + 2 = pc') (hz : z = (Int8.ofInt i).toInt32)
    (H : GoE p e below Fi (T.setTop (mkF m pc' Ls (.int z :: rest)))) : GoE p e below Fi (T.setTop (mkF m pc Ls rest)) := by
  subst hp; exact H.pull fun t k => Jvm.Free.XS.bipush X.here hx rfl (hb hby hd) (hz ▸ k)
theorem g_sipush (X : Stand p l e R s m args below meth c T locs cells slots) (hx : p.tables.exec = Jvm.exec) {i : Int} {z : Int32} (hby : c.code = bytes) (hd : decode bytes pc = .ok (.sipush i, 3)) (hp : pc + 3 = pc') (hz : z = (Int16.ofInt i).toInt32)
    (H : GoE p e below Fi (T.setTop (mkF m pc' Ls (.int z :: rest)))) : GoE p e below Fi (T.setTop (mkF m pc Ls rest)) := by
  subst hp; exact H.pull fun t k => Jvm.Free.XS.sipush X.here hx rfl (hb hby hd) (hz ▸ k)
theorem g_lconst (X : Stand p l e R s m args below meth c T locs cells slots) (hx : p.tables.exec = Jvm.exec) {i : Fin 2} {z : Int64} (hby : c.code = bytes) (hd : decode bytes pc = .ok (.lconst i, 1)) (hp : pc + 1 = pc') (hz : z = Int64.ofNat i)
    (H : GoE p e below Fi (T.setTop (mkF m pc' Ls (.long z :: rest)))) : GoE p e below Fi (T.setTop (mkF m pc Ls rest)) := by
  subst hp; exact H.pull fun t k => Jvm.Free.XT.lconst X.here hx rfl (hb hby hd) (hz ▸ k)
theorem g_aconstNull (X : Stand p l e R s m args below meth c T locs cells slots) (hx : p.tables.exec = Jvm.exec)  (hby : c.code = bytes) (hd : decode bytes pc = .ok (.aconst_null, 1)) (hp : pc + 1 = pc') 
    (H : GoE p e below Fi (T.setTop (mkF m pc' Ls (.null :: rest)))) : GoE p e below Fi (T.setTop (mkF m pc Ls rest)) := by
  subst hp; exact H.pull fun t k => Jvm.Free.XS.aconstNull X.here hx rfl (hb hby hd) k
theorem g_ldcI (X : Stand p l e R s m args below meth c T locs cells slots) (hx : p.tables.exec = Jvm.exec) {Z : State} {a0 : Array Value} (hZ : Z.Warmed39 s.vm) {own : String} (hown : s.vm.findClass own = some m.cls) {index : Nat} {v : Int32} (hby : c.code = bytes) (hd : decode bytes pc = .ok (.ldc index, 2)) (hp : pc + 2 = pc') (w : (Jvm.Cond.constant own index v).before a0 Z = true)
    (H : GoE p e below Fi (T.setTop (mkF m pc' Ls (.int v :: rest)))) : GoE p e below Fi (T.setTop (mkF m pc Ls rest)) := by
  subst hp; exact H.pull fun t k => X.ldcInt hx hown (mvT hZ w) (g := mkF m pc Ls rest) rfl (hb hby hd) _ k
theorem g_ldcL (X : Stand p l e R s m args below meth c T locs cells slots) (hx : p.tables.exec = Jvm.exec) {Z : State} {a0 : Array Value} (hZ : Z.Warmed39 s.vm) {own : String} (hown : s.vm.findClass own = some m.cls) {index : Nat} {v : Int64} (hby : c.code = bytes) (hd : decode bytes pc = .ok (.ldc2_w index, 3)) (hp : pc + 3 = pc') (w : (Jvm.Cond.constantLong own index v).before a0 Z = true)
    (H : GoE p e below Fi (T.setTop (mkF m pc' Ls (.long v :: rest)))) : GoE p e below Fi (T.setTop (mkF m pc Ls rest)) := by
  subst hp; exact H.pull fun t k => X.ldc2Long hx hown (mvT hZ w) (g := mkF m pc Ls rest) rfl (hb hby hd) _ k
theorem g_ldcD (X : Stand p l e R s m args below meth c T locs cells slots) (hx : p.tables.exec = Jvm.exec) {Z : State} {a0 : Array Value} (hZ : Z.Warmed39 s.vm) {own : String} (hown : s.vm.findClass own = some m.cls) {index : Nat} {v : UInt64} (hby : c.code = bytes) (hd : decode bytes pc = .ok (.ldc2_w index, 3)) (hp : pc + 3 = pc') (w : (Jvm.Cond.constantDouble own index v).before a0 Z = true)
    (H : GoE p e below Fi (T.setTop (mkF m pc' Ls (.double v :: rest)))) : GoE p e below Fi (T.setTop (mkF m pc Ls rest)) := by
  subst hp; exact H.pull fun t k => X.ldc2DoubleC hx hown (mvT hZ w) (g := mkF m pc Ls rest) rfl (hb hby hd) _ k
theorem g_iadd (X : Stand p l e R s m args below meth c T locs cells slots) (hx : p.tables.exec = Jvm.exec) {x y : Int32} (hby : c.code = bytes) (hd : decode bytes pc = .ok (.iadd, 1)) (hp : pc + 1 = pc') 
    (H : GoE p e below Fi (T.setTop (mkF m pc' Ls (.int (x + y) :: rest)))) : GoE p e below Fi (T.setTop (mkF m pc Ls (.int y :: .int x :: rest))) := by
  subst hp; exact H.pull fun t k => Jvm.Free.XS.iadd X.here hx rfl (hb hby hd) rfl k
theorem g_isub (X : Stand p l e R s m args below meth c T locs cells slots) (hx : p.tables.exec = Jvm.exec) {x y : Int32} (hby : c.code = bytes) (hd : decode bytes pc = .ok (.isub, 1)) (hp : pc + 1 = pc') 
    (H : GoE p e below Fi (T.setTop (mkF m pc' Ls (.int (x - y) :: rest)))) : GoE p e below Fi (T.setTop (mkF m pc Ls (.int y :: .int x :: rest))) := by
  subst hp; exact H.pull fun t k => Jvm.Free.XS.isub X.here hx rfl (hb hby hd) rfl k
theorem g_imul (X : Stand p l e R s m args below meth c T locs cells slots) (hx : p.tables.exec = Jvm.exec) {x y : Int32} (hby : c.code = bytes) (hd : decode bytes pc = .ok (.imul, 1)) (hp : pc + 1 = pc') 
    (H : GoE p e below Fi (T.setTop (mkF m pc' Ls (.int (x * y) :: rest)))) : GoE p e below Fi (T.setTop (mkF m pc Ls (.int y :: .int x :: rest))) := by
  subst hp; exact H.pull fun t k => Jvm.Free.XS.imul X.here hx rfl (hb hby hd) rfl k
theorem g_iand (X : Stand p l e R s m args below meth c T locs cells slots) (hx : p.tables.exec = Jvm.exec) {x y : Int32} (hby : c.code = bytes) (hd : decode bytes pc = .ok (.iand, 1)) (hp : pc + 1 = pc') 
    (H : GoE p e below Fi (T.setTop (mkF m pc' Ls (.int (x &&& y) :: rest)))) : GoE p e below Fi (T.setTop (mkF m pc Ls (.int y :: .int x :: rest))) := by
  subst hp; exact H.pull fun t k => Jvm.Free.XS.iand X.here hx rfl (hb hby hd) rfl k
theorem g_ior (X : Stand p l e R s m args below meth c T locs cells slots) (hx : p.tables.exec = Jvm.exec) {x y : Int32} (hby : c.code = bytes) (hd : decode bytes pc = .ok (.ior, 1)) (hp : pc + 1 = pc') 
    (H : GoE p e below Fi (T.setTop (mkF m pc' Ls (.int (x ||| y) :: rest)))) : GoE p e below Fi (T.setTop (mkF m pc Ls (.int y :: .int x :: rest))) := by
  subst hp; exact H.pull fun t k => Jvm.Free.XT.ior X.here hx rfl (hb hby hd) rfl k
theorem g_ixor (X : Stand p l e R s m args below meth c T locs cells slots) (hx : p.tables.exec = Jvm.exec) {x y : Int32} (hby : c.code = bytes) (hd : decode bytes pc = .ok (.ixor, 1)) (hp : pc + 1 = pc') 
    (H : GoE p e below Fi (T.setTop (mkF m pc' Ls (.int (x ^^^ y) :: rest)))) : GoE p e below Fi (T.setTop (mkF m pc Ls (.int y :: .int x :: rest))) := by
  subst hp; exact H.pull fun t k => Jvm.Free.XT.ixor X.here hx rfl (hb hby hd) rfl k
theorem g_ishl (X : Stand p l e R s m args below meth c T locs cells slots) (hx : p.tables.exec = Jvm.exec) {x y : Int32} (hby : c.code = bytes) (hd : decode bytes pc = .ok (.ishl, 1)) (hp : pc + 1 = pc') 
    (H : GoE p e below Fi (T.setTop (mkF m pc' Ls (.int (x <<< (y &&& 31)) :: rest)))) : GoE p e below Fi (T.setTop (mkF m pc Ls (.int y :: .int x :: rest))) := by
  subst hp; exact H.pull fun t k => Jvm.Free.XT.ishl X.here hx rfl (hb hby hd) rfl k
theorem g_ishr (X : Stand p l e R s m args below meth c T locs cells slots) (hx : p.tables.exec = Jvm.exec) {x y : Int32} (hby : c.code = bytes) (hd : decode bytes pc = .ok (.ishr, 1)) (hp : pc + 1 = pc') 
    (H : GoE p e below Fi (T.setTop (mkF m pc' Ls (.int (x >>> (y &&& 31)) :: rest)))) : GoE p e below Fi (T.setTop (mkF m pc Ls (.int y :: .int x :: rest))) := by
  subst hp; exact H.pull fun t k => Jvm.Free.XT.ishr X.here hx rfl (hb hby hd) rfl k
theorem g_iushr (X : Stand p l e R s m args below meth c T locs cells slots) (hx : p.tables.exec = Jvm.exec) {x y : Int32} (hby : c.code = bytes) (hd : decode bytes pc = .ok (.iushr, 1)) (hp : pc + 1 = pc') 
    (H : GoE p e below Fi (T.setTop (mkF m pc' Ls (.int (ushr x y) :: rest)))) : GoE p e below Fi (T.setTop (mkF m pc Ls (.int y :: .int x :: rest))) := by
  subst hp; exact H.pull fun t k => Jvm.Free.XT.iushr X.here hx rfl (hb hby hd) rfl k
theorem g_idiv (X : Stand p l e R s m args below meth c T locs cells slots) (hx : p.tables.exec = Jvm.exec) {x y : Int32} (hby : c.code = bytes) (hd : decode bytes pc = .ok (.idiv, 1)) (hp : pc + 1 = pc') (hy : y ≠ 0)
    (H : GoE p e below Fi (T.setTop (mkF m pc' Ls (.int (x / y) :: rest)))) : GoE p e below Fi (T.setTop (mkF m pc Ls (.int y :: .int x :: rest))) := by
  subst hp; exact H.pull fun t k => Jvm.Free.XS.idiv X.here hx rfl (hb hby hd) rfl hy k
theorem g_irem (X : Stand p l e R s m args below meth c T locs cells slots) (hx : p.tables.exec = Jvm.exec) {x y : Int32} (hby : c.code = bytes) (hd : decode bytes pc = .ok (.irem, 1)) (hp : pc + 1 = pc') (hy : y ≠ 0)
    (H : GoE p e below Fi (T.setTop (mkF m pc' Ls (.int (x - (x / y) * y) :: rest)))) : GoE p e below Fi (T.setTop (mkF m pc Ls (.int y :: .int x :: rest))) := by
  subst hp; exact H.pull fun t k => Jvm.Free.XS.irem X.here hx rfl (hb hby hd) rfl hy k
theorem g_ineg (X : Stand p l e R s m args below meth c T locs cells slots) (hx : p.tables.exec = Jvm.exec) {x : Int32} (hby : c.code = bytes) (hd : decode bytes pc = .ok (.ineg, 1)) (hp : pc + 1 = pc') 
    (H : GoE p e below Fi (T.setTop (mkF m pc' Ls (.int (-x) :: rest)))) : GoE p e below Fi (T.setTop (mkF m pc Ls (.int x :: rest))) := by
  subst hp; exact H.pull fun t k => Jvm.Free.XS.ineg X.here hx rfl (hb hby hd) rfl k
theorem g_ladd (X : Stand p l e R s m args below meth c T locs cells slots) (hx : p.tables.exec = Jvm.exec) {x y : Int64} (hby : c.code = bytes) (hd : decode bytes pc = .ok (.ladd, 1)) (hp : pc + 1 = pc') 
    (H : GoE p e below Fi (T.setTop (mkF m pc' Ls (.long (x + y) :: rest)))) : GoE p e below Fi (T.setTop (mkF m pc Ls (.long y :: .long x :: rest))) := by
  subst hp; exact H.pull fun t k => Jvm.Free.XT.ladd X.here hx rfl (hb hby hd) rfl k
theorem g_lsub (X : Stand p l e R s m args below meth c T locs cells slots) (hx : p.tables.exec = Jvm.exec) {x y : Int64} (hby : c.code = bytes) (hd : decode bytes pc = .ok (.lsub, 1)) (hp : pc + 1 = pc') 
    (H : GoE p e below Fi (T.setTop (mkF m pc' Ls (.long (x - y) :: rest)))) : GoE p e below Fi (T.setTop (mkF m pc Ls (.long y :: .long x :: rest))) := by
  subst hp; exact H.pull fun t k => Jvm.Free.XT.lsub X.here hx rfl (hb hby hd) rfl k
theorem g_lmul (X : Stand p l e R s m args below meth c T locs cells slots) (hx : p.tables.exec = Jvm.exec) {x y : Int64} (hby : c.code = bytes) (hd : decode bytes pc = .ok (.lmul, 1)) (hp : pc + 1 = pc') 
    (H : GoE p e below Fi (T.setTop (mkF m pc' Ls (.long (x * y) :: rest)))) : GoE p e below Fi (T.setTop (mkF m pc Ls (.long y :: .long x :: rest))) := by
  subst hp; exact H.pull fun t k => Jvm.Free.XT.lmul X.here hx rfl (hb hby hd) rfl k
theorem g_land (X : Stand p l e R s m args below meth c T locs cells slots) (hx : p.tables.exec = Jvm.exec) {x y : Int64} (hby : c.code = bytes) (hd : decode bytes pc = .ok (.land, 1)) (hp : pc + 1 = pc') 
    (H : GoE p e below Fi (T.setTop (mkF m pc' Ls (.long (x &&& y) :: rest)))) : GoE p e below Fi (T.setTop (mkF m pc Ls (.long y :: .long x :: rest))) := by
  subst hp; exact H.pull fun t k => Jvm.Free.XT.land X.here hx rfl (hb hby hd) rfl k
theorem g_lor (X : Stand p l e R s m args below meth c T locs cells slots) (hx : p.tables.exec = Jvm.exec) {x y : Int64} (hby : c.code = bytes) (hd : decode bytes pc = .ok (.lor, 1)) (hp : pc + 1 = pc') 
    (H : GoE p e below Fi (T.setTop (mkF m pc' Ls (.long (x ||| y) :: rest)))) : GoE p e below Fi (T.setTop (mkF m pc Ls (.long y :: .long x :: rest))) := by
  subst hp; exact H.pull fun t k => Jvm.Free.XT.lor X.here hx rfl (hb hby hd) rfl k
theorem g_lxor (X : Stand p l e R s m args below meth c T locs cells slots) (hx : p.tables.exec = Jvm.exec) {x y : Int64} (hby : c.code = bytes) (hd : decode bytes pc = .ok (.lxor, 1)) (hp : pc + 1 = pc') 
    (H : GoE p e below Fi (T.setTop (mkF m pc' Ls (.long (x ^^^ y) :: rest)))) : GoE p e below Fi (T.setTop (mkF m pc Ls (.long y :: .long x :: rest))) := by
  subst hp; exact H.pull fun t k => Jvm.Free.XT.lxor X.here hx rfl (hb hby hd) rfl k
theorem g_ldiv (X : Stand p l e R s m args below meth c T locs cells slots) (hx : p.tables.exec = Jvm.exec) {x y : Int64} (hby : c.code = bytes) (hd : decode bytes pc = .ok (.ldiv, 1)) (hp : pc + 1 = pc') (hy : y ≠ 0)
    (H : GoE p e below Fi (T.setTop (mkF m pc' Ls (.long (x / y) :: rest)))) : GoE p e below Fi (T.setTop (mkF m pc Ls (.long y :: .long x :: rest))) := by
  subst hp; exact H.pull fun t k => Jvm.Free.XT.ldiv X.here hx rfl (hb hby hd) rfl hy k
theorem g_lrem (X : Stand p l e R s m args below meth c T locs cells slots) (hx : p.tables.exec = Jvm.exec) {x y : Int64} (hby : c.code = bytes) (hd : decode bytes pc = .ok (.lrem, 1)) (hp : pc + 1 = pc') (hy : y ≠ 0)
    (H : GoE p e below Fi (T.setTop (mkF m pc' Ls (.long (x - (x / y) * y) :: rest)))) : GoE p e below Fi (T.setTop (mkF m pc Ls (.long y :: .long x :: rest))) := by
  subst hp; exact H.pull fun t k => Jvm.Free.XT.lrem X.here hx rfl (hb hby hd) rfl hy k
theorem g_lneg (X : Stand p l e R s m args below meth c T locs cells slots) (hx : p.tables.exec = Jvm.exec) {x : Int64} (hby : c.code = bytes) (hd : decode bytes pc = .ok (.lneg, 1)) (hp : pc + 1 = pc') 
    (H : GoE p e below Fi (T.setTop (mkF m pc' Ls (.long (-x) :: rest)))) : GoE p e below Fi (T.setTop (mkF m pc Ls (.long x :: rest))) := by
  subst hp; exact H.pull fun t k => Jvm.Free.XT.lneg X.here hx rfl (hb hby hd) rfl k
theorem g_lshl (X : Stand p l e R s m args below meth c T locs cells slots) (hx : p.tables.exec = Jvm.exec) {x : Int64} {y : Int32} (hby : c.code = bytes) (hd : decode bytes pc = .ok (.lshl, 1)) (hp : pc + 1 = pc') 
    (H : GoE p e below Fi (T.setTop (mkF m pc' Ls (.long (x <<< (y.toInt64 &&& 63)) :: rest)))) : GoE p e below Fi (T.setTop (mkF m pc Ls (.int y :: .long x :: rest))) := by
  subst hp; exact H.pull fun t k => Jvm.Free.XT.lshl X.here hx rfl (hb hby hd) rfl k
theorem g_lshr (X : Stand p l e R s m args below meth c T locs cells slots) (hx : p.tables.exec = Jvm.exec) {x : Int64} {y : Int32} (hby : c.code = bytes) (hd : decode bytes pc = .ok (.lshr, 1)) (hp : pc + 1 = pc') 
    (H : GoE p e below Fi (T.setTop (mkF m pc' Ls (.long (x >>> (y.toInt64 &&& 63)) :: rest)))) : GoE p e below Fi (T.setTop (mkF m pc Ls (.int y :: .long x :: rest))) := by
  subst hp; exact H.pull fun t k => Jvm.Free.XT.lshr X.here hx rfl (hb hby hd) rfl k
theorem g_lushr (X : Stand p l e R s m args below meth c T locs cells slots) (hx : p.tables.exec = Jvm.exec) {x : Int64} {y : Int32} (hby : c.code = bytes) (hd : decode bytes pc = .ok (.lushr, 1)) (hp : pc + 1 = pc') 
    (H : GoE p e below Fi (T.setTop (mkF m pc' Ls (.long (ushrL x y) :: rest)))) : GoE p e below Fi (T.setTop (mkF m pc Ls (.int y :: .long x :: rest))) := by
  subst hp; exact H.pull fun t k => Jvm.Free.XT.lushr X.here hx rfl (hb hby hd) rfl k
theorem g_i2l (X : Stand p l e R s m args below meth c T locs cells slots) (hx : p.tables.exec = Jvm.exec) {x : Int32} (hby : c.code = bytes) (hd : decode bytes pc = .ok (.i2l, 1)) (hp : pc + 1 = pc') 
    (H : GoE p e below Fi (T.setTop (mkF m pc' Ls (.long x.toInt64 :: rest)))) : GoE p e below Fi (T.setTop (mkF m pc Ls (.int x :: rest))) := by
  subst hp; exact H.pull fun t k => Jvm.Free.XT.i2l X.here hx rfl (hb hby hd) rfl k
theorem g_l2i (X : Stand p l e R s m args below meth c T locs cells slots) (hx : p.tables.exec = Jvm.exec) {x : Int64} (hby : c.code = bytes) (hd : decode bytes pc = .ok (.l2i, 1)) (hp : pc + 1 = pc') 
    (H : GoE p e below Fi (T.setTop (mkF m pc' Ls (.int x.toInt32 :: rest)))) : GoE p e below Fi (T.setTop (mkF m pc Ls (.long x :: rest))) := by
  subst hp; exact H.pull fun t k => Jvm.Free.XT.l2i X.here hx rfl (hb hby hd) rfl k
theorem g_i2b (X : Stand p l e R s m args below meth c T locs cells slots) (hx : p.tables.exec = Jvm.exec) {x : Int32} (hby : c.code = bytes) (hd : decode bytes pc = .ok (.i2b, 1)) (hp : pc + 1 = pc') 
    (H : GoE p e below Fi (T.setTop (mkF m pc' Ls (.int x.toInt8.toInt32 :: rest)))) : GoE p e below Fi (T.setTop (mkF m pc Ls (.int x :: rest))) := by
  subst hp; exact H.pull fun t k => Jvm.Free.XT.i2b X.here hx rfl (hb hby hd) rfl k
theorem g_i2c (X : Stand p l e R s m args below meth c T locs cells slots) (hx : p.tables.exec = Jvm.exec) {x : Int32} (hby : c.code = bytes) (hd : decode bytes pc = .ok (.i2c, 1)) (hp : pc + 1 = pc') 
    (H : GoE p e below Fi (T.setTop (mkF m pc' Ls (.int x.toUInt32.toUInt16.toUInt32.toInt32 :: rest)))) : GoE p e below Fi (T.setTop (mkF m pc Ls (.int x :: rest))) := by
  subst hp; exact H.pull fun t k => Jvm.Free.XT.i2c X.here hx rfl (hb hby hd) rfl k
theorem g_i2s (X : Stand p l e R s m args below meth c T locs cells slots) (hx : p.tables.exec = Jvm.exec) {x : Int32} (hby : c.code = bytes) (hd : decode bytes pc = .ok (.i2s, 1)) (hp : pc + 1 = pc') 
    (H : GoE p e below Fi (T.setTop (mkF m pc' Ls (.int x.toInt16.toInt32 :: rest)))) : GoE p e below Fi (T.setTop (mkF m pc Ls (.int x :: rest))) := by
  subst hp; exact H.pull fun t k => Jvm.Free.XT.i2s X.here hx rfl (hb hby hd) rfl k
theorem g_i2d (X : Stand p l e R s m args below meth c T locs cells slots) (hx : p.tables.exec = Jvm.exec) {x : Int32} (hby : c.code = bytes) (hd : decode bytes pc = .ok (.i2d, 1)) (hp : pc + 1 = pc') 
    (H : GoE p e below Fi (T.setTop (mkF m pc' Ls (.double (FP.l2d x.toInt64) :: rest)))) : GoE p e below Fi (T.setTop (mkF m pc Ls (.int x :: rest))) := by
  subst hp; exact H.pull fun t k => Jvm.Free.XS.i2dS X.here hx rfl (hb hby hd) rfl (i2d_w x) k
theorem g_l2d (X : Stand p l e R s m args below meth c T locs cells slots) (hx : p.tables.exec = Jvm.exec) {x : Int64} (hby : c.code = bytes) (hd : decode bytes pc = .ok (.l2d, 1)) (hp : pc + 1 = pc') 
    (H : GoE p e below Fi (T.setTop (mkF m pc' Ls (.double (FP.l2d x) :: rest)))) : GoE p e below Fi (T.setTop (mkF m pc Ls (.long x :: rest))) := by
  subst hp; exact H.pull fun t k => Jvm.Free.XS.l2dS X.here hx rfl (hb hby hd) rfl rfl k
theorem g_dcmp (X : Stand p l e R s m args below meth c T locs cells slots) (hx : p.tables.exec = Jvm.exec) {o : CmpOp} {x y : UInt64} {v : Int32} (hby : c.code = bytes) (hd : decode bytes pc = .ok (.dcmp o, 1)) (hp : pc + 1 = pc') (hv : cmpValue (FP.dcmp x y) o = v)
    (H : GoE p e below Fi (T.setTop (mkF m pc' Ls (.int v :: rest)))) : GoE p e below Fi (T.setTop (mkF m pc Ls (.double y :: .double x :: rest))) := by
  subst hp; exact H.pull fun t k => Jvm.Free.XS.dcmpS X.here hx rfl (hb hby hd) rfl hv k
theorem g_lcmp (X : Stand p l e R s m args below meth c T locs cells slots) (hx : p.tables.exec = Jvm.exec) {x y : Int64} (hby : c.code = bytes) (hd : decode bytes pc = .ok (.lcmp, 1)) (hp : pc + 1 = pc') 
    (H : GoE p e below Fi (T.setTop (mkF m pc' Ls (.int (cmpL x y) :: rest)))) : GoE p e below Fi (T.setTop (mkF m pc Ls (.long y :: .long x :: rest))) := by
  subst hp; exact H.pull fun t k => Jvm.Free.XT.lcmp X.here hx rfl (hb hby hd) rfl k
theorem g_dup (X : Stand p l e R s m args below meth c T locs cells slots) (hx : p.tables.exec = Jvm.exec) {x : Value} (hby : c.code = bytes) (hd : decode bytes pc = .ok (.dup, 1)) (hp : pc + 1 = pc') (hc : x.category = 1)
    (H : GoE p e below Fi (T.setTop (mkF m pc' Ls (x :: x :: rest)))) : GoE p e below Fi (T.setTop (mkF m pc Ls (x :: rest))) := by
  subst hp; exact H.pull fun t k => Jvm.Free.XS.dup X.here hx rfl (hb hby hd) rfl hc k
theorem g_pop (X : Stand p l e R s m args below meth c T locs cells slots) (hx : p.tables.exec = Jvm.exec) {x : Value} (hby : c.code = bytes) (hd : decode bytes pc = .ok (.pop, 1)) (hp : pc + 1 = pc') (hc : x.category = 1)
    (H : GoE p e below Fi (T.setTop (mkF m pc' Ls rest))) : GoE p e below Fi (T.setTop (mkF m pc Ls (x :: rest))) := by
  subst hp; exact H.pull fun t k => Jvm.Free.XT.pop X.here hx rfl (hb hby hd) rfl hc k
theorem g_iinc (X : Stand p l e R s m args below meth c T locs cells slots) (hx : p.tables.exec = Jvm.exec) {k : Nat} {cst : Int} {x : Int32} {l' : Array Slot} (hby : c.code = bytes) (hd : decode bytes pc = .ok (.iinc k cst, 3)) (hp : pc + 3 = pc') (hl : Ls[k]? = some (.val (.int x))) (hl' : storeLocals Ls k (.int (x + Int32.ofInt cst)) = some l')
    (H : GoE p e below Fi (T.setTop (mkF m pc' l' rest))) : GoE p e below Fi (T.setTop (mkF m pc Ls rest)) := by
  subst hp; exact H.pull fun t k => Jvm.Free.XS.iinc X.here hx rfl (hb hby hd) hl hl' k
theorem g_goto (X : Stand p l e R s m args below meth c T locs cells slots) (hx : p.tables.exec = Jvm.exec) {o : Int} (hby : c.code = bytes) (hd : decode bytes pc = .ok (.goto o, 3)) (ho : 0 ≤ (pc : Int) + o) (hp : ((pc : Int) + o).toNat = pc')
    (H : GoE p e below Fi (T.setTop (mkF m pc' Ls rest))) : GoE p e below Fi (T.setTop (mkF m pc Ls rest)) :=
  H.pull fun t k => Jvm.Free.XS.goto X.here hx rfl rfl (hb hby hd) ho hp k
theorem g_icmp_eq (X : Stand p l e R s m args below meth c T locs cells slots) (hx : p.tables.exec = Jvm.exec) {o : Int} {pn : Nat} (hby : c.code = bytes) {x y : Int32} (hd : decode bytes pc = .ok (.if_icmp .eq o, 3)) (ho : 0 ≤ (pc : Int) + o) (hp : ((pc : Int) + o).toNat = pc') (hn : pc + 3 = pn)
    (HY : x = y → GoE p e below Fi (T.setTop (mkF m pc' Ls rest))) (HN : ¬ (x = y) → GoE p e below Fi (T.setTop (mkF m pn Ls rest))) : GoE p e below Fi (T.setTop (mkF m pc Ls (.int y :: .int x :: rest))) := by
  subst hn
  by_cases q : x = y
  · exact (HY q).pull fun t k => Jvm.Free.XS.icmpYes X.here hx rfl rfl (hb hby hd) rfl (teq q).1 ho hp k
  · have q' : ¬ (x = y) := by first | exact q | exact Decidable.not_not.mp q
    exact (HN q').pull fun t k => Jvm.Free.XS.icmpNo X.here hx rfl (hb hby hd) rfl (feq q').1 k
theorem g_if_eq (X : Stand p l e R s m args below meth c T locs cells slots) (hx : p.tables.exec = Jvm.exec) {o : Int} {pn : Nat} (hby : c.code = bytes) {x : Int32} (hd : decode bytes pc = .ok (.ifCond .eq o, 3)) (ho : 0 ≤ (pc : Int) + o) (hp : ((pc : Int) + o).toNat = pc') (hn : pc + 3 = pn)
    (HY : x = 0 → GoE p e below Fi (T.setTop (mkF m pc' Ls rest))) (HN : ¬ (x = 0) → GoE p e below Fi (T.setTop (mkF m pn Ls rest))) : GoE p e below Fi (T.setTop (mkF m pc Ls (.int x :: rest))) := by
  subst hn
  by_cases q : x = 0
  · exact (HY q).pull fun t k => Jvm.Free.XS.ifYes X.here hx rfl rfl (hb hby hd) rfl ((if0 _ _).trans (teq q).1) ho hp k
  · have q' : ¬ (x = 0) := by first | exact q | exact Decidable.not_not.mp q
    exact (HN q').pull fun t k => Jvm.Free.XS.ifNo X.here hx rfl (hb hby hd) rfl ((if0 _ _).trans (feq q').1) k
theorem cl_W (u v : Int64) : cmpL u v = lcmpW u v := rfl
theorem cl_lt (u v : Int64) : cmpL u v < 0 ↔ u < v := by rw [cl_W]; exact lw_lt u v
theorem cl_gt (u v : Int64) : 0 < cmpL u v ↔ v < u := by rw [cl_W]; exact lw_gt u v
theorem cl_eq (u v : Int64) : cmpL u v = 0 ↔ u = v := by rw [cl_W]; exact lw_eq u v
theorem g_ifL_eq (X : Stand p l e R s m args below meth c T locs cells slots) (hx : p.tables.exec = Jvm.exec) {o : Int} {pn : Nat} (hby : c.code = bytes) {u v : Int64} (hd : decode bytes pc = .ok (.ifCond .eq o, 3)) (ho : 0 ≤ (pc : Int) + o) (hp : ((pc : Int) + o).toNat = pc') (hn : pc + 3 = pn)
    (HY : u = v → GoE p e below Fi (T.setTop (mkF m pc' Ls rest))) (HN : ¬ (u = v) → GoE p e below Fi (T.setTop (mkF m pn Ls rest))) : GoE p e below Fi (T.setTop (mkF m pc Ls (.int (cmpL u v) :: rest))) :=
  g_if_eq X hx hby hd ho hp hn (fun h => HY ((cl_eq u v).mp h)) (fun h => HN (fun z => h ((cl_eq u v).mpr z)))
theorem g_icmp_ne (X : Stand p l e R s m args below meth c T locs cells slots) (hx : p.tables.exec = Jvm.exec) {o : Int} {pn : Nat} (hby : c.code = bytes) {x y : Int32} (hd : decode bytes pc = .ok (.if_icmp .ne o, 3)) (ho : 0 ≤ (pc : Int) + o) (hp : ((pc : Int) + o).toNat = pc') (hn : pc + 3 = pn)
    (HY : ¬ (x = y) → GoE p e below Fi (T.setTop (mkF m pc' Ls rest))) (HN : x = y → GoE p e below Fi (T.setTop (mkF m pn Ls rest))) : GoE p e below Fi (T.setTop (mkF m pc Ls (.int y :: .int x :: rest))) := by
  subst hn
  by_cases q : ¬ (x = y)
  · exact (HY q).pull fun t k => Jvm.Free.XS.icmpYes X.here hx rfl rfl (hb hby hd) rfl (feq q).2 ho hp k
  · have q' : x = y := by first | exact q | exact Decidable.not_not.mp q
    exact (HN q').pull fun t k => Jvm.Free.XS.icmpNo X.here hx rfl (hb hby hd) rfl (teq q').2 k
theorem g_if_ne (X : Stand p l e R s m args below meth c T locs cells slots) (hx : p.tables.exec = Jvm.exec) {o : Int} {pn : Nat} (hby : c.code = bytes) {x : Int32} (hd : decode bytes pc = .ok (.ifCond .ne o, 3)) (ho : 0 ≤ (pc : Int) + o) (hp : ((pc : Int) + o).toNat = pc') (hn : pc + 3 = pn)
    (HY : ¬ (x = 0) → GoE p e below Fi (T.setTop (mkF m pc' Ls rest))) (HN : x = 0 → GoE p e below Fi (T.setTop (mkF m pn Ls rest))) : GoE p e below Fi (T.setTop (mkF m pc Ls (.int x :: rest))) := by
  subst hn
  by_cases q : ¬ (x = 0)
  · exact (HY q).pull fun t k => Jvm.Free.XS.ifYes X.here hx rfl rfl (hb hby hd) rfl ((if0 _ _).trans (feq q).2) ho hp k
  · have q' : x = 0 := by first | exact q | exact Decidable.not_not.mp q
    exact (HN q').pull fun t k => Jvm.Free.XS.ifNo X.here hx rfl (hb hby hd) rfl ((if0 _ _).trans (teq q').2) k
theorem g_ifL_ne (X : Stand p l e R s m args below meth c T locs cells slots) (hx : p.tables.exec = Jvm.exec) {o : Int} {pn : Nat} (hby : c.code = bytes) {u v : Int64} (hd : decode bytes pc = .ok (.ifCond .ne o, 3)) (ho : 0 ≤ (pc : Int) + o) (hp : ((pc : Int) + o).toNat = pc') (hn : pc + 3 = pn)
    (HY : ¬ (u = v) → GoE p e below Fi (T.setTop (mkF m pc' Ls rest))) (HN : u = v → GoE p e below Fi (T.setTop (mkF m pn Ls rest))) : GoE p e below Fi (T.setTop (mkF m pc Ls (.int (cmpL u v) :: rest))) :=
  g_if_ne X hx hby hd ho hp hn (fun h => HY (fun z => h ((cl_eq u v).mpr z))) (fun h => HN ((cl_eq u v).mp h))
theorem g_icmp_lt (X : Stand p l e R s m args below meth c T locs cells slots) (hx : p.tables.exec = Jvm.exec) {o : Int} {pn : Nat} (hby : c.code = bytes) {x y : Int32} (hd : decode bytes pc = .ok (.if_icmp .lt o, 3)) (ho : 0 ≤ (pc : Int) + o) (hp : ((pc : Int) + o).toNat = pc') (hn : pc + 3 = pn)
    (HY : x < y → GoE p e below Fi (T.setTop (mkF m pc' Ls rest))) (HN : ¬ (x < y) → GoE p e below Fi (T.setTop (mkF m pn Ls rest))) : GoE p e below Fi (T.setTop (mkF m pc Ls (.int y :: .int x :: rest))) := by
  subst hn
  by_cases q : x < y
  · exact (HY q).pull fun t k => Jvm.Free.XS.icmpYes X.here hx rfl rfl (hb hby hd) rfl (tlt q).1 ho hp k
  · have q' : ¬ (x < y) := by first | exact q | exact Decidable.not_not.mp q
    exact (HN q').pull fun t k => Jvm.Free.XS.icmpNo X.here hx rfl (hb hby hd) rfl (flt q').1 k
theorem g_if_lt (X : Stand p l e R s m args below meth c T locs cells slots) (hx : p.tables.exec = Jvm.exec) {o : Int} {pn : Nat} (hby : c.code = bytes) {x : Int32} (hd : decode bytes pc = .ok (.ifCond .lt o, 3)) (ho : 0 ≤ (pc : Int) + o) (hp : ((pc : Int) + o).toNat = pc') (hn : pc + 3 = pn)
    (HY : x < 0 → GoE p e below Fi (T.setTop (mkF m pc' Ls rest))) (HN : ¬ (x < 0) → GoE p e below Fi (T.setTop (mkF m pn Ls rest))) : GoE p e below Fi (T.setTop (mkF m pc Ls (.int x :: rest))) := by
  subst hn
  by_cases q : x < 0
  · exact (HY q).pull fun t k => Jvm.Free.XS.ifYes X.here hx rfl rfl (hb hby hd) rfl ((if0 _ _).trans (tlt q).1) ho hp k
  · have q' : ¬ (x < 0) := by first | exact q | exact Decidable.not_not.mp q
    exact (HN q').pull fun t k => Jvm.Free.XS.ifNo X.here hx rfl (hb hby hd) rfl ((if0 _ _).trans (flt q').1) k
theorem g_ifL_lt (X : Stand p l e R s m args below meth c T locs cells slots) (hx : p.tables.exec = Jvm.exec) {o : Int} {pn : Nat} (hby : c.code = bytes) {u v : Int64} (hd : decode bytes pc = .ok (.ifCond .lt o, 3)) (ho : 0 ≤ (pc : Int) + o) (hp : ((pc : Int) + o).toNat = pc') (hn : pc + 3 = pn)
    (HY : u < v → GoE p e below Fi (T.setTop (mkF m pc' Ls rest))) (HN : ¬ (u < v) → GoE p e below Fi (T.setTop (mkF m pn Ls rest))) : GoE p e below Fi (T.setTop (mkF m pc Ls (.int (cmpL u v) :: rest))) :=
  g_if_lt X hx hby hd ho hp hn (fun h => HY ((cl_lt u v).mp h)) (fun h => HN (fun z => h ((cl_lt u v).mpr z)))
theorem g_icmp_ge (X : Stand p l e R s m args below meth c T locs cells slots) (hx : p.tables.exec = Jvm.exec) {o : Int} {pn : Nat} (hby : c.code = bytes) {x y : Int32} (hd : decode bytes pc = .ok (.if_icmp .ge o, 3)) (ho : 0 ≤ (pc : Int) + o) (hp : ((pc : Int) + o).toNat = pc') (hn : pc + 3 = pn)
    (HY : ¬ (x < y) → GoE p e below Fi (T.setTop (mkF m pc' Ls rest))) (HN : x < y → GoE p e below Fi (T.setTop (mkF m pn Ls rest))) : GoE p e below Fi (T.setTop (mkF m pc Ls (.int y :: .int x :: rest))) := by
  subst hn
  by_cases q : ¬ (x < y)
  · exact (HY q).pull fun t k => Jvm.Free.XS.icmpYes X.here hx rfl rfl (hb hby hd) rfl (flt q).2.1 ho hp k
  · have q' : x < y := by first | exact q | exact Decidable.not_not.mp q
    exact (HN q').pull fun t k => Jvm.Free.XS.icmpNo X.here hx rfl (hb hby hd) rfl (tlt q').2.1 k
theorem g_if_ge (X : Stand p l e R s m args below meth c T locs cells slots) (hx : p.tables.exec = Jvm.exec) {o : Int} {pn : Nat} (hby : c.code = bytes) {x : Int32} (hd : decode bytes pc = .ok (.ifCond .ge o, 3)) (ho : 0 ≤ (pc : Int) + o) (hp : ((pc : Int) + o).toNat = pc') (hn : pc + 3 = pn)
    (HY : ¬ (x < 0) → GoE p e below Fi (T.setTop (mkF m pc' Ls rest))) (HN : x < 0 → GoE p e below Fi (T.setTop (mkF m pn Ls rest))) : GoE p e below Fi (T.setTop (mkF m pc Ls (.int x :: rest))) := by
  subst hn
  by_cases q : ¬ (x < 0)
  · exact (HY q).pull fun t k => Jvm.Free.XS.ifYes X.here hx rfl rfl (hb hby hd) rfl ((if0 _ _).trans (flt q).2.1) ho hp k
  · have q' : x < 0 := by first | exact q | exact Decidable.not_not.mp q
    exact (HN q').pull fun t k => Jvm.Free.XS.ifNo X.here hx rfl (hb hby hd) rfl ((if0 _ _).trans (tlt q').2.1) k
theorem g_ifL_ge (X : Stand p l e R s m args below meth c T locs cells slots) (hx : p.tables.exec = Jvm.exec) {o : Int} {pn : Nat} (hby : c.code = bytes) {u v : Int64} (hd : decode bytes pc = .ok (.ifCond .ge o, 3)) (ho : 0 ≤ (pc : Int) + o) (hp : ((pc : Int) + o).toNat = pc') (hn : pc + 3 = pn)
    (HY : ¬ (u < v) → GoE p e below Fi (T.setTop (mkF m pc' Ls rest))) (HN : u < v → GoE p e below Fi (T.setTop (mkF m pn Ls rest))) : GoE p e below Fi (T.setTop (mkF m pc Ls (.int (cmpL u v) :: rest))) :=
  g_if_ge X hx hby hd ho hp hn (fun h => HY (fun z => h ((cl_lt u v).mpr z))) (fun h => HN ((cl_lt u v).mp h))
theorem g_icmp_gt (X : Stand p l e R s m args below meth c T locs cells slots) (hx : p.tables.exec = Jvm.exec) {o : Int} {pn : Nat} (hby : c.code = bytes) {x y : Int32} (hd : decode bytes pc = .ok (.if_icmp .gt o, 3)) (ho : 0 ≤ (pc : Int) + o) (hp : ((pc : Int) + o).toNat = pc') (hn : pc + 3 = pn)
    (HY : y < x → GoE p e below Fi (T.setTop (mkF m pc' Ls rest))) (HN : ¬ (y < x) → GoE p e below Fi (T.setTop (mkF m pn Ls rest))) : GoE p e below Fi (T.setTop (mkF m pc Ls (.int y :: .int x :: rest))) := by
  subst hn
  by_cases q : y < x
  · exact (HY q).pull fun t k => Jvm.Free.XS.icmpYes X.here hx rfl rfl (hb hby hd) rfl (tlt q).2.2.1 ho hp k
  · have q' : ¬ (y < x) := by first | exact q | exact Decidable.not_not.mp q
    exact (HN q').pull fun t k => Jvm.Free.XS.icmpNo X.here hx rfl (hb hby hd) rfl (flt q').2.2.1 k
theorem g_if_gt (X : Stand p l e R s m args below meth c T locs cells slots) (hx : p.tables.exec = Jvm.exec) {o : Int} {pn : Nat} (hby : c.code = bytes) {x : Int32} (hd : decode bytes pc = .ok (.ifCond .gt o, 3)) (ho : 0 ≤ (pc : Int) + o) (hp : ((pc : Int) + o).toNat = pc') (hn : pc + 3 = pn)
    (HY : 0 < x → GoE p e below Fi (T.setTop (mkF m pc' Ls rest))) (HN : ¬ (0 < x) → GoE p e below Fi (T.setTop (mkF m pn Ls rest))) : GoE p e below Fi (T.setTop (mkF m pc Ls (.int x :: rest))) := by
  subst hn
  by_cases q : 0 < x
  · exact (HY q).pull fun t k => Jvm.Free.XS.ifYes X.here hx rfl rfl (hb hby hd) rfl ((if0 _ _).trans (tlt q).2.2.1) ho hp k
  · have q' : ¬ (0 < x) := by first | exact q | exact Decidable.not_not.mp q
    exact (HN q').pull fun t k => Jvm.Free.XS.ifNo X.here hx rfl (hb hby hd) rfl ((if0 _ _).trans (flt q').2.2.1) k
theorem g_ifL_gt (X : Stand p l e R s m args below meth c T locs cells slots) (hx : p.tables.exec = Jvm.exec) {o : Int} {pn : Nat} (hby : c.code = bytes) {u v : Int64} (hd : decode bytes pc = .ok (.ifCond .gt o, 3)) (ho : 0 ≤ (pc : Int) + o) (hp : ((pc : Int) + o).toNat = pc') (hn : pc + 3 = pn)
    (HY : v < u → GoE p e below Fi (T.setTop (mkF m pc' Ls rest))) (HN : ¬ (v < u) → GoE p e below Fi (T.setTop (mkF m pn Ls rest))) : GoE p e below Fi (T.setTop (mkF m pc Ls (.int (cmpL u v) :: rest))) :=
  g_if_gt X hx hby hd ho hp hn (fun h => HY ((cl_gt u v).mp h)) (fun h => HN (fun z => h ((cl_gt u v).mpr z)))
theorem g_icmp_le (X : Stand p l e R s m args below meth c T locs cells slots) (hx : p.tables.exec = Jvm.exec) {o : Int} {pn : Nat} (hby : c.code = bytes) {x y : Int32} (hd : decode bytes pc = .ok (.if_icmp .le o, 3)) (ho : 0 ≤ (pc : Int) + o) (hp : ((pc : Int) + o).toNat = pc') (hn : pc + 3 = pn)
    (HY : ¬ (y < x) → GoE p e below Fi (T.setTop (mkF m pc' Ls rest))) (HN : y < x → GoE p e below Fi (T.setTop (mkF m pn Ls rest))) : GoE p e below Fi (T.setTop (mkF m pc Ls (.int y :: .int x :: rest))) := by
  subst hn
  by_cases q : ¬ (y < x)
  · exact (HY q).pull fun t k => Jvm.Free.XS.icmpYes X.here hx rfl rfl (hb hby hd) rfl (flt q).2.2.2 ho hp k
  · have q' : y < x := by first | exact q | exact Decidable.not_not.mp q
    exact (HN q').pull fun t k => Jvm.Free.XS.icmpNo X.here hx rfl (hb hby hd) rfl (tlt q').2.2.2 k
theorem g_if_le (X : Stand p l e R s m args below meth c T locs cells slots) (hx : p.tables.exec = Jvm.exec) {o : Int} {pn : Nat} (hby : c.code = bytes) {x : Int32} (hd : decode bytes pc = .ok (.ifCond .le o, 3)) (ho : 0 ≤ (pc : Int) + o) (hp : ((pc : Int) + o).toNat = pc') (hn : pc + 3 = pn)
    (HY : ¬ (0 < x) → GoE p e below Fi (T.setTop (mkF m pc' Ls rest))) (HN : 0 < x → GoE p e below Fi (T.setTop (mkF m pn Ls rest))) : GoE p e below Fi (T.setTop (mkF m pc Ls (.int x :: rest))) := by
  subst hn
  by_cases q : ¬ (0 < x)
  · exact (HY q).pull fun t k => Jvm.Free.XS.ifYes X.here hx rfl rfl (hb hby hd) rfl ((if0 _ _).trans (flt q).2.2.2) ho hp k
  · have q' : 0 < x := by first | exact q | exact Decidable.not_not.mp q
    exact (HN q').pull fun t k => Jvm.Free.XS.ifNo X.here hx rfl (hb hby hd) rfl ((if0 _ _).trans (tlt q').2.2.2) k
theorem g_ifL_le (X : Stand p l e R s m args below meth c T locs cells slots) (hx : p.tables.exec = Jvm.exec) {o : Int} {pn : Nat} (hby : c.code = bytes) {u v : Int64} (hd : decode bytes pc = .ok (.ifCond .le o, 3)) (ho : 0 ≤ (pc : Int) + o) (hp : ((pc : Int) + o).toNat = pc') (hn : pc + 3 = pn)
    (HY : ¬ (v < u) → GoE p e below Fi (T.setTop (mkF m pc' Ls rest))) (HN : v < u → GoE p e below Fi (T.setTop (mkF m pn Ls rest))) : GoE p e below Fi (T.setTop (mkF m pc Ls (.int (cmpL u v) :: rest))) :=
  g_if_le X hx hby hd ho hp hn (fun h => HY (fun z => h ((cl_gt u v).mpr z))) (fun h => HN ((cl_gt u v).mp h))
theorem g_ifnull_no (X : Stand p l e R s m args below meth c T locs cells slots) (hx : p.tables.exec = Jvm.exec) {o : Int} {pn : Nat} (hby : c.code = bytes) {b : Addr} (hd : decode bytes pc = .ok (.ifnull o, 3)) (hn : pc + 3 = pn)
    (H : GoE p e below Fi (T.setTop (mkF m pn Ls rest))) : GoE p e below Fi (T.setTop (mkF m pc Ls (.ref b :: rest))) := by
  subst hn; exact H.pull fun t k => Jvm.Free.XS.ifnullNo X.here hx rfl (hb hby hd) rfl k
theorem g_ifnull_yes (X : Stand p l e R s m args below meth c T locs cells slots) (hx : p.tables.exec = Jvm.exec) {o : Int} (hby : c.code = bytes) (hd : decode bytes pc = .ok (.ifnull o, 3)) (ho : 0 ≤ (pc : Int) + o) (hp : ((pc : Int) + o).toNat = pc')
    (H : GoE p e below Fi (T.setTop (mkF m pc' Ls rest))) : GoE p e below Fi (T.setTop (mkF m pc Ls (.null :: rest))) :=
  H.pull fun t k => Jvm.Free.XS.ifnullYes X.here hx rfl rfl (hb hby hd) rfl ho hp k
theorem g_ifnonnull_yes (X : Stand p l e R s m args below meth c T locs cells slots) (hx : p.tables.exec = Jvm.exec) {o : Int} (hby : c.code = bytes) {b : Addr} (hd : decode bytes pc = .ok (.ifnonnull o, 3)) (ho : 0 ≤ (pc : Int) + o) (hp : ((pc : Int) + o).toNat = pc')
    (H : GoE p e below Fi (T.setTop (mkF m pc' Ls rest))) : GoE p e below Fi (T.setTop (mkF m pc Ls (.ref b :: rest))) :=
  H.pull fun t k => Jvm.Free.XT.ifnonnullYes X.here hx rfl rfl (hb hby hd) rfl ho hp k
theorem g_ifnonnull_no (X : Stand p l e R s m args below meth c T locs cells slots) (hx : p.tables.exec = Jvm.exec) {o : Int} {pn : Nat} (hby : c.code = bytes) (hd : decode bytes pc = .ok (.ifnonnull o, 3)) (hn : pc + 3 = pn)
    (H : GoE p e below Fi (T.setTop (mkF m pn Ls rest))) : GoE p e below Fi (T.setTop (mkF m pc Ls (.null :: rest))) := by
  subst hn; exact H.pull fun t k => Jvm.Free.XT.ifnonnullNo X.here hx rfl (hb hby hd) rfl k
theorem g_acmp_yes (X : Stand p l e R s m args below meth c T locs cells slots) (hx : p.tables.exec = Jvm.exec) {o : Int} (hby : c.code = bytes) {cd : ClassFile.ACond} {x y : Value} (hd : decode bytes pc = .ok (.if_acmp cd o, 3)) (ho : 0 ≤ (pc : Int) + o) (hp : ((pc : Int) + o).toNat = pc') (h1 : x.isRef = true) (h2 : y.isRef = true) (hc : Jvm.Free.XT.acmp cd x y = true)
    (H : GoE p e below Fi (T.setTop (mkF m pc' Ls rest))) : GoE p e below Fi (T.setTop (mkF m pc Ls (y :: x :: rest))) :=
  H.pull fun t k => Jvm.Free.XT.acmpYes X.here hx rfl rfl (hb hby hd) rfl h1 h2 hc ho hp k
theorem g_acmp_no (X : Stand p l e R s m args below meth c T locs cells slots) (hx : p.tables.exec = Jvm.exec) {o : Int} {pn : Nat} (hby : c.code = bytes) {cd : ClassFile.ACond} {x y : Value} (hd : decode bytes pc = .ok (.if_acmp cd o, 3)) (hn : pc + 3 = pn) (h1 : x.isRef = true) (h2 : y.isRef = true) (hc : Jvm.Free.XT.acmp cd x y = false)
    (H : GoE p e below Fi (T.setTop (mkF m pn Ls rest))) : GoE p e below Fi (T.setTop (mkF m pc Ls (y :: x :: rest))) := by
  subst hn; exact H.pull fun t k => Jvm.Free.XT.acmpNo X.here hx rfl (hb hby hd) rfl h1 h2 hc k
theorem g_retI (X : Stand p l e R s m args below meth c T locs cells slots) (hx : p.tables.exec = Jvm.exec) {z : Int32} (hby : c.code = bytes) (hd : decode bytes pc = .ok (.ireturn, 1)) (hret : meth.sig.returnType = some .int) (hlk : meth.locks = false) (hc : cells ≤ rc) (hs : slots ≤ rs) (hQ : Q (some (.int z)) T.heap locs) : Go p e below s rc rs Q (T.setTop (mkF m pc Ls (.int z :: rest))) := by
  obtain ⟨fs, hr, hrun, hended, hW, hsame⟩ := X.leave (v := some (.int z)) (fun h => by first | rfl | (rw [hret] at h; cases h)) hlk
  exact ⟨_, _, retI X hx hret (hb hby hd) hr, hrun, hended, _, _, rfl, hQ, ⟨_, rfl⟩, hW, hsame.mono hc hs⟩
theorem g_retN (X : Stand p l e R s m args below meth c T locs cells slots) (hx : p.tables.exec = Jvm.exec) {z w : Int32} {t : FieldType} (hby : c.code = bytes) (hd : decode bytes pc = .ok (.ireturn, 1)) (hret : meth.sig.returnType = some t) (ht : t = .boolean ∨ t = .byte ∨ t = .char ∨ t = .short) (hnar : nar t z = w) (hlk : meth.locks = false) (hc : cells ≤ rc) (hs : slots ≤ rs) (hQ : Q (some (.int w)) T.heap locs) : Go p e below s rc rs Q (T.setTop (mkF m pc Ls (.int z :: rest))) := by
  subst hnar
  obtain ⟨fs, hr, hrun, hended, hW, hsame⟩ := X.leave (v := some (.int (nar t z))) (fun h => by rw [hret] at h; cases h) hlk
  exact ⟨_, _, retN X hx hret ht (hb hby hd) hr, hrun, hended, _, _, rfl, hQ, ⟨_, rfl⟩, hW, hsame.mono hc hs⟩
theorem g_retL (X : Stand p l e R s m args below meth c T locs cells slots) (hx : p.tables.exec = Jvm.exec) {z : Int64} (hby : c.code = bytes) (hd : decode bytes pc = .ok (.lreturn, 1)) (hret : meth.sig.returnType = some .long) (hlk : meth.locks = false) (hc : cells ≤ rc) (hs : slots ≤ rs) (hQ : Q (some (.long z)) T.heap locs) : Go p e below s rc rs Q (T.setTop (mkF m pc Ls [.long z])) := by
  obtain ⟨fs, hr, hrun, hended, hW, hsame⟩ := X.leave (v := some (.long z)) (fun h => by first | rfl | (rw [hret] at h; cases h)) hlk
  exact ⟨_, _, X.lreturnOut hx hret (hb hby hd) hr, hrun, hended, _, _, rfl, hQ, ⟨_, rfl⟩, hW, hsame.mono hc hs⟩
theorem g_retA (X : Stand p l e R s m args below meth c T locs cells slots) (hx : p.tables.exec = Jvm.exec) {z : Value} {t : FieldType} (hby : c.code = bytes) (hd : decode bytes pc = .ok (.areturn, 1)) (hz : z.isRef = true) (hret : meth.sig.returnType = some t) (ht : t.isReference = true) (hlk : meth.locks = false) (hc : cells ≤ rc) (hs : slots ≤ rs) (hQ : Q (some z) T.heap locs) : Go p e below s rc rs Q (T.setTop (mkF m pc Ls [z])) := by
  obtain ⟨fs, hr, hrun, hended, hW, hsame⟩ := X.leave (v := some z) (fun h => by first | rfl | (rw [hret] at h; cases h)) hlk
  exact ⟨_, _, X.areturnOut hx hz hret ht (hb hby hd) hr, hrun, hended, _, _, rfl, hQ, ⟨_, rfl⟩, hW, hsame.mono hc hs⟩
theorem g_retV (X : Stand p l e R s m args below meth c T locs cells slots) (hx : p.tables.exec = Jvm.exec)  (hby : c.code = bytes) (hd : decode bytes pc = .ok (.return_, 1)) (hret : meth.sig.returnType = none) (hlk : meth.locks = false) (hc : cells ≤ rc) (hs : slots ≤ rs) (hQ : Q (none) T.heap locs) : Go p e below s rc rs Q (T.setTop (mkF m pc Ls [])) := by
  obtain ⟨fs, hr, hrun, hended, hW, hsame⟩ := X.leave (v := none) (fun h => by first | rfl | (rw [hret] at h; cases h)) hlk
  exact ⟨_, _, X.returnOut hx hret (hb hby hd) hr, hrun, hended, _, _, rfl, hQ, ⟨_, rfl⟩, hW, hsame.mono hc hs⟩
theorem g_callS (X : Stand p l e R s m args below meth c T locs cells slots) (hx : p.tables.exec = Jvm.exec) {Z : State} {a0 : Array Value} (hZ : Z.Warmed39 s.vm) {own : String} (hown : s.vm.findClass own = some m.cls) {y : MethodName} {cb : ByteArray} {maxL : Nat} {ret : Option FieldType} {rm : Room} {as' : Array Value} {h : Heap} {Q' : Option Value → Heap → List Loc → Prop} {W : Nat} {index : Nat} {argsL : List Value} (hby : c.code = bytes) (hd : decode bytes pc = .ok (.invokestatic index, 3)) (hp : pc + 3 = pc') (hml : Ls.size = c.maxLocals)
    (w1 : (Jvm.Cond.methodLink own index y).before a0 Z = true) (w2 : (Jvm.Cond.static y).before a0 Z = true) (w3 : (Jvm.Cond.initialized y.cls).before a0 Z = true) (w4 : (Jvm.Cond.code y cb maxL ret).before a0 Z = true) (hy : y.cls ≠ "java/lang/invoke/MethodHandle" ∧ y.cls ≠ "java/lang/invoke/VarHandle")
    (C : Ctr l Z y cb maxL ret [] rm as' h Q') (eT : T.heap = h) (hfr : rm.frames + 1 ≤ R.frames) (hlo : W + (maxL + 11) + rm.locals ≤ R.locals) (hce : cells + rm.cells ≤ R.cells) (hsl : slots + rm.slots ≤ R.slots) {stk : List Value} {psig : MethodDescriptor} (has : argsL.toArray = as') (hpd : parseMethodDescriptor y.desc = some psig) (hlen : argsL.length = psig.parameters.length) (hst : stk = argsL.reverse ++ rest) (hW : 2 * 0 + (rest.map fun v => v.category).sum ≤ W)
    (K : ∀ (v : Option Value) (T' : State) (L : List Loc), Stand p l e R s m args below meth c T' (locs ++ L) (cells + rm.cells) (slots + rm.slots) → Q' v T'.heap L → GoE p e below Fi (T'.setTop (mkF m pc' Ls (v.toList ++ rest)))) : GoE p e below Fi (T.setTop (mkF m pc Ls stk)) := by
  subst hp hst has
  obtain ⟨v, _, ⟨T4, L4, k4, n4⟩, -, X4, ⟨Lc, hQ, l4, y4, z4⟩, st⟩ := Jvm.LawKit.callS X hx (y := y) hown (mvT hZ w1) (mvT hZ w2) (mvT hZ w3) (mvT hZ w4) hy (backOf (W := W) C hZ w4 w3 hfr hlo) (g := mkF m pc Ls (argsL.reverse ++ rest)) rfl hml (argsL := argsL) (rest := rest) (fun sig h => by rw [hpd] at h; cases h; exact hlen) rfl hW (hb hby hd) (fun _ _ => ⟨rfl, eT, hce, hsl⟩)
  dsimp only [Pt.U, Pt.locs, Pt.cells, Pt.slots] at X4 l4 y4 z4 st hQ
  subst l4 y4 z4
  exact (K v T4 Lc X4 hQ).pull st
theorem g_callI (X : Stand p l e R s m args below meth c T locs cells slots) (hx : p.tables.exec = Jvm.exec) {Z : State} {a0 : Array Value} (hZ : Z.Warmed39 s.vm) {own : String} (hown : s.vm.findClass own = some m.cls) {y : MethodName} {cb : ByteArray} {maxL : Nat} {rm : Room} {as' : Array Value} {h : Heap} {Q' : Option Value → Heap → List Loc → Prop} {W : Nat} {index : Nat} {argsL : List Value} {b : Addr} (hby : c.code = bytes) (hd : decode bytes pc = .ok (.invokespecial index, 3)) (hp : pc + 3 = pc') (hml : Ls.size = c.maxLocals)
    (w1 : (Jvm.Cond.methodLink own index y).before a0 Z = true) (w2 : (Jvm.Cond.instanceMethod y).before a0 Z = true) (w3 : (Jvm.Cond.initialized y.cls).before a0 Z = true) (w4 : (Jvm.Cond.code y cb maxL none).before a0 Z = true) (hin : y.name = "<init>") (hy : y.cls ≠ "java/lang/invoke/MethodHandle" ∧ y.cls ≠ "java/lang/invoke/VarHandle")
    (C : Ctr l Z y cb maxL none [] rm as' h Q') (eT : T.heap = h) (hfr : rm.frames + 1 ≤ R.frames) (hlo : W + (maxL + 11) + rm.locals ≤ R.locals) (hce : cells + rm.cells ≤ R.cells) (hsl : slots + rm.slots ≤ R.slots) {stk : List Value} {psig : MethodDescriptor} (has : (Value.ref b :: argsL).toArray = as') (hpd : parseMethodDescriptor y.desc = some psig) (hlen : argsL.length = psig.parameters.length) (hst : stk = argsL.reverse ++ Value.ref b :: rest) (hW : 2 * 0 + (rest.map fun v => v.category).sum ≤ W)
    (K : ∀ (v : Option Value) (T' : State) (L : List Loc), Stand p l e R s m args below meth c T' (locs ++ L) (cells + rm.cells) (slots + rm.slots) → Q' v T'.heap L → GoE p e below Fi (T'.setTop (mkF m pc' Ls (v.toList ++ rest)))) : GoE p e below Fi (T.setTop (mkF m pc Ls stk)) := by
  subst hp hst has
  obtain ⟨v, _, ⟨T4, L4, k4, n4⟩, -, X4, ⟨Lc, hQ, l4, y4, z4⟩, st⟩ := X.specialBack hx (y := y) hin hown (mvT hZ w1) (mvT hZ w2) (mvT hZ w4) hy (backOf (W := W) C hZ w4 w3 hfr hlo) (g := mkF m pc Ls (argsL.reverse ++ Value.ref b :: rest)) rfl hml (Steps.refl _) (a := b) (argsL := argsL) (rest := rest) (fun sig h => by rw [hpd] at h; cases h; exact hlen) rfl hW (hb hby hd) (fun _ _ => ⟨rfl, eT, hce, hsl⟩)
  dsimp only [Pt.U, Pt.locs, Pt.cells, Pt.slots] at X4 l4 y4 z4 st hQ
  subst l4 y4 z4
  exact (K v T4 Lc X4 hQ).pull fun t k => st.trans k
theorem g_callV (X : Stand p l e R s m args below meth c T locs cells slots) (hx : p.tables.exec = Jvm.exec) {Z : State} {a0 : Array Value} (hZ : Z.Warmed39 s.vm) {own : String} (hown : s.vm.findClass own = some m.cls) {y : MethodName} {cb : ByteArray} {maxL : Nat} {ret : Option FieldType} {rm : Room} {as' : Array Value} {h : Heap} {Q' : Option Value → Heap → List Loc → Prop} {W : Nat} {index : Nat} {argsL : List Value} {b : Addr} {z : MethodName} {C0 : String} (hby : c.code = bytes) (hd : decode bytes pc = .ok (.invokevirtual index, 3)) (hp : pc + 3 = pc') (hml : Ls.size = c.maxLocals)
    (w1 : (Jvm.Cond.methodLink own index y).before a0 Z = true) (w2 : (Jvm.Cond.declares y).before a0 Z = true) (w5 : (Jvm.Cond.selects C0 y z).before a0 Z = true) (nf : NotFace s y) (w6 : (Jvm.Cond.instanceMethod z).before a0 Z = true) (w3 : (Jvm.Cond.initialized z.cls).before a0 Z = true) (w4 : (Jvm.Cond.code z cb maxL ret).before a0 Z = true) (hy : y.cls ≠ "java/lang/invoke/MethodHandle" ∧ y.cls ≠ "java/lang/invoke/VarHandle")
    (C : Ctr l Z z cb maxL ret [] rm as' h Q') (eT : T.heap = h) (E : Exa Z h b C0) (hfr : rm.frames + 1 ≤ R.frames) (hlo : W + (maxL + 11) + rm.locals ≤ R.locals) (hce : cells + rm.cells ≤ R.cells) (hsl : slots + rm.slots ≤ R.slots) {stk : List Value} {psig : MethodDescriptor} (has : (Value.ref b :: argsL).toArray = as') (hpd : parseMethodDescriptor y.desc = some psig) (hlen : argsL.length = psig.parameters.length) (hst : stk = argsL.reverse ++ Value.ref b :: rest) (hW : 2 * 0 + (rest.map fun v => v.category).sum ≤ W)
    (K : ∀ (v : Option Value) (T' : State) (L : List Loc), Stand p l e R s m args below meth c T' (locs ++ L) (cells + rm.cells) (slots + rm.slots) → Q' v T'.heap L → GoE p e below Fi (T'.setTop (mkF m pc' Ls (v.toList ++ rest)))) : GoE p e below Fi (T.setTop (mkF m pc Ls stk)) := by
  subst hp hst has
  obtain ⟨cq, kq, qa, qb, qc⟩ := isOf hZ eT E
  obtain ⟨v, _, ⟨T4, L4, k4, n4⟩, -, X4, ⟨Lc, hQ, l4, y4, z4⟩, st⟩ := X.virtualBack hx (y := y) (z := z) hown (mvT hZ w1) (mvT hZ w2) nf (mvT hZ w5) (mvT hZ w6) hy (backOf (W := W) C hZ w4 w3 hfr hlo) qa qc (g := mkF m pc Ls (argsL.reverse ++ Value.ref b :: rest)) rfl hml (Steps.refl _) (argsL := argsL) (rest := rest) (fun sig h => by rw [hpd] at h; cases h; exact hlen) rfl hW (hb hby hd) (fun _ _ => ⟨rfl, eT, hce, hsl⟩)
  dsimp only [Pt.U, Pt.locs, Pt.cells, Pt.slots] at X4 l4 y4 z4 st hQ
  subst l4 y4 z4
  exact (K v T4 Lc X4 hQ).pull fun t k => st.trans k
theorem g_new (X : Stand p l e R s m args below meth c T locs cells slots) (hx : p.tables.exec = Jvm.exec) {Z : State} {a0 : Array Value} (hZ : Z.Warmed39 s.vm) {own : String} (hown : s.vm.findClass own = some m.cls) {C : String} {index n : Nat} {h : Heap} (hby : c.code = bytes) (hd : decode bytes pc = .ok (.new index, 3)) (hp : pc + 3 = pc') (w1 : (Jvm.Cond.classLink own index C).before a0 Z = true) (w2 : (Jvm.Cond.instantiable C n).before a0 Z = true) (w3 : (Jvm.Cond.initialized C).before a0 Z = true) (eT : T.heap = h) (hce : cells + 1 ≤ R.cells) (hsl : slots + n ≤ R.slots)
    (K : ∀ (T' : State) (b : Addr), b = h.size → Stand p l e R s m args below meth c T' locs (cells + 1) (slots + n) → Ext h T'.heap → Exa Z T'.heap b C → (∀ {O nm d : String} {ty : FieldType}, Laid Z a0 C O nm d → parseFieldDescriptor d = some ty → Fld Z T'.heap b O nm d (defaultValue ty)) → GoE p e below Fi (T'.setTop (mkF m pc' Ls (.ref b :: rest)))) : GoE p e below Fi (T.setTop (mkF m pc Ls rest)) := by
  subst hp
  obtain ⟨T2, h2, X2, e2, E2, A2, D2, -, st2⟩ := newO X hx hZ hown w1 w2 w3 eT (g := mkF m pc Ls rest) rfl (hb hby hd) hce hsl
  subst e2
  exact (K T2 _ rfl X2 E2 A2 D2).pull st2
theorem g_initO (X : Stand p l e R s m args below meth c T locs cells slots) (hx : p.tables.exec = Jvm.exec) {Z : State} {a0 : Array Value} (hZ : Z.Warmed39 s.vm) {own : String} (hown : s.vm.findClass own = some m.cls) {index : Nat} {h : Heap} {cb : ByteArray} {b : Addr} {W maxL : Nat} (hby : c.code = bytes) (hd : decode bytes pc = .ok (.invokespecial index, 3)) (hp : pc + 3 = pc') (hml : Ls.size = c.maxLocals)
    (F : ∃ T', Stand p l e R s m args below meth c T' locs cells slots ∧ T'.heap = h ∧ ∀ target, Steps p.tables e below (T'.setTop (mkF m (pc + 3) Ls rest)) target → Steps p.tables e below (T.setTop (mkF m pc Ls (.ref b :: rest))) target)
    (K : ∀ T' : State, Stand p l e R s m args below meth c T' locs cells slots → T'.heap = h → GoE p e below Fi (T'.setTop (mkF m pc' Ls rest))) : GoE p e below Fi (T.setTop (mkF m pc Ls (.ref b :: rest))) := by
  subst hp
  obtain ⟨T2, X2, e2, st2⟩ := F
  exact (K T2 X2 e2).pull st2
theorem g_get (X : Stand p l e R s m args below meth c T locs cells slots) (hx : p.tables.exec = Jvm.exec) {Z : State} {a0 : Array Value} (hZ : Z.Warmed39 s.vm) {own : String} (hown : s.vm.findClass own = some m.cls) {O n d : String} {index : Nat} {h : Heap} {a : Addr} {v : Value} (hby : c.code = bytes) (hd : decode bytes pc = .ok (.getfield index, 3)) (hp : pc + 3 = pc') (w : (Jvm.Cond.fieldLink own index O n d).before a0 Z = true) (eT : T.heap = h) (F : Fld Z h a O n d v)
    (K : ∀ T' : State, Stand p l e R s m args below meth c T' locs cells slots → T'.heap = h → GoE p e below Fi (T'.setTop (mkF m pc' Ls (v :: rest)))) : GoE p e below Fi (T.setTop (mkF m pc Ls (.ref a :: rest))) := by
  subst hp
  obtain ⟨T2, X2, e2, st2⟩ := getF X hx hZ hown (host := "") (Or.inl w) Via.refl eT F (g := mkF m pc Ls (.ref a :: rest)) rfl rfl (hb hby hd)
  exact (K T2 X2 e2).pull st2
theorem g_put (X : Stand p l e R s m args below meth c T locs cells slots) (hx : p.tables.exec = Jvm.exec) {Z : State} {a0 : Array Value} (hZ : Z.Warmed39 s.vm) {own : String} (hown : s.vm.findClass own = some m.cls) {O n d C : String} {index kk : Nat} {ty : FieldType} {h : Heap} {a : Addr} {v old : Value} (hby : c.code = bytes) (hd : decode bytes pc = .ok (.putfield index, 3)) (hp : pc + 3 = pc') (w : (Jvm.Cond.fieldLink own index O n d).before a0 Z = true) (eT : T.heap = h) (F : Fld Z h a O n d old) (E : Exa Z h a C) (Lf : (Jvm.Cond.lays C O n d).before a0 Z = true ∨ ((Jvm.Cond.laysFinal C O n d).before a0 Z = true ∧ own = O ∧ meth.name = "<init>")) (wi : (Jvm.Cond.instantiable C kk).before a0 Z = true) (hty : parseFieldDescriptor d = some ty) (hn : narrow ty v = v) (hf : fits ty v = true)
    (K : ∀ T' : State, Stand p l e R s m args below meth c T' (locs ++ [⟨a, RoadKit.slotOf Z O n d⟩]) cells slots → Wr h T'.heap a (RoadKit.slotOf Z O n d) v → GoE p e below Fi (T'.setTop (mkF m pc' Ls rest))) : GoE p e below Fi (T.setTop (mkF m pc Ls (v :: .ref a :: rest))) := by
  subst hp
  obtain ⟨T2, h2, X2, e2, W2, st2⟩ := putF X hx hZ hown (host := "") (Or.inl w) Via.refl eT F E Lf wi hty hn hf (g := mkF m pc Ls (v :: .ref a :: rest)) rfl rfl (hb hby hd)
  subst e2
  exact (K T2 X2 W2).pull st2
theorem g_getS (X : Stand p l e R s m args below meth c T locs cells slots) (hx : p.tables.exec = Jvm.exec) {Z : State} {a0 : Array Value} (hZ : Z.Warmed39 s.vm) {own : String} (hown : s.vm.findClass own = some m.cls) {O n d : String} {index : Nat} {h : Heap} {v : Value} (hby : c.code = bytes) (hd : decode bytes pc = .ok (.getstatic index, 3)) (hp : pc + 3 = pc') (w : (Jvm.Cond.fieldLink own index O n d).before a0 Z = true) (eT : T.heap = h) (F : Sta Z h O n d v)
    (K : ∀ T' : State, Stand p l e R s m args below meth c T' locs cells slots → T'.heap = h → GoE p e below Fi (T'.setTop (mkF m pc' Ls (v :: rest)))) : GoE p e below Fi (T.setTop (mkF m pc Ls rest)) := by
  subst hp
  obtain ⟨T2, X2, e2, st2⟩ := getS X hx hZ hown (host := "") w Via.refl eT F (g := mkF m pc Ls rest) rfl (hb hby hd)
  exact (K T2 X2 e2).pull st2
theorem g_iaload (X : Stand p l e R s m args below meth c T locs cells slots) (hx : p.tables.exec = Jvm.exec) {Z : State} (hZ : Z.Warmed39 s.vm) {h : Heap} {a : Addr} {k : ClassId} {n : Int32} {vs : List Value} {dv : Value} {j : Int32} {v : Value} (hby : c.code = bytes) (hd : decode bytes pc = .ok (.iaload, 1)) (hp : pc + 1 = pc') (eT : T.heap = h) (F : Arv Z h a k .int n vs dv) (hj : ¬ j < 0 ∧ j < n) (u : vs.getD j.toNatClampNeg dv = v)
    (H : GoE p e below Fi (T.setTop (mkF m pc' Ls (v :: rest)))) : GoE p e below Fi (T.setTop (mkF m pc Ls (.int j :: .ref a :: rest))) := by
  subst hp
  obtain ⟨cl, A, q1, S, q3, Hh, G⟩ := F
  exact H.pull fun t k => X.iaload hx (by rw [eT]; exact A.1) (State.isArrayOf_alike hZ.alike A.2.1) A.2.2 (inb_of S hj) (Hh.at (inb_of S hj) u) (g := mkF m pc Ls (.int j :: .ref a :: rest)) rfl rfl (hb hby hd) _ k
theorem g_laload (X : Stand p l e R s m args below meth c T locs cells slots) (hx : p.tables.exec = Jvm.exec) {Z : State} (hZ : Z.Warmed39 s.vm) {h : Heap} {a : Addr} {k : ClassId} {n : Int32} {vs : List Value} {dv : Value} {j : Int32} {v : Value} (hby : c.code = bytes) (hd : decode bytes pc = .ok (.laload, 1)) (hp : pc + 1 = pc') (eT : T.heap = h) (F : Arv Z h a k .long n vs dv) (hj : ¬ j < 0 ∧ j < n) (u : vs.getD j.toNatClampNeg dv = v)
    (H : GoE p e below Fi (T.setTop (mkF m pc' Ls (v :: rest)))) : GoE p e below Fi (T.setTop (mkF m pc Ls (.int j :: .ref a :: rest))) := by
  subst hp
  obtain ⟨cl, A, q1, S, q3, Hh, G⟩ := F
  exact H.pull fun t k => X.laload hx (by rw [eT]; exact A.1) (State.isArrayOf_alike hZ.alike A.2.1) A.2.2 (inb_of S hj) (Hh.at (inb_of S hj) u) (g := mkF m pc Ls (.int j :: .ref a :: rest)) rfl rfl (hb hby hd) _ k
theorem g_caload (X : Stand p l e R s m args below meth c T locs cells slots) (hx : p.tables.exec = Jvm.exec) {Z : State} (hZ : Z.Warmed39 s.vm) {h : Heap} {a : Addr} {k : ClassId} {n : Int32} {vs : List Value} {dv : Value} {j : Int32} {v : Value} (hby : c.code = bytes) (hd : decode bytes pc = .ok (.caload, 1)) (hp : pc + 1 = pc') (eT : T.heap = h) (F : Arv Z h a k .char n vs dv) (hj : ¬ j < 0 ∧ j < n) (u : vs.getD j.toNatClampNeg dv = v)
    (H : GoE p e below Fi (T.setTop (mkF m pc' Ls (v :: rest)))) : GoE p e below Fi (T.setTop (mkF m pc Ls (.int j :: .ref a :: rest))) := by
  subst hp
  obtain ⟨cl, A, q1, S, q3, Hh, G⟩ := F
  exact H.pull fun t k => X.caload hx (by rw [eT]; exact A.1) (State.isArrayOf_alike hZ.alike A.2.1) A.2.2 (inb_of S hj) (Hh.at (inb_of S hj) u) (g := mkF m pc Ls (.int j :: .ref a :: rest)) rfl rfl (hb hby hd) _ k
theorem g_baload (X : Stand p l e R s m args below meth c T locs cells slots) (hx : p.tables.exec = Jvm.exec) {Z : State} (hZ : Z.Warmed39 s.vm) {h : Heap} {a : Addr} {k : ClassId} {n : Int32} {vs : List Value} {dv : Value} {j : Int32} {v : Value} (hby : c.code = bytes) (hd : decode bytes pc = .ok (.baload, 1)) (hp : pc + 1 = pc') (eT : T.heap = h) (F : Arv Z h a k .byte n vs dv) (hj : ¬ j < 0 ∧ j < n) (u : vs.getD j.toNatClampNeg dv = v)
    (H : GoE p e below Fi (T.setTop (mkF m pc' Ls (v :: rest)))) : GoE p e below Fi (T.setTop (mkF m pc Ls (.int j :: .ref a :: rest))) := by
  subst hp
  obtain ⟨cl, A, q1, S, q3, Hh, G⟩ := F
  exact H.pull fun t k => X.baloadBytes hx (by rw [eT]; exact A.1) (State.isArrayOf_alike hZ.alike A.2.1) A.2.2 (inb_of S hj) (Hh.at (inb_of S hj) u) (g := mkF m pc Ls (.int j :: .ref a :: rest)) rfl rfl (hb hby hd) _ k
theorem g_daload (X : Stand p l e R s m args below meth c T locs cells slots) (hx : p.tables.exec = Jvm.exec) {Z : State} (hZ : Z.Warmed39 s.vm) {h : Heap} {a : Addr} {k : ClassId} {n : Int32} {vs : List Value} {dv : Value} {j : Int32} {v : Value} (hby : c.code = bytes) (hd : decode bytes pc = .ok (.daload, 1)) (hp : pc + 1 = pc') (eT : T.heap = h) (F : Arv Z h a k .double n vs dv) (hj : ¬ j < 0 ∧ j < n) (u : vs.getD j.toNatClampNeg dv = v)
    (H : GoE p e below Fi (T.setTop (mkF m pc' Ls (v :: rest)))) : GoE p e below Fi (T.setTop (mkF m pc Ls (.int j :: .ref a :: rest))) := by
  subst hp
  obtain ⟨cl, A, q1, S, q3, Hh, G⟩ := F
  exact H.pull fun t k => X.daload hx (by rw [eT]; exact A.1) (State.isArrayOf_alike hZ.alike A.2.1) A.2.2 (inb_of S hj) (Hh.at (inb_of S hj) u) (g := mkF m pc Ls (.int j :: .ref a :: rest)) rfl rfl (hb hby hd) _ k
theorem g_aaload (X : Stand p l e R s m args below meth c T locs cells slots) (hx : p.tables.exec = Jvm.exec) {Z : State} (hZ : Z.Warmed39 s.vm) {h : Heap} {a : Addr} {k : ClassId} {n : Int32} {vs : List Value} {dv : Value} {ty : FieldType} {j : Int32} {v : Value} (hby : c.code = bytes) (hd : decode bytes pc = .ok (.aaload, 1)) (hp : pc + 1 = pc') (eT : T.heap = h) (F : Arv Z h a k ty n vs dv) (hty : ty.isReference = true) (hj : ¬ j < 0 ∧ j < n) (u : vs.getD j.toNatClampNeg dv = v)
    (H : GoE p e below Fi (T.setTop (mkF m pc' Ls (v :: rest)))) : GoE p e below Fi (T.setTop (mkF m pc Ls (.int j :: .ref a :: rest))) := by
  subst hp
  obtain ⟨cl, A, q1, S, q3, Hh, G⟩ := F
  exact H.pull fun t k => X.aaload hx (by rw [eT]; exact A.1) (State.isArrayOf_alike hZ.alike A.2.1) hty A.2.2 (inb_of S hj) (Hh.at (inb_of S hj) u) (g := mkF m pc Ls (.int j :: .ref a :: rest)) rfl rfl (hb hby hd) _ k
theorem g_alen (X : Stand p l e R s m args below meth c T locs cells slots) (hx : p.tables.exec = Jvm.exec) {Z : State} (hZ : Z.Warmed39 s.vm) {h : Heap} {a : Addr} {k : ClassId} {n : Int32} {vs : List Value} {dv : Value} {ty : FieldType} (hby : c.code = bytes) (hd : decode bytes pc = .ok (.arraylength, 1)) (hp : pc + 1 = pc') (eT : T.heap = h) (F : Arv Z h a k ty n vs dv)
    (H : GoE p e below Fi (T.setTop (mkF m pc' Ls (.int n :: rest)))) : GoE p e below Fi (T.setTop (mkF m pc Ls (.ref a :: rest))) := by
  subst hp
  obtain ⟨cl, A, q1, S, q3, Hh, G⟩ := F
  exact H.pull fun t k => X.arraylength hx (by rw [eT]; exact A.1) (State.isArrayOf_alike hZ.alike A.2.1) (g := mkF m pc Ls (.ref a :: rest)) rfl rfl (hb hby hd) _ (by rw [len_of S q3]; exact k)
theorem g_iastore (X : Stand p l e R s m args below meth c T locs cells slots) (hx : p.tables.exec = Jvm.exec) {Z : State} (hZ : Z.Warmed39 s.vm) {h : Heap} {a : Addr} {k : ClassId} {n : Int32} {vs : List Value} {dv : Value} {j : Int32} {x : Int32} (i : Nat) (hby : c.code = bytes) (hd : decode bytes pc = .ok (.iastore, 1)) (hp : pc + 1 = pc') (eT : T.heap = h) (F : Arv Z h a k .int n vs dv) (hj : ¬ j < 0 ∧ j < n) (hji : j.toNatClampNeg = i) (hi : i < vs.length)
    (K : ∀ T' : State, Stand p l e R s m args below meth c T' (locs ++ [⟨a, j.toNatClampNeg⟩]) cells slots → Wr h T'.heap a j.toNatClampNeg (.int x) → Arv Z T'.heap a k .int n (vs.set i (.int x)) dv → GoE p e below Fi (T'.setTop (mkF m pc' Ls rest))) : GoE p e below Fi (T.setTop (mkF m pc Ls (.int x :: .int j :: .ref a :: rest))) := by
  subst hp
  obtain ⟨cl, A, q1, S, q3, Hh, G⟩ := F
  obtain ⟨T2, h2, X2, e2, W2, st2⟩ := stI X hx hZ eT A (inb_of S hj) (g := mkF m pc Ls (.int x :: .int j :: .ref a :: rest)) rfl rfl (hb hby hd)
  subst e2
  exact (K T2 X2 W2 (Arv.set A q1 S q3 Hh G rfl W2 i hji hi)).pull st2
theorem g_lastore (X : Stand p l e R s m args below meth c T locs cells slots) (hx : p.tables.exec = Jvm.exec) {Z : State} (hZ : Z.Warmed39 s.vm) {h : Heap} {a : Addr} {k : ClassId} {n : Int32} {vs : List Value} {dv : Value} {j : Int32} {x : Int64} (i : Nat) (hby : c.code = bytes) (hd : decode bytes pc = .ok (.lastore, 1)) (hp : pc + 1 = pc') (eT : T.heap = h) (F : Arv Z h a k .long n vs dv) (hj : ¬ j < 0 ∧ j < n) (hji : j.toNatClampNeg = i) (hi : i < vs.length)
    (K : ∀ T' : State, Stand p l e R s m args below meth c T' (locs ++ [⟨a, j.toNatClampNeg⟩]) cells slots → Wr h T'.heap a j.toNatClampNeg (.long x) → Arv Z T'.heap a k .long n (vs.set i (.long x)) dv → GoE p e below Fi (T'.setTop (mkF m pc' Ls rest))) : GoE p e below Fi (T.setTop (mkF m pc Ls (.long x :: .int j :: .ref a :: rest))) := by
  subst hp
  obtain ⟨cl, A, q1, S, q3, Hh, G⟩ := F
  obtain ⟨T2, h2, X2, e2, W2, st2⟩ := stJ X hx hZ eT A (inb_of S hj) (g := mkF m pc Ls (.long x :: .int j :: .ref a :: rest)) rfl rfl (hb hby hd)
  subst e2
  exact (K T2 X2 W2 (Arv.set A q1 S q3 Hh G rfl W2 i hji hi)).pull st2
theorem g_castore (X : Stand p l e R s m args below meth c T locs cells slots) (hx : p.tables.exec = Jvm.exec) {Z : State} (hZ : Z.Warmed39 s.vm) {h : Heap} {a : Addr} {k : ClassId} {n : Int32} {vs : List Value} {dv : Value} {j : Int32} {x : Int32} (i : Nat) (hby : c.code = bytes) (hd : decode bytes pc = .ok (.castore, 1)) (hp : pc + 1 = pc') (eT : T.heap = h) (F : Arv Z h a k .char n vs dv) (hj : ¬ j < 0 ∧ j < n) (hji : j.toNatClampNeg = i) (hi : i < vs.length)
    (K : ∀ T' : State, Stand p l e R s m args below meth c T' (locs ++ [⟨a, j.toNatClampNeg⟩]) cells slots → Wr h T'.heap a j.toNatClampNeg (.int (nar .char x)) → Arv Z T'.heap a k .char n (vs.set i (.int (nar .char x))) dv → GoE p e below Fi (T'.setTop (mkF m pc' Ls rest))) : GoE p e below Fi (T.setTop (mkF m pc Ls (.int x :: .int j :: .ref a :: rest))) := by
  subst hp
  obtain ⟨cl, A, q1, S, q3, Hh, G⟩ := F
  obtain ⟨T2, h2, X2, e2, W2, st2⟩ := stC X hx hZ eT A (inb_of S hj) (g := mkF m pc Ls (.int x :: .int j :: .ref a :: rest)) rfl rfl (hb hby hd)
  subst e2
  exact (K T2 X2 W2 (Arv.set A q1 S q3 Hh G (fits_nar_char x) W2 i hji hi)).pull st2
theorem g_bastore (X : Stand p l e R s m args below meth c T locs cells slots) (hx : p.tables.exec = Jvm.exec) {Z : State} (hZ : Z.Warmed39 s.vm) {h : Heap} {a : Addr} {k : ClassId} {n : Int32} {vs : List Value} {dv : Value} {j : Int32} {x : Int32} (i : Nat) (hby : c.code = bytes) (hd : decode bytes pc = .ok (.bastore, 1)) (hp : pc + 1 = pc') (eT : T.heap = h) (F : Arv Z h a k .byte n vs dv) (hj : ¬ j < 0 ∧ j < n) (hji : j.toNatClampNeg = i) (hi : i < vs.length)
    (K : ∀ T' : State, Stand p l e R s m args below meth c T' (locs ++ [⟨a, j.toNatClampNeg⟩]) cells slots → Wr h T'.heap a j.toNatClampNeg (.int (nar .byte x)) → Arv Z T'.heap a k .byte n (vs.set i (.int (nar .byte x))) dv → GoE p e below Fi (T'.setTop (mkF m pc' Ls rest))) : GoE p e below Fi (T.setTop (mkF m pc Ls (.int x :: .int j :: .ref a :: rest))) := by
  subst hp
  obtain ⟨cl, A, q1, S, q3, Hh, G⟩ := F
  obtain ⟨T2, h2, X2, e2, W2, st2⟩ := stB X hx hZ eT A (inb_of S hj) (g := mkF m pc Ls (.int x :: .int j :: .ref a :: rest)) rfl rfl (hb hby hd)
  subst e2
  exact (K T2 X2 W2 (Arv.set A q1 S q3 Hh G (fits_nar_byte x) W2 i hji hi)).pull st2
theorem g_dastore (X : Stand p l e R s m args below meth c T locs cells slots) (hx : p.tables.exec = Jvm.exec) {Z : State} (hZ : Z.Warmed39 s.vm) {h : Heap} {a : Addr} {k : ClassId} {n : Int32} {vs : List Value} {dv : Value} {j : Int32} {x : UInt64} (i : Nat) (hby : c.code = bytes) (hd : decode bytes pc = .ok (.dastore, 1)) (hp : pc + 1 = pc') (eT : T.heap = h) (F : Arv Z h a k .double n vs dv) (hj : ¬ j < 0 ∧ j < n) (hji : j.toNatClampNeg = i) (hi : i < vs.length)
    (K : ∀ T' : State, Stand p l e R s m args below meth c T' (locs ++ [⟨a, j.toNatClampNeg⟩]) cells slots → Wr h T'.heap a j.toNatClampNeg (.double x) → Arv Z T'.heap a k .double n (vs.set i (.double x)) dv → GoE p e below Fi (T'.setTop (mkF m pc' Ls rest))) : GoE p e below Fi (T.setTop (mkF m pc Ls (.double x :: .int j :: .ref a :: rest))) := by
  subst hp
  obtain ⟨cl, A, q1, S, q3, Hh, G⟩ := F
  obtain ⟨T2, h2, X2, e2, W2, st2⟩ := stD X hx hZ eT A (inb_of S hj) (g := mkF m pc Ls (.double x :: .int j :: .ref a :: rest)) rfl rfl (hb hby hd)
  subst e2
  exact (K T2 X2 W2 (Arv.set A q1 S q3 Hh G rfl W2 i hji hi)).pull st2
theorem g_newarray (X : Stand p l e R s m args below meth c T locs cells slots) (hx : p.tables.exec = Jvm.exec) {Z : State} {a0 : Array Value} (hZ : Z.Warmed39 s.vm) {aty : ArrayType} {h : Heap} {n : Int32} (cap : Nat) (ad : String) (hby : c.code = bytes) (hd : decode bytes pc = .ok (.newarray aty, 2)) (hp : pc + 2 = pc') (w : (Jvm.Cond.arrayClass (newarray.typeOf aty)).before a0 Z = true) (eT : T.heap = h) (hn : ¬ n < 0) (hcap : n.toNatClampNeg ≤ cap) (hbg : cap * 8 ≤ 536870912) (hce : cells + 1 ≤ R.cells) (hsl : slots + cap ≤ R.slots) (had : "[" ++ (newarray.typeOf aty).toString = ad)
    (K : ∀ (T' : State) (b : Addr) (cA : ClassId), b = h.size → Stand p l e R s m args below meth c T' locs (cells + 1) (slots + cap) → Ext h T'.heap → Arv Z T'.heap b cA (newarray.typeOf aty) n (List.replicate cap (defaultValue (newarray.typeOf aty))) (defaultValue (newarray.typeOf aty)) → Exa Z T'.heap b ad → GoE p e below Fi (T'.setTop (mkF m pc' Ls (.ref b :: rest)))) : GoE p e below Fi (T.setTop (mkF m pc Ls (.int n :: rest))) := by
  subst hp
  obtain ⟨T2, h2, cA, X2, e2, E2, A2, Ex2, st2⟩ := newPE X hx hZ w eT (g := mkF m pc Ls (.int n :: rest)) rfl (hb hby hd) rfl hn hcap hbg hce hsl had
  subst e2
  exact (K T2 _ cA rfl X2 E2 ((Arv.new A2 hn).pad (pad_rep [] _ cap)) Ex2).pull st2
theorem g_lswHit (X : Stand p l e R s m args below meth c T locs cells slots) (hx : p.tables.exec = Jvm.exec) {k : Int32} {dflt : Int} {pairs : Array (Int × Int)} {len : Nat} {a off : Int} (hby : c.code = bytes) (hd : decode bytes pc = .ok (.lookupswitch dflt pairs, len)) (hs : (pairs.toList.zip (pairs.toList.drop 1)).all (fun (a, next) => a.1 < next.1) = true) (hf : pairs.find? (·.1 == k.toInt) = some (a, off)) (ho : 0 ≤ (pc : Int) + off) (hp : ((pc : Int) + off).toNat = pc')
    (H : GoE p e below Fi (T.setTop (mkF m pc' Ls rest))) : GoE p e below Fi (T.setTop (mkF m pc Ls (.int k :: rest))) := by
  subst hp
  exact H.pull fun t q => X.lookupswitchHit hx (g := mkF m pc Ls (.int k :: rest)) rfl rfl (hb hby hd) hs hf ho _ q
theorem g_lswMiss (X : Stand p l e R s m args below meth c T locs cells slots) (hx : p.tables.exec = Jvm.exec) {k : Int32} {dflt : Int} {pairs : Array (Int × Int)} {len : Nat} (hby : c.code = bytes) (hd : decode bytes pc = .ok (.lookupswitch dflt pairs, len)) (hs : (pairs.toList.zip (pairs.toList.drop 1)).all (fun (a, next) => a.1 < next.1) = true) (hf : pairs.find? (·.1 == k.toInt) = none) (ho : 0 ≤ (pc : Int) + dflt) (hp : ((pc : Int) + dflt).toNat = pc')
    (H : GoE p e below Fi (T.setTop (mkF m pc' Ls rest))) : GoE p e below Fi (T.setTop (mkF m pc Ls (.int k :: rest))) := by
  subst hp
  exact H.pull fun t q => X.lookupswitchMiss hx (g := mkF m pc Ls (.int k :: rest)) rfl rfl (hb hby hd) hs hf ho _ q
theorem g_castY (X : Stand p l e R s m args below meth c T locs cells slots) (hx : p.tables.exec = Jvm.exec) {Z : State} {a0 : Array Value} (hZ : Z.Warmed39 s.vm) {own : String} (hown : s.vm.findClass own = some m.cls) {C : String} {index : Nat} {h : Heap} {a : Addr} (hby : c.code = bytes) (hd : decode bytes pc = .ok (.checkcast index, 3)) (hp : pc + 3 = pc') (w : (Jvm.Cond.classLink own index C).before a0 Z = true) (eT : T.heap = h) (F : Ins Z h a C true)
    (K : ∀ T' : State, Stand p l e R s m args below meth c T' locs cells slots → T'.heap = h → GoE p e below Fi (T'.setTop (mkF m pc' Ls (.ref a :: rest)))) : GoE p e below Fi (T.setTop (mkF m pc Ls (.ref a :: rest))) := by
  subst hp
  obtain ⟨T2, X2, e2, st2⟩ := castY X hx hZ hown w eT F (g := mkF m pc Ls (.ref a :: rest)) rfl rfl (hb hby hd)
  exact (K T2 X2 e2).pull st2
theorem g_instY (X : Stand p l e R s m args below meth c T locs cells slots) (hx : p.tables.exec = Jvm.exec) {Z : State} {a0 : Array Value} (hZ : Z.Warmed39 s.vm) {own : String} (hown : s.vm.findClass own = some m.cls) {C : String} {index : Nat} {h : Heap} {a : Addr} (hby : c.code = bytes) (hd : decode bytes pc = .ok (.instanceof index, 3)) (hp : pc + 3 = pc') (w : (Jvm.Cond.classLink own index C).before a0 Z = true) (eT : T.heap = h) (F : Ins Z h a C true)
    (K : ∀ T' : State, Stand p l e R s m args below meth c T' locs cells slots → T'.heap = h → GoE p e below Fi (T'.setTop (mkF m pc' Ls (.int 1 :: rest)))) : GoE p e below Fi (T.setTop (mkF m pc Ls (.ref a :: rest))) := by
  subst hp
  obtain ⟨T2, X2, e2, st2⟩ := instY X hx hZ hown w eT F (g := mkF m pc Ls (.ref a :: rest)) rfl rfl (hb hby hd)
  exact (K T2 X2 e2).pull st2
theorem g_instNo (X : Stand p l e R s m args below meth c T locs cells slots) (hx : p.tables.exec = Jvm.exec) {Z : State} {a0 : Array Value} (hZ : Z.Warmed39 s.vm) {own : String} (hown : s.vm.findClass own = some m.cls) {C D : String} {index : Nat} {h : Heap} {a : Addr} (hby : c.code = bytes) (hd : decode bytes pc = .ok (.instanceof index, 3)) (hp : pc + 3 = pc') (w : (Jvm.Cond.classLink own index C).before a0 Z = true) (eT : T.heap = h) (E : Exa Z h a D) (F : ∃ c t, Z.vm.findClass D = some c ∧ Z.vm.findClass C = some t ∧ Z.vm.assignable c t = false)
    (K : ∀ T' : State, Stand p l e R s m args below meth c T' locs cells slots → T'.heap = h → GoE p e below Fi (T'.setTop (mkF m pc' Ls (.int 0 :: rest)))) : GoE p e below Fi (T.setTop (mkF m pc Ls (.ref a :: rest))) := by
  subst hp
  obtain ⟨T2, X2, e2, st2⟩ := instNo X hx hZ hown w eT E F (g := mkF m pc Ls (.ref a :: rest)) rfl rfl (hb hby hd)
  exact (K T2 X2 e2).pull st2
theorem g_callIf (X : Stand p l e R s m args below meth c T locs cells slots) (hx : p.tables.exec = Jvm.exec) {Z : State} {a0 : Array Value} (hZ : Z.Warmed39 s.vm) {own : String} (hown : s.vm.findClass own = some m.cls) {y : MethodName} {cb : ByteArray} {maxL : Nat} {ret : Option FieldType} {rm : Room} {as' : Array Value} {h : Heap} {Q' : Option Value → Heap → List Loc → Prop} {W : Nat} {index : Nat} {argsL : List Value} {b : Addr} {z : MethodName} {C0 : String} {count : Nat} (hby : c.code = bytes) (hd : decode bytes pc = .ok (.invokeinterface index count, 5)) (hp : pc + 5 = pc') (hml : Ls.size = c.maxLocals)
    (w1 : (Jvm.Cond.methodLink own index y).before a0 Z = true) (w2 : (Jvm.Cond.declares y).before a0 Z = true) (w7 : (Jvm.Cond.interfaceMethod y.cls y.cls y.name y.desc).before a0 Z = true) (hd7 : ((Jvm.Cond.interfaceMethod y.cls y.cls y.name y.desc).onTables && (Jvm.Cond.interfaceMethod y.cls y.cls y.name y.desc).keepsFace) = true) (w5 : (Jvm.Cond.selects C0 y z).before a0 Z = true) (w6 : (Jvm.Cond.instanceMethod z).before a0 Z = true) (w8 : (Jvm.Cond.publicMethod z).before a0 Z = true) (w9 : (Jvm.Cond.unhidden C0 y.name y.desc).before a0 Z = true) (w10 : (Jvm.Cond.castable C0 y.cls).before a0 Z = true) (w3 : (Jvm.Cond.initialized z.cls).before a0 Z = true) (w4 : (Jvm.Cond.code z cb maxL ret).before a0 Z = true) (hy : y.cls ≠ "java/lang/invoke/MethodHandle" ∧ y.cls ≠ "java/lang/invoke/VarHandle")
    (C : Ctr l Z z cb maxL ret [] rm as' h Q') (eT : T.heap = h) (E : Exa Z h b C0) (hfr : rm.frames + 1 ≤ R.frames) (hlo : W + (maxL + 11) + rm.locals ≤ R.locals) (hce : cells + rm.cells ≤ R.cells) (hsl : slots + rm.slots ≤ R.slots) {stk : List Value} {psig : MethodDescriptor} (has : (Value.ref b :: argsL).toArray = as') (hpd : parseMethodDescriptor y.desc = some psig) (hlen : argsL.length = psig.parameters.length) (hst : stk = argsL.reverse ++ Value.ref b :: rest) (hW : 2 * 0 + (rest.map fun v => v.category).sum ≤ W)
    (K : ∀ (v : Option Value) (T' : State) (L : List Loc), Stand p l e R s m args below meth c T' (locs ++ L) (cells + rm.cells) (slots + rm.slots) → Q' v T'.heap L → GoE p e below Fi (T'.setTop (mkF m pc' Ls (v.toList ++ rest)))) : GoE p e below Fi (T.setTop (mkF m pc Ls stk)) := by
  subst hp hst has
  obtain ⟨cq, kq, qa, qb, qc⟩ := isOf hZ eT E
  obtain ⟨v, _, ⟨T4, L4, k4, n4⟩, -, X4, ⟨Lc, hQ, l4, y4, z4⟩, st⟩ := X.interfaceBack hx (xi := y) (y := z) hown (mvT hZ w1) (mvT hZ w2) (mvT hZ w7 hd7) (mvT hZ w5) (mvT hZ w6) (mvT hZ w8) (mvT hZ w9) (mvT hZ w10) hy (backOf (W := W) C hZ w4 w3 hfr hlo) qa qb qc (g := mkF m pc Ls (argsL.reverse ++ Value.ref b :: rest)) rfl hml (Steps.refl _) (argsL := argsL) (rest := rest) (fun sig h => by rw [hpd] at h; cases h; exact hlen) rfl hW (hb hby hd) (fun _ _ => ⟨rfl, eT, hce, hsl⟩)
  dsimp only [Pt.U, Pt.locs, Pt.cells, Pt.slots] at X4 l4 y4 z4 st hQ
  subst l4 y4 z4
  exact (K v T4 Lc X4 hQ).pull fun t k => st.trans k
theorem g_anewarrayA (X : Stand p l e R s m args below meth c T locs cells slots) (hx : p.tables.exec = Jvm.exec) {Z : State} {a0 : Array Value} (hZ : Z.Warmed39 s.vm) {own : String} (hown : s.vm.findClass own = some m.cls) {C : String} {ty : FieldType} {index : Nat} {h : Heap} {n : Int32} (cap : Nat) (ad : String) (hby : c.code = bytes) (hd : decode bytes pc = .ok (.anewarray index, 3)) (hp : pc + 3 = pc') (hC : (FieldType.array ty).toString = C) (w1 : (Jvm.Cond.classLink own index C).before a0 Z = true) (w2 : (Jvm.Cond.arrayOver (.array ty)).before a0 Z = true) (eT : T.heap = h) (hn : ¬ n < 0) (hcap : n.toNatClampNeg ≤ cap) (hbg : cap * 8 ≤ 536870912) (hce : cells + 1 ≤ R.cells) (hsl : slots + cap ≤ R.slots) (had : "[" ++ C = ad)
    (K : ∀ (T' : State) (b : Addr) (cA : ClassId), b = h.size → Stand p l e R s m args below meth c T' locs (cells + 1) (slots + cap) → Ext h T'.heap → Arv Z T'.heap b cA (.array ty) n (List.replicate cap .null) .null → Exa Z T'.heap b ad → OvrA Z cA ty C → GoE p e below Fi (T'.setTop (mkF m pc' Ls (.ref b :: rest)))) : GoE p e below Fi (T.setTop (mkF m pc Ls (.int n :: rest))) := by
  subst hp
  obtain ⟨T2, h2, cA, X2, e2, E2, A2, Ex2, O2, st2⟩ := newRA X hx hZ hown hC w1 w2 eT (g := mkF m pc Ls (.int n :: rest)) rfl (hb hby hd) rfl hn hcap hbg hce hsl had
  subst e2
  exact (K T2 _ cA rfl X2 E2 ((Arv.new A2 hn).pad (pad_rep [] _ cap)) Ex2 O2).pull st2
theorem g_aastore (X : Stand p l e R s m args below meth c T locs cells slots) (hx : p.tables.exec = Jvm.exec) {Z : State} (hZ : Z.Warmed39 s.vm) {h : Heap} {a : Addr} {k : ClassId} {n : Int32} {vs : List Value} {dv : Value} {ty : FieldType} {j : Int32} {v : Value} (i : Nat) (hby : c.code = bytes) (hd : decode bytes pc = .ok (.aastore, 1)) (hp : pc + 1 = pc') (eT : T.heap = h) (F : Arv Z h a k ty n vs dv) (hty : ty.isReference = true) (hS : ∀ cl : Cell, Arr Z h a cl ty → cl.cls = k → Sto Z h a v) (hfv : fits ty v = true) (hj : ¬ j < 0 ∧ j < n) (hji : j.toNatClampNeg = i) (hi : i < vs.length)
    (K : ∀ T' : State, Stand p l e R s m args below meth c T' (locs ++ [⟨a, j.toNatClampNeg⟩]) cells slots → Wr h T'.heap a j.toNatClampNeg v → Arv Z T'.heap a k ty n (vs.set i v) dv → GoE p e below Fi (T'.setTop (mkF m pc' Ls rest))) : GoE p e below Fi (T.setTop (mkF m pc Ls (v :: .int j :: .ref a :: rest))) := by
  subst hp
  obtain ⟨cl, A, q1, S, q3, Hh, G⟩ := F
  obtain ⟨T2, h2, X2, e2, W2, st2⟩ := stR X hx hZ eT A (inb_of S hj) hty (hS cl A q1) (g := mkF m pc Ls (v :: .int j :: .ref a :: rest)) rfl rfl (hb hby hd)
  subst e2
  exact (K T2 X2 W2 (Arv.set A q1 S q3 Hh G hfv W2 i hji hi)).pull st2
theorem g_eqI {a b : Int32} (h : a = b) (K : GoE p e below Fi (T.setTop (mkF m pc Ls (.int b :: rest)))) : GoE p e below Fi (T.setTop (mkF m pc Ls (.int a :: rest))) := h ▸ K
theorem g_eqL {a b : Int64} (h : a = b) (K : GoE p e below Fi (T.setTop (mkF m pc Ls (.long b :: rest)))) : GoE p e below Fi (T.setTop (mkF m pc Ls (.long a :: rest))) := h ▸ K
theorem g_newarrayV (X : Stand p l e R s m args below meth c T locs cells slots) (hx : p.tables.exec = Jvm.exec) {Z : State} {a0 : Array Value} (hZ : Z.Warmed39 s.vm) {aty : ArrayType} {h : Heap} {n : Int32} (cap vc : Nat) (ad : String) (hby : c.code = bytes) (hd : decode bytes pc = .ok (.newarray aty, 2)) (hp : pc + 2 = pc') (w : (Jvm.Cond.arrayClass (newarray.typeOf aty)).before a0 Z = true) (eT : T.heap = h) (hn : ¬ n < 0) (hcap : n.toNatClampNeg ≤ cap) (hbg : cap * 8 ≤ 536870912) (hce : cells + 1 ≤ R.cells) (hsl : slots + cap ≤ R.slots) (had : "[" ++ (newarray.typeOf aty).toString = ad)
    (K : ∀ (T' : State) (b : Addr) (cA : ClassId), b = h.size → Stand p l e R s m args below meth c T' locs (cells + 1) (slots + cap) → Ext h T'.heap → Arv Z T'.heap b cA (newarray.typeOf aty) n (List.replicate vc (defaultValue (newarray.typeOf aty))) (defaultValue (newarray.typeOf aty)) → Exa Z T'.heap b ad → GoE p e below Fi (T'.setTop (mkF m pc' Ls (.ref b :: rest)))) : GoE p e below Fi (T.setTop (mkF m pc Ls (.int n :: rest))) := by
  subst hp
  obtain ⟨T2, h2, cA, X2, e2, E2, A2, Ex2, st2⟩ := newPE X hx hZ w eT (g := mkF m pc Ls (.int n :: rest)) rfl (hb hby hd) rfl hn hcap hbg hce hsl had
  subst e2
  exact (K T2 _ cA rfl X2 E2 ((Arv.new A2 hn).pad (pad_rep [] _ vc)) Ex2).pull st2
theorem g_arraycopy (X : Stand p l e R s m args below meth c T locs cells slots) (hx : p.tables.exec = Jvm.exec) {Z : State} {a0 : Array Value} (hZ : Z.Warmed39 s.vm) {own : String} (hown : s.vm.findClass own = some m.cls) {index : Nat} {h : Heap} {a b : Addr} {k k' : ClassId} {ty : FieldType} {n z' sp dp nn : Int32} {vs vd us : List Value} {dv dd : Value} {W n0 : Nat} (hby : c.code = bytes) (hd : decode bytes pc = .ok (.invokestatic index, 3)) (hp : pc + 3 = pc') (hml : Ls.size = c.maxLocals)
    (w1 : (Jvm.Cond.methodLink own index Jvm.Stand.acN).before a0 Z = true) (w2 : (Jvm.Cond.native Jvm.Stand.acN).before a0 Z = true) (w3 : (Jvm.Cond.static Jvm.Stand.acN).before a0 Z = true) (w4 : (Jvm.Cond.initialized "java/lang/System").before a0 Z = true) (eT : T.heap = h) (A : Arv Z h a k ty n vs dv) (B : Arv Z h b k' ty z' vd dd) (hr : refKind ty = false)
    (h1 : ¬ sp < 0) (h2 : ¬ dp < 0) (h3 : ¬ nn < 0) (h4 : sp.toNatClampNeg + nn.toNatClampNeg ≤ n.toNatClampNeg) (h5 : dp.toNatClampNeg + nn.toNatClampNeg ≤ z'.toNatClampNeg) (hus : us = (List.range nn.toNatClampNeg).map fun i => vs.getD (sp.toNatClampNeg + i) dv) (hl : dp.toNatClampNeg + nn.toNatClampNeg ≤ vd.length) (N : Fr n0 locs) (ge : n0 ≤ b)
    (hf : 1 ≤ R.frames) (hW : 2 * 0 + (rest.map fun v => v.category).sum ≤ W) (hlo : W + (nativeFrameWords "java/lang/System" "arraycopy" 5 + 11) ≤ R.locals)
    (K : ∀ (T' : State) (L : List Loc), Stand p l e R s m args below meth c T' L cells slots → Fr n0 L → Keep h T'.heap [b] → Arv Z T'.heap b k' ty z' (vd.take dp.toNatClampNeg ++ us ++ vd.drop (dp.toNatClampNeg + nn.toNatClampNeg)) dd → GoE p e below Fi (T'.setTop (mkF m pc' Ls rest))) : GoE p e below Fi (T.setTop (mkF m pc Ls (.int nn :: .int dp :: .ref b :: .int sp :: .ref a :: rest))) := by
  subst hp
  obtain ⟨T2, h2', L2, X2, e2, N2, K2, A2, st2⟩ := cpA X hx hZ hown w1 w2 w3 w4 eT A B (Or.inl ⟨rfl, hr⟩) h1 h2 h3 h4 h5 hus hl N ge (g := mkF m pc Ls (.int nn :: .int dp :: .ref b :: .int sp :: .ref a :: rest)) rfl hml rfl (hb hby hd) hf hW hlo
  subst e2
  exact (K T2 L2 X2 N2 K2 A2).pull st2
end GoKit
theorem own_lenS {args : Array Value} {s : State} {t : Term} {b : Addr} {cl : Cell} {ty : FieldType} {n : Int32} (ht : t.eval args s none [] s = some (.ref b)) (A : Arr s s.heap b cl ty) (h : (Jvm.Cond.eq (.length t) (.int n)).value args s none s [] = some true) : cl.slots.size < 2 ^ 31 ∧ cl.slots.size.toInt32 = n := by
  obtain ⟨x, y, h1, h2, -, -⟩ := cmp_v (Or.inl h)
  have hA : s.arrayAt? b = some cl := A.fin (Vm.Alike.refl _)
  by_cases q : cl.slots.size < 2 ^ 31
  · exact ⟨q, gotT (Cond.eq_ints (len_f ht hA q) (Term.int_eval n)) h⟩
  · exfalso
    have h3 : (Term.length t).eval args s none [] s = none := by
      simp only [Term.eval, ht, Option.bind_eq_bind, Option.bind_some, hA]
      exact if_neg q
    rw [h3] at h1; cases h1
theorem own_elemI {args : Array Value} {s : State} {t : Term} {b : Addr} {cl : Cell} {i v : Int32} (ht : t.eval args s none [] s = some (.ref b)) (hc : s.heap[b]? = some cl) (h : (Jvm.Cond.eq (.elem t (.int i)) (.int v)).value args s none s [] = some true) : cl.slots[i.toNatClampNeg]? = some (.int v) := by
  obtain ⟨x, y, h1, h2, -, hk⟩ := cmp_v (Or.inl h)
  cases (Term.int_eval v).symm.trans h2
  obtain ⟨c2, e1, -, e3⟩ := elem_at h1 ht (Term.int_eval i)
  cases hc.symm.trans e1
  obtain ⟨x, rfl⟩ : ∃ z, x = Value.int z := hk
  rw [e3]
  have := gotT (Cond.eq_ints h1 (Term.int_eval v)) h
  rw [this]
theorem own_elemL {args : Array Value} {s : State} {t : Term} {b : Addr} {cl : Cell} {i : Int32} {v : Int64} (ht : t.eval args s none [] s = some (.ref b)) (hc : s.heap[b]? = some cl) (h : (Jvm.Cond.eq (.elem t (.int i)) (.long v)).value args s none s [] = some true) : cl.slots[i.toNatClampNeg]? = some (.long v) := by
  obtain ⟨x, y, h1, h2, -, hk⟩ := cmp_v (Or.inl h)
  have h2' : (Term.long v).eval args s none [] s = some (.long v) := by simp [Term.eval]
  cases h2'.symm.trans h2
  obtain ⟨c2, e1, -, e3⟩ := elem_at h1 ht (Term.int_eval i)
  cases hc.symm.trans e1
  obtain ⟨x, rfl⟩ : ∃ z, x = Value.long z := hk
  rw [e3]
  have := gotT (eq_L h1 h2') h
  rw [this]
theorem own_fldI {args : Array Value} {s : State} {t : Term} {b : Addr} {C n : String} {v : Int32} (ht : t.eval args s none [] s = some (.ref b)) (h : (Jvm.Cond.eq (.field t C n "I") (.int v)).value args s none s [] = some true) : Fld s s.heap b C n "I" (.int v) := by
  obtain ⟨x, y, h1, h2, -, hk⟩ := cmp_v (Or.inl h)
  cases (Term.int_eval v).symm.trans h2
  have h3 := h1
  rw [fld_at ht] at h3
  obtain ⟨x, rfl⟩ : ∃ z, x = Value.int z := hk
  have := gotT (Cond.eq_ints h1 (Term.int_eval v)) h
  rw [this] at h3
  exact Fld.start h3
theorem own_fldN {args : Array Value} {s : State} {t : Term} {b : Addr} {C n d : String} (ht : t.eval args s none [] s = some (.ref b)) (h : (Jvm.Cond.eq (.field t C n d) .null).value args s none s [] = some true) : Fld s s.heap b C n d .null := by
  have h1 := null_v h
  rw [fld_at ht] at h1
  exact Fld.start h1
theorem own_stI {args : Array Value} {s : State} {t : Term} {v : Int32} (h : (Jvm.Cond.eq t (.int v)).value args s none s [] = some true) : t.eval args s none [] s = some (.int v) := by
  obtain ⟨x, y, h1, h2, -, hk⟩ := cmp_v (Or.inl h)
  cases (Term.int_eval v).symm.trans h2
  obtain ⟨x, rfl⟩ : ∃ z, x = Value.int z := hk
  have := gotT (Cond.eq_ints h1 (Term.int_eval v)) h
  rw [this] at h1
  exact h1
theorem own_stR {args : Array Value} {s : State} {t u : Term} {a b : Addr} (h1 : t.eval args s none [] s = some (.ref a)) (h2 : u.eval args s none [] s = some (.ref b)) (h : (Jvm.Cond.eq t u).value args s none s [] = some true) : a = b := by
  have := gotT (eq_R h1 h2 rfl rfl) h
  cases this
  rfl

def CH (c : Int32) : Prop := 0 ≤ c.toInt ∧ c.toInt < 65536
def lat (c : Int32) : Int32 := nar .byte (c.toInt8.toInt32)
def lob (c : Int32) : Int32 := nar .byte ((c >>> ((0 : Int32) &&& 31)).toInt8.toInt32)
def hib (c : Int32) : Int32 := nar .byte ((c >>> ((8 : Int32) &&& 31)).toInt8.toInt32)
def gch (a b : Int32) : Int32 := (((a &&& (255 : Int32)) <<< ((0 : Int32) &&& 31)) ||| ((b &&& (255 : Int32)) <<< ((8 : Int32) &&& 31))).toUInt32.toUInt16.toUInt32.toInt32
def lch (a : Int32) : Int32 := (a &&& (255 : Int32)).toUInt32.toUInt16.toUInt32.toInt32
def drawV (a : Int32) : Int32 := if (a &&& (3 : Int32)) = 0 then ((ushr a (2 : Int32)) &&& (65535 : Int32)).toUInt32.toUInt16.toUInt32.toInt32 else if (a &&& (3 : Int32)) = (1 : Int32) then ((55296 : Int32) + ((ushr a (2 : Int32)) &&& (2047 : Int32))).toUInt32.toUInt16.toUInt32.toInt32 else if (a &&& (3 : Int32)) = (2 : Int32) then (0 : Int32) else ((56320 : Int32) + ((ushr a (2 : Int32)) &&& (1023 : Int32))).toUInt32.toUInt16.toUInt32.toInt32
theorem own_ch (x : Int32) : CH x.toUInt32.toUInt16.toUInt32.toInt32 := (c_i2c x).2
theorem own_draw (a : Int32) : CH (drawV a) := by
  unfold drawV
  split
  · exact own_ch _
  · split
    · exact own_ch _
    · split
      · exact ⟨by decide, by decide⟩
      · exact own_ch _
theorem own_i2c {x : Int32} (h : CH x) : x.toUInt32.toUInt16.toUInt32.toInt32 = x := by
  obtain ⟨a, b⟩ := h
  have q := c_i2c x
  exact Int32.toInt_inj.mp (by omega)
theorem own_narc {x : Int32} (h : CH x) : nar .char x = x := own_i2c h
theorem own_lat {c : Int32} (h : CH c) (h2 : ¬ (255 : Int32) < c) : lch (lat c) = c := by
  obtain ⟨a, b⟩ := h
  have l : c.toInt ≤ 255 := by
    have q : ¬ ((255 : Int32).toInt < c.toInt) := fun z => h2 (Int32.lt_iff_toInt_lt.mpr z)
    have e : (255 : Int32).toInt = 255 := by decide
    omega
  have a1 := c_i2b c
  have a2 := c_i2b c.toInt8.toInt32
  have a3 := c_mask (c.toInt8.toInt32.toInt8.toInt32) 255 8 (by decide) (by decide)
  have e3 : ((2 ^ 8 : Nat) : Int) = 256 := rfl
  rw [e3] at a3
  have a4 := c_i2c (c.toInt8.toInt32.toInt8.toInt32 &&& 255)
  refine Int32.toInt_inj.mp ?_
  show (((c.toInt8.toInt32.toInt8.toInt32) &&& (255 : Int32)).toUInt32.toUInt16.toUInt32.toInt32).toInt = _
  omega
theorem own_gch {c : Int32} (h : CH c) : gch (lob c) (hib c) = c := by
  obtain ⟨a, b⟩ := h
  have e0 : ((2 ^ 0 : Nat) : Int) = 1 := rfl
  have e8 : ((2 ^ 8 : Nat) : Int) = 256 := rfl
  have u1 := c_ishr c 0 0 (by decide)
  rw [e0] at u1
  have v1 := c_ishr c 8 8 (by decide)
  rw [e8] at v1
  show (((((((c >>> ((0 : Int32) &&& 31)).toInt8.toInt32).toInt8.toInt32) &&& (255 : Int32)) <<< ((0 : Int32) &&& 31)) ||| (((((c >>> ((8 : Int32) &&& 31)).toInt8.toInt32).toInt8.toInt32) &&& (255 : Int32)) <<< ((8 : Int32) &&& 31)))).toUInt32.toUInt16.toUInt32.toInt32 = c
  generalize (c >>> ((0 : Int32) &&& 31)) = x at u1 ⊢
  generalize (c >>> ((8 : Int32) &&& 31)) = y at v1 ⊢
  have u2 := c_i2b x
  have v2 := c_i2b y
  generalize x.toInt8.toInt32 = x2 at u2 ⊢
  generalize y.toInt8.toInt32 = y2 at v2 ⊢
  have u3 := c_i2b x2
  have v3 := c_i2b y2
  generalize x2.toInt8.toInt32 = x3 at u3 ⊢
  generalize y2.toInt8.toInt32 = y3 at v3 ⊢
  have u4 := c_mask x3 255 8 (by decide) (by decide)
  have v4 := c_mask y3 255 8 (by decide) (by decide)
  rw [e8] at u4 v4
  generalize (x3 &&& 255) = x4 at u4 ⊢
  generalize (y3 &&& 255) = y4 at v4 ⊢
  have u5 := c_ishl x4 0 0 (by decide)
  have v5 := c_ishl y4 8 8 (by decide)
  rw [e0] at u5
  rw [e8] at v5
  generalize (x4 <<< ((0 : Int32) &&& 31)) = x5 at u5 ⊢
  generalize (y4 <<< ((8 : Int32) &&& 31)) = y5 at v5 ⊢
  have rx := rng32 x5
  have ry := rng32 y5
  have w := c_or' x5 y5 8 (by decide) 256 rfl (by omega) (by omega) (by omega)
  generalize (x5 ||| y5) = z at w ⊢
  have rz := rng32 z
  have w2 := c_i2c z
  exact Int32.toInt_inj.mp (by omega)
def isS (c : Int32) : Int32 := if c < (55296 : Int32) then 0 else if c < (57344 : Int32) then 1 else 0
def isH (c : Int32) : Int32 := if c < (55296 : Int32) then 0 else if c < (56320 : Int32) then 1 else 0
def isL (c : Int32) : Int32 := if c < (56320 : Int32) then 0 else if c < (57344 : Int32) then 1 else 0
def klA (x : Int32) : Int32 := if x = 0 then 0 else if isS x = 0 then 1 else if isH x = 0 then 0 else 0
def klB (x y : Int32) : Int32 := if x = 0 then 0 else if isS x = 0 then 1 else if isH x = 0 then 0 else if isL y = 0 then 0 else 2
def exA (x : Int32) : Int32 := if x = 0 then 0 else if x < (55296 : Int32) then 1 else if (57343 : Int32) < x then 1 else if x < (56320 : Int32) then 0 else 0
def exB (x y : Int32) : Int32 := if x = 0 then 0 else if x < (55296 : Int32) then 1 else if (57343 : Int32) < x then 1 else if x < (56320 : Int32) then (if y < (56320 : Int32) then 0 else if (57343 : Int32) < y then 0 else 2) else 0
theorem own_lt (a b : Int32) : (a < b) = (a.toInt < b.toInt) := propext Int32.lt_iff_toInt_lt
theorem own_A (x : Int32) : klA x = exA x := by
  unfold klA exA isS isH
  simp only [own_lt, Int32.reduceToInt]
  repeat' split
  all_goals first | rfl | omega | (exfalso; simp_all; done) | (exfalso; simp_all; omega)
theorem own_B (x y : Int32) : klB x y = exB x y := by
  unfold klB exB isS isH isL
  simp only [own_lt, Int32.reduceToInt]
  repeat' split
  all_goals first | rfl | omega | (exfalso; simp_all; done) | (exfalso; simp_all; omega)
def SSt (Z : State) (cs : Int32) (fm : Value) : Prop := ¬ cs = 0 ∧ Sta Z Z.heap "java/lang/String" "COMPACT_STRINGS" "Z" (.int cs) ∧ Sta Z Z.heap "java/lang/StringUTF16" "$assertionsDisabled" "Z" (.int (1 : Int32)) ∧ Sta Z Z.heap "java/lang/StringUTF16" "HI_BYTE_SHIFT" "I" (.int (0 : Int32)) ∧ Sta Z Z.heap "java/lang/StringUTF16" "LO_BYTE_SHIFT" "I" (.int (8 : Int32)) ∧ Sta Z Z.heap "jdk/internal/util/Preconditions" "SIOOBE_FORMATTER" "Ljava/util/function/BiFunction;" fm ∧ fm.isRef = true
theorem own_n (q : Int32) : ((1 : Int32) + ((q &&& (2147483647 : Int32)) - ((q &&& (2147483647 : Int32)) / (3 : Int32)) * (3 : Int32))) = 1 ∨ ((1 : Int32) + ((q &&& (2147483647 : Int32)) - ((q &&& (2147483647 : Int32)) / (3 : Int32)) * (3 : Int32))) = 2 ∨ ((1 : Int32) + ((q &&& (2147483647 : Int32)) - ((q &&& (2147483647 : Int32)) / (3 : Int32)) * (3 : Int32))) = 3 := by
  have e31 : ((2 ^ 31 : Nat) : Int) = 2147483648 := rfl
  have a := c_mask q 2147483647 31 (by decide) (by decide)
  rw [e31] at a
  generalize q &&& (2147483647 : Int32) = y at a ⊢
  have d := (c_idiv y 3 3 (by decide) (by decide)).1 (by omega)
  generalize y / (3 : Int32) = z at d ⊢
  have m := c_imul z 3
  have e3 : (3 : Int32).toInt = 3 := by decide
  rw [e3] at m
  generalize z * (3 : Int32) = t at m ⊢
  have s := c_isub y t
  generalize y - t = u at s ⊢
  have v := c_iadd 1 u
  have e1 : (1 : Int32).toInt = 1 := by decide
  rw [e1] at v
  generalize (1 : Int32) + u = w at v ⊢
  have r1 := rng32 t
  have r2 := rng32 u
  have r3 := rng32 w
  have r4 := rng32 z
  simp only [← Int32.toInt_inj, Int32.reduceToInt]
  omega
theorem own_i1 (q : Int32) : ((q &&& (2147483647 : Int32)) - ((q &&& (2147483647 : Int32)) / (1 : Int32)) * (1 : Int32)) = 0 := by
  generalize q &&& (2147483647 : Int32) = y
  have d := (c_idiv y 1 1 (by decide) (by decide))
  have m := c_imul (y / 1) 1
  have e3 : (1 : Int32).toInt = 1 := by decide
  rw [e3] at m
  have s := c_isub y ((y / 1) * 1)
  have r1 := rng32 ((y / 1) * 1)
  have r2 := rng32 (y - (y / 1) * 1)
  have r4 := rng32 (y / 1)
  have r5 := rng32 y
  simp only [← Int32.toInt_inj, Int32.reduceToInt]
  omega
theorem own_i2 (q : Int32) : ((q &&& (2147483647 : Int32)) - ((q &&& (2147483647 : Int32)) / (2 : Int32)) * (2 : Int32)) = 0 ∨ ((q &&& (2147483647 : Int32)) - ((q &&& (2147483647 : Int32)) / (2 : Int32)) * (2 : Int32)) = 1 := by
  have e31 : ((2 ^ 31 : Nat) : Int) = 2147483648 := rfl
  have a := c_mask q 2147483647 31 (by decide) (by decide)
  rw [e31] at a
  generalize q &&& (2147483647 : Int32) = y at a ⊢
  have d := (c_idiv y 2 2 (by decide) (by decide)).1 (by omega)
  generalize y / (2 : Int32) = z at d ⊢
  have m := c_imul z 2
  have e3 : (2 : Int32).toInt = 2 := by decide
  rw [e3] at m
  generalize z * (2 : Int32) = t at m ⊢
  have s := c_isub y t
  generalize y - t = u at s ⊢
  have r1 := rng32 t
  have r2 := rng32 u
  have r4 := rng32 z
  simp only [← Int32.toInt_inj, Int32.reduceToInt]
  omega
theorem own_i3 (q : Int32) : ((q &&& (2147483647 : Int32)) - ((q &&& (2147483647 : Int32)) / (3 : Int32)) * (3 : Int32)) = 0 ∨ ((q &&& (2147483647 : Int32)) - ((q &&& (2147483647 : Int32)) / (3 : Int32)) * (3 : Int32)) = 1 ∨ ((q &&& (2147483647 : Int32)) - ((q &&& (2147483647 : Int32)) / (3 : Int32)) * (3 : Int32)) = 2 := by
  have e31 : ((2 ^ 31 : Nat) : Int) = 2147483648 := rfl
  have a := c_mask q 2147483647 31 (by decide) (by decide)
  rw [e31] at a
  generalize q &&& (2147483647 : Int32) = y at a ⊢
  have d := (c_idiv y 3 3 (by decide) (by decide)).1 (by omega)
  generalize y / (3 : Int32) = z at d ⊢
  have m := c_imul z 3
  have e3 : (3 : Int32).toInt = 3 := by decide
  rw [e3] at m
  generalize z * (3 : Int32) = t at m ⊢
  have s := c_isub y t
  generalize y - t = u at s ⊢
  have r1 := rng32 t
  have r2 := rng32 u
  have r4 := rng32 z
  simp only [← Int32.toInt_inj, Int32.reduceToInt]
  omega
theorem w_0 {Z : State} {a0 : Array Value} (hw : ∀ d ∈ tables_1, d.before a0 Z = true) : (Jvm.Cond.constant "com/example/libonce/libonce/StorableTextKeptLengthPinLaw" (7 : Nat) (2147483647 : Int32)).before a0 Z = true := hw _ (List.mem_of_getElem? (i := 0) rfl)
theorem w_1 {Z : State} {a0 : Array Value} (hw : ∀ d ∈ tables_1, d.before a0 Z = true) : (Jvm.Cond.methodLink "com/example/libonce/libonce/StorableTextKeptLengthPinLaw" (8 : Nat) ({ cls := "com/example/libonce/libonce/StorableTextKeptLengthPinLaw", name := "draw", desc := "(I)C" } : Jvm.MethodName)).before a0 Z = true := hw _ (List.mem_of_getElem? (i := 1) rfl)
theorem w_2 {Z : State} {a0 : Array Value} (hw : ∀ d ∈ tables_1, d.before a0 Z = true) : (Jvm.Cond.static ({ cls := "com/example/libonce/libonce/StorableTextKeptLengthPinLaw", name := "draw", desc := "(I)C" } : Jvm.MethodName)).before a0 Z = true := hw _ (List.mem_of_getElem? (i := 2) rfl)
theorem w_3 {Z : State} {a0 : Array Value} (hw : ∀ d ∈ tables_1, d.before a0 Z = true) : (Jvm.Cond.initialized "com/example/libonce/libonce/StorableTextKeptLengthPinLaw").before a0 Z = true := hw _ (List.mem_of_getElem? (i := 3) rfl)
theorem w_4 {Z : State} {a0 : Array Value} (hw : ∀ d ∈ tables_1, d.before a0 Z = true) : (Jvm.Cond.code ({ cls := "com/example/libonce/libonce/StorableTextKeptLengthPinLaw", name := "draw", desc := "(I)C" } : Jvm.MethodName) method_3_code (3 : Nat) (Option.some Jvm.ClassFile.FieldType.char)).before a0 Z = true := hw _ (List.mem_of_getElem? (i := 4) rfl)
theorem w_5 {Z : State} {a0 : Array Value} (hw : ∀ d ∈ tables_1, d.before a0 Z = true) : (Jvm.Cond.constant "com/example/libonce/libonce/StorableTextKeptLengthPinLaw" (29 : Nat) (65535 : Int32)).before a0 Z = true := hw _ (List.mem_of_getElem? (i := 5) rfl)
theorem w_6 {Z : State} {a0 : Array Value} (hw : ∀ d ∈ tables_1, d.before a0 Z = true) : (Jvm.Cond.constant "com/example/libonce/libonce/StorableTextKeptLengthPinLaw" (31 : Nat) (56320 : Int32)).before a0 Z = true := hw _ (List.mem_of_getElem? (i := 6) rfl)
theorem w_7 {Z : State} {a0 : Array Value} (hw : ∀ d ∈ tables_1, d.before a0 Z = true) : (Jvm.Cond.arrayClass Jvm.ClassFile.FieldType.char).before a0 Z = true := hw _ (List.mem_of_getElem? (i := 7) rfl)
theorem w_8 {Z : State} {a0 : Array Value} (hw : ∀ d ∈ tables_1, d.before a0 Z = true) : (Jvm.Cond.classLink "com/example/libonce/libonce/StorableTextKeptLengthPinLaw" (14 : Nat) "java/lang/String").before a0 Z = true := hw _ (List.mem_of_getElem? (i := 8) rfl)
theorem w_9 {Z : State} {a0 : Array Value} (hw : ∀ d ∈ tables_1, d.before a0 Z = true) : (Jvm.Cond.instantiable "java/lang/String" (4 : Nat)).before a0 Z = true := hw _ (List.mem_of_getElem? (i := 9) rfl)
theorem w_10 {Z : State} {a0 : Array Value} (hw : ∀ d ∈ tables_1, d.before a0 Z = true) : (Jvm.Cond.initialized "java/lang/String").before a0 Z = true := hw _ (List.mem_of_getElem? (i := 10) rfl)
theorem w_11 {Z : State} {a0 : Array Value} (hw : ∀ d ∈ tables_1, d.before a0 Z = true) : (Jvm.Cond.methodLink "com/example/libonce/libonce/StorableTextKeptLengthPinLaw" (16 : Nat) ({ cls := "java/lang/String", name := "<init>", desc := "([C)V" } : Jvm.MethodName)).before a0 Z = true := hw _ (List.mem_of_getElem? (i := 11) rfl)
theorem w_12 {Z : State} {a0 : Array Value} (hw : ∀ d ∈ tables_1, d.before a0 Z = true) : (Jvm.Cond.instanceMethod ({ cls := "java/lang/String", name := "<init>", desc := "([C)V" } : Jvm.MethodName)).before a0 Z = true := hw _ (List.mem_of_getElem? (i := 12) rfl)
theorem w_13 {Z : State} {a0 : Array Value} (hw : ∀ d ∈ tables_1, d.before a0 Z = true) : (Jvm.Cond.code ({ cls := "java/lang/String", name := "<init>", desc := "([C)V" } : Jvm.MethodName) jdk_42_method_3_code (2 : Nat) (Option.none : Option Jvm.ClassFile.FieldType)).before a0 Z = true := hw _ (List.mem_of_getElem? (i := 13) rfl)
theorem w_14 {Z : State} {a0 : Array Value} (hw : ∀ d ∈ tables_1, d.before a0 Z = true) : (Jvm.Cond.methodLink "java/lang/String" (27 : Nat) ({ cls := "java/lang/String", name := "<init>", desc := "([CIILjava/lang/Void;)V" } : Jvm.MethodName)).before a0 Z = true := hw _ (List.mem_of_getElem? (i := 14) rfl)
theorem w_15 {Z : State} {a0 : Array Value} (hw : ∀ d ∈ tables_1, d.before a0 Z = true) : (Jvm.Cond.instanceMethod ({ cls := "java/lang/String", name := "<init>", desc := "([CIILjava/lang/Void;)V" } : Jvm.MethodName)).before a0 Z = true := hw _ (List.mem_of_getElem? (i := 15) rfl)
theorem w_17 {Z : State} {a0 : Array Value} (hw : ∀ d ∈ tables_1, d.before a0 Z = true) : (Jvm.Cond.code ({ cls := "java/lang/String", name := "<init>", desc := "([CIILjava/lang/Void;)V" } : Jvm.MethodName) jdk_42_method_149_code (6 : Nat) (Option.none : Option Jvm.ClassFile.FieldType)).before a0 Z = true := hw _ (List.mem_of_getElem? (i := 17) rfl)
theorem w_18 {Z : State} {a0 : Array Value} (hw : ∀ d ∈ tables_1, d.before a0 Z = true) : (Jvm.Cond.methodLink "java/lang/String" (1 : Nat) ({ cls := "java/lang/Object", name := "<init>", desc := "()V" } : Jvm.MethodName)).before a0 Z = true := hw _ (List.mem_of_getElem? (i := 18) rfl)
theorem w_19 {Z : State} {a0 : Array Value} (hw : ∀ d ∈ tables_1, d.before a0 Z = true) : (Jvm.Cond.instanceMethod ({ cls := "java/lang/Object", name := "<init>", desc := "()V" } : Jvm.MethodName)).before a0 Z = true := hw _ (List.mem_of_getElem? (i := 19) rfl)
theorem w_20 {Z : State} {a0 : Array Value} (hw : ∀ d ∈ tables_1, d.before a0 Z = true) : (Jvm.Cond.code ({ cls := "java/lang/Object", name := "<init>", desc := "()V" } : Jvm.MethodName) object_method_1_code (1 : Nat) (Option.none : Option Jvm.ClassFile.FieldType)).before a0 Z = true := hw _ (List.mem_of_getElem? (i := 20) rfl)
theorem w_21 {Z : State} {a0 : Array Value} (hw : ∀ d ∈ tables_1, d.before a0 Z = true) : (Jvm.Cond.fieldLink "java/lang/String" (38 : Nat) "java/lang/String" "COMPACT_STRINGS" "Z").before a0 Z = true := hw _ (List.mem_of_getElem? (i := 21) rfl)
theorem w_22 {Z : State} {a0 : Array Value} (hw : ∀ d ∈ tables_1, d.before a0 Z = true) : (Jvm.Cond.methodLink "java/lang/String" (177 : Nat) ({ cls := "java/lang/StringUTF16", name := "compress", desc := "([CII)[B" } : Jvm.MethodName)).before a0 Z = true := hw _ (List.mem_of_getElem? (i := 22) rfl)
theorem w_23 {Z : State} {a0 : Array Value} (hw : ∀ d ∈ tables_1, d.before a0 Z = true) : (Jvm.Cond.static ({ cls := "java/lang/StringUTF16", name := "compress", desc := "([CII)[B" } : Jvm.MethodName)).before a0 Z = true := hw _ (List.mem_of_getElem? (i := 23) rfl)
theorem w_24 {Z : State} {a0 : Array Value} (hw : ∀ d ∈ tables_1, d.before a0 Z = true) : (Jvm.Cond.initialized "java/lang/StringUTF16").before a0 Z = true := hw _ (List.mem_of_getElem? (i := 24) rfl)
theorem w_25 {Z : State} {a0 : Array Value} (hw : ∀ d ∈ tables_1, d.before a0 Z = true) : (Jvm.Cond.code ({ cls := "java/lang/StringUTF16", name := "compress", desc := "([CII)[B" } : Jvm.MethodName) jdk_52_method_16_code (6 : Nat) (Option.some (Jvm.ClassFile.FieldType.array Jvm.ClassFile.FieldType.byte))).before a0 Z = true := hw _ (List.mem_of_getElem? (i := 25) rfl)
theorem w_26 {Z : State} {a0 : Array Value} (hw : ∀ d ∈ tables_1, d.before a0 Z = true) : (Jvm.Cond.arrayClass Jvm.ClassFile.FieldType.byte).before a0 Z = true := hw _ (List.mem_of_getElem? (i := 26) rfl)
theorem w_27 {Z : State} {a0 : Array Value} (hw : ∀ d ∈ tables_1, d.before a0 Z = true) : (Jvm.Cond.methodLink "java/lang/StringUTF16" (115 : Nat) ({ cls := "java/lang/StringUTF16", name := "compress", desc := "([CI[BII)I" } : Jvm.MethodName)).before a0 Z = true := hw _ (List.mem_of_getElem? (i := 27) rfl)
theorem w_28 {Z : State} {a0 : Array Value} (hw : ∀ d ∈ tables_1, d.before a0 Z = true) : (Jvm.Cond.static ({ cls := "java/lang/StringUTF16", name := "compress", desc := "([CI[BII)I" } : Jvm.MethodName)).before a0 Z = true := hw _ (List.mem_of_getElem? (i := 28) rfl)
theorem w_29 {Z : State} {a0 : Array Value} (hw : ∀ d ∈ tables_1, d.before a0 Z = true) : (Jvm.Cond.code ({ cls := "java/lang/StringUTF16", name := "compress", desc := "([CI[BII)I" } : Jvm.MethodName) jdk_52_method_21_code (7 : Nat) (Option.some Jvm.ClassFile.FieldType.int)).before a0 Z = true := hw _ (List.mem_of_getElem? (i := 29) rfl)
theorem w_30 {Z : State} {a0 : Array Value} (hw : ∀ d ∈ tables_1, d.before a0 Z = true) : (Jvm.Cond.methodLink "java/lang/StringUTF16" (119 : Nat) ({ cls := "java/lang/StringUTF16", name := "toBytes", desc := "([CII)[B" } : Jvm.MethodName)).before a0 Z = true := hw _ (List.mem_of_getElem? (i := 30) rfl)
theorem w_31 {Z : State} {a0 : Array Value} (hw : ∀ d ∈ tables_1, d.before a0 Z = true) : (Jvm.Cond.static ({ cls := "java/lang/StringUTF16", name := "toBytes", desc := "([CII)[B" } : Jvm.MethodName)).before a0 Z = true := hw _ (List.mem_of_getElem? (i := 31) rfl)
theorem w_32 {Z : State} {a0 : Array Value} (hw : ∀ d ∈ tables_1, d.before a0 Z = true) : (Jvm.Cond.code ({ cls := "java/lang/StringUTF16", name := "toBytes", desc := "([CII)[B" } : Jvm.MethodName) jdk_52_method_14_code (5 : Nat) (Option.some (Jvm.ClassFile.FieldType.array Jvm.ClassFile.FieldType.byte))).before a0 Z = true := hw _ (List.mem_of_getElem? (i := 32) rfl)
theorem w_33 {Z : State} {a0 : Array Value} (hw : ∀ d ∈ tables_1, d.before a0 Z = true) : (Jvm.Cond.methodLink "java/lang/StringUTF16" (107 : Nat) ({ cls := "java/lang/StringUTF16", name := "newBytesFor", desc := "(I)[B" } : Jvm.MethodName)).before a0 Z = true := hw _ (List.mem_of_getElem? (i := 33) rfl)
theorem w_34 {Z : State} {a0 : Array Value} (hw : ∀ d ∈ tables_1, d.before a0 Z = true) : (Jvm.Cond.static ({ cls := "java/lang/StringUTF16", name := "newBytesFor", desc := "(I)[B" } : Jvm.MethodName)).before a0 Z = true := hw _ (List.mem_of_getElem? (i := 34) rfl)
theorem w_35 {Z : State} {a0 : Array Value} (hw : ∀ d ∈ tables_1, d.before a0 Z = true) : (Jvm.Cond.code ({ cls := "java/lang/StringUTF16", name := "newBytesFor", desc := "(I)[B" } : Jvm.MethodName) jdk_52_method_2_code (1 : Nat) (Option.some (Jvm.ClassFile.FieldType.array Jvm.ClassFile.FieldType.byte))).before a0 Z = true := hw _ (List.mem_of_getElem? (i := 35) rfl)
theorem w_36 {Z : State} {a0 : Array Value} (hw : ∀ d ∈ tables_1, d.before a0 Z = true) : (Jvm.Cond.methodLink "java/lang/StringUTF16" (11 : Nat) ({ cls := "java/lang/StringUTF16", name := "newBytesLength", desc := "(I)I" } : Jvm.MethodName)).before a0 Z = true := hw _ (List.mem_of_getElem? (i := 36) rfl)
theorem w_37 {Z : State} {a0 : Array Value} (hw : ∀ d ∈ tables_1, d.before a0 Z = true) : (Jvm.Cond.static ({ cls := "java/lang/StringUTF16", name := "newBytesLength", desc := "(I)I" } : Jvm.MethodName)).before a0 Z = true := hw _ (List.mem_of_getElem? (i := 37) rfl)
theorem w_38 {Z : State} {a0 : Array Value} (hw : ∀ d ∈ tables_1, d.before a0 Z = true) : (Jvm.Cond.code ({ cls := "java/lang/StringUTF16", name := "newBytesLength", desc := "(I)I" } : Jvm.MethodName) jdk_52_method_3_code (1 : Nat) (Option.some Jvm.ClassFile.FieldType.int)).before a0 Z = true := hw _ (List.mem_of_getElem? (i := 38) rfl)
theorem w_39 {Z : State} {a0 : Array Value} (hw : ∀ d ∈ tables_1, d.before a0 Z = true) : (Jvm.Cond.constant "java/lang/StringUTF16" (20 : Nat) (1073741823 : Int32)).before a0 Z = true := hw _ (List.mem_of_getElem? (i := 39) rfl)
theorem w_40 {Z : State} {a0 : Array Value} (hw : ∀ d ∈ tables_1, d.before a0 Z = true) : (Jvm.Cond.methodLink "java/lang/StringUTF16" (111 : Nat) ({ cls := "java/lang/StringUTF16", name := "putChar", desc := "([BII)V" } : Jvm.MethodName)).before a0 Z = true := hw _ (List.mem_of_getElem? (i := 40) rfl)
theorem w_41 {Z : State} {a0 : Array Value} (hw : ∀ d ∈ tables_1, d.before a0 Z = true) : (Jvm.Cond.static ({ cls := "java/lang/StringUTF16", name := "putChar", desc := "([BII)V" } : Jvm.MethodName)).before a0 Z = true := hw _ (List.mem_of_getElem? (i := 41) rfl)
theorem w_42 {Z : State} {a0 : Array Value} (hw : ∀ d ∈ tables_1, d.before a0 Z = true) : (Jvm.Cond.code ({ cls := "java/lang/StringUTF16", name := "putChar", desc := "([BII)V" } : Jvm.MethodName) jdk_52_method_4_code (3 : Nat) (Option.none : Option Jvm.ClassFile.FieldType)).before a0 Z = true := hw _ (List.mem_of_getElem? (i := 42) rfl)
theorem w_43 {Z : State} {a0 : Array Value} (hw : ∀ d ∈ tables_1, d.before a0 Z = true) : (Jvm.Cond.fieldLink "java/lang/StringUTF16" (44 : Nat) "java/lang/StringUTF16" "$assertionsDisabled" "Z").before a0 Z = true := hw _ (List.mem_of_getElem? (i := 43) rfl)
theorem w_44 {Z : State} {a0 : Array Value} (hw : ∀ d ∈ tables_1, d.before a0 Z = true) : (Jvm.Cond.fieldLink "java/lang/StringUTF16" (59 : Nat) "java/lang/StringUTF16" "HI_BYTE_SHIFT" "I").before a0 Z = true := hw _ (List.mem_of_getElem? (i := 44) rfl)
theorem w_45 {Z : State} {a0 : Array Value} (hw : ∀ d ∈ tables_1, d.before a0 Z = true) : (Jvm.Cond.fieldLink "java/lang/StringUTF16" (63 : Nat) "java/lang/StringUTF16" "LO_BYTE_SHIFT" "I").before a0 Z = true := hw _ (List.mem_of_getElem? (i := 45) rfl)
theorem w_46 {Z : State} {a0 : Array Value} (hw : ∀ d ∈ tables_1, d.before a0 Z = true) : (Jvm.Cond.methodLink "java/lang/StringUTF16" (71 : Nat) ({ cls := "java/lang/StringUTF16", name := "getChar", desc := "([BI)C" } : Jvm.MethodName)).before a0 Z = true := hw _ (List.mem_of_getElem? (i := 46) rfl)
theorem w_47 {Z : State} {a0 : Array Value} (hw : ∀ d ∈ tables_1, d.before a0 Z = true) : (Jvm.Cond.static ({ cls := "java/lang/StringUTF16", name := "getChar", desc := "([BI)C" } : Jvm.MethodName)).before a0 Z = true := hw _ (List.mem_of_getElem? (i := 47) rfl)
theorem w_48 {Z : State} {a0 : Array Value} (hw : ∀ d ∈ tables_1, d.before a0 Z = true) : (Jvm.Cond.code ({ cls := "java/lang/StringUTF16", name := "getChar", desc := "([BI)C" } : Jvm.MethodName) jdk_52_method_5_code (2 : Nat) (Option.some Jvm.ClassFile.FieldType.char)).before a0 Z = true := hw _ (List.mem_of_getElem? (i := 48) rfl)
theorem w_49 {Z : State} {a0 : Array Value} (hw : ∀ d ∈ tables_1, d.before a0 Z = true) : (Jvm.Cond.methodLink "java/lang/String" (47 : Nat) ({ cls := "java/lang/StringUTF16", name := "coderFromArrayLen", desc := "([BI)B" } : Jvm.MethodName)).before a0 Z = true := hw _ (List.mem_of_getElem? (i := 49) rfl)
theorem w_50 {Z : State} {a0 : Array Value} (hw : ∀ d ∈ tables_1, d.before a0 Z = true) : (Jvm.Cond.static ({ cls := "java/lang/StringUTF16", name := "coderFromArrayLen", desc := "([BI)B" } : Jvm.MethodName)).before a0 Z = true := hw _ (List.mem_of_getElem? (i := 50) rfl)
theorem w_51 {Z : State} {a0 : Array Value} (hw : ∀ d ∈ tables_1, d.before a0 Z = true) : (Jvm.Cond.code ({ cls := "java/lang/StringUTF16", name := "coderFromArrayLen", desc := "([BI)B" } : Jvm.MethodName) jdk_52_method_15_code (2 : Nat) (Option.some Jvm.ClassFile.FieldType.byte)).before a0 Z = true := hw _ (List.mem_of_getElem? (i := 51) rfl)
theorem w_52 {Z : State} {a0 : Array Value} (hw : ∀ d ∈ tables_1, d.before a0 Z = true) : (Jvm.Cond.fieldLink "java/lang/String" (15 : Nat) "java/lang/String" "coder" "B").before a0 Z = true := hw _ (List.mem_of_getElem? (i := 52) rfl)
theorem w_53 {Z : State} {a0 : Array Value} (hw : ∀ d ∈ tables_1, d.before a0 Z = true) : (Jvm.Cond.laysFinal "java/lang/String" "java/lang/String" "coder" "B").before a0 Z = true := hw _ (List.mem_of_getElem? (i := 53) rfl)
theorem w_54 {Z : State} {a0 : Array Value} (hw : ∀ d ∈ tables_1, d.before a0 Z = true) : (Jvm.Cond.fieldLink "java/lang/String" (9 : Nat) "java/lang/String" "value" "[B").before a0 Z = true := hw _ (List.mem_of_getElem? (i := 54) rfl)
theorem w_55 {Z : State} {a0 : Array Value} (hw : ∀ d ∈ tables_1, d.before a0 Z = true) : (Jvm.Cond.laysFinal "java/lang/String" "java/lang/String" "value" "[B").before a0 Z = true := hw _ (List.mem_of_getElem? (i := 55) rfl)
theorem w_56 {Z : State} {a0 : Array Value} (hw : ∀ d ∈ tables_1, d.before a0 Z = true) : (Jvm.Cond.methodLink "com/example/libonce/libonce/StorableTextKeptLengthPinLaw" (19 : Nat) ({ cls := "com/example/libonce/libonce/StorableText", name := "keptLength", desc := "(Ljava/lang/String;I)I" } : Jvm.MethodName)).before a0 Z = true := hw _ (List.mem_of_getElem? (i := 56) rfl)
theorem w_57 {Z : State} {a0 : Array Value} (hw : ∀ d ∈ tables_1, d.before a0 Z = true) : (Jvm.Cond.static ({ cls := "com/example/libonce/libonce/StorableText", name := "keptLength", desc := "(Ljava/lang/String;I)I" } : Jvm.MethodName)).before a0 Z = true := hw _ (List.mem_of_getElem? (i := 57) rfl)
theorem w_58 {Z : State} {a0 : Array Value} (hw : ∀ d ∈ tables_1, d.before a0 Z = true) : (Jvm.Cond.initialized "com/example/libonce/libonce/StorableText").before a0 Z = true := hw _ (List.mem_of_getElem? (i := 58) rfl)
theorem w_59 {Z : State} {a0 : Array Value} (hw : ∀ d ∈ tables_1, d.before a0 Z = true) : (Jvm.Cond.code ({ cls := "com/example/libonce/libonce/StorableText", name := "keptLength", desc := "(Ljava/lang/String;I)I" } : Jvm.MethodName) prog_13_method_4_code (4 : Nat) (Option.some Jvm.ClassFile.FieldType.int)).before a0 Z = true := hw _ (List.mem_of_getElem? (i := 59) rfl)
theorem w_60 {Z : State} {a0 : Array Value} (hw : ∀ d ∈ tables_1, d.before a0 Z = true) : (Jvm.Cond.methodLink "com/example/libonce/libonce/StorableText" (7 : Nat) ({ cls := "java/lang/String", name := "charAt", desc := "(I)C" } : Jvm.MethodName)).before a0 Z = true := hw _ (List.mem_of_getElem? (i := 60) rfl)
theorem w_61 {Z : State} {a0 : Array Value} (hw : ∀ d ∈ tables_1, d.before a0 Z = true) : (Jvm.Cond.declares ({ cls := "java/lang/String", name := "charAt", desc := "(I)C" } : Jvm.MethodName)).before a0 Z = true := hw _ (List.mem_of_getElem? (i := 61) rfl)
theorem w_62 {Z : State} {a0 : Array Value} (hw : ∀ d ∈ tables_1, d.before a0 Z = true) : (Jvm.Cond.instanceMethod ({ cls := "java/lang/String", name := "charAt", desc := "(I)C" } : Jvm.MethodName)).before a0 Z = true := hw _ (List.mem_of_getElem? (i := 62) rfl)
theorem w_63 {Z : State} {a0 : Array Value} (hw : ∀ d ∈ tables_1, d.before a0 Z = true) : (Jvm.Cond.selects "java/lang/String" ({ cls := "java/lang/String", name := "charAt", desc := "(I)C" } : Jvm.MethodName) ({ cls := "java/lang/String", name := "charAt", desc := "(I)C" } : Jvm.MethodName)).before a0 Z = true := hw _ (List.mem_of_getElem? (i := 63) rfl)
theorem w_64 {Z : State} {a0 : Array Value} (hw : ∀ d ∈ tables_1, d.before a0 Z = true) : (Jvm.Cond.code ({ cls := "java/lang/String", name := "charAt", desc := "(I)C" } : Jvm.MethodName) jdk_42_method_56_code (2 : Nat) (Option.some Jvm.ClassFile.FieldType.char)).before a0 Z = true := hw _ (List.mem_of_getElem? (i := 64) rfl)
theorem w_65 {Z : State} {a0 : Array Value} (hw : ∀ d ∈ tables_1, d.before a0 Z = true) : (Jvm.Cond.methodLink "java/lang/String" (492 : Nat) ({ cls := "java/lang/String", name := "isLatin1", desc := "()Z" } : Jvm.MethodName)).before a0 Z = true := hw _ (List.mem_of_getElem? (i := 65) rfl)
theorem w_66 {Z : State} {a0 : Array Value} (hw : ∀ d ∈ tables_1, d.before a0 Z = true) : (Jvm.Cond.declares ({ cls := "java/lang/String", name := "isLatin1", desc := "()Z" } : Jvm.MethodName)).before a0 Z = true := hw _ (List.mem_of_getElem? (i := 66) rfl)
theorem w_67 {Z : State} {a0 : Array Value} (hw : ∀ d ∈ tables_1, d.before a0 Z = true) : (Jvm.Cond.instanceMethod ({ cls := "java/lang/String", name := "isLatin1", desc := "()Z" } : Jvm.MethodName)).before a0 Z = true := hw _ (List.mem_of_getElem? (i := 67) rfl)
theorem w_68 {Z : State} {a0 : Array Value} (hw : ∀ d ∈ tables_1, d.before a0 Z = true) : (Jvm.Cond.selects "java/lang/String" ({ cls := "java/lang/String", name := "isLatin1", desc := "()Z" } : Jvm.MethodName) ({ cls := "java/lang/String", name := "isLatin1", desc := "()Z" } : Jvm.MethodName)).before a0 Z = true := hw _ (List.mem_of_getElem? (i := 68) rfl)
theorem w_69 {Z : State} {a0 : Array Value} (hw : ∀ d ∈ tables_1, d.before a0 Z = true) : (Jvm.Cond.code ({ cls := "java/lang/String", name := "isLatin1", desc := "()Z" } : Jvm.MethodName) jdk_42_method_154_code (1 : Nat) (Option.some Jvm.ClassFile.FieldType.boolean)).before a0 Z = true := hw _ (List.mem_of_getElem? (i := 69) rfl)
theorem w_70 {Z : State} {a0 : Array Value} (hw : ∀ d ∈ tables_1, d.before a0 Z = true) : (Jvm.Cond.methodLink "java/lang/String" (498 : Nat) ({ cls := "java/lang/StringUTF16", name := "charAt", desc := "([BI)C" } : Jvm.MethodName)).before a0 Z = true := hw _ (List.mem_of_getElem? (i := 70) rfl)
theorem w_71 {Z : State} {a0 : Array Value} (hw : ∀ d ∈ tables_1, d.before a0 Z = true) : (Jvm.Cond.static ({ cls := "java/lang/StringUTF16", name := "charAt", desc := "([BI)C" } : Jvm.MethodName)).before a0 Z = true := hw _ (List.mem_of_getElem? (i := 71) rfl)
theorem w_72 {Z : State} {a0 : Array Value} (hw : ∀ d ∈ tables_1, d.before a0 Z = true) : (Jvm.Cond.code ({ cls := "java/lang/StringUTF16", name := "charAt", desc := "([BI)C" } : Jvm.MethodName) jdk_52_method_83_code (2 : Nat) (Option.some Jvm.ClassFile.FieldType.char)).before a0 Z = true := hw _ (List.mem_of_getElem? (i := 72) rfl)
theorem w_73 {Z : State} {a0 : Array Value} (hw : ∀ d ∈ tables_1, d.before a0 Z = true) : (Jvm.Cond.methodLink "java/lang/StringUTF16" (67 : Nat) ({ cls := "java/lang/StringUTF16", name := "checkIndex", desc := "(I[B)V" } : Jvm.MethodName)).before a0 Z = true := hw _ (List.mem_of_getElem? (i := 73) rfl)
theorem w_74 {Z : State} {a0 : Array Value} (hw : ∀ d ∈ tables_1, d.before a0 Z = true) : (Jvm.Cond.static ({ cls := "java/lang/StringUTF16", name := "checkIndex", desc := "(I[B)V" } : Jvm.MethodName)).before a0 Z = true := hw _ (List.mem_of_getElem? (i := 74) rfl)
theorem w_75 {Z : State} {a0 : Array Value} (hw : ∀ d ∈ tables_1, d.before a0 Z = true) : (Jvm.Cond.code ({ cls := "java/lang/StringUTF16", name := "checkIndex", desc := "(I[B)V" } : Jvm.MethodName) jdk_52_method_91_code (2 : Nat) (Option.none : Option Jvm.ClassFile.FieldType)).before a0 Z = true := hw _ (List.mem_of_getElem? (i := 75) rfl)
theorem w_76 {Z : State} {a0 : Array Value} (hw : ∀ d ∈ tables_1, d.before a0 Z = true) : (Jvm.Cond.methodLink "java/lang/StringUTF16" (48 : Nat) ({ cls := "java/lang/StringUTF16", name := "length", desc := "([B)I" } : Jvm.MethodName)).before a0 Z = true := hw _ (List.mem_of_getElem? (i := 76) rfl)
theorem w_77 {Z : State} {a0 : Array Value} (hw : ∀ d ∈ tables_1, d.before a0 Z = true) : (Jvm.Cond.static ({ cls := "java/lang/StringUTF16", name := "length", desc := "([B)I" } : Jvm.MethodName)).before a0 Z = true := hw _ (List.mem_of_getElem? (i := 77) rfl)
theorem w_78 {Z : State} {a0 : Array Value} (hw : ∀ d ∈ tables_1, d.before a0 Z = true) : (Jvm.Cond.code ({ cls := "java/lang/StringUTF16", name := "length", desc := "([B)I" } : Jvm.MethodName) jdk_52_method_6_code (1 : Nat) (Option.some Jvm.ClassFile.FieldType.int)).before a0 Z = true := hw _ (List.mem_of_getElem? (i := 78) rfl)
theorem w_79 {Z : State} {a0 : Array Value} (hw : ∀ d ∈ tables_1, d.before a0 Z = true) : (Jvm.Cond.methodLink "java/lang/StringUTF16" (414 : Nat) ({ cls := "java/lang/String", name := "checkIndex", desc := "(II)V" } : Jvm.MethodName)).before a0 Z = true := hw _ (List.mem_of_getElem? (i := 79) rfl)
theorem w_80 {Z : State} {a0 : Array Value} (hw : ∀ d ∈ tables_1, d.before a0 Z = true) : (Jvm.Cond.static ({ cls := "java/lang/String", name := "checkIndex", desc := "(II)V" } : Jvm.MethodName)).before a0 Z = true := hw _ (List.mem_of_getElem? (i := 80) rfl)
theorem w_81 {Z : State} {a0 : Array Value} (hw : ∀ d ∈ tables_1, d.before a0 Z = true) : (Jvm.Cond.code ({ cls := "java/lang/String", name := "checkIndex", desc := "(II)V" } : Jvm.MethodName) jdk_42_method_155_code (2 : Nat) (Option.none : Option Jvm.ClassFile.FieldType)).before a0 Z = true := hw _ (List.mem_of_getElem? (i := 81) rfl)
theorem w_82 {Z : State} {a0 : Array Value} (hw : ∀ d ∈ tables_1, d.before a0 Z = true) : (Jvm.Cond.fieldLink "java/lang/String" (1053 : Nat) "jdk/internal/util/Preconditions" "SIOOBE_FORMATTER" "Ljava/util/function/BiFunction;").before a0 Z = true := hw _ (List.mem_of_getElem? (i := 82) rfl)
theorem w_83 {Z : State} {a0 : Array Value} (hw : ∀ d ∈ tables_1, d.before a0 Z = true) : (Jvm.Cond.initialized "jdk/internal/util/Preconditions").before a0 Z = true := hw _ (List.mem_of_getElem? (i := 83) rfl)
theorem w_84 {Z : State} {a0 : Array Value} (hw : ∀ d ∈ tables_1, d.before a0 Z = true) : (Jvm.Cond.methodLink "java/lang/String" (1059 : Nat) ({ cls := "jdk/internal/util/Preconditions", name := "checkIndex", desc := "(IILjava/util/function/BiFunction;)I" } : Jvm.MethodName)).before a0 Z = true := hw _ (List.mem_of_getElem? (i := 84) rfl)
theorem w_85 {Z : State} {a0 : Array Value} (hw : ∀ d ∈ tables_1, d.before a0 Z = true) : (Jvm.Cond.static ({ cls := "jdk/internal/util/Preconditions", name := "checkIndex", desc := "(IILjava/util/function/BiFunction;)I" } : Jvm.MethodName)).before a0 Z = true := hw _ (List.mem_of_getElem? (i := 85) rfl)
theorem w_86 {Z : State} {a0 : Array Value} (hw : ∀ d ∈ tables_1, d.before a0 Z = true) : (Jvm.Cond.code ({ cls := "jdk/internal/util/Preconditions", name := "checkIndex", desc := "(IILjava/util/function/BiFunction;)I" } : Jvm.MethodName) jdk_41_method_11_code (3 : Nat) (Option.some Jvm.ClassFile.FieldType.int)).before a0 Z = true := hw _ (List.mem_of_getElem? (i := 86) rfl)
theorem w_87 {Z : State} {a0 : Array Value} (hw : ∀ d ∈ tables_1, d.before a0 Z = true) : (Jvm.Cond.methodLink "com/example/libonce/libonce/StorableTextKeptLengthPinLaw" (25 : Nat) ({ cls := "com/example/libonce/libonce/StorableTextKeptLengthPinLaw", name := "expected", desc := "([CII)I" } : Jvm.MethodName)).before a0 Z = true := hw _ (List.mem_of_getElem? (i := 87) rfl)
theorem w_88 {Z : State} {a0 : Array Value} (hw : ∀ d ∈ tables_1, d.before a0 Z = true) : (Jvm.Cond.static ({ cls := "com/example/libonce/libonce/StorableTextKeptLengthPinLaw", name := "expected", desc := "([CII)I" } : Jvm.MethodName)).before a0 Z = true := hw _ (List.mem_of_getElem? (i := 88) rfl)
theorem w_89 {Z : State} {a0 : Array Value} (hw : ∀ d ∈ tables_1, d.before a0 Z = true) : (Jvm.Cond.code ({ cls := "com/example/libonce/libonce/StorableTextKeptLengthPinLaw", name := "expected", desc := "([CII)I" } : Jvm.MethodName) method_4_code (5 : Nat) (Option.some Jvm.ClassFile.FieldType.int)).before a0 Z = true := hw _ (List.mem_of_getElem? (i := 89) rfl)
theorem w_90 {Z : State} {a0 : Array Value} (hw : ∀ d ∈ tables_1, d.before a0 Z = true) : (Jvm.Cond.methodLink "com/example/libonce/libonce/StorableText" (47 : Nat) ({ cls := "java/lang/Character", name := "isSurrogate", desc := "(C)Z" } : Jvm.MethodName)).before a0 Z = true := hw _ (List.mem_of_getElem? (i := 90) rfl)
theorem w_91 {Z : State} {a0 : Array Value} (hw : ∀ d ∈ tables_1, d.before a0 Z = true) : (Jvm.Cond.static ({ cls := "java/lang/Character", name := "isSurrogate", desc := "(C)Z" } : Jvm.MethodName)).before a0 Z = true := hw _ (List.mem_of_getElem? (i := 91) rfl)
theorem w_92 {Z : State} {a0 : Array Value} (hw : ∀ d ∈ tables_1, d.before a0 Z = true) : (Jvm.Cond.initialized "java/lang/Character").before a0 Z = true := hw _ (List.mem_of_getElem? (i := 92) rfl)
theorem w_93 {Z : State} {a0 : Array Value} (hw : ∀ d ∈ tables_1, d.before a0 Z = true) : (Jvm.Cond.code ({ cls := "java/lang/Character", name := "isSurrogate", desc := "(C)Z" } : Jvm.MethodName) jdk_89_method_16_code (1 : Nat) (Option.some Jvm.ClassFile.FieldType.boolean)).before a0 Z = true := hw _ (List.mem_of_getElem? (i := 93) rfl)
theorem w_94 {Z : State} {a0 : Array Value} (hw : ∀ d ∈ tables_1, d.before a0 Z = true) : (Jvm.Cond.constant "java/lang/Character" (75 : Nat) (55296 : Int32)).before a0 Z = true := hw _ (List.mem_of_getElem? (i := 94) rfl)
theorem w_95 {Z : State} {a0 : Array Value} (hw : ∀ d ∈ tables_1, d.before a0 Z = true) : (Jvm.Cond.constant "java/lang/Character" (77 : Nat) (57344 : Int32)).before a0 Z = true := hw _ (List.mem_of_getElem? (i := 95) rfl)
theorem w_96 {Z : State} {a0 : Array Value} (hw : ∀ d ∈ tables_1, d.before a0 Z = true) : (Jvm.Cond.methodLink "com/example/libonce/libonce/StorableText" (53 : Nat) ({ cls := "java/lang/Character", name := "isHighSurrogate", desc := "(C)Z" } : Jvm.MethodName)).before a0 Z = true := hw _ (List.mem_of_getElem? (i := 96) rfl)
theorem w_97 {Z : State} {a0 : Array Value} (hw : ∀ d ∈ tables_1, d.before a0 Z = true) : (Jvm.Cond.static ({ cls := "java/lang/Character", name := "isHighSurrogate", desc := "(C)Z" } : Jvm.MethodName)).before a0 Z = true := hw _ (List.mem_of_getElem? (i := 97) rfl)
theorem w_98 {Z : State} {a0 : Array Value} (hw : ∀ d ∈ tables_1, d.before a0 Z = true) : (Jvm.Cond.code ({ cls := "java/lang/Character", name := "isHighSurrogate", desc := "(C)Z" } : Jvm.MethodName) jdk_89_method_14_code (1 : Nat) (Option.some Jvm.ClassFile.FieldType.boolean)).before a0 Z = true := hw _ (List.mem_of_getElem? (i := 98) rfl)
theorem w_99 {Z : State} {a0 : Array Value} (hw : ∀ d ∈ tables_1, d.before a0 Z = true) : (Jvm.Cond.constant "java/lang/Character" (76 : Nat) (56320 : Int32)).before a0 Z = true := hw _ (List.mem_of_getElem? (i := 99) rfl)
theorem w_100 {Z : State} {a0 : Array Value} (hw : ∀ d ∈ tables_1, d.before a0 Z = true) : (Jvm.Cond.constant "com/example/libonce/libonce/StorableTextKeptLengthPinLaw" (30 : Nat) (55296 : Int32)).before a0 Z = true := hw _ (List.mem_of_getElem? (i := 100) rfl)
theorem w_101 {Z : State} {a0 : Array Value} (hw : ∀ d ∈ tables_1, d.before a0 Z = true) : (Jvm.Cond.constant "com/example/libonce/libonce/StorableTextKeptLengthPinLaw" (32 : Nat) (57343 : Int32)).before a0 Z = true := hw _ (List.mem_of_getElem? (i := 101) rfl)
theorem w_102 {Z : State} {a0 : Array Value} (hw : ∀ d ∈ tables_1, d.before a0 Z = true) : (Jvm.Cond.methodLink "com/example/libonce/libonce/StorableText" (1 : Nat) ({ cls := "java/lang/String", name := "length", desc := "()I" } : Jvm.MethodName)).before a0 Z = true := hw _ (List.mem_of_getElem? (i := 102) rfl)
theorem w_103 {Z : State} {a0 : Array Value} (hw : ∀ d ∈ tables_1, d.before a0 Z = true) : (Jvm.Cond.declares ({ cls := "java/lang/String", name := "length", desc := "()I" } : Jvm.MethodName)).before a0 Z = true := hw _ (List.mem_of_getElem? (i := 103) rfl)
theorem w_104 {Z : State} {a0 : Array Value} (hw : ∀ d ∈ tables_1, d.before a0 Z = true) : (Jvm.Cond.instanceMethod ({ cls := "java/lang/String", name := "length", desc := "()I" } : Jvm.MethodName)).before a0 Z = true := hw _ (List.mem_of_getElem? (i := 104) rfl)
theorem w_105 {Z : State} {a0 : Array Value} (hw : ∀ d ∈ tables_1, d.before a0 Z = true) : (Jvm.Cond.selects "java/lang/String" ({ cls := "java/lang/String", name := "length", desc := "()I" } : Jvm.MethodName) ({ cls := "java/lang/String", name := "length", desc := "()I" } : Jvm.MethodName)).before a0 Z = true := hw _ (List.mem_of_getElem? (i := 105) rfl)
theorem w_106 {Z : State} {a0 : Array Value} (hw : ∀ d ∈ tables_1, d.before a0 Z = true) : (Jvm.Cond.code ({ cls := "java/lang/String", name := "length", desc := "()I" } : Jvm.MethodName) jdk_42_method_54_code (1 : Nat) (Option.some Jvm.ClassFile.FieldType.int)).before a0 Z = true := hw _ (List.mem_of_getElem? (i := 106) rfl)
theorem w_107 {Z : State} {a0 : Array Value} (hw : ∀ d ∈ tables_1, d.before a0 Z = true) : (Jvm.Cond.methodLink "java/lang/String" (335 : Nat) ({ cls := "java/lang/String", name := "coder", desc := "()B" } : Jvm.MethodName)).before a0 Z = true := hw _ (List.mem_of_getElem? (i := 107) rfl)
theorem w_108 {Z : State} {a0 : Array Value} (hw : ∀ d ∈ tables_1, d.before a0 Z = true) : (Jvm.Cond.declares ({ cls := "java/lang/String", name := "coder", desc := "()B" } : Jvm.MethodName)).before a0 Z = true := hw _ (List.mem_of_getElem? (i := 108) rfl)
theorem w_109 {Z : State} {a0 : Array Value} (hw : ∀ d ∈ tables_1, d.before a0 Z = true) : (Jvm.Cond.instanceMethod ({ cls := "java/lang/String", name := "coder", desc := "()B" } : Jvm.MethodName)).before a0 Z = true := hw _ (List.mem_of_getElem? (i := 109) rfl)
theorem w_110 {Z : State} {a0 : Array Value} (hw : ∀ d ∈ tables_1, d.before a0 Z = true) : (Jvm.Cond.selects "java/lang/String" ({ cls := "java/lang/String", name := "coder", desc := "()B" } : Jvm.MethodName) ({ cls := "java/lang/String", name := "coder", desc := "()B" } : Jvm.MethodName)).before a0 Z = true := hw _ (List.mem_of_getElem? (i := 110) rfl)
theorem w_111 {Z : State} {a0 : Array Value} (hw : ∀ d ∈ tables_1, d.before a0 Z = true) : (Jvm.Cond.code ({ cls := "java/lang/String", name := "coder", desc := "()B" } : Jvm.MethodName) jdk_42_method_152_code (1 : Nat) (Option.some Jvm.ClassFile.FieldType.byte)).before a0 Z = true := hw _ (List.mem_of_getElem? (i := 111) rfl)
theorem w_112 {Z : State} {a0 : Array Value} (hw : ∀ d ∈ tables_1, d.before a0 Z = true) : (Jvm.Cond.methodLink "java/lang/String" (495 : Nat) ({ cls := "java/lang/StringLatin1", name := "charAt", desc := "([BI)C" } : Jvm.MethodName)).before a0 Z = true := hw _ (List.mem_of_getElem? (i := 112) rfl)
theorem w_113 {Z : State} {a0 : Array Value} (hw : ∀ d ∈ tables_1, d.before a0 Z = true) : (Jvm.Cond.static ({ cls := "java/lang/StringLatin1", name := "charAt", desc := "([BI)C" } : Jvm.MethodName)).before a0 Z = true := hw _ (List.mem_of_getElem? (i := 113) rfl)
theorem w_114 {Z : State} {a0 : Array Value} (hw : ∀ d ∈ tables_1, d.before a0 Z = true) : (Jvm.Cond.initialized "java/lang/StringLatin1").before a0 Z = true := hw _ (List.mem_of_getElem? (i := 114) rfl)
theorem w_115 {Z : State} {a0 : Array Value} (hw : ∀ d ∈ tables_1, d.before a0 Z = true) : (Jvm.Cond.code ({ cls := "java/lang/StringLatin1", name := "charAt", desc := "([BI)C" } : Jvm.MethodName) jdk_43_method_2_code (2 : Nat) (Option.some Jvm.ClassFile.FieldType.char)).before a0 Z = true := hw _ (List.mem_of_getElem? (i := 115) rfl)
theorem w_116 {Z : State} {a0 : Array Value} (hw : ∀ d ∈ tables_1, d.before a0 Z = true) : (Jvm.Cond.methodLink "java/lang/StringLatin1" (9 : Nat) ({ cls := "java/lang/String", name := "checkIndex", desc := "(II)V" } : Jvm.MethodName)).before a0 Z = true := hw _ (List.mem_of_getElem? (i := 116) rfl)
theorem w_117 {Z : State} {a0 : Array Value} (hw : ∀ d ∈ tables_1, d.before a0 Z = true) : (Jvm.Cond.methodLink "com/example/libonce/libonce/StorableText" (56 : Nat) ({ cls := "java/lang/Character", name := "isLowSurrogate", desc := "(C)Z" } : Jvm.MethodName)).before a0 Z = true := hw _ (List.mem_of_getElem? (i := 117) rfl)
theorem w_118 {Z : State} {a0 : Array Value} (hw : ∀ d ∈ tables_1, d.before a0 Z = true) : (Jvm.Cond.static ({ cls := "java/lang/Character", name := "isLowSurrogate", desc := "(C)Z" } : Jvm.MethodName)).before a0 Z = true := hw _ (List.mem_of_getElem? (i := 118) rfl)
theorem w_119 {Z : State} {a0 : Array Value} (hw : ∀ d ∈ tables_1, d.before a0 Z = true) : (Jvm.Cond.code ({ cls := "java/lang/Character", name := "isLowSurrogate", desc := "(C)Z" } : Jvm.MethodName) jdk_89_method_15_code (1 : Nat) (Option.some Jvm.ClassFile.FieldType.boolean)).before a0 Z = true := hw _ (List.mem_of_getElem? (i := 119) rfl)
theorem d1_0 : decode method_3_code 0 = .ok (.iload_n 0, 1) := by decide +kernel
theorem d1_1 : decode method_3_code 1 = .ok (.iconst 3, 1) := by decide +kernel
theorem d1_2 : decode method_3_code 2 = .ok (.iand, 1) := by decide +kernel
theorem d1_3 : decode method_3_code 3 = .ok (.istore_n 1, 1) := by decide +kernel
theorem d1_4 : decode method_3_code 4 = .ok (.iload_n 0, 1) := by decide +kernel
theorem d1_5 : decode method_3_code 5 = .ok (.iconst 2, 1) := by decide +kernel
theorem d1_6 : decode method_3_code 6 = .ok (.iushr, 1) := by decide +kernel
theorem d1_7 : decode method_3_code 7 = .ok (.istore_n 2, 1) := by decide +kernel
theorem d1_8 : decode method_3_code 8 = .ok (.iload_n 1, 1) := by decide +kernel
theorem d1_9 : decode method_3_code 9 = .ok (.ifCond .ne 9, 3) := by decide +kernel
theorem d1_12 : decode method_3_code 12 = .ok (.iload_n 2, 1) := by decide +kernel
theorem d1_13 : decode method_3_code 13 = .ok (.ldc 29, 2) := by decide +kernel
theorem d1_15 : decode method_3_code 15 = .ok (.iand, 1) := by decide +kernel
theorem d1_16 : decode method_3_code 16 = .ok (.i2c, 1) := by decide +kernel
theorem d1_17 : decode method_3_code 17 = .ok (.ireturn, 1) := by decide +kernel
theorem d1_18 : decode method_3_code 18 = .ok (.iload_n 1, 1) := by decide +kernel
theorem d1_19 : decode method_3_code 19 = .ok (.iconst 1, 1) := by decide +kernel
theorem d1_20 : decode method_3_code 20 = .ok (.if_icmp .ne 13, 3) := by decide +kernel
theorem d1_23 : decode method_3_code 23 = .ok (.ldc 30, 2) := by decide +kernel
theorem d1_25 : decode method_3_code 25 = .ok (.iload_n 2, 1) := by decide +kernel
theorem d1_26 : decode method_3_code 26 = .ok (.sipush 2047, 3) := by decide +kernel
theorem d1_29 : decode method_3_code 29 = .ok (.iand, 1) := by decide +kernel
theorem d1_30 : decode method_3_code 30 = .ok (.iadd, 1) := by decide +kernel
theorem d1_31 : decode method_3_code 31 = .ok (.i2c, 1) := by decide +kernel
theorem d1_32 : decode method_3_code 32 = .ok (.ireturn, 1) := by decide +kernel
theorem d1_33 : decode method_3_code 33 = .ok (.iload_n 1, 1) := by decide +kernel
theorem d1_34 : decode method_3_code 34 = .ok (.iconst 2, 1) := by decide +kernel
theorem d1_35 : decode method_3_code 35 = .ok (.if_icmp .ne 5, 3) := by decide +kernel
theorem d1_38 : decode method_3_code 38 = .ok (.iconst 0, 1) := by decide +kernel
theorem d1_39 : decode method_3_code 39 = .ok (.ireturn, 1) := by decide +kernel
theorem d1_40 : decode method_3_code 40 = .ok (.ldc 31, 2) := by decide +kernel
theorem d1_42 : decode method_3_code 42 = .ok (.iload_n 2, 1) := by decide +kernel
theorem d1_43 : decode method_3_code 43 = .ok (.sipush 1023, 3) := by decide +kernel
theorem d1_46 : decode method_3_code 46 = .ok (.iand, 1) := by decide +kernel
theorem d1_47 : decode method_3_code 47 = .ok (.iadd, 1) := by decide +kernel
theorem d1_48 : decode method_3_code 48 = .ok (.i2c, 1) := by decide +kernel
theorem d1_49 : decode method_3_code 49 = .ok (.ireturn, 1) := by decide +kernel
theorem d22_0 : decode jdk_89_method_16_code 0 = .ok (.iload_n 0, 1) := by decide +kernel
theorem d22_1 : decode jdk_89_method_16_code 1 = .ok (.ldc 75, 2) := by decide +kernel
theorem d22_3 : decode jdk_89_method_16_code 3 = .ok (.if_icmp .lt 13, 3) := by decide +kernel
theorem d22_6 : decode jdk_89_method_16_code 6 = .ok (.iload_n 0, 1) := by decide +kernel
theorem d22_7 : decode jdk_89_method_16_code 7 = .ok (.ldc 77, 2) := by decide +kernel
theorem d22_9 : decode jdk_89_method_16_code 9 = .ok (.if_icmp .ge 7, 3) := by decide +kernel
theorem d22_12 : decode jdk_89_method_16_code 12 = .ok (.iconst 1, 1) := by decide +kernel
theorem d22_13 : decode jdk_89_method_16_code 13 = .ok (.goto 4, 3) := by decide +kernel
theorem d22_16 : decode jdk_89_method_16_code 16 = .ok (.iconst 0, 1) := by decide +kernel
theorem d22_17 : decode jdk_89_method_16_code 17 = .ok (.ireturn, 1) := by decide +kernel
theorem d23_0 : decode jdk_89_method_14_code 0 = .ok (.iload_n 0, 1) := by decide +kernel
theorem d23_1 : decode jdk_89_method_14_code 1 = .ok (.ldc 75, 2) := by decide +kernel
theorem d23_3 : decode jdk_89_method_14_code 3 = .ok (.if_icmp .lt 13, 3) := by decide +kernel
theorem d23_6 : decode jdk_89_method_14_code 6 = .ok (.iload_n 0, 1) := by decide +kernel
theorem d23_7 : decode jdk_89_method_14_code 7 = .ok (.ldc 76, 2) := by decide +kernel
theorem d23_9 : decode jdk_89_method_14_code 9 = .ok (.if_icmp .ge 7, 3) := by decide +kernel
theorem d23_12 : decode jdk_89_method_14_code 12 = .ok (.iconst 1, 1) := by decide +kernel
theorem d23_13 : decode jdk_89_method_14_code 13 = .ok (.goto 4, 3) := by decide +kernel
theorem d23_16 : decode jdk_89_method_14_code 16 = .ok (.iconst 0, 1) := by decide +kernel
theorem d23_17 : decode jdk_89_method_14_code 17 = .ok (.ireturn, 1) := by decide +kernel
theorem d27_0 : decode jdk_89_method_15_code 0 = .ok (.iload_n 0, 1) := by decide +kernel
theorem d27_1 : decode jdk_89_method_15_code 1 = .ok (.ldc 76, 2) := by decide +kernel
theorem d27_3 : decode jdk_89_method_15_code 3 = .ok (.if_icmp .lt 13, 3) := by decide +kernel
theorem d27_6 : decode jdk_89_method_15_code 6 = .ok (.iload_n 0, 1) := by decide +kernel
theorem d27_7 : decode jdk_89_method_15_code 7 = .ok (.ldc 77, 2) := by decide +kernel
theorem d27_9 : decode jdk_89_method_15_code 9 = .ok (.if_icmp .ge 7, 3) := by decide +kernel
theorem d27_12 : decode jdk_89_method_15_code 12 = .ok (.iconst 1, 1) := by decide +kernel
theorem d27_13 : decode jdk_89_method_15_code 13 = .ok (.goto 4, 3) := by decide +kernel
theorem d27_16 : decode jdk_89_method_15_code 16 = .ok (.iconst 0, 1) := by decide +kernel
theorem d27_17 : decode jdk_89_method_15_code 17 = .ok (.ireturn, 1) := by decide +kernel
theorem d9_0 : decode jdk_52_method_3_code 0 = .ok (.iload_n 0, 1) := by decide +kernel
theorem d9_1 : decode jdk_52_method_3_code 1 = .ok (.ifCond .ge 11, 3) := by decide +kernel
theorem d9_4 : decode jdk_52_method_3_code 4 = .ok (.new 17, 3) := by decide +kernel
theorem d9_7 : decode jdk_52_method_3_code 7 = .ok (.dup, 1) := by decide +kernel
theorem d9_8 : decode jdk_52_method_3_code 8 = .ok (.invokespecial 19, 3) := by decide +kernel
theorem d9_11 : decode jdk_52_method_3_code 11 = .ok (.athrow, 1) := by decide +kernel
theorem d9_12 : decode jdk_52_method_3_code 12 = .ok (.iload_n 0, 1) := by decide +kernel
theorem d9_13 : decode jdk_52_method_3_code 13 = .ok (.ldc 20, 2) := by decide +kernel
theorem d9_15 : decode jdk_52_method_3_code 15 = .ok (.if_icmp .lt 40, 3) := by decide +kernel
theorem d9_18 : decode jdk_52_method_3_code 18 = .ok (.new 21, 3) := by decide +kernel
theorem d9_21 : decode jdk_52_method_3_code 21 = .ok (.dup, 1) := by decide +kernel
theorem d9_22 : decode jdk_52_method_3_code 22 = .ok (.new 23, 3) := by decide +kernel
theorem d9_25 : decode jdk_52_method_3_code 25 = .ok (.dup, 1) := by decide +kernel
theorem d9_26 : decode jdk_52_method_3_code 26 = .ok (.invokespecial 25, 3) := by decide +kernel
theorem d9_29 : decode jdk_52_method_3_code 29 = .ok (.ldc 26, 2) := by decide +kernel
theorem d9_31 : decode jdk_52_method_3_code 31 = .ok (.invokevirtual 28, 3) := by decide +kernel
theorem d9_34 : decode jdk_52_method_3_code 34 = .ok (.iload_n 0, 1) := by decide +kernel
theorem d9_35 : decode jdk_52_method_3_code 35 = .ok (.invokevirtual 32, 3) := by decide +kernel
theorem d9_38 : decode jdk_52_method_3_code 38 = .ok (.ldc 35, 2) := by decide +kernel
theorem d9_40 : decode jdk_52_method_3_code 40 = .ok (.invokevirtual 28, 3) := by decide +kernel
theorem d9_43 : decode jdk_52_method_3_code 43 = .ok (.ldc 20, 2) := by decide +kernel
theorem d9_45 : decode jdk_52_method_3_code 45 = .ok (.invokevirtual 32, 3) := by decide +kernel
theorem d9_48 : decode jdk_52_method_3_code 48 = .ok (.invokevirtual 37, 3) := by decide +kernel
theorem d9_51 : decode jdk_52_method_3_code 51 = .ok (.invokespecial 41, 3) := by decide +kernel
theorem d9_54 : decode jdk_52_method_3_code 54 = .ok (.athrow, 1) := by decide +kernel
theorem d9_55 : decode jdk_52_method_3_code 55 = .ok (.iload_n 0, 1) := by decide +kernel
theorem d9_56 : decode jdk_52_method_3_code 56 = .ok (.iconst 1, 1) := by decide +kernel
theorem d9_57 : decode jdk_52_method_3_code 57 = .ok (.ishl, 1) := by decide +kernel
theorem d9_58 : decode jdk_52_method_3_code 58 = .ok (.ireturn, 1) := by decide +kernel
theorem d8_0 : decode jdk_52_method_2_code 0 = .ok (.iload_n 0, 1) := by decide +kernel
theorem d8_1 : decode jdk_52_method_2_code 1 = .ok (.invokestatic 11, 3) := by decide +kernel
theorem d8_4 : decode jdk_52_method_2_code 4 = .ok (.newarray .byte, 2) := by decide +kernel
theorem d8_6 : decode jdk_52_method_2_code 6 = .ok (.areturn, 1) := by decide +kernel
theorem d10_0 : decode jdk_52_method_4_code 0 = .ok (.getstatic 44, 3) := by decide +kernel
theorem d10_3 : decode jdk_52_method_4_code 3 = .ok (.ifCond .ne 25, 3) := by decide +kernel
theorem d10_6 : decode jdk_52_method_4_code 6 = .ok (.iload_n 1, 1) := by decide +kernel
theorem d10_7 : decode jdk_52_method_4_code 7 = .ok (.ifCond .lt 11, 3) := by decide +kernel
theorem d10_10 : decode jdk_52_method_4_code 10 = .ok (.iload_n 1, 1) := by decide +kernel
theorem d10_11 : decode jdk_52_method_4_code 11 = .ok (.aload_n 0, 1) := by decide +kernel
theorem d10_12 : decode jdk_52_method_4_code 12 = .ok (.invokestatic 48, 3) := by decide +kernel
theorem d10_15 : decode jdk_52_method_4_code 15 = .ok (.if_icmp .lt 13, 3) := by decide +kernel
theorem d10_18 : decode jdk_52_method_4_code 18 = .ok (.new 52, 3) := by decide +kernel
theorem d10_21 : decode jdk_52_method_4_code 21 = .ok (.dup, 1) := by decide +kernel
theorem d10_22 : decode jdk_52_method_4_code 22 = .ok (.ldc 54, 2) := by decide +kernel
theorem d10_24 : decode jdk_52_method_4_code 24 = .ok (.invokespecial 56, 3) := by decide +kernel
theorem d10_27 : decode jdk_52_method_4_code 27 = .ok (.athrow, 1) := by decide +kernel
theorem d10_28 : decode jdk_52_method_4_code 28 = .ok (.iload_n 1, 1) := by decide +kernel
theorem d10_29 : decode jdk_52_method_4_code 29 = .ok (.iconst 1, 1) := by decide +kernel
theorem d10_30 : decode jdk_52_method_4_code 30 = .ok (.ishl, 1) := by decide +kernel
theorem d10_31 : decode jdk_52_method_4_code 31 = .ok (.istore_n 1, 1) := by decide +kernel
theorem d10_32 : decode jdk_52_method_4_code 32 = .ok (.aload_n 0, 1) := by decide +kernel
theorem d10_33 : decode jdk_52_method_4_code 33 = .ok (.iload_n 1, 1) := by decide +kernel
theorem d10_34 : decode jdk_52_method_4_code 34 = .ok (.iinc 1 1, 3) := by decide +kernel
theorem d10_37 : decode jdk_52_method_4_code 37 = .ok (.iload_n 2, 1) := by decide +kernel
theorem d10_38 : decode jdk_52_method_4_code 38 = .ok (.getstatic 59, 3) := by decide +kernel
theorem d10_41 : decode jdk_52_method_4_code 41 = .ok (.ishr, 1) := by decide +kernel
theorem d10_42 : decode jdk_52_method_4_code 42 = .ok (.i2b, 1) := by decide +kernel
theorem d10_43 : decode jdk_52_method_4_code 43 = .ok (.bastore, 1) := by decide +kernel
theorem d10_44 : decode jdk_52_method_4_code 44 = .ok (.aload_n 0, 1) := by decide +kernel
theorem d10_45 : decode jdk_52_method_4_code 45 = .ok (.iload_n 1, 1) := by decide +kernel
theorem d10_46 : decode jdk_52_method_4_code 46 = .ok (.iload_n 2, 1) := by decide +kernel
theorem d10_47 : decode jdk_52_method_4_code 47 = .ok (.getstatic 63, 3) := by decide +kernel
theorem d10_50 : decode jdk_52_method_4_code 50 = .ok (.ishr, 1) := by decide +kernel
theorem d10_51 : decode jdk_52_method_4_code 51 = .ok (.i2b, 1) := by decide +kernel
theorem d10_52 : decode jdk_52_method_4_code 52 = .ok (.bastore, 1) := by decide +kernel
theorem d10_53 : decode jdk_52_method_4_code 53 = .ok (.return_, 1) := by decide +kernel
theorem d11_0 : decode jdk_52_method_5_code 0 = .ok (.getstatic 44, 3) := by decide +kernel
theorem d11_3 : decode jdk_52_method_5_code 3 = .ok (.ifCond .ne 25, 3) := by decide +kernel
theorem d11_6 : decode jdk_52_method_5_code 6 = .ok (.iload_n 1, 1) := by decide +kernel
theorem d11_7 : decode jdk_52_method_5_code 7 = .ok (.ifCond .lt 11, 3) := by decide +kernel
theorem d11_10 : decode jdk_52_method_5_code 10 = .ok (.iload_n 1, 1) := by decide +kernel
theorem d11_11 : decode jdk_52_method_5_code 11 = .ok (.aload_n 0, 1) := by decide +kernel
theorem d11_12 : decode jdk_52_method_5_code 12 = .ok (.invokestatic 48, 3) := by decide +kernel
theorem d11_15 : decode jdk_52_method_5_code 15 = .ok (.if_icmp .lt 13, 3) := by decide +kernel
theorem d11_18 : decode jdk_52_method_5_code 18 = .ok (.new 52, 3) := by decide +kernel
theorem d11_21 : decode jdk_52_method_5_code 21 = .ok (.dup, 1) := by decide +kernel
theorem d11_22 : decode jdk_52_method_5_code 22 = .ok (.ldc 54, 2) := by decide +kernel
theorem d11_24 : decode jdk_52_method_5_code 24 = .ok (.invokespecial 56, 3) := by decide +kernel
theorem d11_27 : decode jdk_52_method_5_code 27 = .ok (.athrow, 1) := by decide +kernel
theorem d11_28 : decode jdk_52_method_5_code 28 = .ok (.iload_n 1, 1) := by decide +kernel
theorem d11_29 : decode jdk_52_method_5_code 29 = .ok (.iconst 1, 1) := by decide +kernel
theorem d11_30 : decode jdk_52_method_5_code 30 = .ok (.ishl, 1) := by decide +kernel
theorem d11_31 : decode jdk_52_method_5_code 31 = .ok (.istore_n 1, 1) := by decide +kernel
theorem d11_32 : decode jdk_52_method_5_code 32 = .ok (.aload_n 0, 1) := by decide +kernel
theorem d11_33 : decode jdk_52_method_5_code 33 = .ok (.iload_n 1, 1) := by decide +kernel
theorem d11_34 : decode jdk_52_method_5_code 34 = .ok (.iinc 1 1, 3) := by decide +kernel
theorem d11_37 : decode jdk_52_method_5_code 37 = .ok (.baload, 1) := by decide +kernel
theorem d11_38 : decode jdk_52_method_5_code 38 = .ok (.sipush 255, 3) := by decide +kernel
theorem d11_41 : decode jdk_52_method_5_code 41 = .ok (.iand, 1) := by decide +kernel
theorem d11_42 : decode jdk_52_method_5_code 42 = .ok (.getstatic 59, 3) := by decide +kernel
theorem d11_45 : decode jdk_52_method_5_code 45 = .ok (.ishl, 1) := by decide +kernel
theorem d11_46 : decode jdk_52_method_5_code 46 = .ok (.aload_n 0, 1) := by decide +kernel
theorem d11_47 : decode jdk_52_method_5_code 47 = .ok (.iload_n 1, 1) := by decide +kernel
theorem d11_48 : decode jdk_52_method_5_code 48 = .ok (.baload, 1) := by decide +kernel
theorem d11_49 : decode jdk_52_method_5_code 49 = .ok (.sipush 255, 3) := by decide +kernel
theorem d11_52 : decode jdk_52_method_5_code 52 = .ok (.iand, 1) := by decide +kernel
theorem d11_53 : decode jdk_52_method_5_code 53 = .ok (.getstatic 63, 3) := by decide +kernel
theorem d11_56 : decode jdk_52_method_5_code 56 = .ok (.ishl, 1) := by decide +kernel
theorem d11_57 : decode jdk_52_method_5_code 57 = .ok (.ior, 1) := by decide +kernel
theorem d11_58 : decode jdk_52_method_5_code 58 = .ok (.i2c, 1) := by decide +kernel
theorem d11_59 : decode jdk_52_method_5_code 59 = .ok (.ireturn, 1) := by decide +kernel
theorem d7_0 : decode jdk_52_method_14_code 0 = .ok (.iload_n 2, 1) := by decide +kernel
theorem d7_1 : decode jdk_52_method_14_code 1 = .ok (.invokestatic 107, 3) := by decide +kernel
theorem d7_4 : decode jdk_52_method_14_code 4 = .ok (.astore_n 3, 1) := by decide +kernel
theorem d7_5 : decode jdk_52_method_14_code 5 = .ok (.iconst 0, 1) := by decide +kernel
theorem d7_6 : decode jdk_52_method_14_code 6 = .ok (.istore 4, 2) := by decide +kernel
theorem d7_8 : decode jdk_52_method_14_code 8 = .ok (.iload 4, 2) := by decide +kernel
theorem d7_10 : decode jdk_52_method_14_code 10 = .ok (.iload_n 2, 1) := by decide +kernel
theorem d7_11 : decode jdk_52_method_14_code 11 = .ok (.if_icmp .ge 21, 3) := by decide +kernel
theorem d7_14 : decode jdk_52_method_14_code 14 = .ok (.aload_n 3, 1) := by decide +kernel
theorem d7_15 : decode jdk_52_method_14_code 15 = .ok (.iload 4, 2) := by decide +kernel
theorem d7_17 : decode jdk_52_method_14_code 17 = .ok (.aload_n 0, 1) := by decide +kernel
theorem d7_18 : decode jdk_52_method_14_code 18 = .ok (.iload_n 1, 1) := by decide +kernel
theorem d7_19 : decode jdk_52_method_14_code 19 = .ok (.caload, 1) := by decide +kernel
theorem d7_20 : decode jdk_52_method_14_code 20 = .ok (.invokestatic 111, 3) := by decide +kernel
theorem d7_23 : decode jdk_52_method_14_code 23 = .ok (.iinc 1 1, 3) := by decide +kernel
theorem d7_26 : decode jdk_52_method_14_code 26 = .ok (.iinc 4 1, 3) := by decide +kernel
theorem d7_29 : decode jdk_52_method_14_code 29 = .ok (.goto (-21), 3) := by decide +kernel
theorem d7_32 : decode jdk_52_method_14_code 32 = .ok (.aload_n 3, 1) := by decide +kernel
theorem d7_33 : decode jdk_52_method_14_code 33 = .ok (.areturn, 1) := by decide +kernel
theorem d6_0 : decode jdk_52_method_21_code 0 = .ok (.iconst 0, 1) := by decide +kernel
theorem d6_1 : decode jdk_52_method_21_code 1 = .ok (.istore 5, 2) := by decide +kernel
theorem d6_3 : decode jdk_52_method_21_code 3 = .ok (.iload 5, 2) := by decide +kernel
theorem d6_5 : decode jdk_52_method_21_code 5 = .ok (.iload 4, 2) := by decide +kernel
theorem d6_7 : decode jdk_52_method_21_code 7 = .ok (.if_icmp .ge 37, 3) := by decide +kernel
theorem d6_10 : decode jdk_52_method_21_code 10 = .ok (.aload_n 0, 1) := by decide +kernel
theorem d6_11 : decode jdk_52_method_21_code 11 = .ok (.iload_n 1, 1) := by decide +kernel
theorem d6_12 : decode jdk_52_method_21_code 12 = .ok (.caload, 1) := by decide +kernel
theorem d6_13 : decode jdk_52_method_21_code 13 = .ok (.istore 6, 2) := by decide +kernel
theorem d6_15 : decode jdk_52_method_21_code 15 = .ok (.iload 6, 2) := by decide +kernel
theorem d6_17 : decode jdk_52_method_21_code 17 = .ok (.sipush 255, 3) := by decide +kernel
theorem d6_20 : decode jdk_52_method_21_code 20 = .ok (.if_icmp .le 6, 3) := by decide +kernel
theorem d6_23 : decode jdk_52_method_21_code 23 = .ok (.iload 5, 2) := by decide +kernel
theorem d6_25 : decode jdk_52_method_21_code 25 = .ok (.ireturn, 1) := by decide +kernel
theorem d6_26 : decode jdk_52_method_21_code 26 = .ok (.aload_n 2, 1) := by decide +kernel
theorem d6_27 : decode jdk_52_method_21_code 27 = .ok (.iload_n 3, 1) := by decide +kernel
theorem d6_28 : decode jdk_52_method_21_code 28 = .ok (.iload 6, 2) := by decide +kernel
theorem d6_30 : decode jdk_52_method_21_code 30 = .ok (.i2b, 1) := by decide +kernel
theorem d6_31 : decode jdk_52_method_21_code 31 = .ok (.bastore, 1) := by decide +kernel
theorem d6_32 : decode jdk_52_method_21_code 32 = .ok (.iinc 1 1, 3) := by decide +kernel
theorem d6_35 : decode jdk_52_method_21_code 35 = .ok (.iinc 3 1, 3) := by decide +kernel
theorem d6_38 : decode jdk_52_method_21_code 38 = .ok (.iinc 5 1, 3) := by decide +kernel
theorem d6_41 : decode jdk_52_method_21_code 41 = .ok (.goto (-38), 3) := by decide +kernel
theorem d6_44 : decode jdk_52_method_21_code 44 = .ok (.iload 4, 2) := by decide +kernel
theorem d6_46 : decode jdk_52_method_21_code 46 = .ok (.ireturn, 1) := by decide +kernel
theorem d5_0 : decode jdk_52_method_16_code 0 = .ok (.iload_n 2, 1) := by decide +kernel
theorem d5_1 : decode jdk_52_method_16_code 1 = .ok (.newarray .byte, 2) := by decide +kernel
theorem d5_3 : decode jdk_52_method_16_code 3 = .ok (.astore_n 3, 1) := by decide +kernel
theorem d5_4 : decode jdk_52_method_16_code 4 = .ok (.aload_n 0, 1) := by decide +kernel
theorem d5_5 : decode jdk_52_method_16_code 5 = .ok (.iload_n 1, 1) := by decide +kernel
theorem d5_6 : decode jdk_52_method_16_code 6 = .ok (.aload_n 3, 1) := by decide +kernel
theorem d5_7 : decode jdk_52_method_16_code 7 = .ok (.iconst 0, 1) := by decide +kernel
theorem d5_8 : decode jdk_52_method_16_code 8 = .ok (.iload_n 2, 1) := by decide +kernel
theorem d5_9 : decode jdk_52_method_16_code 9 = .ok (.invokestatic 115, 3) := by decide +kernel
theorem d5_12 : decode jdk_52_method_16_code 12 = .ok (.istore 4, 2) := by decide +kernel
theorem d5_14 : decode jdk_52_method_16_code 14 = .ok (.iload 4, 2) := by decide +kernel
theorem d5_16 : decode jdk_52_method_16_code 16 = .ok (.iload_n 2, 1) := by decide +kernel
theorem d5_17 : decode jdk_52_method_16_code 17 = .ok (.if_icmp .eq 40, 3) := by decide +kernel
theorem d5_20 : decode jdk_52_method_16_code 20 = .ok (.aload_n 0, 1) := by decide +kernel
theorem d5_21 : decode jdk_52_method_16_code 21 = .ok (.iload_n 1, 1) := by decide +kernel
theorem d5_22 : decode jdk_52_method_16_code 22 = .ok (.iload_n 2, 1) := by decide +kernel
theorem d5_23 : decode jdk_52_method_16_code 23 = .ok (.invokestatic 119, 3) := by decide +kernel
theorem d5_26 : decode jdk_52_method_16_code 26 = .ok (.astore 5, 2) := by decide +kernel
theorem d5_28 : decode jdk_52_method_16_code 28 = .ok (.aload 5, 2) := by decide +kernel
theorem d5_30 : decode jdk_52_method_16_code 30 = .ok (.iload 4, 2) := by decide +kernel
theorem d5_32 : decode jdk_52_method_16_code 32 = .ok (.invokestatic 71, 3) := by decide +kernel
theorem d5_35 : decode jdk_52_method_16_code 35 = .ok (.sipush 255, 3) := by decide +kernel
theorem d5_38 : decode jdk_52_method_16_code 38 = .ok (.if_icmp .gt 16, 3) := by decide +kernel
theorem d5_41 : decode jdk_52_method_16_code 41 = .ok (.aload 5, 2) := by decide +kernel
theorem d5_43 : decode jdk_52_method_16_code 43 = .ok (.iconst 0, 1) := by decide +kernel
theorem d5_44 : decode jdk_52_method_16_code 44 = .ok (.aload_n 3, 1) := by decide +kernel
theorem d5_45 : decode jdk_52_method_16_code 45 = .ok (.iconst 0, 1) := by decide +kernel
theorem d5_46 : decode jdk_52_method_16_code 46 = .ok (.iload_n 2, 1) := by decide +kernel
theorem d5_47 : decode jdk_52_method_16_code 47 = .ok (.invokestatic 123, 3) := by decide +kernel
theorem d5_50 : decode jdk_52_method_16_code 50 = .ok (.iload_n 2, 1) := by decide +kernel
theorem d5_51 : decode jdk_52_method_16_code 51 = .ok (.if_icmp .eq 6, 3) := by decide +kernel
theorem d5_54 : decode jdk_52_method_16_code 54 = .ok (.aload 5, 2) := by decide +kernel
theorem d5_56 : decode jdk_52_method_16_code 56 = .ok (.areturn, 1) := by decide +kernel
theorem d5_57 : decode jdk_52_method_16_code 57 = .ok (.aload_n 3, 1) := by decide +kernel
theorem d5_58 : decode jdk_52_method_16_code 58 = .ok (.areturn, 1) := by decide +kernel
theorem d12_0 : decode jdk_52_method_15_code 0 = .ok (.iload_n 1, 1) := by decide +kernel
theorem d12_1 : decode jdk_52_method_15_code 1 = .ok (.aload_n 0, 1) := by decide +kernel
theorem d12_2 : decode jdk_52_method_15_code 2 = .ok (.arraylength, 1) := by decide +kernel
theorem d12_3 : decode jdk_52_method_15_code 3 = .ok (.isub, 1) := by decide +kernel
theorem d12_4 : decode jdk_52_method_15_code 4 = .ok (.bipush 31, 2) := by decide +kernel
theorem d12_6 : decode jdk_52_method_15_code 6 = .ok (.iushr, 1) := by decide +kernel
theorem d12_7 : decode jdk_52_method_15_code 7 = .ok (.i2b, 1) := by decide +kernel
theorem d12_8 : decode jdk_52_method_15_code 8 = .ok (.ireturn, 1) := by decide +kernel
theorem d3_0 : decode jdk_42_method_149_code 0 = .ok (.aload_n 0, 1) := by decide +kernel
theorem d3_1 : decode jdk_42_method_149_code 1 = .ok (.invokespecial 1, 3) := by decide +kernel
theorem d3_4 : decode jdk_42_method_149_code 4 = .ok (.iload_n 3, 1) := by decide +kernel
theorem d3_5 : decode jdk_42_method_149_code 5 = .ok (.ifCond .ne 22, 3) := by decide +kernel
theorem d3_8 : decode jdk_42_method_149_code 8 = .ok (.aload_n 0, 1) := by decide +kernel
theorem d3_9 : decode jdk_42_method_149_code 9 = .ok (.ldc 7, 2) := by decide +kernel
theorem d3_11 : decode jdk_42_method_149_code 11 = .ok (.getfield 9, 3) := by decide +kernel
theorem d3_14 : decode jdk_42_method_149_code 14 = .ok (.putfield 9, 3) := by decide +kernel
theorem d3_17 : decode jdk_42_method_149_code 17 = .ok (.aload_n 0, 1) := by decide +kernel
theorem d3_18 : decode jdk_42_method_149_code 18 = .ok (.ldc 7, 2) := by decide +kernel
theorem d3_20 : decode jdk_42_method_149_code 20 = .ok (.getfield 15, 3) := by decide +kernel
theorem d3_23 : decode jdk_42_method_149_code 23 = .ok (.putfield 15, 3) := by decide +kernel
theorem d3_26 : decode jdk_42_method_149_code 26 = .ok (.return_, 1) := by decide +kernel
theorem d3_27 : decode jdk_42_method_149_code 27 = .ok (.getstatic 38, 3) := by decide +kernel
theorem d3_30 : decode jdk_42_method_149_code 30 = .ok (.ifCond .eq 28, 3) := by decide +kernel
theorem d3_33 : decode jdk_42_method_149_code 33 = .ok (.aload_n 1, 1) := by decide +kernel
theorem d3_34 : decode jdk_42_method_149_code 34 = .ok (.iload_n 2, 1) := by decide +kernel
theorem d3_35 : decode jdk_42_method_149_code 35 = .ok (.iload_n 3, 1) := by decide +kernel
theorem d3_36 : decode jdk_42_method_149_code 36 = .ok (.invokestatic 177, 3) := by decide +kernel
theorem d3_39 : decode jdk_42_method_149_code 39 = .ok (.astore 5, 2) := by decide +kernel
theorem d3_41 : decode jdk_42_method_149_code 41 = .ok (.aload_n 0, 1) := by decide +kernel
theorem d3_42 : decode jdk_42_method_149_code 42 = .ok (.aload 5, 2) := by decide +kernel
theorem d3_44 : decode jdk_42_method_149_code 44 = .ok (.iload_n 3, 1) := by decide +kernel
theorem d3_45 : decode jdk_42_method_149_code 45 = .ok (.invokestatic 47, 3) := by decide +kernel
theorem d3_48 : decode jdk_42_method_149_code 48 = .ok (.putfield 15, 3) := by decide +kernel
theorem d3_51 : decode jdk_42_method_149_code 51 = .ok (.aload_n 0, 1) := by decide +kernel
theorem d3_52 : decode jdk_42_method_149_code 52 = .ok (.aload 5, 2) := by decide +kernel
theorem d3_54 : decode jdk_42_method_149_code 54 = .ok (.putfield 9, 3) := by decide +kernel
theorem d3_57 : decode jdk_42_method_149_code 57 = .ok (.return_, 1) := by decide +kernel
theorem d3_58 : decode jdk_42_method_149_code 58 = .ok (.aload_n 0, 1) := by decide +kernel
theorem d3_59 : decode jdk_42_method_149_code 59 = .ok (.iconst 1, 1) := by decide +kernel
theorem d3_60 : decode jdk_42_method_149_code 60 = .ok (.putfield 15, 3) := by decide +kernel
theorem d3_63 : decode jdk_42_method_149_code 63 = .ok (.aload_n 0, 1) := by decide +kernel
theorem d3_64 : decode jdk_42_method_149_code 64 = .ok (.aload_n 1, 1) := by decide +kernel
theorem d3_65 : decode jdk_42_method_149_code 65 = .ok (.iload_n 2, 1) := by decide +kernel
theorem d3_66 : decode jdk_42_method_149_code 66 = .ok (.iload_n 3, 1) := by decide +kernel
theorem d3_67 : decode jdk_42_method_149_code 67 = .ok (.invokestatic 180, 3) := by decide +kernel
theorem d3_70 : decode jdk_42_method_149_code 70 = .ok (.putfield 9, 3) := by decide +kernel
theorem d3_73 : decode jdk_42_method_149_code 73 = .ok (.return_, 1) := by decide +kernel
theorem d2_0 : decode jdk_42_method_3_code 0 = .ok (.aload_n 0, 1) := by decide +kernel
theorem d2_1 : decode jdk_42_method_3_code 1 = .ok (.aload_n 1, 1) := by decide +kernel
theorem d2_2 : decode jdk_42_method_3_code 2 = .ok (.iconst 0, 1) := by decide +kernel
theorem d2_3 : decode jdk_42_method_3_code 3 = .ok (.aload_n 1, 1) := by decide +kernel
theorem d2_4 : decode jdk_42_method_3_code 4 = .ok (.arraylength, 1) := by decide +kernel
theorem d2_5 : decode jdk_42_method_3_code 5 = .ok (.aconst_null, 1) := by decide +kernel
theorem d2_6 : decode jdk_42_method_3_code 6 = .ok (.invokespecial 27, 3) := by decide +kernel
theorem d2_9 : decode jdk_42_method_3_code 9 = .ok (.return_, 1) := by decide +kernel
theorem d20_0 : decode jdk_41_method_11_code 0 = .ok (.iload_n 0, 1) := by decide +kernel
theorem d20_1 : decode jdk_41_method_11_code 1 = .ok (.ifCond .lt 8, 3) := by decide +kernel
theorem d20_4 : decode jdk_41_method_11_code 4 = .ok (.iload_n 0, 1) := by decide +kernel
theorem d20_5 : decode jdk_41_method_11_code 5 = .ok (.iload_n 1, 1) := by decide +kernel
theorem d20_6 : decode jdk_41_method_11_code 6 = .ok (.if_icmp .lt 10, 3) := by decide +kernel
theorem d20_9 : decode jdk_41_method_11_code 9 = .ok (.aload_n 2, 1) := by decide +kernel
theorem d20_10 : decode jdk_41_method_11_code 10 = .ok (.iload_n 0, 1) := by decide +kernel
theorem d20_11 : decode jdk_41_method_11_code 11 = .ok (.iload_n 1, 1) := by decide +kernel
theorem d20_12 : decode jdk_41_method_11_code 12 = .ok (.invokestatic 95, 3) := by decide +kernel
theorem d20_15 : decode jdk_41_method_11_code 15 = .ok (.athrow, 1) := by decide +kernel
theorem d20_16 : decode jdk_41_method_11_code 16 = .ok (.iload_n 0, 1) := by decide +kernel
theorem d20_17 : decode jdk_41_method_11_code 17 = .ok (.ireturn, 1) := by decide +kernel
theorem d19_0 : decode jdk_42_method_155_code 0 = .ok (.iload_n 0, 1) := by decide +kernel
theorem d19_1 : decode jdk_42_method_155_code 1 = .ok (.iload_n 1, 1) := by decide +kernel
theorem d19_2 : decode jdk_42_method_155_code 2 = .ok (.getstatic 1053, 3) := by decide +kernel
theorem d19_5 : decode jdk_42_method_155_code 5 = .ok (.invokestatic 1059, 3) := by decide +kernel
theorem d19_8 : decode jdk_42_method_155_code 8 = .ok (.pop, 1) := by decide +kernel
theorem d19_9 : decode jdk_42_method_155_code 9 = .ok (.return_, 1) := by decide +kernel
theorem d18_0 : decode jdk_52_method_6_code 0 = .ok (.aload_n 0, 1) := by decide +kernel
theorem d18_1 : decode jdk_52_method_6_code 1 = .ok (.arraylength, 1) := by decide +kernel
theorem d18_2 : decode jdk_52_method_6_code 2 = .ok (.iconst 1, 1) := by decide +kernel
theorem d18_3 : decode jdk_52_method_6_code 3 = .ok (.ishr, 1) := by decide +kernel
theorem d18_4 : decode jdk_52_method_6_code 4 = .ok (.ireturn, 1) := by decide +kernel
theorem d17_0 : decode jdk_52_method_91_code 0 = .ok (.iload_n 0, 1) := by decide +kernel
theorem d17_1 : decode jdk_52_method_91_code 1 = .ok (.aload_n 1, 1) := by decide +kernel
theorem d17_2 : decode jdk_52_method_91_code 2 = .ok (.invokestatic 48, 3) := by decide +kernel
theorem d17_5 : decode jdk_52_method_91_code 5 = .ok (.invokestatic 414, 3) := by decide +kernel
theorem d17_8 : decode jdk_52_method_91_code 8 = .ok (.return_, 1) := by decide +kernel
theorem d16_0 : decode jdk_52_method_83_code 0 = .ok (.iload_n 1, 1) := by decide +kernel
theorem d16_1 : decode jdk_52_method_83_code 1 = .ok (.aload_n 0, 1) := by decide +kernel
theorem d16_2 : decode jdk_52_method_83_code 2 = .ok (.invokestatic 67, 3) := by decide +kernel
theorem d16_5 : decode jdk_52_method_83_code 5 = .ok (.aload_n 0, 1) := by decide +kernel
theorem d16_6 : decode jdk_52_method_83_code 6 = .ok (.iload_n 1, 1) := by decide +kernel
theorem d16_7 : decode jdk_52_method_83_code 7 = .ok (.invokestatic 71, 3) := by decide +kernel
theorem d16_10 : decode jdk_52_method_83_code 10 = .ok (.ireturn, 1) := by decide +kernel
theorem d26_0 : decode jdk_43_method_2_code 0 = .ok (.iload_n 1, 1) := by decide +kernel
theorem d26_1 : decode jdk_43_method_2_code 1 = .ok (.aload_n 0, 1) := by decide +kernel
theorem d26_2 : decode jdk_43_method_2_code 2 = .ok (.arraylength, 1) := by decide +kernel
theorem d26_3 : decode jdk_43_method_2_code 3 = .ok (.invokestatic 9, 3) := by decide +kernel
theorem d26_6 : decode jdk_43_method_2_code 6 = .ok (.aload_n 0, 1) := by decide +kernel
theorem d26_7 : decode jdk_43_method_2_code 7 = .ok (.iload_n 1, 1) := by decide +kernel
theorem d26_8 : decode jdk_43_method_2_code 8 = .ok (.baload, 1) := by decide +kernel
theorem d26_9 : decode jdk_43_method_2_code 9 = .ok (.sipush 255, 3) := by decide +kernel
theorem d26_12 : decode jdk_43_method_2_code 12 = .ok (.iand, 1) := by decide +kernel
theorem d26_13 : decode jdk_43_method_2_code 13 = .ok (.i2c, 1) := by decide +kernel
theorem d26_14 : decode jdk_43_method_2_code 14 = .ok (.ireturn, 1) := by decide +kernel
theorem d15_0 : decode jdk_42_method_154_code 0 = .ok (.getstatic 38, 3) := by decide +kernel
theorem d15_3 : decode jdk_42_method_154_code 3 = .ok (.ifCond .eq 14, 3) := by decide +kernel
theorem d15_6 : decode jdk_42_method_154_code 6 = .ok (.aload_n 0, 1) := by decide +kernel
theorem d15_7 : decode jdk_42_method_154_code 7 = .ok (.getfield 15, 3) := by decide +kernel
theorem d15_10 : decode jdk_42_method_154_code 10 = .ok (.ifCond .ne 7, 3) := by decide +kernel
theorem d15_13 : decode jdk_42_method_154_code 13 = .ok (.iconst 1, 1) := by decide +kernel
theorem d15_14 : decode jdk_42_method_154_code 14 = .ok (.goto 4, 3) := by decide +kernel
theorem d15_17 : decode jdk_42_method_154_code 17 = .ok (.iconst 0, 1) := by decide +kernel
theorem d15_18 : decode jdk_42_method_154_code 18 = .ok (.ireturn, 1) := by decide +kernel
theorem d25_0 : decode jdk_42_method_152_code 0 = .ok (.getstatic 38, 3) := by decide +kernel
theorem d25_3 : decode jdk_42_method_152_code 3 = .ok (.ifCond .eq 10, 3) := by decide +kernel
theorem d25_6 : decode jdk_42_method_152_code 6 = .ok (.aload_n 0, 1) := by decide +kernel
theorem d25_7 : decode jdk_42_method_152_code 7 = .ok (.getfield 15, 3) := by decide +kernel
theorem d25_10 : decode jdk_42_method_152_code 10 = .ok (.goto 4, 3) := by decide +kernel
theorem d25_13 : decode jdk_42_method_152_code 13 = .ok (.iconst 1, 1) := by decide +kernel
theorem d25_14 : decode jdk_42_method_152_code 14 = .ok (.ireturn, 1) := by decide +kernel
theorem d24_0 : decode jdk_42_method_54_code 0 = .ok (.aload_n 0, 1) := by decide +kernel
theorem d24_1 : decode jdk_42_method_54_code 1 = .ok (.getfield 9, 3) := by decide +kernel
theorem d24_4 : decode jdk_42_method_54_code 4 = .ok (.arraylength, 1) := by decide +kernel
theorem d24_5 : decode jdk_42_method_54_code 5 = .ok (.aload_n 0, 1) := by decide +kernel
theorem d24_6 : decode jdk_42_method_54_code 6 = .ok (.invokevirtual 335, 3) := by decide +kernel
theorem d24_9 : decode jdk_42_method_54_code 9 = .ok (.ishr, 1) := by decide +kernel
theorem d24_10 : decode jdk_42_method_54_code 10 = .ok (.ireturn, 1) := by decide +kernel
theorem d14_0 : decode jdk_42_method_56_code 0 = .ok (.aload_n 0, 1) := by decide +kernel
theorem d14_1 : decode jdk_42_method_56_code 1 = .ok (.invokevirtual 492, 3) := by decide +kernel
theorem d14_4 : decode jdk_42_method_56_code 4 = .ok (.ifCond .eq 12, 3) := by decide +kernel
theorem d14_7 : decode jdk_42_method_56_code 7 = .ok (.aload_n 0, 1) := by decide +kernel
theorem d14_8 : decode jdk_42_method_56_code 8 = .ok (.getfield 9, 3) := by decide +kernel
theorem d14_11 : decode jdk_42_method_56_code 11 = .ok (.iload_n 1, 1) := by decide +kernel
theorem d14_12 : decode jdk_42_method_56_code 12 = .ok (.invokestatic 495, 3) := by decide +kernel
theorem d14_15 : decode jdk_42_method_56_code 15 = .ok (.ireturn, 1) := by decide +kernel
theorem d14_16 : decode jdk_42_method_56_code 16 = .ok (.aload_n 0, 1) := by decide +kernel
theorem d14_17 : decode jdk_42_method_56_code 17 = .ok (.getfield 9, 3) := by decide +kernel
theorem d14_20 : decode jdk_42_method_56_code 20 = .ok (.iload_n 1, 1) := by decide +kernel
theorem d14_21 : decode jdk_42_method_56_code 21 = .ok (.invokestatic 498, 3) := by decide +kernel
theorem d14_24 : decode jdk_42_method_56_code 24 = .ok (.ireturn, 1) := by decide +kernel
theorem d13_0 : decode prog_13_method_4_code 0 = .ok (.aload_n 0, 1) := by decide +kernel
theorem d13_1 : decode prog_13_method_4_code 1 = .ok (.iload_n 1, 1) := by decide +kernel
theorem d13_2 : decode prog_13_method_4_code 2 = .ok (.invokevirtual 7, 3) := by decide +kernel
theorem d13_5 : decode prog_13_method_4_code 5 = .ok (.istore_n 2, 1) := by decide +kernel
theorem d13_6 : decode prog_13_method_4_code 6 = .ok (.iload_n 2, 1) := by decide +kernel
theorem d13_7 : decode prog_13_method_4_code 7 = .ok (.ifCond .ne 5, 3) := by decide +kernel
theorem d13_10 : decode prog_13_method_4_code 10 = .ok (.iconst 0, 1) := by decide +kernel
theorem d13_11 : decode prog_13_method_4_code 11 = .ok (.ireturn, 1) := by decide +kernel
theorem d13_12 : decode prog_13_method_4_code 12 = .ok (.iload_n 2, 1) := by decide +kernel
theorem d13_13 : decode prog_13_method_4_code 13 = .ok (.invokestatic 47, 3) := by decide +kernel
theorem d13_16 : decode prog_13_method_4_code 16 = .ok (.ifCond .ne 5, 3) := by decide +kernel
theorem d13_19 : decode prog_13_method_4_code 19 = .ok (.iconst 1, 1) := by decide +kernel
theorem d13_20 : decode prog_13_method_4_code 20 = .ok (.ireturn, 1) := by decide +kernel
theorem d13_21 : decode prog_13_method_4_code 21 = .ok (.iload_n 2, 1) := by decide +kernel
theorem d13_22 : decode prog_13_method_4_code 22 = .ok (.invokestatic 53, 3) := by decide +kernel
theorem d13_25 : decode prog_13_method_4_code 25 = .ok (.ifCond .eq 30, 3) := by decide +kernel
theorem d13_28 : decode prog_13_method_4_code 28 = .ok (.iload_n 1, 1) := by decide +kernel
theorem d13_29 : decode prog_13_method_4_code 29 = .ok (.iconst 1, 1) := by decide +kernel
theorem d13_30 : decode prog_13_method_4_code 30 = .ok (.iadd, 1) := by decide +kernel
theorem d13_31 : decode prog_13_method_4_code 31 = .ok (.aload_n 0, 1) := by decide +kernel
theorem d13_32 : decode prog_13_method_4_code 32 = .ok (.invokevirtual 1, 3) := by decide +kernel
theorem d13_35 : decode prog_13_method_4_code 35 = .ok (.if_icmp .ge 20, 3) := by decide +kernel
theorem d13_38 : decode prog_13_method_4_code 38 = .ok (.aload_n 0, 1) := by decide +kernel
theorem d13_39 : decode prog_13_method_4_code 39 = .ok (.iload_n 1, 1) := by decide +kernel
theorem d13_40 : decode prog_13_method_4_code 40 = .ok (.iconst 1, 1) := by decide +kernel
theorem d13_41 : decode prog_13_method_4_code 41 = .ok (.iadd, 1) := by decide +kernel
theorem d13_42 : decode prog_13_method_4_code 42 = .ok (.invokevirtual 7, 3) := by decide +kernel
theorem d13_45 : decode prog_13_method_4_code 45 = .ok (.invokestatic 56, 3) := by decide +kernel
theorem d13_48 : decode prog_13_method_4_code 48 = .ok (.ifCond .eq 7, 3) := by decide +kernel
theorem d13_51 : decode prog_13_method_4_code 51 = .ok (.iconst 1, 1) := by decide +kernel
theorem d13_52 : decode prog_13_method_4_code 52 = .ok (.goto 4, 3) := by decide +kernel
theorem d13_55 : decode prog_13_method_4_code 55 = .ok (.iconst 0, 1) := by decide +kernel
theorem d13_56 : decode prog_13_method_4_code 56 = .ok (.istore_n 3, 1) := by decide +kernel
theorem d13_57 : decode prog_13_method_4_code 57 = .ok (.iload_n 3, 1) := by decide +kernel
theorem d13_58 : decode prog_13_method_4_code 58 = .ok (.ifCond .eq 7, 3) := by decide +kernel
theorem d13_61 : decode prog_13_method_4_code 61 = .ok (.iconst 2, 1) := by decide +kernel
theorem d13_62 : decode prog_13_method_4_code 62 = .ok (.goto 4, 3) := by decide +kernel
theorem d13_65 : decode prog_13_method_4_code 65 = .ok (.iconst 0, 1) := by decide +kernel
theorem d13_66 : decode prog_13_method_4_code 66 = .ok (.ireturn, 1) := by decide +kernel
theorem d21_0 : decode method_4_code 0 = .ok (.aload_n 0, 1) := by decide +kernel
theorem d21_1 : decode method_4_code 1 = .ok (.iload_n 2, 1) := by decide +kernel
theorem d21_2 : decode method_4_code 2 = .ok (.caload, 1) := by decide +kernel
theorem d21_3 : decode method_4_code 3 = .ok (.istore_n 3, 1) := by decide +kernel
theorem d21_4 : decode method_4_code 4 = .ok (.iload_n 3, 1) := by decide +kernel
theorem d21_5 : decode method_4_code 5 = .ok (.ifCond .ne 5, 3) := by decide +kernel
theorem d21_8 : decode method_4_code 8 = .ok (.iconst 0, 1) := by decide +kernel
theorem d21_9 : decode method_4_code 9 = .ok (.ireturn, 1) := by decide +kernel
theorem d21_10 : decode method_4_code 10 = .ok (.iload_n 3, 1) := by decide +kernel
theorem d21_11 : decode method_4_code 11 = .ok (.ldc 30, 2) := by decide +kernel
theorem d21_13 : decode method_4_code 13 = .ok (.if_icmp .lt 9, 3) := by decide +kernel
theorem d21_16 : decode method_4_code 16 = .ok (.iload_n 3, 1) := by decide +kernel
theorem d21_17 : decode method_4_code 17 = .ok (.ldc 32, 2) := by decide +kernel
theorem d21_19 : decode method_4_code 19 = .ok (.if_icmp .le 5, 3) := by decide +kernel
theorem d21_22 : decode method_4_code 22 = .ok (.iconst 1, 1) := by decide +kernel
theorem d21_23 : decode method_4_code 23 = .ok (.ireturn, 1) := by decide +kernel
theorem d21_24 : decode method_4_code 24 = .ok (.iload_n 3, 1) := by decide +kernel
theorem d21_25 : decode method_4_code 25 = .ok (.ldc 31, 2) := by decide +kernel
theorem d21_27 : decode method_4_code 27 = .ok (.if_icmp .lt 5, 3) := by decide +kernel
theorem d21_30 : decode method_4_code 30 = .ok (.iconst 0, 1) := by decide +kernel
theorem d21_31 : decode method_4_code 31 = .ok (.ireturn, 1) := by decide +kernel
theorem d21_32 : decode method_4_code 32 = .ok (.iload_n 2, 1) := by decide +kernel
theorem d21_33 : decode method_4_code 33 = .ok (.iconst 1, 1) := by decide +kernel
theorem d21_34 : decode method_4_code 34 = .ok (.iadd, 1) := by decide +kernel
theorem d21_35 : decode method_4_code 35 = .ok (.iload_n 1, 1) := by decide +kernel
theorem d21_36 : decode method_4_code 36 = .ok (.if_icmp .lt 5, 3) := by decide +kernel
theorem d21_39 : decode method_4_code 39 = .ok (.iconst 0, 1) := by decide +kernel
theorem d21_40 : decode method_4_code 40 = .ok (.ireturn, 1) := by decide +kernel
theorem d21_41 : decode method_4_code 41 = .ok (.aload_n 0, 1) := by decide +kernel
theorem d21_42 : decode method_4_code 42 = .ok (.iload_n 2, 1) := by decide +kernel
theorem d21_43 : decode method_4_code 43 = .ok (.iconst 1, 1) := by decide +kernel
theorem d21_44 : decode method_4_code 44 = .ok (.iadd, 1) := by decide +kernel
theorem d21_45 : decode method_4_code 45 = .ok (.caload, 1) := by decide +kernel
theorem d21_46 : decode method_4_code 46 = .ok (.istore 4, 2) := by decide +kernel
theorem d21_48 : decode method_4_code 48 = .ok (.iload 4, 2) := by decide +kernel
theorem d21_50 : decode method_4_code 50 = .ok (.ldc 31, 2) := by decide +kernel
theorem d21_52 : decode method_4_code 52 = .ok (.if_icmp .lt 12, 3) := by decide +kernel
theorem d21_55 : decode method_4_code 55 = .ok (.iload 4, 2) := by decide +kernel
theorem d21_57 : decode method_4_code 57 = .ok (.ldc 32, 2) := by decide +kernel
theorem d21_59 : decode method_4_code 59 = .ok (.if_icmp .gt 5, 3) := by decide +kernel
theorem d21_62 : decode method_4_code 62 = .ok (.iconst 2, 1) := by decide +kernel
theorem d21_63 : decode method_4_code 63 = .ok (.ireturn, 1) := by decide +kernel
theorem d21_64 : decode method_4_code 64 = .ok (.iconst 0, 1) := by decide +kernel
theorem d21_65 : decode method_4_code 65 = .ok (.ireturn, 1) := by decide +kernel
theorem pd__28I_29I : parseMethodDescriptor "(I)I" = some ⟨[.int], some .int⟩ := by decide +kernel
theorem pd__28I_29_5bB : parseMethodDescriptor "(I)[B" = some ⟨[.int], some (.array .byte)⟩ := by decide +kernel
theorem pd__28_5bBII_29V : parseMethodDescriptor "([BII)V" = some ⟨[(.array .byte), .int, .int], none⟩ := by decide +kernel
theorem pd__28_5bCI_5bBII_29I : parseMethodDescriptor "([CI[BII)I" = some ⟨[(.array .char), .int, (.array .byte), .int, .int], some .int⟩ := by decide +kernel
theorem pd__28_5bCII_29_5bB : parseMethodDescriptor "([CII)[B" = some ⟨[(.array .char), .int, .int], some (.array .byte)⟩ := by decide +kernel
theorem pd__28_5bBI_29C : parseMethodDescriptor "([BI)C" = some ⟨[(.array .byte), .int], some .char⟩ := by decide +kernel
theorem pd__28_5bBI_29B : parseMethodDescriptor "([BI)B" = some ⟨[(.array .byte), .int], some .byte⟩ := by decide +kernel
theorem pd__28_5bCIILjava_2flang_2fVoid_3b_29V : parseMethodDescriptor "([CIILjava/lang/Void;)V" = some ⟨[(.array .char), .int, .int, (.object "java/lang/Void")], none⟩ := by decide +kernel
theorem pd__28IILjava_2futil_2ffunction_2fBiFunction_3b_29I : parseMethodDescriptor "(IILjava/util/function/BiFunction;)I" = some ⟨[.int, .int, (.object "java/util/function/BiFunction")], some .int⟩ := by decide +kernel
theorem pd__28_5bB_29I : parseMethodDescriptor "([B)I" = some ⟨[(.array .byte)], some .int⟩ := by decide +kernel
theorem pd__28II_29V : parseMethodDescriptor "(II)V" = some ⟨[.int, .int], none⟩ := by decide +kernel
theorem pd__28I_5bB_29V : parseMethodDescriptor "(I[B)V" = some ⟨[.int, (.array .byte)], none⟩ := by decide +kernel
theorem pd__28_29B : parseMethodDescriptor "()B" = some ⟨[], some .byte⟩ := by decide +kernel
theorem pd__28_29Z : parseMethodDescriptor "()Z" = some ⟨[], some .boolean⟩ := by decide +kernel
theorem pd__28I_29C : parseMethodDescriptor "(I)C" = some ⟨[.int], some .char⟩ := by decide +kernel
theorem pd__28C_29Z : parseMethodDescriptor "(C)Z" = some ⟨[.char], some .boolean⟩ := by decide +kernel
theorem pd__28_29I : parseMethodDescriptor "()I" = some ⟨[], some .int⟩ := by decide +kernel
theorem pd__28_5bC_29V : parseMethodDescriptor "([C)V" = some ⟨[(.array .char)], none⟩ := by decide +kernel
theorem pd__28Ljava_2flang_2fString_3bI_29I : parseMethodDescriptor "(Ljava/lang/String;I)I" = some ⟨[(.object "java/lang/String"), .int], some .int⟩ := by decide +kernel
theorem pd__28_5bCII_29I : parseMethodDescriptor "([CII)I" = some ⟨[(.array .char), .int, .int], some .int⟩ := by decide +kernel
theorem ef_rmD (q1 : Int32) (m : MethodId) : entryFrame m #[.int q1] 3 = mkF m 0 #[.val (.int q1), .unset, .unset] [] := by
  first | (simp [entryFrame, mkF, argsToLocals, Value.category]; done) | rfl
theorem pn_rmD : plainName "com/example/libonce/libonce/StorableTextKeptLengthPinLaw" = true := by first | (simp [plainName, overriddenIn]; done) | decide +kernel
set_option maxRecDepth 65536 in
set_option maxHeartbeats 40000000 in
theorem rmD (l : Launch) (Z : State) (a0 : Array Value) (hw : ∀ d ∈ tables_1, d.before a0 Z = true) (ws : List Jvm.Cond) (q1 : Int32) (h0 : Heap) (n0 : Nat)  :
    Ctr l Z ({ cls := "com/example/libonce/libonce/StorableTextKeptLengthPinLaw", name := "draw", desc := "(I)C" } : Jvm.MethodName) method_3_code 3 (some .char) ws ({ frames := 0, cells := 0, slots := 0, locals := 0 } : Room) #[.int q1] h0 (fun v h L => v = some (.int (drawV q1)) ∧ Fr n0 L ∧ h = h0) := by
  refine Ctr.enter (Ls := #[.val (.int q1), .unset, .unset]) (plainFor_of_name pn_rmD) (fun m => ef_rmD q1 m) ?_
  intro p e s m below meth c T hx hby hml hown hnm hret hlk hZ hh X0 e0
  have N0 := Fr.nil n0
  refine g_iloadN X0 hx hby d1_0 (pc' := 1) rfl rfl ?_
  refine g_iconst X0 hx hby d1_1 (pc' := 2) rfl (z := (3 : Int32)) rfl ?_
  refine g_iand X0 hx hby d1_2 (pc' := 3) rfl ?_
  refine g_istoreN X0 hx hby d1_3 (pc' := 4) rfl (l' := #[.val (.int q1), .val (.int (q1 &&& (3 : Int32))), .unset]) rfl ?_
  refine g_iloadN X0 hx hby d1_4 (pc' := 5) rfl rfl ?_
  refine g_iconst X0 hx hby d1_5 (pc' := 6) rfl (z := (2 : Int32)) rfl ?_
  refine g_iushr X0 hx hby d1_6 (pc' := 7) rfl ?_
  refine g_istoreN X0 hx hby d1_7 (pc' := 8) rfl (l' := #[.val (.int q1), .val (.int (q1 &&& (3 : Int32))), .val (.int (ushr q1 (2 : Int32)))]) rfl ?_
  refine g_iloadN X0 hx hby d1_8 (pc' := 9) rfl rfl ?_
  refine g_if_ne X0 hx hby d1_9 (by decide) (pc' := 18) (by decide) (pn := 12) rfl (fun hc9_1 => ?_) (fun hc9_1 => ?_)
  · refine g_iloadN X0 hx hby d1_18 (pc' := 19) rfl rfl ?_
    refine g_iconst X0 hx hby d1_19 (pc' := 20) rfl (z := (1 : Int32)) rfl ?_
    refine g_icmp_ne X0 hx hby d1_20 (by decide) (pc' := 33) (by decide) (pn := 23) rfl (fun hc20_2 => ?_) (fun hc20_2 => ?_)
    · refine g_iloadN X0 hx hby d1_33 (pc' := 34) rfl rfl ?_
      refine g_iconst X0 hx hby d1_34 (pc' := 35) rfl (z := (2 : Int32)) rfl ?_
      refine g_icmp_ne X0 hx hby d1_35 (by decide) (pc' := 40) (by decide) (pn := 38) rfl (fun hc35_3 => ?_) (fun hc35_3 => ?_)
      · refine g_ldcI X0 hx hZ hown hby d1_40 (pc' := 42) rfl (w_6 hw) ?_
        refine g_iloadN X0 hx hby d1_42 (pc' := 43) rfl rfl ?_
        refine g_sipush X0 hx hby d1_43 (pc' := 46) rfl (z := (1023 : Int32)) rfl ?_
        refine g_iand X0 hx hby d1_46 (pc' := 47) rfl ?_
        refine g_iadd X0 hx hby d1_47 (pc' := 48) rfl ?_
        refine g_i2c X0 hx hby d1_48 (pc' := 49) rfl ?_
        exact g_retN (Q := (fun v h L => v = some (.int (drawV q1)) ∧ Fr n0 L ∧ h = h0)) (w := ((56320 : Int32) + ((ushr q1 (2 : Int32)) &&& (1023 : Int32))).toUInt32.toUInt16.toUInt32.toInt32) X0 hx hby d1_49 hret (by simp) (own_narc (own_ch _)) hlk (by decide) (by decide) ⟨congrArg (fun z : Int32 => some (Value.int z)) (by unfold drawV; rw [if_neg hc9_1, if_neg hc20_2, if_neg hc35_3]), N0, e0⟩
      · refine g_iconst X0 hx hby d1_38 (pc' := 39) rfl (z := (0 : Int32)) rfl ?_
        exact g_retN (Q := (fun v h L => v = some (.int (drawV q1)) ∧ Fr n0 L ∧ h = h0)) (w := (0 : Int32)) X0 hx hby d1_39 hret (by simp) rfl hlk (by decide) (by decide) ⟨congrArg (fun z : Int32 => some (Value.int z)) (by unfold drawV; rw [if_neg hc9_1, if_neg hc20_2, if_pos hc35_3]), N0, e0⟩
    · refine g_ldcI X0 hx hZ hown hby d1_23 (pc' := 25) rfl (w_100 hw) ?_
      refine g_iloadN X0 hx hby d1_25 (pc' := 26) rfl rfl ?_
      refine g_sipush X0 hx hby d1_26 (pc' := 29) rfl (z := (2047 : Int32)) rfl ?_
      refine g_iand X0 hx hby d1_29 (pc' := 30) rfl ?_
      refine g_iadd X0 hx hby d1_30 (pc' := 31) rfl ?_
      refine g_i2c X0 hx hby d1_31 (pc' := 32) rfl ?_
      exact g_retN (Q := (fun v h L => v = some (.int (drawV q1)) ∧ Fr n0 L ∧ h = h0)) (w := ((55296 : Int32) + ((ushr q1 (2 : Int32)) &&& (2047 : Int32))).toUInt32.toUInt16.toUInt32.toInt32) X0 hx hby d1_32 hret (by simp) (own_narc (own_ch _)) hlk (by decide) (by decide) ⟨congrArg (fun z : Int32 => some (Value.int z)) (by unfold drawV; rw [if_neg hc9_1, if_pos hc20_2]), N0, e0⟩
  · refine g_iloadN X0 hx hby d1_12 (pc' := 13) rfl rfl ?_
    refine g_ldcI X0 hx hZ hown hby d1_13 (pc' := 15) rfl (w_5 hw) ?_
    refine g_iand X0 hx hby d1_15 (pc' := 16) rfl ?_
    refine g_i2c X0 hx hby d1_16 (pc' := 17) rfl ?_
    exact g_retN (Q := (fun v h L => v = some (.int (drawV q1)) ∧ Fr n0 L ∧ h = h0)) (w := ((ushr q1 (2 : Int32)) &&& (65535 : Int32)).toUInt32.toUInt16.toUInt32.toInt32) X0 hx hby d1_17 hret (by simp) (own_narc (own_ch _)) hlk (by decide) (by decide) ⟨congrArg (fun z : Int32 => some (Value.int z)) (by unfold drawV; rw [if_pos hc9_1]), N0, e0⟩
theorem ef_rmS (q1 : Int32) (m : MethodId) : entryFrame m #[.int q1] 1 = mkF m 0 #[.val (.int q1)] [] := by
  first | (simp [entryFrame, mkF, argsToLocals, Value.category]; done) | rfl
set_option maxRecDepth 65536 in
set_option maxHeartbeats 40000000 in
theorem rmS (l : Launch) (Z : State) (a0 : Array Value) (hw : ∀ d ∈ tables_1, d.before a0 Z = true) (ws : List Jvm.Cond) (q1 : Int32) (h0 : Heap) (n0 : Nat)  :
    Ctr l Z ({ cls := "java/lang/Character", name := "isSurrogate", desc := "(C)Z" } : Jvm.MethodName) jdk_89_method_16_code 1 (some .boolean) ws ({ frames := 0, cells := 0, slots := 0, locals := 0 } : Room) #[.int q1] h0 (fun v h L => v = some (.int (isS q1)) ∧ Fr n0 L ∧ h = h0) := by
  refine Ctr.enter (Ls := #[.val (.int q1)]) (by decide +kernel) (fun m => ef_rmS q1 m) ?_
  intro p e s m below meth c T hx hby hml hown hnm hret hlk hZ hh X0 e0
  have N0 := Fr.nil n0
  refine g_iloadN X0 hx hby d22_0 (pc' := 1) rfl rfl ?_
  refine g_ldcI X0 hx hZ hown hby d22_1 (pc' := 3) rfl (w_94 hw) ?_
  refine g_icmp_lt X0 hx hby d22_3 (by decide) (pc' := 16) (by decide) (pn := 6) rfl (fun hc3_1 => ?_) (fun hc3_1 => ?_)
  · refine g_iconst X0 hx hby d22_16 (pc' := 17) rfl (z := (0 : Int32)) rfl ?_
    exact g_retN (Q := (fun v h L => v = some (.int (isS q1)) ∧ Fr n0 L ∧ h = h0)) (w := (0 : Int32)) X0 hx hby d22_17 hret (by simp) (by first | decide | rfl) hlk (by decide) (by decide) ⟨congrArg (fun z : Int32 => some (Value.int z)) (by unfold isS; rw [if_pos hc3_1]), N0, e0⟩
  · refine g_iloadN X0 hx hby d22_6 (pc' := 7) rfl rfl ?_
    refine g_ldcI X0 hx hZ hown hby d22_7 (pc' := 9) rfl (w_95 hw) ?_
    refine g_icmp_ge X0 hx hby d22_9 (by decide) (pc' := 16) (by decide) (pn := 12) rfl (fun hc9_2 => ?_) (fun hc9_2 => ?_)
    · refine g_iconst X0 hx hby d22_16 (pc' := 17) rfl (z := (0 : Int32)) rfl ?_
      exact g_retN (Q := (fun v h L => v = some (.int (isS q1)) ∧ Fr n0 L ∧ h = h0)) (w := (0 : Int32)) X0 hx hby d22_17 hret (by simp) (by first | decide | rfl) hlk (by decide) (by decide) ⟨congrArg (fun z : Int32 => some (Value.int z)) (by unfold isS; rw [if_neg hc3_1, if_neg hc9_2]), N0, e0⟩
    · refine g_iconst X0 hx hby d22_12 (pc' := 13) rfl (z := (1 : Int32)) rfl ?_
      refine g_goto X0 hx hby d22_13 (by decide) (pc' := 17) (by decide) ?_
      exact g_retN (Q := (fun v h L => v = some (.int (isS q1)) ∧ Fr n0 L ∧ h = h0)) (w := (1 : Int32)) X0 hx hby d22_17 hret (by simp) (by first | decide | rfl) hlk (by decide) (by decide) ⟨congrArg (fun z : Int32 => some (Value.int z)) (by unfold isS; rw [if_neg hc3_1, if_pos hc9_2]), N0, e0⟩
theorem ef_rmH (q1 : Int32) (m : MethodId) : entryFrame m #[.int q1] 1 = mkF m 0 #[.val (.int q1)] [] := by
  first | (simp [entryFrame, mkF, argsToLocals, Value.category]; done) | rfl
set_option maxRecDepth 65536 in
set_option maxHeartbeats 40000000 in
theorem rmH (l : Launch) (Z : State) (a0 : Array Value) (hw : ∀ d ∈ tables_1, d.before a0 Z = true) (ws : List Jvm.Cond) (q1 : Int32) (h0 : Heap) (n0 : Nat)  :
    Ctr l Z ({ cls := "java/lang/Character", name := "isHighSurrogate", desc := "(C)Z" } : Jvm.MethodName) jdk_89_method_14_code 1 (some .boolean) ws ({ frames := 0, cells := 0, slots := 0, locals := 0 } : Room) #[.int q1] h0 (fun v h L => v = some (.int (isH q1)) ∧ Fr n0 L ∧ h = h0) := by
  refine Ctr.enter (Ls := #[.val (.int q1)]) (by decide +kernel) (fun m => ef_rmH q1 m) ?_
  intro p e s m below meth c T hx hby hml hown hnm hret hlk hZ hh X0 e0
  have N0 := Fr.nil n0
  refine g_iloadN X0 hx hby d23_0 (pc' := 1) rfl rfl ?_
  refine g_ldcI X0 hx hZ hown hby d23_1 (pc' := 3) rfl (w_94 hw) ?_
  refine g_icmp_lt X0 hx hby d23_3 (by decide) (pc' := 16) (by decide) (pn := 6) rfl (fun hc3_1 => ?_) (fun hc3_1 => ?_)
  · refine g_iconst X0 hx hby d23_16 (pc' := 17) rfl (z := (0 : Int32)) rfl ?_
    exact g_retN (Q := (fun v h L => v = some (.int (isH q1)) ∧ Fr n0 L ∧ h = h0)) (w := (0 : Int32)) X0 hx hby d23_17 hret (by simp) (by first | decide | rfl) hlk (by decide) (by decide) ⟨congrArg (fun z : Int32 => some (Value.int z)) (by unfold isH; rw [if_pos hc3_1]), N0, e0⟩
  · refine g_iloadN X0 hx hby d23_6 (pc' := 7) rfl rfl ?_
    refine g_ldcI X0 hx hZ hown hby d23_7 (pc' := 9) rfl (w_99 hw) ?_
    refine g_icmp_ge X0 hx hby d23_9 (by decide) (pc' := 16) (by decide) (pn := 12) rfl (fun hc9_2 => ?_) (fun hc9_2 => ?_)
    · refine g_iconst X0 hx hby d23_16 (pc' := 17) rfl (z := (0 : Int32)) rfl ?_
      exact g_retN (Q := (fun v h L => v = some (.int (isH q1)) ∧ Fr n0 L ∧ h = h0)) (w := (0 : Int32)) X0 hx hby d23_17 hret (by simp) (by first | decide | rfl) hlk (by decide) (by decide) ⟨congrArg (fun z : Int32 => some (Value.int z)) (by unfold isH; rw [if_neg hc3_1, if_neg hc9_2]), N0, e0⟩
    · refine g_iconst X0 hx hby d23_12 (pc' := 13) rfl (z := (1 : Int32)) rfl ?_
      refine g_goto X0 hx hby d23_13 (by decide) (pc' := 17) (by decide) ?_
      exact g_retN (Q := (fun v h L => v = some (.int (isH q1)) ∧ Fr n0 L ∧ h = h0)) (w := (1 : Int32)) X0 hx hby d23_17 hret (by simp) (by first | decide | rfl) hlk (by decide) (by decide) ⟨congrArg (fun z : Int32 => some (Value.int z)) (by unfold isH; rw [if_neg hc3_1, if_pos hc9_2]), N0, e0⟩
theorem ef_rmW (q1 : Int32) (m : MethodId) : entryFrame m #[.int q1] 1 = mkF m 0 #[.val (.int q1)] [] := by
  first | (simp [entryFrame, mkF, argsToLocals, Value.category]; done) | rfl
set_option maxRecDepth 65536 in
set_option maxHeartbeats 40000000 in
theorem rmW (l : Launch) (Z : State) (a0 : Array Value) (hw : ∀ d ∈ tables_1, d.before a0 Z = true) (ws : List Jvm.Cond) (q1 : Int32) (h0 : Heap) (n0 : Nat)  :
    Ctr l Z ({ cls := "java/lang/Character", name := "isLowSurrogate", desc := "(C)Z" } : Jvm.MethodName) jdk_89_method_15_code 1 (some .boolean) ws ({ frames := 0, cells := 0, slots := 0, locals := 0 } : Room) #[.int q1] h0 (fun v h L => v = some (.int (isL q1)) ∧ Fr n0 L ∧ h = h0) := by
  refine Ctr.enter (Ls := #[.val (.int q1)]) (by decide +kernel) (fun m => ef_rmW q1 m) ?_
  intro p e s m below meth c T hx hby hml hown hnm hret hlk hZ hh X0 e0
  have N0 := Fr.nil n0
  refine g_iloadN X0 hx hby d27_0 (pc' := 1) rfl rfl ?_
  refine g_ldcI X0 hx hZ hown hby d27_1 (pc' := 3) rfl (w_99 hw) ?_
  refine g_icmp_lt X0 hx hby d27_3 (by decide) (pc' := 16) (by decide) (pn := 6) rfl (fun hc3_1 => ?_) (fun hc3_1 => ?_)
  · refine g_iconst X0 hx hby d27_16 (pc' := 17) rfl (z := (0 : Int32)) rfl ?_
    exact g_retN (Q := (fun v h L => v = some (.int (isL q1)) ∧ Fr n0 L ∧ h = h0)) (w := (0 : Int32)) X0 hx hby d27_17 hret (by simp) (by first | decide | rfl) hlk (by decide) (by decide) ⟨congrArg (fun z : Int32 => some (Value.int z)) (by unfold isL; rw [if_pos hc3_1]), N0, e0⟩
  · refine g_iloadN X0 hx hby d27_6 (pc' := 7) rfl rfl ?_
    refine g_ldcI X0 hx hZ hown hby d27_7 (pc' := 9) rfl (w_95 hw) ?_
    refine g_icmp_ge X0 hx hby d27_9 (by decide) (pc' := 16) (by decide) (pn := 12) rfl (fun hc9_2 => ?_) (fun hc9_2 => ?_)
    · refine g_iconst X0 hx hby d27_16 (pc' := 17) rfl (z := (0 : Int32)) rfl ?_
      exact g_retN (Q := (fun v h L => v = some (.int (isL q1)) ∧ Fr n0 L ∧ h = h0)) (w := (0 : Int32)) X0 hx hby d27_17 hret (by simp) (by first | decide | rfl) hlk (by decide) (by decide) ⟨congrArg (fun z : Int32 => some (Value.int z)) (by unfold isL; rw [if_neg hc3_1, if_neg hc9_2]), N0, e0⟩
    · refine g_iconst X0 hx hby d27_12 (pc' := 13) rfl (z := (1 : Int32)) rfl ?_
      refine g_goto X0 hx hby d27_13 (by decide) (pc' := 17) (by decide) ?_
      exact g_retN (Q := (fun v h L => v = some (.int (isL q1)) ∧ Fr n0 L ∧ h = h0)) (w := (1 : Int32)) X0 hx hby d27_17 hret (by simp) (by first | decide | rfl) hlk (by decide) (by decide) ⟨congrArg (fun z : Int32 => some (Value.int z)) (by unfold isL; rw [if_neg hc3_1, if_pos hc9_2]), N0, e0⟩
theorem ef_rmNL1  (m : MethodId) : entryFrame m #[.int (1 : Int32)] 1 = mkF m 0 #[.val (.int (1 : Int32))] [] := by
  first | (simp [entryFrame, mkF, argsToLocals, Value.category]; done) | rfl
set_option maxRecDepth 65536 in
set_option maxHeartbeats 40000000 in
theorem rmNL1 (l : Launch) (Z : State) (a0 : Array Value) (hw : ∀ d ∈ tables_1, d.before a0 Z = true) (ws : List Jvm.Cond)  (h0 : Heap) (n0 : Nat)  :
    Ctr l Z ({ cls := "java/lang/StringUTF16", name := "newBytesLength", desc := "(I)I" } : Jvm.MethodName) jdk_52_method_3_code 1 (some .int) ws ({ frames := 0, cells := 0, slots := 0, locals := 0 } : Room) #[.int (1 : Int32)] h0 (fun v h L => v = some (.int (2 : Int32)) ∧ Fr n0 L ∧ h = h0) := by
  refine Ctr.enter (Ls := #[.val (.int (1 : Int32))]) (by decide +kernel) (fun m => ef_rmNL1  m) ?_
  intro p e s m below meth c T hx hby hml hown hnm hret hlk hZ hh X0 e0
  have N0 := Fr.nil n0
  refine g_iloadN X0 hx hby d9_0 (pc' := 1) rfl rfl ?_
  refine g_if_ge X0 hx hby d9_1 (by decide) (pc' := 12) (by decide) (pn := 4) rfl (fun _ => ?_) (fun z => absurd z (by decide))
  refine g_iloadN X0 hx hby d9_12 (pc' := 13) rfl rfl ?_
  refine g_ldcI X0 hx hZ hown hby d9_13 (pc' := 15) rfl (w_39 hw) ?_
  refine g_icmp_lt X0 hx hby d9_15 (by decide) (pc' := 55) (by decide) (pn := 18) rfl (fun _ => ?_) (fun z => absurd z (by decide))
  refine g_iloadN X0 hx hby d9_55 (pc' := 56) rfl rfl ?_
  refine g_iconst X0 hx hby d9_56 (pc' := 57) rfl (z := (1 : Int32)) rfl ?_
  refine g_ishl X0 hx hby d9_57 (pc' := 58) rfl ?_
  refine g_eqI (b := (2 : Int32)) (by decide +kernel) ?_
  exact g_retI (Q := (fun v h L => v = some (.int (2 : Int32)) ∧ Fr n0 L ∧ h = h0)) X0 hx hby d9_58 hret hlk (by decide) (by decide) ⟨rfl, N0, e0⟩
theorem ef_rmNL2  (m : MethodId) : entryFrame m #[.int (2 : Int32)] 1 = mkF m 0 #[.val (.int (2 : Int32))] [] := by
  first | (simp [entryFrame, mkF, argsToLocals, Value.category]; done) | rfl
set_option maxRecDepth 65536 in
set_option maxHeartbeats 40000000 in
theorem rmNL2 (l : Launch) (Z : State) (a0 : Array Value) (hw : ∀ d ∈ tables_1, d.before a0 Z = true) (ws : List Jvm.Cond)  (h0 : Heap) (n0 : Nat)  :
    Ctr l Z ({ cls := "java/lang/StringUTF16", name := "newBytesLength", desc := "(I)I" } : Jvm.MethodName) jdk_52_method_3_code 1 (some .int) ws ({ frames := 0, cells := 0, slots := 0, locals := 0 } : Room) #[.int (2 : Int32)] h0 (fun v h L => v = some (.int (4 : Int32)) ∧ Fr n0 L ∧ h = h0) := by
  refine Ctr.enter (Ls := #[.val (.int (2 : Int32))]) (by decide +kernel) (fun m => ef_rmNL2  m) ?_
  intro p e s m below meth c T hx hby hml hown hnm hret hlk hZ hh X0 e0
  have N0 := Fr.nil n0
  refine g_iloadN X0 hx hby d9_0 (pc' := 1) rfl rfl ?_
  refine g_if_ge X0 hx hby d9_1 (by decide) (pc' := 12) (by decide) (pn := 4) rfl (fun _ => ?_) (fun z => absurd z (by decide))
  refine g_iloadN X0 hx hby d9_12 (pc' := 13) rfl rfl ?_
  refine g_ldcI X0 hx hZ hown hby d9_13 (pc' := 15) rfl (w_39 hw) ?_
  refine g_icmp_lt X0 hx hby d9_15 (by decide) (pc' := 55) (by decide) (pn := 18) rfl (fun _ => ?_) (fun z => absurd z (by decide))
  refine g_iloadN X0 hx hby d9_55 (pc' := 56) rfl rfl ?_
  refine g_iconst X0 hx hby d9_56 (pc' := 57) rfl (z := (1 : Int32)) rfl ?_
  refine g_ishl X0 hx hby d9_57 (pc' := 58) rfl ?_
  refine g_eqI (b := (4 : Int32)) (by decide +kernel) ?_
  exact g_retI (Q := (fun v h L => v = some (.int (4 : Int32)) ∧ Fr n0 L ∧ h = h0)) X0 hx hby d9_58 hret hlk (by decide) (by decide) ⟨rfl, N0, e0⟩
theorem ef_rmNL3  (m : MethodId) : entryFrame m #[.int (3 : Int32)] 1 = mkF m 0 #[.val (.int (3 : Int32))] [] := by
  first | (simp [entryFrame, mkF, argsToLocals, Value.category]; done) | rfl
set_option maxRecDepth 65536 in
set_option maxHeartbeats 40000000 in
theorem rmNL3 (l : Launch) (Z : State) (a0 : Array Value) (hw : ∀ d ∈ tables_1, d.before a0 Z = true) (ws : List Jvm.Cond)  (h0 : Heap) (n0 : Nat)  :
    Ctr l Z ({ cls := "java/lang/StringUTF16", name := "newBytesLength", desc := "(I)I" } : Jvm.MethodName) jdk_52_method_3_code 1 (some .int) ws ({ frames := 0, cells := 0, slots := 0, locals := 0 } : Room) #[.int (3 : Int32)] h0 (fun v h L => v = some (.int (6 : Int32)) ∧ Fr n0 L ∧ h = h0) := by
  refine Ctr.enter (Ls := #[.val (.int (3 : Int32))]) (by decide +kernel) (fun m => ef_rmNL3  m) ?_
  intro p e s m below meth c T hx hby hml hown hnm hret hlk hZ hh X0 e0
  have N0 := Fr.nil n0
  refine g_iloadN X0 hx hby d9_0 (pc' := 1) rfl rfl ?_
  refine g_if_ge X0 hx hby d9_1 (by decide) (pc' := 12) (by decide) (pn := 4) rfl (fun _ => ?_) (fun z => absurd z (by decide))
  refine g_iloadN X0 hx hby d9_12 (pc' := 13) rfl rfl ?_
  refine g_ldcI X0 hx hZ hown hby d9_13 (pc' := 15) rfl (w_39 hw) ?_
  refine g_icmp_lt X0 hx hby d9_15 (by decide) (pc' := 55) (by decide) (pn := 18) rfl (fun _ => ?_) (fun z => absurd z (by decide))
  refine g_iloadN X0 hx hby d9_55 (pc' := 56) rfl rfl ?_
  refine g_iconst X0 hx hby d9_56 (pc' := 57) rfl (z := (1 : Int32)) rfl ?_
  refine g_ishl X0 hx hby d9_57 (pc' := 58) rfl ?_
  refine g_eqI (b := (6 : Int32)) (by decide +kernel) ?_
  exact g_retI (Q := (fun v h L => v = some (.int (6 : Int32)) ∧ Fr n0 L ∧ h = h0)) X0 hx hby d9_58 hret hlk (by decide) (by decide) ⟨rfl, N0, e0⟩
theorem ef_rmNF1  (m : MethodId) : entryFrame m #[.int (1 : Int32)] 1 = mkF m 0 #[.val (.int (1 : Int32))] [] := by
  first | (simp [entryFrame, mkF, argsToLocals, Value.category]; done) | rfl
set_option maxRecDepth 65536 in
set_option maxHeartbeats 40000000 in
theorem rmNF1 (l : Launch) (Z : State) (a0 : Array Value) (hw : ∀ d ∈ tables_1, d.before a0 Z = true) (ws : List Jvm.Cond)  (h0 : Heap) (n0 : Nat) (Z0 : n0 ≤ h0.size) :
    Ctr l Z ({ cls := "java/lang/StringUTF16", name := "newBytesFor", desc := "(I)[B" } : Jvm.MethodName) jdk_52_method_2_code 1 (some (.array .byte)) ws ({ frames := 1, cells := 1, slots := 6, locals := 12 } : Room) #[.int (1 : Int32)] h0 (fun v h L => ∃ (b : Addr) (k : ClassId), v = some (.ref b) ∧ Fr n0 L ∧ Keep h0 h [] ∧ h0.size ≤ b ∧ Arv Z h b k .byte (2 : Int32) [.int 0, .int 0] (.int 0)) := by
  refine Ctr.enter (Ls := #[.val (.int (1 : Int32))]) (by decide +kernel) (fun m => ef_rmNF1  m) ?_
  intro p e s m below meth c T hx hby hml hown hnm hret hlk hZ hh X0 e0
  have N0 := Fr.nil n0
  refine g_iloadN X0 hx hby d8_0 (pc' := 1) rfl rfl ?_
  refine g_callS X0 hx hZ hown (W := 0) (argsL := [.int (1 : Int32)]) (rest := []) hby d8_1 (pc' := 4) rfl (by rw [hml]; rfl) (w_36 hw) (w_37 hw) (w_24 hw) (w_38 hw) (by decide) (rmNL1 l Z a0 hw [] h0 n0) e0 (by decide) (by decide) (by decide) (by decide) rfl pd__28I_29I rfl rfl (Nat.le_of_eq rfl) ?_
  rintro _ T1 L1 X1 ⟨rfl, N1q, e1⟩
  have N1 := Fr.app N0 N1q
  show GoE p e below _ (T1.setTop (mkF m 4 #[.val (.int (1 : Int32))] [.int (2 : Int32)]))
  refine g_newarray X1 hx hZ 2  "[B" hby d8_4 (pc' := 6) rfl (w_26 hw) e1 (by decide) (by decide) (by decide) (by decide) (by decide) rfl ?_
  intro T2 b2 c2 hb2 X2 E2 A2v A2x
  have K2 := (Keep.refl h0 []).ext E2
  have Z2 := Nat.le_trans Z0 E2.1
  have A2 : Arv Z T2.heap b2 c2 .byte (2 : Int32) [.int 0, .int 0] (.int 0) := A2v
  exact g_retA (Q := (fun v h L => ∃ (b : Addr) (k : ClassId), v = some (.ref b) ∧ Fr n0 L ∧ Keep h0 h [] ∧ h0.size ≤ b ∧ Arv Z h b k .byte (2 : Int32) [.int 0, .int 0] (.int 0))) X2 hx hby d8_6 rfl hret rfl hlk (by decide) (by decide) ⟨b2, c2, rfl, N1, K2, (Nat.le_trans (Keep.refl h0 []).1 (Nat.le_of_eq hb2.symm)), A2⟩
theorem ef_rmNF2  (m : MethodId) : entryFrame m #[.int (2 : Int32)] 1 = mkF m 0 #[.val (.int (2 : Int32))] [] := by
  first | (simp [entryFrame, mkF, argsToLocals, Value.category]; done) | rfl
set_option maxRecDepth 65536 in
set_option maxHeartbeats 40000000 in
theorem rmNF2 (l : Launch) (Z : State) (a0 : Array Value) (hw : ∀ d ∈ tables_1, d.before a0 Z = true) (ws : List Jvm.Cond)  (h0 : Heap) (n0 : Nat) (Z0 : n0 ≤ h0.size) :
    Ctr l Z ({ cls := "java/lang/StringUTF16", name := "newBytesFor", desc := "(I)[B" } : Jvm.MethodName) jdk_52_method_2_code 1 (some (.array .byte)) ws ({ frames := 1, cells := 1, slots := 6, locals := 12 } : Room) #[.int (2 : Int32)] h0 (fun v h L => ∃ (b : Addr) (k : ClassId), v = some (.ref b) ∧ Fr n0 L ∧ Keep h0 h [] ∧ h0.size ≤ b ∧ Arv Z h b k .byte (4 : Int32) [.int 0, .int 0, .int 0, .int 0] (.int 0)) := by
  refine Ctr.enter (Ls := #[.val (.int (2 : Int32))]) (by decide +kernel) (fun m => ef_rmNF2  m) ?_
  intro p e s m below meth c T hx hby hml hown hnm hret hlk hZ hh X0 e0
  have N0 := Fr.nil n0
  refine g_iloadN X0 hx hby d8_0 (pc' := 1) rfl rfl ?_
  refine g_callS X0 hx hZ hown (W := 0) (argsL := [.int (2 : Int32)]) (rest := []) hby d8_1 (pc' := 4) rfl (by rw [hml]; rfl) (w_36 hw) (w_37 hw) (w_24 hw) (w_38 hw) (by decide) (rmNL2 l Z a0 hw [] h0 n0) e0 (by decide) (by decide) (by decide) (by decide) rfl pd__28I_29I rfl rfl (Nat.le_of_eq rfl) ?_
  rintro _ T1 L1 X1 ⟨rfl, N1q, e1⟩
  have N1 := Fr.app N0 N1q
  show GoE p e below _ (T1.setTop (mkF m 4 #[.val (.int (2 : Int32))] [.int (4 : Int32)]))
  refine g_newarray X1 hx hZ 4  "[B" hby d8_4 (pc' := 6) rfl (w_26 hw) e1 (by decide) (by decide) (by decide) (by decide) (by decide) rfl ?_
  intro T2 b2 c2 hb2 X2 E2 A2v A2x
  have K2 := (Keep.refl h0 []).ext E2
  have Z2 := Nat.le_trans Z0 E2.1
  have A2 : Arv Z T2.heap b2 c2 .byte (4 : Int32) [.int 0, .int 0, .int 0, .int 0] (.int 0) := A2v
  exact g_retA (Q := (fun v h L => ∃ (b : Addr) (k : ClassId), v = some (.ref b) ∧ Fr n0 L ∧ Keep h0 h [] ∧ h0.size ≤ b ∧ Arv Z h b k .byte (4 : Int32) [.int 0, .int 0, .int 0, .int 0] (.int 0))) X2 hx hby d8_6 rfl hret rfl hlk (by decide) (by decide) ⟨b2, c2, rfl, N1, K2, (Nat.le_trans (Keep.refl h0 []).1 (Nat.le_of_eq hb2.symm)), A2⟩
theorem ef_rmNF3  (m : MethodId) : entryFrame m #[.int (3 : Int32)] 1 = mkF m 0 #[.val (.int (3 : Int32))] [] := by
  first | (simp [entryFrame, mkF, argsToLocals, Value.category]; done) | rfl
set_option maxRecDepth 65536 in
set_option maxHeartbeats 40000000 in
theorem rmNF3 (l : Launch) (Z : State) (a0 : Array Value) (hw : ∀ d ∈ tables_1, d.before a0 Z = true) (ws : List Jvm.Cond)  (h0 : Heap) (n0 : Nat) (Z0 : n0 ≤ h0.size) :
    Ctr l Z ({ cls := "java/lang/StringUTF16", name := "newBytesFor", desc := "(I)[B" } : Jvm.MethodName) jdk_52_method_2_code 1 (some (.array .byte)) ws ({ frames := 1, cells := 1, slots := 6, locals := 12 } : Room) #[.int (3 : Int32)] h0 (fun v h L => ∃ (b : Addr) (k : ClassId), v = some (.ref b) ∧ Fr n0 L ∧ Keep h0 h [] ∧ h0.size ≤ b ∧ Arv Z h b k .byte (6 : Int32) [.int 0, .int 0, .int 0, .int 0, .int 0, .int 0] (.int 0)) := by
  refine Ctr.enter (Ls := #[.val (.int (3 : Int32))]) (by decide +kernel) (fun m => ef_rmNF3  m) ?_
  intro p e s m below meth c T hx hby hml hown hnm hret hlk hZ hh X0 e0
  have N0 := Fr.nil n0
  refine g_iloadN X0 hx hby d8_0 (pc' := 1) rfl rfl ?_
  refine g_callS X0 hx hZ hown (W := 0) (argsL := [.int (3 : Int32)]) (rest := []) hby d8_1 (pc' := 4) rfl (by rw [hml]; rfl) (w_36 hw) (w_37 hw) (w_24 hw) (w_38 hw) (by decide) (rmNL3 l Z a0 hw [] h0 n0) e0 (by decide) (by decide) (by decide) (by decide) rfl pd__28I_29I rfl rfl (Nat.le_of_eq rfl) ?_
  rintro _ T1 L1 X1 ⟨rfl, N1q, e1⟩
  have N1 := Fr.app N0 N1q
  show GoE p e below _ (T1.setTop (mkF m 4 #[.val (.int (3 : Int32))] [.int (6 : Int32)]))
  refine g_newarray X1 hx hZ 6  "[B" hby d8_4 (pc' := 6) rfl (w_26 hw) e1 (by decide) (by decide) (by decide) (by decide) (by decide) rfl ?_
  intro T2 b2 c2 hb2 X2 E2 A2v A2x
  have K2 := (Keep.refl h0 []).ext E2
  have Z2 := Nat.le_trans Z0 E2.1
  have A2 : Arv Z T2.heap b2 c2 .byte (6 : Int32) [.int 0, .int 0, .int 0, .int 0, .int 0, .int 0] (.int 0) := A2v
  exact g_retA (Q := (fun v h L => ∃ (b : Addr) (k : ClassId), v = some (.ref b) ∧ Fr n0 L ∧ Keep h0 h [] ∧ h0.size ≤ b ∧ Arv Z h b k .byte (6 : Int32) [.int 0, .int 0, .int 0, .int 0, .int 0, .int 0] (.int 0))) X2 hx hby d8_6 rfl hret rfl hlk (by decide) (by decide) ⟨b2, c2, rfl, N1, K2, (Nat.le_trans (Keep.refl h0 []).1 (Nat.le_of_eq hb2.symm)), A2⟩
theorem ef_rmP10 (q1 : Addr) (q3 : Int32) (m : MethodId) : entryFrame m #[.ref q1, .int (0 : Int32), .int q3] 3 = mkF m 0 #[.val (.ref q1), .val (.int (0 : Int32)), .val (.int q3)] [] := by
  first | (simp [entryFrame, mkF, argsToLocals, Value.category]; done) | rfl
set_option maxRecDepth 65536 in
set_option maxHeartbeats 40000000 in
theorem rmP10 (l : Launch) (Z : State) (a0 : Array Value) (hw : ∀ d ∈ tables_1, d.before a0 Z = true) (ws : List Jvm.Cond) (q1 : Addr) (q3 : Int32) (h0 : Heap) (n0 : Nat) (u0 u1 : Int32) (kq : ClassId) (A_q : Arv Z h0 q1 kq .byte (2 : Int32) [.int u0, .int u1] (.int 0)) (g_q : n0 ≤ q1) (cs : Int32) (fm : Value) (SS : SSt Z cs fm) (O0 : Old Z n0 h0) :
    Ctr l Z ({ cls := "java/lang/StringUTF16", name := "putChar", desc := "([BII)V" } : Jvm.MethodName) jdk_52_method_4_code 3 none ws ({ frames := 0, cells := 0, slots := 0, locals := 0 } : Room) #[.ref q1, .int (0 : Int32), .int q3] h0 (fun v h L => v = none ∧ Fr n0 L ∧ Keep h0 h [q1] ∧ Arv Z h q1 kq .byte (2 : Int32) [.int (lob q3), .int (hib q3)] (.int 0)) := by
  refine Ctr.enter (Ls := #[.val (.ref q1), .val (.int (0 : Int32)), .val (.int q3)]) (by decide +kernel) (fun m => ef_rmP10 q1 q3 m) ?_
  intro p e s m below meth c T hx hby hml hown hnm hret hlk hZ hh X0 e0
  have N0 := Fr.nil n0
  refine g_getS X0 hx hZ hown hby d10_0 (pc' := 3) rfl (w_43 hw) e0 (SS.2.2.1.ext O0.2) ?_
  intro T1 X1 e1
  refine g_if_ne X1 hx hby d10_3 (by decide) (pc' := 28) (by decide) (pn := 6) rfl (fun _ => ?_) (fun z => absurd z (by decide))
  refine g_iloadN X1 hx hby d10_28 (pc' := 29) rfl rfl ?_
  refine g_iconst X1 hx hby d10_29 (pc' := 30) rfl (z := (1 : Int32)) rfl ?_
  refine g_ishl X1 hx hby d10_30 (pc' := 31) rfl ?_
  refine g_eqI (b := (0 : Int32)) (by decide +kernel) ?_
  refine g_istoreN X1 hx hby d10_31 (pc' := 32) rfl (l' := #[.val (.ref q1), .val (.int (0 : Int32)), .val (.int q3)]) rfl ?_
  refine g_aloadN X1 hx hby d10_32 (pc' := 33) rfl rfl rfl ?_
  refine g_iloadN X1 hx hby d10_33 (pc' := 34) rfl rfl ?_
  refine g_iinc X1 hx hby d10_34 (pc' := 37) rfl rfl (l' := #[.val (.ref q1), .val (.int (1 : Int32)), .val (.int q3)]) rfl ?_
  refine g_iloadN X1 hx hby d10_37 (pc' := 38) rfl rfl ?_
  refine g_getS X1 hx hZ hown hby d10_38 (pc' := 41) rfl (w_44 hw) e1 (SS.2.2.2.1.ext O0.2) ?_
  intro T2 X2 e2
  refine g_ishr X2 hx hby d10_41 (pc' := 42) rfl ?_
  refine g_i2b X2 hx hby d10_42 (pc' := 43) rfl ?_
  refine g_bastore X2 hx hZ 0 hby d10_43 (pc' := 44) rfl e2 A_q (by decide) (by decide) (by first | decide | simp) ?_
  intro T3 X3 W3 A3v
  have N3 := Fr.snoc X3 N0 g_q
  have O3 := O0.wr W3 g_q
  have K3 := (Keep.refl h0 [q1]).wr W3 (Or.inl (List.mem_of_getElem? (i := 0) rfl))
  have A3 : Arv Z T3.heap q1 kq .byte (2 : Int32) [.int (nar .byte (q3 >>> ((0 : Int32) &&& 31)).toInt8.toInt32), .int u1] (.int 0) := A3v
  refine g_aloadN X3 hx hby d10_44 (pc' := 45) rfl rfl rfl ?_
  refine g_iloadN X3 hx hby d10_45 (pc' := 46) rfl rfl ?_
  refine g_iloadN X3 hx hby d10_46 (pc' := 47) rfl rfl ?_
  refine g_getS X3 hx hZ hown hby d10_47 (pc' := 50) rfl (w_45 hw) rfl (SS.2.2.2.2.1.ext O3.2) ?_
  intro T4 X4 e4
  refine g_ishr X4 hx hby d10_50 (pc' := 51) rfl ?_
  refine g_i2b X4 hx hby d10_51 (pc' := 52) rfl ?_
  refine g_bastore X4 hx hZ 1 hby d10_52 (pc' := 53) rfl e4 A3 (by decide) (by decide) (by first | decide | simp) ?_
  intro T5 X5 W5 A5v
  have N5 := Fr.snoc X5 N3 g_q
  have O5 := O3.wr W5 g_q
  have K5 := K3.wr W5 (Or.inl (List.mem_of_getElem? (i := 0) rfl))
  have A5 : Arv Z T5.heap q1 kq .byte (2 : Int32) [.int (nar .byte (q3 >>> ((0 : Int32) &&& 31)).toInt8.toInt32), .int (nar .byte (q3 >>> ((8 : Int32) &&& 31)).toInt8.toInt32)] (.int 0) := A5v
  exact g_retV (Q := (fun v h L => v = none ∧ Fr n0 L ∧ Keep h0 h [q1] ∧ Arv Z h q1 kq .byte (2 : Int32) [.int (lob q3), .int (hib q3)] (.int 0))) X5 hx hby d10_53 hret hlk (by decide) (by decide) ⟨rfl, N5, K5, A5⟩
theorem ef_rmG10 (q1 : Addr) (m : MethodId) : entryFrame m #[.ref q1, .int (0 : Int32)] 2 = mkF m 0 #[.val (.ref q1), .val (.int (0 : Int32))] [] := by
  first | (simp [entryFrame, mkF, argsToLocals, Value.category]; done) | rfl
set_option maxRecDepth 65536 in
set_option maxHeartbeats 40000000 in
theorem rmG10 (l : Launch) (Z : State) (a0 : Array Value) (hw : ∀ d ∈ tables_1, d.before a0 Z = true) (ws : List Jvm.Cond) (q1 : Addr) (h0 : Heap) (n0 : Nat) (u0 u1 : Int32) (kq : ClassId) (A_q : Arv Z h0 q1 kq .byte (2 : Int32) [.int u0, .int u1] (.int 0)) (cs : Int32) (fm : Value) (SS : SSt Z cs fm) (O0 : Old Z n0 h0) :
    Ctr l Z ({ cls := "java/lang/StringUTF16", name := "getChar", desc := "([BI)C" } : Jvm.MethodName) jdk_52_method_5_code 2 (some .char) ws ({ frames := 0, cells := 0, slots := 0, locals := 0 } : Room) #[.ref q1, .int (0 : Int32)] h0 (fun v h L => v = some (.int (gch u0 u1)) ∧ Fr n0 L ∧ h = h0) := by
  refine Ctr.enter (Ls := #[.val (.ref q1), .val (.int (0 : Int32))]) (by decide +kernel) (fun m => ef_rmG10 q1 m) ?_
  intro p e s m below meth c T hx hby hml hown hnm hret hlk hZ hh X0 e0
  have N0 := Fr.nil n0
  refine g_getS X0 hx hZ hown hby d11_0 (pc' := 3) rfl (w_43 hw) e0 (SS.2.2.1.ext O0.2) ?_
  intro T1 X1 e1
  refine g_if_ne X1 hx hby d11_3 (by decide) (pc' := 28) (by decide) (pn := 6) rfl (fun _ => ?_) (fun z => absurd z (by decide))
  refine g_iloadN X1 hx hby d11_28 (pc' := 29) rfl rfl ?_
  refine g_iconst X1 hx hby d11_29 (pc' := 30) rfl (z := (1 : Int32)) rfl ?_
  refine g_ishl X1 hx hby d11_30 (pc' := 31) rfl ?_
  refine g_eqI (b := (0 : Int32)) (by decide +kernel) ?_
  refine g_istoreN X1 hx hby d11_31 (pc' := 32) rfl (l' := #[.val (.ref q1), .val (.int (0 : Int32))]) rfl ?_
  refine g_aloadN X1 hx hby d11_32 (pc' := 33) rfl rfl rfl ?_
  refine g_iloadN X1 hx hby d11_33 (pc' := 34) rfl rfl ?_
  refine g_iinc X1 hx hby d11_34 (pc' := 37) rfl rfl (l' := #[.val (.ref q1), .val (.int (1 : Int32))]) rfl ?_
  refine g_baload X1 hx hZ hby d11_37 (pc' := 38) rfl e1 A_q (by decide) (v := .int u0) rfl ?_
  refine g_sipush X1 hx hby d11_38 (pc' := 41) rfl (z := (255 : Int32)) rfl ?_
  refine g_iand X1 hx hby d11_41 (pc' := 42) rfl ?_
  refine g_getS X1 hx hZ hown hby d11_42 (pc' := 45) rfl (w_44 hw) e1 (SS.2.2.2.1.ext O0.2) ?_
  intro T2 X2 e2
  refine g_ishl X2 hx hby d11_45 (pc' := 46) rfl ?_
  refine g_aloadN X2 hx hby d11_46 (pc' := 47) rfl rfl rfl ?_
  refine g_iloadN X2 hx hby d11_47 (pc' := 48) rfl rfl ?_
  refine g_baload X2 hx hZ hby d11_48 (pc' := 49) rfl e2 A_q (by decide) (v := .int u1) rfl ?_
  refine g_sipush X2 hx hby d11_49 (pc' := 52) rfl (z := (255 : Int32)) rfl ?_
  refine g_iand X2 hx hby d11_52 (pc' := 53) rfl ?_
  refine g_getS X2 hx hZ hown hby d11_53 (pc' := 56) rfl (w_45 hw) e2 (SS.2.2.2.2.1.ext O0.2) ?_
  intro T3 X3 e3
  refine g_ishl X3 hx hby d11_56 (pc' := 57) rfl ?_
  refine g_ior X3 hx hby d11_57 (pc' := 58) rfl ?_
  refine g_i2c X3 hx hby d11_58 (pc' := 59) rfl ?_
  exact g_retN (Q := (fun v h L => v = some (.int (gch u0 u1)) ∧ Fr n0 L ∧ h = h0)) (w := (((u0 &&& (255 : Int32)) <<< ((0 : Int32) &&& 31)) ||| ((u1 &&& (255 : Int32)) <<< ((8 : Int32) &&& 31))).toUInt32.toUInt16.toUInt32.toInt32) X3 hx hby d11_59 hret (by simp) (own_narc (own_ch _)) hlk (by decide) (by decide) ⟨rfl, N0, e3⟩
theorem ef_rmP20 (q1 : Addr) (q3 : Int32) (m : MethodId) : entryFrame m #[.ref q1, .int (0 : Int32), .int q3] 3 = mkF m 0 #[.val (.ref q1), .val (.int (0 : Int32)), .val (.int q3)] [] := by
  first | (simp [entryFrame, mkF, argsToLocals, Value.category]; done) | rfl
set_option maxRecDepth 65536 in
set_option maxHeartbeats 40000000 in
theorem rmP20 (l : Launch) (Z : State) (a0 : Array Value) (hw : ∀ d ∈ tables_1, d.before a0 Z = true) (ws : List Jvm.Cond) (q1 : Addr) (q3 : Int32) (h0 : Heap) (n0 : Nat) (u0 u1 u2 u3 : Int32) (kq : ClassId) (A_q : Arv Z h0 q1 kq .byte (4 : Int32) [.int u0, .int u1, .int u2, .int u3] (.int 0)) (g_q : n0 ≤ q1) (cs : Int32) (fm : Value) (SS : SSt Z cs fm) (O0 : Old Z n0 h0) :
    Ctr l Z ({ cls := "java/lang/StringUTF16", name := "putChar", desc := "([BII)V" } : Jvm.MethodName) jdk_52_method_4_code 3 none ws ({ frames := 0, cells := 0, slots := 0, locals := 0 } : Room) #[.ref q1, .int (0 : Int32), .int q3] h0 (fun v h L => v = none ∧ Fr n0 L ∧ Keep h0 h [q1] ∧ Arv Z h q1 kq .byte (4 : Int32) [.int (lob q3), .int (hib q3), .int u2, .int u3] (.int 0)) := by
  refine Ctr.enter (Ls := #[.val (.ref q1), .val (.int (0 : Int32)), .val (.int q3)]) (by decide +kernel) (fun m => ef_rmP20 q1 q3 m) ?_
  intro p e s m below meth c T hx hby hml hown hnm hret hlk hZ hh X0 e0
  have N0 := Fr.nil n0
  refine g_getS X0 hx hZ hown hby d10_0 (pc' := 3) rfl (w_43 hw) e0 (SS.2.2.1.ext O0.2) ?_
  intro T1 X1 e1
  refine g_if_ne X1 hx hby d10_3 (by decide) (pc' := 28) (by decide) (pn := 6) rfl (fun _ => ?_) (fun z => absurd z (by decide))
  refine g_iloadN X1 hx hby d10_28 (pc' := 29) rfl rfl ?_
  refine g_iconst X1 hx hby d10_29 (pc' := 30) rfl (z := (1 : Int32)) rfl ?_
  refine g_ishl X1 hx hby d10_30 (pc' := 31) rfl ?_
  refine g_eqI (b := (0 : Int32)) (by decide +kernel) ?_
  refine g_istoreN X1 hx hby d10_31 (pc' := 32) rfl (l' := #[.val (.ref q1), .val (.int (0 : Int32)), .val (.int q3)]) rfl ?_
  refine g_aloadN X1 hx hby d10_32 (pc' := 33) rfl rfl rfl ?_
  refine g_iloadN X1 hx hby d10_33 (pc' := 34) rfl rfl ?_
  refine g_iinc X1 hx hby d10_34 (pc' := 37) rfl rfl (l' := #[.val (.ref q1), .val (.int (1 : Int32)), .val (.int q3)]) rfl ?_
  refine g_iloadN X1 hx hby d10_37 (pc' := 38) rfl rfl ?_
  refine g_getS X1 hx hZ hown hby d10_38 (pc' := 41) rfl (w_44 hw) e1 (SS.2.2.2.1.ext O0.2) ?_
  intro T2 X2 e2
  refine g_ishr X2 hx hby d10_41 (pc' := 42) rfl ?_
  refine g_i2b X2 hx hby d10_42 (pc' := 43) rfl ?_
  refine g_bastore X2 hx hZ 0 hby d10_43 (pc' := 44) rfl e2 A_q (by decide) (by decide) (by first | decide | simp) ?_
  intro T3 X3 W3 A3v
  have N3 := Fr.snoc X3 N0 g_q
  have O3 := O0.wr W3 g_q
  have K3 := (Keep.refl h0 [q1]).wr W3 (Or.inl (List.mem_of_getElem? (i := 0) rfl))
  have A3 : Arv Z T3.heap q1 kq .byte (4 : Int32) [.int (nar .byte (q3 >>> ((0 : Int32) &&& 31)).toInt8.toInt32), .int u1, .int u2, .int u3] (.int 0) := A3v
  refine g_aloadN X3 hx hby d10_44 (pc' := 45) rfl rfl rfl ?_
  refine g_iloadN X3 hx hby d10_45 (pc' := 46) rfl rfl ?_
  refine g_iloadN X3 hx hby d10_46 (pc' := 47) rfl rfl ?_
  refine g_getS X3 hx hZ hown hby d10_47 (pc' := 50) rfl (w_45 hw) rfl (SS.2.2.2.2.1.ext O3.2) ?_
  intro T4 X4 e4
  refine g_ishr X4 hx hby d10_50 (pc' := 51) rfl ?_
  refine g_i2b X4 hx hby d10_51 (pc' := 52) rfl ?_
  refine g_bastore X4 hx hZ 1 hby d10_52 (pc' := 53) rfl e4 A3 (by decide) (by decide) (by first | decide | simp) ?_
  intro T5 X5 W5 A5v
  have N5 := Fr.snoc X5 N3 g_q
  have O5 := O3.wr W5 g_q
  have K5 := K3.wr W5 (Or.inl (List.mem_of_getElem? (i := 0) rfl))
  have A5 : Arv Z T5.heap q1 kq .byte (4 : Int32) [.int (nar .byte (q3 >>> ((0 : Int32) &&& 31)).toInt8.toInt32), .int (nar .byte (q3 >>> ((8 : Int32) &&& 31)).toInt8.toInt32), .int u2, .int u3] (.int 0) := A5v
  exact g_retV (Q := (fun v h L => v = none ∧ Fr n0 L ∧ Keep h0 h [q1] ∧ Arv Z h q1 kq .byte (4 : Int32) [.int (lob q3), .int (hib q3), .int u2, .int u3] (.int 0))) X5 hx hby d10_53 hret hlk (by decide) (by decide) ⟨rfl, N5, K5, A5⟩
theorem ef_rmG20 (q1 : Addr) (m : MethodId) : entryFrame m #[.ref q1, .int (0 : Int32)] 2 = mkF m 0 #[.val (.ref q1), .val (.int (0 : Int32))] [] := by
  first | (simp [entryFrame, mkF, argsToLocals, Value.category]; done) | rfl
set_option maxRecDepth 65536 in
set_option maxHeartbeats 40000000 in
theorem rmG20 (l : Launch) (Z : State) (a0 : Array Value) (hw : ∀ d ∈ tables_1, d.before a0 Z = true) (ws : List Jvm.Cond) (q1 : Addr) (h0 : Heap) (n0 : Nat) (u0 u1 u2 u3 : Int32) (kq : ClassId) (A_q : Arv Z h0 q1 kq .byte (4 : Int32) [.int u0, .int u1, .int u2, .int u3] (.int 0)) (cs : Int32) (fm : Value) (SS : SSt Z cs fm) (O0 : Old Z n0 h0) :
    Ctr l Z ({ cls := "java/lang/StringUTF16", name := "getChar", desc := "([BI)C" } : Jvm.MethodName) jdk_52_method_5_code 2 (some .char) ws ({ frames := 0, cells := 0, slots := 0, locals := 0 } : Room) #[.ref q1, .int (0 : Int32)] h0 (fun v h L => v = some (.int (gch u0 u1)) ∧ Fr n0 L ∧ h = h0) := by
  refine Ctr.enter (Ls := #[.val (.ref q1), .val (.int (0 : Int32))]) (by decide +kernel) (fun m => ef_rmG20 q1 m) ?_
  intro p e s m below meth c T hx hby hml hown hnm hret hlk hZ hh X0 e0
  have N0 := Fr.nil n0
  refine g_getS X0 hx hZ hown hby d11_0 (pc' := 3) rfl (w_43 hw) e0 (SS.2.2.1.ext O0.2) ?_
  intro T1 X1 e1
  refine g_if_ne X1 hx hby d11_3 (by decide) (pc' := 28) (by decide) (pn := 6) rfl (fun _ => ?_) (fun z => absurd z (by decide))
  refine g_iloadN X1 hx hby d11_28 (pc' := 29) rfl rfl ?_
  refine g_iconst X1 hx hby d11_29 (pc' := 30) rfl (z := (1 : Int32)) rfl ?_
  refine g_ishl X1 hx hby d11_30 (pc' := 31) rfl ?_
  refine g_eqI (b := (0 : Int32)) (by decide +kernel) ?_
  refine g_istoreN X1 hx hby d11_31 (pc' := 32) rfl (l' := #[.val (.ref q1), .val (.int (0 : Int32))]) rfl ?_
  refine g_aloadN X1 hx hby d11_32 (pc' := 33) rfl rfl rfl ?_
  refine g_iloadN X1 hx hby d11_33 (pc' := 34) rfl rfl ?_
  refine g_iinc X1 hx hby d11_34 (pc' := 37) rfl rfl (l' := #[.val (.ref q1), .val (.int (1 : Int32))]) rfl ?_
  refine g_baload X1 hx hZ hby d11_37 (pc' := 38) rfl e1 A_q (by decide) (v := .int u0) rfl ?_
  refine g_sipush X1 hx hby d11_38 (pc' := 41) rfl (z := (255 : Int32)) rfl ?_
  refine g_iand X1 hx hby d11_41 (pc' := 42) rfl ?_
  refine g_getS X1 hx hZ hown hby d11_42 (pc' := 45) rfl (w_44 hw) e1 (SS.2.2.2.1.ext O0.2) ?_
  intro T2 X2 e2
  refine g_ishl X2 hx hby d11_45 (pc' := 46) rfl ?_
  refine g_aloadN X2 hx hby d11_46 (pc' := 47) rfl rfl rfl ?_
  refine g_iloadN X2 hx hby d11_47 (pc' := 48) rfl rfl ?_
  refine g_baload X2 hx hZ hby d11_48 (pc' := 49) rfl e2 A_q (by decide) (v := .int u1) rfl ?_
  refine g_sipush X2 hx hby d11_49 (pc' := 52) rfl (z := (255 : Int32)) rfl ?_
  refine g_iand X2 hx hby d11_52 (pc' := 53) rfl ?_
  refine g_getS X2 hx hZ hown hby d11_53 (pc' := 56) rfl (w_45 hw) e2 (SS.2.2.2.2.1.ext O0.2) ?_
  intro T3 X3 e3
  refine g_ishl X3 hx hby d11_56 (pc' := 57) rfl ?_
  refine g_ior X3 hx hby d11_57 (pc' := 58) rfl ?_
  refine g_i2c X3 hx hby d11_58 (pc' := 59) rfl ?_
  exact g_retN (Q := (fun v h L => v = some (.int (gch u0 u1)) ∧ Fr n0 L ∧ h = h0)) (w := (((u0 &&& (255 : Int32)) <<< ((0 : Int32) &&& 31)) ||| ((u1 &&& (255 : Int32)) <<< ((8 : Int32) &&& 31))).toUInt32.toUInt16.toUInt32.toInt32) X3 hx hby d11_59 hret (by simp) (own_narc (own_ch _)) hlk (by decide) (by decide) ⟨rfl, N0, e3⟩
theorem ef_rmP21 (q1 : Addr) (q3 : Int32) (m : MethodId) : entryFrame m #[.ref q1, .int (1 : Int32), .int q3] 3 = mkF m 0 #[.val (.ref q1), .val (.int (1 : Int32)), .val (.int q3)] [] := by
  first | (simp [entryFrame, mkF, argsToLocals, Value.category]; done) | rfl
set_option maxRecDepth 65536 in
set_option maxHeartbeats 40000000 in
theorem rmP21 (l : Launch) (Z : State) (a0 : Array Value) (hw : ∀ d ∈ tables_1, d.before a0 Z = true) (ws : List Jvm.Cond) (q1 : Addr) (q3 : Int32) (h0 : Heap) (n0 : Nat) (u0 u1 u2 u3 : Int32) (kq : ClassId) (A_q : Arv Z h0 q1 kq .byte (4 : Int32) [.int u0, .int u1, .int u2, .int u3] (.int 0)) (g_q : n0 ≤ q1) (cs : Int32) (fm : Value) (SS : SSt Z cs fm) (O0 : Old Z n0 h0) :
    Ctr l Z ({ cls := "java/lang/StringUTF16", name := "putChar", desc := "([BII)V" } : Jvm.MethodName) jdk_52_method_4_code 3 none ws ({ frames := 0, cells := 0, slots := 0, locals := 0 } : Room) #[.ref q1, .int (1 : Int32), .int q3] h0 (fun v h L => v = none ∧ Fr n0 L ∧ Keep h0 h [q1] ∧ Arv Z h q1 kq .byte (4 : Int32) [.int u0, .int u1, .int (lob q3), .int (hib q3)] (.int 0)) := by
  refine Ctr.enter (Ls := #[.val (.ref q1), .val (.int (1 : Int32)), .val (.int q3)]) (by decide +kernel) (fun m => ef_rmP21 q1 q3 m) ?_
  intro p e s m below meth c T hx hby hml hown hnm hret hlk hZ hh X0 e0
  have N0 := Fr.nil n0
  refine g_getS X0 hx hZ hown hby d10_0 (pc' := 3) rfl (w_43 hw) e0 (SS.2.2.1.ext O0.2) ?_
  intro T1 X1 e1
  refine g_if_ne X1 hx hby d10_3 (by decide) (pc' := 28) (by decide) (pn := 6) rfl (fun _ => ?_) (fun z => absurd z (by decide))
  refine g_iloadN X1 hx hby d10_28 (pc' := 29) rfl rfl ?_
  refine g_iconst X1 hx hby d10_29 (pc' := 30) rfl (z := (1 : Int32)) rfl ?_
  refine g_ishl X1 hx hby d10_30 (pc' := 31) rfl ?_
  refine g_eqI (b := (2 : Int32)) (by decide +kernel) ?_
  refine g_istoreN X1 hx hby d10_31 (pc' := 32) rfl (l' := #[.val (.ref q1), .val (.int (2 : Int32)), .val (.int q3)]) rfl ?_
  refine g_aloadN X1 hx hby d10_32 (pc' := 33) rfl rfl rfl ?_
  refine g_iloadN X1 hx hby d10_33 (pc' := 34) rfl rfl ?_
  refine g_iinc X1 hx hby d10_34 (pc' := 37) rfl rfl (l' := #[.val (.ref q1), .val (.int (3 : Int32)), .val (.int q3)]) rfl ?_
  refine g_iloadN X1 hx hby d10_37 (pc' := 38) rfl rfl ?_
  refine g_getS X1 hx hZ hown hby d10_38 (pc' := 41) rfl (w_44 hw) e1 (SS.2.2.2.1.ext O0.2) ?_
  intro T2 X2 e2
  refine g_ishr X2 hx hby d10_41 (pc' := 42) rfl ?_
  refine g_i2b X2 hx hby d10_42 (pc' := 43) rfl ?_
  refine g_bastore X2 hx hZ 2 hby d10_43 (pc' := 44) rfl e2 A_q (by decide) (by decide) (by first | decide | simp) ?_
  intro T3 X3 W3 A3v
  have N3 := Fr.snoc X3 N0 g_q
  have O3 := O0.wr W3 g_q
  have K3 := (Keep.refl h0 [q1]).wr W3 (Or.inl (List.mem_of_getElem? (i := 0) rfl))
  have A3 : Arv Z T3.heap q1 kq .byte (4 : Int32) [.int u0, .int u1, .int (nar .byte (q3 >>> ((0 : Int32) &&& 31)).toInt8.toInt32), .int u3] (.int 0) := A3v
  refine g_aloadN X3 hx hby d10_44 (pc' := 45) rfl rfl rfl ?_
  refine g_iloadN X3 hx hby d10_45 (pc' := 46) rfl rfl ?_
  refine g_iloadN X3 hx hby d10_46 (pc' := 47) rfl rfl ?_
  refine g_getS X3 hx hZ hown hby d10_47 (pc' := 50) rfl (w_45 hw) rfl (SS.2.2.2.2.1.ext O3.2) ?_
  intro T4 X4 e4
  refine g_ishr X4 hx hby d10_50 (pc' := 51) rfl ?_
  refine g_i2b X4 hx hby d10_51 (pc' := 52) rfl ?_
  refine g_bastore X4 hx hZ 3 hby d10_52 (pc' := 53) rfl e4 A3 (by decide) (by decide) (by first | decide | simp) ?_
  intro T5 X5 W5 A5v
  have N5 := Fr.snoc X5 N3 g_q
  have O5 := O3.wr W5 g_q
  have K5 := K3.wr W5 (Or.inl (List.mem_of_getElem? (i := 0) rfl))
  have A5 : Arv Z T5.heap q1 kq .byte (4 : Int32) [.int u0, .int u1, .int (nar .byte (q3 >>> ((0 : Int32) &&& 31)).toInt8.toInt32), .int (nar .byte (q3 >>> ((8 : Int32) &&& 31)).toInt8.toInt32)] (.int 0) := A5v
  exact g_retV (Q := (fun v h L => v = none ∧ Fr n0 L ∧ Keep h0 h [q1] ∧ Arv Z h q1 kq .byte (4 : Int32) [.int u0, .int u1, .int (lob q3), .int (hib q3)] (.int 0))) X5 hx hby d10_53 hret hlk (by decide) (by decide) ⟨rfl, N5, K5, A5⟩
theorem ef_rmG21 (q1 : Addr) (m : MethodId) : entryFrame m #[.ref q1, .int (1 : Int32)] 2 = mkF m 0 #[.val (.ref q1), .val (.int (1 : Int32))] [] := by
  first | (simp [entryFrame, mkF, argsToLocals, Value.category]; done) | rfl
set_option maxRecDepth 65536 in
set_option maxHeartbeats 40000000 in
theorem rmG21 (l : Launch) (Z : State) (a0 : Array Value) (hw : ∀ d ∈ tables_1, d.before a0 Z = true) (ws : List Jvm.Cond) (q1 : Addr) (h0 : Heap) (n0 : Nat) (u0 u1 u2 u3 : Int32) (kq : ClassId) (A_q : Arv Z h0 q1 kq .byte (4 : Int32) [.int u0, .int u1, .int u2, .int u3] (.int 0)) (cs : Int32) (fm : Value) (SS : SSt Z cs fm) (O0 : Old Z n0 h0) :
    Ctr l Z ({ cls := "java/lang/StringUTF16", name := "getChar", desc := "([BI)C" } : Jvm.MethodName) jdk_52_method_5_code 2 (some .char) ws ({ frames := 0, cells := 0, slots := 0, locals := 0 } : Room) #[.ref q1, .int (1 : Int32)] h0 (fun v h L => v = some (.int (gch u2 u3)) ∧ Fr n0 L ∧ h = h0) := by
  refine Ctr.enter (Ls := #[.val (.ref q1), .val (.int (1 : Int32))]) (by decide +kernel) (fun m => ef_rmG21 q1 m) ?_
  intro p e s m below meth c T hx hby hml hown hnm hret hlk hZ hh X0 e0
  have N0 := Fr.nil n0
  refine g_getS X0 hx hZ hown hby d11_0 (pc' := 3) rfl (w_43 hw) e0 (SS.2.2.1.ext O0.2) ?_
  intro T1 X1 e1
  refine g_if_ne X1 hx hby d11_3 (by decide) (pc' := 28) (by decide) (pn := 6) rfl (fun _ => ?_) (fun z => absurd z (by decide))
  refine g_iloadN X1 hx hby d11_28 (pc' := 29) rfl rfl ?_
  refine g_iconst X1 hx hby d11_29 (pc' := 30) rfl (z := (1 : Int32)) rfl ?_
  refine g_ishl X1 hx hby d11_30 (pc' := 31) rfl ?_
  refine g_eqI (b := (2 : Int32)) (by decide +kernel) ?_
  refine g_istoreN X1 hx hby d11_31 (pc' := 32) rfl (l' := #[.val (.ref q1), .val (.int (2 : Int32))]) rfl ?_
  refine g_aloadN X1 hx hby d11_32 (pc' := 33) rfl rfl rfl ?_
  refine g_iloadN X1 hx hby d11_33 (pc' := 34) rfl rfl ?_
  refine g_iinc X1 hx hby d11_34 (pc' := 37) rfl rfl (l' := #[.val (.ref q1), .val (.int (3 : Int32))]) rfl ?_
  refine g_baload X1 hx hZ hby d11_37 (pc' := 38) rfl e1 A_q (by decide) (v := .int u2) rfl ?_
  refine g_sipush X1 hx hby d11_38 (pc' := 41) rfl (z := (255 : Int32)) rfl ?_
  refine g_iand X1 hx hby d11_41 (pc' := 42) rfl ?_
  refine g_getS X1 hx hZ hown hby d11_42 (pc' := 45) rfl (w_44 hw) e1 (SS.2.2.2.1.ext O0.2) ?_
  intro T2 X2 e2
  refine g_ishl X2 hx hby d11_45 (pc' := 46) rfl ?_
  refine g_aloadN X2 hx hby d11_46 (pc' := 47) rfl rfl rfl ?_
  refine g_iloadN X2 hx hby d11_47 (pc' := 48) rfl rfl ?_
  refine g_baload X2 hx hZ hby d11_48 (pc' := 49) rfl e2 A_q (by decide) (v := .int u3) rfl ?_
  refine g_sipush X2 hx hby d11_49 (pc' := 52) rfl (z := (255 : Int32)) rfl ?_
  refine g_iand X2 hx hby d11_52 (pc' := 53) rfl ?_
  refine g_getS X2 hx hZ hown hby d11_53 (pc' := 56) rfl (w_45 hw) e2 (SS.2.2.2.2.1.ext O0.2) ?_
  intro T3 X3 e3
  refine g_ishl X3 hx hby d11_56 (pc' := 57) rfl ?_
  refine g_ior X3 hx hby d11_57 (pc' := 58) rfl ?_
  refine g_i2c X3 hx hby d11_58 (pc' := 59) rfl ?_
  exact g_retN (Q := (fun v h L => v = some (.int (gch u2 u3)) ∧ Fr n0 L ∧ h = h0)) (w := (((u2 &&& (255 : Int32)) <<< ((0 : Int32) &&& 31)) ||| ((u3 &&& (255 : Int32)) <<< ((8 : Int32) &&& 31))).toUInt32.toUInt16.toUInt32.toInt32) X3 hx hby d11_59 hret (by simp) (own_narc (own_ch _)) hlk (by decide) (by decide) ⟨rfl, N0, e3⟩
theorem ef_rmP30 (q1 : Addr) (q3 : Int32) (m : MethodId) : entryFrame m #[.ref q1, .int (0 : Int32), .int q3] 3 = mkF m 0 #[.val (.ref q1), .val (.int (0 : Int32)), .val (.int q3)] [] := by
  first | (simp [entryFrame, mkF, argsToLocals, Value.category]; done) | rfl
set_option maxRecDepth 65536 in
set_option maxHeartbeats 40000000 in
theorem rmP30 (l : Launch) (Z : State) (a0 : Array Value) (hw : ∀ d ∈ tables_1, d.before a0 Z = true) (ws : List Jvm.Cond) (q1 : Addr) (q3 : Int32) (h0 : Heap) (n0 : Nat) (u0 u1 u2 u3 u4 u5 : Int32) (kq : ClassId) (A_q : Arv Z h0 q1 kq .byte (6 : Int32) [.int u0, .int u1, .int u2, .int u3, .int u4, .int u5] (.int 0)) (g_q : n0 ≤ q1) (cs : Int32) (fm : Value) (SS : SSt Z cs fm) (O0 : Old Z n0 h0) :
    Ctr l Z ({ cls := "java/lang/StringUTF16", name := "putChar", desc := "([BII)V" } : Jvm.MethodName) jdk_52_method_4_code 3 none ws ({ frames := 0, cells := 0, slots := 0, locals := 0 } : Room) #[.ref q1, .int (0 : Int32), .int q3] h0 (fun v h L => v = none ∧ Fr n0 L ∧ Keep h0 h [q1] ∧ Arv Z h q1 kq .byte (6 : Int32) [.int (lob q3), .int (hib q3), .int u2, .int u3, .int u4, .int u5] (.int 0)) := by
  refine Ctr.enter (Ls := #[.val (.ref q1), .val (.int (0 : Int32)), .val (.int q3)]) (by decide +kernel) (fun m => ef_rmP30 q1 q3 m) ?_
  intro p e s m below meth c T hx hby hml hown hnm hret hlk hZ hh X0 e0
  have N0 := Fr.nil n0
  refine g_getS X0 hx hZ hown hby d10_0 (pc' := 3) rfl (w_43 hw) e0 (SS.2.2.1.ext O0.2) ?_
  intro T1 X1 e1
  refine g_if_ne X1 hx hby d10_3 (by decide) (pc' := 28) (by decide) (pn := 6) rfl (fun _ => ?_) (fun z => absurd z (by decide))
  refine g_iloadN X1 hx hby d10_28 (pc' := 29) rfl rfl ?_
  refine g_iconst X1 hx hby d10_29 (pc' := 30) rfl (z := (1 : Int32)) rfl ?_
  refine g_ishl X1 hx hby d10_30 (pc' := 31) rfl ?_
  refine g_eqI (b := (0 : Int32)) (by decide +kernel) ?_
  refine g_istoreN X1 hx hby d10_31 (pc' := 32) rfl (l' := #[.val (.ref q1), .val (.int (0 : Int32)), .val (.int q3)]) rfl ?_
  refine g_aloadN X1 hx hby d10_32 (pc' := 33) rfl rfl rfl ?_
  refine g_iloadN X1 hx hby d10_33 (pc' := 34) rfl rfl ?_
  refine g_iinc X1 hx hby d10_34 (pc' := 37) rfl rfl (l' := #[.val (.ref q1), .val (.int (1 : Int32)), .val (.int q3)]) rfl ?_
  refine g_iloadN X1 hx hby d10_37 (pc' := 38) rfl rfl ?_
  refine g_getS X1 hx hZ hown hby d10_38 (pc' := 41) rfl (w_44 hw) e1 (SS.2.2.2.1.ext O0.2) ?_
  intro T2 X2 e2
  refine g_ishr X2 hx hby d10_41 (pc' := 42) rfl ?_
  refine g_i2b X2 hx hby d10_42 (pc' := 43) rfl ?_
  refine g_bastore X2 hx hZ 0 hby d10_43 (pc' := 44) rfl e2 A_q (by decide) (by decide) (by first | decide | simp) ?_
  intro T3 X3 W3 A3v
  have N3 := Fr.snoc X3 N0 g_q
  have O3 := O0.wr W3 g_q
  have K3 := (Keep.refl h0 [q1]).wr W3 (Or.inl (List.mem_of_getElem? (i := 0) rfl))
  have A3 : Arv Z T3.heap q1 kq .byte (6 : Int32) [.int (nar .byte (q3 >>> ((0 : Int32) &&& 31)).toInt8.toInt32), .int u1, .int u2, .int u3, .int u4, .int u5] (.int 0) := A3v
  refine g_aloadN X3 hx hby d10_44 (pc' := 45) rfl rfl rfl ?_
  refine g_iloadN X3 hx hby d10_45 (pc' := 46) rfl rfl ?_
  refine g_iloadN X3 hx hby d10_46 (pc' := 47) rfl rfl ?_
  refine g_getS X3 hx hZ hown hby d10_47 (pc' := 50) rfl (w_45 hw) rfl (SS.2.2.2.2.1.ext O3.2) ?_
  intro T4 X4 e4
  refine g_ishr X4 hx hby d10_50 (pc' := 51) rfl ?_
  refine g_i2b X4 hx hby d10_51 (pc' := 52) rfl ?_
  refine g_bastore X4 hx hZ 1 hby d10_52 (pc' := 53) rfl e4 A3 (by decide) (by decide) (by first | decide | simp) ?_
  intro T5 X5 W5 A5v
  have N5 := Fr.snoc X5 N3 g_q
  have O5 := O3.wr W5 g_q
  have K5 := K3.wr W5 (Or.inl (List.mem_of_getElem? (i := 0) rfl))
  have A5 : Arv Z T5.heap q1 kq .byte (6 : Int32) [.int (nar .byte (q3 >>> ((0 : Int32) &&& 31)).toInt8.toInt32), .int (nar .byte (q3 >>> ((8 : Int32) &&& 31)).toInt8.toInt32), .int u2, .int u3, .int u4, .int u5] (.int 0) := A5v
  exact g_retV (Q := (fun v h L => v = none ∧ Fr n0 L ∧ Keep h0 h [q1] ∧ Arv Z h q1 kq .byte (6 : Int32) [.int (lob q3), .int (hib q3), .int u2, .int u3, .int u4, .int u5] (.int 0))) X5 hx hby d10_53 hret hlk (by decide) (by decide) ⟨rfl, N5, K5, A5⟩
theorem ef_rmG30 (q1 : Addr) (m : MethodId) : entryFrame m #[.ref q1, .int (0 : Int32)] 2 = mkF m 0 #[.val (.ref q1), .val (.int (0 : Int32))] [] := by
  first | (simp [entryFrame, mkF, argsToLocals, Value.category]; done) | rfl
set_option maxRecDepth 65536 in
set_option maxHeartbeats 40000000 in
theorem rmG30 (l : Launch) (Z : State) (a0 : Array Value) (hw : ∀ d ∈ tables_1, d.before a0 Z = true) (ws : List Jvm.Cond) (q1 : Addr) (h0 : Heap) (n0 : Nat) (u0 u1 u2 u3 u4 u5 : Int32) (kq : ClassId) (A_q : Arv Z h0 q1 kq .byte (6 : Int32) [.int u0, .int u1, .int u2, .int u3, .int u4, .int u5] (.int 0)) (cs : Int32) (fm : Value) (SS : SSt Z cs fm) (O0 : Old Z n0 h0) :
    Ctr l Z ({ cls := "java/lang/StringUTF16", name := "getChar", desc := "([BI)C" } : Jvm.MethodName) jdk_52_method_5_code 2 (some .char) ws ({ frames := 0, cells := 0, slots := 0, locals := 0 } : Room) #[.ref q1, .int (0 : Int32)] h0 (fun v h L => v = some (.int (gch u0 u1)) ∧ Fr n0 L ∧ h = h0) := by
  refine Ctr.enter (Ls := #[.val (.ref q1), .val (.int (0 : Int32))]) (by decide +kernel) (fun m => ef_rmG30 q1 m) ?_
  intro p e s m below meth c T hx hby hml hown hnm hret hlk hZ hh X0 e0
  have N0 := Fr.nil n0
  refine g_getS X0 hx hZ hown hby d11_0 (pc' := 3) rfl (w_43 hw) e0 (SS.2.2.1.ext O0.2) ?_
  intro T1 X1 e1
  refine g_if_ne X1 hx hby d11_3 (by decide) (pc' := 28) (by decide) (pn := 6) rfl (fun _ => ?_) (fun z => absurd z (by decide))
  refine g_iloadN X1 hx hby d11_28 (pc' := 29) rfl rfl ?_
  refine g_iconst X1 hx hby d11_29 (pc' := 30) rfl (z := (1 : Int32)) rfl ?_
  refine g_ishl X1 hx hby d11_30 (pc' := 31) rfl ?_
  refine g_eqI (b := (0 : Int32)) (by decide +kernel) ?_
  refine g_istoreN X1 hx hby d11_31 (pc' := 32) rfl (l' := #[.val (.ref q1), .val (.int (0 : Int32))]) rfl ?_
  refine g_aloadN X1 hx hby d11_32 (pc' := 33) rfl rfl rfl ?_
  refine g_iloadN X1 hx hby d11_33 (pc' := 34) rfl rfl ?_
  refine g_iinc X1 hx hby d11_34 (pc' := 37) rfl rfl (l' := #[.val (.ref q1), .val (.int (1 : Int32))]) rfl ?_
  refine g_baload X1 hx hZ hby d11_37 (pc' := 38) rfl e1 A_q (by decide) (v := .int u0) rfl ?_
  refine g_sipush X1 hx hby d11_38 (pc' := 41) rfl (z := (255 : Int32)) rfl ?_
  refine g_iand X1 hx hby d11_41 (pc' := 42) rfl ?_
  refine g_getS X1 hx hZ hown hby d11_42 (pc' := 45) rfl (w_44 hw) e1 (SS.2.2.2.1.ext O0.2) ?_
  intro T2 X2 e2
  refine g_ishl X2 hx hby d11_45 (pc' := 46) rfl ?_
  refine g_aloadN X2 hx hby d11_46 (pc' := 47) rfl rfl rfl ?_
  refine g_iloadN X2 hx hby d11_47 (pc' := 48) rfl rfl ?_
  refine g_baload X2 hx hZ hby d11_48 (pc' := 49) rfl e2 A_q (by decide) (v := .int u1) rfl ?_
  refine g_sipush X2 hx hby d11_49 (pc' := 52) rfl (z := (255 : Int32)) rfl ?_
  refine g_iand X2 hx hby d11_52 (pc' := 53) rfl ?_
  refine g_getS X2 hx hZ hown hby d11_53 (pc' := 56) rfl (w_45 hw) e2 (SS.2.2.2.2.1.ext O0.2) ?_
  intro T3 X3 e3
  refine g_ishl X3 hx hby d11_56 (pc' := 57) rfl ?_
  refine g_ior X3 hx hby d11_57 (pc' := 58) rfl ?_
  refine g_i2c X3 hx hby d11_58 (pc' := 59) rfl ?_
  exact g_retN (Q := (fun v h L => v = some (.int (gch u0 u1)) ∧ Fr n0 L ∧ h = h0)) (w := (((u0 &&& (255 : Int32)) <<< ((0 : Int32) &&& 31)) ||| ((u1 &&& (255 : Int32)) <<< ((8 : Int32) &&& 31))).toUInt32.toUInt16.toUInt32.toInt32) X3 hx hby d11_59 hret (by simp) (own_narc (own_ch _)) hlk (by decide) (by decide) ⟨rfl, N0, e3⟩
theorem ef_rmP31 (q1 : Addr) (q3 : Int32) (m : MethodId) : entryFrame m #[.ref q1, .int (1 : Int32), .int q3] 3 = mkF m 0 #[.val (.ref q1), .val (.int (1 : Int32)), .val (.int q3)] [] := by
  first | (simp [entryFrame, mkF, argsToLocals, Value.category]; done) | rfl
set_option maxRecDepth 65536 in
set_option maxHeartbeats 40000000 in
theorem rmP31 (l : Launch) (Z : State) (a0 : Array Value) (hw : ∀ d ∈ tables_1, d.before a0 Z = true) (ws : List Jvm.Cond) (q1 : Addr) (q3 : Int32) (h0 : Heap) (n0 : Nat) (u0 u1 u2 u3 u4 u5 : Int32) (kq : ClassId) (A_q : Arv Z h0 q1 kq .byte (6 : Int32) [.int u0, .int u1, .int u2, .int u3, .int u4, .int u5] (.int 0)) (g_q : n0 ≤ q1) (cs : Int32) (fm : Value) (SS : SSt Z cs fm) (O0 : Old Z n0 h0) :
    Ctr l Z ({ cls := "java/lang/StringUTF16", name := "putChar", desc := "([BII)V" } : Jvm.MethodName) jdk_52_method_4_code 3 none ws ({ frames := 0, cells := 0, slots := 0, locals := 0 } : Room) #[.ref q1, .int (1 : Int32), .int q3] h0 (fun v h L => v = none ∧ Fr n0 L ∧ Keep h0 h [q1] ∧ Arv Z h q1 kq .byte (6 : Int32) [.int u0, .int u1, .int (lob q3), .int (hib q3), .int u4, .int u5] (.int 0)) := by
  refine Ctr.enter (Ls := #[.val (.ref q1), .val (.int (1 : Int32)), .val (.int q3)]) (by decide +kernel) (fun m => ef_rmP31 q1 q3 m) ?_
  intro p e s m below meth c T hx hby hml hown hnm hret hlk hZ hh X0 e0
  have N0 := Fr.nil n0
  refine g_getS X0 hx hZ hown hby d10_0 (pc' := 3) rfl (w_43 hw) e0 (SS.2.2.1.ext O0.2) ?_
  intro T1 X1 e1
  refine g_if_ne X1 hx hby d10_3 (by decide) (pc' := 28) (by decide) (pn := 6) rfl (fun _ => ?_) (fun z => absurd z (by decide))
  refine g_iloadN X1 hx hby d10_28 (pc' := 29) rfl rfl ?_
  refine g_iconst X1 hx hby d10_29 (pc' := 30) rfl (z := (1 : Int32)) rfl ?_
  refine g_ishl X1 hx hby d10_30 (pc' := 31) rfl ?_
  refine g_eqI (b := (2 : Int32)) (by decide +kernel) ?_
  refine g_istoreN X1 hx hby d10_31 (pc' := 32) rfl (l' := #[.val (.ref q1), .val (.int (2 : Int32)), .val (.int q3)]) rfl ?_
  refine g_aloadN X1 hx hby d10_32 (pc' := 33) rfl rfl rfl ?_
  refine g_iloadN X1 hx hby d10_33 (pc' := 34) rfl rfl ?_
  refine g_iinc X1 hx hby d10_34 (pc' := 37) rfl rfl (l' := #[.val (.ref q1), .val (.int (3 : Int32)), .val (.int q3)]) rfl ?_
  refine g_iloadN X1 hx hby d10_37 (pc' := 38) rfl rfl ?_
  refine g_getS X1 hx hZ hown hby d10_38 (pc' := 41) rfl (w_44 hw) e1 (SS.2.2.2.1.ext O0.2) ?_
  intro T2 X2 e2
  refine g_ishr X2 hx hby d10_41 (pc' := 42) rfl ?_
  refine g_i2b X2 hx hby d10_42 (pc' := 43) rfl ?_
  refine g_bastore X2 hx hZ 2 hby d10_43 (pc' := 44) rfl e2 A_q (by decide) (by decide) (by first | decide | simp) ?_
  intro T3 X3 W3 A3v
  have N3 := Fr.snoc X3 N0 g_q
  have O3 := O0.wr W3 g_q
  have K3 := (Keep.refl h0 [q1]).wr W3 (Or.inl (List.mem_of_getElem? (i := 0) rfl))
  have A3 : Arv Z T3.heap q1 kq .byte (6 : Int32) [.int u0, .int u1, .int (nar .byte (q3 >>> ((0 : Int32) &&& 31)).toInt8.toInt32), .int u3, .int u4, .int u5] (.int 0) := A3v
  refine g_aloadN X3 hx hby d10_44 (pc' := 45) rfl rfl rfl ?_
  refine g_iloadN X3 hx hby d10_45 (pc' := 46) rfl rfl ?_
  refine g_iloadN X3 hx hby d10_46 (pc' := 47) rfl rfl ?_
  refine g_getS X3 hx hZ hown hby d10_47 (pc' := 50) rfl (w_45 hw) rfl (SS.2.2.2.2.1.ext O3.2) ?_
  intro T4 X4 e4
  refine g_ishr X4 hx hby d10_50 (pc' := 51) rfl ?_
  refine g_i2b X4 hx hby d10_51 (pc' := 52) rfl ?_
  refine g_bastore X4 hx hZ 3 hby d10_52 (pc' := 53) rfl e4 A3 (by decide) (by decide) (by first | decide | simp) ?_
  intro T5 X5 W5 A5v
  have N5 := Fr.snoc X5 N3 g_q
  have O5 := O3.wr W5 g_q
  have K5 := K3.wr W5 (Or.inl (List.mem_of_getElem? (i := 0) rfl))
  have A5 : Arv Z T5.heap q1 kq .byte (6 : Int32) [.int u0, .int u1, .int (nar .byte (q3 >>> ((0 : Int32) &&& 31)).toInt8.toInt32), .int (nar .byte (q3 >>> ((8 : Int32) &&& 31)).toInt8.toInt32), .int u4, .int u5] (.int 0) := A5v
  exact g_retV (Q := (fun v h L => v = none ∧ Fr n0 L ∧ Keep h0 h [q1] ∧ Arv Z h q1 kq .byte (6 : Int32) [.int u0, .int u1, .int (lob q3), .int (hib q3), .int u4, .int u5] (.int 0))) X5 hx hby d10_53 hret hlk (by decide) (by decide) ⟨rfl, N5, K5, A5⟩
theorem ef_rmG31 (q1 : Addr) (m : MethodId) : entryFrame m #[.ref q1, .int (1 : Int32)] 2 = mkF m 0 #[.val (.ref q1), .val (.int (1 : Int32))] [] := by
  first | (simp [entryFrame, mkF, argsToLocals, Value.category]; done) | rfl
set_option maxRecDepth 65536 in
set_option maxHeartbeats 40000000 in
theorem rmG31 (l : Launch) (Z : State) (a0 : Array Value) (hw : ∀ d ∈ tables_1, d.before a0 Z = true) (ws : List Jvm.Cond) (q1 : Addr) (h0 : Heap) (n0 : Nat) (u0 u1 u2 u3 u4 u5 : Int32) (kq : ClassId) (A_q : Arv Z h0 q1 kq .byte (6 : Int32) [.int u0, .int u1, .int u2, .int u3, .int u4, .int u5] (.int 0)) (cs : Int32) (fm : Value) (SS : SSt Z cs fm) (O0 : Old Z n0 h0) :
    Ctr l Z ({ cls := "java/lang/StringUTF16", name := "getChar", desc := "([BI)C" } : Jvm.MethodName) jdk_52_method_5_code 2 (some .char) ws ({ frames := 0, cells := 0, slots := 0, locals := 0 } : Room) #[.ref q1, .int (1 : Int32)] h0 (fun v h L => v = some (.int (gch u2 u3)) ∧ Fr n0 L ∧ h = h0) := by
  refine Ctr.enter (Ls := #[.val (.ref q1), .val (.int (1 : Int32))]) (by decide +kernel) (fun m => ef_rmG31 q1 m) ?_
  intro p e s m below meth c T hx hby hml hown hnm hret hlk hZ hh X0 e0
  have N0 := Fr.nil n0
  refine g_getS X0 hx hZ hown hby d11_0 (pc' := 3) rfl (w_43 hw) e0 (SS.2.2.1.ext O0.2) ?_
  intro T1 X1 e1
  refine g_if_ne X1 hx hby d11_3 (by decide) (pc' := 28) (by decide) (pn := 6) rfl (fun _ => ?_) (fun z => absurd z (by decide))
  refine g_iloadN X1 hx hby d11_28 (pc' := 29) rfl rfl ?_
  refine g_iconst X1 hx hby d11_29 (pc' := 30) rfl (z := (1 : Int32)) rfl ?_
  refine g_ishl X1 hx hby d11_30 (pc' := 31) rfl ?_
  refine g_eqI (b := (2 : Int32)) (by decide +kernel) ?_
  refine g_istoreN X1 hx hby d11_31 (pc' := 32) rfl (l' := #[.val (.ref q1), .val (.int (2 : Int32))]) rfl ?_
  refine g_aloadN X1 hx hby d11_32 (pc' := 33) rfl rfl rfl ?_
  refine g_iloadN X1 hx hby d11_33 (pc' := 34) rfl rfl ?_
  refine g_iinc X1 hx hby d11_34 (pc' := 37) rfl rfl (l' := #[.val (.ref q1), .val (.int (3 : Int32))]) rfl ?_
  refine g_baload X1 hx hZ hby d11_37 (pc' := 38) rfl e1 A_q (by decide) (v := .int u2) rfl ?_
  refine g_sipush X1 hx hby d11_38 (pc' := 41) rfl (z := (255 : Int32)) rfl ?_
  refine g_iand X1 hx hby d11_41 (pc' := 42) rfl ?_
  refine g_getS X1 hx hZ hown hby d11_42 (pc' := 45) rfl (w_44 hw) e1 (SS.2.2.2.1.ext O0.2) ?_
  intro T2 X2 e2
  refine g_ishl X2 hx hby d11_45 (pc' := 46) rfl ?_
  refine g_aloadN X2 hx hby d11_46 (pc' := 47) rfl rfl rfl ?_
  refine g_iloadN X2 hx hby d11_47 (pc' := 48) rfl rfl ?_
  refine g_baload X2 hx hZ hby d11_48 (pc' := 49) rfl e2 A_q (by decide) (v := .int u3) rfl ?_
  refine g_sipush X2 hx hby d11_49 (pc' := 52) rfl (z := (255 : Int32)) rfl ?_
  refine g_iand X2 hx hby d11_52 (pc' := 53) rfl ?_
  refine g_getS X2 hx hZ hown hby d11_53 (pc' := 56) rfl (w_45 hw) e2 (SS.2.2.2.2.1.ext O0.2) ?_
  intro T3 X3 e3
  refine g_ishl X3 hx hby d11_56 (pc' := 57) rfl ?_
  refine g_ior X3 hx hby d11_57 (pc' := 58) rfl ?_
  refine g_i2c X3 hx hby d11_58 (pc' := 59) rfl ?_
  exact g_retN (Q := (fun v h L => v = some (.int (gch u2 u3)) ∧ Fr n0 L ∧ h = h0)) (w := (((u2 &&& (255 : Int32)) <<< ((0 : Int32) &&& 31)) ||| ((u3 &&& (255 : Int32)) <<< ((8 : Int32) &&& 31))).toUInt32.toUInt16.toUInt32.toInt32) X3 hx hby d11_59 hret (by simp) (own_narc (own_ch _)) hlk (by decide) (by decide) ⟨rfl, N0, e3⟩
theorem ef_rmP32 (q1 : Addr) (q3 : Int32) (m : MethodId) : entryFrame m #[.ref q1, .int (2 : Int32), .int q3] 3 = mkF m 0 #[.val (.ref q1), .val (.int (2 : Int32)), .val (.int q3)] [] := by
  first | (simp [entryFrame, mkF, argsToLocals, Value.category]; done) | rfl
set_option maxRecDepth 65536 in
set_option maxHeartbeats 40000000 in
theorem rmP32 (l : Launch) (Z : State) (a0 : Array Value) (hw : ∀ d ∈ tables_1, d.before a0 Z = true) (ws : List Jvm.Cond) (q1 : Addr) (q3 : Int32) (h0 : Heap) (n0 : Nat) (u0 u1 u2 u3 u4 u5 : Int32) (kq : ClassId) (A_q : Arv Z h0 q1 kq .byte (6 : Int32) [.int u0, .int u1, .int u2, .int u3, .int u4, .int u5] (.int 0)) (g_q : n0 ≤ q1) (cs : Int32) (fm : Value) (SS : SSt Z cs fm) (O0 : Old Z n0 h0) :
    Ctr l Z ({ cls := "java/lang/StringUTF16", name := "putChar", desc := "([BII)V" } : Jvm.MethodName) jdk_52_method_4_code 3 none ws ({ frames := 0, cells := 0, slots := 0, locals := 0 } : Room) #[.ref q1, .int (2 : Int32), .int q3] h0 (fun v h L => v = none ∧ Fr n0 L ∧ Keep h0 h [q1] ∧ Arv Z h q1 kq .byte (6 : Int32) [.int u0, .int u1, .int u2, .int u3, .int (lob q3), .int (hib q3)] (.int 0)) := by
  refine Ctr.enter (Ls := #[.val (.ref q1), .val (.int (2 : Int32)), .val (.int q3)]) (by decide +kernel) (fun m => ef_rmP32 q1 q3 m) ?_
  intro p e s m below meth c T hx hby hml hown hnm hret hlk hZ hh X0 e0
  have N0 := Fr.nil n0
  refine g_getS X0 hx hZ hown hby d10_0 (pc' := 3) rfl (w_43 hw) e0 (SS.2.2.1.ext O0.2) ?_
  intro T1 X1 e1
  refine g_if_ne X1 hx hby d10_3 (by decide) (pc' := 28) (by decide) (pn := 6) rfl (fun _ => ?_) (fun z => absurd z (by decide))
  refine g_iloadN X1 hx hby d10_28 (pc' := 29) rfl rfl ?_
  refine g_iconst X1 hx hby d10_29 (pc' := 30) rfl (z := (1 : Int32)) rfl ?_
  refine g_ishl X1 hx hby d10_30 (pc' := 31) rfl ?_
  refine g_eqI (b := (4 : Int32)) (by decide +kernel) ?_
  refine g_istoreN X1 hx hby d10_31 (pc' := 32) rfl (l' := #[.val (.ref q1), .val (.int (4 : Int32)), .val (.int q3)]) rfl ?_
  refine g_aloadN X1 hx hby d10_32 (pc' := 33) rfl rfl rfl ?_
  refine g_iloadN X1 hx hby d10_33 (pc' := 34) rfl rfl ?_
  refine g_iinc X1 hx hby d10_34 (pc' := 37) rfl rfl (l' := #[.val (.ref q1), .val (.int (5 : Int32)), .val (.int q3)]) rfl ?_
  refine g_iloadN X1 hx hby d10_37 (pc' := 38) rfl rfl ?_
  refine g_getS X1 hx hZ hown hby d10_38 (pc' := 41) rfl (w_44 hw) e1 (SS.2.2.2.1.ext O0.2) ?_
  intro T2 X2 e2
  refine g_ishr X2 hx hby d10_41 (pc' := 42) rfl ?_
  refine g_i2b X2 hx hby d10_42 (pc' := 43) rfl ?_
  refine g_bastore X2 hx hZ 4 hby d10_43 (pc' := 44) rfl e2 A_q (by decide) (by decide) (by first | decide | simp) ?_
  intro T3 X3 W3 A3v
  have N3 := Fr.snoc X3 N0 g_q
  have O3 := O0.wr W3 g_q
  have K3 := (Keep.refl h0 [q1]).wr W3 (Or.inl (List.mem_of_getElem? (i := 0) rfl))
  have A3 : Arv Z T3.heap q1 kq .byte (6 : Int32) [.int u0, .int u1, .int u2, .int u3, .int (nar .byte (q3 >>> ((0 : Int32) &&& 31)).toInt8.toInt32), .int u5] (.int 0) := A3v
  refine g_aloadN X3 hx hby d10_44 (pc' := 45) rfl rfl rfl ?_
  refine g_iloadN X3 hx hby d10_45 (pc' := 46) rfl rfl ?_
  refine g_iloadN X3 hx hby d10_46 (pc' := 47) rfl rfl ?_
  refine g_getS X3 hx hZ hown hby d10_47 (pc' := 50) rfl (w_45 hw) rfl (SS.2.2.2.2.1.ext O3.2) ?_
  intro T4 X4 e4
  refine g_ishr X4 hx hby d10_50 (pc' := 51) rfl ?_
  refine g_i2b X4 hx hby d10_51 (pc' := 52) rfl ?_
  refine g_bastore X4 hx hZ 5 hby d10_52 (pc' := 53) rfl e4 A3 (by decide) (by decide) (by first | decide | simp) ?_
  intro T5 X5 W5 A5v
  have N5 := Fr.snoc X5 N3 g_q
  have O5 := O3.wr W5 g_q
  have K5 := K3.wr W5 (Or.inl (List.mem_of_getElem? (i := 0) rfl))
  have A5 : Arv Z T5.heap q1 kq .byte (6 : Int32) [.int u0, .int u1, .int u2, .int u3, .int (nar .byte (q3 >>> ((0 : Int32) &&& 31)).toInt8.toInt32), .int (nar .byte (q3 >>> ((8 : Int32) &&& 31)).toInt8.toInt32)] (.int 0) := A5v
  exact g_retV (Q := (fun v h L => v = none ∧ Fr n0 L ∧ Keep h0 h [q1] ∧ Arv Z h q1 kq .byte (6 : Int32) [.int u0, .int u1, .int u2, .int u3, .int (lob q3), .int (hib q3)] (.int 0))) X5 hx hby d10_53 hret hlk (by decide) (by decide) ⟨rfl, N5, K5, A5⟩
theorem ef_rmG32 (q1 : Addr) (m : MethodId) : entryFrame m #[.ref q1, .int (2 : Int32)] 2 = mkF m 0 #[.val (.ref q1), .val (.int (2 : Int32))] [] := by
  first | (simp [entryFrame, mkF, argsToLocals, Value.category]; done) | rfl
set_option maxRecDepth 65536 in
set_option maxHeartbeats 40000000 in
theorem rmG32 (l : Launch) (Z : State) (a0 : Array Value) (hw : ∀ d ∈ tables_1, d.before a0 Z = true) (ws : List Jvm.Cond) (q1 : Addr) (h0 : Heap) (n0 : Nat) (u0 u1 u2 u3 u4 u5 : Int32) (kq : ClassId) (A_q : Arv Z h0 q1 kq .byte (6 : Int32) [.int u0, .int u1, .int u2, .int u3, .int u4, .int u5] (.int 0)) (cs : Int32) (fm : Value) (SS : SSt Z cs fm) (O0 : Old Z n0 h0) :
    Ctr l Z ({ cls := "java/lang/StringUTF16", name := "getChar", desc := "([BI)C" } : Jvm.MethodName) jdk_52_method_5_code 2 (some .char) ws ({ frames := 0, cells := 0, slots := 0, locals := 0 } : Room) #[.ref q1, .int (2 : Int32)] h0 (fun v h L => v = some (.int (gch u4 u5)) ∧ Fr n0 L ∧ h = h0) := by
  refine Ctr.enter (Ls := #[.val (.ref q1), .val (.int (2 : Int32))]) (by decide +kernel) (fun m => ef_rmG32 q1 m) ?_
  intro p e s m below meth c T hx hby hml hown hnm hret hlk hZ hh X0 e0
  have N0 := Fr.nil n0
  refine g_getS X0 hx hZ hown hby d11_0 (pc' := 3) rfl (w_43 hw) e0 (SS.2.2.1.ext O0.2) ?_
  intro T1 X1 e1
  refine g_if_ne X1 hx hby d11_3 (by decide) (pc' := 28) (by decide) (pn := 6) rfl (fun _ => ?_) (fun z => absurd z (by decide))
  refine g_iloadN X1 hx hby d11_28 (pc' := 29) rfl rfl ?_
  refine g_iconst X1 hx hby d11_29 (pc' := 30) rfl (z := (1 : Int32)) rfl ?_
  refine g_ishl X1 hx hby d11_30 (pc' := 31) rfl ?_
  refine g_eqI (b := (4 : Int32)) (by decide +kernel) ?_
  refine g_istoreN X1 hx hby d11_31 (pc' := 32) rfl (l' := #[.val (.ref q1), .val (.int (4 : Int32))]) rfl ?_
  refine g_aloadN X1 hx hby d11_32 (pc' := 33) rfl rfl rfl ?_
  refine g_iloadN X1 hx hby d11_33 (pc' := 34) rfl rfl ?_
  refine g_iinc X1 hx hby d11_34 (pc' := 37) rfl rfl (l' := #[.val (.ref q1), .val (.int (5 : Int32))]) rfl ?_
  refine g_baload X1 hx hZ hby d11_37 (pc' := 38) rfl e1 A_q (by decide) (v := .int u4) rfl ?_
  refine g_sipush X1 hx hby d11_38 (pc' := 41) rfl (z := (255 : Int32)) rfl ?_
  refine g_iand X1 hx hby d11_41 (pc' := 42) rfl ?_
  refine g_getS X1 hx hZ hown hby d11_42 (pc' := 45) rfl (w_44 hw) e1 (SS.2.2.2.1.ext O0.2) ?_
  intro T2 X2 e2
  refine g_ishl X2 hx hby d11_45 (pc' := 46) rfl ?_
  refine g_aloadN X2 hx hby d11_46 (pc' := 47) rfl rfl rfl ?_
  refine g_iloadN X2 hx hby d11_47 (pc' := 48) rfl rfl ?_
  refine g_baload X2 hx hZ hby d11_48 (pc' := 49) rfl e2 A_q (by decide) (v := .int u5) rfl ?_
  refine g_sipush X2 hx hby d11_49 (pc' := 52) rfl (z := (255 : Int32)) rfl ?_
  refine g_iand X2 hx hby d11_52 (pc' := 53) rfl ?_
  refine g_getS X2 hx hZ hown hby d11_53 (pc' := 56) rfl (w_45 hw) e2 (SS.2.2.2.2.1.ext O0.2) ?_
  intro T3 X3 e3
  refine g_ishl X3 hx hby d11_56 (pc' := 57) rfl ?_
  refine g_ior X3 hx hby d11_57 (pc' := 58) rfl ?_
  refine g_i2c X3 hx hby d11_58 (pc' := 59) rfl ?_
  exact g_retN (Q := (fun v h L => v = some (.int (gch u4 u5)) ∧ Fr n0 L ∧ h = h0)) (w := (((u4 &&& (255 : Int32)) <<< ((0 : Int32) &&& 31)) ||| ((u5 &&& (255 : Int32)) <<< ((8 : Int32) &&& 31))).toUInt32.toUInt16.toUInt32.toInt32) X3 hx hby d11_59 hret (by simp) (own_narc (own_ch _)) hlk (by decide) (by decide) ⟨rfl, N0, e3⟩
theorem ef_rmT1 (q1 : Addr) (m : MethodId) : entryFrame m #[.ref q1, .int (0 : Int32), .int (1 : Int32)] 5 = mkF m 0 #[.val (.ref q1), .val (.int (0 : Int32)), .val (.int (1 : Int32)), .unset, .unset] [] := by
  first | (simp [entryFrame, mkF, argsToLocals, Value.category]; done) | rfl
set_option maxRecDepth 65536 in
set_option maxHeartbeats 40000000 in
theorem rmT1 (l : Launch) (Z : State) (a0 : Array Value) (hw : ∀ d ∈ tables_1, d.before a0 Z = true) (ws : List Jvm.Cond) (q1 : Addr) (h0 : Heap) (n0 : Nat) (x0 : Int32) (kc : ClassId) (A_c : Arv Z h0 q1 kc .char (1 : Int32) [.int x0] (.int 0)) (Z0 : n0 ≤ h0.size) (cs : Int32) (fm : Value) (SS : SSt Z cs fm) (O0 : Old Z n0 h0) :
    Ctr l Z ({ cls := "java/lang/StringUTF16", name := "toBytes", desc := "([CII)[B" } : Jvm.MethodName) jdk_52_method_14_code 5 (some (.array .byte)) ws ({ frames := 2, cells := 1, slots := 6, locals := 24 } : Room) #[.ref q1, .int (0 : Int32), .int (1 : Int32)] h0 (fun v h L => ∃ (b : Addr) (k : ClassId), v = some (.ref b) ∧ Fr n0 L ∧ Keep h0 h [] ∧ h0.size ≤ b ∧ Arv Z h b k .byte (2 : Int32) [.int (lob x0), .int (hib x0)] (.int 0)) := by
  refine Ctr.enter (Ls := #[.val (.ref q1), .val (.int (0 : Int32)), .val (.int (1 : Int32)), .unset, .unset]) (by decide +kernel) (fun m => ef_rmT1 q1 m) ?_
  intro p e s m below meth c T hx hby hml hown hnm hret hlk hZ hh X0 e0
  have N0 := Fr.nil n0
  refine g_iloadN X0 hx hby d7_0 (pc' := 1) rfl rfl ?_
  refine g_callS X0 hx hZ hown (W := 0) (argsL := [.int (1 : Int32)]) (rest := []) hby d7_1 (pc' := 4) rfl (by rw [hml]; rfl) (w_33 hw) (w_34 hw) (w_24 hw) (w_35 hw) (by decide) (rmNF1 l Z a0 hw [] h0 n0 Z0) e0 (by decide) (by decide) (by decide) (by decide) rfl pd__28I_29_5bB rfl rfl (Nat.le_of_eq rfl) ?_
  rintro _ T1 L1 X1 (⟨b1, k1, rfl, N1q, K1, G1, A1⟩)
  · have N1 := Fr.app N0 N1q
    have nb1_q1 : q1 ≠ b1 := Nat.ne_of_lt (Nat.lt_of_lt_of_le A_c.lt G1)
    have O1 := O0.keep K1 all0
    have K1t := (Keep.refl h0 []).trans K1 all0
    have Z1 := Nat.le_trans Z0 K1.1
    have A1_q1 := A_c.keep K1 nin0
    show GoE p e below _ (T1.setTop (mkF m 4 #[.val (.ref q1), .val (.int (0 : Int32)), .val (.int (1 : Int32)), .unset, .unset] [.ref b1]))
    refine g_astoreN X1 hx hby d7_4 (pc' := 5) rfl rfl (l' := #[.val (.ref q1), .val (.int (0 : Int32)), .val (.int (1 : Int32)), .val (.ref b1), .unset]) rfl ?_
    refine g_iconst X1 hx hby d7_5 (pc' := 6) rfl (z := (0 : Int32)) rfl ?_
    refine g_istore X1 hx hby d7_6 (pc' := 8) rfl (l' := #[.val (.ref q1), .val (.int (0 : Int32)), .val (.int (1 : Int32)), .val (.ref b1), .val (.int (0 : Int32))]) rfl ?_
    refine g_iload X1 hx hby d7_8 (pc' := 10) rfl rfl ?_
    refine g_iloadN X1 hx hby d7_10 (pc' := 11) rfl rfl ?_
    refine g_icmp_ge X1 hx hby d7_11 (by decide) (pc' := 32) (by decide) (pn := 14) rfl (fun z => absurd z (by decide)) (fun _ => ?_)
    refine g_aloadN X1 hx hby d7_14 (pc' := 15) rfl rfl rfl ?_
    refine g_iload X1 hx hby d7_15 (pc' := 17) rfl rfl ?_
    refine g_aloadN X1 hx hby d7_17 (pc' := 18) rfl rfl rfl ?_
    refine g_iloadN X1 hx hby d7_18 (pc' := 19) rfl rfl ?_
    refine g_caload X1 hx hZ hby d7_19 (pc' := 20) rfl rfl A1_q1 (by decide) (v := .int x0) rfl ?_
    refine g_callS X1 hx hZ hown (W := 0) (argsL := [.ref b1, .int (0 : Int32), .int x0]) (rest := []) hby d7_20 (pc' := 23) rfl (by rw [hml]; rfl) (w_40 hw) (w_41 hw) (w_24 hw) (w_42 hw) (by decide) (rmP10 l Z a0 hw [] b1 x0 T1.heap n0 (0 : Int32) (0 : Int32) _ A1 (Nat.le_trans Z0 G1) cs fm SS O1) rfl (by decide) (by decide) (by decide) (by decide) rfl pd__28_5bBII_29V rfl rfl (Nat.le_of_eq rfl) ?_
    rintro _ T2 L2 X2 ⟨rfl, N2q, K2, A2⟩
    have N2 := Fr.app N1 N2q
    have O2 := O1.keep K2 (allS (Nat.le_trans Z0 G1) all0)
    have K2t := K1t.trans K2 (allS (Or.inr (Nat.le_trans (Keep.refl h0 []).1 G1)) all0)
    have Z2 := Nat.le_trans Z1 K2.1
    have A2_q1 := A1_q1.keep K2 (ninS nb1_q1 nin0)
    show GoE p e below _ (T2.setTop (mkF m 23 #[.val (.ref q1), .val (.int (0 : Int32)), .val (.int (1 : Int32)), .val (.ref b1), .val (.int (0 : Int32))] []))
    refine g_iinc X2 hx hby d7_23 (pc' := 26) rfl rfl (l' := #[.val (.ref q1), .val (.int (1 : Int32)), .val (.int (1 : Int32)), .val (.ref b1), .val (.int (0 : Int32))]) rfl ?_
    refine g_iinc X2 hx hby d7_26 (pc' := 29) rfl rfl (l' := #[.val (.ref q1), .val (.int (1 : Int32)), .val (.int (1 : Int32)), .val (.ref b1), .val (.int (1 : Int32))]) rfl ?_
    refine g_goto X2 hx hby d7_29 (by decide) (pc' := 8) (by decide) ?_
    refine g_iload X2 hx hby d7_8 (pc' := 10) rfl rfl ?_
    refine g_iloadN X2 hx hby d7_10 (pc' := 11) rfl rfl ?_
    refine g_icmp_ge X2 hx hby d7_11 (by decide) (pc' := 32) (by decide) (pn := 14) rfl (fun _ => ?_) (fun z => absurd z (by decide))
    refine g_aloadN X2 hx hby d7_32 (pc' := 33) rfl rfl rfl ?_
    exact g_retA (Q := (fun v h L => ∃ (b : Addr) (k : ClassId), v = some (.ref b) ∧ Fr n0 L ∧ Keep h0 h [] ∧ h0.size ≤ b ∧ Arv Z h b k .byte (2 : Int32) [.int (lob x0), .int (hib x0)] (.int 0))) X2 hx hby d7_33 rfl hret rfl hlk (by decide) (by decide) ⟨b1, k1, rfl, N2, K2t, (Nat.le_trans (Keep.refl h0 []).1 G1), A2⟩
theorem ef_rmT2 (q1 : Addr) (m : MethodId) : entryFrame m #[.ref q1, .int (0 : Int32), .int (2 : Int32)] 5 = mkF m 0 #[.val (.ref q1), .val (.int (0 : Int32)), .val (.int (2 : Int32)), .unset, .unset] [] := by
  first | (simp [entryFrame, mkF, argsToLocals, Value.category]; done) | rfl
set_option maxRecDepth 65536 in
set_option maxHeartbeats 40000000 in
theorem rmT2 (l : Launch) (Z : State) (a0 : Array Value) (hw : ∀ d ∈ tables_1, d.before a0 Z = true) (ws : List Jvm.Cond) (q1 : Addr) (h0 : Heap) (n0 : Nat) (x0 x1 : Int32) (kc : ClassId) (A_c : Arv Z h0 q1 kc .char (2 : Int32) [.int x0, .int x1] (.int 0)) (Z0 : n0 ≤ h0.size) (cs : Int32) (fm : Value) (SS : SSt Z cs fm) (O0 : Old Z n0 h0) :
    Ctr l Z ({ cls := "java/lang/StringUTF16", name := "toBytes", desc := "([CII)[B" } : Jvm.MethodName) jdk_52_method_14_code 5 (some (.array .byte)) ws ({ frames := 2, cells := 1, slots := 6, locals := 24 } : Room) #[.ref q1, .int (0 : Int32), .int (2 : Int32)] h0 (fun v h L => ∃ (b : Addr) (k : ClassId), v = some (.ref b) ∧ Fr n0 L ∧ Keep h0 h [] ∧ h0.size ≤ b ∧ Arv Z h b k .byte (4 : Int32) [.int (lob x0), .int (hib x0), .int (lob x1), .int (hib x1)] (.int 0)) := by
  refine Ctr.enter (Ls := #[.val (.ref q1), .val (.int (0 : Int32)), .val (.int (2 : Int32)), .unset, .unset]) (by decide +kernel) (fun m => ef_rmT2 q1 m) ?_
  intro p e s m below meth c T hx hby hml hown hnm hret hlk hZ hh X0 e0
  have N0 := Fr.nil n0
  refine g_iloadN X0 hx hby d7_0 (pc' := 1) rfl rfl ?_
  refine g_callS X0 hx hZ hown (W := 0) (argsL := [.int (2 : Int32)]) (rest := []) hby d7_1 (pc' := 4) rfl (by rw [hml]; rfl) (w_33 hw) (w_34 hw) (w_24 hw) (w_35 hw) (by decide) (rmNF2 l Z a0 hw [] h0 n0 Z0) e0 (by decide) (by decide) (by decide) (by decide) rfl pd__28I_29_5bB rfl rfl (Nat.le_of_eq rfl) ?_
  rintro _ T1 L1 X1 (⟨b1, k1, rfl, N1q, K1, G1, A1⟩)
  · have N1 := Fr.app N0 N1q
    have nb1_q1 : q1 ≠ b1 := Nat.ne_of_lt (Nat.lt_of_lt_of_le A_c.lt G1)
    have O1 := O0.keep K1 all0
    have K1t := (Keep.refl h0 []).trans K1 all0
    have Z1 := Nat.le_trans Z0 K1.1
    have A1_q1 := A_c.keep K1 nin0
    show GoE p e below _ (T1.setTop (mkF m 4 #[.val (.ref q1), .val (.int (0 : Int32)), .val (.int (2 : Int32)), .unset, .unset] [.ref b1]))
    refine g_astoreN X1 hx hby d7_4 (pc' := 5) rfl rfl (l' := #[.val (.ref q1), .val (.int (0 : Int32)), .val (.int (2 : Int32)), .val (.ref b1), .unset]) rfl ?_
    refine g_iconst X1 hx hby d7_5 (pc' := 6) rfl (z := (0 : Int32)) rfl ?_
    refine g_istore X1 hx hby d7_6 (pc' := 8) rfl (l' := #[.val (.ref q1), .val (.int (0 : Int32)), .val (.int (2 : Int32)), .val (.ref b1), .val (.int (0 : Int32))]) rfl ?_
    refine g_iload X1 hx hby d7_8 (pc' := 10) rfl rfl ?_
    refine g_iloadN X1 hx hby d7_10 (pc' := 11) rfl rfl ?_
    refine g_icmp_ge X1 hx hby d7_11 (by decide) (pc' := 32) (by decide) (pn := 14) rfl (fun z => absurd z (by decide)) (fun _ => ?_)
    refine g_aloadN X1 hx hby d7_14 (pc' := 15) rfl rfl rfl ?_
    refine g_iload X1 hx hby d7_15 (pc' := 17) rfl rfl ?_
    refine g_aloadN X1 hx hby d7_17 (pc' := 18) rfl rfl rfl ?_
    refine g_iloadN X1 hx hby d7_18 (pc' := 19) rfl rfl ?_
    refine g_caload X1 hx hZ hby d7_19 (pc' := 20) rfl rfl A1_q1 (by decide) (v := .int x0) rfl ?_
    refine g_callS X1 hx hZ hown (W := 0) (argsL := [.ref b1, .int (0 : Int32), .int x0]) (rest := []) hby d7_20 (pc' := 23) rfl (by rw [hml]; rfl) (w_40 hw) (w_41 hw) (w_24 hw) (w_42 hw) (by decide) (rmP20 l Z a0 hw [] b1 x0 T1.heap n0 (0 : Int32) (0 : Int32) (0 : Int32) (0 : Int32) _ A1 (Nat.le_trans Z0 G1) cs fm SS O1) rfl (by decide) (by decide) (by decide) (by decide) rfl pd__28_5bBII_29V rfl rfl (Nat.le_of_eq rfl) ?_
    rintro _ T2 L2 X2 ⟨rfl, N2q, K2, A2⟩
    have N2 := Fr.app N1 N2q
    have O2 := O1.keep K2 (allS (Nat.le_trans Z0 G1) all0)
    have K2t := K1t.trans K2 (allS (Or.inr (Nat.le_trans (Keep.refl h0 []).1 G1)) all0)
    have Z2 := Nat.le_trans Z1 K2.1
    have A2_q1 := A1_q1.keep K2 (ninS nb1_q1 nin0)
    show GoE p e below _ (T2.setTop (mkF m 23 #[.val (.ref q1), .val (.int (0 : Int32)), .val (.int (2 : Int32)), .val (.ref b1), .val (.int (0 : Int32))] []))
    refine g_iinc X2 hx hby d7_23 (pc' := 26) rfl rfl (l' := #[.val (.ref q1), .val (.int (1 : Int32)), .val (.int (2 : Int32)), .val (.ref b1), .val (.int (0 : Int32))]) rfl ?_
    refine g_iinc X2 hx hby d7_26 (pc' := 29) rfl rfl (l' := #[.val (.ref q1), .val (.int (1 : Int32)), .val (.int (2 : Int32)), .val (.ref b1), .val (.int (1 : Int32))]) rfl ?_
    refine g_goto X2 hx hby d7_29 (by decide) (pc' := 8) (by decide) ?_
    refine g_iload X2 hx hby d7_8 (pc' := 10) rfl rfl ?_
    refine g_iloadN X2 hx hby d7_10 (pc' := 11) rfl rfl ?_
    refine g_icmp_ge X2 hx hby d7_11 (by decide) (pc' := 32) (by decide) (pn := 14) rfl (fun z => absurd z (by decide)) (fun _ => ?_)
    refine g_aloadN X2 hx hby d7_14 (pc' := 15) rfl rfl rfl ?_
    refine g_iload X2 hx hby d7_15 (pc' := 17) rfl rfl ?_
    refine g_aloadN X2 hx hby d7_17 (pc' := 18) rfl rfl rfl ?_
    refine g_iloadN X2 hx hby d7_18 (pc' := 19) rfl rfl ?_
    refine g_caload X2 hx hZ hby d7_19 (pc' := 20) rfl rfl A2_q1 (by decide) (v := .int x1) rfl ?_
    refine g_callS X2 hx hZ hown (W := 0) (argsL := [.ref b1, .int (1 : Int32), .int x1]) (rest := []) hby d7_20 (pc' := 23) rfl (by rw [hml]; rfl) (w_40 hw) (w_41 hw) (w_24 hw) (w_42 hw) (by decide) (rmP21 l Z a0 hw [] b1 x1 T2.heap n0 (lob x0) (hib x0) (0 : Int32) (0 : Int32) _ A2 (Nat.le_trans Z0 G1) cs fm SS O2) rfl (by decide) (by decide) (by decide) (by decide) rfl pd__28_5bBII_29V rfl rfl (Nat.le_of_eq rfl) ?_
    rintro _ T3 L3 X3 ⟨rfl, N3q, K3, A3⟩
    have N3 := Fr.app N2 N3q
    have O3 := O2.keep K3 (allS (Nat.le_trans Z0 G1) all0)
    have K3t := K2t.trans K3 (allS (Or.inr (Nat.le_trans (Keep.refl h0 []).1 G1)) all0)
    have Z3 := Nat.le_trans Z2 K3.1
    have A3_q1 := A2_q1.keep K3 (ninS nb1_q1 nin0)
    show GoE p e below _ (T3.setTop (mkF m 23 #[.val (.ref q1), .val (.int (1 : Int32)), .val (.int (2 : Int32)), .val (.ref b1), .val (.int (1 : Int32))] []))
    refine g_iinc X3 hx hby d7_23 (pc' := 26) rfl rfl (l' := #[.val (.ref q1), .val (.int (2 : Int32)), .val (.int (2 : Int32)), .val (.ref b1), .val (.int (1 : Int32))]) rfl ?_
    refine g_iinc X3 hx hby d7_26 (pc' := 29) rfl rfl (l' := #[.val (.ref q1), .val (.int (2 : Int32)), .val (.int (2 : Int32)), .val (.ref b1), .val (.int (2 : Int32))]) rfl ?_
    refine g_goto X3 hx hby d7_29 (by decide) (pc' := 8) (by decide) ?_
    refine g_iload X3 hx hby d7_8 (pc' := 10) rfl rfl ?_
    refine g_iloadN X3 hx hby d7_10 (pc' := 11) rfl rfl ?_
    refine g_icmp_ge X3 hx hby d7_11 (by decide) (pc' := 32) (by decide) (pn := 14) rfl (fun _ => ?_) (fun z => absurd z (by decide))
    refine g_aloadN X3 hx hby d7_32 (pc' := 33) rfl rfl rfl ?_
    exact g_retA (Q := (fun v h L => ∃ (b : Addr) (k : ClassId), v = some (.ref b) ∧ Fr n0 L ∧ Keep h0 h [] ∧ h0.size ≤ b ∧ Arv Z h b k .byte (4 : Int32) [.int (lob x0), .int (hib x0), .int (lob x1), .int (hib x1)] (.int 0))) X3 hx hby d7_33 rfl hret rfl hlk (by decide) (by decide) ⟨b1, k1, rfl, N3, K3t, (Nat.le_trans (Keep.refl h0 []).1 G1), A3⟩
theorem ef_rmT3 (q1 : Addr) (m : MethodId) : entryFrame m #[.ref q1, .int (0 : Int32), .int (3 : Int32)] 5 = mkF m 0 #[.val (.ref q1), .val (.int (0 : Int32)), .val (.int (3 : Int32)), .unset, .unset] [] := by
  first | (simp [entryFrame, mkF, argsToLocals, Value.category]; done) | rfl
set_option maxRecDepth 65536 in
set_option maxHeartbeats 40000000 in
theorem rmT3 (l : Launch) (Z : State) (a0 : Array Value) (hw : ∀ d ∈ tables_1, d.before a0 Z = true) (ws : List Jvm.Cond) (q1 : Addr) (h0 : Heap) (n0 : Nat) (x0 x1 x2 : Int32) (kc : ClassId) (A_c : Arv Z h0 q1 kc .char (3 : Int32) [.int x0, .int x1, .int x2] (.int 0)) (Z0 : n0 ≤ h0.size) (cs : Int32) (fm : Value) (SS : SSt Z cs fm) (O0 : Old Z n0 h0) :
    Ctr l Z ({ cls := "java/lang/StringUTF16", name := "toBytes", desc := "([CII)[B" } : Jvm.MethodName) jdk_52_method_14_code 5 (some (.array .byte)) ws ({ frames := 2, cells := 1, slots := 6, locals := 24 } : Room) #[.ref q1, .int (0 : Int32), .int (3 : Int32)] h0 (fun v h L => ∃ (b : Addr) (k : ClassId), v = some (.ref b) ∧ Fr n0 L ∧ Keep h0 h [] ∧ h0.size ≤ b ∧ Arv Z h b k .byte (6 : Int32) [.int (lob x0), .int (hib x0), .int (lob x1), .int (hib x1), .int (lob x2), .int (hib x2)] (.int 0)) := by
  refine Ctr.enter (Ls := #[.val (.ref q1), .val (.int (0 : Int32)), .val (.int (3 : Int32)), .unset, .unset]) (by decide +kernel) (fun m => ef_rmT3 q1 m) ?_
  intro p e s m below meth c T hx hby hml hown hnm hret hlk hZ hh X0 e0
  have N0 := Fr.nil n0
  refine g_iloadN X0 hx hby d7_0 (pc' := 1) rfl rfl ?_
  refine g_callS X0 hx hZ hown (W := 0) (argsL := [.int (3 : Int32)]) (rest := []) hby d7_1 (pc' := 4) rfl (by rw [hml]; rfl) (w_33 hw) (w_34 hw) (w_24 hw) (w_35 hw) (by decide) (rmNF3 l Z a0 hw [] h0 n0 Z0) e0 (by decide) (by decide) (by decide) (by decide) rfl pd__28I_29_5bB rfl rfl (Nat.le_of_eq rfl) ?_
  rintro _ T1 L1 X1 (⟨b1, k1, rfl, N1q, K1, G1, A1⟩)
  · have N1 := Fr.app N0 N1q
    have nb1_q1 : q1 ≠ b1 := Nat.ne_of_lt (Nat.lt_of_lt_of_le A_c.lt G1)
    have O1 := O0.keep K1 all0
    have K1t := (Keep.refl h0 []).trans K1 all0
    have Z1 := Nat.le_trans Z0 K1.1
    have A1_q1 := A_c.keep K1 nin0
    show GoE p e below _ (T1.setTop (mkF m 4 #[.val (.ref q1), .val (.int (0 : Int32)), .val (.int (3 : Int32)), .unset, .unset] [.ref b1]))
    refine g_astoreN X1 hx hby d7_4 (pc' := 5) rfl rfl (l' := #[.val (.ref q1), .val (.int (0 : Int32)), .val (.int (3 : Int32)), .val (.ref b1), .unset]) rfl ?_
    refine g_iconst X1 hx hby d7_5 (pc' := 6) rfl (z := (0 : Int32)) rfl ?_
    refine g_istore X1 hx hby d7_6 (pc' := 8) rfl (l' := #[.val (.ref q1), .val (.int (0 : Int32)), .val (.int (3 : Int32)), .val (.ref b1), .val (.int (0 : Int32))]) rfl ?_
    refine g_iload X1 hx hby d7_8 (pc' := 10) rfl rfl ?_
    refine g_iloadN X1 hx hby d7_10 (pc' := 11) rfl rfl ?_
    refine g_icmp_ge X1 hx hby d7_11 (by decide) (pc' := 32) (by decide) (pn := 14) rfl (fun z => absurd z (by decide)) (fun _ => ?_)
    refine g_aloadN X1 hx hby d7_14 (pc' := 15) rfl rfl rfl ?_
    refine g_iload X1 hx hby d7_15 (pc' := 17) rfl rfl ?_
    refine g_aloadN X1 hx hby d7_17 (pc' := 18) rfl rfl rfl ?_
    refine g_iloadN X1 hx hby d7_18 (pc' := 19) rfl rfl ?_
    refine g_caload X1 hx hZ hby d7_19 (pc' := 20) rfl rfl A1_q1 (by decide) (v := .int x0) rfl ?_
    refine g_callS X1 hx hZ hown (W := 0) (argsL := [.ref b1, .int (0 : Int32), .int x0]) (rest := []) hby d7_20 (pc' := 23) rfl (by rw [hml]; rfl) (w_40 hw) (w_41 hw) (w_24 hw) (w_42 hw) (by decide) (rmP30 l Z a0 hw [] b1 x0 T1.heap n0 (0 : Int32) (0 : Int32) (0 : Int32) (0 : Int32) (0 : Int32) (0 : Int32) _ A1 (Nat.le_trans Z0 G1) cs fm SS O1) rfl (by decide) (by decide) (by decide) (by decide) rfl pd__28_5bBII_29V rfl rfl (Nat.le_of_eq rfl) ?_
    rintro _ T2 L2 X2 ⟨rfl, N2q, K2, A2⟩
    have N2 := Fr.app N1 N2q
    have O2 := O1.keep K2 (allS (Nat.le_trans Z0 G1) all0)
    have K2t := K1t.trans K2 (allS (Or.inr (Nat.le_trans (Keep.refl h0 []).1 G1)) all0)
    have Z2 := Nat.le_trans Z1 K2.1
    have A2_q1 := A1_q1.keep K2 (ninS nb1_q1 nin0)
    show GoE p e below _ (T2.setTop (mkF m 23 #[.val (.ref q1), .val (.int (0 : Int32)), .val (.int (3 : Int32)), .val (.ref b1), .val (.int (0 : Int32))] []))
    refine g_iinc X2 hx hby d7_23 (pc' := 26) rfl rfl (l' := #[.val (.ref q1), .val (.int (1 : Int32)), .val (.int (3 : Int32)), .val (.ref b1), .val (.int (0 : Int32))]) rfl ?_
    refine g_iinc X2 hx hby d7_26 (pc' := 29) rfl rfl (l' := #[.val (.ref q1), .val (.int (1 : Int32)), .val (.int (3 : Int32)), .val (.ref b1), .val (.int (1 : Int32))]) rfl ?_
    refine g_goto X2 hx hby d7_29 (by decide) (pc' := 8) (by decide) ?_
    refine g_iload X2 hx hby d7_8 (pc' := 10) rfl rfl ?_
    refine g_iloadN X2 hx hby d7_10 (pc' := 11) rfl rfl ?_
    refine g_icmp_ge X2 hx hby d7_11 (by decide) (pc' := 32) (by decide) (pn := 14) rfl (fun z => absurd z (by decide)) (fun _ => ?_)
    refine g_aloadN X2 hx hby d7_14 (pc' := 15) rfl rfl rfl ?_
    refine g_iload X2 hx hby d7_15 (pc' := 17) rfl rfl ?_
    refine g_aloadN X2 hx hby d7_17 (pc' := 18) rfl rfl rfl ?_
    refine g_iloadN X2 hx hby d7_18 (pc' := 19) rfl rfl ?_
    refine g_caload X2 hx hZ hby d7_19 (pc' := 20) rfl rfl A2_q1 (by decide) (v := .int x1) rfl ?_
    refine g_callS X2 hx hZ hown (W := 0) (argsL := [.ref b1, .int (1 : Int32), .int x1]) (rest := []) hby d7_20 (pc' := 23) rfl (by rw [hml]; rfl) (w_40 hw) (w_41 hw) (w_24 hw) (w_42 hw) (by decide) (rmP31 l Z a0 hw [] b1 x1 T2.heap n0 (lob x0) (hib x0) (0 : Int32) (0 : Int32) (0 : Int32) (0 : Int32) _ A2 (Nat.le_trans Z0 G1) cs fm SS O2) rfl (by decide) (by decide) (by decide) (by decide) rfl pd__28_5bBII_29V rfl rfl (Nat.le_of_eq rfl) ?_
    rintro _ T3 L3 X3 ⟨rfl, N3q, K3, A3⟩
    have N3 := Fr.app N2 N3q
    have O3 := O2.keep K3 (allS (Nat.le_trans Z0 G1) all0)
    have K3t := K2t.trans K3 (allS (Or.inr (Nat.le_trans (Keep.refl h0 []).1 G1)) all0)
    have Z3 := Nat.le_trans Z2 K3.1
    have A3_q1 := A2_q1.keep K3 (ninS nb1_q1 nin0)
    show GoE p e below _ (T3.setTop (mkF m 23 #[.val (.ref q1), .val (.int (1 : Int32)), .val (.int (3 : Int32)), .val (.ref b1), .val (.int (1 : Int32))] []))
    refine g_iinc X3 hx hby d7_23 (pc' := 26) rfl rfl (l' := #[.val (.ref q1), .val (.int (2 : Int32)), .val (.int (3 : Int32)), .val (.ref b1), .val (.int (1 : Int32))]) rfl ?_
    refine g_iinc X3 hx hby d7_26 (pc' := 29) rfl rfl (l' := #[.val (.ref q1), .val (.int (2 : Int32)), .val (.int (3 : Int32)), .val (.ref b1), .val (.int (2 : Int32))]) rfl ?_
    refine g_goto X3 hx hby d7_29 (by decide) (pc' := 8) (by decide) ?_
    refine g_iload X3 hx hby d7_8 (pc' := 10) rfl rfl ?_
    refine g_iloadN X3 hx hby d7_10 (pc' := 11) rfl rfl ?_
    refine g_icmp_ge X3 hx hby d7_11 (by decide) (pc' := 32) (by decide) (pn := 14) rfl (fun z => absurd z (by decide)) (fun _ => ?_)
    refine g_aloadN X3 hx hby d7_14 (pc' := 15) rfl rfl rfl ?_
    refine g_iload X3 hx hby d7_15 (pc' := 17) rfl rfl ?_
    refine g_aloadN X3 hx hby d7_17 (pc' := 18) rfl rfl rfl ?_
    refine g_iloadN X3 hx hby d7_18 (pc' := 19) rfl rfl ?_
    refine g_caload X3 hx hZ hby d7_19 (pc' := 20) rfl rfl A3_q1 (by decide) (v := .int x2) rfl ?_
    refine g_callS X3 hx hZ hown (W := 0) (argsL := [.ref b1, .int (2 : Int32), .int x2]) (rest := []) hby d7_20 (pc' := 23) rfl (by rw [hml]; rfl) (w_40 hw) (w_41 hw) (w_24 hw) (w_42 hw) (by decide) (rmP32 l Z a0 hw [] b1 x2 T3.heap n0 (lob x0) (hib x0) (lob x1) (hib x1) (0 : Int32) (0 : Int32) _ A3 (Nat.le_trans Z0 G1) cs fm SS O3) rfl (by decide) (by decide) (by decide) (by decide) rfl pd__28_5bBII_29V rfl rfl (Nat.le_of_eq rfl) ?_
    rintro _ T4 L4 X4 ⟨rfl, N4q, K4, A4⟩
    have N4 := Fr.app N3 N4q
    have O4 := O3.keep K4 (allS (Nat.le_trans Z0 G1) all0)
    have K4t := K3t.trans K4 (allS (Or.inr (Nat.le_trans (Keep.refl h0 []).1 G1)) all0)
    have Z4 := Nat.le_trans Z3 K4.1
    have A4_q1 := A3_q1.keep K4 (ninS nb1_q1 nin0)
    show GoE p e below _ (T4.setTop (mkF m 23 #[.val (.ref q1), .val (.int (2 : Int32)), .val (.int (3 : Int32)), .val (.ref b1), .val (.int (2 : Int32))] []))
    refine g_iinc X4 hx hby d7_23 (pc' := 26) rfl rfl (l' := #[.val (.ref q1), .val (.int (3 : Int32)), .val (.int (3 : Int32)), .val (.ref b1), .val (.int (2 : Int32))]) rfl ?_
    refine g_iinc X4 hx hby d7_26 (pc' := 29) rfl rfl (l' := #[.val (.ref q1), .val (.int (3 : Int32)), .val (.int (3 : Int32)), .val (.ref b1), .val (.int (3 : Int32))]) rfl ?_
    refine g_goto X4 hx hby d7_29 (by decide) (pc' := 8) (by decide) ?_
    refine g_iload X4 hx hby d7_8 (pc' := 10) rfl rfl ?_
    refine g_iloadN X4 hx hby d7_10 (pc' := 11) rfl rfl ?_
    refine g_icmp_ge X4 hx hby d7_11 (by decide) (pc' := 32) (by decide) (pn := 14) rfl (fun _ => ?_) (fun z => absurd z (by decide))
    refine g_aloadN X4 hx hby d7_32 (pc' := 33) rfl rfl rfl ?_
    exact g_retA (Q := (fun v h L => ∃ (b : Addr) (k : ClassId), v = some (.ref b) ∧ Fr n0 L ∧ Keep h0 h [] ∧ h0.size ≤ b ∧ Arv Z h b k .byte (6 : Int32) [.int (lob x0), .int (hib x0), .int (lob x1), .int (hib x1), .int (lob x2), .int (hib x2)] (.int 0))) X4 hx hby d7_33 rfl hret rfl hlk (by decide) (by decide) ⟨b1, k1, rfl, N4, K4t, (Nat.le_trans (Keep.refl h0 []).1 G1), A4⟩
theorem ef_rmC51 (q1 : Addr) (q3 : Addr) (m : MethodId) : entryFrame m #[.ref q1, .int (0 : Int32), .ref q3, .int (0 : Int32), .int (1 : Int32)] 7 = mkF m 0 #[.val (.ref q1), .val (.int (0 : Int32)), .val (.ref q3), .val (.int (0 : Int32)), .val (.int (1 : Int32)), .unset, .unset] [] := by
  first | (simp [entryFrame, mkF, argsToLocals, Value.category]; done) | rfl
set_option maxRecDepth 65536 in
set_option maxHeartbeats 40000000 in
theorem rmC51 (l : Launch) (Z : State) (a0 : Array Value) (hw : ∀ d ∈ tables_1, d.before a0 Z = true) (ws : List Jvm.Cond) (q1 : Addr) (q3 : Addr) (h0 : Heap) (n0 : Nat) (x0 : Int32) (kc : ClassId) (A_c : Arv Z h0 q1 kc .char (1 : Int32) [.int x0] (.int 0)) (kb : ClassId) (A_b : Arv Z h0 q3 kb .byte (1 : Int32) [.int 0] (.int 0)) (n_cb : q1 ≠ q3) (g_b : n0 ≤ q3) :
    Ctr l Z ({ cls := "java/lang/StringUTF16", name := "compress", desc := "([CI[BII)I" } : Jvm.MethodName) jdk_52_method_21_code 7 (some .int) ws ({ frames := 0, cells := 0, slots := 0, locals := 0 } : Room) #[.ref q1, .int (0 : Int32), .ref q3, .int (0 : Int32), .int (1 : Int32)] h0 (fun v h L => (v = some (.int (1 : Int32)) ∧ Fr n0 L ∧ Keep h0 h [q3] ∧ Arv Z h q3 kb .byte (1 : Int32) [.int (lat x0)] (.int 0) ∧ ¬ (255 : Int32) < x0) ∨ (v = some (.int (0 : Int32)) ∧ Fr n0 L ∧ Keep h0 h [q3] ∧ (255 : Int32) < x0)) := by
  refine Ctr.enter (Ls := #[.val (.ref q1), .val (.int (0 : Int32)), .val (.ref q3), .val (.int (0 : Int32)), .val (.int (1 : Int32)), .unset, .unset]) (by decide +kernel) (fun m => ef_rmC51 q1 q3 m) ?_
  intro p e s m below meth c T hx hby hml hown hnm hret hlk hZ hh X0 e0
  have N0 := Fr.nil n0
  refine g_iconst X0 hx hby d6_0 (pc' := 1) rfl (z := (0 : Int32)) rfl ?_
  refine g_istore X0 hx hby d6_1 (pc' := 3) rfl (l' := #[.val (.ref q1), .val (.int (0 : Int32)), .val (.ref q3), .val (.int (0 : Int32)), .val (.int (1 : Int32)), .val (.int (0 : Int32)), .unset]) rfl ?_
  refine g_iload X0 hx hby d6_3 (pc' := 5) rfl rfl ?_
  refine g_iload X0 hx hby d6_5 (pc' := 7) rfl rfl ?_
  refine g_icmp_ge X0 hx hby d6_7 (by decide) (pc' := 44) (by decide) (pn := 10) rfl (fun z => absurd z (by decide)) (fun _ => ?_)
  refine g_aloadN X0 hx hby d6_10 (pc' := 11) rfl rfl rfl ?_
  refine g_iloadN X0 hx hby d6_11 (pc' := 12) rfl rfl ?_
  refine g_caload X0 hx hZ hby d6_12 (pc' := 13) rfl e0 A_c (by decide) (v := .int x0) rfl ?_
  refine g_istore X0 hx hby d6_13 (pc' := 15) rfl (l' := #[.val (.ref q1), .val (.int (0 : Int32)), .val (.ref q3), .val (.int (0 : Int32)), .val (.int (1 : Int32)), .val (.int (0 : Int32)), .val (.int x0)]) rfl ?_
  refine g_iload X0 hx hby d6_15 (pc' := 17) rfl rfl ?_
  refine g_sipush X0 hx hby d6_17 (pc' := 20) rfl (z := (255 : Int32)) rfl ?_
  refine g_icmp_le X0 hx hby d6_20 (by decide) (pc' := 26) (by decide) (pn := 23) rfl (fun hc20_1 => ?_) (fun hc20_1 => ?_)
  · refine g_aloadN X0 hx hby d6_26 (pc' := 27) rfl rfl rfl ?_
    refine g_iloadN X0 hx hby d6_27 (pc' := 28) rfl rfl ?_
    refine g_iload X0 hx hby d6_28 (pc' := 30) rfl rfl ?_
    refine g_i2b X0 hx hby d6_30 (pc' := 31) rfl ?_
    refine g_bastore X0 hx hZ 0 hby d6_31 (pc' := 32) rfl e0 A_b (by decide) (by decide) (by first | decide | simp) ?_
    intro T2 X2 W2 A2v
    have N2 := Fr.snoc X2 N0 g_b
    have A2_q1 := A_c.other W2 n_cb
    have K2 := (Keep.refl h0 [q3]).wr W2 (Or.inl (List.mem_of_getElem? (i := 0) rfl))
    have A2 : Arv Z T2.heap q3 kb .byte (1 : Int32) [.int (nar .byte x0.toInt8.toInt32)] (.int 0) := A2v
    refine g_iinc X2 hx hby d6_32 (pc' := 35) rfl rfl (l' := #[.val (.ref q1), .val (.int (1 : Int32)), .val (.ref q3), .val (.int (0 : Int32)), .val (.int (1 : Int32)), .val (.int (0 : Int32)), .val (.int x0)]) rfl ?_
    refine g_iinc X2 hx hby d6_35 (pc' := 38) rfl rfl (l' := #[.val (.ref q1), .val (.int (1 : Int32)), .val (.ref q3), .val (.int (1 : Int32)), .val (.int (1 : Int32)), .val (.int (0 : Int32)), .val (.int x0)]) rfl ?_
    refine g_iinc X2 hx hby d6_38 (pc' := 41) rfl rfl (l' := #[.val (.ref q1), .val (.int (1 : Int32)), .val (.ref q3), .val (.int (1 : Int32)), .val (.int (1 : Int32)), .val (.int (1 : Int32)), .val (.int x0)]) rfl ?_
    refine g_goto X2 hx hby d6_41 (by decide) (pc' := 3) (by decide) ?_
    refine g_iload X2 hx hby d6_3 (pc' := 5) rfl rfl ?_
    refine g_iload X2 hx hby d6_5 (pc' := 7) rfl rfl ?_
    refine g_icmp_ge X2 hx hby d6_7 (by decide) (pc' := 44) (by decide) (pn := 10) rfl (fun _ => ?_) (fun z => absurd z (by decide))
    refine g_iload X2 hx hby d6_44 (pc' := 46) rfl rfl ?_
    exact g_retI (Q := (fun v h L => (v = some (.int (1 : Int32)) ∧ Fr n0 L ∧ Keep h0 h [q3] ∧ Arv Z h q3 kb .byte (1 : Int32) [.int (lat x0)] (.int 0) ∧ ¬ (255 : Int32) < x0) ∨ (v = some (.int (0 : Int32)) ∧ Fr n0 L ∧ Keep h0 h [q3] ∧ (255 : Int32) < x0))) X2 hx hby d6_46 hret hlk (by decide) (by decide) (Or.inl ⟨rfl, N2, K2, A2, hc20_1⟩)
  · refine g_iload X0 hx hby d6_23 (pc' := 25) rfl rfl ?_
    exact g_retI (Q := (fun v h L => (v = some (.int (1 : Int32)) ∧ Fr n0 L ∧ Keep h0 h [q3] ∧ Arv Z h q3 kb .byte (1 : Int32) [.int (lat x0)] (.int 0) ∧ ¬ (255 : Int32) < x0) ∨ (v = some (.int (0 : Int32)) ∧ Fr n0 L ∧ Keep h0 h [q3] ∧ (255 : Int32) < x0))) X0 hx hby d6_25 hret hlk (by decide) (by decide) (by rw [e0]; exact (Or.inr ⟨rfl, N0, (Keep.refl h0 [q3]), hc20_1⟩))
theorem ef_rmC52 (q1 : Addr) (q3 : Addr) (m : MethodId) : entryFrame m #[.ref q1, .int (0 : Int32), .ref q3, .int (0 : Int32), .int (2 : Int32)] 7 = mkF m 0 #[.val (.ref q1), .val (.int (0 : Int32)), .val (.ref q3), .val (.int (0 : Int32)), .val (.int (2 : Int32)), .unset, .unset] [] := by
  first | (simp [entryFrame, mkF, argsToLocals, Value.category]; done) | rfl
set_option maxRecDepth 65536 in
set_option maxHeartbeats 40000000 in
theorem rmC52 (l : Launch) (Z : State) (a0 : Array Value) (hw : ∀ d ∈ tables_1, d.before a0 Z = true) (ws : List Jvm.Cond) (q1 : Addr) (q3 : Addr) (h0 : Heap) (n0 : Nat) (x0 x1 : Int32) (kc : ClassId) (A_c : Arv Z h0 q1 kc .char (2 : Int32) [.int x0, .int x1] (.int 0)) (kb : ClassId) (A_b : Arv Z h0 q3 kb .byte (2 : Int32) [.int 0, .int 0] (.int 0)) (n_cb : q1 ≠ q3) (g_b : n0 ≤ q3) :
    Ctr l Z ({ cls := "java/lang/StringUTF16", name := "compress", desc := "([CI[BII)I" } : Jvm.MethodName) jdk_52_method_21_code 7 (some .int) ws ({ frames := 0, cells := 0, slots := 0, locals := 0 } : Room) #[.ref q1, .int (0 : Int32), .ref q3, .int (0 : Int32), .int (2 : Int32)] h0 (fun v h L => (v = some (.int (2 : Int32)) ∧ Fr n0 L ∧ Keep h0 h [q3] ∧ Arv Z h q3 kb .byte (2 : Int32) [.int (lat x0), .int (lat x1)] (.int 0) ∧ ¬ (255 : Int32) < x0 ∧ ¬ (255 : Int32) < x1) ∨ (v = some (.int (0 : Int32)) ∧ Fr n0 L ∧ Keep h0 h [q3] ∧ (255 : Int32) < x0) ∨ (v = some (.int (1 : Int32)) ∧ Fr n0 L ∧ Keep h0 h [q3] ∧ (255 : Int32) < x1)) := by
  refine Ctr.enter (Ls := #[.val (.ref q1), .val (.int (0 : Int32)), .val (.ref q3), .val (.int (0 : Int32)), .val (.int (2 : Int32)), .unset, .unset]) (by decide +kernel) (fun m => ef_rmC52 q1 q3 m) ?_
  intro p e s m below meth c T hx hby hml hown hnm hret hlk hZ hh X0 e0
  have N0 := Fr.nil n0
  refine g_iconst X0 hx hby d6_0 (pc' := 1) rfl (z := (0 : Int32)) rfl ?_
  refine g_istore X0 hx hby d6_1 (pc' := 3) rfl (l' := #[.val (.ref q1), .val (.int (0 : Int32)), .val (.ref q3), .val (.int (0 : Int32)), .val (.int (2 : Int32)), .val (.int (0 : Int32)), .unset]) rfl ?_
  refine g_iload X0 hx hby d6_3 (pc' := 5) rfl rfl ?_
  refine g_iload X0 hx hby d6_5 (pc' := 7) rfl rfl ?_
  refine g_icmp_ge X0 hx hby d6_7 (by decide) (pc' := 44) (by decide) (pn := 10) rfl (fun z => absurd z (by decide)) (fun _ => ?_)
  refine g_aloadN X0 hx hby d6_10 (pc' := 11) rfl rfl rfl ?_
  refine g_iloadN X0 hx hby d6_11 (pc' := 12) rfl rfl ?_
  refine g_caload X0 hx hZ hby d6_12 (pc' := 13) rfl e0 A_c (by decide) (v := .int x0) rfl ?_
  refine g_istore X0 hx hby d6_13 (pc' := 15) rfl (l' := #[.val (.ref q1), .val (.int (0 : Int32)), .val (.ref q3), .val (.int (0 : Int32)), .val (.int (2 : Int32)), .val (.int (0 : Int32)), .val (.int x0)]) rfl ?_
  refine g_iload X0 hx hby d6_15 (pc' := 17) rfl rfl ?_
  refine g_sipush X0 hx hby d6_17 (pc' := 20) rfl (z := (255 : Int32)) rfl ?_
  refine g_icmp_le X0 hx hby d6_20 (by decide) (pc' := 26) (by decide) (pn := 23) rfl (fun hc20_1 => ?_) (fun hc20_1 => ?_)
  · refine g_aloadN X0 hx hby d6_26 (pc' := 27) rfl rfl rfl ?_
    refine g_iloadN X0 hx hby d6_27 (pc' := 28) rfl rfl ?_
    refine g_iload X0 hx hby d6_28 (pc' := 30) rfl rfl ?_
    refine g_i2b X0 hx hby d6_30 (pc' := 31) rfl ?_
    refine g_bastore X0 hx hZ 0 hby d6_31 (pc' := 32) rfl e0 A_b (by decide) (by decide) (by first | decide | simp) ?_
    intro T2 X2 W2 A2v
    have N2 := Fr.snoc X2 N0 g_b
    have A2_q1 := A_c.other W2 n_cb
    have K2 := (Keep.refl h0 [q3]).wr W2 (Or.inl (List.mem_of_getElem? (i := 0) rfl))
    have A2 : Arv Z T2.heap q3 kb .byte (2 : Int32) [.int (nar .byte x0.toInt8.toInt32), .int 0] (.int 0) := A2v
    refine g_iinc X2 hx hby d6_32 (pc' := 35) rfl rfl (l' := #[.val (.ref q1), .val (.int (1 : Int32)), .val (.ref q3), .val (.int (0 : Int32)), .val (.int (2 : Int32)), .val (.int (0 : Int32)), .val (.int x0)]) rfl ?_
    refine g_iinc X2 hx hby d6_35 (pc' := 38) rfl rfl (l' := #[.val (.ref q1), .val (.int (1 : Int32)), .val (.ref q3), .val (.int (1 : Int32)), .val (.int (2 : Int32)), .val (.int (0 : Int32)), .val (.int x0)]) rfl ?_
    refine g_iinc X2 hx hby d6_38 (pc' := 41) rfl rfl (l' := #[.val (.ref q1), .val (.int (1 : Int32)), .val (.ref q3), .val (.int (1 : Int32)), .val (.int (2 : Int32)), .val (.int (1 : Int32)), .val (.int x0)]) rfl ?_
    refine g_goto X2 hx hby d6_41 (by decide) (pc' := 3) (by decide) ?_
    refine g_iload X2 hx hby d6_3 (pc' := 5) rfl rfl ?_
    refine g_iload X2 hx hby d6_5 (pc' := 7) rfl rfl ?_
    refine g_icmp_ge X2 hx hby d6_7 (by decide) (pc' := 44) (by decide) (pn := 10) rfl (fun z => absurd z (by decide)) (fun _ => ?_)
    refine g_aloadN X2 hx hby d6_10 (pc' := 11) rfl rfl rfl ?_
    refine g_iloadN X2 hx hby d6_11 (pc' := 12) rfl rfl ?_
    refine g_caload X2 hx hZ hby d6_12 (pc' := 13) rfl rfl A2_q1 (by decide) (v := .int x1) rfl ?_
    refine g_istore X2 hx hby d6_13 (pc' := 15) rfl (l' := #[.val (.ref q1), .val (.int (1 : Int32)), .val (.ref q3), .val (.int (1 : Int32)), .val (.int (2 : Int32)), .val (.int (1 : Int32)), .val (.int x1)]) rfl ?_
    refine g_iload X2 hx hby d6_15 (pc' := 17) rfl rfl ?_
    refine g_sipush X2 hx hby d6_17 (pc' := 20) rfl (z := (255 : Int32)) rfl ?_
    refine g_icmp_le X2 hx hby d6_20 (by decide) (pc' := 26) (by decide) (pn := 23) rfl (fun hc20_3 => ?_) (fun hc20_3 => ?_)
    · refine g_aloadN X2 hx hby d6_26 (pc' := 27) rfl rfl rfl ?_
      refine g_iloadN X2 hx hby d6_27 (pc' := 28) rfl rfl ?_
      refine g_iload X2 hx hby d6_28 (pc' := 30) rfl rfl ?_
      refine g_i2b X2 hx hby d6_30 (pc' := 31) rfl ?_
      refine g_bastore X2 hx hZ 1 hby d6_31 (pc' := 32) rfl rfl A2 (by decide) (by decide) (by first | decide | simp) ?_
      intro T4 X4 W4 A4v
      have N4 := Fr.snoc X4 N2 g_b
      have A4_q1 := A2_q1.other W4 n_cb
      have K4 := K2.wr W4 (Or.inl (List.mem_of_getElem? (i := 0) rfl))
      have A4 : Arv Z T4.heap q3 kb .byte (2 : Int32) [.int (nar .byte x0.toInt8.toInt32), .int (nar .byte x1.toInt8.toInt32)] (.int 0) := A4v
      refine g_iinc X4 hx hby d6_32 (pc' := 35) rfl rfl (l' := #[.val (.ref q1), .val (.int (2 : Int32)), .val (.ref q3), .val (.int (1 : Int32)), .val (.int (2 : Int32)), .val (.int (1 : Int32)), .val (.int x1)]) rfl ?_
      refine g_iinc X4 hx hby d6_35 (pc' := 38) rfl rfl (l' := #[.val (.ref q1), .val (.int (2 : Int32)), .val (.ref q3), .val (.int (2 : Int32)), .val (.int (2 : Int32)), .val (.int (1 : Int32)), .val (.int x1)]) rfl ?_
      refine g_iinc X4 hx hby d6_38 (pc' := 41) rfl rfl (l' := #[.val (.ref q1), .val (.int (2 : Int32)), .val (.ref q3), .val (.int (2 : Int32)), .val (.int (2 : Int32)), .val (.int (2 : Int32)), .val (.int x1)]) rfl ?_
      refine g_goto X4 hx hby d6_41 (by decide) (pc' := 3) (by decide) ?_
      refine g_iload X4 hx hby d6_3 (pc' := 5) rfl rfl ?_
      refine g_iload X4 hx hby d6_5 (pc' := 7) rfl rfl ?_
      refine g_icmp_ge X4 hx hby d6_7 (by decide) (pc' := 44) (by decide) (pn := 10) rfl (fun _ => ?_) (fun z => absurd z (by decide))
      refine g_iload X4 hx hby d6_44 (pc' := 46) rfl rfl ?_
      exact g_retI (Q := (fun v h L => (v = some (.int (2 : Int32)) ∧ Fr n0 L ∧ Keep h0 h [q3] ∧ Arv Z h q3 kb .byte (2 : Int32) [.int (lat x0), .int (lat x1)] (.int 0) ∧ ¬ (255 : Int32) < x0 ∧ ¬ (255 : Int32) < x1) ∨ (v = some (.int (0 : Int32)) ∧ Fr n0 L ∧ Keep h0 h [q3] ∧ (255 : Int32) < x0) ∨ (v = some (.int (1 : Int32)) ∧ Fr n0 L ∧ Keep h0 h [q3] ∧ (255 : Int32) < x1))) X4 hx hby d6_46 hret hlk (by decide) (by decide) (Or.inl ⟨rfl, N4, K4, A4, hc20_1, hc20_3⟩)
    · refine g_iload X2 hx hby d6_23 (pc' := 25) rfl rfl ?_
      exact g_retI (Q := (fun v h L => (v = some (.int (2 : Int32)) ∧ Fr n0 L ∧ Keep h0 h [q3] ∧ Arv Z h q3 kb .byte (2 : Int32) [.int (lat x0), .int (lat x1)] (.int 0) ∧ ¬ (255 : Int32) < x0 ∧ ¬ (255 : Int32) < x1) ∨ (v = some (.int (0 : Int32)) ∧ Fr n0 L ∧ Keep h0 h [q3] ∧ (255 : Int32) < x0) ∨ (v = some (.int (1 : Int32)) ∧ Fr n0 L ∧ Keep h0 h [q3] ∧ (255 : Int32) < x1))) X2 hx hby d6_25 hret hlk (by decide) (by decide) (Or.inr (Or.inr ⟨rfl, N2, K2, hc20_3⟩))
  · refine g_iload X0 hx hby d6_23 (pc' := 25) rfl rfl ?_
    exact g_retI (Q := (fun v h L => (v = some (.int (2 : Int32)) ∧ Fr n0 L ∧ Keep h0 h [q3] ∧ Arv Z h q3 kb .byte (2 : Int32) [.int (lat x0), .int (lat x1)] (.int 0) ∧ ¬ (255 : Int32) < x0 ∧ ¬ (255 : Int32) < x1) ∨ (v = some (.int (0 : Int32)) ∧ Fr n0 L ∧ Keep h0 h [q3] ∧ (255 : Int32) < x0) ∨ (v = some (.int (1 : Int32)) ∧ Fr n0 L ∧ Keep h0 h [q3] ∧ (255 : Int32) < x1))) X0 hx hby d6_25 hret hlk (by decide) (by decide) (by rw [e0]; exact (Or.inr (Or.inl ⟨rfl, N0, (Keep.refl h0 [q3]), hc20_1⟩)))
theorem ef_rmC53 (q1 : Addr) (q3 : Addr) (m : MethodId) : entryFrame m #[.ref q1, .int (0 : Int32), .ref q3, .int (0 : Int32), .int (3 : Int32)] 7 = mkF m 0 #[.val (.ref q1), .val (.int (0 : Int32)), .val (.ref q3), .val (.int (0 : Int32)), .val (.int (3 : Int32)), .unset, .unset] [] := by
  first | (simp [entryFrame, mkF, argsToLocals, Value.category]; done) | rfl
set_option maxRecDepth 65536 in
set_option maxHeartbeats 40000000 in
theorem rmC53 (l : Launch) (Z : State) (a0 : Array Value) (hw : ∀ d ∈ tables_1, d.before a0 Z = true) (ws : List Jvm.Cond) (q1 : Addr) (q3 : Addr) (h0 : Heap) (n0 : Nat) (x0 x1 x2 : Int32) (kc : ClassId) (A_c : Arv Z h0 q1 kc .char (3 : Int32) [.int x0, .int x1, .int x2] (.int 0)) (kb : ClassId) (A_b : Arv Z h0 q3 kb .byte (3 : Int32) [.int 0, .int 0, .int 0] (.int 0)) (n_cb : q1 ≠ q3) (g_b : n0 ≤ q3) :
    Ctr l Z ({ cls := "java/lang/StringUTF16", name := "compress", desc := "([CI[BII)I" } : Jvm.MethodName) jdk_52_method_21_code 7 (some .int) ws ({ frames := 0, cells := 0, slots := 0, locals := 0 } : Room) #[.ref q1, .int (0 : Int32), .ref q3, .int (0 : Int32), .int (3 : Int32)] h0 (fun v h L => (v = some (.int (3 : Int32)) ∧ Fr n0 L ∧ Keep h0 h [q3] ∧ Arv Z h q3 kb .byte (3 : Int32) [.int (lat x0), .int (lat x1), .int (lat x2)] (.int 0) ∧ ¬ (255 : Int32) < x0 ∧ ¬ (255 : Int32) < x1 ∧ ¬ (255 : Int32) < x2) ∨ (v = some (.int (0 : Int32)) ∧ Fr n0 L ∧ Keep h0 h [q3] ∧ (255 : Int32) < x0) ∨ (v = some (.int (1 : Int32)) ∧ Fr n0 L ∧ Keep h0 h [q3] ∧ (255 : Int32) < x1) ∨ (v = some (.int (2 : Int32)) ∧ Fr n0 L ∧ Keep h0 h [q3] ∧ (255 : Int32) < x2)) := by
  refine Ctr.enter (Ls := #[.val (.ref q1), .val (.int (0 : Int32)), .val (.ref q3), .val (.int (0 : Int32)), .val (.int (3 : Int32)), .unset, .unset]) (by decide +kernel) (fun m => ef_rmC53 q1 q3 m) ?_
  intro p e s m below meth c T hx hby hml hown hnm hret hlk hZ hh X0 e0
  have N0 := Fr.nil n0
  refine g_iconst X0 hx hby d6_0 (pc' := 1) rfl (z := (0 : Int32)) rfl ?_
  refine g_istore X0 hx hby d6_1 (pc' := 3) rfl (l' := #[.val (.ref q1), .val (.int (0 : Int32)), .val (.ref q3), .val (.int (0 : Int32)), .val (.int (3 : Int32)), .val (.int (0 : Int32)), .unset]) rfl ?_
  refine g_iload X0 hx hby d6_3 (pc' := 5) rfl rfl ?_
  refine g_iload X0 hx hby d6_5 (pc' := 7) rfl rfl ?_
  refine g_icmp_ge X0 hx hby d6_7 (by decide) (pc' := 44) (by decide) (pn := 10) rfl (fun z => absurd z (by decide)) (fun _ => ?_)
  refine g_aloadN X0 hx hby d6_10 (pc' := 11) rfl rfl rfl ?_
  refine g_iloadN X0 hx hby d6_11 (pc' := 12) rfl rfl ?_
  refine g_caload X0 hx hZ hby d6_12 (pc' := 13) rfl e0 A_c (by decide) (v := .int x0) rfl ?_
  refine g_istore X0 hx hby d6_13 (pc' := 15) rfl (l' := #[.val (.ref q1), .val (.int (0 : Int32)), .val (.ref q3), .val (.int (0 : Int32)), .val (.int (3 : Int32)), .val (.int (0 : Int32)), .val (.int x0)]) rfl ?_
  refine g_iload X0 hx hby d6_15 (pc' := 17) rfl rfl ?_
  refine g_sipush X0 hx hby d6_17 (pc' := 20) rfl (z := (255 : Int32)) rfl ?_
  refine g_icmp_le X0 hx hby d6_20 (by decide) (pc' := 26) (by decide) (pn := 23) rfl (fun hc20_1 => ?_) (fun hc20_1 => ?_)
  · refine g_aloadN X0 hx hby d6_26 (pc' := 27) rfl rfl rfl ?_
    refine g_iloadN X0 hx hby d6_27 (pc' := 28) rfl rfl ?_
    refine g_iload X0 hx hby d6_28 (pc' := 30) rfl rfl ?_
    refine g_i2b X0 hx hby d6_30 (pc' := 31) rfl ?_
    refine g_bastore X0 hx hZ 0 hby d6_31 (pc' := 32) rfl e0 A_b (by decide) (by decide) (by first | decide | simp) ?_
    intro T2 X2 W2 A2v
    have N2 := Fr.snoc X2 N0 g_b
    have A2_q1 := A_c.other W2 n_cb
    have K2 := (Keep.refl h0 [q3]).wr W2 (Or.inl (List.mem_of_getElem? (i := 0) rfl))
    have A2 : Arv Z T2.heap q3 kb .byte (3 : Int32) [.int (nar .byte x0.toInt8.toInt32), .int 0, .int 0] (.int 0) := A2v
    refine g_iinc X2 hx hby d6_32 (pc' := 35) rfl rfl (l' := #[.val (.ref q1), .val (.int (1 : Int32)), .val (.ref q3), .val (.int (0 : Int32)), .val (.int (3 : Int32)), .val (.int (0 : Int32)), .val (.int x0)]) rfl ?_
    refine g_iinc X2 hx hby d6_35 (pc' := 38) rfl rfl (l' := #[.val (.ref q1), .val (.int (1 : Int32)), .val (.ref q3), .val (.int (1 : Int32)), .val (.int (3 : Int32)), .val (.int (0 : Int32)), .val (.int x0)]) rfl ?_
    refine g_iinc X2 hx hby d6_38 (pc' := 41) rfl rfl (l' := #[.val (.ref q1), .val (.int (1 : Int32)), .val (.ref q3), .val (.int (1 : Int32)), .val (.int (3 : Int32)), .val (.int (1 : Int32)), .val (.int x0)]) rfl ?_
    refine g_goto X2 hx hby d6_41 (by decide) (pc' := 3) (by decide) ?_
    refine g_iload X2 hx hby d6_3 (pc' := 5) rfl rfl ?_
    refine g_iload X2 hx hby d6_5 (pc' := 7) rfl rfl ?_
    refine g_icmp_ge X2 hx hby d6_7 (by decide) (pc' := 44) (by decide) (pn := 10) rfl (fun z => absurd z (by decide)) (fun _ => ?_)
    refine g_aloadN X2 hx hby d6_10 (pc' := 11) rfl rfl rfl ?_
    refine g_iloadN X2 hx hby d6_11 (pc' := 12) rfl rfl ?_
    refine g_caload X2 hx hZ hby d6_12 (pc' := 13) rfl rfl A2_q1 (by decide) (v := .int x1) rfl ?_
    refine g_istore X2 hx hby d6_13 (pc' := 15) rfl (l' := #[.val (.ref q1), .val (.int (1 : Int32)), .val (.ref q3), .val (.int (1 : Int32)), .val (.int (3 : Int32)), .val (.int (1 : Int32)), .val (.int x1)]) rfl ?_
    refine g_iload X2 hx hby d6_15 (pc' := 17) rfl rfl ?_
    refine g_sipush X2 hx hby d6_17 (pc' := 20) rfl (z := (255 : Int32)) rfl ?_
    refine g_icmp_le X2 hx hby d6_20 (by decide) (pc' := 26) (by decide) (pn := 23) rfl (fun hc20_3 => ?_) (fun hc20_3 => ?_)
    · refine g_aloadN X2 hx hby d6_26 (pc' := 27) rfl rfl rfl ?_
      refine g_iloadN X2 hx hby d6_27 (pc' := 28) rfl rfl ?_
      refine g_iload X2 hx hby d6_28 (pc' := 30) rfl rfl ?_
      refine g_i2b X2 hx hby d6_30 (pc' := 31) rfl ?_
      refine g_bastore X2 hx hZ 1 hby d6_31 (pc' := 32) rfl rfl A2 (by decide) (by decide) (by first | decide | simp) ?_
      intro T4 X4 W4 A4v
      have N4 := Fr.snoc X4 N2 g_b
      have A4_q1 := A2_q1.other W4 n_cb
      have K4 := K2.wr W4 (Or.inl (List.mem_of_getElem? (i := 0) rfl))
      have A4 : Arv Z T4.heap q3 kb .byte (3 : Int32) [.int (nar .byte x0.toInt8.toInt32), .int (nar .byte x1.toInt8.toInt32), .int 0] (.int 0) := A4v
      refine g_iinc X4 hx hby d6_32 (pc' := 35) rfl rfl (l' := #[.val (.ref q1), .val (.int (2 : Int32)), .val (.ref q3), .val (.int (1 : Int32)), .val (.int (3 : Int32)), .val (.int (1 : Int32)), .val (.int x1)]) rfl ?_
      refine g_iinc X4 hx hby d6_35 (pc' := 38) rfl rfl (l' := #[.val (.ref q1), .val (.int (2 : Int32)), .val (.ref q3), .val (.int (2 : Int32)), .val (.int (3 : Int32)), .val (.int (1 : Int32)), .val (.int x1)]) rfl ?_
      refine g_iinc X4 hx hby d6_38 (pc' := 41) rfl rfl (l' := #[.val (.ref q1), .val (.int (2 : Int32)), .val (.ref q3), .val (.int (2 : Int32)), .val (.int (3 : Int32)), .val (.int (2 : Int32)), .val (.int x1)]) rfl ?_
      refine g_goto X4 hx hby d6_41 (by decide) (pc' := 3) (by decide) ?_
      refine g_iload X4 hx hby d6_3 (pc' := 5) rfl rfl ?_
      refine g_iload X4 hx hby d6_5 (pc' := 7) rfl rfl ?_
      refine g_icmp_ge X4 hx hby d6_7 (by decide) (pc' := 44) (by decide) (pn := 10) rfl (fun z => absurd z (by decide)) (fun _ => ?_)
      refine g_aloadN X4 hx hby d6_10 (pc' := 11) rfl rfl rfl ?_
      refine g_iloadN X4 hx hby d6_11 (pc' := 12) rfl rfl ?_
      refine g_caload X4 hx hZ hby d6_12 (pc' := 13) rfl rfl A4_q1 (by decide) (v := .int x2) rfl ?_
      refine g_istore X4 hx hby d6_13 (pc' := 15) rfl (l' := #[.val (.ref q1), .val (.int (2 : Int32)), .val (.ref q3), .val (.int (2 : Int32)), .val (.int (3 : Int32)), .val (.int (2 : Int32)), .val (.int x2)]) rfl ?_
      refine g_iload X4 hx hby d6_15 (pc' := 17) rfl rfl ?_
      refine g_sipush X4 hx hby d6_17 (pc' := 20) rfl (z := (255 : Int32)) rfl ?_
      refine g_icmp_le X4 hx hby d6_20 (by decide) (pc' := 26) (by decide) (pn := 23) rfl (fun hc20_5 => ?_) (fun hc20_5 => ?_)
      · refine g_aloadN X4 hx hby d6_26 (pc' := 27) rfl rfl rfl ?_
        refine g_iloadN X4 hx hby d6_27 (pc' := 28) rfl rfl ?_
        refine g_iload X4 hx hby d6_28 (pc' := 30) rfl rfl ?_
        refine g_i2b X4 hx hby d6_30 (pc' := 31) rfl ?_
        refine g_bastore X4 hx hZ 2 hby d6_31 (pc' := 32) rfl rfl A4 (by decide) (by decide) (by first | decide | simp) ?_
        intro T6 X6 W6 A6v
        have N6 := Fr.snoc X6 N4 g_b
        have A6_q1 := A4_q1.other W6 n_cb
        have K6 := K4.wr W6 (Or.inl (List.mem_of_getElem? (i := 0) rfl))
        have A6 : Arv Z T6.heap q3 kb .byte (3 : Int32) [.int (nar .byte x0.toInt8.toInt32), .int (nar .byte x1.toInt8.toInt32), .int (nar .byte x2.toInt8.toInt32)] (.int 0) := A6v
        refine g_iinc X6 hx hby d6_32 (pc' := 35) rfl rfl (l' := #[.val (.ref q1), .val (.int (3 : Int32)), .val (.ref q3), .val (.int (2 : Int32)), .val (.int (3 : Int32)), .val (.int (2 : Int32)), .val (.int x2)]) rfl ?_
        refine g_iinc X6 hx hby d6_35 (pc' := 38) rfl rfl (l' := #[.val (.ref q1), .val (.int (3 : Int32)), .val (.ref q3), .val (.int (3 : Int32)), .val (.int (3 : Int32)), .val (.int (2 : Int32)), .val (.int x2)]) rfl ?_
        refine g_iinc X6 hx hby d6_38 (pc' := 41) rfl rfl (l' := #[.val (.ref q1), .val (.int (3 : Int32)), .val (.ref q3), .val (.int (3 : Int32)), .val (.int (3 : Int32)), .val (.int (3 : Int32)), .val (.int x2)]) rfl ?_
        refine g_goto X6 hx hby d6_41 (by decide) (pc' := 3) (by decide) ?_
        refine g_iload X6 hx hby d6_3 (pc' := 5) rfl rfl ?_
        refine g_iload X6 hx hby d6_5 (pc' := 7) rfl rfl ?_
        refine g_icmp_ge X6 hx hby d6_7 (by decide) (pc' := 44) (by decide) (pn := 10) rfl (fun _ => ?_) (fun z => absurd z (by decide))
        refine g_iload X6 hx hby d6_44 (pc' := 46) rfl rfl ?_
        exact g_retI (Q := (fun v h L => (v = some (.int (3 : Int32)) ∧ Fr n0 L ∧ Keep h0 h [q3] ∧ Arv Z h q3 kb .byte (3 : Int32) [.int (lat x0), .int (lat x1), .int (lat x2)] (.int 0) ∧ ¬ (255 : Int32) < x0 ∧ ¬ (255 : Int32) < x1 ∧ ¬ (255 : Int32) < x2) ∨ (v = some (.int (0 : Int32)) ∧ Fr n0 L ∧ Keep h0 h [q3] ∧ (255 : Int32) < x0) ∨ (v = some (.int (1 : Int32)) ∧ Fr n0 L ∧ Keep h0 h [q3] ∧ (255 : Int32) < x1) ∨ (v = some (.int (2 : Int32)) ∧ Fr n0 L ∧ Keep h0 h [q3] ∧ (255 : Int32) < x2))) X6 hx hby d6_46 hret hlk (by decide) (by decide) (Or.inl ⟨rfl, N6, K6, A6, hc20_1, hc20_3, hc20_5⟩)
      · refine g_iload X4 hx hby d6_23 (pc' := 25) rfl rfl ?_
        exact g_retI (Q := (fun v h L => (v = some (.int (3 : Int32)) ∧ Fr n0 L ∧ Keep h0 h [q3] ∧ Arv Z h q3 kb .byte (3 : Int32) [.int (lat x0), .int (lat x1), .int (lat x2)] (.int 0) ∧ ¬ (255 : Int32) < x0 ∧ ¬ (255 : Int32) < x1 ∧ ¬ (255 : Int32) < x2) ∨ (v = some (.int (0 : Int32)) ∧ Fr n0 L ∧ Keep h0 h [q3] ∧ (255 : Int32) < x0) ∨ (v = some (.int (1 : Int32)) ∧ Fr n0 L ∧ Keep h0 h [q3] ∧ (255 : Int32) < x1) ∨ (v = some (.int (2 : Int32)) ∧ Fr n0 L ∧ Keep h0 h [q3] ∧ (255 : Int32) < x2))) X4 hx hby d6_25 hret hlk (by decide) (by decide) (Or.inr (Or.inr (Or.inr ⟨rfl, N4, K4, hc20_5⟩)))
    · refine g_iload X2 hx hby d6_23 (pc' := 25) rfl rfl ?_
      exact g_retI (Q := (fun v h L => (v = some (.int (3 : Int32)) ∧ Fr n0 L ∧ Keep h0 h [q3] ∧ Arv Z h q3 kb .byte (3 : Int32) [.int (lat x0), .int (lat x1), .int (lat x2)] (.int 0) ∧ ¬ (255 : Int32) < x0 ∧ ¬ (255 : Int32) < x1 ∧ ¬ (255 : Int32) < x2) ∨ (v = some (.int (0 : Int32)) ∧ Fr n0 L ∧ Keep h0 h [q3] ∧ (255 : Int32) < x0) ∨ (v = some (.int (1 : Int32)) ∧ Fr n0 L ∧ Keep h0 h [q3] ∧ (255 : Int32) < x1) ∨ (v = some (.int (2 : Int32)) ∧ Fr n0 L ∧ Keep h0 h [q3] ∧ (255 : Int32) < x2))) X2 hx hby d6_25 hret hlk (by decide) (by decide) (Or.inr (Or.inr (Or.inl ⟨rfl, N2, K2, hc20_3⟩)))
  · refine g_iload X0 hx hby d6_23 (pc' := 25) rfl rfl ?_
    exact g_retI (Q := (fun v h L => (v = some (.int (3 : Int32)) ∧ Fr n0 L ∧ Keep h0 h [q3] ∧ Arv Z h q3 kb .byte (3 : Int32) [.int (lat x0), .int (lat x1), .int (lat x2)] (.int 0) ∧ ¬ (255 : Int32) < x0 ∧ ¬ (255 : Int32) < x1 ∧ ¬ (255 : Int32) < x2) ∨ (v = some (.int (0 : Int32)) ∧ Fr n0 L ∧ Keep h0 h [q3] ∧ (255 : Int32) < x0) ∨ (v = some (.int (1 : Int32)) ∧ Fr n0 L ∧ Keep h0 h [q3] ∧ (255 : Int32) < x1) ∨ (v = some (.int (2 : Int32)) ∧ Fr n0 L ∧ Keep h0 h [q3] ∧ (255 : Int32) < x2))) X0 hx hby d6_25 hret hlk (by decide) (by decide) (by rw [e0]; exact (Or.inr (Or.inl ⟨rfl, N0, (Keep.refl h0 [q3]), hc20_1⟩)))
theorem ef_rmC31 (q1 : Addr) (m : MethodId) : entryFrame m #[.ref q1, .int (0 : Int32), .int (1 : Int32)] 6 = mkF m 0 #[.val (.ref q1), .val (.int (0 : Int32)), .val (.int (1 : Int32)), .unset, .unset, .unset] [] := by
  first | (simp [entryFrame, mkF, argsToLocals, Value.category]; done) | rfl
set_option maxRecDepth 65536 in
set_option maxHeartbeats 40000000 in
theorem rmC31 (l : Launch) (Z : State) (a0 : Array Value) (hw : ∀ d ∈ tables_1, d.before a0 Z = true) (ws : List Jvm.Cond) (q1 : Addr) (h0 : Heap) (n0 : Nat) (x0 : Int32) (kc : ClassId) (A_c : Arv Z h0 q1 kc .char (1 : Int32) [.int x0] (.int 0)) (hx0 : CH x0) (Z0 : n0 ≤ h0.size) (cs : Int32) (fm : Value) (SS : SSt Z cs fm) (O0 : Old Z n0 h0) :
    Ctr l Z ({ cls := "java/lang/StringUTF16", name := "compress", desc := "([CII)[B" } : Jvm.MethodName) jdk_52_method_16_code 6 (some (.array .byte)) ws ({ frames := 3, cells := 2, slots := 9, locals := 40 } : Room) #[.ref q1, .int (0 : Int32), .int (1 : Int32)] h0 (fun v h L => (∃ (b : Addr) (k : ClassId), v = some (.ref b) ∧ Fr n0 L ∧ Keep h0 h [] ∧ h0.size ≤ b ∧ Arv Z h b k .byte (1 : Int32) [.int (lat x0)] (.int 0) ∧ ¬ (255 : Int32) < x0) ∨ (∃ (b : Addr) (k : ClassId), v = some (.ref b) ∧ Fr n0 L ∧ Keep h0 h [] ∧ h0.size ≤ b ∧ Arv Z h b k .byte (2 : Int32) [.int (lob x0), .int (hib x0)] (.int 0))) := by
  refine Ctr.enter (Ls := #[.val (.ref q1), .val (.int (0 : Int32)), .val (.int (1 : Int32)), .unset, .unset, .unset]) (by decide +kernel) (fun m => ef_rmC31 q1 m) ?_
  intro p e s m below meth c T hx hby hml hown hnm hret hlk hZ hh X0 e0
  have N0 := Fr.nil n0
  refine g_iloadN X0 hx hby d5_0 (pc' := 1) rfl rfl ?_
  refine g_newarray X0 hx hZ 1  "[B" hby d5_1 (pc' := 3) rfl (w_26 hw) e0 (by decide) (by decide) (by decide) (by decide) (by decide) rfl ?_
  intro T1 b1 c1 hb1 X1 E1 A1v A1x
  have O1o := O0.ext E1
  have K1 := (Keep.refl h0 []).ext E1
  have Z1 := Nat.le_trans Z0 E1.1
  have A1_q1 := A_c.ext E1
  have ne1_q1 : q1 ≠ b1 := hb1 ▸ Nat.ne_of_lt A_c.lt
  have A1 : Arv Z T1.heap b1 c1 .byte (1 : Int32) [.int 0] (.int 0) := A1v
  refine g_astoreN X1 hx hby d5_3 (pc' := 4) rfl rfl (l' := #[.val (.ref q1), .val (.int (0 : Int32)), .val (.int (1 : Int32)), .val (.ref b1), .unset, .unset]) rfl ?_
  refine g_aloadN X1 hx hby d5_4 (pc' := 5) rfl rfl rfl ?_
  refine g_iloadN X1 hx hby d5_5 (pc' := 6) rfl rfl ?_
  refine g_aloadN X1 hx hby d5_6 (pc' := 7) rfl rfl rfl ?_
  refine g_iconst X1 hx hby d5_7 (pc' := 8) rfl (z := (0 : Int32)) rfl ?_
  refine g_iloadN X1 hx hby d5_8 (pc' := 9) rfl rfl ?_
  refine g_callS X1 hx hZ hown (W := 0) (argsL := [.ref q1, .int (0 : Int32), .ref b1, .int (0 : Int32), .int (1 : Int32)]) (rest := []) hby d5_9 (pc' := 12) rfl (by rw [hml]; rfl) (w_27 hw) (w_28 hw) (w_24 hw) (w_29 hw) (by decide) (rmC51 l Z a0 hw [] q1 b1 T1.heap n0 x0 _ A1_q1 _ A1 ne1_q1 (Nat.le_trans Z0 (Nat.le_of_eq hb1.symm))) rfl (by decide) (by decide) (by decide) (by decide) rfl pd__28_5bCI_5bBII_29I rfl rfl (Nat.le_of_eq rfl) ?_
  rintro _ T2 L2 X2 (⟨rfl, N2q, K2, A2, l2_0⟩ | ⟨rfl, N2q, K2, g2_0⟩)
  · have N2 := Fr.app N0 N2q
    have O2 := O1o.keep K2 (allS (Nat.le_trans Z0 (Nat.le_of_eq hb1.symm)) all0)
    have K2t := K1.trans K2 (allS (Or.inr (Nat.le_trans (Keep.refl h0 []).1 (Nat.le_of_eq hb1.symm))) all0)
    have Z2 := Nat.le_trans Z1 K2.1
    have A2_q1 := A1_q1.keep K2 (ninS ne1_q1 nin0)
    have E2_b1 := A1x.keep K2
    show GoE p e below _ (T2.setTop (mkF m 12 #[.val (.ref q1), .val (.int (0 : Int32)), .val (.int (1 : Int32)), .val (.ref b1), .unset, .unset] [.int (1 : Int32)]))
    refine g_istore X2 hx hby d5_12 (pc' := 14) rfl (l' := #[.val (.ref q1), .val (.int (0 : Int32)), .val (.int (1 : Int32)), .val (.ref b1), .val (.int (1 : Int32)), .unset]) rfl ?_
    refine g_iload X2 hx hby d5_14 (pc' := 16) rfl rfl ?_
    refine g_iloadN X2 hx hby d5_16 (pc' := 17) rfl rfl ?_
    refine g_icmp_eq X2 hx hby d5_17 (by decide) (pc' := 57) (by decide) (pn := 20) rfl (fun _ => ?_) (fun z => absurd z (by decide))
    refine g_aloadN X2 hx hby d5_57 (pc' := 58) rfl rfl rfl ?_
    exact g_retA (Q := (fun v h L => (∃ (b : Addr) (k : ClassId), v = some (.ref b) ∧ Fr n0 L ∧ Keep h0 h [] ∧ h0.size ≤ b ∧ Arv Z h b k .byte (1 : Int32) [.int (lat x0)] (.int 0) ∧ ¬ (255 : Int32) < x0) ∨ (∃ (b : Addr) (k : ClassId), v = some (.ref b) ∧ Fr n0 L ∧ Keep h0 h [] ∧ h0.size ≤ b ∧ Arv Z h b k .byte (2 : Int32) [.int (lob x0), .int (hib x0)] (.int 0)))) X2 hx hby d5_58 rfl hret rfl hlk (by decide) (by decide) (Or.inl ⟨b1, c1, rfl, N2, K2t, (Nat.le_trans (Keep.refl h0 []).1 (Nat.le_of_eq hb1.symm)), A2, l2_0⟩)
  · have N2 := Fr.app N0 N2q
    have O2 := O1o.keep K2 (allS (Nat.le_trans Z0 (Nat.le_of_eq hb1.symm)) all0)
    have K2t := K1.trans K2 (allS (Or.inr (Nat.le_trans (Keep.refl h0 []).1 (Nat.le_of_eq hb1.symm))) all0)
    have Z2 := Nat.le_trans Z1 K2.1
    have A2_q1 := A1_q1.keep K2 (ninS ne1_q1 nin0)
    have E2_b1 := A1x.keep K2
    show GoE p e below _ (T2.setTop (mkF m 12 #[.val (.ref q1), .val (.int (0 : Int32)), .val (.int (1 : Int32)), .val (.ref b1), .unset, .unset] [.int (0 : Int32)]))
    refine g_istore X2 hx hby d5_12 (pc' := 14) rfl (l' := #[.val (.ref q1), .val (.int (0 : Int32)), .val (.int (1 : Int32)), .val (.ref b1), .val (.int (0 : Int32)), .unset]) rfl ?_
    refine g_iload X2 hx hby d5_14 (pc' := 16) rfl rfl ?_
    refine g_iloadN X2 hx hby d5_16 (pc' := 17) rfl rfl ?_
    refine g_icmp_eq X2 hx hby d5_17 (by decide) (pc' := 57) (by decide) (pn := 20) rfl (fun z => absurd z (by decide)) (fun _ => ?_)
    refine g_aloadN X2 hx hby d5_20 (pc' := 21) rfl rfl rfl ?_
    refine g_iloadN X2 hx hby d5_21 (pc' := 22) rfl rfl ?_
    refine g_iloadN X2 hx hby d5_22 (pc' := 23) rfl rfl ?_
    refine g_callS X2 hx hZ hown (W := 0) (argsL := [.ref q1, .int (0 : Int32), .int (1 : Int32)]) (rest := []) hby d5_23 (pc' := 26) rfl (by rw [hml]; rfl) (w_30 hw) (w_31 hw) (w_24 hw) (w_32 hw) (by decide) (rmT1 l Z a0 hw [] q1 T2.heap n0 x0 _ A2_q1 Z2 cs fm SS O2) rfl (by decide) (by decide) (by decide) (by decide) rfl pd__28_5bCII_29_5bB rfl rfl (Nat.le_of_eq rfl) ?_
    rintro _ T3 L3 X3 (⟨b3, k3, rfl, N3q, K3, G3, A3⟩)
    · have N3 := Fr.app N2 N3q
      have nb3_q1 : q1 ≠ b3 := Nat.ne_of_lt (Nat.lt_of_lt_of_le A2_q1.lt G3)
      have nb3_b1 : b1 ≠ b3 := Nat.ne_of_lt (Nat.lt_of_lt_of_le E2_b1.lt G3)
      have O3 := O2.keep K3 all0
      have K3t := K2t.trans K3 all0
      have Z3 := Nat.le_trans Z2 K3.1
      have A3_q1 := A2_q1.keep K3 nin0
      have E3_b1 := E2_b1.keep K3
      show GoE p e below _ (T3.setTop (mkF m 26 #[.val (.ref q1), .val (.int (0 : Int32)), .val (.int (1 : Int32)), .val (.ref b1), .val (.int (0 : Int32)), .unset] [.ref b3]))
      refine g_astore X3 hx hby d5_26 (pc' := 28) rfl rfl (l' := #[.val (.ref q1), .val (.int (0 : Int32)), .val (.int (1 : Int32)), .val (.ref b1), .val (.int (0 : Int32)), .val (.ref b3)]) rfl ?_
      refine g_aload X3 hx hby d5_28 (pc' := 30) rfl rfl rfl ?_
      refine g_iload X3 hx hby d5_30 (pc' := 32) rfl rfl ?_
      refine g_callS X3 hx hZ hown (W := 0) (argsL := [.ref b3, .int (0 : Int32)]) (rest := []) hby d5_32 (pc' := 35) rfl (by rw [hml]; rfl) (w_46 hw) (w_47 hw) (w_24 hw) (w_48 hw) (by decide) (rmG10 l Z a0 hw [] b3 T3.heap n0 (lob x0) (hib x0) _ A3 cs fm SS O3) rfl (by decide) (by decide) (by decide) (by decide) rfl pd__28_5bBI_29C rfl rfl (Nat.le_of_eq rfl) ?_
      rintro _ T4 L4 X4 ⟨rfl, N4q, e4⟩
      have N4 := Fr.app N3 N4q
      show GoE p e below _ (T4.setTop (mkF m 35 #[.val (.ref q1), .val (.int (0 : Int32)), .val (.int (1 : Int32)), .val (.ref b1), .val (.int (0 : Int32)), .val (.ref b3)] [.int (gch (lob x0) (hib x0))]))
      refine g_sipush X4 hx hby d5_35 (pc' := 38) rfl (z := (255 : Int32)) rfl ?_
      refine g_icmp_gt X4 hx hby d5_38 (by decide) (pc' := 54) (by decide) (pn := 41) rfl (fun hc38_5 => ?_) (fun z => absurd z (fun z => z (by rw [own_gch hx0]; exact g2_0)))
      refine g_aload X4 hx hby d5_54 (pc' := 56) rfl rfl rfl ?_
      exact g_retA (Q := (fun v h L => (∃ (b : Addr) (k : ClassId), v = some (.ref b) ∧ Fr n0 L ∧ Keep h0 h [] ∧ h0.size ≤ b ∧ Arv Z h b k .byte (1 : Int32) [.int (lat x0)] (.int 0) ∧ ¬ (255 : Int32) < x0) ∨ (∃ (b : Addr) (k : ClassId), v = some (.ref b) ∧ Fr n0 L ∧ Keep h0 h [] ∧ h0.size ≤ b ∧ Arv Z h b k .byte (2 : Int32) [.int (lob x0), .int (hib x0)] (.int 0)))) X4 hx hby d5_56 rfl hret rfl hlk (by decide) (by decide) (by rw [e4]; exact (Or.inr ⟨b3, k3, rfl, N4, K3t, (Nat.le_trans K2t.1 G3), A3⟩))
theorem ef_rmC32 (q1 : Addr) (m : MethodId) : entryFrame m #[.ref q1, .int (0 : Int32), .int (2 : Int32)] 6 = mkF m 0 #[.val (.ref q1), .val (.int (0 : Int32)), .val (.int (2 : Int32)), .unset, .unset, .unset] [] := by
  first | (simp [entryFrame, mkF, argsToLocals, Value.category]; done) | rfl
set_option maxRecDepth 65536 in
set_option maxHeartbeats 40000000 in
theorem rmC32 (l : Launch) (Z : State) (a0 : Array Value) (hw : ∀ d ∈ tables_1, d.before a0 Z = true) (ws : List Jvm.Cond) (q1 : Addr) (h0 : Heap) (n0 : Nat) (x0 x1 : Int32) (kc : ClassId) (A_c : Arv Z h0 q1 kc .char (2 : Int32) [.int x0, .int x1] (.int 0)) (hx0 : CH x0) (hx1 : CH x1) (Z0 : n0 ≤ h0.size) (cs : Int32) (fm : Value) (SS : SSt Z cs fm) (O0 : Old Z n0 h0) :
    Ctr l Z ({ cls := "java/lang/StringUTF16", name := "compress", desc := "([CII)[B" } : Jvm.MethodName) jdk_52_method_16_code 6 (some (.array .byte)) ws ({ frames := 3, cells := 2, slots := 9, locals := 40 } : Room) #[.ref q1, .int (0 : Int32), .int (2 : Int32)] h0 (fun v h L => (∃ (b : Addr) (k : ClassId), v = some (.ref b) ∧ Fr n0 L ∧ Keep h0 h [] ∧ h0.size ≤ b ∧ Arv Z h b k .byte (2 : Int32) [.int (lat x0), .int (lat x1)] (.int 0) ∧ ¬ (255 : Int32) < x0 ∧ ¬ (255 : Int32) < x1) ∨ (∃ (b : Addr) (k : ClassId), v = some (.ref b) ∧ Fr n0 L ∧ Keep h0 h [] ∧ h0.size ≤ b ∧ Arv Z h b k .byte (4 : Int32) [.int (lob x0), .int (hib x0), .int (lob x1), .int (hib x1)] (.int 0))) := by
  refine Ctr.enter (Ls := #[.val (.ref q1), .val (.int (0 : Int32)), .val (.int (2 : Int32)), .unset, .unset, .unset]) (by decide +kernel) (fun m => ef_rmC32 q1 m) ?_
  intro p e s m below meth c T hx hby hml hown hnm hret hlk hZ hh X0 e0
  have N0 := Fr.nil n0
  refine g_iloadN X0 hx hby d5_0 (pc' := 1) rfl rfl ?_
  refine g_newarray X0 hx hZ 2  "[B" hby d5_1 (pc' := 3) rfl (w_26 hw) e0 (by decide) (by decide) (by decide) (by decide) (by decide) rfl ?_
  intro T1 b1 c1 hb1 X1 E1 A1v A1x
  have O1o := O0.ext E1
  have K1 := (Keep.refl h0 []).ext E1
  have Z1 := Nat.le_trans Z0 E1.1
  have A1_q1 := A_c.ext E1
  have ne1_q1 : q1 ≠ b1 := hb1 ▸ Nat.ne_of_lt A_c.lt
  have A1 : Arv Z T1.heap b1 c1 .byte (2 : Int32) [.int 0, .int 0] (.int 0) := A1v
  refine g_astoreN X1 hx hby d5_3 (pc' := 4) rfl rfl (l' := #[.val (.ref q1), .val (.int (0 : Int32)), .val (.int (2 : Int32)), .val (.ref b1), .unset, .unset]) rfl ?_
  refine g_aloadN X1 hx hby d5_4 (pc' := 5) rfl rfl rfl ?_
  refine g_iloadN X1 hx hby d5_5 (pc' := 6) rfl rfl ?_
  refine g_aloadN X1 hx hby d5_6 (pc' := 7) rfl rfl rfl ?_
  refine g_iconst X1 hx hby d5_7 (pc' := 8) rfl (z := (0 : Int32)) rfl ?_
  refine g_iloadN X1 hx hby d5_8 (pc' := 9) rfl rfl ?_
  refine g_callS X1 hx hZ hown (W := 0) (argsL := [.ref q1, .int (0 : Int32), .ref b1, .int (0 : Int32), .int (2 : Int32)]) (rest := []) hby d5_9 (pc' := 12) rfl (by rw [hml]; rfl) (w_27 hw) (w_28 hw) (w_24 hw) (w_29 hw) (by decide) (rmC52 l Z a0 hw [] q1 b1 T1.heap n0 x0 x1 _ A1_q1 _ A1 ne1_q1 (Nat.le_trans Z0 (Nat.le_of_eq hb1.symm))) rfl (by decide) (by decide) (by decide) (by decide) rfl pd__28_5bCI_5bBII_29I rfl rfl (Nat.le_of_eq rfl) ?_
  rintro _ T2 L2 X2 (⟨rfl, N2q, K2, A2, l2_0, l2_1⟩ | ⟨rfl, N2q, K2, g2_0⟩ | ⟨rfl, N2q, K2, g2_1⟩)
  · have N2 := Fr.app N0 N2q
    have O2 := O1o.keep K2 (allS (Nat.le_trans Z0 (Nat.le_of_eq hb1.symm)) all0)
    have K2t := K1.trans K2 (allS (Or.inr (Nat.le_trans (Keep.refl h0 []).1 (Nat.le_of_eq hb1.symm))) all0)
    have Z2 := Nat.le_trans Z1 K2.1
    have A2_q1 := A1_q1.keep K2 (ninS ne1_q1 nin0)
    have E2_b1 := A1x.keep K2
    show GoE p e below _ (T2.setTop (mkF m 12 #[.val (.ref q1), .val (.int (0 : Int32)), .val (.int (2 : Int32)), .val (.ref b1), .unset, .unset] [.int (2 : Int32)]))
    refine g_istore X2 hx hby d5_12 (pc' := 14) rfl (l' := #[.val (.ref q1), .val (.int (0 : Int32)), .val (.int (2 : Int32)), .val (.ref b1), .val (.int (2 : Int32)), .unset]) rfl ?_
    refine g_iload X2 hx hby d5_14 (pc' := 16) rfl rfl ?_
    refine g_iloadN X2 hx hby d5_16 (pc' := 17) rfl rfl ?_
    refine g_icmp_eq X2 hx hby d5_17 (by decide) (pc' := 57) (by decide) (pn := 20) rfl (fun _ => ?_) (fun z => absurd z (by decide))
    refine g_aloadN X2 hx hby d5_57 (pc' := 58) rfl rfl rfl ?_
    exact g_retA (Q := (fun v h L => (∃ (b : Addr) (k : ClassId), v = some (.ref b) ∧ Fr n0 L ∧ Keep h0 h [] ∧ h0.size ≤ b ∧ Arv Z h b k .byte (2 : Int32) [.int (lat x0), .int (lat x1)] (.int 0) ∧ ¬ (255 : Int32) < x0 ∧ ¬ (255 : Int32) < x1) ∨ (∃ (b : Addr) (k : ClassId), v = some (.ref b) ∧ Fr n0 L ∧ Keep h0 h [] ∧ h0.size ≤ b ∧ Arv Z h b k .byte (4 : Int32) [.int (lob x0), .int (hib x0), .int (lob x1), .int (hib x1)] (.int 0)))) X2 hx hby d5_58 rfl hret rfl hlk (by decide) (by decide) (Or.inl ⟨b1, c1, rfl, N2, K2t, (Nat.le_trans (Keep.refl h0 []).1 (Nat.le_of_eq hb1.symm)), A2, l2_0, l2_1⟩)
  · have N2 := Fr.app N0 N2q
    have O2 := O1o.keep K2 (allS (Nat.le_trans Z0 (Nat.le_of_eq hb1.symm)) all0)
    have K2t := K1.trans K2 (allS (Or.inr (Nat.le_trans (Keep.refl h0 []).1 (Nat.le_of_eq hb1.symm))) all0)
    have Z2 := Nat.le_trans Z1 K2.1
    have A2_q1 := A1_q1.keep K2 (ninS ne1_q1 nin0)
    have E2_b1 := A1x.keep K2
    show GoE p e below _ (T2.setTop (mkF m 12 #[.val (.ref q1), .val (.int (0 : Int32)), .val (.int (2 : Int32)), .val (.ref b1), .unset, .unset] [.int (0 : Int32)]))
    refine g_istore X2 hx hby d5_12 (pc' := 14) rfl (l' := #[.val (.ref q1), .val (.int (0 : Int32)), .val (.int (2 : Int32)), .val (.ref b1), .val (.int (0 : Int32)), .unset]) rfl ?_
    refine g_iload X2 hx hby d5_14 (pc' := 16) rfl rfl ?_
    refine g_iloadN X2 hx hby d5_16 (pc' := 17) rfl rfl ?_
    refine g_icmp_eq X2 hx hby d5_17 (by decide) (pc' := 57) (by decide) (pn := 20) rfl (fun z => absurd z (by decide)) (fun _ => ?_)
    refine g_aloadN X2 hx hby d5_20 (pc' := 21) rfl rfl rfl ?_
    refine g_iloadN X2 hx hby d5_21 (pc' := 22) rfl rfl ?_
    refine g_iloadN X2 hx hby d5_22 (pc' := 23) rfl rfl ?_
    refine g_callS X2 hx hZ hown (W := 0) (argsL := [.ref q1, .int (0 : Int32), .int (2 : Int32)]) (rest := []) hby d5_23 (pc' := 26) rfl (by rw [hml]; rfl) (w_30 hw) (w_31 hw) (w_24 hw) (w_32 hw) (by decide) (rmT2 l Z a0 hw [] q1 T2.heap n0 x0 x1 _ A2_q1 Z2 cs fm SS O2) rfl (by decide) (by decide) (by decide) (by decide) rfl pd__28_5bCII_29_5bB rfl rfl (Nat.le_of_eq rfl) ?_
    rintro _ T3 L3 X3 (⟨b3, k3, rfl, N3q, K3, G3, A3⟩)
    · have N3 := Fr.app N2 N3q
      have nb3_q1 : q1 ≠ b3 := Nat.ne_of_lt (Nat.lt_of_lt_of_le A2_q1.lt G3)
      have nb3_b1 : b1 ≠ b3 := Nat.ne_of_lt (Nat.lt_of_lt_of_le E2_b1.lt G3)
      have O3 := O2.keep K3 all0
      have K3t := K2t.trans K3 all0
      have Z3 := Nat.le_trans Z2 K3.1
      have A3_q1 := A2_q1.keep K3 nin0
      have E3_b1 := E2_b1.keep K3
      show GoE p e below _ (T3.setTop (mkF m 26 #[.val (.ref q1), .val (.int (0 : Int32)), .val (.int (2 : Int32)), .val (.ref b1), .val (.int (0 : Int32)), .unset] [.ref b3]))
      refine g_astore X3 hx hby d5_26 (pc' := 28) rfl rfl (l' := #[.val (.ref q1), .val (.int (0 : Int32)), .val (.int (2 : Int32)), .val (.ref b1), .val (.int (0 : Int32)), .val (.ref b3)]) rfl ?_
      refine g_aload X3 hx hby d5_28 (pc' := 30) rfl rfl rfl ?_
      refine g_iload X3 hx hby d5_30 (pc' := 32) rfl rfl ?_
      refine g_callS X3 hx hZ hown (W := 0) (argsL := [.ref b3, .int (0 : Int32)]) (rest := []) hby d5_32 (pc' := 35) rfl (by rw [hml]; rfl) (w_46 hw) (w_47 hw) (w_24 hw) (w_48 hw) (by decide) (rmG20 l Z a0 hw [] b3 T3.heap n0 (lob x0) (hib x0) (lob x1) (hib x1) _ A3 cs fm SS O3) rfl (by decide) (by decide) (by decide) (by decide) rfl pd__28_5bBI_29C rfl rfl (Nat.le_of_eq rfl) ?_
      rintro _ T4 L4 X4 ⟨rfl, N4q, e4⟩
      have N4 := Fr.app N3 N4q
      show GoE p e below _ (T4.setTop (mkF m 35 #[.val (.ref q1), .val (.int (0 : Int32)), .val (.int (2 : Int32)), .val (.ref b1), .val (.int (0 : Int32)), .val (.ref b3)] [.int (gch (lob x0) (hib x0))]))
      refine g_sipush X4 hx hby d5_35 (pc' := 38) rfl (z := (255 : Int32)) rfl ?_
      refine g_icmp_gt X4 hx hby d5_38 (by decide) (pc' := 54) (by decide) (pn := 41) rfl (fun hc38_5 => ?_) (fun z => absurd z (fun z => z (by rw [own_gch hx0]; exact g2_0)))
      refine g_aload X4 hx hby d5_54 (pc' := 56) rfl rfl rfl ?_
      exact g_retA (Q := (fun v h L => (∃ (b : Addr) (k : ClassId), v = some (.ref b) ∧ Fr n0 L ∧ Keep h0 h [] ∧ h0.size ≤ b ∧ Arv Z h b k .byte (2 : Int32) [.int (lat x0), .int (lat x1)] (.int 0) ∧ ¬ (255 : Int32) < x0 ∧ ¬ (255 : Int32) < x1) ∨ (∃ (b : Addr) (k : ClassId), v = some (.ref b) ∧ Fr n0 L ∧ Keep h0 h [] ∧ h0.size ≤ b ∧ Arv Z h b k .byte (4 : Int32) [.int (lob x0), .int (hib x0), .int (lob x1), .int (hib x1)] (.int 0)))) X4 hx hby d5_56 rfl hret rfl hlk (by decide) (by decide) (by rw [e4]; exact (Or.inr ⟨b3, k3, rfl, N4, K3t, (Nat.le_trans K2t.1 G3), A3⟩))
  · have N2 := Fr.app N0 N2q
    have O2 := O1o.keep K2 (allS (Nat.le_trans Z0 (Nat.le_of_eq hb1.symm)) all0)
    have K2t := K1.trans K2 (allS (Or.inr (Nat.le_trans (Keep.refl h0 []).1 (Nat.le_of_eq hb1.symm))) all0)
    have Z2 := Nat.le_trans Z1 K2.1
    have A2_q1 := A1_q1.keep K2 (ninS ne1_q1 nin0)
    have E2_b1 := A1x.keep K2
    show GoE p e below _ (T2.setTop (mkF m 12 #[.val (.ref q1), .val (.int (0 : Int32)), .val (.int (2 : Int32)), .val (.ref b1), .unset, .unset] [.int (1 : Int32)]))
    refine g_istore X2 hx hby d5_12 (pc' := 14) rfl (l' := #[.val (.ref q1), .val (.int (0 : Int32)), .val (.int (2 : Int32)), .val (.ref b1), .val (.int (1 : Int32)), .unset]) rfl ?_
    refine g_iload X2 hx hby d5_14 (pc' := 16) rfl rfl ?_
    refine g_iloadN X2 hx hby d5_16 (pc' := 17) rfl rfl ?_
    refine g_icmp_eq X2 hx hby d5_17 (by decide) (pc' := 57) (by decide) (pn := 20) rfl (fun z => absurd z (by decide)) (fun _ => ?_)
    refine g_aloadN X2 hx hby d5_20 (pc' := 21) rfl rfl rfl ?_
    refine g_iloadN X2 hx hby d5_21 (pc' := 22) rfl rfl ?_
    refine g_iloadN X2 hx hby d5_22 (pc' := 23) rfl rfl ?_
    refine g_callS X2 hx hZ hown (W := 0) (argsL := [.ref q1, .int (0 : Int32), .int (2 : Int32)]) (rest := []) hby d5_23 (pc' := 26) rfl (by rw [hml]; rfl) (w_30 hw) (w_31 hw) (w_24 hw) (w_32 hw) (by decide) (rmT2 l Z a0 hw [] q1 T2.heap n0 x0 x1 _ A2_q1 Z2 cs fm SS O2) rfl (by decide) (by decide) (by decide) (by decide) rfl pd__28_5bCII_29_5bB rfl rfl (Nat.le_of_eq rfl) ?_
    rintro _ T6 L6 X6 (⟨b6, k6, rfl, N6q, K6, G6, A6⟩)
    · have N6 := Fr.app N2 N6q
      have nb6_q1 : q1 ≠ b6 := Nat.ne_of_lt (Nat.lt_of_lt_of_le A2_q1.lt G6)
      have nb6_b1 : b1 ≠ b6 := Nat.ne_of_lt (Nat.lt_of_lt_of_le E2_b1.lt G6)
      have O6 := O2.keep K6 all0
      have K6t := K2t.trans K6 all0
      have Z6 := Nat.le_trans Z2 K6.1
      have A6_q1 := A2_q1.keep K6 nin0
      have E6_b1 := E2_b1.keep K6
      show GoE p e below _ (T6.setTop (mkF m 26 #[.val (.ref q1), .val (.int (0 : Int32)), .val (.int (2 : Int32)), .val (.ref b1), .val (.int (1 : Int32)), .unset] [.ref b6]))
      refine g_astore X6 hx hby d5_26 (pc' := 28) rfl rfl (l' := #[.val (.ref q1), .val (.int (0 : Int32)), .val (.int (2 : Int32)), .val (.ref b1), .val (.int (1 : Int32)), .val (.ref b6)]) rfl ?_
      refine g_aload X6 hx hby d5_28 (pc' := 30) rfl rfl rfl ?_
      refine g_iload X6 hx hby d5_30 (pc' := 32) rfl rfl ?_
      refine g_callS X6 hx hZ hown (W := 0) (argsL := [.ref b6, .int (1 : Int32)]) (rest := []) hby d5_32 (pc' := 35) rfl (by rw [hml]; rfl) (w_46 hw) (w_47 hw) (w_24 hw) (w_48 hw) (by decide) (rmG21 l Z a0 hw [] b6 T6.heap n0 (lob x0) (hib x0) (lob x1) (hib x1) _ A6 cs fm SS O6) rfl (by decide) (by decide) (by decide) (by decide) rfl pd__28_5bBI_29C rfl rfl (Nat.le_of_eq rfl) ?_
      rintro _ T7 L7 X7 ⟨rfl, N7q, e7⟩
      have N7 := Fr.app N6 N7q
      show GoE p e below _ (T7.setTop (mkF m 35 #[.val (.ref q1), .val (.int (0 : Int32)), .val (.int (2 : Int32)), .val (.ref b1), .val (.int (1 : Int32)), .val (.ref b6)] [.int (gch (lob x1) (hib x1))]))
      refine g_sipush X7 hx hby d5_35 (pc' := 38) rfl (z := (255 : Int32)) rfl ?_
      refine g_icmp_gt X7 hx hby d5_38 (by decide) (pc' := 54) (by decide) (pn := 41) rfl (fun hc38_8 => ?_) (fun z => absurd z (fun z => z (by rw [own_gch hx1]; exact g2_1)))
      refine g_aload X7 hx hby d5_54 (pc' := 56) rfl rfl rfl ?_
      exact g_retA (Q := (fun v h L => (∃ (b : Addr) (k : ClassId), v = some (.ref b) ∧ Fr n0 L ∧ Keep h0 h [] ∧ h0.size ≤ b ∧ Arv Z h b k .byte (2 : Int32) [.int (lat x0), .int (lat x1)] (.int 0) ∧ ¬ (255 : Int32) < x0 ∧ ¬ (255 : Int32) < x1) ∨ (∃ (b : Addr) (k : ClassId), v = some (.ref b) ∧ Fr n0 L ∧ Keep h0 h [] ∧ h0.size ≤ b ∧ Arv Z h b k .byte (4 : Int32) [.int (lob x0), .int (hib x0), .int (lob x1), .int (hib x1)] (.int 0)))) X7 hx hby d5_56 rfl hret rfl hlk (by decide) (by decide) (by rw [e7]; exact (Or.inr ⟨b6, k6, rfl, N7, K6t, (Nat.le_trans K2t.1 G6), A6⟩))
theorem ef_rmC33 (q1 : Addr) (m : MethodId) : entryFrame m #[.ref q1, .int (0 : Int32), .int (3 : Int32)] 6 = mkF m 0 #[.val (.ref q1), .val (.int (0 : Int32)), .val (.int (3 : Int32)), .unset, .unset, .unset] [] := by
  first | (simp [entryFrame, mkF, argsToLocals, Value.category]; done) | rfl
set_option maxRecDepth 65536 in
set_option maxHeartbeats 40000000 in
theorem rmC33 (l : Launch) (Z : State) (a0 : Array Value) (hw : ∀ d ∈ tables_1, d.before a0 Z = true) (ws : List Jvm.Cond) (q1 : Addr) (h0 : Heap) (n0 : Nat) (x0 x1 x2 : Int32) (kc : ClassId) (A_c : Arv Z h0 q1 kc .char (3 : Int32) [.int x0, .int x1, .int x2] (.int 0)) (hx0 : CH x0) (hx1 : CH x1) (hx2 : CH x2) (Z0 : n0 ≤ h0.size) (cs : Int32) (fm : Value) (SS : SSt Z cs fm) (O0 : Old Z n0 h0) :
    Ctr l Z ({ cls := "java/lang/StringUTF16", name := "compress", desc := "([CII)[B" } : Jvm.MethodName) jdk_52_method_16_code 6 (some (.array .byte)) ws ({ frames := 3, cells := 2, slots := 9, locals := 40 } : Room) #[.ref q1, .int (0 : Int32), .int (3 : Int32)] h0 (fun v h L => (∃ (b : Addr) (k : ClassId), v = some (.ref b) ∧ Fr n0 L ∧ Keep h0 h [] ∧ h0.size ≤ b ∧ Arv Z h b k .byte (3 : Int32) [.int (lat x0), .int (lat x1), .int (lat x2)] (.int 0) ∧ ¬ (255 : Int32) < x0 ∧ ¬ (255 : Int32) < x1 ∧ ¬ (255 : Int32) < x2) ∨ (∃ (b : Addr) (k : ClassId), v = some (.ref b) ∧ Fr n0 L ∧ Keep h0 h [] ∧ h0.size ≤ b ∧ Arv Z h b k .byte (6 : Int32) [.int (lob x0), .int (hib x0), .int (lob x1), .int (hib x1), .int (lob x2), .int (hib x2)] (.int 0))) := by
  refine Ctr.enter (Ls := #[.val (.ref q1), .val (.int (0 : Int32)), .val (.int (3 : Int32)), .unset, .unset, .unset]) (by decide +kernel) (fun m => ef_rmC33 q1 m) ?_
  intro p e s m below meth c T hx hby hml hown hnm hret hlk hZ hh X0 e0
  have N0 := Fr.nil n0
  refine g_iloadN X0 hx hby d5_0 (pc' := 1) rfl rfl ?_
  refine g_newarray X0 hx hZ 3  "[B" hby d5_1 (pc' := 3) rfl (w_26 hw) e0 (by decide) (by decide) (by decide) (by decide) (by decide) rfl ?_
  intro T1 b1 c1 hb1 X1 E1 A1v A1x
  have O1o := O0.ext E1
  have K1 := (Keep.refl h0 []).ext E1
  have Z1 := Nat.le_trans Z0 E1.1
  have A1_q1 := A_c.ext E1
  have ne1_q1 : q1 ≠ b1 := hb1 ▸ Nat.ne_of_lt A_c.lt
  have A1 : Arv Z T1.heap b1 c1 .byte (3 : Int32) [.int 0, .int 0, .int 0] (.int 0) := A1v
  refine g_astoreN X1 hx hby d5_3 (pc' := 4) rfl rfl (l' := #[.val (.ref q1), .val (.int (0 : Int32)), .val (.int (3 : Int32)), .val (.ref b1), .unset, .unset]) rfl ?_
  refine g_aloadN X1 hx hby d5_4 (pc' := 5) rfl rfl rfl ?_
  refine g_iloadN X1 hx hby d5_5 (pc' := 6) rfl rfl ?_
  refine g_aloadN X1 hx hby d5_6 (pc' := 7) rfl rfl rfl ?_
  refine g_iconst X1 hx hby d5_7 (pc' := 8) rfl (z := (0 : Int32)) rfl ?_
  refine g_iloadN X1 hx hby d5_8 (pc' := 9) rfl rfl ?_
  refine g_callS X1 hx hZ hown (W := 0) (argsL := [.ref q1, .int (0 : Int32), .ref b1, .int (0 : Int32), .int (3 : Int32)]) (rest := []) hby d5_9 (pc' := 12) rfl (by rw [hml]; rfl) (w_27 hw) (w_28 hw) (w_24 hw) (w_29 hw) (by decide) (rmC53 l Z a0 hw [] q1 b1 T1.heap n0 x0 x1 x2 _ A1_q1 _ A1 ne1_q1 (Nat.le_trans Z0 (Nat.le_of_eq hb1.symm))) rfl (by decide) (by decide) (by decide) (by decide) rfl pd__28_5bCI_5bBII_29I rfl rfl (Nat.le_of_eq rfl) ?_
  rintro _ T2 L2 X2 (⟨rfl, N2q, K2, A2, l2_0, l2_1, l2_2⟩ | ⟨rfl, N2q, K2, g2_0⟩ | ⟨rfl, N2q, K2, g2_1⟩ | ⟨rfl, N2q, K2, g2_2⟩)
  · have N2 := Fr.app N0 N2q
    have O2 := O1o.keep K2 (allS (Nat.le_trans Z0 (Nat.le_of_eq hb1.symm)) all0)
    have K2t := K1.trans K2 (allS (Or.inr (Nat.le_trans (Keep.refl h0 []).1 (Nat.le_of_eq hb1.symm))) all0)
    have Z2 := Nat.le_trans Z1 K2.1
    have A2_q1 := A1_q1.keep K2 (ninS ne1_q1 nin0)
    have E2_b1 := A1x.keep K2
    show GoE p e below _ (T2.setTop (mkF m 12 #[.val (.ref q1), .val (.int (0 : Int32)), .val (.int (3 : Int32)), .val (.ref b1), .unset, .unset] [.int (3 : Int32)]))
    refine g_istore X2 hx hby d5_12 (pc' := 14) rfl (l' := #[.val (.ref q1), .val (.int (0 : Int32)), .val (.int (3 : Int32)), .val (.ref b1), .val (.int (3 : Int32)), .unset]) rfl ?_
    refine g_iload X2 hx hby d5_14 (pc' := 16) rfl rfl ?_
    refine g_iloadN X2 hx hby d5_16 (pc' := 17) rfl rfl ?_
    refine g_icmp_eq X2 hx hby d5_17 (by decide) (pc' := 57) (by decide) (pn := 20) rfl (fun _ => ?_) (fun z => absurd z (by decide))
    refine g_aloadN X2 hx hby d5_57 (pc' := 58) rfl rfl rfl ?_
    exact g_retA (Q := (fun v h L => (∃ (b : Addr) (k : ClassId), v = some (.ref b) ∧ Fr n0 L ∧ Keep h0 h [] ∧ h0.size ≤ b ∧ Arv Z h b k .byte (3 : Int32) [.int (lat x0), .int (lat x1), .int (lat x2)] (.int 0) ∧ ¬ (255 : Int32) < x0 ∧ ¬ (255 : Int32) < x1 ∧ ¬ (255 : Int32) < x2) ∨ (∃ (b : Addr) (k : ClassId), v = some (.ref b) ∧ Fr n0 L ∧ Keep h0 h [] ∧ h0.size ≤ b ∧ Arv Z h b k .byte (6 : Int32) [.int (lob x0), .int (hib x0), .int (lob x1), .int (hib x1), .int (lob x2), .int (hib x2)] (.int 0)))) X2 hx hby d5_58 rfl hret rfl hlk (by decide) (by decide) (Or.inl ⟨b1, c1, rfl, N2, K2t, (Nat.le_trans (Keep.refl h0 []).1 (Nat.le_of_eq hb1.symm)), A2, l2_0, l2_1, l2_2⟩)
  · have N2 := Fr.app N0 N2q
    have O2 := O1o.keep K2 (allS (Nat.le_trans Z0 (Nat.le_of_eq hb1.symm)) all0)
    have K2t := K1.trans K2 (allS (Or.inr (Nat.le_trans (Keep.refl h0 []).1 (Nat.le_of_eq hb1.symm))) all0)
    have Z2 := Nat.le_trans Z1 K2.1
    have A2_q1 := A1_q1.keep K2 (ninS ne1_q1 nin0)
    have E2_b1 := A1x.keep K2
    show GoE p e below _ (T2.setTop (mkF m 12 #[.val (.ref q1), .val (.int (0 : Int32)), .val (.int (3 : Int32)), .val (.ref b1), .unset, .unset] [.int (0 : Int32)]))
    refine g_istore X2 hx hby d5_12 (pc' := 14) rfl (l' := #[.val (.ref q1), .val (.int (0 : Int32)), .val (.int (3 : Int32)), .val (.ref b1), .val (.int (0 : Int32)), .unset]) rfl ?_
    refine g_iload X2 hx hby d5_14 (pc' := 16) rfl rfl ?_
    refine g_iloadN X2 hx hby d5_16 (pc' := 17) rfl rfl ?_
    refine g_icmp_eq X2 hx hby d5_17 (by decide) (pc' := 57) (by decide) (pn := 20) rfl (fun z => absurd z (by decide)) (fun _ => ?_)
    refine g_aloadN X2 hx hby d5_20 (pc' := 21) rfl rfl rfl ?_
    refine g_iloadN X2 hx hby d5_21 (pc' := 22) rfl rfl ?_
    refine g_iloadN X2 hx hby d5_22 (pc' := 23) rfl rfl ?_
    refine g_callS X2 hx hZ hown (W := 0) (argsL := [.ref q1, .int (0 : Int32), .int (3 : Int32)]) (rest := []) hby d5_23 (pc' := 26) rfl (by rw [hml]; rfl) (w_30 hw) (w_31 hw) (w_24 hw) (w_32 hw) (by decide) (rmT3 l Z a0 hw [] q1 T2.heap n0 x0 x1 x2 _ A2_q1 Z2 cs fm SS O2) rfl (by decide) (by decide) (by decide) (by decide) rfl pd__28_5bCII_29_5bB rfl rfl (Nat.le_of_eq rfl) ?_
    rintro _ T3 L3 X3 (⟨b3, k3, rfl, N3q, K3, G3, A3⟩)
    · have N3 := Fr.app N2 N3q
      have nb3_q1 : q1 ≠ b3 := Nat.ne_of_lt (Nat.lt_of_lt_of_le A2_q1.lt G3)
      have nb3_b1 : b1 ≠ b3 := Nat.ne_of_lt (Nat.lt_of_lt_of_le E2_b1.lt G3)
      have O3 := O2.keep K3 all0
      have K3t := K2t.trans K3 all0
      have Z3 := Nat.le_trans Z2 K3.1
      have A3_q1 := A2_q1.keep K3 nin0
      have E3_b1 := E2_b1.keep K3
      show GoE p e below _ (T3.setTop (mkF m 26 #[.val (.ref q1), .val (.int (0 : Int32)), .val (.int (3 : Int32)), .val (.ref b1), .val (.int (0 : Int32)), .unset] [.ref b3]))
      refine g_astore X3 hx hby d5_26 (pc' := 28) rfl rfl (l' := #[.val (.ref q1), .val (.int (0 : Int32)), .val (.int (3 : Int32)), .val (.ref b1), .val (.int (0 : Int32)), .val (.ref b3)]) rfl ?_
      refine g_aload X3 hx hby d5_28 (pc' := 30) rfl rfl rfl ?_
      refine g_iload X3 hx hby d5_30 (pc' := 32) rfl rfl ?_
      refine g_callS X3 hx hZ hown (W := 0) (argsL := [.ref b3, .int (0 : Int32)]) (rest := []) hby d5_32 (pc' := 35) rfl (by rw [hml]; rfl) (w_46 hw) (w_47 hw) (w_24 hw) (w_48 hw) (by decide) (rmG30 l Z a0 hw [] b3 T3.heap n0 (lob x0) (hib x0) (lob x1) (hib x1) (lob x2) (hib x2) _ A3 cs fm SS O3) rfl (by decide) (by decide) (by decide) (by decide) rfl pd__28_5bBI_29C rfl rfl (Nat.le_of_eq rfl) ?_
      rintro _ T4 L4 X4 ⟨rfl, N4q, e4⟩
      have N4 := Fr.app N3 N4q
      show GoE p e below _ (T4.setTop (mkF m 35 #[.val (.ref q1), .val (.int (0 : Int32)), .val (.int (3 : Int32)), .val (.ref b1), .val (.int (0 : Int32)), .val (.ref b3)] [.int (gch (lob x0) (hib x0))]))
      refine g_sipush X4 hx hby d5_35 (pc' := 38) rfl (z := (255 : Int32)) rfl ?_
      refine g_icmp_gt X4 hx hby d5_38 (by decide) (pc' := 54) (by decide) (pn := 41) rfl (fun hc38_5 => ?_) (fun z => absurd z (fun z => z (by rw [own_gch hx0]; exact g2_0)))
      refine g_aload X4 hx hby d5_54 (pc' := 56) rfl rfl rfl ?_
      exact g_retA (Q := (fun v h L => (∃ (b : Addr) (k : ClassId), v = some (.ref b) ∧ Fr n0 L ∧ Keep h0 h [] ∧ h0.size ≤ b ∧ Arv Z h b k .byte (3 : Int32) [.int (lat x0), .int (lat x1), .int (lat x2)] (.int 0) ∧ ¬ (255 : Int32) < x0 ∧ ¬ (255 : Int32) < x1 ∧ ¬ (255 : Int32) < x2) ∨ (∃ (b : Addr) (k : ClassId), v = some (.ref b) ∧ Fr n0 L ∧ Keep h0 h [] ∧ h0.size ≤ b ∧ Arv Z h b k .byte (6 : Int32) [.int (lob x0), .int (hib x0), .int (lob x1), .int (hib x1), .int (lob x2), .int (hib x2)] (.int 0)))) X4 hx hby d5_56 rfl hret rfl hlk (by decide) (by decide) (by rw [e4]; exact (Or.inr ⟨b3, k3, rfl, N4, K3t, (Nat.le_trans K2t.1 G3), A3⟩))
  · have N2 := Fr.app N0 N2q
    have O2 := O1o.keep K2 (allS (Nat.le_trans Z0 (Nat.le_of_eq hb1.symm)) all0)
    have K2t := K1.trans K2 (allS (Or.inr (Nat.le_trans (Keep.refl h0 []).1 (Nat.le_of_eq hb1.symm))) all0)
    have Z2 := Nat.le_trans Z1 K2.1
    have A2_q1 := A1_q1.keep K2 (ninS ne1_q1 nin0)
    have E2_b1 := A1x.keep K2
    show GoE p e below _ (T2.setTop (mkF m 12 #[.val (.ref q1), .val (.int (0 : Int32)), .val (.int (3 : Int32)), .val (.ref b1), .unset, .unset] [.int (1 : Int32)]))
    refine g_istore X2 hx hby d5_12 (pc' := 14) rfl (l' := #[.val (.ref q1), .val (.int (0 : Int32)), .val (.int (3 : Int32)), .val (.ref b1), .val (.int (1 : Int32)), .unset]) rfl ?_
    refine g_iload X2 hx hby d5_14 (pc' := 16) rfl rfl ?_
    refine g_iloadN X2 hx hby d5_16 (pc' := 17) rfl rfl ?_
    refine g_icmp_eq X2 hx hby d5_17 (by decide) (pc' := 57) (by decide) (pn := 20) rfl (fun z => absurd z (by decide)) (fun _ => ?_)
    refine g_aloadN X2 hx hby d5_20 (pc' := 21) rfl rfl rfl ?_
    refine g_iloadN X2 hx hby d5_21 (pc' := 22) rfl rfl ?_
    refine g_iloadN X2 hx hby d5_22 (pc' := 23) rfl rfl ?_
    refine g_callS X2 hx hZ hown (W := 0) (argsL := [.ref q1, .int (0 : Int32), .int (3 : Int32)]) (rest := []) hby d5_23 (pc' := 26) rfl (by rw [hml]; rfl) (w_30 hw) (w_31 hw) (w_24 hw) (w_32 hw) (by decide) (rmT3 l Z a0 hw [] q1 T2.heap n0 x0 x1 x2 _ A2_q1 Z2 cs fm SS O2) rfl (by decide) (by decide) (by decide) (by decide) rfl pd__28_5bCII_29_5bB rfl rfl (Nat.le_of_eq rfl) ?_
    rintro _ T6 L6 X6 (⟨b6, k6, rfl, N6q, K6, G6, A6⟩)
    · have N6 := Fr.app N2 N6q
      have nb6_q1 : q1 ≠ b6 := Nat.ne_of_lt (Nat.lt_of_lt_of_le A2_q1.lt G6)
      have nb6_b1 : b1 ≠ b6 := Nat.ne_of_lt (Nat.lt_of_lt_of_le E2_b1.lt G6)
      have O6 := O2.keep K6 all0
      have K6t := K2t.trans K6 all0
      have Z6 := Nat.le_trans Z2 K6.1
      have A6_q1 := A2_q1.keep K6 nin0
      have E6_b1 := E2_b1.keep K6
      show GoE p e below _ (T6.setTop (mkF m 26 #[.val (.ref q1), .val (.int (0 : Int32)), .val (.int (3 : Int32)), .val (.ref b1), .val (.int (1 : Int32)), .unset] [.ref b6]))
      refine g_astore X6 hx hby d5_26 (pc' := 28) rfl rfl (l' := #[.val (.ref q1), .val (.int (0 : Int32)), .val (.int (3 : Int32)), .val (.ref b1), .val (.int (1 : Int32)), .val (.ref b6)]) rfl ?_
      refine g_aload X6 hx hby d5_28 (pc' := 30) rfl rfl rfl ?_
      refine g_iload X6 hx hby d5_30 (pc' := 32) rfl rfl ?_
      refine g_callS X6 hx hZ hown (W := 0) (argsL := [.ref b6, .int (1 : Int32)]) (rest := []) hby d5_32 (pc' := 35) rfl (by rw [hml]; rfl) (w_46 hw) (w_47 hw) (w_24 hw) (w_48 hw) (by decide) (rmG31 l Z a0 hw [] b6 T6.heap n0 (lob x0) (hib x0) (lob x1) (hib x1) (lob x2) (hib x2) _ A6 cs fm SS O6) rfl (by decide) (by decide) (by decide) (by decide) rfl pd__28_5bBI_29C rfl rfl (Nat.le_of_eq rfl) ?_
      rintro _ T7 L7 X7 ⟨rfl, N7q, e7⟩
      have N7 := Fr.app N6 N7q
      show GoE p e below _ (T7.setTop (mkF m 35 #[.val (.ref q1), .val (.int (0 : Int32)), .val (.int (3 : Int32)), .val (.ref b1), .val (.int (1 : Int32)), .val (.ref b6)] [.int (gch (lob x1) (hib x1))]))
      refine g_sipush X7 hx hby d5_35 (pc' := 38) rfl (z := (255 : Int32)) rfl ?_
      refine g_icmp_gt X7 hx hby d5_38 (by decide) (pc' := 54) (by decide) (pn := 41) rfl (fun hc38_8 => ?_) (fun z => absurd z (fun z => z (by rw [own_gch hx1]; exact g2_1)))
      refine g_aload X7 hx hby d5_54 (pc' := 56) rfl rfl rfl ?_
      exact g_retA (Q := (fun v h L => (∃ (b : Addr) (k : ClassId), v = some (.ref b) ∧ Fr n0 L ∧ Keep h0 h [] ∧ h0.size ≤ b ∧ Arv Z h b k .byte (3 : Int32) [.int (lat x0), .int (lat x1), .int (lat x2)] (.int 0) ∧ ¬ (255 : Int32) < x0 ∧ ¬ (255 : Int32) < x1 ∧ ¬ (255 : Int32) < x2) ∨ (∃ (b : Addr) (k : ClassId), v = some (.ref b) ∧ Fr n0 L ∧ Keep h0 h [] ∧ h0.size ≤ b ∧ Arv Z h b k .byte (6 : Int32) [.int (lob x0), .int (hib x0), .int (lob x1), .int (hib x1), .int (lob x2), .int (hib x2)] (.int 0)))) X7 hx hby d5_56 rfl hret rfl hlk (by decide) (by decide) (by rw [e7]; exact (Or.inr ⟨b6, k6, rfl, N7, K6t, (Nat.le_trans K2t.1 G6), A6⟩))
  · have N2 := Fr.app N0 N2q
    have O2 := O1o.keep K2 (allS (Nat.le_trans Z0 (Nat.le_of_eq hb1.symm)) all0)
    have K2t := K1.trans K2 (allS (Or.inr (Nat.le_trans (Keep.refl h0 []).1 (Nat.le_of_eq hb1.symm))) all0)
    have Z2 := Nat.le_trans Z1 K2.1
    have A2_q1 := A1_q1.keep K2 (ninS ne1_q1 nin0)
    have E2_b1 := A1x.keep K2
    show GoE p e below _ (T2.setTop (mkF m 12 #[.val (.ref q1), .val (.int (0 : Int32)), .val (.int (3 : Int32)), .val (.ref b1), .unset, .unset] [.int (2 : Int32)]))
    refine g_istore X2 hx hby d5_12 (pc' := 14) rfl (l' := #[.val (.ref q1), .val (.int (0 : Int32)), .val (.int (3 : Int32)), .val (.ref b1), .val (.int (2 : Int32)), .unset]) rfl ?_
    refine g_iload X2 hx hby d5_14 (pc' := 16) rfl rfl ?_
    refine g_iloadN X2 hx hby d5_16 (pc' := 17) rfl rfl ?_
    refine g_icmp_eq X2 hx hby d5_17 (by decide) (pc' := 57) (by decide) (pn := 20) rfl (fun z => absurd z (by decide)) (fun _ => ?_)
    refine g_aloadN X2 hx hby d5_20 (pc' := 21) rfl rfl rfl ?_
    refine g_iloadN X2 hx hby d5_21 (pc' := 22) rfl rfl ?_
    refine g_iloadN X2 hx hby d5_22 (pc' := 23) rfl rfl ?_
    refine g_callS X2 hx hZ hown (W := 0) (argsL := [.ref q1, .int (0 : Int32), .int (3 : Int32)]) (rest := []) hby d5_23 (pc' := 26) rfl (by rw [hml]; rfl) (w_30 hw) (w_31 hw) (w_24 hw) (w_32 hw) (by decide) (rmT3 l Z a0 hw [] q1 T2.heap n0 x0 x1 x2 _ A2_q1 Z2 cs fm SS O2) rfl (by decide) (by decide) (by decide) (by decide) rfl pd__28_5bCII_29_5bB rfl rfl (Nat.le_of_eq rfl) ?_
    rintro _ T9 L9 X9 (⟨b9, k9, rfl, N9q, K9, G9, A9⟩)
    · have N9 := Fr.app N2 N9q
      have nb9_q1 : q1 ≠ b9 := Nat.ne_of_lt (Nat.lt_of_lt_of_le A2_q1.lt G9)
      have nb9_b1 : b1 ≠ b9 := Nat.ne_of_lt (Nat.lt_of_lt_of_le E2_b1.lt G9)
      have O9 := O2.keep K9 all0
      have K9t := K2t.trans K9 all0
      have Z9 := Nat.le_trans Z2 K9.1
      have A9_q1 := A2_q1.keep K9 nin0
      have E9_b1 := E2_b1.keep K9
      show GoE p e below _ (T9.setTop (mkF m 26 #[.val (.ref q1), .val (.int (0 : Int32)), .val (.int (3 : Int32)), .val (.ref b1), .val (.int (2 : Int32)), .unset] [.ref b9]))
      refine g_astore X9 hx hby d5_26 (pc' := 28) rfl rfl (l' := #[.val (.ref q1), .val (.int (0 : Int32)), .val (.int (3 : Int32)), .val (.ref b1), .val (.int (2 : Int32)), .val (.ref b9)]) rfl ?_
      refine g_aload X9 hx hby d5_28 (pc' := 30) rfl rfl rfl ?_
      refine g_iload X9 hx hby d5_30 (pc' := 32) rfl rfl ?_
      refine g_callS X9 hx hZ hown (W := 0) (argsL := [.ref b9, .int (2 : Int32)]) (rest := []) hby d5_32 (pc' := 35) rfl (by rw [hml]; rfl) (w_46 hw) (w_47 hw) (w_24 hw) (w_48 hw) (by decide) (rmG32 l Z a0 hw [] b9 T9.heap n0 (lob x0) (hib x0) (lob x1) (hib x1) (lob x2) (hib x2) _ A9 cs fm SS O9) rfl (by decide) (by decide) (by decide) (by decide) rfl pd__28_5bBI_29C rfl rfl (Nat.le_of_eq rfl) ?_
      rintro _ T10 L10 X10 ⟨rfl, N10q, e10⟩
      have N10 := Fr.app N9 N10q
      show GoE p e below _ (T10.setTop (mkF m 35 #[.val (.ref q1), .val (.int (0 : Int32)), .val (.int (3 : Int32)), .val (.ref b1), .val (.int (2 : Int32)), .val (.ref b9)] [.int (gch (lob x2) (hib x2))]))
      refine g_sipush X10 hx hby d5_35 (pc' := 38) rfl (z := (255 : Int32)) rfl ?_
      refine g_icmp_gt X10 hx hby d5_38 (by decide) (pc' := 54) (by decide) (pn := 41) rfl (fun hc38_11 => ?_) (fun z => absurd z (fun z => z (by rw [own_gch hx2]; exact g2_2)))
      refine g_aload X10 hx hby d5_54 (pc' := 56) rfl rfl rfl ?_
      exact g_retA (Q := (fun v h L => (∃ (b : Addr) (k : ClassId), v = some (.ref b) ∧ Fr n0 L ∧ Keep h0 h [] ∧ h0.size ≤ b ∧ Arv Z h b k .byte (3 : Int32) [.int (lat x0), .int (lat x1), .int (lat x2)] (.int 0) ∧ ¬ (255 : Int32) < x0 ∧ ¬ (255 : Int32) < x1 ∧ ¬ (255 : Int32) < x2) ∨ (∃ (b : Addr) (k : ClassId), v = some (.ref b) ∧ Fr n0 L ∧ Keep h0 h [] ∧ h0.size ≤ b ∧ Arv Z h b k .byte (6 : Int32) [.int (lob x0), .int (hib x0), .int (lob x1), .int (hib x1), .int (lob x2), .int (hib x2)] (.int 0)))) X10 hx hby d5_56 rfl hret rfl hlk (by decide) (by decide) (by rw [e10]; exact (Or.inr ⟨b9, k9, rfl, N10, K9t, (Nat.le_trans K2t.1 G9), A9⟩))
theorem ef_rmF11 (q1 : Addr) (m : MethodId) : entryFrame m #[.ref q1, .int (1 : Int32)] 2 = mkF m 0 #[.val (.ref q1), .val (.int (1 : Int32))] [] := by
  first | (simp [entryFrame, mkF, argsToLocals, Value.category]; done) | rfl
set_option maxRecDepth 65536 in
set_option maxHeartbeats 40000000 in
theorem rmF11 (l : Launch) (Z : State) (a0 : Array Value) (hw : ∀ d ∈ tables_1, d.before a0 Z = true) (ws : List Jvm.Cond) (q1 : Addr) (h0 : Heap) (n0 : Nat) (kq : ClassId) (vs : List Value) (A_q : Arv Z h0 q1 kq .byte (1 : Int32) vs (.int 0)) :
    Ctr l Z ({ cls := "java/lang/StringUTF16", name := "coderFromArrayLen", desc := "([BI)B" } : Jvm.MethodName) jdk_52_method_15_code 2 (some .byte) ws ({ frames := 0, cells := 0, slots := 0, locals := 0 } : Room) #[.ref q1, .int (1 : Int32)] h0 (fun v h L => v = some (.int (0 : Int32)) ∧ Fr n0 L ∧ h = h0) := by
  refine Ctr.enter (Ls := #[.val (.ref q1), .val (.int (1 : Int32))]) (by decide +kernel) (fun m => ef_rmF11 q1 m) ?_
  intro p e s m below meth c T hx hby hml hown hnm hret hlk hZ hh X0 e0
  have N0 := Fr.nil n0
  refine g_iloadN X0 hx hby d12_0 (pc' := 1) rfl rfl ?_
  refine g_aloadN X0 hx hby d12_1 (pc' := 2) rfl rfl rfl ?_
  refine g_alen X0 hx hZ hby d12_2 (pc' := 3) rfl e0 A_q ?_
  refine g_isub X0 hx hby d12_3 (pc' := 4) rfl ?_
  refine g_eqI (b := (0 : Int32)) (by decide +kernel) ?_
  refine g_bipush X0 hx hby d12_4 (pc' := 6) rfl (z := (31 : Int32)) rfl ?_
  refine g_iushr X0 hx hby d12_6 (pc' := 7) rfl ?_
  refine g_eqI (b := (0 : Int32)) (by decide +kernel) ?_
  refine g_i2b X0 hx hby d12_7 (pc' := 8) rfl ?_
  refine g_eqI (b := (0 : Int32)) (by decide +kernel) ?_
  exact g_retN (Q := (fun v h L => v = some (.int (0 : Int32)) ∧ Fr n0 L ∧ h = h0)) (w := (0 : Int32)) X0 hx hby d12_8 hret (by simp) (by first | decide | rfl) hlk (by decide) (by decide) ⟨rfl, N0, e0⟩
theorem ef_rmF12 (q1 : Addr) (m : MethodId) : entryFrame m #[.ref q1, .int (1 : Int32)] 2 = mkF m 0 #[.val (.ref q1), .val (.int (1 : Int32))] [] := by
  first | (simp [entryFrame, mkF, argsToLocals, Value.category]; done) | rfl
set_option maxRecDepth 65536 in
set_option maxHeartbeats 40000000 in
theorem rmF12 (l : Launch) (Z : State) (a0 : Array Value) (hw : ∀ d ∈ tables_1, d.before a0 Z = true) (ws : List Jvm.Cond) (q1 : Addr) (h0 : Heap) (n0 : Nat) (kq : ClassId) (vs : List Value) (A_q : Arv Z h0 q1 kq .byte (2 : Int32) vs (.int 0)) :
    Ctr l Z ({ cls := "java/lang/StringUTF16", name := "coderFromArrayLen", desc := "([BI)B" } : Jvm.MethodName) jdk_52_method_15_code 2 (some .byte) ws ({ frames := 0, cells := 0, slots := 0, locals := 0 } : Room) #[.ref q1, .int (1 : Int32)] h0 (fun v h L => v = some (.int (1 : Int32)) ∧ Fr n0 L ∧ h = h0) := by
  refine Ctr.enter (Ls := #[.val (.ref q1), .val (.int (1 : Int32))]) (by decide +kernel) (fun m => ef_rmF12 q1 m) ?_
  intro p e s m below meth c T hx hby hml hown hnm hret hlk hZ hh X0 e0
  have N0 := Fr.nil n0
  refine g_iloadN X0 hx hby d12_0 (pc' := 1) rfl rfl ?_
  refine g_aloadN X0 hx hby d12_1 (pc' := 2) rfl rfl rfl ?_
  refine g_alen X0 hx hZ hby d12_2 (pc' := 3) rfl e0 A_q ?_
  refine g_isub X0 hx hby d12_3 (pc' := 4) rfl ?_
  refine g_eqI (b := (-1 : Int32)) (by decide +kernel) ?_
  refine g_bipush X0 hx hby d12_4 (pc' := 6) rfl (z := (31 : Int32)) rfl ?_
  refine g_iushr X0 hx hby d12_6 (pc' := 7) rfl ?_
  refine g_eqI (b := (1 : Int32)) (by decide +kernel) ?_
  refine g_i2b X0 hx hby d12_7 (pc' := 8) rfl ?_
  refine g_eqI (b := (1 : Int32)) (by decide +kernel) ?_
  exact g_retN (Q := (fun v h L => v = some (.int (1 : Int32)) ∧ Fr n0 L ∧ h = h0)) (w := (1 : Int32)) X0 hx hby d12_8 hret (by simp) (by first | decide | rfl) hlk (by decide) (by decide) ⟨rfl, N0, e0⟩
theorem ef_rmF22 (q1 : Addr) (m : MethodId) : entryFrame m #[.ref q1, .int (2 : Int32)] 2 = mkF m 0 #[.val (.ref q1), .val (.int (2 : Int32))] [] := by
  first | (simp [entryFrame, mkF, argsToLocals, Value.category]; done) | rfl
set_option maxRecDepth 65536 in
set_option maxHeartbeats 40000000 in
theorem rmF22 (l : Launch) (Z : State) (a0 : Array Value) (hw : ∀ d ∈ tables_1, d.before a0 Z = true) (ws : List Jvm.Cond) (q1 : Addr) (h0 : Heap) (n0 : Nat) (kq : ClassId) (vs : List Value) (A_q : Arv Z h0 q1 kq .byte (2 : Int32) vs (.int 0)) :
    Ctr l Z ({ cls := "java/lang/StringUTF16", name := "coderFromArrayLen", desc := "([BI)B" } : Jvm.MethodName) jdk_52_method_15_code 2 (some .byte) ws ({ frames := 0, cells := 0, slots := 0, locals := 0 } : Room) #[.ref q1, .int (2 : Int32)] h0 (fun v h L => v = some (.int (0 : Int32)) ∧ Fr n0 L ∧ h = h0) := by
  refine Ctr.enter (Ls := #[.val (.ref q1), .val (.int (2 : Int32))]) (by decide +kernel) (fun m => ef_rmF22 q1 m) ?_
  intro p e s m below meth c T hx hby hml hown hnm hret hlk hZ hh X0 e0
  have N0 := Fr.nil n0
  refine g_iloadN X0 hx hby d12_0 (pc' := 1) rfl rfl ?_
  refine g_aloadN X0 hx hby d12_1 (pc' := 2) rfl rfl rfl ?_
  refine g_alen X0 hx hZ hby d12_2 (pc' := 3) rfl e0 A_q ?_
  refine g_isub X0 hx hby d12_3 (pc' := 4) rfl ?_
  refine g_eqI (b := (0 : Int32)) (by decide +kernel) ?_
  refine g_bipush X0 hx hby d12_4 (pc' := 6) rfl (z := (31 : Int32)) rfl ?_
  refine g_iushr X0 hx hby d12_6 (pc' := 7) rfl ?_
  refine g_eqI (b := (0 : Int32)) (by decide +kernel) ?_
  refine g_i2b X0 hx hby d12_7 (pc' := 8) rfl ?_
  refine g_eqI (b := (0 : Int32)) (by decide +kernel) ?_
  exact g_retN (Q := (fun v h L => v = some (.int (0 : Int32)) ∧ Fr n0 L ∧ h = h0)) (w := (0 : Int32)) X0 hx hby d12_8 hret (by simp) (by first | decide | rfl) hlk (by decide) (by decide) ⟨rfl, N0, e0⟩
theorem ef_rmF24 (q1 : Addr) (m : MethodId) : entryFrame m #[.ref q1, .int (2 : Int32)] 2 = mkF m 0 #[.val (.ref q1), .val (.int (2 : Int32))] [] := by
  first | (simp [entryFrame, mkF, argsToLocals, Value.category]; done) | rfl
set_option maxRecDepth 65536 in
set_option maxHeartbeats 40000000 in
theorem rmF24 (l : Launch) (Z : State) (a0 : Array Value) (hw : ∀ d ∈ tables_1, d.before a0 Z = true) (ws : List Jvm.Cond) (q1 : Addr) (h0 : Heap) (n0 : Nat) (kq : ClassId) (vs : List Value) (A_q : Arv Z h0 q1 kq .byte (4 : Int32) vs (.int 0)) :
    Ctr l Z ({ cls := "java/lang/StringUTF16", name := "coderFromArrayLen", desc := "([BI)B" } : Jvm.MethodName) jdk_52_method_15_code 2 (some .byte) ws ({ frames := 0, cells := 0, slots := 0, locals := 0 } : Room) #[.ref q1, .int (2 : Int32)] h0 (fun v h L => v = some (.int (1 : Int32)) ∧ Fr n0 L ∧ h = h0) := by
  refine Ctr.enter (Ls := #[.val (.ref q1), .val (.int (2 : Int32))]) (by decide +kernel) (fun m => ef_rmF24 q1 m) ?_
  intro p e s m below meth c T hx hby hml hown hnm hret hlk hZ hh X0 e0
  have N0 := Fr.nil n0
  refine g_iloadN X0 hx hby d12_0 (pc' := 1) rfl rfl ?_
  refine g_aloadN X0 hx hby d12_1 (pc' := 2) rfl rfl rfl ?_
  refine g_alen X0 hx hZ hby d12_2 (pc' := 3) rfl e0 A_q ?_
  refine g_isub X0 hx hby d12_3 (pc' := 4) rfl ?_
  refine g_eqI (b := (-2 : Int32)) (by decide +kernel) ?_
  refine g_bipush X0 hx hby d12_4 (pc' := 6) rfl (z := (31 : Int32)) rfl ?_
  refine g_iushr X0 hx hby d12_6 (pc' := 7) rfl ?_
  refine g_eqI (b := (1 : Int32)) (by decide +kernel) ?_
  refine g_i2b X0 hx hby d12_7 (pc' := 8) rfl ?_
  refine g_eqI (b := (1 : Int32)) (by decide +kernel) ?_
  exact g_retN (Q := (fun v h L => v = some (.int (1 : Int32)) ∧ Fr n0 L ∧ h = h0)) (w := (1 : Int32)) X0 hx hby d12_8 hret (by simp) (by first | decide | rfl) hlk (by decide) (by decide) ⟨rfl, N0, e0⟩
theorem ef_rmF33 (q1 : Addr) (m : MethodId) : entryFrame m #[.ref q1, .int (3 : Int32)] 2 = mkF m 0 #[.val (.ref q1), .val (.int (3 : Int32))] [] := by
  first | (simp [entryFrame, mkF, argsToLocals, Value.category]; done) | rfl
set_option maxRecDepth 65536 in
set_option maxHeartbeats 40000000 in
theorem rmF33 (l : Launch) (Z : State) (a0 : Array Value) (hw : ∀ d ∈ tables_1, d.before a0 Z = true) (ws : List Jvm.Cond) (q1 : Addr) (h0 : Heap) (n0 : Nat) (kq : ClassId) (vs : List Value) (A_q : Arv Z h0 q1 kq .byte (3 : Int32) vs (.int 0)) :
    Ctr l Z ({ cls := "java/lang/StringUTF16", name := "coderFromArrayLen", desc := "([BI)B" } : Jvm.MethodName) jdk_52_method_15_code 2 (some .byte) ws ({ frames := 0, cells := 0, slots := 0, locals := 0 } : Room) #[.ref q1, .int (3 : Int32)] h0 (fun v h L => v = some (.int (0 : Int32)) ∧ Fr n0 L ∧ h = h0) := by
  refine Ctr.enter (Ls := #[.val (.ref q1), .val (.int (3 : Int32))]) (by decide +kernel) (fun m => ef_rmF33 q1 m) ?_
  intro p e s m below meth c T hx hby hml hown hnm hret hlk hZ hh X0 e0
  have N0 := Fr.nil n0
  refine g_iloadN X0 hx hby d12_0 (pc' := 1) rfl rfl ?_
  refine g_aloadN X0 hx hby d12_1 (pc' := 2) rfl rfl rfl ?_
  refine g_alen X0 hx hZ hby d12_2 (pc' := 3) rfl e0 A_q ?_
  refine g_isub X0 hx hby d12_3 (pc' := 4) rfl ?_
  refine g_eqI (b := (0 : Int32)) (by decide +kernel) ?_
  refine g_bipush X0 hx hby d12_4 (pc' := 6) rfl (z := (31 : Int32)) rfl ?_
  refine g_iushr X0 hx hby d12_6 (pc' := 7) rfl ?_
  refine g_eqI (b := (0 : Int32)) (by decide +kernel) ?_
  refine g_i2b X0 hx hby d12_7 (pc' := 8) rfl ?_
  refine g_eqI (b := (0 : Int32)) (by decide +kernel) ?_
  exact g_retN (Q := (fun v h L => v = some (.int (0 : Int32)) ∧ Fr n0 L ∧ h = h0)) (w := (0 : Int32)) X0 hx hby d12_8 hret (by simp) (by first | decide | rfl) hlk (by decide) (by decide) ⟨rfl, N0, e0⟩
theorem ef_rmF36 (q1 : Addr) (m : MethodId) : entryFrame m #[.ref q1, .int (3 : Int32)] 2 = mkF m 0 #[.val (.ref q1), .val (.int (3 : Int32))] [] := by
  first | (simp [entryFrame, mkF, argsToLocals, Value.category]; done) | rfl
set_option maxRecDepth 65536 in
set_option maxHeartbeats 40000000 in
theorem rmF36 (l : Launch) (Z : State) (a0 : Array Value) (hw : ∀ d ∈ tables_1, d.before a0 Z = true) (ws : List Jvm.Cond) (q1 : Addr) (h0 : Heap) (n0 : Nat) (kq : ClassId) (vs : List Value) (A_q : Arv Z h0 q1 kq .byte (6 : Int32) vs (.int 0)) :
    Ctr l Z ({ cls := "java/lang/StringUTF16", name := "coderFromArrayLen", desc := "([BI)B" } : Jvm.MethodName) jdk_52_method_15_code 2 (some .byte) ws ({ frames := 0, cells := 0, slots := 0, locals := 0 } : Room) #[.ref q1, .int (3 : Int32)] h0 (fun v h L => v = some (.int (1 : Int32)) ∧ Fr n0 L ∧ h = h0) := by
  refine Ctr.enter (Ls := #[.val (.ref q1), .val (.int (3 : Int32))]) (by decide +kernel) (fun m => ef_rmF36 q1 m) ?_
  intro p e s m below meth c T hx hby hml hown hnm hret hlk hZ hh X0 e0
  have N0 := Fr.nil n0
  refine g_iloadN X0 hx hby d12_0 (pc' := 1) rfl rfl ?_
  refine g_aloadN X0 hx hby d12_1 (pc' := 2) rfl rfl rfl ?_
  refine g_alen X0 hx hZ hby d12_2 (pc' := 3) rfl e0 A_q ?_
  refine g_isub X0 hx hby d12_3 (pc' := 4) rfl ?_
  refine g_eqI (b := (-3 : Int32)) (by decide +kernel) ?_
  refine g_bipush X0 hx hby d12_4 (pc' := 6) rfl (z := (31 : Int32)) rfl ?_
  refine g_iushr X0 hx hby d12_6 (pc' := 7) rfl ?_
  refine g_eqI (b := (1 : Int32)) (by decide +kernel) ?_
  refine g_i2b X0 hx hby d12_7 (pc' := 8) rfl ?_
  refine g_eqI (b := (1 : Int32)) (by decide +kernel) ?_
  exact g_retN (Q := (fun v h L => v = some (.int (1 : Int32)) ∧ Fr n0 L ∧ h = h0)) (w := (1 : Int32)) X0 hx hby d12_8 hret (by simp) (by first | decide | rfl) hlk (by decide) (by decide) ⟨rfl, N0, e0⟩
theorem ef_rmS41 (q1 : Addr) (q2 : Addr) (m : MethodId) : entryFrame m #[.ref q1, .ref q2, .int (0 : Int32), .int (1 : Int32), .null] 6 = mkF m 0 #[.val (.ref q1), .val (.ref q2), .val (.int (0 : Int32)), .val (.int (1 : Int32)), .val (.null), .unset] [] := by
  first | (simp [entryFrame, mkF, argsToLocals, Value.category]; done) | rfl
set_option maxRecDepth 65536 in
set_option maxHeartbeats 40000000 in
theorem rmS41 (l : Launch) (Z : State) (a0 : Array Value) (hw : ∀ d ∈ tables_1, d.before a0 Z = true) (ws : List Jvm.Cond) (q1 : Addr) (q2 : Addr) (h0 : Heap) (n0 : Nat) (x0 : Int32) (kc : ClassId) (A_c : Arv Z h0 q2 kc .char (1 : Int32) [.int x0] (.int 0)) (hx0 : CH x0) (w1 w2 : Value) (Z0 : n0 ≤ h0.size) (E_a : Exa Z h0 q1 "java/lang/String") (F_v : Fld Z h0 q1 "java/lang/String" "value" "[B" (w1)) (F_c : Fld Z h0 q1 "java/lang/String" "coder" "B" (w2)) (n_c : q2 ≠ q1) (g_a : n0 ≤ q1) (cs : Int32) (fm : Value) (SS : SSt Z cs fm) (O0 : Old Z n0 h0) :
    Ctr l Z ({ cls := "java/lang/String", name := "<init>", desc := "([CIILjava/lang/Void;)V" } : Jvm.MethodName) jdk_42_method_149_code 6 none ws ({ frames := 4, cells := 2, slots := 9, locals := 57 } : Room) #[.ref q1, .ref q2, .int (0 : Int32), .int (1 : Int32), .null] h0 (fun v h L => (∃ (b : Addr) (k : ClassId), v = none ∧ Fr n0 L ∧ Keep h0 h [q1] ∧ Exa Z h q1 "java/lang/String" ∧ Fld Z h q1 "java/lang/String" "value" "[B" (.ref b) ∧ Fld Z h q1 "java/lang/String" "coder" "B" (.int (0 : Int32)) ∧ b ≠ q1 ∧ Arv Z h b k .byte (1 : Int32) [.int (lat x0)] (.int 0) ∧ ¬ (255 : Int32) < x0) ∨ (∃ (b : Addr) (k : ClassId), v = none ∧ Fr n0 L ∧ Keep h0 h [q1] ∧ Exa Z h q1 "java/lang/String" ∧ Fld Z h q1 "java/lang/String" "value" "[B" (.ref b) ∧ Fld Z h q1 "java/lang/String" "coder" "B" (.int (1 : Int32)) ∧ b ≠ q1 ∧ Arv Z h b k .byte (2 : Int32) [.int (lob x0), .int (hib x0)] (.int 0))) := by
  refine Ctr.enter (Ls := #[.val (.ref q1), .val (.ref q2), .val (.int (0 : Int32)), .val (.int (1 : Int32)), .val (.null), .unset]) (by decide +kernel) (fun m => ef_rmS41 q1 q2 m) ?_
  intro p e s m below meth c T hx hby hml hown hnm hret hlk hZ hh X0 e0
  have N0 := Fr.nil n0
  refine g_aloadN X0 hx hby d3_0 (pc' := 1) rfl rfl rfl ?_
  obtain ⟨T1, X1, e1, st1⟩ := initO X0 hx hZ hown (w_18 hw) (w_19 hw) (w_20 hw) e0 (g := (mkF m 1 #[.val (.ref q1), .val (.ref q2), .val (.int (0 : Int32)), .val (.int (1 : Int32)), .val (.null), .unset] [.ref q1])) rfl (by rw [hml]; rfl) rfl (hb hby d3_1) (by decide) (W := 0) (by show 2 * 0 + _ ≤ _; exact Nat.le_of_eq rfl) (by decide)
  refine GoE.pull (b := T1.setTop (mkF m 4 #[.val (.ref q1), .val (.ref q2), .val (.int (0 : Int32)), .val (.int (1 : Int32)), .val (.null), .unset] [])) ?_ st1
  refine g_iloadN X1 hx hby d3_4 (pc' := 5) rfl rfl ?_
  refine g_if_ne X1 hx hby d3_5 (by decide) (pc' := 27) (by decide) (pn := 8) rfl (fun _ => ?_) (fun z => absurd z (by decide))
  refine g_getS X1 hx hZ hown hby d3_27 (pc' := 30) rfl (w_21 hw) e1 (SS.2.1.ext O0.2) ?_
  intro T2 X2 e2
  refine g_if_eq X2 hx hby d3_30 (by decide) (pc' := 58) (by decide) (pn := 33) rfl (fun z => absurd z SS.1) (fun hc30_3 => ?_)
  refine g_aloadN X2 hx hby d3_33 (pc' := 34) rfl rfl rfl ?_
  refine g_iloadN X2 hx hby d3_34 (pc' := 35) rfl rfl ?_
  refine g_iloadN X2 hx hby d3_35 (pc' := 36) rfl rfl ?_
  refine g_callS X2 hx hZ hown (W := 0) (argsL := [.ref q2, .int (0 : Int32), .int (1 : Int32)]) (rest := []) hby d3_36 (pc' := 39) rfl (by rw [hml]; rfl) (w_22 hw) (w_23 hw) (w_24 hw) (w_25 hw) (by decide) (rmC31 l Z a0 hw [] q2 h0 n0 x0 _ A_c hx0 Z0 cs fm SS O0) e2 (by decide) (by decide) (by decide) (by decide) rfl pd__28_5bCII_29_5bB rfl rfl (Nat.le_of_eq rfl) ?_
  rintro _ T4 L4 X4 (⟨b4, k4, rfl, N4q, K4, G4, A4, l4_0⟩ | ⟨b4, k4, rfl, N4q, K4, G4, A4⟩)
  · have N4 := Fr.app N0 N4q
    have nb4_q1 : q1 ≠ b4 := Nat.ne_of_lt (Nat.lt_of_lt_of_le E_a.lt G4)
    have nb4_q2 : q2 ≠ b4 := Nat.ne_of_lt (Nat.lt_of_lt_of_le A_c.lt G4)
    have O4 := O0.keep K4 all0
    have Z4 := Nat.le_trans Z0 K4.1
    have E4_q1 := E_a.keep K4
    have A4_q2 := A_c.keep K4 nin0
    have K4t := (Keep.refl h0 [q1]).trans K4 all0
    have F4_q1_value := F_v.keep K4 nin0
    have F4_q1_coder := F_c.keep K4 nin0
    show GoE p e below _ (T4.setTop (mkF m 39 #[.val (.ref q1), .val (.ref q2), .val (.int (0 : Int32)), .val (.int (1 : Int32)), .val (.null), .unset] [.ref b4]))
    refine g_astore X4 hx hby d3_39 (pc' := 41) rfl rfl (l' := #[.val (.ref q1), .val (.ref q2), .val (.int (0 : Int32)), .val (.int (1 : Int32)), .val (.null), .val (.ref b4)]) rfl ?_
    refine g_aloadN X4 hx hby d3_41 (pc' := 42) rfl rfl rfl ?_
    refine g_aload X4 hx hby d3_42 (pc' := 44) rfl rfl rfl ?_
    refine g_iloadN X4 hx hby d3_44 (pc' := 45) rfl rfl ?_
    refine g_callS X4 hx hZ hown (W := 1) (argsL := [.ref b4, .int (1 : Int32)]) (rest := [.ref q1]) hby d3_45 (pc' := 48) rfl (by rw [hml]; rfl) (w_49 hw) (w_50 hw) (w_24 hw) (w_51 hw) (by decide) (rmF11 l Z a0 hw [] b4 T4.heap n0 _ _ A4) rfl (by decide) (by decide) (by decide) (by decide) rfl pd__28_5bBI_29B rfl rfl (Nat.le_of_eq rfl) ?_
    rintro _ T5 L5 X5 ⟨rfl, N5q, e5⟩
    have N5 := Fr.app N4 N5q
    show GoE p e below _ (T5.setTop (mkF m 48 #[.val (.ref q1), .val (.ref q2), .val (.int (0 : Int32)), .val (.int (1 : Int32)), .val (.null), .val (.ref b4)] [.int (0 : Int32), .ref q1]))
    refine g_put X5 hx hZ hown hby d3_48 (pc' := 51) rfl (w_52 hw) e5 F4_q1_coder E4_q1 (Or.inr ⟨(w_53 hw), rfl, hnm⟩) (w_9 hw) (ty := .byte) (by decide) rfl rfl ?_
    intro T6 X6 W6
    have N6 := Fr.snoc X6 N5 g_a
    have O6 := O4.wr W6 g_a
    have Z6 : n0 ≤ T6.heap.size := (W6.size ▸ Z4)
    have E6_q1 := E4_q1.wr W6
    have A6_q2 := A4_q2.other W6 n_c
    have K6 := K4t.wr W6 (Or.inl (List.mem_of_getElem? (i := 0) rfl))
    have F6_q1_value := F4_q1_value.other W6 (Or.inr (slot_ne (Or.inr (w_55 hw)) (Or.inr (w_53 hw)) (by decide) (t := (.array .byte)) (t' := .byte) (by decide) (by decide)))
    have F6_q1_coder := F4_q1_coder.same W6
    have A6_b4 := A4.other W6 nb4_q1.symm
    refine g_aloadN X6 hx hby d3_51 (pc' := 52) rfl rfl rfl ?_
    refine g_aload X6 hx hby d3_52 (pc' := 54) rfl rfl rfl ?_
    refine g_put X6 hx hZ hown hby d3_54 (pc' := 57) rfl (w_54 hw) rfl F6_q1_value E6_q1 (Or.inr ⟨(w_55 hw), rfl, hnm⟩) (w_9 hw) (ty := (.array .byte)) (by decide) rfl rfl ?_
    intro T7 X7 W7
    have N7 := Fr.snoc X7 N6 g_a
    have O7 := O6.wr W7 g_a
    have Z7 : n0 ≤ T7.heap.size := (W7.size ▸ Z6)
    have E7_q1 := E6_q1.wr W7
    have A7_q2 := A6_q2.other W7 n_c
    have K7 := K6.wr W7 (Or.inl (List.mem_of_getElem? (i := 0) rfl))
    have F7_q1_value := F6_q1_value.same W7
    have F7_q1_coder := F6_q1_coder.other W7 (Or.inr (slot_ne (Or.inr (w_53 hw)) (Or.inr (w_55 hw)) (by decide) (t := .byte) (t' := (.array .byte)) (by decide) (by decide)))
    have A7_b4 := A6_b4.other W7 nb4_q1.symm
    exact g_retV (Q := (fun v h L => (∃ (b : Addr) (k : ClassId), v = none ∧ Fr n0 L ∧ Keep h0 h [q1] ∧ Exa Z h q1 "java/lang/String" ∧ Fld Z h q1 "java/lang/String" "value" "[B" (.ref b) ∧ Fld Z h q1 "java/lang/String" "coder" "B" (.int (0 : Int32)) ∧ b ≠ q1 ∧ Arv Z h b k .byte (1 : Int32) [.int (lat x0)] (.int 0) ∧ ¬ (255 : Int32) < x0) ∨ (∃ (b : Addr) (k : ClassId), v = none ∧ Fr n0 L ∧ Keep h0 h [q1] ∧ Exa Z h q1 "java/lang/String" ∧ Fld Z h q1 "java/lang/String" "value" "[B" (.ref b) ∧ Fld Z h q1 "java/lang/String" "coder" "B" (.int (1 : Int32)) ∧ b ≠ q1 ∧ Arv Z h b k .byte (2 : Int32) [.int (lob x0), .int (hib x0)] (.int 0)))) X7 hx hby d3_57 hret hlk (by decide) (by decide) (Or.inl ⟨b4, k4, rfl, N7, K7, E7_q1, F7_q1_value, F7_q1_coder, nb4_q1.symm, A7_b4, l4_0⟩)
  · have N4 := Fr.app N0 N4q
    have nb4_q1 : q1 ≠ b4 := Nat.ne_of_lt (Nat.lt_of_lt_of_le E_a.lt G4)
    have nb4_q2 : q2 ≠ b4 := Nat.ne_of_lt (Nat.lt_of_lt_of_le A_c.lt G4)
    have O4 := O0.keep K4 all0
    have Z4 := Nat.le_trans Z0 K4.1
    have E4_q1 := E_a.keep K4
    have A4_q2 := A_c.keep K4 nin0
    have K4t := (Keep.refl h0 [q1]).trans K4 all0
    have F4_q1_value := F_v.keep K4 nin0
    have F4_q1_coder := F_c.keep K4 nin0
    show GoE p e below _ (T4.setTop (mkF m 39 #[.val (.ref q1), .val (.ref q2), .val (.int (0 : Int32)), .val (.int (1 : Int32)), .val (.null), .unset] [.ref b4]))
    refine g_astore X4 hx hby d3_39 (pc' := 41) rfl rfl (l' := #[.val (.ref q1), .val (.ref q2), .val (.int (0 : Int32)), .val (.int (1 : Int32)), .val (.null), .val (.ref b4)]) rfl ?_
    refine g_aloadN X4 hx hby d3_41 (pc' := 42) rfl rfl rfl ?_
    refine g_aload X4 hx hby d3_42 (pc' := 44) rfl rfl rfl ?_
    refine g_iloadN X4 hx hby d3_44 (pc' := 45) rfl rfl ?_
    refine g_callS X4 hx hZ hown (W := 1) (argsL := [.ref b4, .int (1 : Int32)]) (rest := [.ref q1]) hby d3_45 (pc' := 48) rfl (by rw [hml]; rfl) (w_49 hw) (w_50 hw) (w_24 hw) (w_51 hw) (by decide) (rmF12 l Z a0 hw [] b4 T4.heap n0 _ _ A4) rfl (by decide) (by decide) (by decide) (by decide) rfl pd__28_5bBI_29B rfl rfl (Nat.le_of_eq rfl) ?_
    rintro _ T8 L8 X8 ⟨rfl, N8q, e8⟩
    have N8 := Fr.app N4 N8q
    show GoE p e below _ (T8.setTop (mkF m 48 #[.val (.ref q1), .val (.ref q2), .val (.int (0 : Int32)), .val (.int (1 : Int32)), .val (.null), .val (.ref b4)] [.int (1 : Int32), .ref q1]))
    refine g_put X8 hx hZ hown hby d3_48 (pc' := 51) rfl (w_52 hw) e8 F4_q1_coder E4_q1 (Or.inr ⟨(w_53 hw), rfl, hnm⟩) (w_9 hw) (ty := .byte) (by decide) rfl rfl ?_
    intro T9 X9 W9
    have N9 := Fr.snoc X9 N8 g_a
    have O9 := O4.wr W9 g_a
    have Z9 : n0 ≤ T9.heap.size := (W9.size ▸ Z4)
    have E9_q1 := E4_q1.wr W9
    have A9_q2 := A4_q2.other W9 n_c
    have K9 := K4t.wr W9 (Or.inl (List.mem_of_getElem? (i := 0) rfl))
    have F9_q1_value := F4_q1_value.other W9 (Or.inr (slot_ne (Or.inr (w_55 hw)) (Or.inr (w_53 hw)) (by decide) (t := (.array .byte)) (t' := .byte) (by decide) (by decide)))
    have F9_q1_coder := F4_q1_coder.same W9
    have A9_b4 := A4.other W9 nb4_q1.symm
    refine g_aloadN X9 hx hby d3_51 (pc' := 52) rfl rfl rfl ?_
    refine g_aload X9 hx hby d3_52 (pc' := 54) rfl rfl rfl ?_
    refine g_put X9 hx hZ hown hby d3_54 (pc' := 57) rfl (w_54 hw) rfl F9_q1_value E9_q1 (Or.inr ⟨(w_55 hw), rfl, hnm⟩) (w_9 hw) (ty := (.array .byte)) (by decide) rfl rfl ?_
    intro T10 X10 W10
    have N10 := Fr.snoc X10 N9 g_a
    have O10 := O9.wr W10 g_a
    have Z10 : n0 ≤ T10.heap.size := (W10.size ▸ Z9)
    have E10_q1 := E9_q1.wr W10
    have A10_q2 := A9_q2.other W10 n_c
    have K10 := K9.wr W10 (Or.inl (List.mem_of_getElem? (i := 0) rfl))
    have F10_q1_value := F9_q1_value.same W10
    have F10_q1_coder := F9_q1_coder.other W10 (Or.inr (slot_ne (Or.inr (w_53 hw)) (Or.inr (w_55 hw)) (by decide) (t := .byte) (t' := (.array .byte)) (by decide) (by decide)))
    have A10_b4 := A9_b4.other W10 nb4_q1.symm
    exact g_retV (Q := (fun v h L => (∃ (b : Addr) (k : ClassId), v = none ∧ Fr n0 L ∧ Keep h0 h [q1] ∧ Exa Z h q1 "java/lang/String" ∧ Fld Z h q1 "java/lang/String" "value" "[B" (.ref b) ∧ Fld Z h q1 "java/lang/String" "coder" "B" (.int (0 : Int32)) ∧ b ≠ q1 ∧ Arv Z h b k .byte (1 : Int32) [.int (lat x0)] (.int 0) ∧ ¬ (255 : Int32) < x0) ∨ (∃ (b : Addr) (k : ClassId), v = none ∧ Fr n0 L ∧ Keep h0 h [q1] ∧ Exa Z h q1 "java/lang/String" ∧ Fld Z h q1 "java/lang/String" "value" "[B" (.ref b) ∧ Fld Z h q1 "java/lang/String" "coder" "B" (.int (1 : Int32)) ∧ b ≠ q1 ∧ Arv Z h b k .byte (2 : Int32) [.int (lob x0), .int (hib x0)] (.int 0)))) X10 hx hby d3_57 hret hlk (by decide) (by decide) (Or.inr ⟨b4, k4, rfl, N10, K10, E10_q1, F10_q1_value, F10_q1_coder, nb4_q1.symm, A10_b4⟩)
theorem ef_rmS42 (q1 : Addr) (q2 : Addr) (m : MethodId) : entryFrame m #[.ref q1, .ref q2, .int (0 : Int32), .int (2 : Int32), .null] 6 = mkF m 0 #[.val (.ref q1), .val (.ref q2), .val (.int (0 : Int32)), .val (.int (2 : Int32)), .val (.null), .unset] [] := by
  first | (simp [entryFrame, mkF, argsToLocals, Value.category]; done) | rfl
set_option maxRecDepth 65536 in
set_option maxHeartbeats 40000000 in
theorem rmS42 (l : Launch) (Z : State) (a0 : Array Value) (hw : ∀ d ∈ tables_1, d.before a0 Z = true) (ws : List Jvm.Cond) (q1 : Addr) (q2 : Addr) (h0 : Heap) (n0 : Nat) (x0 x1 : Int32) (kc : ClassId) (A_c : Arv Z h0 q2 kc .char (2 : Int32) [.int x0, .int x1] (.int 0)) (hx0 : CH x0) (hx1 : CH x1) (w1 w2 : Value) (Z0 : n0 ≤ h0.size) (E_a : Exa Z h0 q1 "java/lang/String") (F_v : Fld Z h0 q1 "java/lang/String" "value" "[B" (w1)) (F_c : Fld Z h0 q1 "java/lang/String" "coder" "B" (w2)) (n_c : q2 ≠ q1) (g_a : n0 ≤ q1) (cs : Int32) (fm : Value) (SS : SSt Z cs fm) (O0 : Old Z n0 h0) :
    Ctr l Z ({ cls := "java/lang/String", name := "<init>", desc := "([CIILjava/lang/Void;)V" } : Jvm.MethodName) jdk_42_method_149_code 6 none ws ({ frames := 4, cells := 2, slots := 9, locals := 57 } : Room) #[.ref q1, .ref q2, .int (0 : Int32), .int (2 : Int32), .null] h0 (fun v h L => (∃ (b : Addr) (k : ClassId), v = none ∧ Fr n0 L ∧ Keep h0 h [q1] ∧ Exa Z h q1 "java/lang/String" ∧ Fld Z h q1 "java/lang/String" "value" "[B" (.ref b) ∧ Fld Z h q1 "java/lang/String" "coder" "B" (.int (0 : Int32)) ∧ b ≠ q1 ∧ Arv Z h b k .byte (2 : Int32) [.int (lat x0), .int (lat x1)] (.int 0) ∧ ¬ (255 : Int32) < x0 ∧ ¬ (255 : Int32) < x1) ∨ (∃ (b : Addr) (k : ClassId), v = none ∧ Fr n0 L ∧ Keep h0 h [q1] ∧ Exa Z h q1 "java/lang/String" ∧ Fld Z h q1 "java/lang/String" "value" "[B" (.ref b) ∧ Fld Z h q1 "java/lang/String" "coder" "B" (.int (1 : Int32)) ∧ b ≠ q1 ∧ Arv Z h b k .byte (4 : Int32) [.int (lob x0), .int (hib x0), .int (lob x1), .int (hib x1)] (.int 0))) := by
  refine Ctr.enter (Ls := #[.val (.ref q1), .val (.ref q2), .val (.int (0 : Int32)), .val (.int (2 : Int32)), .val (.null), .unset]) (by decide +kernel) (fun m => ef_rmS42 q1 q2 m) ?_
  intro p e s m below meth c T hx hby hml hown hnm hret hlk hZ hh X0 e0
  have N0 := Fr.nil n0
  refine g_aloadN X0 hx hby d3_0 (pc' := 1) rfl rfl rfl ?_
  obtain ⟨T1, X1, e1, st1⟩ := initO X0 hx hZ hown (w_18 hw) (w_19 hw) (w_20 hw) e0 (g := (mkF m 1 #[.val (.ref q1), .val (.ref q2), .val (.int (0 : Int32)), .val (.int (2 : Int32)), .val (.null), .unset] [.ref q1])) rfl (by rw [hml]; rfl) rfl (hb hby d3_1) (by decide) (W := 0) (by show 2 * 0 + _ ≤ _; exact Nat.le_of_eq rfl) (by decide)
  refine GoE.pull (b := T1.setTop (mkF m 4 #[.val (.ref q1), .val (.ref q2), .val (.int (0 : Int32)), .val (.int (2 : Int32)), .val (.null), .unset] [])) ?_ st1
  refine g_iloadN X1 hx hby d3_4 (pc' := 5) rfl rfl ?_
  refine g_if_ne X1 hx hby d3_5 (by decide) (pc' := 27) (by decide) (pn := 8) rfl (fun _ => ?_) (fun z => absurd z (by decide))
  refine g_getS X1 hx hZ hown hby d3_27 (pc' := 30) rfl (w_21 hw) e1 (SS.2.1.ext O0.2) ?_
  intro T2 X2 e2
  refine g_if_eq X2 hx hby d3_30 (by decide) (pc' := 58) (by decide) (pn := 33) rfl (fun z => absurd z SS.1) (fun hc30_3 => ?_)
  refine g_aloadN X2 hx hby d3_33 (pc' := 34) rfl rfl rfl ?_
  refine g_iloadN X2 hx hby d3_34 (pc' := 35) rfl rfl ?_
  refine g_iloadN X2 hx hby d3_35 (pc' := 36) rfl rfl ?_
  refine g_callS X2 hx hZ hown (W := 0) (argsL := [.ref q2, .int (0 : Int32), .int (2 : Int32)]) (rest := []) hby d3_36 (pc' := 39) rfl (by rw [hml]; rfl) (w_22 hw) (w_23 hw) (w_24 hw) (w_25 hw) (by decide) (rmC32 l Z a0 hw [] q2 h0 n0 x0 x1 _ A_c hx0 hx1 Z0 cs fm SS O0) e2 (by decide) (by decide) (by decide) (by decide) rfl pd__28_5bCII_29_5bB rfl rfl (Nat.le_of_eq rfl) ?_
  rintro _ T4 L4 X4 (⟨b4, k4, rfl, N4q, K4, G4, A4, l4_0, l4_1⟩ | ⟨b4, k4, rfl, N4q, K4, G4, A4⟩)
  · have N4 := Fr.app N0 N4q
    have nb4_q1 : q1 ≠ b4 := Nat.ne_of_lt (Nat.lt_of_lt_of_le E_a.lt G4)
    have nb4_q2 : q2 ≠ b4 := Nat.ne_of_lt (Nat.lt_of_lt_of_le A_c.lt G4)
    have O4 := O0.keep K4 all0
    have Z4 := Nat.le_trans Z0 K4.1
    have E4_q1 := E_a.keep K4
    have A4_q2 := A_c.keep K4 nin0
    have K4t := (Keep.refl h0 [q1]).trans K4 all0
    have F4_q1_value := F_v.keep K4 nin0
    have F4_q1_coder := F_c.keep K4 nin0
    show GoE p e below _ (T4.setTop (mkF m 39 #[.val (.ref q1), .val (.ref q2), .val (.int (0 : Int32)), .val (.int (2 : Int32)), .val (.null), .unset] [.ref b4]))
    refine g_astore X4 hx hby d3_39 (pc' := 41) rfl rfl (l' := #[.val (.ref q1), .val (.ref q2), .val (.int (0 : Int32)), .val (.int (2 : Int32)), .val (.null), .val (.ref b4)]) rfl ?_
    refine g_aloadN X4 hx hby d3_41 (pc' := 42) rfl rfl rfl ?_
    refine g_aload X4 hx hby d3_42 (pc' := 44) rfl rfl rfl ?_
    refine g_iloadN X4 hx hby d3_44 (pc' := 45) rfl rfl ?_
    refine g_callS X4 hx hZ hown (W := 1) (argsL := [.ref b4, .int (2 : Int32)]) (rest := [.ref q1]) hby d3_45 (pc' := 48) rfl (by rw [hml]; rfl) (w_49 hw) (w_50 hw) (w_24 hw) (w_51 hw) (by decide) (rmF22 l Z a0 hw [] b4 T4.heap n0 _ _ A4) rfl (by decide) (by decide) (by decide) (by decide) rfl pd__28_5bBI_29B rfl rfl (Nat.le_of_eq rfl) ?_
    rintro _ T5 L5 X5 ⟨rfl, N5q, e5⟩
    have N5 := Fr.app N4 N5q
    show GoE p e below _ (T5.setTop (mkF m 48 #[.val (.ref q1), .val (.ref q2), .val (.int (0 : Int32)), .val (.int (2 : Int32)), .val (.null), .val (.ref b4)] [.int (0 : Int32), .ref q1]))
    refine g_put X5 hx hZ hown hby d3_48 (pc' := 51) rfl (w_52 hw) e5 F4_q1_coder E4_q1 (Or.inr ⟨(w_53 hw), rfl, hnm⟩) (w_9 hw) (ty := .byte) (by decide) rfl rfl ?_
    intro T6 X6 W6
    have N6 := Fr.snoc X6 N5 g_a
    have O6 := O4.wr W6 g_a
    have Z6 : n0 ≤ T6.heap.size := (W6.size ▸ Z4)
    have E6_q1 := E4_q1.wr W6
    have A6_q2 := A4_q2.other W6 n_c
    have K6 := K4t.wr W6 (Or.inl (List.mem_of_getElem? (i := 0) rfl))
    have F6_q1_value := F4_q1_value.other W6 (Or.inr (slot_ne (Or.inr (w_55 hw)) (Or.inr (w_53 hw)) (by decide) (t := (.array .byte)) (t' := .byte) (by decide) (by decide)))
    have F6_q1_coder := F4_q1_coder.same W6
    have A6_b4 := A4.other W6 nb4_q1.symm
    refine g_aloadN X6 hx hby d3_51 (pc' := 52) rfl rfl rfl ?_
    refine g_aload X6 hx hby d3_52 (pc' := 54) rfl rfl rfl ?_
    refine g_put X6 hx hZ hown hby d3_54 (pc' := 57) rfl (w_54 hw) rfl F6_q1_value E6_q1 (Or.inr ⟨(w_55 hw), rfl, hnm⟩) (w_9 hw) (ty := (.array .byte)) (by decide) rfl rfl ?_
    intro T7 X7 W7
    have N7 := Fr.snoc X7 N6 g_a
    have O7 := O6.wr W7 g_a
    have Z7 : n0 ≤ T7.heap.size := (W7.size ▸ Z6)
    have E7_q1 := E6_q1.wr W7
    have A7_q2 := A6_q2.other W7 n_c
    have K7 := K6.wr W7 (Or.inl (List.mem_of_getElem? (i := 0) rfl))
    have F7_q1_value := F6_q1_value.same W7
    have F7_q1_coder := F6_q1_coder.other W7 (Or.inr (slot_ne (Or.inr (w_53 hw)) (Or.inr (w_55 hw)) (by decide) (t := .byte) (t' := (.array .byte)) (by decide) (by decide)))
    have A7_b4 := A6_b4.other W7 nb4_q1.symm
    exact g_retV (Q := (fun v h L => (∃ (b : Addr) (k : ClassId), v = none ∧ Fr n0 L ∧ Keep h0 h [q1] ∧ Exa Z h q1 "java/lang/String" ∧ Fld Z h q1 "java/lang/String" "value" "[B" (.ref b) ∧ Fld Z h q1 "java/lang/String" "coder" "B" (.int (0 : Int32)) ∧ b ≠ q1 ∧ Arv Z h b k .byte (2 : Int32) [.int (lat x0), .int (lat x1)] (.int 0) ∧ ¬ (255 : Int32) < x0 ∧ ¬ (255 : Int32) < x1) ∨ (∃ (b : Addr) (k : ClassId), v = none ∧ Fr n0 L ∧ Keep h0 h [q1] ∧ Exa Z h q1 "java/lang/String" ∧ Fld Z h q1 "java/lang/String" "value" "[B" (.ref b) ∧ Fld Z h q1 "java/lang/String" "coder" "B" (.int (1 : Int32)) ∧ b ≠ q1 ∧ Arv Z h b k .byte (4 : Int32) [.int (lob x0), .int (hib x0), .int (lob x1), .int (hib x1)] (.int 0)))) X7 hx hby d3_57 hret hlk (by decide) (by decide) (Or.inl ⟨b4, k4, rfl, N7, K7, E7_q1, F7_q1_value, F7_q1_coder, nb4_q1.symm, A7_b4, l4_0, l4_1⟩)
  · have N4 := Fr.app N0 N4q
    have nb4_q1 : q1 ≠ b4 := Nat.ne_of_lt (Nat.lt_of_lt_of_le E_a.lt G4)
    have nb4_q2 : q2 ≠ b4 := Nat.ne_of_lt (Nat.lt_of_lt_of_le A_c.lt G4)
    have O4 := O0.keep K4 all0
    have Z4 := Nat.le_trans Z0 K4.1
    have E4_q1 := E_a.keep K4
    have A4_q2 := A_c.keep K4 nin0
    have K4t := (Keep.refl h0 [q1]).trans K4 all0
    have F4_q1_value := F_v.keep K4 nin0
    have F4_q1_coder := F_c.keep K4 nin0
    show GoE p e below _ (T4.setTop (mkF m 39 #[.val (.ref q1), .val (.ref q2), .val (.int (0 : Int32)), .val (.int (2 : Int32)), .val (.null), .unset] [.ref b4]))
    refine g_astore X4 hx hby d3_39 (pc' := 41) rfl rfl (l' := #[.val (.ref q1), .val (.ref q2), .val (.int (0 : Int32)), .val (.int (2 : Int32)), .val (.null), .val (.ref b4)]) rfl ?_
    refine g_aloadN X4 hx hby d3_41 (pc' := 42) rfl rfl rfl ?_
    refine g_aload X4 hx hby d3_42 (pc' := 44) rfl rfl rfl ?_
    refine g_iloadN X4 hx hby d3_44 (pc' := 45) rfl rfl ?_
    refine g_callS X4 hx hZ hown (W := 1) (argsL := [.ref b4, .int (2 : Int32)]) (rest := [.ref q1]) hby d3_45 (pc' := 48) rfl (by rw [hml]; rfl) (w_49 hw) (w_50 hw) (w_24 hw) (w_51 hw) (by decide) (rmF24 l Z a0 hw [] b4 T4.heap n0 _ _ A4) rfl (by decide) (by decide) (by decide) (by decide) rfl pd__28_5bBI_29B rfl rfl (Nat.le_of_eq rfl) ?_
    rintro _ T8 L8 X8 ⟨rfl, N8q, e8⟩
    have N8 := Fr.app N4 N8q
    show GoE p e below _ (T8.setTop (mkF m 48 #[.val (.ref q1), .val (.ref q2), .val (.int (0 : Int32)), .val (.int (2 : Int32)), .val (.null), .val (.ref b4)] [.int (1 : Int32), .ref q1]))
    refine g_put X8 hx hZ hown hby d3_48 (pc' := 51) rfl (w_52 hw) e8 F4_q1_coder E4_q1 (Or.inr ⟨(w_53 hw), rfl, hnm⟩) (w_9 hw) (ty := .byte) (by decide) rfl rfl ?_
    intro T9 X9 W9
    have N9 := Fr.snoc X9 N8 g_a
    have O9 := O4.wr W9 g_a
    have Z9 : n0 ≤ T9.heap.size := (W9.size ▸ Z4)
    have E9_q1 := E4_q1.wr W9
    have A9_q2 := A4_q2.other W9 n_c
    have K9 := K4t.wr W9 (Or.inl (List.mem_of_getElem? (i := 0) rfl))
    have F9_q1_value := F4_q1_value.other W9 (Or.inr (slot_ne (Or.inr (w_55 hw)) (Or.inr (w_53 hw)) (by decide) (t := (.array .byte)) (t' := .byte) (by decide) (by decide)))
    have F9_q1_coder := F4_q1_coder.same W9
    have A9_b4 := A4.other W9 nb4_q1.symm
    refine g_aloadN X9 hx hby d3_51 (pc' := 52) rfl rfl rfl ?_
    refine g_aload X9 hx hby d3_52 (pc' := 54) rfl rfl rfl ?_
    refine g_put X9 hx hZ hown hby d3_54 (pc' := 57) rfl (w_54 hw) rfl F9_q1_value E9_q1 (Or.inr ⟨(w_55 hw), rfl, hnm⟩) (w_9 hw) (ty := (.array .byte)) (by decide) rfl rfl ?_
    intro T10 X10 W10
    have N10 := Fr.snoc X10 N9 g_a
    have O10 := O9.wr W10 g_a
    have Z10 : n0 ≤ T10.heap.size := (W10.size ▸ Z9)
    have E10_q1 := E9_q1.wr W10
    have A10_q2 := A9_q2.other W10 n_c
    have K10 := K9.wr W10 (Or.inl (List.mem_of_getElem? (i := 0) rfl))
    have F10_q1_value := F9_q1_value.same W10
    have F10_q1_coder := F9_q1_coder.other W10 (Or.inr (slot_ne (Or.inr (w_53 hw)) (Or.inr (w_55 hw)) (by decide) (t := .byte) (t' := (.array .byte)) (by decide) (by decide)))
    have A10_b4 := A9_b4.other W10 nb4_q1.symm
    exact g_retV (Q := (fun v h L => (∃ (b : Addr) (k : ClassId), v = none ∧ Fr n0 L ∧ Keep h0 h [q1] ∧ Exa Z h q1 "java/lang/String" ∧ Fld Z h q1 "java/lang/String" "value" "[B" (.ref b) ∧ Fld Z h q1 "java/lang/String" "coder" "B" (.int (0 : Int32)) ∧ b ≠ q1 ∧ Arv Z h b k .byte (2 : Int32) [.int (lat x0), .int (lat x1)] (.int 0) ∧ ¬ (255 : Int32) < x0 ∧ ¬ (255 : Int32) < x1) ∨ (∃ (b : Addr) (k : ClassId), v = none ∧ Fr n0 L ∧ Keep h0 h [q1] ∧ Exa Z h q1 "java/lang/String" ∧ Fld Z h q1 "java/lang/String" "value" "[B" (.ref b) ∧ Fld Z h q1 "java/lang/String" "coder" "B" (.int (1 : Int32)) ∧ b ≠ q1 ∧ Arv Z h b k .byte (4 : Int32) [.int (lob x0), .int (hib x0), .int (lob x1), .int (hib x1)] (.int 0)))) X10 hx hby d3_57 hret hlk (by decide) (by decide) (Or.inr ⟨b4, k4, rfl, N10, K10, E10_q1, F10_q1_value, F10_q1_coder, nb4_q1.symm, A10_b4⟩)
theorem ef_rmS43 (q1 : Addr) (q2 : Addr) (m : MethodId) : entryFrame m #[.ref q1, .ref q2, .int (0 : Int32), .int (3 : Int32), .null] 6 = mkF m 0 #[.val (.ref q1), .val (.ref q2), .val (.int (0 : Int32)), .val (.int (3 : Int32)), .val (.null), .unset] [] := by
  first | (simp [entryFrame, mkF, argsToLocals, Value.category]; done) | rfl
set_option maxRecDepth 65536 in
set_option maxHeartbeats 40000000 in
theorem rmS43 (l : Launch) (Z : State) (a0 : Array Value) (hw : ∀ d ∈ tables_1, d.before a0 Z = true) (ws : List Jvm.Cond) (q1 : Addr) (q2 : Addr) (h0 : Heap) (n0 : Nat) (x0 x1 x2 : Int32) (kc : ClassId) (A_c : Arv Z h0 q2 kc .char (3 : Int32) [.int x0, .int x1, .int x2] (.int 0)) (hx0 : CH x0) (hx1 : CH x1) (hx2 : CH x2) (w1 w2 : Value) (Z0 : n0 ≤ h0.size) (E_a : Exa Z h0 q1 "java/lang/String") (F_v : Fld Z h0 q1 "java/lang/String" "value" "[B" (w1)) (F_c : Fld Z h0 q1 "java/lang/String" "coder" "B" (w2)) (n_c : q2 ≠ q1) (g_a : n0 ≤ q1) (cs : Int32) (fm : Value) (SS : SSt Z cs fm) (O0 : Old Z n0 h0) :
    Ctr l Z ({ cls := "java/lang/String", name := "<init>", desc := "([CIILjava/lang/Void;)V" } : Jvm.MethodName) jdk_42_method_149_code 6 none ws ({ frames := 4, cells := 2, slots := 9, locals := 57 } : Room) #[.ref q1, .ref q2, .int (0 : Int32), .int (3 : Int32), .null] h0 (fun v h L => (∃ (b : Addr) (k : ClassId), v = none ∧ Fr n0 L ∧ Keep h0 h [q1] ∧ Exa Z h q1 "java/lang/String" ∧ Fld Z h q1 "java/lang/String" "value" "[B" (.ref b) ∧ Fld Z h q1 "java/lang/String" "coder" "B" (.int (0 : Int32)) ∧ b ≠ q1 ∧ Arv Z h b k .byte (3 : Int32) [.int (lat x0), .int (lat x1), .int (lat x2)] (.int 0) ∧ ¬ (255 : Int32) < x0 ∧ ¬ (255 : Int32) < x1 ∧ ¬ (255 : Int32) < x2) ∨ (∃ (b : Addr) (k : ClassId), v = none ∧ Fr n0 L ∧ Keep h0 h [q1] ∧ Exa Z h q1 "java/lang/String" ∧ Fld Z h q1 "java/lang/String" "value" "[B" (.ref b) ∧ Fld Z h q1 "java/lang/String" "coder" "B" (.int (1 : Int32)) ∧ b ≠ q1 ∧ Arv Z h b k .byte (6 : Int32) [.int (lob x0), .int (hib x0), .int (lob x1), .int (hib x1), .int (lob x2), .int (hib x2)] (.int 0))) := by
  refine Ctr.enter (Ls := #[.val (.ref q1), .val (.ref q2), .val (.int (0 : Int32)), .val (.int (3 : Int32)), .val (.null), .unset]) (by decide +kernel) (fun m => ef_rmS43 q1 q2 m) ?_
  intro p e s m below meth c T hx hby hml hown hnm hret hlk hZ hh X0 e0
  have N0 := Fr.nil n0
  refine g_aloadN X0 hx hby d3_0 (pc' := 1) rfl rfl rfl ?_
  obtain ⟨T1, X1, e1, st1⟩ := initO X0 hx hZ hown (w_18 hw) (w_19 hw) (w_20 hw) e0 (g := (mkF m 1 #[.val (.ref q1), .val (.ref q2), .val (.int (0 : Int32)), .val (.int (3 : Int32)), .val (.null), .unset] [.ref q1])) rfl (by rw [hml]; rfl) rfl (hb hby d3_1) (by decide) (W := 0) (by show 2 * 0 + _ ≤ _; exact Nat.le_of_eq rfl) (by decide)
  refine GoE.pull (b := T1.setTop (mkF m 4 #[.val (.ref q1), .val (.ref q2), .val (.int (0 : Int32)), .val (.int (3 : Int32)), .val (.null), .unset] [])) ?_ st1
  refine g_iloadN X1 hx hby d3_4 (pc' := 5) rfl rfl ?_
  refine g_if_ne X1 hx hby d3_5 (by decide) (pc' := 27) (by decide) (pn := 8) rfl (fun _ => ?_) (fun z => absurd z (by decide))
  refine g_getS X1 hx hZ hown hby d3_27 (pc' := 30) rfl (w_21 hw) e1 (SS.2.1.ext O0.2) ?_
  intro T2 X2 e2
  refine g_if_eq X2 hx hby d3_30 (by decide) (pc' := 58) (by decide) (pn := 33) rfl (fun z => absurd z SS.1) (fun hc30_3 => ?_)
  refine g_aloadN X2 hx hby d3_33 (pc' := 34) rfl rfl rfl ?_
  refine g_iloadN X2 hx hby d3_34 (pc' := 35) rfl rfl ?_
  refine g_iloadN X2 hx hby d3_35 (pc' := 36) rfl rfl ?_
  refine g_callS X2 hx hZ hown (W := 0) (argsL := [.ref q2, .int (0 : Int32), .int (3 : Int32)]) (rest := []) hby d3_36 (pc' := 39) rfl (by rw [hml]; rfl) (w_22 hw) (w_23 hw) (w_24 hw) (w_25 hw) (by decide) (rmC33 l Z a0 hw [] q2 h0 n0 x0 x1 x2 _ A_c hx0 hx1 hx2 Z0 cs fm SS O0) e2 (by decide) (by decide) (by decide) (by decide) rfl pd__28_5bCII_29_5bB rfl rfl (Nat.le_of_eq rfl) ?_
  rintro _ T4 L4 X4 (⟨b4, k4, rfl, N4q, K4, G4, A4, l4_0, l4_1, l4_2⟩ | ⟨b4, k4, rfl, N4q, K4, G4, A4⟩)
  · have N4 := Fr.app N0 N4q
    have nb4_q1 : q1 ≠ b4 := Nat.ne_of_lt (Nat.lt_of_lt_of_le E_a.lt G4)
    have nb4_q2 : q2 ≠ b4 := Nat.ne_of_lt (Nat.lt_of_lt_of_le A_c.lt G4)
    have O4 := O0.keep K4 all0
    have Z4 := Nat.le_trans Z0 K4.1
    have E4_q1 := E_a.keep K4
    have A4_q2 := A_c.keep K4 nin0
    have K4t := (Keep.refl h0 [q1]).trans K4 all0
    have F4_q1_value := F_v.keep K4 nin0
    have F4_q1_coder := F_c.keep K4 nin0
    show GoE p e below _ (T4.setTop (mkF m 39 #[.val (.ref q1), .val (.ref q2), .val (.int (0 : Int32)), .val (.int (3 : Int32)), .val (.null), .unset] [.ref b4]))
    refine g_astore X4 hx hby d3_39 (pc' := 41) rfl rfl (l' := #[.val (.ref q1), .val (.ref q2), .val (.int (0 : Int32)), .val (.int (3 : Int32)), .val (.null), .val (.ref b4)]) rfl ?_
    refine g_aloadN X4 hx hby d3_41 (pc' := 42) rfl rfl rfl ?_
    refine g_aload X4 hx hby d3_42 (pc' := 44) rfl rfl rfl ?_
    refine g_iloadN X4 hx hby d3_44 (pc' := 45) rfl rfl ?_
    refine g_callS X4 hx hZ hown (W := 1) (argsL := [.ref b4, .int (3 : Int32)]) (rest := [.ref q1]) hby d3_45 (pc' := 48) rfl (by rw [hml]; rfl) (w_49 hw) (w_50 hw) (w_24 hw) (w_51 hw) (by decide) (rmF33 l Z a0 hw [] b4 T4.heap n0 _ _ A4) rfl (by decide) (by decide) (by decide) (by decide) rfl pd__28_5bBI_29B rfl rfl (Nat.le_of_eq rfl) ?_
    rintro _ T5 L5 X5 ⟨rfl, N5q, e5⟩
    have N5 := Fr.app N4 N5q
    show GoE p e below _ (T5.setTop (mkF m 48 #[.val (.ref q1), .val (.ref q2), .val (.int (0 : Int32)), .val (.int (3 : Int32)), .val (.null), .val (.ref b4)] [.int (0 : Int32), .ref q1]))
    refine g_put X5 hx hZ hown hby d3_48 (pc' := 51) rfl (w_52 hw) e5 F4_q1_coder E4_q1 (Or.inr ⟨(w_53 hw), rfl, hnm⟩) (w_9 hw) (ty := .byte) (by decide) rfl rfl ?_
    intro T6 X6 W6
    have N6 := Fr.snoc X6 N5 g_a
    have O6 := O4.wr W6 g_a
    have Z6 : n0 ≤ T6.heap.size := (W6.size ▸ Z4)
    have E6_q1 := E4_q1.wr W6
    have A6_q2 := A4_q2.other W6 n_c
    have K6 := K4t.wr W6 (Or.inl (List.mem_of_getElem? (i := 0) rfl))
    have F6_q1_value := F4_q1_value.other W6 (Or.inr (slot_ne (Or.inr (w_55 hw)) (Or.inr (w_53 hw)) (by decide) (t := (.array .byte)) (t' := .byte) (by decide) (by decide)))
    have F6_q1_coder := F4_q1_coder.same W6
    have A6_b4 := A4.other W6 nb4_q1.symm
    refine g_aloadN X6 hx hby d3_51 (pc' := 52) rfl rfl rfl ?_
    refine g_aload X6 hx hby d3_52 (pc' := 54) rfl rfl rfl ?_
    refine g_put X6 hx hZ hown hby d3_54 (pc' := 57) rfl (w_54 hw) rfl F6_q1_value E6_q1 (Or.inr ⟨(w_55 hw), rfl, hnm⟩) (w_9 hw) (ty := (.array .byte)) (by decide) rfl rfl ?_
    intro T7 X7 W7
    have N7 := Fr.snoc X7 N6 g_a
    have O7 := O6.wr W7 g_a
    have Z7 : n0 ≤ T7.heap.size := (W7.size ▸ Z6)
    have E7_q1 := E6_q1.wr W7
    have A7_q2 := A6_q2.other W7 n_c
    have K7 := K6.wr W7 (Or.inl (List.mem_of_getElem? (i := 0) rfl))
    have F7_q1_value := F6_q1_value.same W7
    have F7_q1_coder := F6_q1_coder.other W7 (Or.inr (slot_ne (Or.inr (w_53 hw)) (Or.inr (w_55 hw)) (by decide) (t := .byte) (t' := (.array .byte)) (by decide) (by decide)))
    have A7_b4 := A6_b4.other W7 nb4_q1.symm
    exact g_retV (Q := (fun v h L => (∃ (b : Addr) (k : ClassId), v = none ∧ Fr n0 L ∧ Keep h0 h [q1] ∧ Exa Z h q1 "java/lang/String" ∧ Fld Z h q1 "java/lang/String" "value" "[B" (.ref b) ∧ Fld Z h q1 "java/lang/String" "coder" "B" (.int (0 : Int32)) ∧ b ≠ q1 ∧ Arv Z h b k .byte (3 : Int32) [.int (lat x0), .int (lat x1), .int (lat x2)] (.int 0) ∧ ¬ (255 : Int32) < x0 ∧ ¬ (255 : Int32) < x1 ∧ ¬ (255 : Int32) < x2) ∨ (∃ (b : Addr) (k : ClassId), v = none ∧ Fr n0 L ∧ Keep h0 h [q1] ∧ Exa Z h q1 "java/lang/String" ∧ Fld Z h q1 "java/lang/String" "value" "[B" (.ref b) ∧ Fld Z h q1 "java/lang/String" "coder" "B" (.int (1 : Int32)) ∧ b ≠ q1 ∧ Arv Z h b k .byte (6 : Int32) [.int (lob x0), .int (hib x0), .int (lob x1), .int (hib x1), .int (lob x2), .int (hib x2)] (.int 0)))) X7 hx hby d3_57 hret hlk (by decide) (by decide) (Or.inl ⟨b4, k4, rfl, N7, K7, E7_q1, F7_q1_value, F7_q1_coder, nb4_q1.symm, A7_b4, l4_0, l4_1, l4_2⟩)
  · have N4 := Fr.app N0 N4q
    have nb4_q1 : q1 ≠ b4 := Nat.ne_of_lt (Nat.lt_of_lt_of_le E_a.lt G4)
    have nb4_q2 : q2 ≠ b4 := Nat.ne_of_lt (Nat.lt_of_lt_of_le A_c.lt G4)
    have O4 := O0.keep K4 all0
    have Z4 := Nat.le_trans Z0 K4.1
    have E4_q1 := E_a.keep K4
    have A4_q2 := A_c.keep K4 nin0
    have K4t := (Keep.refl h0 [q1]).trans K4 all0
    have F4_q1_value := F_v.keep K4 nin0
    have F4_q1_coder := F_c.keep K4 nin0
    show GoE p e below _ (T4.setTop (mkF m 39 #[.val (.ref q1), .val (.ref q2), .val (.int (0 : Int32)), .val (.int (3 : Int32)), .val (.null), .unset] [.ref b4]))
    refine g_astore X4 hx hby d3_39 (pc' := 41) rfl rfl (l' := #[.val (.ref q1), .val (.ref q2), .val (.int (0 : Int32)), .val (.int (3 : Int32)), .val (.null), .val (.ref b4)]) rfl ?_
    refine g_aloadN X4 hx hby d3_41 (pc' := 42) rfl rfl rfl ?_
    refine g_aload X4 hx hby d3_42 (pc' := 44) rfl rfl rfl ?_
    refine g_iloadN X4 hx hby d3_44 (pc' := 45) rfl rfl ?_
    refine g_callS X4 hx hZ hown (W := 1) (argsL := [.ref b4, .int (3 : Int32)]) (rest := [.ref q1]) hby d3_45 (pc' := 48) rfl (by rw [hml]; rfl) (w_49 hw) (w_50 hw) (w_24 hw) (w_51 hw) (by decide) (rmF36 l Z a0 hw [] b4 T4.heap n0 _ _ A4) rfl (by decide) (by decide) (by decide) (by decide) rfl pd__28_5bBI_29B rfl rfl (Nat.le_of_eq rfl) ?_
    rintro _ T8 L8 X8 ⟨rfl, N8q, e8⟩
    have N8 := Fr.app N4 N8q
    show GoE p e below _ (T8.setTop (mkF m 48 #[.val (.ref q1), .val (.ref q2), .val (.int (0 : Int32)), .val (.int (3 : Int32)), .val (.null), .val (.ref b4)] [.int (1 : Int32), .ref q1]))
    refine g_put X8 hx hZ hown hby d3_48 (pc' := 51) rfl (w_52 hw) e8 F4_q1_coder E4_q1 (Or.inr ⟨(w_53 hw), rfl, hnm⟩) (w_9 hw) (ty := .byte) (by decide) rfl rfl ?_
    intro T9 X9 W9
    have N9 := Fr.snoc X9 N8 g_a
    have O9 := O4.wr W9 g_a
    have Z9 : n0 ≤ T9.heap.size := (W9.size ▸ Z4)
    have E9_q1 := E4_q1.wr W9
    have A9_q2 := A4_q2.other W9 n_c
    have K9 := K4t.wr W9 (Or.inl (List.mem_of_getElem? (i := 0) rfl))
    have F9_q1_value := F4_q1_value.other W9 (Or.inr (slot_ne (Or.inr (w_55 hw)) (Or.inr (w_53 hw)) (by decide) (t := (.array .byte)) (t' := .byte) (by decide) (by decide)))
    have F9_q1_coder := F4_q1_coder.same W9
    have A9_b4 := A4.other W9 nb4_q1.symm
    refine g_aloadN X9 hx hby d3_51 (pc' := 52) rfl rfl rfl ?_
    refine g_aload X9 hx hby d3_52 (pc' := 54) rfl rfl rfl ?_
    refine g_put X9 hx hZ hown hby d3_54 (pc' := 57) rfl (w_54 hw) rfl F9_q1_value E9_q1 (Or.inr ⟨(w_55 hw), rfl, hnm⟩) (w_9 hw) (ty := (.array .byte)) (by decide) rfl rfl ?_
    intro T10 X10 W10
    have N10 := Fr.snoc X10 N9 g_a
    have O10 := O9.wr W10 g_a
    have Z10 : n0 ≤ T10.heap.size := (W10.size ▸ Z9)
    have E10_q1 := E9_q1.wr W10
    have A10_q2 := A9_q2.other W10 n_c
    have K10 := K9.wr W10 (Or.inl (List.mem_of_getElem? (i := 0) rfl))
    have F10_q1_value := F9_q1_value.same W10
    have F10_q1_coder := F9_q1_coder.other W10 (Or.inr (slot_ne (Or.inr (w_53 hw)) (Or.inr (w_55 hw)) (by decide) (t := .byte) (t' := (.array .byte)) (by decide) (by decide)))
    have A10_b4 := A9_b4.other W10 nb4_q1.symm
    exact g_retV (Q := (fun v h L => (∃ (b : Addr) (k : ClassId), v = none ∧ Fr n0 L ∧ Keep h0 h [q1] ∧ Exa Z h q1 "java/lang/String" ∧ Fld Z h q1 "java/lang/String" "value" "[B" (.ref b) ∧ Fld Z h q1 "java/lang/String" "coder" "B" (.int (0 : Int32)) ∧ b ≠ q1 ∧ Arv Z h b k .byte (3 : Int32) [.int (lat x0), .int (lat x1), .int (lat x2)] (.int 0) ∧ ¬ (255 : Int32) < x0 ∧ ¬ (255 : Int32) < x1 ∧ ¬ (255 : Int32) < x2) ∨ (∃ (b : Addr) (k : ClassId), v = none ∧ Fr n0 L ∧ Keep h0 h [q1] ∧ Exa Z h q1 "java/lang/String" ∧ Fld Z h q1 "java/lang/String" "value" "[B" (.ref b) ∧ Fld Z h q1 "java/lang/String" "coder" "B" (.int (1 : Int32)) ∧ b ≠ q1 ∧ Arv Z h b k .byte (6 : Int32) [.int (lob x0), .int (hib x0), .int (lob x1), .int (hib x1), .int (lob x2), .int (hib x2)] (.int 0)))) X10 hx hby d3_57 hret hlk (by decide) (by decide) (Or.inr ⟨b4, k4, rfl, N10, K10, E10_q1, F10_q1_value, F10_q1_coder, nb4_q1.symm, A10_b4⟩)
theorem ef_rmS11 (q1 : Addr) (q2 : Addr) (m : MethodId) : entryFrame m #[.ref q1, .ref q2] 2 = mkF m 0 #[.val (.ref q1), .val (.ref q2)] [] := by
  first | (simp [entryFrame, mkF, argsToLocals, Value.category]; done) | rfl
set_option maxRecDepth 65536 in
set_option maxHeartbeats 40000000 in
theorem rmS11 (l : Launch) (Z : State) (a0 : Array Value) (hw : ∀ d ∈ tables_1, d.before a0 Z = true) (ws : List Jvm.Cond) (q1 : Addr) (q2 : Addr) (h0 : Heap) (n0 : Nat) (x0 : Int32) (kc : ClassId) (A_c : Arv Z h0 q2 kc .char (1 : Int32) [.int x0] (.int 0)) (hx0 : CH x0) (w1 w2 : Value) (Z0 : n0 ≤ h0.size) (E_a : Exa Z h0 q1 "java/lang/String") (F_v : Fld Z h0 q1 "java/lang/String" "value" "[B" (w1)) (F_c : Fld Z h0 q1 "java/lang/String" "coder" "B" (w2)) (n_c : q2 ≠ q1) (g_a : n0 ≤ q1) (cs : Int32) (fm : Value) (SS : SSt Z cs fm) (O0 : Old Z n0 h0) :
    Ctr l Z ({ cls := "java/lang/String", name := "<init>", desc := "([C)V" } : Jvm.MethodName) jdk_42_method_3_code 2 none ws ({ frames := 5, cells := 2, slots := 9, locals := 74 } : Room) #[.ref q1, .ref q2] h0 (fun v h L => (∃ (b : Addr) (k : ClassId), v = none ∧ Fr n0 L ∧ Keep h0 h [q1] ∧ Exa Z h q1 "java/lang/String" ∧ Fld Z h q1 "java/lang/String" "value" "[B" (.ref b) ∧ Fld Z h q1 "java/lang/String" "coder" "B" (.int (0 : Int32)) ∧ b ≠ q1 ∧ Arv Z h b k .byte (1 : Int32) [.int (lat x0)] (.int 0) ∧ ¬ (255 : Int32) < x0) ∨ (∃ (b : Addr) (k : ClassId), v = none ∧ Fr n0 L ∧ Keep h0 h [q1] ∧ Exa Z h q1 "java/lang/String" ∧ Fld Z h q1 "java/lang/String" "value" "[B" (.ref b) ∧ Fld Z h q1 "java/lang/String" "coder" "B" (.int (1 : Int32)) ∧ b ≠ q1 ∧ Arv Z h b k .byte (2 : Int32) [.int (lob x0), .int (hib x0)] (.int 0))) := by
  refine Ctr.enter (Ls := #[.val (.ref q1), .val (.ref q2)]) (by decide +kernel) (fun m => ef_rmS11 q1 q2 m) ?_
  intro p e s m below meth c T hx hby hml hown hnm hret hlk hZ hh X0 e0
  have N0 := Fr.nil n0
  refine g_aloadN X0 hx hby d2_0 (pc' := 1) rfl rfl rfl ?_
  refine g_aloadN X0 hx hby d2_1 (pc' := 2) rfl rfl rfl ?_
  refine g_iconst X0 hx hby d2_2 (pc' := 3) rfl (z := (0 : Int32)) rfl ?_
  refine g_aloadN X0 hx hby d2_3 (pc' := 4) rfl rfl rfl ?_
  refine g_alen X0 hx hZ hby d2_4 (pc' := 5) rfl e0 A_c ?_
  refine g_aconstNull X0 hx hby d2_5 (pc' := 6) rfl ?_
  refine g_callI X0 hx hZ hown (W := 0) (argsL := [.ref q2, .int (0 : Int32), .int (1 : Int32), .null]) (b := q1) (rest := []) hby d2_6 (pc' := 9) rfl (by rw [hml]; rfl) (w_14 hw) (w_15 hw) (w_10 hw) (w_17 hw) rfl (by decide) (rmS41 l Z a0 hw [] q1 q2 h0 n0 x0 _ A_c hx0 _ _ Z0 E_a F_v F_c n_c g_a cs fm SS O0) e0 (by decide) (by decide) (by decide) (by decide) rfl pd__28_5bCIILjava_2flang_2fVoid_3b_29V rfl rfl (Nat.le_of_eq rfl) ?_
  rintro _ T1 L1 X1 (⟨b1, k1, rfl, N1q, K1, Ei1, Fv1, Fc1, nb1, A1, l1_0⟩ | ⟨b1, k1, rfl, N1q, K1, Ei1, Fv1, Fc1, nb1, A1⟩)
  · have N1 := Fr.app N0 N1q
    have O1 := O0.keep K1 (allS g_a all0)
    have Z1 := Nat.le_trans Z0 K1.1
    have E1_q1 := E_a.keep K1
    have A1_q2 := A_c.keep K1 (ninS n_c nin0)
    have K1t := (Keep.refl h0 [q1]).trans K1 (allS (Or.inl (List.mem_of_getElem? (i := 0) rfl)) all0)
    show GoE p e below _ (T1.setTop (mkF m 9 #[.val (.ref q1), .val (.ref q2)] []))
    exact g_retV (Q := (fun v h L => (∃ (b : Addr) (k : ClassId), v = none ∧ Fr n0 L ∧ Keep h0 h [q1] ∧ Exa Z h q1 "java/lang/String" ∧ Fld Z h q1 "java/lang/String" "value" "[B" (.ref b) ∧ Fld Z h q1 "java/lang/String" "coder" "B" (.int (0 : Int32)) ∧ b ≠ q1 ∧ Arv Z h b k .byte (1 : Int32) [.int (lat x0)] (.int 0) ∧ ¬ (255 : Int32) < x0) ∨ (∃ (b : Addr) (k : ClassId), v = none ∧ Fr n0 L ∧ Keep h0 h [q1] ∧ Exa Z h q1 "java/lang/String" ∧ Fld Z h q1 "java/lang/String" "value" "[B" (.ref b) ∧ Fld Z h q1 "java/lang/String" "coder" "B" (.int (1 : Int32)) ∧ b ≠ q1 ∧ Arv Z h b k .byte (2 : Int32) [.int (lob x0), .int (hib x0)] (.int 0)))) X1 hx hby d2_9 hret hlk (by decide) (by decide) (Or.inl ⟨b1, k1, rfl, N1, K1t, Ei1, Fv1, Fc1, nb1, A1, l1_0⟩)
  · have N1 := Fr.app N0 N1q
    have O1 := O0.keep K1 (allS g_a all0)
    have Z1 := Nat.le_trans Z0 K1.1
    have E1_q1 := E_a.keep K1
    have A1_q2 := A_c.keep K1 (ninS n_c nin0)
    have K1t := (Keep.refl h0 [q1]).trans K1 (allS (Or.inl (List.mem_of_getElem? (i := 0) rfl)) all0)
    show GoE p e below _ (T1.setTop (mkF m 9 #[.val (.ref q1), .val (.ref q2)] []))
    exact g_retV (Q := (fun v h L => (∃ (b : Addr) (k : ClassId), v = none ∧ Fr n0 L ∧ Keep h0 h [q1] ∧ Exa Z h q1 "java/lang/String" ∧ Fld Z h q1 "java/lang/String" "value" "[B" (.ref b) ∧ Fld Z h q1 "java/lang/String" "coder" "B" (.int (0 : Int32)) ∧ b ≠ q1 ∧ Arv Z h b k .byte (1 : Int32) [.int (lat x0)] (.int 0) ∧ ¬ (255 : Int32) < x0) ∨ (∃ (b : Addr) (k : ClassId), v = none ∧ Fr n0 L ∧ Keep h0 h [q1] ∧ Exa Z h q1 "java/lang/String" ∧ Fld Z h q1 "java/lang/String" "value" "[B" (.ref b) ∧ Fld Z h q1 "java/lang/String" "coder" "B" (.int (1 : Int32)) ∧ b ≠ q1 ∧ Arv Z h b k .byte (2 : Int32) [.int (lob x0), .int (hib x0)] (.int 0)))) X1 hx hby d2_9 hret hlk (by decide) (by decide) (Or.inr ⟨b1, k1, rfl, N1, K1t, Ei1, Fv1, Fc1, nb1, A1⟩)
theorem ef_rmS12 (q1 : Addr) (q2 : Addr) (m : MethodId) : entryFrame m #[.ref q1, .ref q2] 2 = mkF m 0 #[.val (.ref q1), .val (.ref q2)] [] := by
  first | (simp [entryFrame, mkF, argsToLocals, Value.category]; done) | rfl
set_option maxRecDepth 65536 in
set_option maxHeartbeats 40000000 in
theorem rmS12 (l : Launch) (Z : State) (a0 : Array Value) (hw : ∀ d ∈ tables_1, d.before a0 Z = true) (ws : List Jvm.Cond) (q1 : Addr) (q2 : Addr) (h0 : Heap) (n0 : Nat) (x0 x1 : Int32) (kc : ClassId) (A_c : Arv Z h0 q2 kc .char (2 : Int32) [.int x0, .int x1] (.int 0)) (hx0 : CH x0) (hx1 : CH x1) (w1 w2 : Value) (Z0 : n0 ≤ h0.size) (E_a : Exa Z h0 q1 "java/lang/String") (F_v : Fld Z h0 q1 "java/lang/String" "value" "[B" (w1)) (F_c : Fld Z h0 q1 "java/lang/String" "coder" "B" (w2)) (n_c : q2 ≠ q1) (g_a : n0 ≤ q1) (cs : Int32) (fm : Value) (SS : SSt Z cs fm) (O0 : Old Z n0 h0) :
    Ctr l Z ({ cls := "java/lang/String", name := "<init>", desc := "([C)V" } : Jvm.MethodName) jdk_42_method_3_code 2 none ws ({ frames := 5, cells := 2, slots := 9, locals := 74 } : Room) #[.ref q1, .ref q2] h0 (fun v h L => (∃ (b : Addr) (k : ClassId), v = none ∧ Fr n0 L ∧ Keep h0 h [q1] ∧ Exa Z h q1 "java/lang/String" ∧ Fld Z h q1 "java/lang/String" "value" "[B" (.ref b) ∧ Fld Z h q1 "java/lang/String" "coder" "B" (.int (0 : Int32)) ∧ b ≠ q1 ∧ Arv Z h b k .byte (2 : Int32) [.int (lat x0), .int (lat x1)] (.int 0) ∧ ¬ (255 : Int32) < x0 ∧ ¬ (255 : Int32) < x1) ∨ (∃ (b : Addr) (k : ClassId), v = none ∧ Fr n0 L ∧ Keep h0 h [q1] ∧ Exa Z h q1 "java/lang/String" ∧ Fld Z h q1 "java/lang/String" "value" "[B" (.ref b) ∧ Fld Z h q1 "java/lang/String" "coder" "B" (.int (1 : Int32)) ∧ b ≠ q1 ∧ Arv Z h b k .byte (4 : Int32) [.int (lob x0), .int (hib x0), .int (lob x1), .int (hib x1)] (.int 0))) := by
  refine Ctr.enter (Ls := #[.val (.ref q1), .val (.ref q2)]) (by decide +kernel) (fun m => ef_rmS12 q1 q2 m) ?_
  intro p e s m below meth c T hx hby hml hown hnm hret hlk hZ hh X0 e0
  have N0 := Fr.nil n0
  refine g_aloadN X0 hx hby d2_0 (pc' := 1) rfl rfl rfl ?_
  refine g_aloadN X0 hx hby d2_1 (pc' := 2) rfl rfl rfl ?_
  refine g_iconst X0 hx hby d2_2 (pc' := 3) rfl (z := (0 : Int32)) rfl ?_
  refine g_aloadN X0 hx hby d2_3 (pc' := 4) rfl rfl rfl ?_
  refine g_alen X0 hx hZ hby d2_4 (pc' := 5) rfl e0 A_c ?_
  refine g_aconstNull X0 hx hby d2_5 (pc' := 6) rfl ?_
  refine g_callI X0 hx hZ hown (W := 0) (argsL := [.ref q2, .int (0 : Int32), .int (2 : Int32), .null]) (b := q1) (rest := []) hby d2_6 (pc' := 9) rfl (by rw [hml]; rfl) (w_14 hw) (w_15 hw) (w_10 hw) (w_17 hw) rfl (by decide) (rmS42 l Z a0 hw [] q1 q2 h0 n0 x0 x1 _ A_c hx0 hx1 _ _ Z0 E_a F_v F_c n_c g_a cs fm SS O0) e0 (by decide) (by decide) (by decide) (by decide) rfl pd__28_5bCIILjava_2flang_2fVoid_3b_29V rfl rfl (Nat.le_of_eq rfl) ?_
  rintro _ T1 L1 X1 (⟨b1, k1, rfl, N1q, K1, Ei1, Fv1, Fc1, nb1, A1, l1_0, l1_1⟩ | ⟨b1, k1, rfl, N1q, K1, Ei1, Fv1, Fc1, nb1, A1⟩)
  · have N1 := Fr.app N0 N1q
    have O1 := O0.keep K1 (allS g_a all0)
    have Z1 := Nat.le_trans Z0 K1.1
    have E1_q1 := E_a.keep K1
    have A1_q2 := A_c.keep K1 (ninS n_c nin0)
    have K1t := (Keep.refl h0 [q1]).trans K1 (allS (Or.inl (List.mem_of_getElem? (i := 0) rfl)) all0)
    show GoE p e below _ (T1.setTop (mkF m 9 #[.val (.ref q1), .val (.ref q2)] []))
    exact g_retV (Q := (fun v h L => (∃ (b : Addr) (k : ClassId), v = none ∧ Fr n0 L ∧ Keep h0 h [q1] ∧ Exa Z h q1 "java/lang/String" ∧ Fld Z h q1 "java/lang/String" "value" "[B" (.ref b) ∧ Fld Z h q1 "java/lang/String" "coder" "B" (.int (0 : Int32)) ∧ b ≠ q1 ∧ Arv Z h b k .byte (2 : Int32) [.int (lat x0), .int (lat x1)] (.int 0) ∧ ¬ (255 : Int32) < x0 ∧ ¬ (255 : Int32) < x1) ∨ (∃ (b : Addr) (k : ClassId), v = none ∧ Fr n0 L ∧ Keep h0 h [q1] ∧ Exa Z h q1 "java/lang/String" ∧ Fld Z h q1 "java/lang/String" "value" "[B" (.ref b) ∧ Fld Z h q1 "java/lang/String" "coder" "B" (.int (1 : Int32)) ∧ b ≠ q1 ∧ Arv Z h b k .byte (4 : Int32) [.int (lob x0), .int (hib x0), .int (lob x1), .int (hib x1)] (.int 0)))) X1 hx hby d2_9 hret hlk (by decide) (by decide) (Or.inl ⟨b1, k1, rfl, N1, K1t, Ei1, Fv1, Fc1, nb1, A1, l1_0, l1_1⟩)
  · have N1 := Fr.app N0 N1q
    have O1 := O0.keep K1 (allS g_a all0)
    have Z1 := Nat.le_trans Z0 K1.1
    have E1_q1 := E_a.keep K1
    have A1_q2 := A_c.keep K1 (ninS n_c nin0)
    have K1t := (Keep.refl h0 [q1]).trans K1 (allS (Or.inl (List.mem_of_getElem? (i := 0) rfl)) all0)
    show GoE p e below _ (T1.setTop (mkF m 9 #[.val (.ref q1), .val (.ref q2)] []))
    exact g_retV (Q := (fun v h L => (∃ (b : Addr) (k : ClassId), v = none ∧ Fr n0 L ∧ Keep h0 h [q1] ∧ Exa Z h q1 "java/lang/String" ∧ Fld Z h q1 "java/lang/String" "value" "[B" (.ref b) ∧ Fld Z h q1 "java/lang/String" "coder" "B" (.int (0 : Int32)) ∧ b ≠ q1 ∧ Arv Z h b k .byte (2 : Int32) [.int (lat x0), .int (lat x1)] (.int 0) ∧ ¬ (255 : Int32) < x0 ∧ ¬ (255 : Int32) < x1) ∨ (∃ (b : Addr) (k : ClassId), v = none ∧ Fr n0 L ∧ Keep h0 h [q1] ∧ Exa Z h q1 "java/lang/String" ∧ Fld Z h q1 "java/lang/String" "value" "[B" (.ref b) ∧ Fld Z h q1 "java/lang/String" "coder" "B" (.int (1 : Int32)) ∧ b ≠ q1 ∧ Arv Z h b k .byte (4 : Int32) [.int (lob x0), .int (hib x0), .int (lob x1), .int (hib x1)] (.int 0)))) X1 hx hby d2_9 hret hlk (by decide) (by decide) (Or.inr ⟨b1, k1, rfl, N1, K1t, Ei1, Fv1, Fc1, nb1, A1⟩)
theorem ef_rmS13 (q1 : Addr) (q2 : Addr) (m : MethodId) : entryFrame m #[.ref q1, .ref q2] 2 = mkF m 0 #[.val (.ref q1), .val (.ref q2)] [] := by
  first | (simp [entryFrame, mkF, argsToLocals, Value.category]; done) | rfl
set_option maxRecDepth 65536 in
set_option maxHeartbeats 40000000 in
theorem rmS13 (l : Launch) (Z : State) (a0 : Array Value) (hw : ∀ d ∈ tables_1, d.before a0 Z = true) (ws : List Jvm.Cond) (q1 : Addr) (q2 : Addr) (h0 : Heap) (n0 : Nat) (x0 x1 x2 : Int32) (kc : ClassId) (A_c : Arv Z h0 q2 kc .char (3 : Int32) [.int x0, .int x1, .int x2] (.int 0)) (hx0 : CH x0) (hx1 : CH x1) (hx2 : CH x2) (w1 w2 : Value) (Z0 : n0 ≤ h0.size) (E_a : Exa Z h0 q1 "java/lang/String") (F_v : Fld Z h0 q1 "java/lang/String" "value" "[B" (w1)) (F_c : Fld Z h0 q1 "java/lang/String" "coder" "B" (w2)) (n_c : q2 ≠ q1) (g_a : n0 ≤ q1) (cs : Int32) (fm : Value) (SS : SSt Z cs fm) (O0 : Old Z n0 h0) :
    Ctr l Z ({ cls := "java/lang/String", name := "<init>", desc := "([C)V" } : Jvm.MethodName) jdk_42_method_3_code 2 none ws ({ frames := 5, cells := 2, slots := 9, locals := 74 } : Room) #[.ref q1, .ref q2] h0 (fun v h L => (∃ (b : Addr) (k : ClassId), v = none ∧ Fr n0 L ∧ Keep h0 h [q1] ∧ Exa Z h q1 "java/lang/String" ∧ Fld Z h q1 "java/lang/String" "value" "[B" (.ref b) ∧ Fld Z h q1 "java/lang/String" "coder" "B" (.int (0 : Int32)) ∧ b ≠ q1 ∧ Arv Z h b k .byte (3 : Int32) [.int (lat x0), .int (lat x1), .int (lat x2)] (.int 0) ∧ ¬ (255 : Int32) < x0 ∧ ¬ (255 : Int32) < x1 ∧ ¬ (255 : Int32) < x2) ∨ (∃ (b : Addr) (k : ClassId), v = none ∧ Fr n0 L ∧ Keep h0 h [q1] ∧ Exa Z h q1 "java/lang/String" ∧ Fld Z h q1 "java/lang/String" "value" "[B" (.ref b) ∧ Fld Z h q1 "java/lang/String" "coder" "B" (.int (1 : Int32)) ∧ b ≠ q1 ∧ Arv Z h b k .byte (6 : Int32) [.int (lob x0), .int (hib x0), .int (lob x1), .int (hib x1), .int (lob x2), .int (hib x2)] (.int 0))) := by
  refine Ctr.enter (Ls := #[.val (.ref q1), .val (.ref q2)]) (by decide +kernel) (fun m => ef_rmS13 q1 q2 m) ?_
  intro p e s m below meth c T hx hby hml hown hnm hret hlk hZ hh X0 e0
  have N0 := Fr.nil n0
  refine g_aloadN X0 hx hby d2_0 (pc' := 1) rfl rfl rfl ?_
  refine g_aloadN X0 hx hby d2_1 (pc' := 2) rfl rfl rfl ?_
  refine g_iconst X0 hx hby d2_2 (pc' := 3) rfl (z := (0 : Int32)) rfl ?_
  refine g_aloadN X0 hx hby d2_3 (pc' := 4) rfl rfl rfl ?_
  refine g_alen X0 hx hZ hby d2_4 (pc' := 5) rfl e0 A_c ?_
  refine g_aconstNull X0 hx hby d2_5 (pc' := 6) rfl ?_
  refine g_callI X0 hx hZ hown (W := 0) (argsL := [.ref q2, .int (0 : Int32), .int (3 : Int32), .null]) (b := q1) (rest := []) hby d2_6 (pc' := 9) rfl (by rw [hml]; rfl) (w_14 hw) (w_15 hw) (w_10 hw) (w_17 hw) rfl (by decide) (rmS43 l Z a0 hw [] q1 q2 h0 n0 x0 x1 x2 _ A_c hx0 hx1 hx2 _ _ Z0 E_a F_v F_c n_c g_a cs fm SS O0) e0 (by decide) (by decide) (by decide) (by decide) rfl pd__28_5bCIILjava_2flang_2fVoid_3b_29V rfl rfl (Nat.le_of_eq rfl) ?_
  rintro _ T1 L1 X1 (⟨b1, k1, rfl, N1q, K1, Ei1, Fv1, Fc1, nb1, A1, l1_0, l1_1, l1_2⟩ | ⟨b1, k1, rfl, N1q, K1, Ei1, Fv1, Fc1, nb1, A1⟩)
  · have N1 := Fr.app N0 N1q
    have O1 := O0.keep K1 (allS g_a all0)
    have Z1 := Nat.le_trans Z0 K1.1
    have E1_q1 := E_a.keep K1
    have A1_q2 := A_c.keep K1 (ninS n_c nin0)
    have K1t := (Keep.refl h0 [q1]).trans K1 (allS (Or.inl (List.mem_of_getElem? (i := 0) rfl)) all0)
    show GoE p e below _ (T1.setTop (mkF m 9 #[.val (.ref q1), .val (.ref q2)] []))
    exact g_retV (Q := (fun v h L => (∃ (b : Addr) (k : ClassId), v = none ∧ Fr n0 L ∧ Keep h0 h [q1] ∧ Exa Z h q1 "java/lang/String" ∧ Fld Z h q1 "java/lang/String" "value" "[B" (.ref b) ∧ Fld Z h q1 "java/lang/String" "coder" "B" (.int (0 : Int32)) ∧ b ≠ q1 ∧ Arv Z h b k .byte (3 : Int32) [.int (lat x0), .int (lat x1), .int (lat x2)] (.int 0) ∧ ¬ (255 : Int32) < x0 ∧ ¬ (255 : Int32) < x1 ∧ ¬ (255 : Int32) < x2) ∨ (∃ (b : Addr) (k : ClassId), v = none ∧ Fr n0 L ∧ Keep h0 h [q1] ∧ Exa Z h q1 "java/lang/String" ∧ Fld Z h q1 "java/lang/String" "value" "[B" (.ref b) ∧ Fld Z h q1 "java/lang/String" "coder" "B" (.int (1 : Int32)) ∧ b ≠ q1 ∧ Arv Z h b k .byte (6 : Int32) [.int (lob x0), .int (hib x0), .int (lob x1), .int (hib x1), .int (lob x2), .int (hib x2)] (.int 0)))) X1 hx hby d2_9 hret hlk (by decide) (by decide) (Or.inl ⟨b1, k1, rfl, N1, K1t, Ei1, Fv1, Fc1, nb1, A1, l1_0, l1_1, l1_2⟩)
  · have N1 := Fr.app N0 N1q
    have O1 := O0.keep K1 (allS g_a all0)
    have Z1 := Nat.le_trans Z0 K1.1
    have E1_q1 := E_a.keep K1
    have A1_q2 := A_c.keep K1 (ninS n_c nin0)
    have K1t := (Keep.refl h0 [q1]).trans K1 (allS (Or.inl (List.mem_of_getElem? (i := 0) rfl)) all0)
    show GoE p e below _ (T1.setTop (mkF m 9 #[.val (.ref q1), .val (.ref q2)] []))
    exact g_retV (Q := (fun v h L => (∃ (b : Addr) (k : ClassId), v = none ∧ Fr n0 L ∧ Keep h0 h [q1] ∧ Exa Z h q1 "java/lang/String" ∧ Fld Z h q1 "java/lang/String" "value" "[B" (.ref b) ∧ Fld Z h q1 "java/lang/String" "coder" "B" (.int (0 : Int32)) ∧ b ≠ q1 ∧ Arv Z h b k .byte (3 : Int32) [.int (lat x0), .int (lat x1), .int (lat x2)] (.int 0) ∧ ¬ (255 : Int32) < x0 ∧ ¬ (255 : Int32) < x1 ∧ ¬ (255 : Int32) < x2) ∨ (∃ (b : Addr) (k : ClassId), v = none ∧ Fr n0 L ∧ Keep h0 h [q1] ∧ Exa Z h q1 "java/lang/String" ∧ Fld Z h q1 "java/lang/String" "value" "[B" (.ref b) ∧ Fld Z h q1 "java/lang/String" "coder" "B" (.int (1 : Int32)) ∧ b ≠ q1 ∧ Arv Z h b k .byte (6 : Int32) [.int (lob x0), .int (hib x0), .int (lob x1), .int (hib x1), .int (lob x2), .int (hib x2)] (.int 0)))) X1 hx hby d2_9 hret hlk (by decide) (by decide) (Or.inr ⟨b1, k1, rfl, N1, K1t, Ei1, Fv1, Fc1, nb1, A1⟩)
theorem ef_rmPI (q1 : Int32) (q2 : Int32) (q3 : Value) (r_q3 : q3.isRef = true) (m : MethodId) : entryFrame m #[.int q1, .int q2, q3] 3 = mkF m 0 #[.val (.int q1), .val (.int q2), .val (q3)] [] := by
  cases q3 <;> first | cases r_q3 | skip
  all_goals first | (simp [entryFrame, mkF, argsToLocals, Value.category]; done) | rfl
set_option maxRecDepth 65536 in
set_option maxHeartbeats 40000000 in
theorem rmPI (l : Launch) (Z : State) (a0 : Array Value) (hw : ∀ d ∈ tables_1, d.before a0 Z = true) (ws : List Jvm.Cond) (q1 : Int32) (q2 : Int32) (q3 : Value) (h0 : Heap) (n0 : Nat) (r_q3 : q3.isRef = true) (h1 : ¬ q1 < 0 ∧ q1 < q2) :
    Ctr l Z ({ cls := "jdk/internal/util/Preconditions", name := "checkIndex", desc := "(IILjava/util/function/BiFunction;)I" } : Jvm.MethodName) jdk_41_method_11_code 3 (some .int) ws ({ frames := 0, cells := 0, slots := 0, locals := 0 } : Room) #[.int q1, .int q2, q3] h0 (fun v h L => v = some (.int q1) ∧ Fr n0 L ∧ h = h0) := by
  refine Ctr.enter (Ls := #[.val (.int q1), .val (.int q2), .val (q3)]) (by decide +kernel) (fun m => ef_rmPI q1 q2 q3 r_q3 m) ?_
  intro p e s m below meth c T hx hby hml hown hnm hret hlk hZ hh X0 e0
  have N0 := Fr.nil n0
  refine g_iloadN X0 hx hby d20_0 (pc' := 1) rfl rfl ?_
  refine g_if_lt X0 hx hby d20_1 (by decide) (pc' := 9) (by decide) (pn := 4) rfl (fun z => absurd z h1.1) (fun hc1_1 => ?_)
  refine g_iloadN X0 hx hby d20_4 (pc' := 5) rfl rfl ?_
  refine g_iloadN X0 hx hby d20_5 (pc' := 6) rfl rfl ?_
  refine g_icmp_lt X0 hx hby d20_6 (by decide) (pc' := 16) (by decide) (pn := 9) rfl (fun hc6_2 => ?_) (fun z => absurd z (fun z => z h1.2))
  refine g_iloadN X0 hx hby d20_16 (pc' := 17) rfl rfl ?_
  exact g_retI (Q := (fun v h L => v = some (.int q1) ∧ Fr n0 L ∧ h = h0)) X0 hx hby d20_17 hret hlk (by decide) (by decide) ⟨rfl, N0, e0⟩
theorem ef_rmCI (q1 : Int32) (q2 : Int32) (m : MethodId) : entryFrame m #[.int q1, .int q2] 2 = mkF m 0 #[.val (.int q1), .val (.int q2)] [] := by
  first | (simp [entryFrame, mkF, argsToLocals, Value.category]; done) | rfl
set_option maxRecDepth 65536 in
set_option maxHeartbeats 40000000 in
theorem rmCI (l : Launch) (Z : State) (a0 : Array Value) (hw : ∀ d ∈ tables_1, d.before a0 Z = true) (ws : List Jvm.Cond) (q1 : Int32) (q2 : Int32) (h0 : Heap) (n0 : Nat) (h1 : ¬ q1 < 0 ∧ q1 < q2) (cs : Int32) (fm : Value) (SS : SSt Z cs fm) (O0 : Old Z n0 h0) :
    Ctr l Z ({ cls := "java/lang/String", name := "checkIndex", desc := "(II)V" } : Jvm.MethodName) jdk_42_method_155_code 2 none ws ({ frames := 1, cells := 0, slots := 0, locals := 14 } : Room) #[.int q1, .int q2] h0 (fun v h L => v = none ∧ Fr n0 L ∧ h = h0) := by
  refine Ctr.enter (Ls := #[.val (.int q1), .val (.int q2)]) (by decide +kernel) (fun m => ef_rmCI q1 q2 m) ?_
  intro p e s m below meth c T hx hby hml hown hnm hret hlk hZ hh X0 e0
  have N0 := Fr.nil n0
  refine g_iloadN X0 hx hby d19_0 (pc' := 1) rfl rfl ?_
  refine g_iloadN X0 hx hby d19_1 (pc' := 2) rfl rfl ?_
  refine g_getS X0 hx hZ hown hby d19_2 (pc' := 5) rfl (w_82 hw) e0 (SS.2.2.2.2.2.1.ext O0.2) ?_
  intro T1 X1 e1
  refine g_callS X1 hx hZ hown (W := 0) (argsL := [.int q1, .int q2, fm]) (rest := []) hby d19_5 (pc' := 8) rfl (by rw [hml]; rfl) (w_84 hw) (w_85 hw) (w_83 hw) (w_86 hw) (by decide) (rmPI l Z a0 hw [] q1 q2 fm h0 n0 SS.2.2.2.2.2.2 h1) e1 (by decide) (by decide) (by decide) (by decide) rfl pd__28IILjava_2futil_2ffunction_2fBiFunction_3b_29I rfl rfl (Nat.le_of_eq rfl) ?_
  rintro _ T2 L2 X2 ⟨rfl, N2q, e2⟩
  have N2 := Fr.app N0 N2q
  show GoE p e below _ (T2.setTop (mkF m 8 #[.val (.int q1), .val (.int q2)] [.int q1]))
  refine g_pop X2 hx hby d19_8 (pc' := 9) rfl rfl ?_
  exact g_retV (Q := (fun v h L => v = none ∧ Fr n0 L ∧ h = h0)) X2 hx hby d19_9 hret hlk (by decide) (by decide) ⟨rfl, N2, e2⟩
theorem ef_rmUL1 (q1 : Addr) (m : MethodId) : entryFrame m #[.ref q1] 1 = mkF m 0 #[.val (.ref q1)] [] := by
  first | (simp [entryFrame, mkF, argsToLocals, Value.category]; done) | rfl
set_option maxRecDepth 65536 in
set_option maxHeartbeats 40000000 in
theorem rmUL1 (l : Launch) (Z : State) (a0 : Array Value) (hw : ∀ d ∈ tables_1, d.before a0 Z = true) (ws : List Jvm.Cond) (q1 : Addr) (h0 : Heap) (n0 : Nat) (vs : List Value) (kq : ClassId) (A_q : Arv Z h0 q1 kq .byte (2 : Int32) vs (.int 0)) :
    Ctr l Z ({ cls := "java/lang/StringUTF16", name := "length", desc := "([B)I" } : Jvm.MethodName) jdk_52_method_6_code 1 (some .int) ws ({ frames := 0, cells := 0, slots := 0, locals := 0 } : Room) #[.ref q1] h0 (fun v h L => v = some (.int (1 : Int32)) ∧ Fr n0 L ∧ h = h0) := by
  refine Ctr.enter (Ls := #[.val (.ref q1)]) (by decide +kernel) (fun m => ef_rmUL1 q1 m) ?_
  intro p e s m below meth c T hx hby hml hown hnm hret hlk hZ hh X0 e0
  have N0 := Fr.nil n0
  refine g_aloadN X0 hx hby d18_0 (pc' := 1) rfl rfl rfl ?_
  refine g_alen X0 hx hZ hby d18_1 (pc' := 2) rfl e0 A_q ?_
  refine g_iconst X0 hx hby d18_2 (pc' := 3) rfl (z := (1 : Int32)) rfl ?_
  refine g_ishr X0 hx hby d18_3 (pc' := 4) rfl ?_
  refine g_eqI (b := (1 : Int32)) (by decide +kernel) ?_
  exact g_retI (Q := (fun v h L => v = some (.int (1 : Int32)) ∧ Fr n0 L ∧ h = h0)) X0 hx hby d18_4 hret hlk (by decide) (by decide) ⟨rfl, N0, e0⟩
theorem ef_rmUL2 (q1 : Addr) (m : MethodId) : entryFrame m #[.ref q1] 1 = mkF m 0 #[.val (.ref q1)] [] := by
  first | (simp [entryFrame, mkF, argsToLocals, Value.category]; done) | rfl
set_option maxRecDepth 65536 in
set_option maxHeartbeats 40000000 in
theorem rmUL2 (l : Launch) (Z : State) (a0 : Array Value) (hw : ∀ d ∈ tables_1, d.before a0 Z = true) (ws : List Jvm.Cond) (q1 : Addr) (h0 : Heap) (n0 : Nat) (vs : List Value) (kq : ClassId) (A_q : Arv Z h0 q1 kq .byte (4 : Int32) vs (.int 0)) :
    Ctr l Z ({ cls := "java/lang/StringUTF16", name := "length", desc := "([B)I" } : Jvm.MethodName) jdk_52_method_6_code 1 (some .int) ws ({ frames := 0, cells := 0, slots := 0, locals := 0 } : Room) #[.ref q1] h0 (fun v h L => v = some (.int (2 : Int32)) ∧ Fr n0 L ∧ h = h0) := by
  refine Ctr.enter (Ls := #[.val (.ref q1)]) (by decide +kernel) (fun m => ef_rmUL2 q1 m) ?_
  intro p e s m below meth c T hx hby hml hown hnm hret hlk hZ hh X0 e0
  have N0 := Fr.nil n0
  refine g_aloadN X0 hx hby d18_0 (pc' := 1) rfl rfl rfl ?_
  refine g_alen X0 hx hZ hby d18_1 (pc' := 2) rfl e0 A_q ?_
  refine g_iconst X0 hx hby d18_2 (pc' := 3) rfl (z := (1 : Int32)) rfl ?_
  refine g_ishr X0 hx hby d18_3 (pc' := 4) rfl ?_
  refine g_eqI (b := (2 : Int32)) (by decide +kernel) ?_
  exact g_retI (Q := (fun v h L => v = some (.int (2 : Int32)) ∧ Fr n0 L ∧ h = h0)) X0 hx hby d18_4 hret hlk (by decide) (by decide) ⟨rfl, N0, e0⟩
theorem ef_rmUL3 (q1 : Addr) (m : MethodId) : entryFrame m #[.ref q1] 1 = mkF m 0 #[.val (.ref q1)] [] := by
  first | (simp [entryFrame, mkF, argsToLocals, Value.category]; done) | rfl
set_option maxRecDepth 65536 in
set_option maxHeartbeats 40000000 in
theorem rmUL3 (l : Launch) (Z : State) (a0 : Array Value) (hw : ∀ d ∈ tables_1, d.before a0 Z = true) (ws : List Jvm.Cond) (q1 : Addr) (h0 : Heap) (n0 : Nat) (vs : List Value) (kq : ClassId) (A_q : Arv Z h0 q1 kq .byte (6 : Int32) vs (.int 0)) :
    Ctr l Z ({ cls := "java/lang/StringUTF16", name := "length", desc := "([B)I" } : Jvm.MethodName) jdk_52_method_6_code 1 (some .int) ws ({ frames := 0, cells := 0, slots := 0, locals := 0 } : Room) #[.ref q1] h0 (fun v h L => v = some (.int (3 : Int32)) ∧ Fr n0 L ∧ h = h0) := by
  refine Ctr.enter (Ls := #[.val (.ref q1)]) (by decide +kernel) (fun m => ef_rmUL3 q1 m) ?_
  intro p e s m below meth c T hx hby hml hown hnm hret hlk hZ hh X0 e0
  have N0 := Fr.nil n0
  refine g_aloadN X0 hx hby d18_0 (pc' := 1) rfl rfl rfl ?_
  refine g_alen X0 hx hZ hby d18_1 (pc' := 2) rfl e0 A_q ?_
  refine g_iconst X0 hx hby d18_2 (pc' := 3) rfl (z := (1 : Int32)) rfl ?_
  refine g_ishr X0 hx hby d18_3 (pc' := 4) rfl ?_
  refine g_eqI (b := (3 : Int32)) (by decide +kernel) ?_
  exact g_retI (Q := (fun v h L => v = some (.int (3 : Int32)) ∧ Fr n0 L ∧ h = h0)) X0 hx hby d18_4 hret hlk (by decide) (by decide) ⟨rfl, N0, e0⟩
theorem ef_rmUI1_0 (q1 : Addr) (m : MethodId) : entryFrame m #[.int (0 : Int32), .ref q1] 2 = mkF m 0 #[.val (.int (0 : Int32)), .val (.ref q1)] [] := by
  first | (simp [entryFrame, mkF, argsToLocals, Value.category]; done) | rfl
set_option maxRecDepth 65536 in
set_option maxHeartbeats 40000000 in
theorem rmUI1_0 (l : Launch) (Z : State) (a0 : Array Value) (hw : ∀ d ∈ tables_1, d.before a0 Z = true) (ws : List Jvm.Cond) (q1 : Addr) (h0 : Heap) (n0 : Nat) (vs : List Value) (kq : ClassId) (A_q : Arv Z h0 q1 kq .byte (2 : Int32) vs (.int 0)) (cs : Int32) (fm : Value) (SS : SSt Z cs fm) (O0 : Old Z n0 h0) :
    Ctr l Z ({ cls := "java/lang/StringUTF16", name := "checkIndex", desc := "(I[B)V" } : Jvm.MethodName) jdk_52_method_91_code 2 none ws ({ frames := 2, cells := 0, slots := 0, locals := 27 } : Room) #[.int (0 : Int32), .ref q1] h0 (fun v h L => v = none ∧ Fr n0 L ∧ h = h0) := by
  refine Ctr.enter (Ls := #[.val (.int (0 : Int32)), .val (.ref q1)]) (by decide +kernel) (fun m => ef_rmUI1_0 q1 m) ?_
  intro p e s m below meth c T hx hby hml hown hnm hret hlk hZ hh X0 e0
  have N0 := Fr.nil n0
  refine g_iloadN X0 hx hby d17_0 (pc' := 1) rfl rfl ?_
  refine g_aloadN X0 hx hby d17_1 (pc' := 2) rfl rfl rfl ?_
  refine g_callS X0 hx hZ hown (W := 1) (argsL := [.ref q1]) (rest := [.int (0 : Int32)]) hby d17_2 (pc' := 5) rfl (by rw [hml]; rfl) (w_76 hw) (w_77 hw) (w_24 hw) (w_78 hw) (by decide) (rmUL1 l Z a0 hw [] q1 h0 n0 _ _ A_q) e0 (by decide) (by decide) (by decide) (by decide) rfl pd__28_5bB_29I rfl rfl (Nat.le_of_eq rfl) ?_
  rintro _ T1 L1 X1 ⟨rfl, N1q, e1⟩
  have N1 := Fr.app N0 N1q
  show GoE p e below _ (T1.setTop (mkF m 5 #[.val (.int (0 : Int32)), .val (.ref q1)] [.int (1 : Int32), .int (0 : Int32)]))
  refine g_callS X1 hx hZ hown (W := 0) (argsL := [.int (0 : Int32), .int (1 : Int32)]) (rest := []) hby d17_5 (pc' := 8) rfl (by rw [hml]; rfl) (w_79 hw) (w_80 hw) (w_10 hw) (w_81 hw) (by decide) (rmCI l Z a0 hw [] (0 : Int32) (1 : Int32) h0 n0 (by decide) cs fm SS O0) e1 (by decide) (by decide) (by decide) (by decide) rfl pd__28II_29V rfl rfl (Nat.le_of_eq rfl) ?_
  rintro _ T2 L2 X2 ⟨rfl, N2q, e2⟩
  have N2 := Fr.app N1 N2q
  show GoE p e below _ (T2.setTop (mkF m 8 #[.val (.int (0 : Int32)), .val (.ref q1)] []))
  exact g_retV (Q := (fun v h L => v = none ∧ Fr n0 L ∧ h = h0)) X2 hx hby d17_8 hret hlk (by decide) (by decide) ⟨rfl, N2, e2⟩
theorem ef_rmUI2_0 (q1 : Addr) (m : MethodId) : entryFrame m #[.int (0 : Int32), .ref q1] 2 = mkF m 0 #[.val (.int (0 : Int32)), .val (.ref q1)] [] := by
  first | (simp [entryFrame, mkF, argsToLocals, Value.category]; done) | rfl
set_option maxRecDepth 65536 in
set_option maxHeartbeats 40000000 in
theorem rmUI2_0 (l : Launch) (Z : State) (a0 : Array Value) (hw : ∀ d ∈ tables_1, d.before a0 Z = true) (ws : List Jvm.Cond) (q1 : Addr) (h0 : Heap) (n0 : Nat) (vs : List Value) (kq : ClassId) (A_q : Arv Z h0 q1 kq .byte (4 : Int32) vs (.int 0)) (cs : Int32) (fm : Value) (SS : SSt Z cs fm) (O0 : Old Z n0 h0) :
    Ctr l Z ({ cls := "java/lang/StringUTF16", name := "checkIndex", desc := "(I[B)V" } : Jvm.MethodName) jdk_52_method_91_code 2 none ws ({ frames := 2, cells := 0, slots := 0, locals := 27 } : Room) #[.int (0 : Int32), .ref q1] h0 (fun v h L => v = none ∧ Fr n0 L ∧ h = h0) := by
  refine Ctr.enter (Ls := #[.val (.int (0 : Int32)), .val (.ref q1)]) (by decide +kernel) (fun m => ef_rmUI2_0 q1 m) ?_
  intro p e s m below meth c T hx hby hml hown hnm hret hlk hZ hh X0 e0
  have N0 := Fr.nil n0
  refine g_iloadN X0 hx hby d17_0 (pc' := 1) rfl rfl ?_
  refine g_aloadN X0 hx hby d17_1 (pc' := 2) rfl rfl rfl ?_
  refine g_callS X0 hx hZ hown (W := 1) (argsL := [.ref q1]) (rest := [.int (0 : Int32)]) hby d17_2 (pc' := 5) rfl (by rw [hml]; rfl) (w_76 hw) (w_77 hw) (w_24 hw) (w_78 hw) (by decide) (rmUL2 l Z a0 hw [] q1 h0 n0 _ _ A_q) e0 (by decide) (by decide) (by decide) (by decide) rfl pd__28_5bB_29I rfl rfl (Nat.le_of_eq rfl) ?_
  rintro _ T1 L1 X1 ⟨rfl, N1q, e1⟩
  have N1 := Fr.app N0 N1q
  show GoE p e below _ (T1.setTop (mkF m 5 #[.val (.int (0 : Int32)), .val (.ref q1)] [.int (2 : Int32), .int (0 : Int32)]))
  refine g_callS X1 hx hZ hown (W := 0) (argsL := [.int (0 : Int32), .int (2 : Int32)]) (rest := []) hby d17_5 (pc' := 8) rfl (by rw [hml]; rfl) (w_79 hw) (w_80 hw) (w_10 hw) (w_81 hw) (by decide) (rmCI l Z a0 hw [] (0 : Int32) (2 : Int32) h0 n0 (by decide) cs fm SS O0) e1 (by decide) (by decide) (by decide) (by decide) rfl pd__28II_29V rfl rfl (Nat.le_of_eq rfl) ?_
  rintro _ T2 L2 X2 ⟨rfl, N2q, e2⟩
  have N2 := Fr.app N1 N2q
  show GoE p e below _ (T2.setTop (mkF m 8 #[.val (.int (0 : Int32)), .val (.ref q1)] []))
  exact g_retV (Q := (fun v h L => v = none ∧ Fr n0 L ∧ h = h0)) X2 hx hby d17_8 hret hlk (by decide) (by decide) ⟨rfl, N2, e2⟩
theorem ef_rmUI2_1 (q1 : Addr) (m : MethodId) : entryFrame m #[.int (1 : Int32), .ref q1] 2 = mkF m 0 #[.val (.int (1 : Int32)), .val (.ref q1)] [] := by
  first | (simp [entryFrame, mkF, argsToLocals, Value.category]; done) | rfl
set_option maxRecDepth 65536 in
set_option maxHeartbeats 40000000 in
theorem rmUI2_1 (l : Launch) (Z : State) (a0 : Array Value) (hw : ∀ d ∈ tables_1, d.before a0 Z = true) (ws : List Jvm.Cond) (q1 : Addr) (h0 : Heap) (n0 : Nat) (vs : List Value) (kq : ClassId) (A_q : Arv Z h0 q1 kq .byte (4 : Int32) vs (.int 0)) (cs : Int32) (fm : Value) (SS : SSt Z cs fm) (O0 : Old Z n0 h0) :
    Ctr l Z ({ cls := "java/lang/StringUTF16", name := "checkIndex", desc := "(I[B)V" } : Jvm.MethodName) jdk_52_method_91_code 2 none ws ({ frames := 2, cells := 0, slots := 0, locals := 27 } : Room) #[.int (1 : Int32), .ref q1] h0 (fun v h L => v = none ∧ Fr n0 L ∧ h = h0) := by
  refine Ctr.enter (Ls := #[.val (.int (1 : Int32)), .val (.ref q1)]) (by decide +kernel) (fun m => ef_rmUI2_1 q1 m) ?_
  intro p e s m below meth c T hx hby hml hown hnm hret hlk hZ hh X0 e0
  have N0 := Fr.nil n0
  refine g_iloadN X0 hx hby d17_0 (pc' := 1) rfl rfl ?_
  refine g_aloadN X0 hx hby d17_1 (pc' := 2) rfl rfl rfl ?_
  refine g_callS X0 hx hZ hown (W := 1) (argsL := [.ref q1]) (rest := [.int (1 : Int32)]) hby d17_2 (pc' := 5) rfl (by rw [hml]; rfl) (w_76 hw) (w_77 hw) (w_24 hw) (w_78 hw) (by decide) (rmUL2 l Z a0 hw [] q1 h0 n0 _ _ A_q) e0 (by decide) (by decide) (by decide) (by decide) rfl pd__28_5bB_29I rfl rfl (Nat.le_of_eq rfl) ?_
  rintro _ T1 L1 X1 ⟨rfl, N1q, e1⟩
  have N1 := Fr.app N0 N1q
  show GoE p e below _ (T1.setTop (mkF m 5 #[.val (.int (1 : Int32)), .val (.ref q1)] [.int (2 : Int32), .int (1 : Int32)]))
  refine g_callS X1 hx hZ hown (W := 0) (argsL := [.int (1 : Int32), .int (2 : Int32)]) (rest := []) hby d17_5 (pc' := 8) rfl (by rw [hml]; rfl) (w_79 hw) (w_80 hw) (w_10 hw) (w_81 hw) (by decide) (rmCI l Z a0 hw [] (1 : Int32) (2 : Int32) h0 n0 (by decide) cs fm SS O0) e1 (by decide) (by decide) (by decide) (by decide) rfl pd__28II_29V rfl rfl (Nat.le_of_eq rfl) ?_
  rintro _ T2 L2 X2 ⟨rfl, N2q, e2⟩
  have N2 := Fr.app N1 N2q
  show GoE p e below _ (T2.setTop (mkF m 8 #[.val (.int (1 : Int32)), .val (.ref q1)] []))
  exact g_retV (Q := (fun v h L => v = none ∧ Fr n0 L ∧ h = h0)) X2 hx hby d17_8 hret hlk (by decide) (by decide) ⟨rfl, N2, e2⟩
theorem ef_rmUI3_0 (q1 : Addr) (m : MethodId) : entryFrame m #[.int (0 : Int32), .ref q1] 2 = mkF m 0 #[.val (.int (0 : Int32)), .val (.ref q1)] [] := by
  first | (simp [entryFrame, mkF, argsToLocals, Value.category]; done) | rfl
set_option maxRecDepth 65536 in
set_option maxHeartbeats 40000000 in
theorem rmUI3_0 (l : Launch) (Z : State) (a0 : Array Value) (hw : ∀ d ∈ tables_1, d.before a0 Z = true) (ws : List Jvm.Cond) (q1 : Addr) (h0 : Heap) (n0 : Nat) (vs : List Value) (kq : ClassId) (A_q : Arv Z h0 q1 kq .byte (6 : Int32) vs (.int 0)) (cs : Int32) (fm : Value) (SS : SSt Z cs fm) (O0 : Old Z n0 h0) :
    Ctr l Z ({ cls := "java/lang/StringUTF16", name := "checkIndex", desc := "(I[B)V" } : Jvm.MethodName) jdk_52_method_91_code 2 none ws ({ frames := 2, cells := 0, slots := 0, locals := 27 } : Room) #[.int (0 : Int32), .ref q1] h0 (fun v h L => v = none ∧ Fr n0 L ∧ h = h0) := by
  refine Ctr.enter (Ls := #[.val (.int (0 : Int32)), .val (.ref q1)]) (by decide +kernel) (fun m => ef_rmUI3_0 q1 m) ?_
  intro p e s m below meth c T hx hby hml hown hnm hret hlk hZ hh X0 e0
  have N0 := Fr.nil n0
  refine g_iloadN X0 hx hby d17_0 (pc' := 1) rfl rfl ?_
  refine g_aloadN X0 hx hby d17_1 (pc' := 2) rfl rfl rfl ?_
  refine g_callS X0 hx hZ hown (W := 1) (argsL := [.ref q1]) (rest := [.int (0 : Int32)]) hby d17_2 (pc' := 5) rfl (by rw [hml]; rfl) (w_76 hw) (w_77 hw) (w_24 hw) (w_78 hw) (by decide) (rmUL3 l Z a0 hw [] q1 h0 n0 _ _ A_q) e0 (by decide) (by decide) (by decide) (by decide) rfl pd__28_5bB_29I rfl rfl (Nat.le_of_eq rfl) ?_
  rintro _ T1 L1 X1 ⟨rfl, N1q, e1⟩
  have N1 := Fr.app N0 N1q
  show GoE p e below _ (T1.setTop (mkF m 5 #[.val (.int (0 : Int32)), .val (.ref q1)] [.int (3 : Int32), .int (0 : Int32)]))
  refine g_callS X1 hx hZ hown (W := 0) (argsL := [.int (0 : Int32), .int (3 : Int32)]) (rest := []) hby d17_5 (pc' := 8) rfl (by rw [hml]; rfl) (w_79 hw) (w_80 hw) (w_10 hw) (w_81 hw) (by decide) (rmCI l Z a0 hw [] (0 : Int32) (3 : Int32) h0 n0 (by decide) cs fm SS O0) e1 (by decide) (by decide) (by decide) (by decide) rfl pd__28II_29V rfl rfl (Nat.le_of_eq rfl) ?_
  rintro _ T2 L2 X2 ⟨rfl, N2q, e2⟩
  have N2 := Fr.app N1 N2q
  show GoE p e below _ (T2.setTop (mkF m 8 #[.val (.int (0 : Int32)), .val (.ref q1)] []))
  exact g_retV (Q := (fun v h L => v = none ∧ Fr n0 L ∧ h = h0)) X2 hx hby d17_8 hret hlk (by decide) (by decide) ⟨rfl, N2, e2⟩
theorem ef_rmUI3_1 (q1 : Addr) (m : MethodId) : entryFrame m #[.int (1 : Int32), .ref q1] 2 = mkF m 0 #[.val (.int (1 : Int32)), .val (.ref q1)] [] := by
  first | (simp [entryFrame, mkF, argsToLocals, Value.category]; done) | rfl
set_option maxRecDepth 65536 in
set_option maxHeartbeats 40000000 in
theorem rmUI3_1 (l : Launch) (Z : State) (a0 : Array Value) (hw : ∀ d ∈ tables_1, d.before a0 Z = true) (ws : List Jvm.Cond) (q1 : Addr) (h0 : Heap) (n0 : Nat) (vs : List Value) (kq : ClassId) (A_q : Arv Z h0 q1 kq .byte (6 : Int32) vs (.int 0)) (cs : Int32) (fm : Value) (SS : SSt Z cs fm) (O0 : Old Z n0 h0) :
    Ctr l Z ({ cls := "java/lang/StringUTF16", name := "checkIndex", desc := "(I[B)V" } : Jvm.MethodName) jdk_52_method_91_code 2 none ws ({ frames := 2, cells := 0, slots := 0, locals := 27 } : Room) #[.int (1 : Int32), .ref q1] h0 (fun v h L => v = none ∧ Fr n0 L ∧ h = h0) := by
  refine Ctr.enter (Ls := #[.val (.int (1 : Int32)), .val (.ref q1)]) (by decide +kernel) (fun m => ef_rmUI3_1 q1 m) ?_
  intro p e s m below meth c T hx hby hml hown hnm hret hlk hZ hh X0 e0
  have N0 := Fr.nil n0
  refine g_iloadN X0 hx hby d17_0 (pc' := 1) rfl rfl ?_
  refine g_aloadN X0 hx hby d17_1 (pc' := 2) rfl rfl rfl ?_
  refine g_callS X0 hx hZ hown (W := 1) (argsL := [.ref q1]) (rest := [.int (1 : Int32)]) hby d17_2 (pc' := 5) rfl (by rw [hml]; rfl) (w_76 hw) (w_77 hw) (w_24 hw) (w_78 hw) (by decide) (rmUL3 l Z a0 hw [] q1 h0 n0 _ _ A_q) e0 (by decide) (by decide) (by decide) (by decide) rfl pd__28_5bB_29I rfl rfl (Nat.le_of_eq rfl) ?_
  rintro _ T1 L1 X1 ⟨rfl, N1q, e1⟩
  have N1 := Fr.app N0 N1q
  show GoE p e below _ (T1.setTop (mkF m 5 #[.val (.int (1 : Int32)), .val (.ref q1)] [.int (3 : Int32), .int (1 : Int32)]))
  refine g_callS X1 hx hZ hown (W := 0) (argsL := [.int (1 : Int32), .int (3 : Int32)]) (rest := []) hby d17_5 (pc' := 8) rfl (by rw [hml]; rfl) (w_79 hw) (w_80 hw) (w_10 hw) (w_81 hw) (by decide) (rmCI l Z a0 hw [] (1 : Int32) (3 : Int32) h0 n0 (by decide) cs fm SS O0) e1 (by decide) (by decide) (by decide) (by decide) rfl pd__28II_29V rfl rfl (Nat.le_of_eq rfl) ?_
  rintro _ T2 L2 X2 ⟨rfl, N2q, e2⟩
  have N2 := Fr.app N1 N2q
  show GoE p e below _ (T2.setTop (mkF m 8 #[.val (.int (1 : Int32)), .val (.ref q1)] []))
  exact g_retV (Q := (fun v h L => v = none ∧ Fr n0 L ∧ h = h0)) X2 hx hby d17_8 hret hlk (by decide) (by decide) ⟨rfl, N2, e2⟩
theorem ef_rmUI3_2 (q1 : Addr) (m : MethodId) : entryFrame m #[.int (2 : Int32), .ref q1] 2 = mkF m 0 #[.val (.int (2 : Int32)), .val (.ref q1)] [] := by
  first | (simp [entryFrame, mkF, argsToLocals, Value.category]; done) | rfl
set_option maxRecDepth 65536 in
set_option maxHeartbeats 40000000 in
theorem rmUI3_2 (l : Launch) (Z : State) (a0 : Array Value) (hw : ∀ d ∈ tables_1, d.before a0 Z = true) (ws : List Jvm.Cond) (q1 : Addr) (h0 : Heap) (n0 : Nat) (vs : List Value) (kq : ClassId) (A_q : Arv Z h0 q1 kq .byte (6 : Int32) vs (.int 0)) (cs : Int32) (fm : Value) (SS : SSt Z cs fm) (O0 : Old Z n0 h0) :
    Ctr l Z ({ cls := "java/lang/StringUTF16", name := "checkIndex", desc := "(I[B)V" } : Jvm.MethodName) jdk_52_method_91_code 2 none ws ({ frames := 2, cells := 0, slots := 0, locals := 27 } : Room) #[.int (2 : Int32), .ref q1] h0 (fun v h L => v = none ∧ Fr n0 L ∧ h = h0) := by
  refine Ctr.enter (Ls := #[.val (.int (2 : Int32)), .val (.ref q1)]) (by decide +kernel) (fun m => ef_rmUI3_2 q1 m) ?_
  intro p e s m below meth c T hx hby hml hown hnm hret hlk hZ hh X0 e0
  have N0 := Fr.nil n0
  refine g_iloadN X0 hx hby d17_0 (pc' := 1) rfl rfl ?_
  refine g_aloadN X0 hx hby d17_1 (pc' := 2) rfl rfl rfl ?_
  refine g_callS X0 hx hZ hown (W := 1) (argsL := [.ref q1]) (rest := [.int (2 : Int32)]) hby d17_2 (pc' := 5) rfl (by rw [hml]; rfl) (w_76 hw) (w_77 hw) (w_24 hw) (w_78 hw) (by decide) (rmUL3 l Z a0 hw [] q1 h0 n0 _ _ A_q) e0 (by decide) (by decide) (by decide) (by decide) rfl pd__28_5bB_29I rfl rfl (Nat.le_of_eq rfl) ?_
  rintro _ T1 L1 X1 ⟨rfl, N1q, e1⟩
  have N1 := Fr.app N0 N1q
  show GoE p e below _ (T1.setTop (mkF m 5 #[.val (.int (2 : Int32)), .val (.ref q1)] [.int (3 : Int32), .int (2 : Int32)]))
  refine g_callS X1 hx hZ hown (W := 0) (argsL := [.int (2 : Int32), .int (3 : Int32)]) (rest := []) hby d17_5 (pc' := 8) rfl (by rw [hml]; rfl) (w_79 hw) (w_80 hw) (w_10 hw) (w_81 hw) (by decide) (rmCI l Z a0 hw [] (2 : Int32) (3 : Int32) h0 n0 (by decide) cs fm SS O0) e1 (by decide) (by decide) (by decide) (by decide) rfl pd__28II_29V rfl rfl (Nat.le_of_eq rfl) ?_
  rintro _ T2 L2 X2 ⟨rfl, N2q, e2⟩
  have N2 := Fr.app N1 N2q
  show GoE p e below _ (T2.setTop (mkF m 8 #[.val (.int (2 : Int32)), .val (.ref q1)] []))
  exact g_retV (Q := (fun v h L => v = none ∧ Fr n0 L ∧ h = h0)) X2 hx hby d17_8 hret hlk (by decide) (by decide) ⟨rfl, N2, e2⟩
theorem ef_rmUC1_0 (q1 : Addr) (m : MethodId) : entryFrame m #[.ref q1, .int (0 : Int32)] 2 = mkF m 0 #[.val (.ref q1), .val (.int (0 : Int32))] [] := by
  first | (simp [entryFrame, mkF, argsToLocals, Value.category]; done) | rfl
set_option maxRecDepth 65536 in
set_option maxHeartbeats 40000000 in
theorem rmUC1_0 (l : Launch) (Z : State) (a0 : Array Value) (hw : ∀ d ∈ tables_1, d.before a0 Z = true) (ws : List Jvm.Cond) (q1 : Addr) (h0 : Heap) (n0 : Nat) (u0 u1 : Int32) (kq : ClassId) (A_q : Arv Z h0 q1 kq .byte (2 : Int32) [.int u0, .int u1] (.int 0)) (cs : Int32) (fm : Value) (SS : SSt Z cs fm) (O0 : Old Z n0 h0) :
    Ctr l Z ({ cls := "java/lang/StringUTF16", name := "charAt", desc := "([BI)C" } : Jvm.MethodName) jdk_52_method_83_code 2 (some .char) ws ({ frames := 3, cells := 0, slots := 0, locals := 40 } : Room) #[.ref q1, .int (0 : Int32)] h0 (fun v h L => v = some (.int (gch u0 u1)) ∧ Fr n0 L ∧ h = h0) := by
  refine Ctr.enter (Ls := #[.val (.ref q1), .val (.int (0 : Int32))]) (by decide +kernel) (fun m => ef_rmUC1_0 q1 m) ?_
  intro p e s m below meth c T hx hby hml hown hnm hret hlk hZ hh X0 e0
  have N0 := Fr.nil n0
  refine g_iloadN X0 hx hby d16_0 (pc' := 1) rfl rfl ?_
  refine g_aloadN X0 hx hby d16_1 (pc' := 2) rfl rfl rfl ?_
  refine g_callS X0 hx hZ hown (W := 0) (argsL := [.int (0 : Int32), .ref q1]) (rest := []) hby d16_2 (pc' := 5) rfl (by rw [hml]; rfl) (w_73 hw) (w_74 hw) (w_24 hw) (w_75 hw) (by decide) (rmUI1_0 l Z a0 hw [] q1 h0 n0 _ _ A_q cs fm SS O0) e0 (by decide) (by decide) (by decide) (by decide) rfl pd__28I_5bB_29V rfl rfl (Nat.le_of_eq rfl) ?_
  rintro _ T1 L1 X1 ⟨rfl, N1q, e1⟩
  have N1 := Fr.app N0 N1q
  show GoE p e below _ (T1.setTop (mkF m 5 #[.val (.ref q1), .val (.int (0 : Int32))] []))
  refine g_aloadN X1 hx hby d16_5 (pc' := 6) rfl rfl rfl ?_
  refine g_iloadN X1 hx hby d16_6 (pc' := 7) rfl rfl ?_
  refine g_callS X1 hx hZ hown (W := 0) (argsL := [.ref q1, .int (0 : Int32)]) (rest := []) hby d16_7 (pc' := 10) rfl (by rw [hml]; rfl) (w_46 hw) (w_47 hw) (w_24 hw) (w_48 hw) (by decide) (rmG10 l Z a0 hw [] q1 h0 n0 u0 u1 _ A_q cs fm SS O0) e1 (by decide) (by decide) (by decide) (by decide) rfl pd__28_5bBI_29C rfl rfl (Nat.le_of_eq rfl) ?_
  rintro _ T2 L2 X2 ⟨rfl, N2q, e2⟩
  have N2 := Fr.app N1 N2q
  show GoE p e below _ (T2.setTop (mkF m 10 #[.val (.ref q1), .val (.int (0 : Int32))] [.int (gch u0 u1)]))
  exact g_retN (Q := (fun v h L => v = some (.int (gch u0 u1)) ∧ Fr n0 L ∧ h = h0)) (w := (gch u0 u1)) X2 hx hby d16_10 hret (by simp) (own_narc (own_ch _)) hlk (by decide) (by decide) ⟨rfl, N2, e2⟩
theorem ef_rmUC2_0 (q1 : Addr) (m : MethodId) : entryFrame m #[.ref q1, .int (0 : Int32)] 2 = mkF m 0 #[.val (.ref q1), .val (.int (0 : Int32))] [] := by
  first | (simp [entryFrame, mkF, argsToLocals, Value.category]; done) | rfl
set_option maxRecDepth 65536 in
set_option maxHeartbeats 40000000 in
theorem rmUC2_0 (l : Launch) (Z : State) (a0 : Array Value) (hw : ∀ d ∈ tables_1, d.before a0 Z = true) (ws : List Jvm.Cond) (q1 : Addr) (h0 : Heap) (n0 : Nat) (u0 u1 u2 u3 : Int32) (kq : ClassId) (A_q : Arv Z h0 q1 kq .byte (4 : Int32) [.int u0, .int u1, .int u2, .int u3] (.int 0)) (cs : Int32) (fm : Value) (SS : SSt Z cs fm) (O0 : Old Z n0 h0) :
    Ctr l Z ({ cls := "java/lang/StringUTF16", name := "charAt", desc := "([BI)C" } : Jvm.MethodName) jdk_52_method_83_code 2 (some .char) ws ({ frames := 3, cells := 0, slots := 0, locals := 40 } : Room) #[.ref q1, .int (0 : Int32)] h0 (fun v h L => v = some (.int (gch u0 u1)) ∧ Fr n0 L ∧ h = h0) := by
  refine Ctr.enter (Ls := #[.val (.ref q1), .val (.int (0 : Int32))]) (by decide +kernel) (fun m => ef_rmUC2_0 q1 m) ?_
  intro p e s m below meth c T hx hby hml hown hnm hret hlk hZ hh X0 e0
  have N0 := Fr.nil n0
  refine g_iloadN X0 hx hby d16_0 (pc' := 1) rfl rfl ?_
  refine g_aloadN X0 hx hby d16_1 (pc' := 2) rfl rfl rfl ?_
  refine g_callS X0 hx hZ hown (W := 0) (argsL := [.int (0 : Int32), .ref q1]) (rest := []) hby d16_2 (pc' := 5) rfl (by rw [hml]; rfl) (w_73 hw) (w_74 hw) (w_24 hw) (w_75 hw) (by decide) (rmUI2_0 l Z a0 hw [] q1 h0 n0 _ _ A_q cs fm SS O0) e0 (by decide) (by decide) (by decide) (by decide) rfl pd__28I_5bB_29V rfl rfl (Nat.le_of_eq rfl) ?_
  rintro _ T1 L1 X1 ⟨rfl, N1q, e1⟩
  have N1 := Fr.app N0 N1q
  show GoE p e below _ (T1.setTop (mkF m 5 #[.val (.ref q1), .val (.int (0 : Int32))] []))
  refine g_aloadN X1 hx hby d16_5 (pc' := 6) rfl rfl rfl ?_
  refine g_iloadN X1 hx hby d16_6 (pc' := 7) rfl rfl ?_
  refine g_callS X1 hx hZ hown (W := 0) (argsL := [.ref q1, .int (0 : Int32)]) (rest := []) hby d16_7 (pc' := 10) rfl (by rw [hml]; rfl) (w_46 hw) (w_47 hw) (w_24 hw) (w_48 hw) (by decide) (rmG20 l Z a0 hw [] q1 h0 n0 u0 u1 u2 u3 _ A_q cs fm SS O0) e1 (by decide) (by decide) (by decide) (by decide) rfl pd__28_5bBI_29C rfl rfl (Nat.le_of_eq rfl) ?_
  rintro _ T2 L2 X2 ⟨rfl, N2q, e2⟩
  have N2 := Fr.app N1 N2q
  show GoE p e below _ (T2.setTop (mkF m 10 #[.val (.ref q1), .val (.int (0 : Int32))] [.int (gch u0 u1)]))
  exact g_retN (Q := (fun v h L => v = some (.int (gch u0 u1)) ∧ Fr n0 L ∧ h = h0)) (w := (gch u0 u1)) X2 hx hby d16_10 hret (by simp) (own_narc (own_ch _)) hlk (by decide) (by decide) ⟨rfl, N2, e2⟩
theorem ef_rmUC2_1 (q1 : Addr) (m : MethodId) : entryFrame m #[.ref q1, .int (1 : Int32)] 2 = mkF m 0 #[.val (.ref q1), .val (.int (1 : Int32))] [] := by
  first | (simp [entryFrame, mkF, argsToLocals, Value.category]; done) | rfl
set_option maxRecDepth 65536 in
set_option maxHeartbeats 40000000 in
theorem rmUC2_1 (l : Launch) (Z : State) (a0 : Array Value) (hw : ∀ d ∈ tables_1, d.before a0 Z = true) (ws : List Jvm.Cond) (q1 : Addr) (h0 : Heap) (n0 : Nat) (u0 u1 u2 u3 : Int32) (kq : ClassId) (A_q : Arv Z h0 q1 kq .byte (4 : Int32) [.int u0, .int u1, .int u2, .int u3] (.int 0)) (cs : Int32) (fm : Value) (SS : SSt Z cs fm) (O0 : Old Z n0 h0) :
    Ctr l Z ({ cls := "java/lang/StringUTF16", name := "charAt", desc := "([BI)C" } : Jvm.MethodName) jdk_52_method_83_code 2 (some .char) ws ({ frames := 3, cells := 0, slots := 0, locals := 40 } : Room) #[.ref q1, .int (1 : Int32)] h0 (fun v h L => v = some (.int (gch u2 u3)) ∧ Fr n0 L ∧ h = h0) := by
  refine Ctr.enter (Ls := #[.val (.ref q1), .val (.int (1 : Int32))]) (by decide +kernel) (fun m => ef_rmUC2_1 q1 m) ?_
  intro p e s m below meth c T hx hby hml hown hnm hret hlk hZ hh X0 e0
  have N0 := Fr.nil n0
  refine g_iloadN X0 hx hby d16_0 (pc' := 1) rfl rfl ?_
  refine g_aloadN X0 hx hby d16_1 (pc' := 2) rfl rfl rfl ?_
  refine g_callS X0 hx hZ hown (W := 0) (argsL := [.int (1 : Int32), .ref q1]) (rest := []) hby d16_2 (pc' := 5) rfl (by rw [hml]; rfl) (w_73 hw) (w_74 hw) (w_24 hw) (w_75 hw) (by decide) (rmUI2_1 l Z a0 hw [] q1 h0 n0 _ _ A_q cs fm SS O0) e0 (by decide) (by decide) (by decide) (by decide) rfl pd__28I_5bB_29V rfl rfl (Nat.le_of_eq rfl) ?_
  rintro _ T1 L1 X1 ⟨rfl, N1q, e1⟩
  have N1 := Fr.app N0 N1q
  show GoE p e below _ (T1.setTop (mkF m 5 #[.val (.ref q1), .val (.int (1 : Int32))] []))
  refine g_aloadN X1 hx hby d16_5 (pc' := 6) rfl rfl rfl ?_
  refine g_iloadN X1 hx hby d16_6 (pc' := 7) rfl rfl ?_
  refine g_callS X1 hx hZ hown (W := 0) (argsL := [.ref q1, .int (1 : Int32)]) (rest := []) hby d16_7 (pc' := 10) rfl (by rw [hml]; rfl) (w_46 hw) (w_47 hw) (w_24 hw) (w_48 hw) (by decide) (rmG21 l Z a0 hw [] q1 h0 n0 u0 u1 u2 u3 _ A_q cs fm SS O0) e1 (by decide) (by decide) (by decide) (by decide) rfl pd__28_5bBI_29C rfl rfl (Nat.le_of_eq rfl) ?_
  rintro _ T2 L2 X2 ⟨rfl, N2q, e2⟩
  have N2 := Fr.app N1 N2q
  show GoE p e below _ (T2.setTop (mkF m 10 #[.val (.ref q1), .val (.int (1 : Int32))] [.int (gch u2 u3)]))
  exact g_retN (Q := (fun v h L => v = some (.int (gch u2 u3)) ∧ Fr n0 L ∧ h = h0)) (w := (gch u2 u3)) X2 hx hby d16_10 hret (by simp) (own_narc (own_ch _)) hlk (by decide) (by decide) ⟨rfl, N2, e2⟩
theorem ef_rmUC3_0 (q1 : Addr) (m : MethodId) : entryFrame m #[.ref q1, .int (0 : Int32)] 2 = mkF m 0 #[.val (.ref q1), .val (.int (0 : Int32))] [] := by
  first | (simp [entryFrame, mkF, argsToLocals, Value.category]; done) | rfl
set_option maxRecDepth 65536 in
set_option maxHeartbeats 40000000 in
theorem rmUC3_0 (l : Launch) (Z : State) (a0 : Array Value) (hw : ∀ d ∈ tables_1, d.before a0 Z = true) (ws : List Jvm.Cond) (q1 : Addr) (h0 : Heap) (n0 : Nat) (u0 u1 u2 u3 u4 u5 : Int32) (kq : ClassId) (A_q : Arv Z h0 q1 kq .byte (6 : Int32) [.int u0, .int u1, .int u2, .int u3, .int u4, .int u5] (.int 0)) (cs : Int32) (fm : Value) (SS : SSt Z cs fm) (O0 : Old Z n0 h0) :
    Ctr l Z ({ cls := "java/lang/StringUTF16", name := "charAt", desc := "([BI)C" } : Jvm.MethodName) jdk_52_method_83_code 2 (some .char) ws ({ frames := 3, cells := 0, slots := 0, locals := 40 } : Room) #[.ref q1, .int (0 : Int32)] h0 (fun v h L => v = some (.int (gch u0 u1)) ∧ Fr n0 L ∧ h = h0) := by
  refine Ctr.enter (Ls := #[.val (.ref q1), .val (.int (0 : Int32))]) (by decide +kernel) (fun m => ef_rmUC3_0 q1 m) ?_
  intro p e s m below meth c T hx hby hml hown hnm hret hlk hZ hh X0 e0
  have N0 := Fr.nil n0
  refine g_iloadN X0 hx hby d16_0 (pc' := 1) rfl rfl ?_
  refine g_aloadN X0 hx hby d16_1 (pc' := 2) rfl rfl rfl ?_
  refine g_callS X0 hx hZ hown (W := 0) (argsL := [.int (0 : Int32), .ref q1]) (rest := []) hby d16_2 (pc' := 5) rfl (by rw [hml]; rfl) (w_73 hw) (w_74 hw) (w_24 hw) (w_75 hw) (by decide) (rmUI3_0 l Z a0 hw [] q1 h0 n0 _ _ A_q cs fm SS O0) e0 (by decide) (by decide) (by decide) (by decide) rfl pd__28I_5bB_29V rfl rfl (Nat.le_of_eq rfl) ?_
  rintro _ T1 L1 X1 ⟨rfl, N1q, e1⟩
  have N1 := Fr.app N0 N1q
  show GoE p e below _ (T1.setTop (mkF m 5 #[.val (.ref q1), .val (.int (0 : Int32))] []))
  refine g_aloadN X1 hx hby d16_5 (pc' := 6) rfl rfl rfl ?_
  refine g_iloadN X1 hx hby d16_6 (pc' := 7) rfl rfl ?_
  refine g_callS X1 hx hZ hown (W := 0) (argsL := [.ref q1, .int (0 : Int32)]) (rest := []) hby d16_7 (pc' := 10) rfl (by rw [hml]; rfl) (w_46 hw) (w_47 hw) (w_24 hw) (w_48 hw) (by decide) (rmG30 l Z a0 hw [] q1 h0 n0 u0 u1 u2 u3 u4 u5 _ A_q cs fm SS O0) e1 (by decide) (by decide) (by decide) (by decide) rfl pd__28_5bBI_29C rfl rfl (Nat.le_of_eq rfl) ?_
  rintro _ T2 L2 X2 ⟨rfl, N2q, e2⟩
  have N2 := Fr.app N1 N2q
  show GoE p e below _ (T2.setTop (mkF m 10 #[.val (.ref q1), .val (.int (0 : Int32))] [.int (gch u0 u1)]))
  exact g_retN (Q := (fun v h L => v = some (.int (gch u0 u1)) ∧ Fr n0 L ∧ h = h0)) (w := (gch u0 u1)) X2 hx hby d16_10 hret (by simp) (own_narc (own_ch _)) hlk (by decide) (by decide) ⟨rfl, N2, e2⟩
theorem ef_rmUC3_1 (q1 : Addr) (m : MethodId) : entryFrame m #[.ref q1, .int (1 : Int32)] 2 = mkF m 0 #[.val (.ref q1), .val (.int (1 : Int32))] [] := by
  first | (simp [entryFrame, mkF, argsToLocals, Value.category]; done) | rfl
set_option maxRecDepth 65536 in
set_option maxHeartbeats 40000000 in
theorem rmUC3_1 (l : Launch) (Z : State) (a0 : Array Value) (hw : ∀ d ∈ tables_1, d.before a0 Z = true) (ws : List Jvm.Cond) (q1 : Addr) (h0 : Heap) (n0 : Nat) (u0 u1 u2 u3 u4 u5 : Int32) (kq : ClassId) (A_q : Arv Z h0 q1 kq .byte (6 : Int32) [.int u0, .int u1, .int u2, .int u3, .int u4, .int u5] (.int 0)) (cs : Int32) (fm : Value) (SS : SSt Z cs fm) (O0 : Old Z n0 h0) :
    Ctr l Z ({ cls := "java/lang/StringUTF16", name := "charAt", desc := "([BI)C" } : Jvm.MethodName) jdk_52_method_83_code 2 (some .char) ws ({ frames := 3, cells := 0, slots := 0, locals := 40 } : Room) #[.ref q1, .int (1 : Int32)] h0 (fun v h L => v = some (.int (gch u2 u3)) ∧ Fr n0 L ∧ h = h0) := by
  refine Ctr.enter (Ls := #[.val (.ref q1), .val (.int (1 : Int32))]) (by decide +kernel) (fun m => ef_rmUC3_1 q1 m) ?_
  intro p e s m below meth c T hx hby hml hown hnm hret hlk hZ hh X0 e0
  have N0 := Fr.nil n0
  refine g_iloadN X0 hx hby d16_0 (pc' := 1) rfl rfl ?_
  refine g_aloadN X0 hx hby d16_1 (pc' := 2) rfl rfl rfl ?_
  refine g_callS X0 hx hZ hown (W := 0) (argsL := [.int (1 : Int32), .ref q1]) (rest := []) hby d16_2 (pc' := 5) rfl (by rw [hml]; rfl) (w_73 hw) (w_74 hw) (w_24 hw) (w_75 hw) (by decide) (rmUI3_1 l Z a0 hw [] q1 h0 n0 _ _ A_q cs fm SS O0) e0 (by decide) (by decide) (by decide) (by decide) rfl pd__28I_5bB_29V rfl rfl (Nat.le_of_eq rfl) ?_
  rintro _ T1 L1 X1 ⟨rfl, N1q, e1⟩
  have N1 := Fr.app N0 N1q
  show GoE p e below _ (T1.setTop (mkF m 5 #[.val (.ref q1), .val (.int (1 : Int32))] []))
  refine g_aloadN X1 hx hby d16_5 (pc' := 6) rfl rfl rfl ?_
  refine g_iloadN X1 hx hby d16_6 (pc' := 7) rfl rfl ?_
  refine g_callS X1 hx hZ hown (W := 0) (argsL := [.ref q1, .int (1 : Int32)]) (rest := []) hby d16_7 (pc' := 10) rfl (by rw [hml]; rfl) (w_46 hw) (w_47 hw) (w_24 hw) (w_48 hw) (by decide) (rmG31 l Z a0 hw [] q1 h0 n0 u0 u1 u2 u3 u4 u5 _ A_q cs fm SS O0) e1 (by decide) (by decide) (by decide) (by decide) rfl pd__28_5bBI_29C rfl rfl (Nat.le_of_eq rfl) ?_
  rintro _ T2 L2 X2 ⟨rfl, N2q, e2⟩
  have N2 := Fr.app N1 N2q
  show GoE p e below _ (T2.setTop (mkF m 10 #[.val (.ref q1), .val (.int (1 : Int32))] [.int (gch u2 u3)]))
  exact g_retN (Q := (fun v h L => v = some (.int (gch u2 u3)) ∧ Fr n0 L ∧ h = h0)) (w := (gch u2 u3)) X2 hx hby d16_10 hret (by simp) (own_narc (own_ch _)) hlk (by decide) (by decide) ⟨rfl, N2, e2⟩
theorem ef_rmUC3_2 (q1 : Addr) (m : MethodId) : entryFrame m #[.ref q1, .int (2 : Int32)] 2 = mkF m 0 #[.val (.ref q1), .val (.int (2 : Int32))] [] := by
  first | (simp [entryFrame, mkF, argsToLocals, Value.category]; done) | rfl
set_option maxRecDepth 65536 in
set_option maxHeartbeats 40000000 in
theorem rmUC3_2 (l : Launch) (Z : State) (a0 : Array Value) (hw : ∀ d ∈ tables_1, d.before a0 Z = true) (ws : List Jvm.Cond) (q1 : Addr) (h0 : Heap) (n0 : Nat) (u0 u1 u2 u3 u4 u5 : Int32) (kq : ClassId) (A_q : Arv Z h0 q1 kq .byte (6 : Int32) [.int u0, .int u1, .int u2, .int u3, .int u4, .int u5] (.int 0)) (cs : Int32) (fm : Value) (SS : SSt Z cs fm) (O0 : Old Z n0 h0) :
    Ctr l Z ({ cls := "java/lang/StringUTF16", name := "charAt", desc := "([BI)C" } : Jvm.MethodName) jdk_52_method_83_code 2 (some .char) ws ({ frames := 3, cells := 0, slots := 0, locals := 40 } : Room) #[.ref q1, .int (2 : Int32)] h0 (fun v h L => v = some (.int (gch u4 u5)) ∧ Fr n0 L ∧ h = h0) := by
  refine Ctr.enter (Ls := #[.val (.ref q1), .val (.int (2 : Int32))]) (by decide +kernel) (fun m => ef_rmUC3_2 q1 m) ?_
  intro p e s m below meth c T hx hby hml hown hnm hret hlk hZ hh X0 e0
  have N0 := Fr.nil n0
  refine g_iloadN X0 hx hby d16_0 (pc' := 1) rfl rfl ?_
  refine g_aloadN X0 hx hby d16_1 (pc' := 2) rfl rfl rfl ?_
  refine g_callS X0 hx hZ hown (W := 0) (argsL := [.int (2 : Int32), .ref q1]) (rest := []) hby d16_2 (pc' := 5) rfl (by rw [hml]; rfl) (w_73 hw) (w_74 hw) (w_24 hw) (w_75 hw) (by decide) (rmUI3_2 l Z a0 hw [] q1 h0 n0 _ _ A_q cs fm SS O0) e0 (by decide) (by decide) (by decide) (by decide) rfl pd__28I_5bB_29V rfl rfl (Nat.le_of_eq rfl) ?_
  rintro _ T1 L1 X1 ⟨rfl, N1q, e1⟩
  have N1 := Fr.app N0 N1q
  show GoE p e below _ (T1.setTop (mkF m 5 #[.val (.ref q1), .val (.int (2 : Int32))] []))
  refine g_aloadN X1 hx hby d16_5 (pc' := 6) rfl rfl rfl ?_
  refine g_iloadN X1 hx hby d16_6 (pc' := 7) rfl rfl ?_
  refine g_callS X1 hx hZ hown (W := 0) (argsL := [.ref q1, .int (2 : Int32)]) (rest := []) hby d16_7 (pc' := 10) rfl (by rw [hml]; rfl) (w_46 hw) (w_47 hw) (w_24 hw) (w_48 hw) (by decide) (rmG32 l Z a0 hw [] q1 h0 n0 u0 u1 u2 u3 u4 u5 _ A_q cs fm SS O0) e1 (by decide) (by decide) (by decide) (by decide) rfl pd__28_5bBI_29C rfl rfl (Nat.le_of_eq rfl) ?_
  rintro _ T2 L2 X2 ⟨rfl, N2q, e2⟩
  have N2 := Fr.app N1 N2q
  show GoE p e below _ (T2.setTop (mkF m 10 #[.val (.ref q1), .val (.int (2 : Int32))] [.int (gch u4 u5)]))
  exact g_retN (Q := (fun v h L => v = some (.int (gch u4 u5)) ∧ Fr n0 L ∧ h = h0)) (w := (gch u4 u5)) X2 hx hby d16_10 hret (by simp) (own_narc (own_ch _)) hlk (by decide) (by decide) ⟨rfl, N2, e2⟩
theorem ef_rmLC1_0 (q1 : Addr) (m : MethodId) : entryFrame m #[.ref q1, .int (0 : Int32)] 2 = mkF m 0 #[.val (.ref q1), .val (.int (0 : Int32))] [] := by
  first | (simp [entryFrame, mkF, argsToLocals, Value.category]; done) | rfl
set_option maxRecDepth 65536 in
set_option maxHeartbeats 40000000 in
theorem rmLC1_0 (l : Launch) (Z : State) (a0 : Array Value) (hw : ∀ d ∈ tables_1, d.before a0 Z = true) (ws : List Jvm.Cond) (q1 : Addr) (h0 : Heap) (n0 : Nat) (u0 : Int32) (kq : ClassId) (A_q : Arv Z h0 q1 kq .byte (1 : Int32) [.int u0] (.int 0)) (cs : Int32) (fm : Value) (SS : SSt Z cs fm) (O0 : Old Z n0 h0) :
    Ctr l Z ({ cls := "java/lang/StringLatin1", name := "charAt", desc := "([BI)C" } : Jvm.MethodName) jdk_43_method_2_code 2 (some .char) ws ({ frames := 2, cells := 0, slots := 0, locals := 27 } : Room) #[.ref q1, .int (0 : Int32)] h0 (fun v h L => v = some (.int (lch u0)) ∧ Fr n0 L ∧ h = h0) := by
  refine Ctr.enter (Ls := #[.val (.ref q1), .val (.int (0 : Int32))]) (by decide +kernel) (fun m => ef_rmLC1_0 q1 m) ?_
  intro p e s m below meth c T hx hby hml hown hnm hret hlk hZ hh X0 e0
  have N0 := Fr.nil n0
  refine g_iloadN X0 hx hby d26_0 (pc' := 1) rfl rfl ?_
  refine g_aloadN X0 hx hby d26_1 (pc' := 2) rfl rfl rfl ?_
  refine g_alen X0 hx hZ hby d26_2 (pc' := 3) rfl e0 A_q ?_
  refine g_callS X0 hx hZ hown (W := 0) (argsL := [.int (0 : Int32), .int (1 : Int32)]) (rest := []) hby d26_3 (pc' := 6) rfl (by rw [hml]; rfl) (w_116 hw) (w_80 hw) (w_10 hw) (w_81 hw) (by decide) (rmCI l Z a0 hw [] (0 : Int32) (1 : Int32) h0 n0 (by decide) cs fm SS O0) e0 (by decide) (by decide) (by decide) (by decide) rfl pd__28II_29V rfl rfl (Nat.le_of_eq rfl) ?_
  rintro _ T1 L1 X1 ⟨rfl, N1q, e1⟩
  have N1 := Fr.app N0 N1q
  show GoE p e below _ (T1.setTop (mkF m 6 #[.val (.ref q1), .val (.int (0 : Int32))] []))
  refine g_aloadN X1 hx hby d26_6 (pc' := 7) rfl rfl rfl ?_
  refine g_iloadN X1 hx hby d26_7 (pc' := 8) rfl rfl ?_
  refine g_baload X1 hx hZ hby d26_8 (pc' := 9) rfl e1 A_q (by decide) (v := .int u0) rfl ?_
  refine g_sipush X1 hx hby d26_9 (pc' := 12) rfl (z := (255 : Int32)) rfl ?_
  refine g_iand X1 hx hby d26_12 (pc' := 13) rfl ?_
  refine g_i2c X1 hx hby d26_13 (pc' := 14) rfl ?_
  exact g_retN (Q := (fun v h L => v = some (.int (lch u0)) ∧ Fr n0 L ∧ h = h0)) (w := (u0 &&& (255 : Int32)).toUInt32.toUInt16.toUInt32.toInt32) X1 hx hby d26_14 hret (by simp) (own_narc (own_ch _)) hlk (by decide) (by decide) ⟨rfl, N1, e1⟩
theorem ef_rmLC2_0 (q1 : Addr) (m : MethodId) : entryFrame m #[.ref q1, .int (0 : Int32)] 2 = mkF m 0 #[.val (.ref q1), .val (.int (0 : Int32))] [] := by
  first | (simp [entryFrame, mkF, argsToLocals, Value.category]; done) | rfl
set_option maxRecDepth 65536 in
set_option maxHeartbeats 40000000 in
theorem rmLC2_0 (l : Launch) (Z : State) (a0 : Array Value) (hw : ∀ d ∈ tables_1, d.before a0 Z = true) (ws : List Jvm.Cond) (q1 : Addr) (h0 : Heap) (n0 : Nat) (u0 u1 : Int32) (kq : ClassId) (A_q : Arv Z h0 q1 kq .byte (2 : Int32) [.int u0, .int u1] (.int 0)) (cs : Int32) (fm : Value) (SS : SSt Z cs fm) (O0 : Old Z n0 h0) :
    Ctr l Z ({ cls := "java/lang/StringLatin1", name := "charAt", desc := "([BI)C" } : Jvm.MethodName) jdk_43_method_2_code 2 (some .char) ws ({ frames := 2, cells := 0, slots := 0, locals := 27 } : Room) #[.ref q1, .int (0 : Int32)] h0 (fun v h L => v = some (.int (lch u0)) ∧ Fr n0 L ∧ h = h0) := by
  refine Ctr.enter (Ls := #[.val (.ref q1), .val (.int (0 : Int32))]) (by decide +kernel) (fun m => ef_rmLC2_0 q1 m) ?_
  intro p e s m below meth c T hx hby hml hown hnm hret hlk hZ hh X0 e0
  have N0 := Fr.nil n0
  refine g_iloadN X0 hx hby d26_0 (pc' := 1) rfl rfl ?_
  refine g_aloadN X0 hx hby d26_1 (pc' := 2) rfl rfl rfl ?_
  refine g_alen X0 hx hZ hby d26_2 (pc' := 3) rfl e0 A_q ?_
  refine g_callS X0 hx hZ hown (W := 0) (argsL := [.int (0 : Int32), .int (2 : Int32)]) (rest := []) hby d26_3 (pc' := 6) rfl (by rw [hml]; rfl) (w_116 hw) (w_80 hw) (w_10 hw) (w_81 hw) (by decide) (rmCI l Z a0 hw [] (0 : Int32) (2 : Int32) h0 n0 (by decide) cs fm SS O0) e0 (by decide) (by decide) (by decide) (by decide) rfl pd__28II_29V rfl rfl (Nat.le_of_eq rfl) ?_
  rintro _ T1 L1 X1 ⟨rfl, N1q, e1⟩
  have N1 := Fr.app N0 N1q
  show GoE p e below _ (T1.setTop (mkF m 6 #[.val (.ref q1), .val (.int (0 : Int32))] []))
  refine g_aloadN X1 hx hby d26_6 (pc' := 7) rfl rfl rfl ?_
  refine g_iloadN X1 hx hby d26_7 (pc' := 8) rfl rfl ?_
  refine g_baload X1 hx hZ hby d26_8 (pc' := 9) rfl e1 A_q (by decide) (v := .int u0) rfl ?_
  refine g_sipush X1 hx hby d26_9 (pc' := 12) rfl (z := (255 : Int32)) rfl ?_
  refine g_iand X1 hx hby d26_12 (pc' := 13) rfl ?_
  refine g_i2c X1 hx hby d26_13 (pc' := 14) rfl ?_
  exact g_retN (Q := (fun v h L => v = some (.int (lch u0)) ∧ Fr n0 L ∧ h = h0)) (w := (u0 &&& (255 : Int32)).toUInt32.toUInt16.toUInt32.toInt32) X1 hx hby d26_14 hret (by simp) (own_narc (own_ch _)) hlk (by decide) (by decide) ⟨rfl, N1, e1⟩
theorem ef_rmLC2_1 (q1 : Addr) (m : MethodId) : entryFrame m #[.ref q1, .int (1 : Int32)] 2 = mkF m 0 #[.val (.ref q1), .val (.int (1 : Int32))] [] := by
  first | (simp [entryFrame, mkF, argsToLocals, Value.category]; done) | rfl
set_option maxRecDepth 65536 in
set_option maxHeartbeats 40000000 in
theorem rmLC2_1 (l : Launch) (Z : State) (a0 : Array Value) (hw : ∀ d ∈ tables_1, d.before a0 Z = true) (ws : List Jvm.Cond) (q1 : Addr) (h0 : Heap) (n0 : Nat) (u0 u1 : Int32) (kq : ClassId) (A_q : Arv Z h0 q1 kq .byte (2 : Int32) [.int u0, .int u1] (.int 0)) (cs : Int32) (fm : Value) (SS : SSt Z cs fm) (O0 : Old Z n0 h0) :
    Ctr l Z ({ cls := "java/lang/StringLatin1", name := "charAt", desc := "([BI)C" } : Jvm.MethodName) jdk_43_method_2_code 2 (some .char) ws ({ frames := 2, cells := 0, slots := 0, locals := 27 } : Room) #[.ref q1, .int (1 : Int32)] h0 (fun v h L => v = some (.int (lch u1)) ∧ Fr n0 L ∧ h = h0) := by
  refine Ctr.enter (Ls := #[.val (.ref q1), .val (.int (1 : Int32))]) (by decide +kernel) (fun m => ef_rmLC2_1 q1 m) ?_
  intro p e s m below meth c T hx hby hml hown hnm hret hlk hZ hh X0 e0
  have N0 := Fr.nil n0
  refine g_iloadN X0 hx hby d26_0 (pc' := 1) rfl rfl ?_
  refine g_aloadN X0 hx hby d26_1 (pc' := 2) rfl rfl rfl ?_
  refine g_alen X0 hx hZ hby d26_2 (pc' := 3) rfl e0 A_q ?_
  refine g_callS X0 hx hZ hown (W := 0) (argsL := [.int (1 : Int32), .int (2 : Int32)]) (rest := []) hby d26_3 (pc' := 6) rfl (by rw [hml]; rfl) (w_116 hw) (w_80 hw) (w_10 hw) (w_81 hw) (by decide) (rmCI l Z a0 hw [] (1 : Int32) (2 : Int32) h0 n0 (by decide) cs fm SS O0) e0 (by decide) (by decide) (by decide) (by decide) rfl pd__28II_29V rfl rfl (Nat.le_of_eq rfl) ?_
  rintro _ T1 L1 X1 ⟨rfl, N1q, e1⟩
  have N1 := Fr.app N0 N1q
  show GoE p e below _ (T1.setTop (mkF m 6 #[.val (.ref q1), .val (.int (1 : Int32))] []))
  refine g_aloadN X1 hx hby d26_6 (pc' := 7) rfl rfl rfl ?_
  refine g_iloadN X1 hx hby d26_7 (pc' := 8) rfl rfl ?_
  refine g_baload X1 hx hZ hby d26_8 (pc' := 9) rfl e1 A_q (by decide) (v := .int u1) rfl ?_
  refine g_sipush X1 hx hby d26_9 (pc' := 12) rfl (z := (255 : Int32)) rfl ?_
  refine g_iand X1 hx hby d26_12 (pc' := 13) rfl ?_
  refine g_i2c X1 hx hby d26_13 (pc' := 14) rfl ?_
  exact g_retN (Q := (fun v h L => v = some (.int (lch u1)) ∧ Fr n0 L ∧ h = h0)) (w := (u1 &&& (255 : Int32)).toUInt32.toUInt16.toUInt32.toInt32) X1 hx hby d26_14 hret (by simp) (own_narc (own_ch _)) hlk (by decide) (by decide) ⟨rfl, N1, e1⟩
theorem ef_rmLC3_0 (q1 : Addr) (m : MethodId) : entryFrame m #[.ref q1, .int (0 : Int32)] 2 = mkF m 0 #[.val (.ref q1), .val (.int (0 : Int32))] [] := by
  first | (simp [entryFrame, mkF, argsToLocals, Value.category]; done) | rfl
set_option maxRecDepth 65536 in
set_option maxHeartbeats 40000000 in
theorem rmLC3_0 (l : Launch) (Z : State) (a0 : Array Value) (hw : ∀ d ∈ tables_1, d.before a0 Z = true) (ws : List Jvm.Cond) (q1 : Addr) (h0 : Heap) (n0 : Nat) (u0 u1 u2 : Int32) (kq : ClassId) (A_q : Arv Z h0 q1 kq .byte (3 : Int32) [.int u0, .int u1, .int u2] (.int 0)) (cs : Int32) (fm : Value) (SS : SSt Z cs fm) (O0 : Old Z n0 h0) :
    Ctr l Z ({ cls := "java/lang/StringLatin1", name := "charAt", desc := "([BI)C" } : Jvm.MethodName) jdk_43_method_2_code 2 (some .char) ws ({ frames := 2, cells := 0, slots := 0, locals := 27 } : Room) #[.ref q1, .int (0 : Int32)] h0 (fun v h L => v = some (.int (lch u0)) ∧ Fr n0 L ∧ h = h0) := by
  refine Ctr.enter (Ls := #[.val (.ref q1), .val (.int (0 : Int32))]) (by decide +kernel) (fun m => ef_rmLC3_0 q1 m) ?_
  intro p e s m below meth c T hx hby hml hown hnm hret hlk hZ hh X0 e0
  have N0 := Fr.nil n0
  refine g_iloadN X0 hx hby d26_0 (pc' := 1) rfl rfl ?_
  refine g_aloadN X0 hx hby d26_1 (pc' := 2) rfl rfl rfl ?_
  refine g_alen X0 hx hZ hby d26_2 (pc' := 3) rfl e0 A_q ?_
  refine g_callS X0 hx hZ hown (W := 0) (argsL := [.int (0 : Int32), .int (3 : Int32)]) (rest := []) hby d26_3 (pc' := 6) rfl (by rw [hml]; rfl) (w_116 hw) (w_80 hw) (w_10 hw) (w_81 hw) (by decide) (rmCI l Z a0 hw [] (0 : Int32) (3 : Int32) h0 n0 (by decide) cs fm SS O0) e0 (by decide) (by decide) (by decide) (by decide) rfl pd__28II_29V rfl rfl (Nat.le_of_eq rfl) ?_
  rintro _ T1 L1 X1 ⟨rfl, N1q, e1⟩
  have N1 := Fr.app N0 N1q
  show GoE p e below _ (T1.setTop (mkF m 6 #[.val (.ref q1), .val (.int (0 : Int32))] []))
  refine g_aloadN X1 hx hby d26_6 (pc' := 7) rfl rfl rfl ?_
  refine g_iloadN X1 hx hby d26_7 (pc' := 8) rfl rfl ?_
  refine g_baload X1 hx hZ hby d26_8 (pc' := 9) rfl e1 A_q (by decide) (v := .int u0) rfl ?_
  refine g_sipush X1 hx hby d26_9 (pc' := 12) rfl (z := (255 : Int32)) rfl ?_
  refine g_iand X1 hx hby d26_12 (pc' := 13) rfl ?_
  refine g_i2c X1 hx hby d26_13 (pc' := 14) rfl ?_
  exact g_retN (Q := (fun v h L => v = some (.int (lch u0)) ∧ Fr n0 L ∧ h = h0)) (w := (u0 &&& (255 : Int32)).toUInt32.toUInt16.toUInt32.toInt32) X1 hx hby d26_14 hret (by simp) (own_narc (own_ch _)) hlk (by decide) (by decide) ⟨rfl, N1, e1⟩
theorem ef_rmLC3_1 (q1 : Addr) (m : MethodId) : entryFrame m #[.ref q1, .int (1 : Int32)] 2 = mkF m 0 #[.val (.ref q1), .val (.int (1 : Int32))] [] := by
  first | (simp [entryFrame, mkF, argsToLocals, Value.category]; done) | rfl
set_option maxRecDepth 65536 in
set_option maxHeartbeats 40000000 in
theorem rmLC3_1 (l : Launch) (Z : State) (a0 : Array Value) (hw : ∀ d ∈ tables_1, d.before a0 Z = true) (ws : List Jvm.Cond) (q1 : Addr) (h0 : Heap) (n0 : Nat) (u0 u1 u2 : Int32) (kq : ClassId) (A_q : Arv Z h0 q1 kq .byte (3 : Int32) [.int u0, .int u1, .int u2] (.int 0)) (cs : Int32) (fm : Value) (SS : SSt Z cs fm) (O0 : Old Z n0 h0) :
    Ctr l Z ({ cls := "java/lang/StringLatin1", name := "charAt", desc := "([BI)C" } : Jvm.MethodName) jdk_43_method_2_code 2 (some .char) ws ({ frames := 2, cells := 0, slots := 0, locals := 27 } : Room) #[.ref q1, .int (1 : Int32)] h0 (fun v h L => v = some (.int (lch u1)) ∧ Fr n0 L ∧ h = h0) := by
  refine Ctr.enter (Ls := #[.val (.ref q1), .val (.int (1 : Int32))]) (by decide +kernel) (fun m => ef_rmLC3_1 q1 m) ?_
  intro p e s m below meth c T hx hby hml hown hnm hret hlk hZ hh X0 e0
  have N0 := Fr.nil n0
  refine g_iloadN X0 hx hby d26_0 (pc' := 1) rfl rfl ?_
  refine g_aloadN X0 hx hby d26_1 (pc' := 2) rfl rfl rfl ?_
  refine g_alen X0 hx hZ hby d26_2 (pc' := 3) rfl e0 A_q ?_
  refine g_callS X0 hx hZ hown (W := 0) (argsL := [.int (1 : Int32), .int (3 : Int32)]) (rest := []) hby d26_3 (pc' := 6) rfl (by rw [hml]; rfl) (w_116 hw) (w_80 hw) (w_10 hw) (w_81 hw) (by decide) (rmCI l Z a0 hw [] (1 : Int32) (3 : Int32) h0 n0 (by decide) cs fm SS O0) e0 (by decide) (by decide) (by decide) (by decide) rfl pd__28II_29V rfl rfl (Nat.le_of_eq rfl) ?_
  rintro _ T1 L1 X1 ⟨rfl, N1q, e1⟩
  have N1 := Fr.app N0 N1q
  show GoE p e below _ (T1.setTop (mkF m 6 #[.val (.ref q1), .val (.int (1 : Int32))] []))
  refine g_aloadN X1 hx hby d26_6 (pc' := 7) rfl rfl rfl ?_
  refine g_iloadN X1 hx hby d26_7 (pc' := 8) rfl rfl ?_
  refine g_baload X1 hx hZ hby d26_8 (pc' := 9) rfl e1 A_q (by decide) (v := .int u1) rfl ?_
  refine g_sipush X1 hx hby d26_9 (pc' := 12) rfl (z := (255 : Int32)) rfl ?_
  refine g_iand X1 hx hby d26_12 (pc' := 13) rfl ?_
  refine g_i2c X1 hx hby d26_13 (pc' := 14) rfl ?_
  exact g_retN (Q := (fun v h L => v = some (.int (lch u1)) ∧ Fr n0 L ∧ h = h0)) (w := (u1 &&& (255 : Int32)).toUInt32.toUInt16.toUInt32.toInt32) X1 hx hby d26_14 hret (by simp) (own_narc (own_ch _)) hlk (by decide) (by decide) ⟨rfl, N1, e1⟩
theorem ef_rmLC3_2 (q1 : Addr) (m : MethodId) : entryFrame m #[.ref q1, .int (2 : Int32)] 2 = mkF m 0 #[.val (.ref q1), .val (.int (2 : Int32))] [] := by
  first | (simp [entryFrame, mkF, argsToLocals, Value.category]; done) | rfl
set_option maxRecDepth 65536 in
set_option maxHeartbeats 40000000 in
theorem rmLC3_2 (l : Launch) (Z : State) (a0 : Array Value) (hw : ∀ d ∈ tables_1, d.before a0 Z = true) (ws : List Jvm.Cond) (q1 : Addr) (h0 : Heap) (n0 : Nat) (u0 u1 u2 : Int32) (kq : ClassId) (A_q : Arv Z h0 q1 kq .byte (3 : Int32) [.int u0, .int u1, .int u2] (.int 0)) (cs : Int32) (fm : Value) (SS : SSt Z cs fm) (O0 : Old Z n0 h0) :
    Ctr l Z ({ cls := "java/lang/StringLatin1", name := "charAt", desc := "([BI)C" } : Jvm.MethodName) jdk_43_method_2_code 2 (some .char) ws ({ frames := 2, cells := 0, slots := 0, locals := 27 } : Room) #[.ref q1, .int (2 : Int32)] h0 (fun v h L => v = some (.int (lch u2)) ∧ Fr n0 L ∧ h = h0) := by
  refine Ctr.enter (Ls := #[.val (.ref q1), .val (.int (2 : Int32))]) (by decide +kernel) (fun m => ef_rmLC3_2 q1 m) ?_
  intro p e s m below meth c T hx hby hml hown hnm hret hlk hZ hh X0 e0
  have N0 := Fr.nil n0
  refine g_iloadN X0 hx hby d26_0 (pc' := 1) rfl rfl ?_
  refine g_aloadN X0 hx hby d26_1 (pc' := 2) rfl rfl rfl ?_
  refine g_alen X0 hx hZ hby d26_2 (pc' := 3) rfl e0 A_q ?_
  refine g_callS X0 hx hZ hown (W := 0) (argsL := [.int (2 : Int32), .int (3 : Int32)]) (rest := []) hby d26_3 (pc' := 6) rfl (by rw [hml]; rfl) (w_116 hw) (w_80 hw) (w_10 hw) (w_81 hw) (by decide) (rmCI l Z a0 hw [] (2 : Int32) (3 : Int32) h0 n0 (by decide) cs fm SS O0) e0 (by decide) (by decide) (by decide) (by decide) rfl pd__28II_29V rfl rfl (Nat.le_of_eq rfl) ?_
  rintro _ T1 L1 X1 ⟨rfl, N1q, e1⟩
  have N1 := Fr.app N0 N1q
  show GoE p e below _ (T1.setTop (mkF m 6 #[.val (.ref q1), .val (.int (2 : Int32))] []))
  refine g_aloadN X1 hx hby d26_6 (pc' := 7) rfl rfl rfl ?_
  refine g_iloadN X1 hx hby d26_7 (pc' := 8) rfl rfl ?_
  refine g_baload X1 hx hZ hby d26_8 (pc' := 9) rfl e1 A_q (by decide) (v := .int u2) rfl ?_
  refine g_sipush X1 hx hby d26_9 (pc' := 12) rfl (z := (255 : Int32)) rfl ?_
  refine g_iand X1 hx hby d26_12 (pc' := 13) rfl ?_
  refine g_i2c X1 hx hby d26_13 (pc' := 14) rfl ?_
  exact g_retN (Q := (fun v h L => v = some (.int (lch u2)) ∧ Fr n0 L ∧ h = h0)) (w := (u2 &&& (255 : Int32)).toUInt32.toUInt16.toUInt32.toInt32) X1 hx hby d26_14 hret (by simp) (own_narc (own_ch _)) hlk (by decide) (by decide) ⟨rfl, N1, e1⟩
theorem ef_rmIL0 (q1 : Addr) (m : MethodId) : entryFrame m #[.ref q1] 1 = mkF m 0 #[.val (.ref q1)] [] := by
  first | (simp [entryFrame, mkF, argsToLocals, Value.category]; done) | rfl
set_option maxRecDepth 65536 in
set_option maxHeartbeats 40000000 in
theorem rmIL0 (l : Launch) (Z : State) (a0 : Array Value) (hw : ∀ d ∈ tables_1, d.before a0 Z = true) (ws : List Jvm.Cond) (q1 : Addr) (h0 : Heap) (n0 : Nat) (F_c : Fld Z h0 q1 "java/lang/String" "coder" "B" (.int (0 : Int32))) (cs : Int32) (fm : Value) (SS : SSt Z cs fm) (O0 : Old Z n0 h0) :
    Ctr l Z ({ cls := "java/lang/String", name := "isLatin1", desc := "()Z" } : Jvm.MethodName) jdk_42_method_154_code 1 (some .boolean) ws ({ frames := 0, cells := 0, slots := 0, locals := 0 } : Room) #[.ref q1] h0 (fun v h L => v = some (.int (1 : Int32)) ∧ Fr n0 L ∧ h = h0) := by
  refine Ctr.enter (Ls := #[.val (.ref q1)]) (by decide +kernel) (fun m => ef_rmIL0 q1 m) ?_
  intro p e s m below meth c T hx hby hml hown hnm hret hlk hZ hh X0 e0
  have N0 := Fr.nil n0
  refine g_getS X0 hx hZ hown hby d15_0 (pc' := 3) rfl (w_21 hw) e0 (SS.2.1.ext O0.2) ?_
  intro T1 X1 e1
  refine g_if_eq X1 hx hby d15_3 (by decide) (pc' := 17) (by decide) (pn := 6) rfl (fun z => absurd z SS.1) (fun hc3_2 => ?_)
  refine g_aloadN X1 hx hby d15_6 (pc' := 7) rfl rfl rfl ?_
  refine g_get X1 hx hZ hown hby d15_7 (pc' := 10) rfl (w_52 hw) e1 F_c ?_
  intro T3 X3 e3
  refine g_if_ne X3 hx hby d15_10 (by decide) (pc' := 17) (by decide) (pn := 13) rfl (fun z => absurd z (by decide)) (fun _ => ?_)
  refine g_iconst X3 hx hby d15_13 (pc' := 14) rfl (z := (1 : Int32)) rfl ?_
  refine g_goto X3 hx hby d15_14 (by decide) (pc' := 18) (by decide) ?_
  exact g_retN (Q := (fun v h L => v = some (.int (1 : Int32)) ∧ Fr n0 L ∧ h = h0)) (w := (1 : Int32)) X3 hx hby d15_18 hret (by simp) (by first | decide | rfl) hlk (by decide) (by decide) ⟨rfl, N0, e3⟩
theorem ef_rmIL1 (q1 : Addr) (m : MethodId) : entryFrame m #[.ref q1] 1 = mkF m 0 #[.val (.ref q1)] [] := by
  first | (simp [entryFrame, mkF, argsToLocals, Value.category]; done) | rfl
set_option maxRecDepth 65536 in
set_option maxHeartbeats 40000000 in
theorem rmIL1 (l : Launch) (Z : State) (a0 : Array Value) (hw : ∀ d ∈ tables_1, d.before a0 Z = true) (ws : List Jvm.Cond) (q1 : Addr) (h0 : Heap) (n0 : Nat) (F_c : Fld Z h0 q1 "java/lang/String" "coder" "B" (.int (1 : Int32))) (cs : Int32) (fm : Value) (SS : SSt Z cs fm) (O0 : Old Z n0 h0) :
    Ctr l Z ({ cls := "java/lang/String", name := "isLatin1", desc := "()Z" } : Jvm.MethodName) jdk_42_method_154_code 1 (some .boolean) ws ({ frames := 0, cells := 0, slots := 0, locals := 0 } : Room) #[.ref q1] h0 (fun v h L => v = some (.int (0 : Int32)) ∧ Fr n0 L ∧ h = h0) := by
  refine Ctr.enter (Ls := #[.val (.ref q1)]) (by decide +kernel) (fun m => ef_rmIL1 q1 m) ?_
  intro p e s m below meth c T hx hby hml hown hnm hret hlk hZ hh X0 e0
  have N0 := Fr.nil n0
  refine g_getS X0 hx hZ hown hby d15_0 (pc' := 3) rfl (w_21 hw) e0 (SS.2.1.ext O0.2) ?_
  intro T1 X1 e1
  refine g_if_eq X1 hx hby d15_3 (by decide) (pc' := 17) (by decide) (pn := 6) rfl (fun z => absurd z SS.1) (fun hc3_2 => ?_)
  refine g_aloadN X1 hx hby d15_6 (pc' := 7) rfl rfl rfl ?_
  refine g_get X1 hx hZ hown hby d15_7 (pc' := 10) rfl (w_52 hw) e1 F_c ?_
  intro T3 X3 e3
  refine g_if_ne X3 hx hby d15_10 (by decide) (pc' := 17) (by decide) (pn := 13) rfl (fun _ => ?_) (fun z => absurd z (by decide))
  refine g_iconst X3 hx hby d15_17 (pc' := 18) rfl (z := (0 : Int32)) rfl ?_
  exact g_retN (Q := (fun v h L => v = some (.int (0 : Int32)) ∧ Fr n0 L ∧ h = h0)) (w := (0 : Int32)) X3 hx hby d15_18 hret (by simp) (by first | decide | rfl) hlk (by decide) (by decide) ⟨rfl, N0, e3⟩
theorem ef_rmCD0 (q1 : Addr) (m : MethodId) : entryFrame m #[.ref q1] 1 = mkF m 0 #[.val (.ref q1)] [] := by
  first | (simp [entryFrame, mkF, argsToLocals, Value.category]; done) | rfl
set_option maxRecDepth 65536 in
set_option maxHeartbeats 40000000 in
theorem rmCD0 (l : Launch) (Z : State) (a0 : Array Value) (hw : ∀ d ∈ tables_1, d.before a0 Z = true) (ws : List Jvm.Cond) (q1 : Addr) (h0 : Heap) (n0 : Nat) (F_c : Fld Z h0 q1 "java/lang/String" "coder" "B" (.int (0 : Int32))) (cs : Int32) (fm : Value) (SS : SSt Z cs fm) (O0 : Old Z n0 h0) :
    Ctr l Z ({ cls := "java/lang/String", name := "coder", desc := "()B" } : Jvm.MethodName) jdk_42_method_152_code 1 (some .byte) ws ({ frames := 0, cells := 0, slots := 0, locals := 0 } : Room) #[.ref q1] h0 (fun v h L => v = some (.int (0 : Int32)) ∧ Fr n0 L ∧ h = h0) := by
  refine Ctr.enter (Ls := #[.val (.ref q1)]) (by decide +kernel) (fun m => ef_rmCD0 q1 m) ?_
  intro p e s m below meth c T hx hby hml hown hnm hret hlk hZ hh X0 e0
  have N0 := Fr.nil n0
  refine g_getS X0 hx hZ hown hby d25_0 (pc' := 3) rfl (w_21 hw) e0 (SS.2.1.ext O0.2) ?_
  intro T1 X1 e1
  refine g_if_eq X1 hx hby d25_3 (by decide) (pc' := 13) (by decide) (pn := 6) rfl (fun z => absurd z SS.1) (fun hc3_2 => ?_)
  refine g_aloadN X1 hx hby d25_6 (pc' := 7) rfl rfl rfl ?_
  refine g_get X1 hx hZ hown hby d25_7 (pc' := 10) rfl (w_52 hw) e1 F_c ?_
  intro T3 X3 e3
  refine g_goto X3 hx hby d25_10 (by decide) (pc' := 14) (by decide) ?_
  exact g_retN (Q := (fun v h L => v = some (.int (0 : Int32)) ∧ Fr n0 L ∧ h = h0)) (w := (0 : Int32)) X3 hx hby d25_14 hret (by simp) (by first | decide | rfl) hlk (by decide) (by decide) ⟨rfl, N0, e3⟩
theorem ef_rmCD1 (q1 : Addr) (m : MethodId) : entryFrame m #[.ref q1] 1 = mkF m 0 #[.val (.ref q1)] [] := by
  first | (simp [entryFrame, mkF, argsToLocals, Value.category]; done) | rfl
set_option maxRecDepth 65536 in
set_option maxHeartbeats 40000000 in
theorem rmCD1 (l : Launch) (Z : State) (a0 : Array Value) (hw : ∀ d ∈ tables_1, d.before a0 Z = true) (ws : List Jvm.Cond) (q1 : Addr) (h0 : Heap) (n0 : Nat) (F_c : Fld Z h0 q1 "java/lang/String" "coder" "B" (.int (1 : Int32))) (cs : Int32) (fm : Value) (SS : SSt Z cs fm) (O0 : Old Z n0 h0) :
    Ctr l Z ({ cls := "java/lang/String", name := "coder", desc := "()B" } : Jvm.MethodName) jdk_42_method_152_code 1 (some .byte) ws ({ frames := 0, cells := 0, slots := 0, locals := 0 } : Room) #[.ref q1] h0 (fun v h L => v = some (.int (1 : Int32)) ∧ Fr n0 L ∧ h = h0) := by
  refine Ctr.enter (Ls := #[.val (.ref q1)]) (by decide +kernel) (fun m => ef_rmCD1 q1 m) ?_
  intro p e s m below meth c T hx hby hml hown hnm hret hlk hZ hh X0 e0
  have N0 := Fr.nil n0
  refine g_getS X0 hx hZ hown hby d25_0 (pc' := 3) rfl (w_21 hw) e0 (SS.2.1.ext O0.2) ?_
  intro T1 X1 e1
  refine g_if_eq X1 hx hby d25_3 (by decide) (pc' := 13) (by decide) (pn := 6) rfl (fun z => absurd z SS.1) (fun hc3_2 => ?_)
  refine g_aloadN X1 hx hby d25_6 (pc' := 7) rfl rfl rfl ?_
  refine g_get X1 hx hZ hown hby d25_7 (pc' := 10) rfl (w_52 hw) e1 F_c ?_
  intro T3 X3 e3
  refine g_goto X3 hx hby d25_10 (by decide) (pc' := 14) (by decide) ?_
  exact g_retN (Q := (fun v h L => v = some (.int (1 : Int32)) ∧ Fr n0 L ∧ h = h0)) (w := (1 : Int32)) X3 hx hby d25_14 hret (by simp) (by first | decide | rfl) hlk (by decide) (by decide) ⟨rfl, N0, e3⟩
theorem ef_rmSL1_0 (q1 : Addr) (m : MethodId) : entryFrame m #[.ref q1] 1 = mkF m 0 #[.val (.ref q1)] [] := by
  first | (simp [entryFrame, mkF, argsToLocals, Value.category]; done) | rfl
set_option maxRecDepth 65536 in
set_option maxHeartbeats 40000000 in
theorem rmSL1_0 (l : Launch) (Z : State) (a0 : Array Value) (hw : ∀ d ∈ tables_1, d.before a0 Z = true) (ws : List Jvm.Cond) (q1 : Addr) (h0 : Heap) (n0 : Nat) (x0 : Int32) (bv : Addr) (kv : ClassId) (hx0 : CH x0) (E_a : Exa Z h0 q1 "java/lang/String") (F_v : Fld Z h0 q1 "java/lang/String" "value" "[B" (.ref bv)) (F_c : Fld Z h0 q1 "java/lang/String" "coder" "B" (.int (0 : Int32)))  (A_v : Arv Z h0 bv kv .byte (1 : Int32) [.int (lat x0)] (.int 0)) (l0 : ¬ (255 : Int32) < x0) (cs : Int32) (fm : Value) (SS : SSt Z cs fm) (O0 : Old Z n0 h0) :
    Ctr l Z ({ cls := "java/lang/String", name := "length", desc := "()I" } : Jvm.MethodName) jdk_42_method_54_code 1 (some .int) ws ({ frames := 1, cells := 0, slots := 0, locals := 13 } : Room) #[.ref q1] h0 (fun v h L => v = some (.int (1 : Int32)) ∧ Fr n0 L ∧ h = h0) := by
  refine Ctr.enter (Ls := #[.val (.ref q1)]) (by decide +kernel) (fun m => ef_rmSL1_0 q1 m) ?_
  intro p e s m below meth c T hx hby hml hown hnm hret hlk hZ hh X0 e0
  have N0 := Fr.nil n0
  refine g_aloadN X0 hx hby d24_0 (pc' := 1) rfl rfl rfl ?_
  refine g_get X0 hx hZ hown hby d24_1 (pc' := 4) rfl (w_54 hw) e0 F_v ?_
  intro T1 X1 e1
  refine g_alen X1 hx hZ hby d24_4 (pc' := 5) rfl e1 A_v ?_
  refine g_aloadN X1 hx hby d24_5 (pc' := 6) rfl rfl rfl ?_
  refine g_callV X1 hx hZ hown (W := 1) (argsL := []) (b := q1) (rest := [.int (1 : Int32)]) hby d24_6 (pc' := 9) rfl (by rw [hml]; rfl) (w_107 hw) (w_108 hw) (w_110 hw) (notFace_of_selects (args := #[]) (mvT hZ (w_110 hw))) (w_109 hw) (w_10 hw) (w_111 hw) (by decide) (rmCD0 l Z a0 hw [] q1 h0 n0 F_c cs fm SS O0) e1 E_a (by decide) (by decide) (by decide) (by decide) rfl pd__28_29B rfl rfl (Nat.le_of_eq rfl) ?_
  rintro _ T2 L2 X2 ⟨rfl, N2q, e2⟩
  have N2 := Fr.app N0 N2q
  show GoE p e below _ (T2.setTop (mkF m 9 #[.val (.ref q1)] [.int (0 : Int32), .int (1 : Int32)]))
  refine g_ishr X2 hx hby d24_9 (pc' := 10) rfl ?_
  refine g_eqI (b := (1 : Int32)) (by decide +kernel) ?_
  exact g_retI (Q := (fun v h L => v = some (.int (1 : Int32)) ∧ Fr n0 L ∧ h = h0)) X2 hx hby d24_10 hret hlk (by decide) (by decide) ⟨rfl, N2, e2⟩
theorem ef_rmSL1_1 (q1 : Addr) (m : MethodId) : entryFrame m #[.ref q1] 1 = mkF m 0 #[.val (.ref q1)] [] := by
  first | (simp [entryFrame, mkF, argsToLocals, Value.category]; done) | rfl
set_option maxRecDepth 65536 in
set_option maxHeartbeats 40000000 in
theorem rmSL1_1 (l : Launch) (Z : State) (a0 : Array Value) (hw : ∀ d ∈ tables_1, d.before a0 Z = true) (ws : List Jvm.Cond) (q1 : Addr) (h0 : Heap) (n0 : Nat) (x0 : Int32) (bv : Addr) (kv : ClassId) (hx0 : CH x0) (E_a : Exa Z h0 q1 "java/lang/String") (F_v : Fld Z h0 q1 "java/lang/String" "value" "[B" (.ref bv)) (F_c : Fld Z h0 q1 "java/lang/String" "coder" "B" (.int (1 : Int32)))  (A_v : Arv Z h0 bv kv .byte (2 : Int32) [.int (lob x0), .int (hib x0)] (.int 0)) (cs : Int32) (fm : Value) (SS : SSt Z cs fm) (O0 : Old Z n0 h0) :
    Ctr l Z ({ cls := "java/lang/String", name := "length", desc := "()I" } : Jvm.MethodName) jdk_42_method_54_code 1 (some .int) ws ({ frames := 1, cells := 0, slots := 0, locals := 13 } : Room) #[.ref q1] h0 (fun v h L => v = some (.int (1 : Int32)) ∧ Fr n0 L ∧ h = h0) := by
  refine Ctr.enter (Ls := #[.val (.ref q1)]) (by decide +kernel) (fun m => ef_rmSL1_1 q1 m) ?_
  intro p e s m below meth c T hx hby hml hown hnm hret hlk hZ hh X0 e0
  have N0 := Fr.nil n0
  refine g_aloadN X0 hx hby d24_0 (pc' := 1) rfl rfl rfl ?_
  refine g_get X0 hx hZ hown hby d24_1 (pc' := 4) rfl (w_54 hw) e0 F_v ?_
  intro T1 X1 e1
  refine g_alen X1 hx hZ hby d24_4 (pc' := 5) rfl e1 A_v ?_
  refine g_aloadN X1 hx hby d24_5 (pc' := 6) rfl rfl rfl ?_
  refine g_callV X1 hx hZ hown (W := 1) (argsL := []) (b := q1) (rest := [.int (2 : Int32)]) hby d24_6 (pc' := 9) rfl (by rw [hml]; rfl) (w_107 hw) (w_108 hw) (w_110 hw) (notFace_of_selects (args := #[]) (mvT hZ (w_110 hw))) (w_109 hw) (w_10 hw) (w_111 hw) (by decide) (rmCD1 l Z a0 hw [] q1 h0 n0 F_c cs fm SS O0) e1 E_a (by decide) (by decide) (by decide) (by decide) rfl pd__28_29B rfl rfl (Nat.le_of_eq rfl) ?_
  rintro _ T2 L2 X2 ⟨rfl, N2q, e2⟩
  have N2 := Fr.app N0 N2q
  show GoE p e below _ (T2.setTop (mkF m 9 #[.val (.ref q1)] [.int (1 : Int32), .int (2 : Int32)]))
  refine g_ishr X2 hx hby d24_9 (pc' := 10) rfl ?_
  refine g_eqI (b := (1 : Int32)) (by decide +kernel) ?_
  exact g_retI (Q := (fun v h L => v = some (.int (1 : Int32)) ∧ Fr n0 L ∧ h = h0)) X2 hx hby d24_10 hret hlk (by decide) (by decide) ⟨rfl, N2, e2⟩
theorem ef_rmSL2_0 (q1 : Addr) (m : MethodId) : entryFrame m #[.ref q1] 1 = mkF m 0 #[.val (.ref q1)] [] := by
  first | (simp [entryFrame, mkF, argsToLocals, Value.category]; done) | rfl
set_option maxRecDepth 65536 in
set_option maxHeartbeats 40000000 in
theorem rmSL2_0 (l : Launch) (Z : State) (a0 : Array Value) (hw : ∀ d ∈ tables_1, d.before a0 Z = true) (ws : List Jvm.Cond) (q1 : Addr) (h0 : Heap) (n0 : Nat) (x0 x1 : Int32) (bv : Addr) (kv : ClassId) (hx0 : CH x0) (hx1 : CH x1) (E_a : Exa Z h0 q1 "java/lang/String") (F_v : Fld Z h0 q1 "java/lang/String" "value" "[B" (.ref bv)) (F_c : Fld Z h0 q1 "java/lang/String" "coder" "B" (.int (0 : Int32)))  (A_v : Arv Z h0 bv kv .byte (2 : Int32) [.int (lat x0), .int (lat x1)] (.int 0)) (l0 : ¬ (255 : Int32) < x0) (l1 : ¬ (255 : Int32) < x1) (cs : Int32) (fm : Value) (SS : SSt Z cs fm) (O0 : Old Z n0 h0) :
    Ctr l Z ({ cls := "java/lang/String", name := "length", desc := "()I" } : Jvm.MethodName) jdk_42_method_54_code 1 (some .int) ws ({ frames := 1, cells := 0, slots := 0, locals := 13 } : Room) #[.ref q1] h0 (fun v h L => v = some (.int (2 : Int32)) ∧ Fr n0 L ∧ h = h0) := by
  refine Ctr.enter (Ls := #[.val (.ref q1)]) (by decide +kernel) (fun m => ef_rmSL2_0 q1 m) ?_
  intro p e s m below meth c T hx hby hml hown hnm hret hlk hZ hh X0 e0
  have N0 := Fr.nil n0
  refine g_aloadN X0 hx hby d24_0 (pc' := 1) rfl rfl rfl ?_
  refine g_get X0 hx hZ hown hby d24_1 (pc' := 4) rfl (w_54 hw) e0 F_v ?_
  intro T1 X1 e1
  refine g_alen X1 hx hZ hby d24_4 (pc' := 5) rfl e1 A_v ?_
  refine g_aloadN X1 hx hby d24_5 (pc' := 6) rfl rfl rfl ?_
  refine g_callV X1 hx hZ hown (W := 1) (argsL := []) (b := q1) (rest := [.int (2 : Int32)]) hby d24_6 (pc' := 9) rfl (by rw [hml]; rfl) (w_107 hw) (w_108 hw) (w_110 hw) (notFace_of_selects (args := #[]) (mvT hZ (w_110 hw))) (w_109 hw) (w_10 hw) (w_111 hw) (by decide) (rmCD0 l Z a0 hw [] q1 h0 n0 F_c cs fm SS O0) e1 E_a (by decide) (by decide) (by decide) (by decide) rfl pd__28_29B rfl rfl (Nat.le_of_eq rfl) ?_
  rintro _ T2 L2 X2 ⟨rfl, N2q, e2⟩
  have N2 := Fr.app N0 N2q
  show GoE p e below _ (T2.setTop (mkF m 9 #[.val (.ref q1)] [.int (0 : Int32), .int (2 : Int32)]))
  refine g_ishr X2 hx hby d24_9 (pc' := 10) rfl ?_
  refine g_eqI (b := (2 : Int32)) (by decide +kernel) ?_
  exact g_retI (Q := (fun v h L => v = some (.int (2 : Int32)) ∧ Fr n0 L ∧ h = h0)) X2 hx hby d24_10 hret hlk (by decide) (by decide) ⟨rfl, N2, e2⟩
theorem ef_rmSL2_1 (q1 : Addr) (m : MethodId) : entryFrame m #[.ref q1] 1 = mkF m 0 #[.val (.ref q1)] [] := by
  first | (simp [entryFrame, mkF, argsToLocals, Value.category]; done) | rfl
set_option maxRecDepth 65536 in
set_option maxHeartbeats 40000000 in
theorem rmSL2_1 (l : Launch) (Z : State) (a0 : Array Value) (hw : ∀ d ∈ tables_1, d.before a0 Z = true) (ws : List Jvm.Cond) (q1 : Addr) (h0 : Heap) (n0 : Nat) (x0 x1 : Int32) (bv : Addr) (kv : ClassId) (hx0 : CH x0) (hx1 : CH x1) (E_a : Exa Z h0 q1 "java/lang/String") (F_v : Fld Z h0 q1 "java/lang/String" "value" "[B" (.ref bv)) (F_c : Fld Z h0 q1 "java/lang/String" "coder" "B" (.int (1 : Int32)))  (A_v : Arv Z h0 bv kv .byte (4 : Int32) [.int (lob x0), .int (hib x0), .int (lob x1), .int (hib x1)] (.int 0)) (cs : Int32) (fm : Value) (SS : SSt Z cs fm) (O0 : Old Z n0 h0) :
    Ctr l Z ({ cls := "java/lang/String", name := "length", desc := "()I" } : Jvm.MethodName) jdk_42_method_54_code 1 (some .int) ws ({ frames := 1, cells := 0, slots := 0, locals := 13 } : Room) #[.ref q1] h0 (fun v h L => v = some (.int (2 : Int32)) ∧ Fr n0 L ∧ h = h0) := by
  refine Ctr.enter (Ls := #[.val (.ref q1)]) (by decide +kernel) (fun m => ef_rmSL2_1 q1 m) ?_
  intro p e s m below meth c T hx hby hml hown hnm hret hlk hZ hh X0 e0
  have N0 := Fr.nil n0
  refine g_aloadN X0 hx hby d24_0 (pc' := 1) rfl rfl rfl ?_
  refine g_get X0 hx hZ hown hby d24_1 (pc' := 4) rfl (w_54 hw) e0 F_v ?_
  intro T1 X1 e1
  refine g_alen X1 hx hZ hby d24_4 (pc' := 5) rfl e1 A_v ?_
  refine g_aloadN X1 hx hby d24_5 (pc' := 6) rfl rfl rfl ?_
  refine g_callV X1 hx hZ hown (W := 1) (argsL := []) (b := q1) (rest := [.int (4 : Int32)]) hby d24_6 (pc' := 9) rfl (by rw [hml]; rfl) (w_107 hw) (w_108 hw) (w_110 hw) (notFace_of_selects (args := #[]) (mvT hZ (w_110 hw))) (w_109 hw) (w_10 hw) (w_111 hw) (by decide) (rmCD1 l Z a0 hw [] q1 h0 n0 F_c cs fm SS O0) e1 E_a (by decide) (by decide) (by decide) (by decide) rfl pd__28_29B rfl rfl (Nat.le_of_eq rfl) ?_
  rintro _ T2 L2 X2 ⟨rfl, N2q, e2⟩
  have N2 := Fr.app N0 N2q
  show GoE p e below _ (T2.setTop (mkF m 9 #[.val (.ref q1)] [.int (1 : Int32), .int (4 : Int32)]))
  refine g_ishr X2 hx hby d24_9 (pc' := 10) rfl ?_
  refine g_eqI (b := (2 : Int32)) (by decide +kernel) ?_
  exact g_retI (Q := (fun v h L => v = some (.int (2 : Int32)) ∧ Fr n0 L ∧ h = h0)) X2 hx hby d24_10 hret hlk (by decide) (by decide) ⟨rfl, N2, e2⟩
theorem ef_rmSL3_0 (q1 : Addr) (m : MethodId) : entryFrame m #[.ref q1] 1 = mkF m 0 #[.val (.ref q1)] [] := by
  first | (simp [entryFrame, mkF, argsToLocals, Value.category]; done) | rfl
set_option maxRecDepth 65536 in
set_option maxHeartbeats 40000000 in
theorem rmSL3_0 (l : Launch) (Z : State) (a0 : Array Value) (hw : ∀ d ∈ tables_1, d.before a0 Z = true) (ws : List Jvm.Cond) (q1 : Addr) (h0 : Heap) (n0 : Nat) (x0 x1 x2 : Int32) (bv : Addr) (kv : ClassId) (hx0 : CH x0) (hx1 : CH x1) (hx2 : CH x2) (E_a : Exa Z h0 q1 "java/lang/String") (F_v : Fld Z h0 q1 "java/lang/String" "value" "[B" (.ref bv)) (F_c : Fld Z h0 q1 "java/lang/String" "coder" "B" (.int (0 : Int32)))  (A_v : Arv Z h0 bv kv .byte (3 : Int32) [.int (lat x0), .int (lat x1), .int (lat x2)] (.int 0)) (l0 : ¬ (255 : Int32) < x0) (l1 : ¬ (255 : Int32) < x1) (l2 : ¬ (255 : Int32) < x2) (cs : Int32) (fm : Value) (SS : SSt Z cs fm) (O0 : Old Z n0 h0) :
    Ctr l Z ({ cls := "java/lang/String", name := "length", desc := "()I" } : Jvm.MethodName) jdk_42_method_54_code 1 (some .int) ws ({ frames := 1, cells := 0, slots := 0, locals := 13 } : Room) #[.ref q1] h0 (fun v h L => v = some (.int (3 : Int32)) ∧ Fr n0 L ∧ h = h0) := by
  refine Ctr.enter (Ls := #[.val (.ref q1)]) (by decide +kernel) (fun m => ef_rmSL3_0 q1 m) ?_
  intro p e s m below meth c T hx hby hml hown hnm hret hlk hZ hh X0 e0
  have N0 := Fr.nil n0
  refine g_aloadN X0 hx hby d24_0 (pc' := 1) rfl rfl rfl ?_
  refine g_get X0 hx hZ hown hby d24_1 (pc' := 4) rfl (w_54 hw) e0 F_v ?_
  intro T1 X1 e1
  refine g_alen X1 hx hZ hby d24_4 (pc' := 5) rfl e1 A_v ?_
  refine g_aloadN X1 hx hby d24_5 (pc' := 6) rfl rfl rfl ?_
  refine g_callV X1 hx hZ hown (W := 1) (argsL := []) (b := q1) (rest := [.int (3 : Int32)]) hby d24_6 (pc' := 9) rfl (by rw [hml]; rfl) (w_107 hw) (w_108 hw) (w_110 hw) (notFace_of_selects (args := #[]) (mvT hZ (w_110 hw))) (w_109 hw) (w_10 hw) (w_111 hw) (by decide) (rmCD0 l Z a0 hw [] q1 h0 n0 F_c cs fm SS O0) e1 E_a (by decide) (by decide) (by decide) (by decide) rfl pd__28_29B rfl rfl (Nat.le_of_eq rfl) ?_
  rintro _ T2 L2 X2 ⟨rfl, N2q, e2⟩
  have N2 := Fr.app N0 N2q
  show GoE p e below _ (T2.setTop (mkF m 9 #[.val (.ref q1)] [.int (0 : Int32), .int (3 : Int32)]))
  refine g_ishr X2 hx hby d24_9 (pc' := 10) rfl ?_
  refine g_eqI (b := (3 : Int32)) (by decide +kernel) ?_
  exact g_retI (Q := (fun v h L => v = some (.int (3 : Int32)) ∧ Fr n0 L ∧ h = h0)) X2 hx hby d24_10 hret hlk (by decide) (by decide) ⟨rfl, N2, e2⟩
theorem ef_rmSL3_1 (q1 : Addr) (m : MethodId) : entryFrame m #[.ref q1] 1 = mkF m 0 #[.val (.ref q1)] [] := by
  first | (simp [entryFrame, mkF, argsToLocals, Value.category]; done) | rfl
set_option maxRecDepth 65536 in
set_option maxHeartbeats 40000000 in
theorem rmSL3_1 (l : Launch) (Z : State) (a0 : Array Value) (hw : ∀ d ∈ tables_1, d.before a0 Z = true) (ws : List Jvm.Cond) (q1 : Addr) (h0 : Heap) (n0 : Nat) (x0 x1 x2 : Int32) (bv : Addr) (kv : ClassId) (hx0 : CH x0) (hx1 : CH x1) (hx2 : CH x2) (E_a : Exa Z h0 q1 "java/lang/String") (F_v : Fld Z h0 q1 "java/lang/String" "value" "[B" (.ref bv)) (F_c : Fld Z h0 q1 "java/lang/String" "coder" "B" (.int (1 : Int32)))  (A_v : Arv Z h0 bv kv .byte (6 : Int32) [.int (lob x0), .int (hib x0), .int (lob x1), .int (hib x1), .int (lob x2), .int (hib x2)] (.int 0)) (cs : Int32) (fm : Value) (SS : SSt Z cs fm) (O0 : Old Z n0 h0) :
    Ctr l Z ({ cls := "java/lang/String", name := "length", desc := "()I" } : Jvm.MethodName) jdk_42_method_54_code 1 (some .int) ws ({ frames := 1, cells := 0, slots := 0, locals := 13 } : Room) #[.ref q1] h0 (fun v h L => v = some (.int (3 : Int32)) ∧ Fr n0 L ∧ h = h0) := by
  refine Ctr.enter (Ls := #[.val (.ref q1)]) (by decide +kernel) (fun m => ef_rmSL3_1 q1 m) ?_
  intro p e s m below meth c T hx hby hml hown hnm hret hlk hZ hh X0 e0
  have N0 := Fr.nil n0
  refine g_aloadN X0 hx hby d24_0 (pc' := 1) rfl rfl rfl ?_
  refine g_get X0 hx hZ hown hby d24_1 (pc' := 4) rfl (w_54 hw) e0 F_v ?_
  intro T1 X1 e1
  refine g_alen X1 hx hZ hby d24_4 (pc' := 5) rfl e1 A_v ?_
  refine g_aloadN X1 hx hby d24_5 (pc' := 6) rfl rfl rfl ?_
  refine g_callV X1 hx hZ hown (W := 1) (argsL := []) (b := q1) (rest := [.int (6 : Int32)]) hby d24_6 (pc' := 9) rfl (by rw [hml]; rfl) (w_107 hw) (w_108 hw) (w_110 hw) (notFace_of_selects (args := #[]) (mvT hZ (w_110 hw))) (w_109 hw) (w_10 hw) (w_111 hw) (by decide) (rmCD1 l Z a0 hw [] q1 h0 n0 F_c cs fm SS O0) e1 E_a (by decide) (by decide) (by decide) (by decide) rfl pd__28_29B rfl rfl (Nat.le_of_eq rfl) ?_
  rintro _ T2 L2 X2 ⟨rfl, N2q, e2⟩
  have N2 := Fr.app N0 N2q
  show GoE p e below _ (T2.setTop (mkF m 9 #[.val (.ref q1)] [.int (1 : Int32), .int (6 : Int32)]))
  refine g_ishr X2 hx hby d24_9 (pc' := 10) rfl ?_
  refine g_eqI (b := (3 : Int32)) (by decide +kernel) ?_
  exact g_retI (Q := (fun v h L => v = some (.int (3 : Int32)) ∧ Fr n0 L ∧ h = h0)) X2 hx hby d24_10 hret hlk (by decide) (by decide) ⟨rfl, N2, e2⟩
theorem ef_rmCA1_0_0 (q1 : Addr) (m : MethodId) : entryFrame m #[.ref q1, .int (0 : Int32)] 2 = mkF m 0 #[.val (.ref q1), .val (.int (0 : Int32))] [] := by
  first | (simp [entryFrame, mkF, argsToLocals, Value.category]; done) | rfl
set_option maxRecDepth 65536 in
set_option maxHeartbeats 40000000 in
theorem rmCA1_0_0 (l : Launch) (Z : State) (a0 : Array Value) (hw : ∀ d ∈ tables_1, d.before a0 Z = true) (ws : List Jvm.Cond) (q1 : Addr) (h0 : Heap) (n0 : Nat) (x0 : Int32) (bv : Addr) (kv : ClassId) (hx0 : CH x0) (E_a : Exa Z h0 q1 "java/lang/String") (F_v : Fld Z h0 q1 "java/lang/String" "value" "[B" (.ref bv)) (F_c : Fld Z h0 q1 "java/lang/String" "coder" "B" (.int (0 : Int32)))  (A_v : Arv Z h0 bv kv .byte (1 : Int32) [.int (lat x0)] (.int 0)) (l0 : ¬ (255 : Int32) < x0) (cs : Int32) (fm : Value) (SS : SSt Z cs fm) (O0 : Old Z n0 h0) :
    Ctr l Z ({ cls := "java/lang/String", name := "charAt", desc := "(I)C" } : Jvm.MethodName) jdk_42_method_56_code 2 (some .char) ws ({ frames := 4, cells := 0, slots := 0, locals := 53 } : Room) #[.ref q1, .int (0 : Int32)] h0 (fun v h L => v = some (.int x0) ∧ Fr n0 L ∧ h = h0) := by
  refine Ctr.enter (Ls := #[.val (.ref q1), .val (.int (0 : Int32))]) (by decide +kernel) (fun m => ef_rmCA1_0_0 q1 m) ?_
  intro p e s m below meth c T hx hby hml hown hnm hret hlk hZ hh X0 e0
  have N0 := Fr.nil n0
  refine g_aloadN X0 hx hby d14_0 (pc' := 1) rfl rfl rfl ?_
  refine g_callV X0 hx hZ hown (W := 0) (argsL := []) (b := q1) (rest := []) hby d14_1 (pc' := 4) rfl (by rw [hml]; rfl) (w_65 hw) (w_66 hw) (w_68 hw) (notFace_of_selects (args := #[]) (mvT hZ (w_68 hw))) (w_67 hw) (w_10 hw) (w_69 hw) (by decide) (rmIL0 l Z a0 hw [] q1 h0 n0 F_c cs fm SS O0) e0 E_a (by decide) (by decide) (by decide) (by decide) rfl pd__28_29Z rfl rfl (Nat.le_of_eq rfl) ?_
  rintro _ T1 L1 X1 ⟨rfl, N1q, e1⟩
  have N1 := Fr.app N0 N1q
  show GoE p e below _ (T1.setTop (mkF m 4 #[.val (.ref q1), .val (.int (0 : Int32))] [.int (1 : Int32)]))
  refine g_if_eq X1 hx hby d14_4 (by decide) (pc' := 16) (by decide) (pn := 7) rfl (fun z => absurd z (by decide)) (fun _ => ?_)
  refine g_aloadN X1 hx hby d14_7 (pc' := 8) rfl rfl rfl ?_
  refine g_get X1 hx hZ hown hby d14_8 (pc' := 11) rfl (w_54 hw) e1 F_v ?_
  intro T2 X2 e2
  refine g_iloadN X2 hx hby d14_11 (pc' := 12) rfl rfl ?_
  refine g_callS X2 hx hZ hown (W := 0) (argsL := [.ref bv, .int (0 : Int32)]) (rest := []) hby d14_12 (pc' := 15) rfl (by rw [hml]; rfl) (w_112 hw) (w_113 hw) (w_114 hw) (w_115 hw) (by decide) (rmLC1_0 l Z a0 hw [] bv h0 n0 (lat x0) _ A_v cs fm SS O0) e2 (by decide) (by decide) (by decide) (by decide) rfl pd__28_5bBI_29C rfl rfl (Nat.le_of_eq rfl) ?_
  rintro _ T3 L3 X3 ⟨rfl, N3q, e3⟩
  have N3 := Fr.app N1 N3q
  show GoE p e below _ (T3.setTop (mkF m 15 #[.val (.ref q1), .val (.int (0 : Int32))] [.int (lch (lat x0))]))
  exact g_retN (Q := (fun v h L => v = some (.int x0) ∧ Fr n0 L ∧ h = h0)) (w := (lch (lat x0))) X3 hx hby d14_15 hret (by simp) (own_narc (own_ch _)) hlk (by decide) (by decide) ⟨congrArg (fun z : Int32 => some (Value.int z)) (own_lat hx0 l0), N3, e3⟩
theorem ef_rmCA1_1_0 (q1 : Addr) (m : MethodId) : entryFrame m #[.ref q1, .int (0 : Int32)] 2 = mkF m 0 #[.val (.ref q1), .val (.int (0 : Int32))] [] := by
  first | (simp [entryFrame, mkF, argsToLocals, Value.category]; done) | rfl
set_option maxRecDepth 65536 in
set_option maxHeartbeats 40000000 in
theorem rmCA1_1_0 (l : Launch) (Z : State) (a0 : Array Value) (hw : ∀ d ∈ tables_1, d.before a0 Z = true) (ws : List Jvm.Cond) (q1 : Addr) (h0 : Heap) (n0 : Nat) (x0 : Int32) (bv : Addr) (kv : ClassId) (hx0 : CH x0) (E_a : Exa Z h0 q1 "java/lang/String") (F_v : Fld Z h0 q1 "java/lang/String" "value" "[B" (.ref bv)) (F_c : Fld Z h0 q1 "java/lang/String" "coder" "B" (.int (1 : Int32)))  (A_v : Arv Z h0 bv kv .byte (2 : Int32) [.int (lob x0), .int (hib x0)] (.int 0)) (cs : Int32) (fm : Value) (SS : SSt Z cs fm) (O0 : Old Z n0 h0) :
    Ctr l Z ({ cls := "java/lang/String", name := "charAt", desc := "(I)C" } : Jvm.MethodName) jdk_42_method_56_code 2 (some .char) ws ({ frames := 4, cells := 0, slots := 0, locals := 53 } : Room) #[.ref q1, .int (0 : Int32)] h0 (fun v h L => v = some (.int x0) ∧ Fr n0 L ∧ h = h0) := by
  refine Ctr.enter (Ls := #[.val (.ref q1), .val (.int (0 : Int32))]) (by decide +kernel) (fun m => ef_rmCA1_1_0 q1 m) ?_
  intro p e s m below meth c T hx hby hml hown hnm hret hlk hZ hh X0 e0
  have N0 := Fr.nil n0
  refine g_aloadN X0 hx hby d14_0 (pc' := 1) rfl rfl rfl ?_
  refine g_callV X0 hx hZ hown (W := 0) (argsL := []) (b := q1) (rest := []) hby d14_1 (pc' := 4) rfl (by rw [hml]; rfl) (w_65 hw) (w_66 hw) (w_68 hw) (notFace_of_selects (args := #[]) (mvT hZ (w_68 hw))) (w_67 hw) (w_10 hw) (w_69 hw) (by decide) (rmIL1 l Z a0 hw [] q1 h0 n0 F_c cs fm SS O0) e0 E_a (by decide) (by decide) (by decide) (by decide) rfl pd__28_29Z rfl rfl (Nat.le_of_eq rfl) ?_
  rintro _ T1 L1 X1 ⟨rfl, N1q, e1⟩
  have N1 := Fr.app N0 N1q
  show GoE p e below _ (T1.setTop (mkF m 4 #[.val (.ref q1), .val (.int (0 : Int32))] [.int (0 : Int32)]))
  refine g_if_eq X1 hx hby d14_4 (by decide) (pc' := 16) (by decide) (pn := 7) rfl (fun _ => ?_) (fun z => absurd z (by decide))
  refine g_aloadN X1 hx hby d14_16 (pc' := 17) rfl rfl rfl ?_
  refine g_get X1 hx hZ hown hby d14_17 (pc' := 20) rfl (w_54 hw) e1 F_v ?_
  intro T2 X2 e2
  refine g_iloadN X2 hx hby d14_20 (pc' := 21) rfl rfl ?_
  refine g_callS X2 hx hZ hown (W := 0) (argsL := [.ref bv, .int (0 : Int32)]) (rest := []) hby d14_21 (pc' := 24) rfl (by rw [hml]; rfl) (w_70 hw) (w_71 hw) (w_24 hw) (w_72 hw) (by decide) (rmUC1_0 l Z a0 hw [] bv h0 n0 (lob x0) (hib x0) _ A_v cs fm SS O0) e2 (by decide) (by decide) (by decide) (by decide) rfl pd__28_5bBI_29C rfl rfl (Nat.le_of_eq rfl) ?_
  rintro _ T3 L3 X3 ⟨rfl, N3q, e3⟩
  have N3 := Fr.app N1 N3q
  show GoE p e below _ (T3.setTop (mkF m 24 #[.val (.ref q1), .val (.int (0 : Int32))] [.int (gch (lob x0) (hib x0))]))
  exact g_retN (Q := (fun v h L => v = some (.int x0) ∧ Fr n0 L ∧ h = h0)) (w := (gch (lob x0) (hib x0))) X3 hx hby d14_24 hret (by simp) (own_narc (own_ch _)) hlk (by decide) (by decide) ⟨congrArg (fun z : Int32 => some (Value.int z)) (own_gch hx0), N3, e3⟩
theorem ef_rmCA2_0_0 (q1 : Addr) (m : MethodId) : entryFrame m #[.ref q1, .int (0 : Int32)] 2 = mkF m 0 #[.val (.ref q1), .val (.int (0 : Int32))] [] := by
  first | (simp [entryFrame, mkF, argsToLocals, Value.category]; done) | rfl
set_option maxRecDepth 65536 in
set_option maxHeartbeats 40000000 in
theorem rmCA2_0_0 (l : Launch) (Z : State) (a0 : Array Value) (hw : ∀ d ∈ tables_1, d.before a0 Z = true) (ws : List Jvm.Cond) (q1 : Addr) (h0 : Heap) (n0 : Nat) (x0 x1 : Int32) (bv : Addr) (kv : ClassId) (hx0 : CH x0) (hx1 : CH x1) (E_a : Exa Z h0 q1 "java/lang/String") (F_v : Fld Z h0 q1 "java/lang/String" "value" "[B" (.ref bv)) (F_c : Fld Z h0 q1 "java/lang/String" "coder" "B" (.int (0 : Int32)))  (A_v : Arv Z h0 bv kv .byte (2 : Int32) [.int (lat x0), .int (lat x1)] (.int 0)) (l0 : ¬ (255 : Int32) < x0) (l1 : ¬ (255 : Int32) < x1) (cs : Int32) (fm : Value) (SS : SSt Z cs fm) (O0 : Old Z n0 h0) :
    Ctr l Z ({ cls := "java/lang/String", name := "charAt", desc := "(I)C" } : Jvm.MethodName) jdk_42_method_56_code 2 (some .char) ws ({ frames := 4, cells := 0, slots := 0, locals := 53 } : Room) #[.ref q1, .int (0 : Int32)] h0 (fun v h L => v = some (.int x0) ∧ Fr n0 L ∧ h = h0) := by
  refine Ctr.enter (Ls := #[.val (.ref q1), .val (.int (0 : Int32))]) (by decide +kernel) (fun m => ef_rmCA2_0_0 q1 m) ?_
  intro p e s m below meth c T hx hby hml hown hnm hret hlk hZ hh X0 e0
  have N0 := Fr.nil n0
  refine g_aloadN X0 hx hby d14_0 (pc' := 1) rfl rfl rfl ?_
  refine g_callV X0 hx hZ hown (W := 0) (argsL := []) (b := q1) (rest := []) hby d14_1 (pc' := 4) rfl (by rw [hml]; rfl) (w_65 hw) (w_66 hw) (w_68 hw) (notFace_of_selects (args := #[]) (mvT hZ (w_68 hw))) (w_67 hw) (w_10 hw) (w_69 hw) (by decide) (rmIL0 l Z a0 hw [] q1 h0 n0 F_c cs fm SS O0) e0 E_a (by decide) (by decide) (by decide) (by decide) rfl pd__28_29Z rfl rfl (Nat.le_of_eq rfl) ?_
  rintro _ T1 L1 X1 ⟨rfl, N1q, e1⟩
  have N1 := Fr.app N0 N1q
  show GoE p e below _ (T1.setTop (mkF m 4 #[.val (.ref q1), .val (.int (0 : Int32))] [.int (1 : Int32)]))
  refine g_if_eq X1 hx hby d14_4 (by decide) (pc' := 16) (by decide) (pn := 7) rfl (fun z => absurd z (by decide)) (fun _ => ?_)
  refine g_aloadN X1 hx hby d14_7 (pc' := 8) rfl rfl rfl ?_
  refine g_get X1 hx hZ hown hby d14_8 (pc' := 11) rfl (w_54 hw) e1 F_v ?_
  intro T2 X2 e2
  refine g_iloadN X2 hx hby d14_11 (pc' := 12) rfl rfl ?_
  refine g_callS X2 hx hZ hown (W := 0) (argsL := [.ref bv, .int (0 : Int32)]) (rest := []) hby d14_12 (pc' := 15) rfl (by rw [hml]; rfl) (w_112 hw) (w_113 hw) (w_114 hw) (w_115 hw) (by decide) (rmLC2_0 l Z a0 hw [] bv h0 n0 (lat x0) (lat x1) _ A_v cs fm SS O0) e2 (by decide) (by decide) (by decide) (by decide) rfl pd__28_5bBI_29C rfl rfl (Nat.le_of_eq rfl) ?_
  rintro _ T3 L3 X3 ⟨rfl, N3q, e3⟩
  have N3 := Fr.app N1 N3q
  show GoE p e below _ (T3.setTop (mkF m 15 #[.val (.ref q1), .val (.int (0 : Int32))] [.int (lch (lat x0))]))
  exact g_retN (Q := (fun v h L => v = some (.int x0) ∧ Fr n0 L ∧ h = h0)) (w := (lch (lat x0))) X3 hx hby d14_15 hret (by simp) (own_narc (own_ch _)) hlk (by decide) (by decide) ⟨congrArg (fun z : Int32 => some (Value.int z)) (own_lat hx0 l0), N3, e3⟩
theorem ef_rmCA2_0_1 (q1 : Addr) (m : MethodId) : entryFrame m #[.ref q1, .int (1 : Int32)] 2 = mkF m 0 #[.val (.ref q1), .val (.int (1 : Int32))] [] := by
  first | (simp [entryFrame, mkF, argsToLocals, Value.category]; done) | rfl
set_option maxRecDepth 65536 in
set_option maxHeartbeats 40000000 in
theorem rmCA2_0_1 (l : Launch) (Z : State) (a0 : Array Value) (hw : ∀ d ∈ tables_1, d.before a0 Z = true) (ws : List Jvm.Cond) (q1 : Addr) (h0 : Heap) (n0 : Nat) (x0 x1 : Int32) (bv : Addr) (kv : ClassId) (hx0 : CH x0) (hx1 : CH x1) (E_a : Exa Z h0 q1 "java/lang/String") (F_v : Fld Z h0 q1 "java/lang/String" "value" "[B" (.ref bv)) (F_c : Fld Z h0 q1 "java/lang/String" "coder" "B" (.int (0 : Int32)))  (A_v : Arv Z h0 bv kv .byte (2 : Int32) [.int (lat x0), .int (lat x1)] (.int 0)) (l0 : ¬ (255 : Int32) < x0) (l1 : ¬ (255 : Int32) < x1) (cs : Int32) (fm : Value) (SS : SSt Z cs fm) (O0 : Old Z n0 h0) :
    Ctr l Z ({ cls := "java/lang/String", name := "charAt", desc := "(I)C" } : Jvm.MethodName) jdk_42_method_56_code 2 (some .char) ws ({ frames := 4, cells := 0, slots := 0, locals := 53 } : Room) #[.ref q1, .int (1 : Int32)] h0 (fun v h L => v = some (.int x1) ∧ Fr n0 L ∧ h = h0) := by
  refine Ctr.enter (Ls := #[.val (.ref q1), .val (.int (1 : Int32))]) (by decide +kernel) (fun m => ef_rmCA2_0_1 q1 m) ?_
  intro p e s m below meth c T hx hby hml hown hnm hret hlk hZ hh X0 e0
  have N0 := Fr.nil n0
  refine g_aloadN X0 hx hby d14_0 (pc' := 1) rfl rfl rfl ?_
  refine g_callV X0 hx hZ hown (W := 0) (argsL := []) (b := q1) (rest := []) hby d14_1 (pc' := 4) rfl (by rw [hml]; rfl) (w_65 hw) (w_66 hw) (w_68 hw) (notFace_of_selects (args := #[]) (mvT hZ (w_68 hw))) (w_67 hw) (w_10 hw) (w_69 hw) (by decide) (rmIL0 l Z a0 hw [] q1 h0 n0 F_c cs fm SS O0) e0 E_a (by decide) (by decide) (by decide) (by decide) rfl pd__28_29Z rfl rfl (Nat.le_of_eq rfl) ?_
  rintro _ T1 L1 X1 ⟨rfl, N1q, e1⟩
  have N1 := Fr.app N0 N1q
  show GoE p e below _ (T1.setTop (mkF m 4 #[.val (.ref q1), .val (.int (1 : Int32))] [.int (1 : Int32)]))
  refine g_if_eq X1 hx hby d14_4 (by decide) (pc' := 16) (by decide) (pn := 7) rfl (fun z => absurd z (by decide)) (fun _ => ?_)
  refine g_aloadN X1 hx hby d14_7 (pc' := 8) rfl rfl rfl ?_
  refine g_get X1 hx hZ hown hby d14_8 (pc' := 11) rfl (w_54 hw) e1 F_v ?_
  intro T2 X2 e2
  refine g_iloadN X2 hx hby d14_11 (pc' := 12) rfl rfl ?_
  refine g_callS X2 hx hZ hown (W := 0) (argsL := [.ref bv, .int (1 : Int32)]) (rest := []) hby d14_12 (pc' := 15) rfl (by rw [hml]; rfl) (w_112 hw) (w_113 hw) (w_114 hw) (w_115 hw) (by decide) (rmLC2_1 l Z a0 hw [] bv h0 n0 (lat x0) (lat x1) _ A_v cs fm SS O0) e2 (by decide) (by decide) (by decide) (by decide) rfl pd__28_5bBI_29C rfl rfl (Nat.le_of_eq rfl) ?_
  rintro _ T3 L3 X3 ⟨rfl, N3q, e3⟩
  have N3 := Fr.app N1 N3q
  show GoE p e below _ (T3.setTop (mkF m 15 #[.val (.ref q1), .val (.int (1 : Int32))] [.int (lch (lat x1))]))
  exact g_retN (Q := (fun v h L => v = some (.int x1) ∧ Fr n0 L ∧ h = h0)) (w := (lch (lat x1))) X3 hx hby d14_15 hret (by simp) (own_narc (own_ch _)) hlk (by decide) (by decide) ⟨congrArg (fun z : Int32 => some (Value.int z)) (own_lat hx1 l1), N3, e3⟩
theorem ef_rmCA2_1_0 (q1 : Addr) (m : MethodId) : entryFrame m #[.ref q1, .int (0 : Int32)] 2 = mkF m 0 #[.val (.ref q1), .val (.int (0 : Int32))] [] := by
  first | (simp [entryFrame, mkF, argsToLocals, Value.category]; done) | rfl
set_option maxRecDepth 65536 in
set_option maxHeartbeats 40000000 in
theorem rmCA2_1_0 (l : Launch) (Z : State) (a0 : Array Value) (hw : ∀ d ∈ tables_1, d.before a0 Z = true) (ws : List Jvm.Cond) (q1 : Addr) (h0 : Heap) (n0 : Nat) (x0 x1 : Int32) (bv : Addr) (kv : ClassId) (hx0 : CH x0) (hx1 : CH x1) (E_a : Exa Z h0 q1 "java/lang/String") (F_v : Fld Z h0 q1 "java/lang/String" "value" "[B" (.ref bv)) (F_c : Fld Z h0 q1 "java/lang/String" "coder" "B" (.int (1 : Int32)))  (A_v : Arv Z h0 bv kv .byte (4 : Int32) [.int (lob x0), .int (hib x0), .int (lob x1), .int (hib x1)] (.int 0)) (cs : Int32) (fm : Value) (SS : SSt Z cs fm) (O0 : Old Z n0 h0) :
    Ctr l Z ({ cls := "java/lang/String", name := "charAt", desc := "(I)C" } : Jvm.MethodName) jdk_42_method_56_code 2 (some .char) ws ({ frames := 4, cells := 0, slots := 0, locals := 53 } : Room) #[.ref q1, .int (0 : Int32)] h0 (fun v h L => v = some (.int x0) ∧ Fr n0 L ∧ h = h0) := by
  refine Ctr.enter (Ls := #[.val (.ref q1), .val (.int (0 : Int32))]) (by decide +kernel) (fun m => ef_rmCA2_1_0 q1 m) ?_
  intro p e s m below meth c T hx hby hml hown hnm hret hlk hZ hh X0 e0
  have N0 := Fr.nil n0
  refine g_aloadN X0 hx hby d14_0 (pc' := 1) rfl rfl rfl ?_
  refine g_callV X0 hx hZ hown (W := 0) (argsL := []) (b := q1) (rest := []) hby d14_1 (pc' := 4) rfl (by rw [hml]; rfl) (w_65 hw) (w_66 hw) (w_68 hw) (notFace_of_selects (args := #[]) (mvT hZ (w_68 hw))) (w_67 hw) (w_10 hw) (w_69 hw) (by decide) (rmIL1 l Z a0 hw [] q1 h0 n0 F_c cs fm SS O0) e0 E_a (by decide) (by decide) (by decide) (by decide) rfl pd__28_29Z rfl rfl (Nat.le_of_eq rfl) ?_
  rintro _ T1 L1 X1 ⟨rfl, N1q, e1⟩
  have N1 := Fr.app N0 N1q
  show GoE p e below _ (T1.setTop (mkF m 4 #[.val (.ref q1), .val (.int (0 : Int32))] [.int (0 : Int32)]))
  refine g_if_eq X1 hx hby d14_4 (by decide) (pc' := 16) (by decide) (pn := 7) rfl (fun _ => ?_) (fun z => absurd z (by decide))
  refine g_aloadN X1 hx hby d14_16 (pc' := 17) rfl rfl rfl ?_
  refine g_get X1 hx hZ hown hby d14_17 (pc' := 20) rfl (w_54 hw) e1 F_v ?_
  intro T2 X2 e2
  refine g_iloadN X2 hx hby d14_20 (pc' := 21) rfl rfl ?_
  refine g_callS X2 hx hZ hown (W := 0) (argsL := [.ref bv, .int (0 : Int32)]) (rest := []) hby d14_21 (pc' := 24) rfl (by rw [hml]; rfl) (w_70 hw) (w_71 hw) (w_24 hw) (w_72 hw) (by decide) (rmUC2_0 l Z a0 hw [] bv h0 n0 (lob x0) (hib x0) (lob x1) (hib x1) _ A_v cs fm SS O0) e2 (by decide) (by decide) (by decide) (by decide) rfl pd__28_5bBI_29C rfl rfl (Nat.le_of_eq rfl) ?_
  rintro _ T3 L3 X3 ⟨rfl, N3q, e3⟩
  have N3 := Fr.app N1 N3q
  show GoE p e below _ (T3.setTop (mkF m 24 #[.val (.ref q1), .val (.int (0 : Int32))] [.int (gch (lob x0) (hib x0))]))
  exact g_retN (Q := (fun v h L => v = some (.int x0) ∧ Fr n0 L ∧ h = h0)) (w := (gch (lob x0) (hib x0))) X3 hx hby d14_24 hret (by simp) (own_narc (own_ch _)) hlk (by decide) (by decide) ⟨congrArg (fun z : Int32 => some (Value.int z)) (own_gch hx0), N3, e3⟩
theorem ef_rmCA2_1_1 (q1 : Addr) (m : MethodId) : entryFrame m #[.ref q1, .int (1 : Int32)] 2 = mkF m 0 #[.val (.ref q1), .val (.int (1 : Int32))] [] := by
  first | (simp [entryFrame, mkF, argsToLocals, Value.category]; done) | rfl
set_option maxRecDepth 65536 in
set_option maxHeartbeats 40000000 in
theorem rmCA2_1_1 (l : Launch) (Z : State) (a0 : Array Value) (hw : ∀ d ∈ tables_1, d.before a0 Z = true) (ws : List Jvm.Cond) (q1 : Addr) (h0 : Heap) (n0 : Nat) (x0 x1 : Int32) (bv : Addr) (kv : ClassId) (hx0 : CH x0) (hx1 : CH x1) (E_a : Exa Z h0 q1 "java/lang/String") (F_v : Fld Z h0 q1 "java/lang/String" "value" "[B" (.ref bv)) (F_c : Fld Z h0 q1 "java/lang/String" "coder" "B" (.int (1 : Int32)))  (A_v : Arv Z h0 bv kv .byte (4 : Int32) [.int (lob x0), .int (hib x0), .int (lob x1), .int (hib x1)] (.int 0)) (cs : Int32) (fm : Value) (SS : SSt Z cs fm) (O0 : Old Z n0 h0) :
    Ctr l Z ({ cls := "java/lang/String", name := "charAt", desc := "(I)C" } : Jvm.MethodName) jdk_42_method_56_code 2 (some .char) ws ({ frames := 4, cells := 0, slots := 0, locals := 53 } : Room) #[.ref q1, .int (1 : Int32)] h0 (fun v h L => v = some (.int x1) ∧ Fr n0 L ∧ h = h0) := by
  refine Ctr.enter (Ls := #[.val (.ref q1), .val (.int (1 : Int32))]) (by decide +kernel) (fun m => ef_rmCA2_1_1 q1 m) ?_
  intro p e s m below meth c T hx hby hml hown hnm hret hlk hZ hh X0 e0
  have N0 := Fr.nil n0
  refine g_aloadN X0 hx hby d14_0 (pc' := 1) rfl rfl rfl ?_
  refine g_callV X0 hx hZ hown (W := 0) (argsL := []) (b := q1) (rest := []) hby d14_1 (pc' := 4) rfl (by rw [hml]; rfl) (w_65 hw) (w_66 hw) (w_68 hw) (notFace_of_selects (args := #[]) (mvT hZ (w_68 hw))) (w_67 hw) (w_10 hw) (w_69 hw) (by decide) (rmIL1 l Z a0 hw [] q1 h0 n0 F_c cs fm SS O0) e0 E_a (by decide) (by decide) (by decide) (by decide) rfl pd__28_29Z rfl rfl (Nat.le_of_eq rfl) ?_
  rintro _ T1 L1 X1 ⟨rfl, N1q, e1⟩
  have N1 := Fr.app N0 N1q
  show GoE p e below _ (T1.setTop (mkF m 4 #[.val (.ref q1), .val (.int (1 : Int32))] [.int (0 : Int32)]))
  refine g_if_eq X1 hx hby d14_4 (by decide) (pc' := 16) (by decide) (pn := 7) rfl (fun _ => ?_) (fun z => absurd z (by decide))
  refine g_aloadN X1 hx hby d14_16 (pc' := 17) rfl rfl rfl ?_
  refine g_get X1 hx hZ hown hby d14_17 (pc' := 20) rfl (w_54 hw) e1 F_v ?_
  intro T2 X2 e2
  refine g_iloadN X2 hx hby d14_20 (pc' := 21) rfl rfl ?_
  refine g_callS X2 hx hZ hown (W := 0) (argsL := [.ref bv, .int (1 : Int32)]) (rest := []) hby d14_21 (pc' := 24) rfl (by rw [hml]; rfl) (w_70 hw) (w_71 hw) (w_24 hw) (w_72 hw) (by decide) (rmUC2_1 l Z a0 hw [] bv h0 n0 (lob x0) (hib x0) (lob x1) (hib x1) _ A_v cs fm SS O0) e2 (by decide) (by decide) (by decide) (by decide) rfl pd__28_5bBI_29C rfl rfl (Nat.le_of_eq rfl) ?_
  rintro _ T3 L3 X3 ⟨rfl, N3q, e3⟩
  have N3 := Fr.app N1 N3q
  show GoE p e below _ (T3.setTop (mkF m 24 #[.val (.ref q1), .val (.int (1 : Int32))] [.int (gch (lob x1) (hib x1))]))
  exact g_retN (Q := (fun v h L => v = some (.int x1) ∧ Fr n0 L ∧ h = h0)) (w := (gch (lob x1) (hib x1))) X3 hx hby d14_24 hret (by simp) (own_narc (own_ch _)) hlk (by decide) (by decide) ⟨congrArg (fun z : Int32 => some (Value.int z)) (own_gch hx1), N3, e3⟩
theorem ef_rmCA3_0_0 (q1 : Addr) (m : MethodId) : entryFrame m #[.ref q1, .int (0 : Int32)] 2 = mkF m 0 #[.val (.ref q1), .val (.int (0 : Int32))] [] := by
  first | (simp [entryFrame, mkF, argsToLocals, Value.category]; done) | rfl
set_option maxRecDepth 65536 in
set_option maxHeartbeats 40000000 in
theorem rmCA3_0_0 (l : Launch) (Z : State) (a0 : Array Value) (hw : ∀ d ∈ tables_1, d.before a0 Z = true) (ws : List Jvm.Cond) (q1 : Addr) (h0 : Heap) (n0 : Nat) (x0 x1 x2 : Int32) (bv : Addr) (kv : ClassId) (hx0 : CH x0) (hx1 : CH x1) (hx2 : CH x2) (E_a : Exa Z h0 q1 "java/lang/String") (F_v : Fld Z h0 q1 "java/lang/String" "value" "[B" (.ref bv)) (F_c : Fld Z h0 q1 "java/lang/String" "coder" "B" (.int (0 : Int32)))  (A_v : Arv Z h0 bv kv .byte (3 : Int32) [.int (lat x0), .int (lat x1), .int (lat x2)] (.int 0)) (l0 : ¬ (255 : Int32) < x0) (l1 : ¬ (255 : Int32) < x1) (l2 : ¬ (255 : Int32) < x2) (cs : Int32) (fm : Value) (SS : SSt Z cs fm) (O0 : Old Z n0 h0) :
    Ctr l Z ({ cls := "java/lang/String", name := "charAt", desc := "(I)C" } : Jvm.MethodName) jdk_42_method_56_code 2 (some .char) ws ({ frames := 4, cells := 0, slots := 0, locals := 53 } : Room) #[.ref q1, .int (0 : Int32)] h0 (fun v h L => v = some (.int x0) ∧ Fr n0 L ∧ h = h0) := by
  refine Ctr.enter (Ls := #[.val (.ref q1), .val (.int (0 : Int32))]) (by decide +kernel) (fun m => ef_rmCA3_0_0 q1 m) ?_
  intro p e s m below meth c T hx hby hml hown hnm hret hlk hZ hh X0 e0
  have N0 := Fr.nil n0
  refine g_aloadN X0 hx hby d14_0 (pc' := 1) rfl rfl rfl ?_
  refine g_callV X0 hx hZ hown (W := 0) (argsL := []) (b := q1) (rest := []) hby d14_1 (pc' := 4) rfl (by rw [hml]; rfl) (w_65 hw) (w_66 hw) (w_68 hw) (notFace_of_selects (args := #[]) (mvT hZ (w_68 hw))) (w_67 hw) (w_10 hw) (w_69 hw) (by decide) (rmIL0 l Z a0 hw [] q1 h0 n0 F_c cs fm SS O0) e0 E_a (by decide) (by decide) (by decide) (by decide) rfl pd__28_29Z rfl rfl (Nat.le_of_eq rfl) ?_
  rintro _ T1 L1 X1 ⟨rfl, N1q, e1⟩
  have N1 := Fr.app N0 N1q
  show GoE p e below _ (T1.setTop (mkF m 4 #[.val (.ref q1), .val (.int (0 : Int32))] [.int (1 : Int32)]))
  refine g_if_eq X1 hx hby d14_4 (by decide) (pc' := 16) (by decide) (pn := 7) rfl (fun z => absurd z (by decide)) (fun _ => ?_)
  refine g_aloadN X1 hx hby d14_7 (pc' := 8) rfl rfl rfl ?_
  refine g_get X1 hx hZ hown hby d14_8 (pc' := 11) rfl (w_54 hw) e1 F_v ?_
  intro T2 X2 e2
  refine g_iloadN X2 hx hby d14_11 (pc' := 12) rfl rfl ?_
  refine g_callS X2 hx hZ hown (W := 0) (argsL := [.ref bv, .int (0 : Int32)]) (rest := []) hby d14_12 (pc' := 15) rfl (by rw [hml]; rfl) (w_112 hw) (w_113 hw) (w_114 hw) (w_115 hw) (by decide) (rmLC3_0 l Z a0 hw [] bv h0 n0 (lat x0) (lat x1) (lat x2) _ A_v cs fm SS O0) e2 (by decide) (by decide) (by decide) (by decide) rfl pd__28_5bBI_29C rfl rfl (Nat.le_of_eq rfl) ?_
  rintro _ T3 L3 X3 ⟨rfl, N3q, e3⟩
  have N3 := Fr.app N1 N3q
  show GoE p e below _ (T3.setTop (mkF m 15 #[.val (.ref q1), .val (.int (0 : Int32))] [.int (lch (lat x0))]))
  exact g_retN (Q := (fun v h L => v = some (.int x0) ∧ Fr n0 L ∧ h = h0)) (w := (lch (lat x0))) X3 hx hby d14_15 hret (by simp) (own_narc (own_ch _)) hlk (by decide) (by decide) ⟨congrArg (fun z : Int32 => some (Value.int z)) (own_lat hx0 l0), N3, e3⟩
theorem ef_rmCA3_0_1 (q1 : Addr) (m : MethodId) : entryFrame m #[.ref q1, .int (1 : Int32)] 2 = mkF m 0 #[.val (.ref q1), .val (.int (1 : Int32))] [] := by
  first | (simp [entryFrame, mkF, argsToLocals, Value.category]; done) | rfl
set_option maxRecDepth 65536 in
set_option maxHeartbeats 40000000 in
theorem rmCA3_0_1 (l : Launch) (Z : State) (a0 : Array Value) (hw : ∀ d ∈ tables_1, d.before a0 Z = true) (ws : List Jvm.Cond) (q1 : Addr) (h0 : Heap) (n0 : Nat) (x0 x1 x2 : Int32) (bv : Addr) (kv : ClassId) (hx0 : CH x0) (hx1 : CH x1) (hx2 : CH x2) (E_a : Exa Z h0 q1 "java/lang/String") (F_v : Fld Z h0 q1 "java/lang/String" "value" "[B" (.ref bv)) (F_c : Fld Z h0 q1 "java/lang/String" "coder" "B" (.int (0 : Int32)))  (A_v : Arv Z h0 bv kv .byte (3 : Int32) [.int (lat x0), .int (lat x1), .int (lat x2)] (.int 0)) (l0 : ¬ (255 : Int32) < x0) (l1 : ¬ (255 : Int32) < x1) (l2 : ¬ (255 : Int32) < x2) (cs : Int32) (fm : Value) (SS : SSt Z cs fm) (O0 : Old Z n0 h0) :
    Ctr l Z ({ cls := "java/lang/String", name := "charAt", desc := "(I)C" } : Jvm.MethodName) jdk_42_method_56_code 2 (some .char) ws ({ frames := 4, cells := 0, slots := 0, locals := 53 } : Room) #[.ref q1, .int (1 : Int32)] h0 (fun v h L => v = some (.int x1) ∧ Fr n0 L ∧ h = h0) := by
  refine Ctr.enter (Ls := #[.val (.ref q1), .val (.int (1 : Int32))]) (by decide +kernel) (fun m => ef_rmCA3_0_1 q1 m) ?_
  intro p e s m below meth c T hx hby hml hown hnm hret hlk hZ hh X0 e0
  have N0 := Fr.nil n0
  refine g_aloadN X0 hx hby d14_0 (pc' := 1) rfl rfl rfl ?_
  refine g_callV X0 hx hZ hown (W := 0) (argsL := []) (b := q1) (rest := []) hby d14_1 (pc' := 4) rfl (by rw [hml]; rfl) (w_65 hw) (w_66 hw) (w_68 hw) (notFace_of_selects (args := #[]) (mvT hZ (w_68 hw))) (w_67 hw) (w_10 hw) (w_69 hw) (by decide) (rmIL0 l Z a0 hw [] q1 h0 n0 F_c cs fm SS O0) e0 E_a (by decide) (by decide) (by decide) (by decide) rfl pd__28_29Z rfl rfl (Nat.le_of_eq rfl) ?_
  rintro _ T1 L1 X1 ⟨rfl, N1q, e1⟩
  have N1 := Fr.app N0 N1q
  show GoE p e below _ (T1.setTop (mkF m 4 #[.val (.ref q1), .val (.int (1 : Int32))] [.int (1 : Int32)]))
  refine g_if_eq X1 hx hby d14_4 (by decide) (pc' := 16) (by decide) (pn := 7) rfl (fun z => absurd z (by decide)) (fun _ => ?_)
  refine g_aloadN X1 hx hby d14_7 (pc' := 8) rfl rfl rfl ?_
  refine g_get X1 hx hZ hown hby d14_8 (pc' := 11) rfl (w_54 hw) e1 F_v ?_
  intro T2 X2 e2
  refine g_iloadN X2 hx hby d14_11 (pc' := 12) rfl rfl ?_
  refine g_callS X2 hx hZ hown (W := 0) (argsL := [.ref bv, .int (1 : Int32)]) (rest := []) hby d14_12 (pc' := 15) rfl (by rw [hml]; rfl) (w_112 hw) (w_113 hw) (w_114 hw) (w_115 hw) (by decide) (rmLC3_1 l Z a0 hw [] bv h0 n0 (lat x0) (lat x1) (lat x2) _ A_v cs fm SS O0) e2 (by decide) (by decide) (by decide) (by decide) rfl pd__28_5bBI_29C rfl rfl (Nat.le_of_eq rfl) ?_
  rintro _ T3 L3 X3 ⟨rfl, N3q, e3⟩
  have N3 := Fr.app N1 N3q
  show GoE p e below _ (T3.setTop (mkF m 15 #[.val (.ref q1), .val (.int (1 : Int32))] [.int (lch (lat x1))]))
  exact g_retN (Q := (fun v h L => v = some (.int x1) ∧ Fr n0 L ∧ h = h0)) (w := (lch (lat x1))) X3 hx hby d14_15 hret (by simp) (own_narc (own_ch _)) hlk (by decide) (by decide) ⟨congrArg (fun z : Int32 => some (Value.int z)) (own_lat hx1 l1), N3, e3⟩
theorem ef_rmCA3_0_2 (q1 : Addr) (m : MethodId) : entryFrame m #[.ref q1, .int (2 : Int32)] 2 = mkF m 0 #[.val (.ref q1), .val (.int (2 : Int32))] [] := by
  first | (simp [entryFrame, mkF, argsToLocals, Value.category]; done) | rfl
set_option maxRecDepth 65536 in
set_option maxHeartbeats 40000000 in
theorem rmCA3_0_2 (l : Launch) (Z : State) (a0 : Array Value) (hw : ∀ d ∈ tables_1, d.before a0 Z = true) (ws : List Jvm.Cond) (q1 : Addr) (h0 : Heap) (n0 : Nat) (x0 x1 x2 : Int32) (bv : Addr) (kv : ClassId) (hx0 : CH x0) (hx1 : CH x1) (hx2 : CH x2) (E_a : Exa Z h0 q1 "java/lang/String") (F_v : Fld Z h0 q1 "java/lang/String" "value" "[B" (.ref bv)) (F_c : Fld Z h0 q1 "java/lang/String" "coder" "B" (.int (0 : Int32)))  (A_v : Arv Z h0 bv kv .byte (3 : Int32) [.int (lat x0), .int (lat x1), .int (lat x2)] (.int 0)) (l0 : ¬ (255 : Int32) < x0) (l1 : ¬ (255 : Int32) < x1) (l2 : ¬ (255 : Int32) < x2) (cs : Int32) (fm : Value) (SS : SSt Z cs fm) (O0 : Old Z n0 h0) :
    Ctr l Z ({ cls := "java/lang/String", name := "charAt", desc := "(I)C" } : Jvm.MethodName) jdk_42_method_56_code 2 (some .char) ws ({ frames := 4, cells := 0, slots := 0, locals := 53 } : Room) #[.ref q1, .int (2 : Int32)] h0 (fun v h L => v = some (.int x2) ∧ Fr n0 L ∧ h = h0) := by
  refine Ctr.enter (Ls := #[.val (.ref q1), .val (.int (2 : Int32))]) (by decide +kernel) (fun m => ef_rmCA3_0_2 q1 m) ?_
  intro p e s m below meth c T hx hby hml hown hnm hret hlk hZ hh X0 e0
  have N0 := Fr.nil n0
  refine g_aloadN X0 hx hby d14_0 (pc' := 1) rfl rfl rfl ?_
  refine g_callV X0 hx hZ hown (W := 0) (argsL := []) (b := q1) (rest := []) hby d14_1 (pc' := 4) rfl (by rw [hml]; rfl) (w_65 hw) (w_66 hw) (w_68 hw) (notFace_of_selects (args := #[]) (mvT hZ (w_68 hw))) (w_67 hw) (w_10 hw) (w_69 hw) (by decide) (rmIL0 l Z a0 hw [] q1 h0 n0 F_c cs fm SS O0) e0 E_a (by decide) (by decide) (by decide) (by decide) rfl pd__28_29Z rfl rfl (Nat.le_of_eq rfl) ?_
  rintro _ T1 L1 X1 ⟨rfl, N1q, e1⟩
  have N1 := Fr.app N0 N1q
  show GoE p e below _ (T1.setTop (mkF m 4 #[.val (.ref q1), .val (.int (2 : Int32))] [.int (1 : Int32)]))
  refine g_if_eq X1 hx hby d14_4 (by decide) (pc' := 16) (by decide) (pn := 7) rfl (fun z => absurd z (by decide)) (fun _ => ?_)
  refine g_aloadN X1 hx hby d14_7 (pc' := 8) rfl rfl rfl ?_
  refine g_get X1 hx hZ hown hby d14_8 (pc' := 11) rfl (w_54 hw) e1 F_v ?_
  intro T2 X2 e2
  refine g_iloadN X2 hx hby d14_11 (pc' := 12) rfl rfl ?_
  refine g_callS X2 hx hZ hown (W := 0) (argsL := [.ref bv, .int (2 : Int32)]) (rest := []) hby d14_12 (pc' := 15) rfl (by rw [hml]; rfl) (w_112 hw) (w_113 hw) (w_114 hw) (w_115 hw) (by decide) (rmLC3_2 l Z a0 hw [] bv h0 n0 (lat x0) (lat x1) (lat x2) _ A_v cs fm SS O0) e2 (by decide) (by decide) (by decide) (by decide) rfl pd__28_5bBI_29C rfl rfl (Nat.le_of_eq rfl) ?_
  rintro _ T3 L3 X3 ⟨rfl, N3q, e3⟩
  have N3 := Fr.app N1 N3q
  show GoE p e below _ (T3.setTop (mkF m 15 #[.val (.ref q1), .val (.int (2 : Int32))] [.int (lch (lat x2))]))
  exact g_retN (Q := (fun v h L => v = some (.int x2) ∧ Fr n0 L ∧ h = h0)) (w := (lch (lat x2))) X3 hx hby d14_15 hret (by simp) (own_narc (own_ch _)) hlk (by decide) (by decide) ⟨congrArg (fun z : Int32 => some (Value.int z)) (own_lat hx2 l2), N3, e3⟩
theorem ef_rmCA3_1_0 (q1 : Addr) (m : MethodId) : entryFrame m #[.ref q1, .int (0 : Int32)] 2 = mkF m 0 #[.val (.ref q1), .val (.int (0 : Int32))] [] := by
  first | (simp [entryFrame, mkF, argsToLocals, Value.category]; done) | rfl
set_option maxRecDepth 65536 in
set_option maxHeartbeats 40000000 in
theorem rmCA3_1_0 (l : Launch) (Z : State) (a0 : Array Value) (hw : ∀ d ∈ tables_1, d.before a0 Z = true) (ws : List Jvm.Cond) (q1 : Addr) (h0 : Heap) (n0 : Nat) (x0 x1 x2 : Int32) (bv : Addr) (kv : ClassId) (hx0 : CH x0) (hx1 : CH x1) (hx2 : CH x2) (E_a : Exa Z h0 q1 "java/lang/String") (F_v : Fld Z h0 q1 "java/lang/String" "value" "[B" (.ref bv)) (F_c : Fld Z h0 q1 "java/lang/String" "coder" "B" (.int (1 : Int32)))  (A_v : Arv Z h0 bv kv .byte (6 : Int32) [.int (lob x0), .int (hib x0), .int (lob x1), .int (hib x1), .int (lob x2), .int (hib x2)] (.int 0)) (cs : Int32) (fm : Value) (SS : SSt Z cs fm) (O0 : Old Z n0 h0) :
    Ctr l Z ({ cls := "java/lang/String", name := "charAt", desc := "(I)C" } : Jvm.MethodName) jdk_42_method_56_code 2 (some .char) ws ({ frames := 4, cells := 0, slots := 0, locals := 53 } : Room) #[.ref q1, .int (0 : Int32)] h0 (fun v h L => v = some (.int x0) ∧ Fr n0 L ∧ h = h0) := by
  refine Ctr.enter (Ls := #[.val (.ref q1), .val (.int (0 : Int32))]) (by decide +kernel) (fun m => ef_rmCA3_1_0 q1 m) ?_
  intro p e s m below meth c T hx hby hml hown hnm hret hlk hZ hh X0 e0
  have N0 := Fr.nil n0
  refine g_aloadN X0 hx hby d14_0 (pc' := 1) rfl rfl rfl ?_
  refine g_callV X0 hx hZ hown (W := 0) (argsL := []) (b := q1) (rest := []) hby d14_1 (pc' := 4) rfl (by rw [hml]; rfl) (w_65 hw) (w_66 hw) (w_68 hw) (notFace_of_selects (args := #[]) (mvT hZ (w_68 hw))) (w_67 hw) (w_10 hw) (w_69 hw) (by decide) (rmIL1 l Z a0 hw [] q1 h0 n0 F_c cs fm SS O0) e0 E_a (by decide) (by decide) (by decide) (by decide) rfl pd__28_29Z rfl rfl (Nat.le_of_eq rfl) ?_
  rintro _ T1 L1 X1 ⟨rfl, N1q, e1⟩
  have N1 := Fr.app N0 N1q
  show GoE p e below _ (T1.setTop (mkF m 4 #[.val (.ref q1), .val (.int (0 : Int32))] [.int (0 : Int32)]))
  refine g_if_eq X1 hx hby d14_4 (by decide) (pc' := 16) (by decide) (pn := 7) rfl (fun _ => ?_) (fun z => absurd z (by decide))
  refine g_aloadN X1 hx hby d14_16 (pc' := 17) rfl rfl rfl ?_
  refine g_get X1 hx hZ hown hby d14_17 (pc' := 20) rfl (w_54 hw) e1 F_v ?_
  intro T2 X2 e2
  refine g_iloadN X2 hx hby d14_20 (pc' := 21) rfl rfl ?_
  refine g_callS X2 hx hZ hown (W := 0) (argsL := [.ref bv, .int (0 : Int32)]) (rest := []) hby d14_21 (pc' := 24) rfl (by rw [hml]; rfl) (w_70 hw) (w_71 hw) (w_24 hw) (w_72 hw) (by decide) (rmUC3_0 l Z a0 hw [] bv h0 n0 (lob x0) (hib x0) (lob x1) (hib x1) (lob x2) (hib x2) _ A_v cs fm SS O0) e2 (by decide) (by decide) (by decide) (by decide) rfl pd__28_5bBI_29C rfl rfl (Nat.le_of_eq rfl) ?_
  rintro _ T3 L3 X3 ⟨rfl, N3q, e3⟩
  have N3 := Fr.app N1 N3q
  show GoE p e below _ (T3.setTop (mkF m 24 #[.val (.ref q1), .val (.int (0 : Int32))] [.int (gch (lob x0) (hib x0))]))
  exact g_retN (Q := (fun v h L => v = some (.int x0) ∧ Fr n0 L ∧ h = h0)) (w := (gch (lob x0) (hib x0))) X3 hx hby d14_24 hret (by simp) (own_narc (own_ch _)) hlk (by decide) (by decide) ⟨congrArg (fun z : Int32 => some (Value.int z)) (own_gch hx0), N3, e3⟩
theorem ef_rmCA3_1_1 (q1 : Addr) (m : MethodId) : entryFrame m #[.ref q1, .int (1 : Int32)] 2 = mkF m 0 #[.val (.ref q1), .val (.int (1 : Int32))] [] := by
  first | (simp [entryFrame, mkF, argsToLocals, Value.category]; done) | rfl
set_option maxRecDepth 65536 in
set_option maxHeartbeats 40000000 in
theorem rmCA3_1_1 (l : Launch) (Z : State) (a0 : Array Value) (hw : ∀ d ∈ tables_1, d.before a0 Z = true) (ws : List Jvm.Cond) (q1 : Addr) (h0 : Heap) (n0 : Nat) (x0 x1 x2 : Int32) (bv : Addr) (kv : ClassId) (hx0 : CH x0) (hx1 : CH x1) (hx2 : CH x2) (E_a : Exa Z h0 q1 "java/lang/String") (F_v : Fld Z h0 q1 "java/lang/String" "value" "[B" (.ref bv)) (F_c : Fld Z h0 q1 "java/lang/String" "coder" "B" (.int (1 : Int32)))  (A_v : Arv Z h0 bv kv .byte (6 : Int32) [.int (lob x0), .int (hib x0), .int (lob x1), .int (hib x1), .int (lob x2), .int (hib x2)] (.int 0)) (cs : Int32) (fm : Value) (SS : SSt Z cs fm) (O0 : Old Z n0 h0) :
    Ctr l Z ({ cls := "java/lang/String", name := "charAt", desc := "(I)C" } : Jvm.MethodName) jdk_42_method_56_code 2 (some .char) ws ({ frames := 4, cells := 0, slots := 0, locals := 53 } : Room) #[.ref q1, .int (1 : Int32)] h0 (fun v h L => v = some (.int x1) ∧ Fr n0 L ∧ h = h0) := by
  refine Ctr.enter (Ls := #[.val (.ref q1), .val (.int (1 : Int32))]) (by decide +kernel) (fun m => ef_rmCA3_1_1 q1 m) ?_
  intro p e s m below meth c T hx hby hml hown hnm hret hlk hZ hh X0 e0
  have N0 := Fr.nil n0
  refine g_aloadN X0 hx hby d14_0 (pc' := 1) rfl rfl rfl ?_
  refine g_callV X0 hx hZ hown (W := 0) (argsL := []) (b := q1) (rest := []) hby d14_1 (pc' := 4) rfl (by rw [hml]; rfl) (w_65 hw) (w_66 hw) (w_68 hw) (notFace_of_selects (args := #[]) (mvT hZ (w_68 hw))) (w_67 hw) (w_10 hw) (w_69 hw) (by decide) (rmIL1 l Z a0 hw [] q1 h0 n0 F_c cs fm SS O0) e0 E_a (by decide) (by decide) (by decide) (by decide) rfl pd__28_29Z rfl rfl (Nat.le_of_eq rfl) ?_
  rintro _ T1 L1 X1 ⟨rfl, N1q, e1⟩
  have N1 := Fr.app N0 N1q
  show GoE p e below _ (T1.setTop (mkF m 4 #[.val (.ref q1), .val (.int (1 : Int32))] [.int (0 : Int32)]))
  refine g_if_eq X1 hx hby d14_4 (by decide) (pc' := 16) (by decide) (pn := 7) rfl (fun _ => ?_) (fun z => absurd z (by decide))
  refine g_aloadN X1 hx hby d14_16 (pc' := 17) rfl rfl rfl ?_
  refine g_get X1 hx hZ hown hby d14_17 (pc' := 20) rfl (w_54 hw) e1 F_v ?_
  intro T2 X2 e2
  refine g_iloadN X2 hx hby d14_20 (pc' := 21) rfl rfl ?_
  refine g_callS X2 hx hZ hown (W := 0) (argsL := [.ref bv, .int (1 : Int32)]) (rest := []) hby d14_21 (pc' := 24) rfl (by rw [hml]; rfl) (w_70 hw) (w_71 hw) (w_24 hw) (w_72 hw) (by decide) (rmUC3_1 l Z a0 hw [] bv h0 n0 (lob x0) (hib x0) (lob x1) (hib x1) (lob x2) (hib x2) _ A_v cs fm SS O0) e2 (by decide) (by decide) (by decide) (by decide) rfl pd__28_5bBI_29C rfl rfl (Nat.le_of_eq rfl) ?_
  rintro _ T3 L3 X3 ⟨rfl, N3q, e3⟩
  have N3 := Fr.app N1 N3q
  show GoE p e below _ (T3.setTop (mkF m 24 #[.val (.ref q1), .val (.int (1 : Int32))] [.int (gch (lob x1) (hib x1))]))
  exact g_retN (Q := (fun v h L => v = some (.int x1) ∧ Fr n0 L ∧ h = h0)) (w := (gch (lob x1) (hib x1))) X3 hx hby d14_24 hret (by simp) (own_narc (own_ch _)) hlk (by decide) (by decide) ⟨congrArg (fun z : Int32 => some (Value.int z)) (own_gch hx1), N3, e3⟩
theorem ef_rmCA3_1_2 (q1 : Addr) (m : MethodId) : entryFrame m #[.ref q1, .int (2 : Int32)] 2 = mkF m 0 #[.val (.ref q1), .val (.int (2 : Int32))] [] := by
  first | (simp [entryFrame, mkF, argsToLocals, Value.category]; done) | rfl
set_option maxRecDepth 65536 in
set_option maxHeartbeats 40000000 in
theorem rmCA3_1_2 (l : Launch) (Z : State) (a0 : Array Value) (hw : ∀ d ∈ tables_1, d.before a0 Z = true) (ws : List Jvm.Cond) (q1 : Addr) (h0 : Heap) (n0 : Nat) (x0 x1 x2 : Int32) (bv : Addr) (kv : ClassId) (hx0 : CH x0) (hx1 : CH x1) (hx2 : CH x2) (E_a : Exa Z h0 q1 "java/lang/String") (F_v : Fld Z h0 q1 "java/lang/String" "value" "[B" (.ref bv)) (F_c : Fld Z h0 q1 "java/lang/String" "coder" "B" (.int (1 : Int32)))  (A_v : Arv Z h0 bv kv .byte (6 : Int32) [.int (lob x0), .int (hib x0), .int (lob x1), .int (hib x1), .int (lob x2), .int (hib x2)] (.int 0)) (cs : Int32) (fm : Value) (SS : SSt Z cs fm) (O0 : Old Z n0 h0) :
    Ctr l Z ({ cls := "java/lang/String", name := "charAt", desc := "(I)C" } : Jvm.MethodName) jdk_42_method_56_code 2 (some .char) ws ({ frames := 4, cells := 0, slots := 0, locals := 53 } : Room) #[.ref q1, .int (2 : Int32)] h0 (fun v h L => v = some (.int x2) ∧ Fr n0 L ∧ h = h0) := by
  refine Ctr.enter (Ls := #[.val (.ref q1), .val (.int (2 : Int32))]) (by decide +kernel) (fun m => ef_rmCA3_1_2 q1 m) ?_
  intro p e s m below meth c T hx hby hml hown hnm hret hlk hZ hh X0 e0
  have N0 := Fr.nil n0
  refine g_aloadN X0 hx hby d14_0 (pc' := 1) rfl rfl rfl ?_
  refine g_callV X0 hx hZ hown (W := 0) (argsL := []) (b := q1) (rest := []) hby d14_1 (pc' := 4) rfl (by rw [hml]; rfl) (w_65 hw) (w_66 hw) (w_68 hw) (notFace_of_selects (args := #[]) (mvT hZ (w_68 hw))) (w_67 hw) (w_10 hw) (w_69 hw) (by decide) (rmIL1 l Z a0 hw [] q1 h0 n0 F_c cs fm SS O0) e0 E_a (by decide) (by decide) (by decide) (by decide) rfl pd__28_29Z rfl rfl (Nat.le_of_eq rfl) ?_
  rintro _ T1 L1 X1 ⟨rfl, N1q, e1⟩
  have N1 := Fr.app N0 N1q
  show GoE p e below _ (T1.setTop (mkF m 4 #[.val (.ref q1), .val (.int (2 : Int32))] [.int (0 : Int32)]))
  refine g_if_eq X1 hx hby d14_4 (by decide) (pc' := 16) (by decide) (pn := 7) rfl (fun _ => ?_) (fun z => absurd z (by decide))
  refine g_aloadN X1 hx hby d14_16 (pc' := 17) rfl rfl rfl ?_
  refine g_get X1 hx hZ hown hby d14_17 (pc' := 20) rfl (w_54 hw) e1 F_v ?_
  intro T2 X2 e2
  refine g_iloadN X2 hx hby d14_20 (pc' := 21) rfl rfl ?_
  refine g_callS X2 hx hZ hown (W := 0) (argsL := [.ref bv, .int (2 : Int32)]) (rest := []) hby d14_21 (pc' := 24) rfl (by rw [hml]; rfl) (w_70 hw) (w_71 hw) (w_24 hw) (w_72 hw) (by decide) (rmUC3_2 l Z a0 hw [] bv h0 n0 (lob x0) (hib x0) (lob x1) (hib x1) (lob x2) (hib x2) _ A_v cs fm SS O0) e2 (by decide) (by decide) (by decide) (by decide) rfl pd__28_5bBI_29C rfl rfl (Nat.le_of_eq rfl) ?_
  rintro _ T3 L3 X3 ⟨rfl, N3q, e3⟩
  have N3 := Fr.app N1 N3q
  show GoE p e below _ (T3.setTop (mkF m 24 #[.val (.ref q1), .val (.int (2 : Int32))] [.int (gch (lob x2) (hib x2))]))
  exact g_retN (Q := (fun v h L => v = some (.int x2) ∧ Fr n0 L ∧ h = h0)) (w := (gch (lob x2) (hib x2))) X3 hx hby d14_24 hret (by simp) (own_narc (own_ch _)) hlk (by decide) (by decide) ⟨congrArg (fun z : Int32 => some (Value.int z)) (own_gch hx2), N3, e3⟩
theorem ef_rmKL1_0_0 (q1 : Addr) (m : MethodId) : entryFrame m #[.ref q1, .int (0 : Int32)] 4 = mkF m 0 #[.val (.ref q1), .val (.int (0 : Int32)), .unset, .unset] [] := by
  first | (simp [entryFrame, mkF, argsToLocals, Value.category]; done) | rfl
set_option maxRecDepth 65536 in
set_option maxHeartbeats 40000000 in
theorem rmKL1_0_0 (l : Launch) (Z : State) (a0 : Array Value) (hw : ∀ d ∈ tables_1, d.before a0 Z = true) (ws : List Jvm.Cond) (q1 : Addr) (h0 : Heap) (n0 : Nat) (x0 : Int32) (bv : Addr) (kv : ClassId) (hx0 : CH x0) (E_a : Exa Z h0 q1 "java/lang/String") (F_v : Fld Z h0 q1 "java/lang/String" "value" "[B" (.ref bv)) (F_c : Fld Z h0 q1 "java/lang/String" "coder" "B" (.int (0 : Int32)))  (A_v : Arv Z h0 bv kv .byte (1 : Int32) [.int (lat x0)] (.int 0)) (l0 : ¬ (255 : Int32) < x0) (cs : Int32) (fm : Value) (SS : SSt Z cs fm) (O0 : Old Z n0 h0) :
    Ctr l Z ({ cls := "com/example/libonce/libonce/StorableText", name := "keptLength", desc := "(Ljava/lang/String;I)I" } : Jvm.MethodName) prog_13_method_4_code 4 (some .int) ws ({ frames := 5, cells := 0, slots := 0, locals := 66 } : Room) #[.ref q1, .int (0 : Int32)] h0 (fun v h L => v = some (.int (klA x0)) ∧ Fr n0 L ∧ h = h0) := by
  refine Ctr.enter (Ls := #[.val (.ref q1), .val (.int (0 : Int32)), .unset, .unset]) (by decide +kernel) (fun m => ef_rmKL1_0_0 q1 m) ?_
  intro p e s m below meth c T hx hby hml hown hnm hret hlk hZ hh X0 e0
  have N0 := Fr.nil n0
  refine g_aloadN X0 hx hby d13_0 (pc' := 1) rfl rfl rfl ?_
  refine g_iloadN X0 hx hby d13_1 (pc' := 2) rfl rfl ?_
  refine g_callV X0 hx hZ hown (W := 0) (argsL := [.int (0 : Int32)]) (b := q1) (rest := []) hby d13_2 (pc' := 5) rfl (by rw [hml]; rfl) (w_60 hw) (w_61 hw) (w_63 hw) (notFace_of_selects (args := #[]) (mvT hZ (w_63 hw))) (w_62 hw) (w_10 hw) (w_64 hw) (by decide) (rmCA1_0_0 l Z a0 hw [] q1 h0 n0 x0 _ _ hx0 E_a F_v F_c A_v l0 cs fm SS O0) e0 E_a (by decide) (by decide) (by decide) (by decide) rfl pd__28I_29C rfl rfl (Nat.le_of_eq rfl) ?_
  rintro _ T1 L1 X1 ⟨rfl, N1q, e1⟩
  have N1 := Fr.app N0 N1q
  show GoE p e below _ (T1.setTop (mkF m 5 #[.val (.ref q1), .val (.int (0 : Int32)), .unset, .unset] [.int x0]))
  refine g_istoreN X1 hx hby d13_5 (pc' := 6) rfl (l' := #[.val (.ref q1), .val (.int (0 : Int32)), .val (.int x0), .unset]) rfl ?_
  refine g_iloadN X1 hx hby d13_6 (pc' := 7) rfl rfl ?_
  refine g_if_ne X1 hx hby d13_7 (by decide) (pc' := 12) (by decide) (pn := 10) rfl (fun hc7_2 => ?_) (fun hc7_2 => ?_)
  · refine g_iloadN X1 hx hby d13_12 (pc' := 13) rfl rfl ?_
    refine g_callS X1 hx hZ hown (W := 0) (argsL := [.int x0]) (rest := []) hby d13_13 (pc' := 16) rfl (by rw [hml]; rfl) (w_90 hw) (w_91 hw) (w_92 hw) (w_93 hw) (by decide) (rmS l Z a0 hw [] x0 h0 n0) e1 (by decide) (by decide) (by decide) (by decide) rfl pd__28C_29Z rfl rfl (Nat.le_of_eq rfl) ?_
    rintro _ T3 L3 X3 ⟨rfl, N3q, e3⟩
    have N3 := Fr.app N1 N3q
    show GoE p e below _ (T3.setTop (mkF m 16 #[.val (.ref q1), .val (.int (0 : Int32)), .val (.int x0), .unset] [.int (isS x0)]))
    refine g_if_ne X3 hx hby d13_16 (by decide) (pc' := 21) (by decide) (pn := 19) rfl (fun hc16_4 => ?_) (fun hc16_4 => ?_)
    · refine g_iloadN X3 hx hby d13_21 (pc' := 22) rfl rfl ?_
      refine g_callS X3 hx hZ hown (W := 0) (argsL := [.int x0]) (rest := []) hby d13_22 (pc' := 25) rfl (by rw [hml]; rfl) (w_96 hw) (w_97 hw) (w_92 hw) (w_98 hw) (by decide) (rmH l Z a0 hw [] x0 h0 n0) e3 (by decide) (by decide) (by decide) (by decide) rfl pd__28C_29Z rfl rfl (Nat.le_of_eq rfl) ?_
      rintro _ T5 L5 X5 ⟨rfl, N5q, e5⟩
      have N5 := Fr.app N3 N5q
      show GoE p e below _ (T5.setTop (mkF m 25 #[.val (.ref q1), .val (.int (0 : Int32)), .val (.int x0), .unset] [.int (isH x0)]))
      refine g_if_eq X5 hx hby d13_25 (by decide) (pc' := 55) (by decide) (pn := 28) rfl (fun hc25_6 => ?_) (fun hc25_6 => ?_)
      · refine g_iconst X5 hx hby d13_55 (pc' := 56) rfl (z := (0 : Int32)) rfl ?_
        refine g_istoreN X5 hx hby d13_56 (pc' := 57) rfl (l' := #[.val (.ref q1), .val (.int (0 : Int32)), .val (.int x0), .val (.int (0 : Int32))]) rfl ?_
        refine g_iloadN X5 hx hby d13_57 (pc' := 58) rfl rfl ?_
        refine g_if_eq X5 hx hby d13_58 (by decide) (pc' := 65) (by decide) (pn := 61) rfl (fun _ => ?_) (fun z => absurd z (by decide))
        refine g_iconst X5 hx hby d13_65 (pc' := 66) rfl (z := (0 : Int32)) rfl ?_
        exact g_retI (Q := (fun v h L => v = some (.int (klA x0)) ∧ Fr n0 L ∧ h = h0)) X5 hx hby d13_66 hret hlk (by decide) (by decide) ⟨congrArg (fun z : Int32 => some (Value.int z)) (by unfold klA; rw [if_neg hc7_2, if_neg hc16_4, if_pos hc25_6]), N5, e5⟩
      · refine g_iloadN X5 hx hby d13_28 (pc' := 29) rfl rfl ?_
        refine g_iconst X5 hx hby d13_29 (pc' := 30) rfl (z := (1 : Int32)) rfl ?_
        refine g_iadd X5 hx hby d13_30 (pc' := 31) rfl ?_
        refine g_eqI (b := (1 : Int32)) (by decide +kernel) ?_
        refine g_aloadN X5 hx hby d13_31 (pc' := 32) rfl rfl rfl ?_
        refine g_callV X5 hx hZ hown (W := 1) (argsL := []) (b := q1) (rest := [.int (1 : Int32)]) hby d13_32 (pc' := 35) rfl (by rw [hml]; rfl) (w_102 hw) (w_103 hw) (w_105 hw) (notFace_of_selects (args := #[]) (mvT hZ (w_105 hw))) (w_104 hw) (w_10 hw) (w_106 hw) (by decide) (rmSL1_0 l Z a0 hw [] q1 h0 n0 x0 _ _ hx0 E_a F_v F_c A_v l0 cs fm SS O0) e5 E_a (by decide) (by decide) (by decide) (by decide) rfl pd__28_29I rfl rfl (Nat.le_of_eq rfl) ?_
        rintro _ T7 L7 X7 ⟨rfl, N7q, e7⟩
        have N7 := Fr.app N5 N7q
        show GoE p e below _ (T7.setTop (mkF m 35 #[.val (.ref q1), .val (.int (0 : Int32)), .val (.int x0), .unset] [.int (1 : Int32), .int (1 : Int32)]))
        refine g_icmp_ge X7 hx hby d13_35 (by decide) (pc' := 55) (by decide) (pn := 38) rfl (fun _ => ?_) (fun z => absurd z (by decide))
        refine g_iconst X7 hx hby d13_55 (pc' := 56) rfl (z := (0 : Int32)) rfl ?_
        refine g_istoreN X7 hx hby d13_56 (pc' := 57) rfl (l' := #[.val (.ref q1), .val (.int (0 : Int32)), .val (.int x0), .val (.int (0 : Int32))]) rfl ?_
        refine g_iloadN X7 hx hby d13_57 (pc' := 58) rfl rfl ?_
        refine g_if_eq X7 hx hby d13_58 (by decide) (pc' := 65) (by decide) (pn := 61) rfl (fun _ => ?_) (fun z => absurd z (by decide))
        refine g_iconst X7 hx hby d13_65 (pc' := 66) rfl (z := (0 : Int32)) rfl ?_
        exact g_retI (Q := (fun v h L => v = some (.int (klA x0)) ∧ Fr n0 L ∧ h = h0)) X7 hx hby d13_66 hret hlk (by decide) (by decide) ⟨congrArg (fun z : Int32 => some (Value.int z)) (by unfold klA; rw [if_neg hc7_2, if_neg hc16_4, if_neg hc25_6]), N7, e7⟩
    · refine g_iconst X3 hx hby d13_19 (pc' := 20) rfl (z := (1 : Int32)) rfl ?_
      exact g_retI (Q := (fun v h L => v = some (.int (klA x0)) ∧ Fr n0 L ∧ h = h0)) X3 hx hby d13_20 hret hlk (by decide) (by decide) ⟨congrArg (fun z : Int32 => some (Value.int z)) (by unfold klA; rw [if_neg hc7_2, if_pos hc16_4]), N3, e3⟩
  · refine g_iconst X1 hx hby d13_10 (pc' := 11) rfl (z := (0 : Int32)) rfl ?_
    exact g_retI (Q := (fun v h L => v = some (.int (klA x0)) ∧ Fr n0 L ∧ h = h0)) X1 hx hby d13_11 hret hlk (by decide) (by decide) ⟨congrArg (fun z : Int32 => some (Value.int z)) (by unfold klA; rw [if_pos hc7_2]), N1, e1⟩
theorem ef_rmKL1_1_0 (q1 : Addr) (m : MethodId) : entryFrame m #[.ref q1, .int (0 : Int32)] 4 = mkF m 0 #[.val (.ref q1), .val (.int (0 : Int32)), .unset, .unset] [] := by
  first | (simp [entryFrame, mkF, argsToLocals, Value.category]; done) | rfl
set_option maxRecDepth 65536 in
set_option maxHeartbeats 40000000 in
theorem rmKL1_1_0 (l : Launch) (Z : State) (a0 : Array Value) (hw : ∀ d ∈ tables_1, d.before a0 Z = true) (ws : List Jvm.Cond) (q1 : Addr) (h0 : Heap) (n0 : Nat) (x0 : Int32) (bv : Addr) (kv : ClassId) (hx0 : CH x0) (E_a : Exa Z h0 q1 "java/lang/String") (F_v : Fld Z h0 q1 "java/lang/String" "value" "[B" (.ref bv)) (F_c : Fld Z h0 q1 "java/lang/String" "coder" "B" (.int (1 : Int32)))  (A_v : Arv Z h0 bv kv .byte (2 : Int32) [.int (lob x0), .int (hib x0)] (.int 0)) (cs : Int32) (fm : Value) (SS : SSt Z cs fm) (O0 : Old Z n0 h0) :
    Ctr l Z ({ cls := "com/example/libonce/libonce/StorableText", name := "keptLength", desc := "(Ljava/lang/String;I)I" } : Jvm.MethodName) prog_13_method_4_code 4 (some .int) ws ({ frames := 5, cells := 0, slots := 0, locals := 66 } : Room) #[.ref q1, .int (0 : Int32)] h0 (fun v h L => v = some (.int (klA x0)) ∧ Fr n0 L ∧ h = h0) := by
  refine Ctr.enter (Ls := #[.val (.ref q1), .val (.int (0 : Int32)), .unset, .unset]) (by decide +kernel) (fun m => ef_rmKL1_1_0 q1 m) ?_
  intro p e s m below meth c T hx hby hml hown hnm hret hlk hZ hh X0 e0
  have N0 := Fr.nil n0
  refine g_aloadN X0 hx hby d13_0 (pc' := 1) rfl rfl rfl ?_
  refine g_iloadN X0 hx hby d13_1 (pc' := 2) rfl rfl ?_
  refine g_callV X0 hx hZ hown (W := 0) (argsL := [.int (0 : Int32)]) (b := q1) (rest := []) hby d13_2 (pc' := 5) rfl (by rw [hml]; rfl) (w_60 hw) (w_61 hw) (w_63 hw) (notFace_of_selects (args := #[]) (mvT hZ (w_63 hw))) (w_62 hw) (w_10 hw) (w_64 hw) (by decide) (rmCA1_1_0 l Z a0 hw [] q1 h0 n0 x0 _ _ hx0 E_a F_v F_c A_v cs fm SS O0) e0 E_a (by decide) (by decide) (by decide) (by decide) rfl pd__28I_29C rfl rfl (Nat.le_of_eq rfl) ?_
  rintro _ T1 L1 X1 ⟨rfl, N1q, e1⟩
  have N1 := Fr.app N0 N1q
  show GoE p e below _ (T1.setTop (mkF m 5 #[.val (.ref q1), .val (.int (0 : Int32)), .unset, .unset] [.int x0]))
  refine g_istoreN X1 hx hby d13_5 (pc' := 6) rfl (l' := #[.val (.ref q1), .val (.int (0 : Int32)), .val (.int x0), .unset]) rfl ?_
  refine g_iloadN X1 hx hby d13_6 (pc' := 7) rfl rfl ?_
  refine g_if_ne X1 hx hby d13_7 (by decide) (pc' := 12) (by decide) (pn := 10) rfl (fun hc7_2 => ?_) (fun hc7_2 => ?_)
  · refine g_iloadN X1 hx hby d13_12 (pc' := 13) rfl rfl ?_
    refine g_callS X1 hx hZ hown (W := 0) (argsL := [.int x0]) (rest := []) hby d13_13 (pc' := 16) rfl (by rw [hml]; rfl) (w_90 hw) (w_91 hw) (w_92 hw) (w_93 hw) (by decide) (rmS l Z a0 hw [] x0 h0 n0) e1 (by decide) (by decide) (by decide) (by decide) rfl pd__28C_29Z rfl rfl (Nat.le_of_eq rfl) ?_
    rintro _ T3 L3 X3 ⟨rfl, N3q, e3⟩
    have N3 := Fr.app N1 N3q
    show GoE p e below _ (T3.setTop (mkF m 16 #[.val (.ref q1), .val (.int (0 : Int32)), .val (.int x0), .unset] [.int (isS x0)]))
    refine g_if_ne X3 hx hby d13_16 (by decide) (pc' := 21) (by decide) (pn := 19) rfl (fun hc16_4 => ?_) (fun hc16_4 => ?_)
    · refine g_iloadN X3 hx hby d13_21 (pc' := 22) rfl rfl ?_
      refine g_callS X3 hx hZ hown (W := 0) (argsL := [.int x0]) (rest := []) hby d13_22 (pc' := 25) rfl (by rw [hml]; rfl) (w_96 hw) (w_97 hw) (w_92 hw) (w_98 hw) (by decide) (rmH l Z a0 hw [] x0 h0 n0) e3 (by decide) (by decide) (by decide) (by decide) rfl pd__28C_29Z rfl rfl (Nat.le_of_eq rfl) ?_
      rintro _ T5 L5 X5 ⟨rfl, N5q, e5⟩
      have N5 := Fr.app N3 N5q
      show GoE p e below _ (T5.setTop (mkF m 25 #[.val (.ref q1), .val (.int (0 : Int32)), .val (.int x0), .unset] [.int (isH x0)]))
      refine g_if_eq X5 hx hby d13_25 (by decide) (pc' := 55) (by decide) (pn := 28) rfl (fun hc25_6 => ?_) (fun hc25_6 => ?_)
      · refine g_iconst X5 hx hby d13_55 (pc' := 56) rfl (z := (0 : Int32)) rfl ?_
        refine g_istoreN X5 hx hby d13_56 (pc' := 57) rfl (l' := #[.val (.ref q1), .val (.int (0 : Int32)), .val (.int x0), .val (.int (0 : Int32))]) rfl ?_
        refine g_iloadN X5 hx hby d13_57 (pc' := 58) rfl rfl ?_
        refine g_if_eq X5 hx hby d13_58 (by decide) (pc' := 65) (by decide) (pn := 61) rfl (fun _ => ?_) (fun z => absurd z (by decide))
        refine g_iconst X5 hx hby d13_65 (pc' := 66) rfl (z := (0 : Int32)) rfl ?_
        exact g_retI (Q := (fun v h L => v = some (.int (klA x0)) ∧ Fr n0 L ∧ h = h0)) X5 hx hby d13_66 hret hlk (by decide) (by decide) ⟨congrArg (fun z : Int32 => some (Value.int z)) (by unfold klA; rw [if_neg hc7_2, if_neg hc16_4, if_pos hc25_6]), N5, e5⟩
      · refine g_iloadN X5 hx hby d13_28 (pc' := 29) rfl rfl ?_
        refine g_iconst X5 hx hby d13_29 (pc' := 30) rfl (z := (1 : Int32)) rfl ?_
        refine g_iadd X5 hx hby d13_30 (pc' := 31) rfl ?_
        refine g_eqI (b := (1 : Int32)) (by decide +kernel) ?_
        refine g_aloadN X5 hx hby d13_31 (pc' := 32) rfl rfl rfl ?_
        refine g_callV X5 hx hZ hown (W := 1) (argsL := []) (b := q1) (rest := [.int (1 : Int32)]) hby d13_32 (pc' := 35) rfl (by rw [hml]; rfl) (w_102 hw) (w_103 hw) (w_105 hw) (notFace_of_selects (args := #[]) (mvT hZ (w_105 hw))) (w_104 hw) (w_10 hw) (w_106 hw) (by decide) (rmSL1_1 l Z a0 hw [] q1 h0 n0 x0 _ _ hx0 E_a F_v F_c A_v cs fm SS O0) e5 E_a (by decide) (by decide) (by decide) (by decide) rfl pd__28_29I rfl rfl (Nat.le_of_eq rfl) ?_
        rintro _ T7 L7 X7 ⟨rfl, N7q, e7⟩
        have N7 := Fr.app N5 N7q
        show GoE p e below _ (T7.setTop (mkF m 35 #[.val (.ref q1), .val (.int (0 : Int32)), .val (.int x0), .unset] [.int (1 : Int32), .int (1 : Int32)]))
        refine g_icmp_ge X7 hx hby d13_35 (by decide) (pc' := 55) (by decide) (pn := 38) rfl (fun _ => ?_) (fun z => absurd z (by decide))
        refine g_iconst X7 hx hby d13_55 (pc' := 56) rfl (z := (0 : Int32)) rfl ?_
        refine g_istoreN X7 hx hby d13_56 (pc' := 57) rfl (l' := #[.val (.ref q1), .val (.int (0 : Int32)), .val (.int x0), .val (.int (0 : Int32))]) rfl ?_
        refine g_iloadN X7 hx hby d13_57 (pc' := 58) rfl rfl ?_
        refine g_if_eq X7 hx hby d13_58 (by decide) (pc' := 65) (by decide) (pn := 61) rfl (fun _ => ?_) (fun z => absurd z (by decide))
        refine g_iconst X7 hx hby d13_65 (pc' := 66) rfl (z := (0 : Int32)) rfl ?_
        exact g_retI (Q := (fun v h L => v = some (.int (klA x0)) ∧ Fr n0 L ∧ h = h0)) X7 hx hby d13_66 hret hlk (by decide) (by decide) ⟨congrArg (fun z : Int32 => some (Value.int z)) (by unfold klA; rw [if_neg hc7_2, if_neg hc16_4, if_neg hc25_6]), N7, e7⟩
    · refine g_iconst X3 hx hby d13_19 (pc' := 20) rfl (z := (1 : Int32)) rfl ?_
      exact g_retI (Q := (fun v h L => v = some (.int (klA x0)) ∧ Fr n0 L ∧ h = h0)) X3 hx hby d13_20 hret hlk (by decide) (by decide) ⟨congrArg (fun z : Int32 => some (Value.int z)) (by unfold klA; rw [if_neg hc7_2, if_pos hc16_4]), N3, e3⟩
  · refine g_iconst X1 hx hby d13_10 (pc' := 11) rfl (z := (0 : Int32)) rfl ?_
    exact g_retI (Q := (fun v h L => v = some (.int (klA x0)) ∧ Fr n0 L ∧ h = h0)) X1 hx hby d13_11 hret hlk (by decide) (by decide) ⟨congrArg (fun z : Int32 => some (Value.int z)) (by unfold klA; rw [if_pos hc7_2]), N1, e1⟩
theorem ef_rmKL2_0_0 (q1 : Addr) (m : MethodId) : entryFrame m #[.ref q1, .int (0 : Int32)] 4 = mkF m 0 #[.val (.ref q1), .val (.int (0 : Int32)), .unset, .unset] [] := by
  first | (simp [entryFrame, mkF, argsToLocals, Value.category]; done) | rfl
set_option maxRecDepth 65536 in
set_option maxHeartbeats 40000000 in
theorem rmKL2_0_0 (l : Launch) (Z : State) (a0 : Array Value) (hw : ∀ d ∈ tables_1, d.before a0 Z = true) (ws : List Jvm.Cond) (q1 : Addr) (h0 : Heap) (n0 : Nat) (x0 x1 : Int32) (bv : Addr) (kv : ClassId) (hx0 : CH x0) (hx1 : CH x1) (E_a : Exa Z h0 q1 "java/lang/String") (F_v : Fld Z h0 q1 "java/lang/String" "value" "[B" (.ref bv)) (F_c : Fld Z h0 q1 "java/lang/String" "coder" "B" (.int (0 : Int32)))  (A_v : Arv Z h0 bv kv .byte (2 : Int32) [.int (lat x0), .int (lat x1)] (.int 0)) (l0 : ¬ (255 : Int32) < x0) (l1 : ¬ (255 : Int32) < x1) (cs : Int32) (fm : Value) (SS : SSt Z cs fm) (O0 : Old Z n0 h0) :
    Ctr l Z ({ cls := "com/example/libonce/libonce/StorableText", name := "keptLength", desc := "(Ljava/lang/String;I)I" } : Jvm.MethodName) prog_13_method_4_code 4 (some .int) ws ({ frames := 5, cells := 0, slots := 0, locals := 66 } : Room) #[.ref q1, .int (0 : Int32)] h0 (fun v h L => v = some (.int (klB x0 x1)) ∧ Fr n0 L ∧ h = h0) := by
  refine Ctr.enter (Ls := #[.val (.ref q1), .val (.int (0 : Int32)), .unset, .unset]) (by decide +kernel) (fun m => ef_rmKL2_0_0 q1 m) ?_
  intro p e s m below meth c T hx hby hml hown hnm hret hlk hZ hh X0 e0
  have N0 := Fr.nil n0
  refine g_aloadN X0 hx hby d13_0 (pc' := 1) rfl rfl rfl ?_
  refine g_iloadN X0 hx hby d13_1 (pc' := 2) rfl rfl ?_
  refine g_callV X0 hx hZ hown (W := 0) (argsL := [.int (0 : Int32)]) (b := q1) (rest := []) hby d13_2 (pc' := 5) rfl (by rw [hml]; rfl) (w_60 hw) (w_61 hw) (w_63 hw) (notFace_of_selects (args := #[]) (mvT hZ (w_63 hw))) (w_62 hw) (w_10 hw) (w_64 hw) (by decide) (rmCA2_0_0 l Z a0 hw [] q1 h0 n0 x0 x1 _ _ hx0 hx1 E_a F_v F_c A_v l0 l1 cs fm SS O0) e0 E_a (by decide) (by decide) (by decide) (by decide) rfl pd__28I_29C rfl rfl (Nat.le_of_eq rfl) ?_
  rintro _ T1 L1 X1 ⟨rfl, N1q, e1⟩
  have N1 := Fr.app N0 N1q
  show GoE p e below _ (T1.setTop (mkF m 5 #[.val (.ref q1), .val (.int (0 : Int32)), .unset, .unset] [.int x0]))
  refine g_istoreN X1 hx hby d13_5 (pc' := 6) rfl (l' := #[.val (.ref q1), .val (.int (0 : Int32)), .val (.int x0), .unset]) rfl ?_
  refine g_iloadN X1 hx hby d13_6 (pc' := 7) rfl rfl ?_
  refine g_if_ne X1 hx hby d13_7 (by decide) (pc' := 12) (by decide) (pn := 10) rfl (fun hc7_2 => ?_) (fun hc7_2 => ?_)
  · refine g_iloadN X1 hx hby d13_12 (pc' := 13) rfl rfl ?_
    refine g_callS X1 hx hZ hown (W := 0) (argsL := [.int x0]) (rest := []) hby d13_13 (pc' := 16) rfl (by rw [hml]; rfl) (w_90 hw) (w_91 hw) (w_92 hw) (w_93 hw) (by decide) (rmS l Z a0 hw [] x0 h0 n0) e1 (by decide) (by decide) (by decide) (by decide) rfl pd__28C_29Z rfl rfl (Nat.le_of_eq rfl) ?_
    rintro _ T3 L3 X3 ⟨rfl, N3q, e3⟩
    have N3 := Fr.app N1 N3q
    show GoE p e below _ (T3.setTop (mkF m 16 #[.val (.ref q1), .val (.int (0 : Int32)), .val (.int x0), .unset] [.int (isS x0)]))
    refine g_if_ne X3 hx hby d13_16 (by decide) (pc' := 21) (by decide) (pn := 19) rfl (fun hc16_4 => ?_) (fun hc16_4 => ?_)
    · refine g_iloadN X3 hx hby d13_21 (pc' := 22) rfl rfl ?_
      refine g_callS X3 hx hZ hown (W := 0) (argsL := [.int x0]) (rest := []) hby d13_22 (pc' := 25) rfl (by rw [hml]; rfl) (w_96 hw) (w_97 hw) (w_92 hw) (w_98 hw) (by decide) (rmH l Z a0 hw [] x0 h0 n0) e3 (by decide) (by decide) (by decide) (by decide) rfl pd__28C_29Z rfl rfl (Nat.le_of_eq rfl) ?_
      rintro _ T5 L5 X5 ⟨rfl, N5q, e5⟩
      have N5 := Fr.app N3 N5q
      show GoE p e below _ (T5.setTop (mkF m 25 #[.val (.ref q1), .val (.int (0 : Int32)), .val (.int x0), .unset] [.int (isH x0)]))
      refine g_if_eq X5 hx hby d13_25 (by decide) (pc' := 55) (by decide) (pn := 28) rfl (fun hc25_6 => ?_) (fun hc25_6 => ?_)
      · refine g_iconst X5 hx hby d13_55 (pc' := 56) rfl (z := (0 : Int32)) rfl ?_
        refine g_istoreN X5 hx hby d13_56 (pc' := 57) rfl (l' := #[.val (.ref q1), .val (.int (0 : Int32)), .val (.int x0), .val (.int (0 : Int32))]) rfl ?_
        refine g_iloadN X5 hx hby d13_57 (pc' := 58) rfl rfl ?_
        refine g_if_eq X5 hx hby d13_58 (by decide) (pc' := 65) (by decide) (pn := 61) rfl (fun _ => ?_) (fun z => absurd z (by decide))
        refine g_iconst X5 hx hby d13_65 (pc' := 66) rfl (z := (0 : Int32)) rfl ?_
        exact g_retI (Q := (fun v h L => v = some (.int (klB x0 x1)) ∧ Fr n0 L ∧ h = h0)) X5 hx hby d13_66 hret hlk (by decide) (by decide) ⟨congrArg (fun z : Int32 => some (Value.int z)) (by unfold klB; rw [if_neg hc7_2, if_neg hc16_4, if_pos hc25_6]), N5, e5⟩
      · refine g_iloadN X5 hx hby d13_28 (pc' := 29) rfl rfl ?_
        refine g_iconst X5 hx hby d13_29 (pc' := 30) rfl (z := (1 : Int32)) rfl ?_
        refine g_iadd X5 hx hby d13_30 (pc' := 31) rfl ?_
        refine g_eqI (b := (1 : Int32)) (by decide +kernel) ?_
        refine g_aloadN X5 hx hby d13_31 (pc' := 32) rfl rfl rfl ?_
        refine g_callV X5 hx hZ hown (W := 1) (argsL := []) (b := q1) (rest := [.int (1 : Int32)]) hby d13_32 (pc' := 35) rfl (by rw [hml]; rfl) (w_102 hw) (w_103 hw) (w_105 hw) (notFace_of_selects (args := #[]) (mvT hZ (w_105 hw))) (w_104 hw) (w_10 hw) (w_106 hw) (by decide) (rmSL2_0 l Z a0 hw [] q1 h0 n0 x0 x1 _ _ hx0 hx1 E_a F_v F_c A_v l0 l1 cs fm SS O0) e5 E_a (by decide) (by decide) (by decide) (by decide) rfl pd__28_29I rfl rfl (Nat.le_of_eq rfl) ?_
        rintro _ T7 L7 X7 ⟨rfl, N7q, e7⟩
        have N7 := Fr.app N5 N7q
        show GoE p e below _ (T7.setTop (mkF m 35 #[.val (.ref q1), .val (.int (0 : Int32)), .val (.int x0), .unset] [.int (2 : Int32), .int (1 : Int32)]))
        refine g_icmp_ge X7 hx hby d13_35 (by decide) (pc' := 55) (by decide) (pn := 38) rfl (fun z => absurd z (by decide)) (fun _ => ?_)
        refine g_aloadN X7 hx hby d13_38 (pc' := 39) rfl rfl rfl ?_
        refine g_iloadN X7 hx hby d13_39 (pc' := 40) rfl rfl ?_
        refine g_iconst X7 hx hby d13_40 (pc' := 41) rfl (z := (1 : Int32)) rfl ?_
        refine g_iadd X7 hx hby d13_41 (pc' := 42) rfl ?_
        refine g_eqI (b := (1 : Int32)) (by decide +kernel) ?_
        refine g_callV X7 hx hZ hown (W := 0) (argsL := [.int (1 : Int32)]) (b := q1) (rest := []) hby d13_42 (pc' := 45) rfl (by rw [hml]; rfl) (w_60 hw) (w_61 hw) (w_63 hw) (notFace_of_selects (args := #[]) (mvT hZ (w_63 hw))) (w_62 hw) (w_10 hw) (w_64 hw) (by decide) (rmCA2_0_1 l Z a0 hw [] q1 h0 n0 x0 x1 _ _ hx0 hx1 E_a F_v F_c A_v l0 l1 cs fm SS O0) e7 E_a (by decide) (by decide) (by decide) (by decide) rfl pd__28I_29C rfl rfl (Nat.le_of_eq rfl) ?_
        rintro _ T8 L8 X8 ⟨rfl, N8q, e8⟩
        have N8 := Fr.app N7 N8q
        show GoE p e below _ (T8.setTop (mkF m 45 #[.val (.ref q1), .val (.int (0 : Int32)), .val (.int x0), .unset] [.int x1]))
        refine g_callS X8 hx hZ hown (W := 0) (argsL := [.int x1]) (rest := []) hby d13_45 (pc' := 48) rfl (by rw [hml]; rfl) (w_117 hw) (w_118 hw) (w_92 hw) (w_119 hw) (by decide) (rmW l Z a0 hw [] x1 h0 n0) e8 (by decide) (by decide) (by decide) (by decide) rfl pd__28C_29Z rfl rfl (Nat.le_of_eq rfl) ?_
        rintro _ T9 L9 X9 ⟨rfl, N9q, e9⟩
        have N9 := Fr.app N8 N9q
        show GoE p e below _ (T9.setTop (mkF m 48 #[.val (.ref q1), .val (.int (0 : Int32)), .val (.int x0), .unset] [.int (isL x1)]))
        refine g_if_eq X9 hx hby d13_48 (by decide) (pc' := 55) (by decide) (pn := 51) rfl (fun hc48_10 => ?_) (fun hc48_10 => ?_)
        · refine g_iconst X9 hx hby d13_55 (pc' := 56) rfl (z := (0 : Int32)) rfl ?_
          refine g_istoreN X9 hx hby d13_56 (pc' := 57) rfl (l' := #[.val (.ref q1), .val (.int (0 : Int32)), .val (.int x0), .val (.int (0 : Int32))]) rfl ?_
          refine g_iloadN X9 hx hby d13_57 (pc' := 58) rfl rfl ?_
          refine g_if_eq X9 hx hby d13_58 (by decide) (pc' := 65) (by decide) (pn := 61) rfl (fun _ => ?_) (fun z => absurd z (by decide))
          refine g_iconst X9 hx hby d13_65 (pc' := 66) rfl (z := (0 : Int32)) rfl ?_
          exact g_retI (Q := (fun v h L => v = some (.int (klB x0 x1)) ∧ Fr n0 L ∧ h = h0)) X9 hx hby d13_66 hret hlk (by decide) (by decide) ⟨congrArg (fun z : Int32 => some (Value.int z)) (by unfold klB; rw [if_neg hc7_2, if_neg hc16_4, if_neg hc25_6, if_pos hc48_10]), N9, e9⟩
        · refine g_iconst X9 hx hby d13_51 (pc' := 52) rfl (z := (1 : Int32)) rfl ?_
          refine g_goto X9 hx hby d13_52 (by decide) (pc' := 56) (by decide) ?_
          refine g_istoreN X9 hx hby d13_56 (pc' := 57) rfl (l' := #[.val (.ref q1), .val (.int (0 : Int32)), .val (.int x0), .val (.int (1 : Int32))]) rfl ?_
          refine g_iloadN X9 hx hby d13_57 (pc' := 58) rfl rfl ?_
          refine g_if_eq X9 hx hby d13_58 (by decide) (pc' := 65) (by decide) (pn := 61) rfl (fun z => absurd z (by decide)) (fun _ => ?_)
          refine g_iconst X9 hx hby d13_61 (pc' := 62) rfl (z := (2 : Int32)) rfl ?_
          refine g_goto X9 hx hby d13_62 (by decide) (pc' := 66) (by decide) ?_
          exact g_retI (Q := (fun v h L => v = some (.int (klB x0 x1)) ∧ Fr n0 L ∧ h = h0)) X9 hx hby d13_66 hret hlk (by decide) (by decide) ⟨congrArg (fun z : Int32 => some (Value.int z)) (by unfold klB; rw [if_neg hc7_2, if_neg hc16_4, if_neg hc25_6, if_neg hc48_10]), N9, e9⟩
    · refine g_iconst X3 hx hby d13_19 (pc' := 20) rfl (z := (1 : Int32)) rfl ?_
      exact g_retI (Q := (fun v h L => v = some (.int (klB x0 x1)) ∧ Fr n0 L ∧ h = h0)) X3 hx hby d13_20 hret hlk (by decide) (by decide) ⟨congrArg (fun z : Int32 => some (Value.int z)) (by unfold klB; rw [if_neg hc7_2, if_pos hc16_4]), N3, e3⟩
  · refine g_iconst X1 hx hby d13_10 (pc' := 11) rfl (z := (0 : Int32)) rfl ?_
    exact g_retI (Q := (fun v h L => v = some (.int (klB x0 x1)) ∧ Fr n0 L ∧ h = h0)) X1 hx hby d13_11 hret hlk (by decide) (by decide) ⟨congrArg (fun z : Int32 => some (Value.int z)) (by unfold klB; rw [if_pos hc7_2]), N1, e1⟩
theorem ef_rmKL2_0_1 (q1 : Addr) (m : MethodId) : entryFrame m #[.ref q1, .int (1 : Int32)] 4 = mkF m 0 #[.val (.ref q1), .val (.int (1 : Int32)), .unset, .unset] [] := by
  first | (simp [entryFrame, mkF, argsToLocals, Value.category]; done) | rfl
set_option maxRecDepth 65536 in
set_option maxHeartbeats 40000000 in
theorem rmKL2_0_1 (l : Launch) (Z : State) (a0 : Array Value) (hw : ∀ d ∈ tables_1, d.before a0 Z = true) (ws : List Jvm.Cond) (q1 : Addr) (h0 : Heap) (n0 : Nat) (x0 x1 : Int32) (bv : Addr) (kv : ClassId) (hx0 : CH x0) (hx1 : CH x1) (E_a : Exa Z h0 q1 "java/lang/String") (F_v : Fld Z h0 q1 "java/lang/String" "value" "[B" (.ref bv)) (F_c : Fld Z h0 q1 "java/lang/String" "coder" "B" (.int (0 : Int32)))  (A_v : Arv Z h0 bv kv .byte (2 : Int32) [.int (lat x0), .int (lat x1)] (.int 0)) (l0 : ¬ (255 : Int32) < x0) (l1 : ¬ (255 : Int32) < x1) (cs : Int32) (fm : Value) (SS : SSt Z cs fm) (O0 : Old Z n0 h0) :
    Ctr l Z ({ cls := "com/example/libonce/libonce/StorableText", name := "keptLength", desc := "(Ljava/lang/String;I)I" } : Jvm.MethodName) prog_13_method_4_code 4 (some .int) ws ({ frames := 5, cells := 0, slots := 0, locals := 66 } : Room) #[.ref q1, .int (1 : Int32)] h0 (fun v h L => v = some (.int (klA x1)) ∧ Fr n0 L ∧ h = h0) := by
  refine Ctr.enter (Ls := #[.val (.ref q1), .val (.int (1 : Int32)), .unset, .unset]) (by decide +kernel) (fun m => ef_rmKL2_0_1 q1 m) ?_
  intro p e s m below meth c T hx hby hml hown hnm hret hlk hZ hh X0 e0
  have N0 := Fr.nil n0
  refine g_aloadN X0 hx hby d13_0 (pc' := 1) rfl rfl rfl ?_
  refine g_iloadN X0 hx hby d13_1 (pc' := 2) rfl rfl ?_
  refine g_callV X0 hx hZ hown (W := 0) (argsL := [.int (1 : Int32)]) (b := q1) (rest := []) hby d13_2 (pc' := 5) rfl (by rw [hml]; rfl) (w_60 hw) (w_61 hw) (w_63 hw) (notFace_of_selects (args := #[]) (mvT hZ (w_63 hw))) (w_62 hw) (w_10 hw) (w_64 hw) (by decide) (rmCA2_0_1 l Z a0 hw [] q1 h0 n0 x0 x1 _ _ hx0 hx1 E_a F_v F_c A_v l0 l1 cs fm SS O0) e0 E_a (by decide) (by decide) (by decide) (by decide) rfl pd__28I_29C rfl rfl (Nat.le_of_eq rfl) ?_
  rintro _ T1 L1 X1 ⟨rfl, N1q, e1⟩
  have N1 := Fr.app N0 N1q
  show GoE p e below _ (T1.setTop (mkF m 5 #[.val (.ref q1), .val (.int (1 : Int32)), .unset, .unset] [.int x1]))
  refine g_istoreN X1 hx hby d13_5 (pc' := 6) rfl (l' := #[.val (.ref q1), .val (.int (1 : Int32)), .val (.int x1), .unset]) rfl ?_
  refine g_iloadN X1 hx hby d13_6 (pc' := 7) rfl rfl ?_
  refine g_if_ne X1 hx hby d13_7 (by decide) (pc' := 12) (by decide) (pn := 10) rfl (fun hc7_2 => ?_) (fun hc7_2 => ?_)
  · refine g_iloadN X1 hx hby d13_12 (pc' := 13) rfl rfl ?_
    refine g_callS X1 hx hZ hown (W := 0) (argsL := [.int x1]) (rest := []) hby d13_13 (pc' := 16) rfl (by rw [hml]; rfl) (w_90 hw) (w_91 hw) (w_92 hw) (w_93 hw) (by decide) (rmS l Z a0 hw [] x1 h0 n0) e1 (by decide) (by decide) (by decide) (by decide) rfl pd__28C_29Z rfl rfl (Nat.le_of_eq rfl) ?_
    rintro _ T3 L3 X3 ⟨rfl, N3q, e3⟩
    have N3 := Fr.app N1 N3q
    show GoE p e below _ (T3.setTop (mkF m 16 #[.val (.ref q1), .val (.int (1 : Int32)), .val (.int x1), .unset] [.int (isS x1)]))
    refine g_if_ne X3 hx hby d13_16 (by decide) (pc' := 21) (by decide) (pn := 19) rfl (fun hc16_4 => ?_) (fun hc16_4 => ?_)
    · refine g_iloadN X3 hx hby d13_21 (pc' := 22) rfl rfl ?_
      refine g_callS X3 hx hZ hown (W := 0) (argsL := [.int x1]) (rest := []) hby d13_22 (pc' := 25) rfl (by rw [hml]; rfl) (w_96 hw) (w_97 hw) (w_92 hw) (w_98 hw) (by decide) (rmH l Z a0 hw [] x1 h0 n0) e3 (by decide) (by decide) (by decide) (by decide) rfl pd__28C_29Z rfl rfl (Nat.le_of_eq rfl) ?_
      rintro _ T5 L5 X5 ⟨rfl, N5q, e5⟩
      have N5 := Fr.app N3 N5q
      show GoE p e below _ (T5.setTop (mkF m 25 #[.val (.ref q1), .val (.int (1 : Int32)), .val (.int x1), .unset] [.int (isH x1)]))
      refine g_if_eq X5 hx hby d13_25 (by decide) (pc' := 55) (by decide) (pn := 28) rfl (fun hc25_6 => ?_) (fun hc25_6 => ?_)
      · refine g_iconst X5 hx hby d13_55 (pc' := 56) rfl (z := (0 : Int32)) rfl ?_
        refine g_istoreN X5 hx hby d13_56 (pc' := 57) rfl (l' := #[.val (.ref q1), .val (.int (1 : Int32)), .val (.int x1), .val (.int (0 : Int32))]) rfl ?_
        refine g_iloadN X5 hx hby d13_57 (pc' := 58) rfl rfl ?_
        refine g_if_eq X5 hx hby d13_58 (by decide) (pc' := 65) (by decide) (pn := 61) rfl (fun _ => ?_) (fun z => absurd z (by decide))
        refine g_iconst X5 hx hby d13_65 (pc' := 66) rfl (z := (0 : Int32)) rfl ?_
        exact g_retI (Q := (fun v h L => v = some (.int (klA x1)) ∧ Fr n0 L ∧ h = h0)) X5 hx hby d13_66 hret hlk (by decide) (by decide) ⟨congrArg (fun z : Int32 => some (Value.int z)) (by unfold klA; rw [if_neg hc7_2, if_neg hc16_4, if_pos hc25_6]), N5, e5⟩
      · refine g_iloadN X5 hx hby d13_28 (pc' := 29) rfl rfl ?_
        refine g_iconst X5 hx hby d13_29 (pc' := 30) rfl (z := (1 : Int32)) rfl ?_
        refine g_iadd X5 hx hby d13_30 (pc' := 31) rfl ?_
        refine g_eqI (b := (2 : Int32)) (by decide +kernel) ?_
        refine g_aloadN X5 hx hby d13_31 (pc' := 32) rfl rfl rfl ?_
        refine g_callV X5 hx hZ hown (W := 1) (argsL := []) (b := q1) (rest := [.int (2 : Int32)]) hby d13_32 (pc' := 35) rfl (by rw [hml]; rfl) (w_102 hw) (w_103 hw) (w_105 hw) (notFace_of_selects (args := #[]) (mvT hZ (w_105 hw))) (w_104 hw) (w_10 hw) (w_106 hw) (by decide) (rmSL2_0 l Z a0 hw [] q1 h0 n0 x0 x1 _ _ hx0 hx1 E_a F_v F_c A_v l0 l1 cs fm SS O0) e5 E_a (by decide) (by decide) (by decide) (by decide) rfl pd__28_29I rfl rfl (Nat.le_of_eq rfl) ?_
        rintro _ T7 L7 X7 ⟨rfl, N7q, e7⟩
        have N7 := Fr.app N5 N7q
        show GoE p e below _ (T7.setTop (mkF m 35 #[.val (.ref q1), .val (.int (1 : Int32)), .val (.int x1), .unset] [.int (2 : Int32), .int (2 : Int32)]))
        refine g_icmp_ge X7 hx hby d13_35 (by decide) (pc' := 55) (by decide) (pn := 38) rfl (fun _ => ?_) (fun z => absurd z (by decide))
        refine g_iconst X7 hx hby d13_55 (pc' := 56) rfl (z := (0 : Int32)) rfl ?_
        refine g_istoreN X7 hx hby d13_56 (pc' := 57) rfl (l' := #[.val (.ref q1), .val (.int (1 : Int32)), .val (.int x1), .val (.int (0 : Int32))]) rfl ?_
        refine g_iloadN X7 hx hby d13_57 (pc' := 58) rfl rfl ?_
        refine g_if_eq X7 hx hby d13_58 (by decide) (pc' := 65) (by decide) (pn := 61) rfl (fun _ => ?_) (fun z => absurd z (by decide))
        refine g_iconst X7 hx hby d13_65 (pc' := 66) rfl (z := (0 : Int32)) rfl ?_
        exact g_retI (Q := (fun v h L => v = some (.int (klA x1)) ∧ Fr n0 L ∧ h = h0)) X7 hx hby d13_66 hret hlk (by decide) (by decide) ⟨congrArg (fun z : Int32 => some (Value.int z)) (by unfold klA; rw [if_neg hc7_2, if_neg hc16_4, if_neg hc25_6]), N7, e7⟩
    · refine g_iconst X3 hx hby d13_19 (pc' := 20) rfl (z := (1 : Int32)) rfl ?_
      exact g_retI (Q := (fun v h L => v = some (.int (klA x1)) ∧ Fr n0 L ∧ h = h0)) X3 hx hby d13_20 hret hlk (by decide) (by decide) ⟨congrArg (fun z : Int32 => some (Value.int z)) (by unfold klA; rw [if_neg hc7_2, if_pos hc16_4]), N3, e3⟩
  · refine g_iconst X1 hx hby d13_10 (pc' := 11) rfl (z := (0 : Int32)) rfl ?_
    exact g_retI (Q := (fun v h L => v = some (.int (klA x1)) ∧ Fr n0 L ∧ h = h0)) X1 hx hby d13_11 hret hlk (by decide) (by decide) ⟨congrArg (fun z : Int32 => some (Value.int z)) (by unfold klA; rw [if_pos hc7_2]), N1, e1⟩
theorem ef_rmKL2_1_0 (q1 : Addr) (m : MethodId) : entryFrame m #[.ref q1, .int (0 : Int32)] 4 = mkF m 0 #[.val (.ref q1), .val (.int (0 : Int32)), .unset, .unset] [] := by
  first | (simp [entryFrame, mkF, argsToLocals, Value.category]; done) | rfl
set_option maxRecDepth 65536 in
set_option maxHeartbeats 40000000 in
theorem rmKL2_1_0 (l : Launch) (Z : State) (a0 : Array Value) (hw : ∀ d ∈ tables_1, d.before a0 Z = true) (ws : List Jvm.Cond) (q1 : Addr) (h0 : Heap) (n0 : Nat) (x0 x1 : Int32) (bv : Addr) (kv : ClassId) (hx0 : CH x0) (hx1 : CH x1) (E_a : Exa Z h0 q1 "java/lang/String") (F_v : Fld Z h0 q1 "java/lang/String" "value" "[B" (.ref bv)) (F_c : Fld Z h0 q1 "java/lang/String" "coder" "B" (.int (1 : Int32)))  (A_v : Arv Z h0 bv kv .byte (4 : Int32) [.int (lob x0), .int (hib x0), .int (lob x1), .int (hib x1)] (.int 0)) (cs : Int32) (fm : Value) (SS : SSt Z cs fm) (O0 : Old Z n0 h0) :
    Ctr l Z ({ cls := "com/example/libonce/libonce/StorableText", name := "keptLength", desc := "(Ljava/lang/String;I)I" } : Jvm.MethodName) prog_13_method_4_code 4 (some .int) ws ({ frames := 5, cells := 0, slots := 0, locals := 66 } : Room) #[.ref q1, .int (0 : Int32)] h0 (fun v h L => v = some (.int (klB x0 x1)) ∧ Fr n0 L ∧ h = h0) := by
  refine Ctr.enter (Ls := #[.val (.ref q1), .val (.int (0 : Int32)), .unset, .unset]) (by decide +kernel) (fun m => ef_rmKL2_1_0 q1 m) ?_
  intro p e s m below meth c T hx hby hml hown hnm hret hlk hZ hh X0 e0
  have N0 := Fr.nil n0
  refine g_aloadN X0 hx hby d13_0 (pc' := 1) rfl rfl rfl ?_
  refine g_iloadN X0 hx hby d13_1 (pc' := 2) rfl rfl ?_
  refine g_callV X0 hx hZ hown (W := 0) (argsL := [.int (0 : Int32)]) (b := q1) (rest := []) hby d13_2 (pc' := 5) rfl (by rw [hml]; rfl) (w_60 hw) (w_61 hw) (w_63 hw) (notFace_of_selects (args := #[]) (mvT hZ (w_63 hw))) (w_62 hw) (w_10 hw) (w_64 hw) (by decide) (rmCA2_1_0 l Z a0 hw [] q1 h0 n0 x0 x1 _ _ hx0 hx1 E_a F_v F_c A_v cs fm SS O0) e0 E_a (by decide) (by decide) (by decide) (by decide) rfl pd__28I_29C rfl rfl (Nat.le_of_eq rfl) ?_
  rintro _ T1 L1 X1 ⟨rfl, N1q, e1⟩
  have N1 := Fr.app N0 N1q
  show GoE p e below _ (T1.setTop (mkF m 5 #[.val (.ref q1), .val (.int (0 : Int32)), .unset, .unset] [.int x0]))
  refine g_istoreN X1 hx hby d13_5 (pc' := 6) rfl (l' := #[.val (.ref q1), .val (.int (0 : Int32)), .val (.int x0), .unset]) rfl ?_
  refine g_iloadN X1 hx hby d13_6 (pc' := 7) rfl rfl ?_
  refine g_if_ne X1 hx hby d13_7 (by decide) (pc' := 12) (by decide) (pn := 10) rfl (fun hc7_2 => ?_) (fun hc7_2 => ?_)
  · refine g_iloadN X1 hx hby d13_12 (pc' := 13) rfl rfl ?_
    refine g_callS X1 hx hZ hown (W := 0) (argsL := [.int x0]) (rest := []) hby d13_13 (pc' := 16) rfl (by rw [hml]; rfl) (w_90 hw) (w_91 hw) (w_92 hw) (w_93 hw) (by decide) (rmS l Z a0 hw [] x0 h0 n0) e1 (by decide) (by decide) (by decide) (by decide) rfl pd__28C_29Z rfl rfl (Nat.le_of_eq rfl) ?_
    rintro _ T3 L3 X3 ⟨rfl, N3q, e3⟩
    have N3 := Fr.app N1 N3q
    show GoE p e below _ (T3.setTop (mkF m 16 #[.val (.ref q1), .val (.int (0 : Int32)), .val (.int x0), .unset] [.int (isS x0)]))
    refine g_if_ne X3 hx hby d13_16 (by decide) (pc' := 21) (by decide) (pn := 19) rfl (fun hc16_4 => ?_) (fun hc16_4 => ?_)
    · refine g_iloadN X3 hx hby d13_21 (pc' := 22) rfl rfl ?_
      refine g_callS X3 hx hZ hown (W := 0) (argsL := [.int x0]) (rest := []) hby d13_22 (pc' := 25) rfl (by rw [hml]; rfl) (w_96 hw) (w_97 hw) (w_92 hw) (w_98 hw) (by decide) (rmH l Z a0 hw [] x0 h0 n0) e3 (by decide) (by decide) (by decide) (by decide) rfl pd__28C_29Z rfl rfl (Nat.le_of_eq rfl) ?_
      rintro _ T5 L5 X5 ⟨rfl, N5q, e5⟩
      have N5 := Fr.app N3 N5q
      show GoE p e below _ (T5.setTop (mkF m 25 #[.val (.ref q1), .val (.int (0 : Int32)), .val (.int x0), .unset] [.int (isH x0)]))
      refine g_if_eq X5 hx hby d13_25 (by decide) (pc' := 55) (by decide) (pn := 28) rfl (fun hc25_6 => ?_) (fun hc25_6 => ?_)
      · refine g_iconst X5 hx hby d13_55 (pc' := 56) rfl (z := (0 : Int32)) rfl ?_
        refine g_istoreN X5 hx hby d13_56 (pc' := 57) rfl (l' := #[.val (.ref q1), .val (.int (0 : Int32)), .val (.int x0), .val (.int (0 : Int32))]) rfl ?_
        refine g_iloadN X5 hx hby d13_57 (pc' := 58) rfl rfl ?_
        refine g_if_eq X5 hx hby d13_58 (by decide) (pc' := 65) (by decide) (pn := 61) rfl (fun _ => ?_) (fun z => absurd z (by decide))
        refine g_iconst X5 hx hby d13_65 (pc' := 66) rfl (z := (0 : Int32)) rfl ?_
        exact g_retI (Q := (fun v h L => v = some (.int (klB x0 x1)) ∧ Fr n0 L ∧ h = h0)) X5 hx hby d13_66 hret hlk (by decide) (by decide) ⟨congrArg (fun z : Int32 => some (Value.int z)) (by unfold klB; rw [if_neg hc7_2, if_neg hc16_4, if_pos hc25_6]), N5, e5⟩
      · refine g_iloadN X5 hx hby d13_28 (pc' := 29) rfl rfl ?_
        refine g_iconst X5 hx hby d13_29 (pc' := 30) rfl (z := (1 : Int32)) rfl ?_
        refine g_iadd X5 hx hby d13_30 (pc' := 31) rfl ?_
        refine g_eqI (b := (1 : Int32)) (by decide +kernel) ?_
        refine g_aloadN X5 hx hby d13_31 (pc' := 32) rfl rfl rfl ?_
        refine g_callV X5 hx hZ hown (W := 1) (argsL := []) (b := q1) (rest := [.int (1 : Int32)]) hby d13_32 (pc' := 35) rfl (by rw [hml]; rfl) (w_102 hw) (w_103 hw) (w_105 hw) (notFace_of_selects (args := #[]) (mvT hZ (w_105 hw))) (w_104 hw) (w_10 hw) (w_106 hw) (by decide) (rmSL2_1 l Z a0 hw [] q1 h0 n0 x0 x1 _ _ hx0 hx1 E_a F_v F_c A_v cs fm SS O0) e5 E_a (by decide) (by decide) (by decide) (by decide) rfl pd__28_29I rfl rfl (Nat.le_of_eq rfl) ?_
        rintro _ T7 L7 X7 ⟨rfl, N7q, e7⟩
        have N7 := Fr.app N5 N7q
        show GoE p e below _ (T7.setTop (mkF m 35 #[.val (.ref q1), .val (.int (0 : Int32)), .val (.int x0), .unset] [.int (2 : Int32), .int (1 : Int32)]))
        refine g_icmp_ge X7 hx hby d13_35 (by decide) (pc' := 55) (by decide) (pn := 38) rfl (fun z => absurd z (by decide)) (fun _ => ?_)
        refine g_aloadN X7 hx hby d13_38 (pc' := 39) rfl rfl rfl ?_
        refine g_iloadN X7 hx hby d13_39 (pc' := 40) rfl rfl ?_
        refine g_iconst X7 hx hby d13_40 (pc' := 41) rfl (z := (1 : Int32)) rfl ?_
        refine g_iadd X7 hx hby d13_41 (pc' := 42) rfl ?_
        refine g_eqI (b := (1 : Int32)) (by decide +kernel) ?_
        refine g_callV X7 hx hZ hown (W := 0) (argsL := [.int (1 : Int32)]) (b := q1) (rest := []) hby d13_42 (pc' := 45) rfl (by rw [hml]; rfl) (w_60 hw) (w_61 hw) (w_63 hw) (notFace_of_selects (args := #[]) (mvT hZ (w_63 hw))) (w_62 hw) (w_10 hw) (w_64 hw) (by decide) (rmCA2_1_1 l Z a0 hw [] q1 h0 n0 x0 x1 _ _ hx0 hx1 E_a F_v F_c A_v cs fm SS O0) e7 E_a (by decide) (by decide) (by decide) (by decide) rfl pd__28I_29C rfl rfl (Nat.le_of_eq rfl) ?_
        rintro _ T8 L8 X8 ⟨rfl, N8q, e8⟩
        have N8 := Fr.app N7 N8q
        show GoE p e below _ (T8.setTop (mkF m 45 #[.val (.ref q1), .val (.int (0 : Int32)), .val (.int x0), .unset] [.int x1]))
        refine g_callS X8 hx hZ hown (W := 0) (argsL := [.int x1]) (rest := []) hby d13_45 (pc' := 48) rfl (by rw [hml]; rfl) (w_117 hw) (w_118 hw) (w_92 hw) (w_119 hw) (by decide) (rmW l Z a0 hw [] x1 h0 n0) e8 (by decide) (by decide) (by decide) (by decide) rfl pd__28C_29Z rfl rfl (Nat.le_of_eq rfl) ?_
        rintro _ T9 L9 X9 ⟨rfl, N9q, e9⟩
        have N9 := Fr.app N8 N9q
        show GoE p e below _ (T9.setTop (mkF m 48 #[.val (.ref q1), .val (.int (0 : Int32)), .val (.int x0), .unset] [.int (isL x1)]))
        refine g_if_eq X9 hx hby d13_48 (by decide) (pc' := 55) (by decide) (pn := 51) rfl (fun hc48_10 => ?_) (fun hc48_10 => ?_)
        · refine g_iconst X9 hx hby d13_55 (pc' := 56) rfl (z := (0 : Int32)) rfl ?_
          refine g_istoreN X9 hx hby d13_56 (pc' := 57) rfl (l' := #[.val (.ref q1), .val (.int (0 : Int32)), .val (.int x0), .val (.int (0 : Int32))]) rfl ?_
          refine g_iloadN X9 hx hby d13_57 (pc' := 58) rfl rfl ?_
          refine g_if_eq X9 hx hby d13_58 (by decide) (pc' := 65) (by decide) (pn := 61) rfl (fun _ => ?_) (fun z => absurd z (by decide))
          refine g_iconst X9 hx hby d13_65 (pc' := 66) rfl (z := (0 : Int32)) rfl ?_
          exact g_retI (Q := (fun v h L => v = some (.int (klB x0 x1)) ∧ Fr n0 L ∧ h = h0)) X9 hx hby d13_66 hret hlk (by decide) (by decide) ⟨congrArg (fun z : Int32 => some (Value.int z)) (by unfold klB; rw [if_neg hc7_2, if_neg hc16_4, if_neg hc25_6, if_pos hc48_10]), N9, e9⟩
        · refine g_iconst X9 hx hby d13_51 (pc' := 52) rfl (z := (1 : Int32)) rfl ?_
          refine g_goto X9 hx hby d13_52 (by decide) (pc' := 56) (by decide) ?_
          refine g_istoreN X9 hx hby d13_56 (pc' := 57) rfl (l' := #[.val (.ref q1), .val (.int (0 : Int32)), .val (.int x0), .val (.int (1 : Int32))]) rfl ?_
          refine g_iloadN X9 hx hby d13_57 (pc' := 58) rfl rfl ?_
          refine g_if_eq X9 hx hby d13_58 (by decide) (pc' := 65) (by decide) (pn := 61) rfl (fun z => absurd z (by decide)) (fun _ => ?_)
          refine g_iconst X9 hx hby d13_61 (pc' := 62) rfl (z := (2 : Int32)) rfl ?_
          refine g_goto X9 hx hby d13_62 (by decide) (pc' := 66) (by decide) ?_
          exact g_retI (Q := (fun v h L => v = some (.int (klB x0 x1)) ∧ Fr n0 L ∧ h = h0)) X9 hx hby d13_66 hret hlk (by decide) (by decide) ⟨congrArg (fun z : Int32 => some (Value.int z)) (by unfold klB; rw [if_neg hc7_2, if_neg hc16_4, if_neg hc25_6, if_neg hc48_10]), N9, e9⟩
    · refine g_iconst X3 hx hby d13_19 (pc' := 20) rfl (z := (1 : Int32)) rfl ?_
      exact g_retI (Q := (fun v h L => v = some (.int (klB x0 x1)) ∧ Fr n0 L ∧ h = h0)) X3 hx hby d13_20 hret hlk (by decide) (by decide) ⟨congrArg (fun z : Int32 => some (Value.int z)) (by unfold klB; rw [if_neg hc7_2, if_pos hc16_4]), N3, e3⟩
  · refine g_iconst X1 hx hby d13_10 (pc' := 11) rfl (z := (0 : Int32)) rfl ?_
    exact g_retI (Q := (fun v h L => v = some (.int (klB x0 x1)) ∧ Fr n0 L ∧ h = h0)) X1 hx hby d13_11 hret hlk (by decide) (by decide) ⟨congrArg (fun z : Int32 => some (Value.int z)) (by unfold klB; rw [if_pos hc7_2]), N1, e1⟩
theorem ef_rmKL2_1_1 (q1 : Addr) (m : MethodId) : entryFrame m #[.ref q1, .int (1 : Int32)] 4 = mkF m 0 #[.val (.ref q1), .val (.int (1 : Int32)), .unset, .unset] [] := by
  first | (simp [entryFrame, mkF, argsToLocals, Value.category]; done) | rfl
set_option maxRecDepth 65536 in
set_option maxHeartbeats 40000000 in
theorem rmKL2_1_1 (l : Launch) (Z : State) (a0 : Array Value) (hw : ∀ d ∈ tables_1, d.before a0 Z = true) (ws : List Jvm.Cond) (q1 : Addr) (h0 : Heap) (n0 : Nat) (x0 x1 : Int32) (bv : Addr) (kv : ClassId) (hx0 : CH x0) (hx1 : CH x1) (E_a : Exa Z h0 q1 "java/lang/String") (F_v : Fld Z h0 q1 "java/lang/String" "value" "[B" (.ref bv)) (F_c : Fld Z h0 q1 "java/lang/String" "coder" "B" (.int (1 : Int32)))  (A_v : Arv Z h0 bv kv .byte (4 : Int32) [.int (lob x0), .int (hib x0), .int (lob x1), .int (hib x1)] (.int 0)) (cs : Int32) (fm : Value) (SS : SSt Z cs fm) (O0 : Old Z n0 h0) :
    Ctr l Z ({ cls := "com/example/libonce/libonce/StorableText", name := "keptLength", desc := "(Ljava/lang/String;I)I" } : Jvm.MethodName) prog_13_method_4_code 4 (some .int) ws ({ frames := 5, cells := 0, slots := 0, locals := 66 } : Room) #[.ref q1, .int (1 : Int32)] h0 (fun v h L => v = some (.int (klA x1)) ∧ Fr n0 L ∧ h = h0) := by
  refine Ctr.enter (Ls := #[.val (.ref q1), .val (.int (1 : Int32)), .unset, .unset]) (by decide +kernel) (fun m => ef_rmKL2_1_1 q1 m) ?_
  intro p e s m below meth c T hx hby hml hown hnm hret hlk hZ hh X0 e0
  have N0 := Fr.nil n0
  refine g_aloadN X0 hx hby d13_0 (pc' := 1) rfl rfl rfl ?_
  refine g_iloadN X0 hx hby d13_1 (pc' := 2) rfl rfl ?_
  refine g_callV X0 hx hZ hown (W := 0) (argsL := [.int (1 : Int32)]) (b := q1) (rest := []) hby d13_2 (pc' := 5) rfl (by rw [hml]; rfl) (w_60 hw) (w_61 hw) (w_63 hw) (notFace_of_selects (args := #[]) (mvT hZ (w_63 hw))) (w_62 hw) (w_10 hw) (w_64 hw) (by decide) (rmCA2_1_1 l Z a0 hw [] q1 h0 n0 x0 x1 _ _ hx0 hx1 E_a F_v F_c A_v cs fm SS O0) e0 E_a (by decide) (by decide) (by decide) (by decide) rfl pd__28I_29C rfl rfl (Nat.le_of_eq rfl) ?_
  rintro _ T1 L1 X1 ⟨rfl, N1q, e1⟩
  have N1 := Fr.app N0 N1q
  show GoE p e below _ (T1.setTop (mkF m 5 #[.val (.ref q1), .val (.int (1 : Int32)), .unset, .unset] [.int x1]))
  refine g_istoreN X1 hx hby d13_5 (pc' := 6) rfl (l' := #[.val (.ref q1), .val (.int (1 : Int32)), .val (.int x1), .unset]) rfl ?_
  refine g_iloadN X1 hx hby d13_6 (pc' := 7) rfl rfl ?_
  refine g_if_ne X1 hx hby d13_7 (by decide) (pc' := 12) (by decide) (pn := 10) rfl (fun hc7_2 => ?_) (fun hc7_2 => ?_)
  · refine g_iloadN X1 hx hby d13_12 (pc' := 13) rfl rfl ?_
    refine g_callS X1 hx hZ hown (W := 0) (argsL := [.int x1]) (rest := []) hby d13_13 (pc' := 16) rfl (by rw [hml]; rfl) (w_90 hw) (w_91 hw) (w_92 hw) (w_93 hw) (by decide) (rmS l Z a0 hw [] x1 h0 n0) e1 (by decide) (by decide) (by decide) (by decide) rfl pd__28C_29Z rfl rfl (Nat.le_of_eq rfl) ?_
    rintro _ T3 L3 X3 ⟨rfl, N3q, e3⟩
    have N3 := Fr.app N1 N3q
    show GoE p e below _ (T3.setTop (mkF m 16 #[.val (.ref q1), .val (.int (1 : Int32)), .val (.int x1), .unset] [.int (isS x1)]))
    refine g_if_ne X3 hx hby d13_16 (by decide) (pc' := 21) (by decide) (pn := 19) rfl (fun hc16_4 => ?_) (fun hc16_4 => ?_)
    · refine g_iloadN X3 hx hby d13_21 (pc' := 22) rfl rfl ?_
      refine g_callS X3 hx hZ hown (W := 0) (argsL := [.int x1]) (rest := []) hby d13_22 (pc' := 25) rfl (by rw [hml]; rfl) (w_96 hw) (w_97 hw) (w_92 hw) (w_98 hw) (by decide) (rmH l Z a0 hw [] x1 h0 n0) e3 (by decide) (by decide) (by decide) (by decide) rfl pd__28C_29Z rfl rfl (Nat.le_of_eq rfl) ?_
      rintro _ T5 L5 X5 ⟨rfl, N5q, e5⟩
      have N5 := Fr.app N3 N5q
      show GoE p e below _ (T5.setTop (mkF m 25 #[.val (.ref q1), .val (.int (1 : Int32)), .val (.int x1), .unset] [.int (isH x1)]))
      refine g_if_eq X5 hx hby d13_25 (by decide) (pc' := 55) (by decide) (pn := 28) rfl (fun hc25_6 => ?_) (fun hc25_6 => ?_)
      · refine g_iconst X5 hx hby d13_55 (pc' := 56) rfl (z := (0 : Int32)) rfl ?_
        refine g_istoreN X5 hx hby d13_56 (pc' := 57) rfl (l' := #[.val (.ref q1), .val (.int (1 : Int32)), .val (.int x1), .val (.int (0 : Int32))]) rfl ?_
        refine g_iloadN X5 hx hby d13_57 (pc' := 58) rfl rfl ?_
        refine g_if_eq X5 hx hby d13_58 (by decide) (pc' := 65) (by decide) (pn := 61) rfl (fun _ => ?_) (fun z => absurd z (by decide))
        refine g_iconst X5 hx hby d13_65 (pc' := 66) rfl (z := (0 : Int32)) rfl ?_
        exact g_retI (Q := (fun v h L => v = some (.int (klA x1)) ∧ Fr n0 L ∧ h = h0)) X5 hx hby d13_66 hret hlk (by decide) (by decide) ⟨congrArg (fun z : Int32 => some (Value.int z)) (by unfold klA; rw [if_neg hc7_2, if_neg hc16_4, if_pos hc25_6]), N5, e5⟩
      · refine g_iloadN X5 hx hby d13_28 (pc' := 29) rfl rfl ?_
        refine g_iconst X5 hx hby d13_29 (pc' := 30) rfl (z := (1 : Int32)) rfl ?_
        refine g_iadd X5 hx hby d13_30 (pc' := 31) rfl ?_
        refine g_eqI (b := (2 : Int32)) (by decide +kernel) ?_
        refine g_aloadN X5 hx hby d13_31 (pc' := 32) rfl rfl rfl ?_
        refine g_callV X5 hx hZ hown (W := 1) (argsL := []) (b := q1) (rest := [.int (2 : Int32)]) hby d13_32 (pc' := 35) rfl (by rw [hml]; rfl) (w_102 hw) (w_103 hw) (w_105 hw) (notFace_of_selects (args := #[]) (mvT hZ (w_105 hw))) (w_104 hw) (w_10 hw) (w_106 hw) (by decide) (rmSL2_1 l Z a0 hw [] q1 h0 n0 x0 x1 _ _ hx0 hx1 E_a F_v F_c A_v cs fm SS O0) e5 E_a (by decide) (by decide) (by decide) (by decide) rfl pd__28_29I rfl rfl (Nat.le_of_eq rfl) ?_
        rintro _ T7 L7 X7 ⟨rfl, N7q, e7⟩
        have N7 := Fr.app N5 N7q
        show GoE p e below _ (T7.setTop (mkF m 35 #[.val (.ref q1), .val (.int (1 : Int32)), .val (.int x1), .unset] [.int (2 : Int32), .int (2 : Int32)]))
        refine g_icmp_ge X7 hx hby d13_35 (by decide) (pc' := 55) (by decide) (pn := 38) rfl (fun _ => ?_) (fun z => absurd z (by decide))
        refine g_iconst X7 hx hby d13_55 (pc' := 56) rfl (z := (0 : Int32)) rfl ?_
        refine g_istoreN X7 hx hby d13_56 (pc' := 57) rfl (l' := #[.val (.ref q1), .val (.int (1 : Int32)), .val (.int x1), .val (.int (0 : Int32))]) rfl ?_
        refine g_iloadN X7 hx hby d13_57 (pc' := 58) rfl rfl ?_
        refine g_if_eq X7 hx hby d13_58 (by decide) (pc' := 65) (by decide) (pn := 61) rfl (fun _ => ?_) (fun z => absurd z (by decide))
        refine g_iconst X7 hx hby d13_65 (pc' := 66) rfl (z := (0 : Int32)) rfl ?_
        exact g_retI (Q := (fun v h L => v = some (.int (klA x1)) ∧ Fr n0 L ∧ h = h0)) X7 hx hby d13_66 hret hlk (by decide) (by decide) ⟨congrArg (fun z : Int32 => some (Value.int z)) (by unfold klA; rw [if_neg hc7_2, if_neg hc16_4, if_neg hc25_6]), N7, e7⟩
    · refine g_iconst X3 hx hby d13_19 (pc' := 20) rfl (z := (1 : Int32)) rfl ?_
      exact g_retI (Q := (fun v h L => v = some (.int (klA x1)) ∧ Fr n0 L ∧ h = h0)) X3 hx hby d13_20 hret hlk (by decide) (by decide) ⟨congrArg (fun z : Int32 => some (Value.int z)) (by unfold klA; rw [if_neg hc7_2, if_pos hc16_4]), N3, e3⟩
  · refine g_iconst X1 hx hby d13_10 (pc' := 11) rfl (z := (0 : Int32)) rfl ?_
    exact g_retI (Q := (fun v h L => v = some (.int (klA x1)) ∧ Fr n0 L ∧ h = h0)) X1 hx hby d13_11 hret hlk (by decide) (by decide) ⟨congrArg (fun z : Int32 => some (Value.int z)) (by unfold klA; rw [if_pos hc7_2]), N1, e1⟩
theorem ef_rmKL3_0_0 (q1 : Addr) (m : MethodId) : entryFrame m #[.ref q1, .int (0 : Int32)] 4 = mkF m 0 #[.val (.ref q1), .val (.int (0 : Int32)), .unset, .unset] [] := by
  first | (simp [entryFrame, mkF, argsToLocals, Value.category]; done) | rfl
set_option maxRecDepth 65536 in
set_option maxHeartbeats 40000000 in
theorem rmKL3_0_0 (l : Launch) (Z : State) (a0 : Array Value) (hw : ∀ d ∈ tables_1, d.before a0 Z = true) (ws : List Jvm.Cond) (q1 : Addr) (h0 : Heap) (n0 : Nat) (x0 x1 x2 : Int32) (bv : Addr) (kv : ClassId) (hx0 : CH x0) (hx1 : CH x1) (hx2 : CH x2) (E_a : Exa Z h0 q1 "java/lang/String") (F_v : Fld Z h0 q1 "java/lang/String" "value" "[B" (.ref bv)) (F_c : Fld Z h0 q1 "java/lang/String" "coder" "B" (.int (0 : Int32)))  (A_v : Arv Z h0 bv kv .byte (3 : Int32) [.int (lat x0), .int (lat x1), .int (lat x2)] (.int 0)) (l0 : ¬ (255 : Int32) < x0) (l1 : ¬ (255 : Int32) < x1) (l2 : ¬ (255 : Int32) < x2) (cs : Int32) (fm : Value) (SS : SSt Z cs fm) (O0 : Old Z n0 h0) :
    Ctr l Z ({ cls := "com/example/libonce/libonce/StorableText", name := "keptLength", desc := "(Ljava/lang/String;I)I" } : Jvm.MethodName) prog_13_method_4_code 4 (some .int) ws ({ frames := 5, cells := 0, slots := 0, locals := 66 } : Room) #[.ref q1, .int (0 : Int32)] h0 (fun v h L => v = some (.int (klB x0 x1)) ∧ Fr n0 L ∧ h = h0) := by
  refine Ctr.enter (Ls := #[.val (.ref q1), .val (.int (0 : Int32)), .unset, .unset]) (by decide +kernel) (fun m => ef_rmKL3_0_0 q1 m) ?_
  intro p e s m below meth c T hx hby hml hown hnm hret hlk hZ hh X0 e0
  have N0 := Fr.nil n0
  refine g_aloadN X0 hx hby d13_0 (pc' := 1) rfl rfl rfl ?_
  refine g_iloadN X0 hx hby d13_1 (pc' := 2) rfl rfl ?_
  refine g_callV X0 hx hZ hown (W := 0) (argsL := [.int (0 : Int32)]) (b := q1) (rest := []) hby d13_2 (pc' := 5) rfl (by rw [hml]; rfl) (w_60 hw) (w_61 hw) (w_63 hw) (notFace_of_selects (args := #[]) (mvT hZ (w_63 hw))) (w_62 hw) (w_10 hw) (w_64 hw) (by decide) (rmCA3_0_0 l Z a0 hw [] q1 h0 n0 x0 x1 x2 _ _ hx0 hx1 hx2 E_a F_v F_c A_v l0 l1 l2 cs fm SS O0) e0 E_a (by decide) (by decide) (by decide) (by decide) rfl pd__28I_29C rfl rfl (Nat.le_of_eq rfl) ?_
  rintro _ T1 L1 X1 ⟨rfl, N1q, e1⟩
  have N1 := Fr.app N0 N1q
  show GoE p e below _ (T1.setTop (mkF m 5 #[.val (.ref q1), .val (.int (0 : Int32)), .unset, .unset] [.int x0]))
  refine g_istoreN X1 hx hby d13_5 (pc' := 6) rfl (l' := #[.val (.ref q1), .val (.int (0 : Int32)), .val (.int x0), .unset]) rfl ?_
  refine g_iloadN X1 hx hby d13_6 (pc' := 7) rfl rfl ?_
  refine g_if_ne X1 hx hby d13_7 (by decide) (pc' := 12) (by decide) (pn := 10) rfl (fun hc7_2 => ?_) (fun hc7_2 => ?_)
  · refine g_iloadN X1 hx hby d13_12 (pc' := 13) rfl rfl ?_
    refine g_callS X1 hx hZ hown (W := 0) (argsL := [.int x0]) (rest := []) hby d13_13 (pc' := 16) rfl (by rw [hml]; rfl) (w_90 hw) (w_91 hw) (w_92 hw) (w_93 hw) (by decide) (rmS l Z a0 hw [] x0 h0 n0) e1 (by decide) (by decide) (by decide) (by decide) rfl pd__28C_29Z rfl rfl (Nat.le_of_eq rfl) ?_
    rintro _ T3 L3 X3 ⟨rfl, N3q, e3⟩
    have N3 := Fr.app N1 N3q
    show GoE p e below _ (T3.setTop (mkF m 16 #[.val (.ref q1), .val (.int (0 : Int32)), .val (.int x0), .unset] [.int (isS x0)]))
    refine g_if_ne X3 hx hby d13_16 (by decide) (pc' := 21) (by decide) (pn := 19) rfl (fun hc16_4 => ?_) (fun hc16_4 => ?_)
    · refine g_iloadN X3 hx hby d13_21 (pc' := 22) rfl rfl ?_
      refine g_callS X3 hx hZ hown (W := 0) (argsL := [.int x0]) (rest := []) hby d13_22 (pc' := 25) rfl (by rw [hml]; rfl) (w_96 hw) (w_97 hw) (w_92 hw) (w_98 hw) (by decide) (rmH l Z a0 hw [] x0 h0 n0) e3 (by decide) (by decide) (by decide) (by decide) rfl pd__28C_29Z rfl rfl (Nat.le_of_eq rfl) ?_
      rintro _ T5 L5 X5 ⟨rfl, N5q, e5⟩
      have N5 := Fr.app N3 N5q
      show GoE p e below _ (T5.setTop (mkF m 25 #[.val (.ref q1), .val (.int (0 : Int32)), .val (.int x0), .unset] [.int (isH x0)]))
      refine g_if_eq X5 hx hby d13_25 (by decide) (pc' := 55) (by decide) (pn := 28) rfl (fun hc25_6 => ?_) (fun hc25_6 => ?_)
      · refine g_iconst X5 hx hby d13_55 (pc' := 56) rfl (z := (0 : Int32)) rfl ?_
        refine g_istoreN X5 hx hby d13_56 (pc' := 57) rfl (l' := #[.val (.ref q1), .val (.int (0 : Int32)), .val (.int x0), .val (.int (0 : Int32))]) rfl ?_
        refine g_iloadN X5 hx hby d13_57 (pc' := 58) rfl rfl ?_
        refine g_if_eq X5 hx hby d13_58 (by decide) (pc' := 65) (by decide) (pn := 61) rfl (fun _ => ?_) (fun z => absurd z (by decide))
        refine g_iconst X5 hx hby d13_65 (pc' := 66) rfl (z := (0 : Int32)) rfl ?_
        exact g_retI (Q := (fun v h L => v = some (.int (klB x0 x1)) ∧ Fr n0 L ∧ h = h0)) X5 hx hby d13_66 hret hlk (by decide) (by decide) ⟨congrArg (fun z : Int32 => some (Value.int z)) (by unfold klB; rw [if_neg hc7_2, if_neg hc16_4, if_pos hc25_6]), N5, e5⟩
      · refine g_iloadN X5 hx hby d13_28 (pc' := 29) rfl rfl ?_
        refine g_iconst X5 hx hby d13_29 (pc' := 30) rfl (z := (1 : Int32)) rfl ?_
        refine g_iadd X5 hx hby d13_30 (pc' := 31) rfl ?_
        refine g_eqI (b := (1 : Int32)) (by decide +kernel) ?_
        refine g_aloadN X5 hx hby d13_31 (pc' := 32) rfl rfl rfl ?_
        refine g_callV X5 hx hZ hown (W := 1) (argsL := []) (b := q1) (rest := [.int (1 : Int32)]) hby d13_32 (pc' := 35) rfl (by rw [hml]; rfl) (w_102 hw) (w_103 hw) (w_105 hw) (notFace_of_selects (args := #[]) (mvT hZ (w_105 hw))) (w_104 hw) (w_10 hw) (w_106 hw) (by decide) (rmSL3_0 l Z a0 hw [] q1 h0 n0 x0 x1 x2 _ _ hx0 hx1 hx2 E_a F_v F_c A_v l0 l1 l2 cs fm SS O0) e5 E_a (by decide) (by decide) (by decide) (by decide) rfl pd__28_29I rfl rfl (Nat.le_of_eq rfl) ?_
        rintro _ T7 L7 X7 ⟨rfl, N7q, e7⟩
        have N7 := Fr.app N5 N7q
        show GoE p e below _ (T7.setTop (mkF m 35 #[.val (.ref q1), .val (.int (0 : Int32)), .val (.int x0), .unset] [.int (3 : Int32), .int (1 : Int32)]))
        refine g_icmp_ge X7 hx hby d13_35 (by decide) (pc' := 55) (by decide) (pn := 38) rfl (fun z => absurd z (by decide)) (fun _ => ?_)
        refine g_aloadN X7 hx hby d13_38 (pc' := 39) rfl rfl rfl ?_
        refine g_iloadN X7 hx hby d13_39 (pc' := 40) rfl rfl ?_
        refine g_iconst X7 hx hby d13_40 (pc' := 41) rfl (z := (1 : Int32)) rfl ?_
        refine g_iadd X7 hx hby d13_41 (pc' := 42) rfl ?_
        refine g_eqI (b := (1 : Int32)) (by decide +kernel) ?_
        refine g_callV X7 hx hZ hown (W := 0) (argsL := [.int (1 : Int32)]) (b := q1) (rest := []) hby d13_42 (pc' := 45) rfl (by rw [hml]; rfl) (w_60 hw) (w_61 hw) (w_63 hw) (notFace_of_selects (args := #[]) (mvT hZ (w_63 hw))) (w_62 hw) (w_10 hw) (w_64 hw) (by decide) (rmCA3_0_1 l Z a0 hw [] q1 h0 n0 x0 x1 x2 _ _ hx0 hx1 hx2 E_a F_v F_c A_v l0 l1 l2 cs fm SS O0) e7 E_a (by decide) (by decide) (by decide) (by decide) rfl pd__28I_29C rfl rfl (Nat.le_of_eq rfl) ?_
        rintro _ T8 L8 X8 ⟨rfl, N8q, e8⟩
        have N8 := Fr.app N7 N8q
        show GoE p e below _ (T8.setTop (mkF m 45 #[.val (.ref q1), .val (.int (0 : Int32)), .val (.int x0), .unset] [.int x1]))
        refine g_callS X8 hx hZ hown (W := 0) (argsL := [.int x1]) (rest := []) hby d13_45 (pc' := 48) rfl (by rw [hml]; rfl) (w_117 hw) (w_118 hw) (w_92 hw) (w_119 hw) (by decide) (rmW l Z a0 hw [] x1 h0 n0) e8 (by decide) (by decide) (by decide) (by decide) rfl pd__28C_29Z rfl rfl (Nat.le_of_eq rfl) ?_
        rintro _ T9 L9 X9 ⟨rfl, N9q, e9⟩
        have N9 := Fr.app N8 N9q
        show GoE p e below _ (T9.setTop (mkF m 48 #[.val (.ref q1), .val (.int (0 : Int32)), .val (.int x0), .unset] [.int (isL x1)]))
        refine g_if_eq X9 hx hby d13_48 (by decide) (pc' := 55) (by decide) (pn := 51) rfl (fun hc48_10 => ?_) (fun hc48_10 => ?_)
        · refine g_iconst X9 hx hby d13_55 (pc' := 56) rfl (z := (0 : Int32)) rfl ?_
          refine g_istoreN X9 hx hby d13_56 (pc' := 57) rfl (l' := #[.val (.ref q1), .val (.int (0 : Int32)), .val (.int x0), .val (.int (0 : Int32))]) rfl ?_
          refine g_iloadN X9 hx hby d13_57 (pc' := 58) rfl rfl ?_
          refine g_if_eq X9 hx hby d13_58 (by decide) (pc' := 65) (by decide) (pn := 61) rfl (fun _ => ?_) (fun z => absurd z (by decide))
          refine g_iconst X9 hx hby d13_65 (pc' := 66) rfl (z := (0 : Int32)) rfl ?_
          exact g_retI (Q := (fun v h L => v = some (.int (klB x0 x1)) ∧ Fr n0 L ∧ h = h0)) X9 hx hby d13_66 hret hlk (by decide) (by decide) ⟨congrArg (fun z : Int32 => some (Value.int z)) (by unfold klB; rw [if_neg hc7_2, if_neg hc16_4, if_neg hc25_6, if_pos hc48_10]), N9, e9⟩
        · refine g_iconst X9 hx hby d13_51 (pc' := 52) rfl (z := (1 : Int32)) rfl ?_
          refine g_goto X9 hx hby d13_52 (by decide) (pc' := 56) (by decide) ?_
          refine g_istoreN X9 hx hby d13_56 (pc' := 57) rfl (l' := #[.val (.ref q1), .val (.int (0 : Int32)), .val (.int x0), .val (.int (1 : Int32))]) rfl ?_
          refine g_iloadN X9 hx hby d13_57 (pc' := 58) rfl rfl ?_
          refine g_if_eq X9 hx hby d13_58 (by decide) (pc' := 65) (by decide) (pn := 61) rfl (fun z => absurd z (by decide)) (fun _ => ?_)
          refine g_iconst X9 hx hby d13_61 (pc' := 62) rfl (z := (2 : Int32)) rfl ?_
          refine g_goto X9 hx hby d13_62 (by decide) (pc' := 66) (by decide) ?_
          exact g_retI (Q := (fun v h L => v = some (.int (klB x0 x1)) ∧ Fr n0 L ∧ h = h0)) X9 hx hby d13_66 hret hlk (by decide) (by decide) ⟨congrArg (fun z : Int32 => some (Value.int z)) (by unfold klB; rw [if_neg hc7_2, if_neg hc16_4, if_neg hc25_6, if_neg hc48_10]), N9, e9⟩
    · refine g_iconst X3 hx hby d13_19 (pc' := 20) rfl (z := (1 : Int32)) rfl ?_
      exact g_retI (Q := (fun v h L => v = some (.int (klB x0 x1)) ∧ Fr n0 L ∧ h = h0)) X3 hx hby d13_20 hret hlk (by decide) (by decide) ⟨congrArg (fun z : Int32 => some (Value.int z)) (by unfold klB; rw [if_neg hc7_2, if_pos hc16_4]), N3, e3⟩
  · refine g_iconst X1 hx hby d13_10 (pc' := 11) rfl (z := (0 : Int32)) rfl ?_
    exact g_retI (Q := (fun v h L => v = some (.int (klB x0 x1)) ∧ Fr n0 L ∧ h = h0)) X1 hx hby d13_11 hret hlk (by decide) (by decide) ⟨congrArg (fun z : Int32 => some (Value.int z)) (by unfold klB; rw [if_pos hc7_2]), N1, e1⟩
theorem ef_rmKL3_0_1 (q1 : Addr) (m : MethodId) : entryFrame m #[.ref q1, .int (1 : Int32)] 4 = mkF m 0 #[.val (.ref q1), .val (.int (1 : Int32)), .unset, .unset] [] := by
  first | (simp [entryFrame, mkF, argsToLocals, Value.category]; done) | rfl
set_option maxRecDepth 65536 in
set_option maxHeartbeats 40000000 in
theorem rmKL3_0_1 (l : Launch) (Z : State) (a0 : Array Value) (hw : ∀ d ∈ tables_1, d.before a0 Z = true) (ws : List Jvm.Cond) (q1 : Addr) (h0 : Heap) (n0 : Nat) (x0 x1 x2 : Int32) (bv : Addr) (kv : ClassId) (hx0 : CH x0) (hx1 : CH x1) (hx2 : CH x2) (E_a : Exa Z h0 q1 "java/lang/String") (F_v : Fld Z h0 q1 "java/lang/String" "value" "[B" (.ref bv)) (F_c : Fld Z h0 q1 "java/lang/String" "coder" "B" (.int (0 : Int32)))  (A_v : Arv Z h0 bv kv .byte (3 : Int32) [.int (lat x0), .int (lat x1), .int (lat x2)] (.int 0)) (l0 : ¬ (255 : Int32) < x0) (l1 : ¬ (255 : Int32) < x1) (l2 : ¬ (255 : Int32) < x2) (cs : Int32) (fm : Value) (SS : SSt Z cs fm) (O0 : Old Z n0 h0) :
    Ctr l Z ({ cls := "com/example/libonce/libonce/StorableText", name := "keptLength", desc := "(Ljava/lang/String;I)I" } : Jvm.MethodName) prog_13_method_4_code 4 (some .int) ws ({ frames := 5, cells := 0, slots := 0, locals := 66 } : Room) #[.ref q1, .int (1 : Int32)] h0 (fun v h L => v = some (.int (klB x1 x2)) ∧ Fr n0 L ∧ h = h0) := by
  refine Ctr.enter (Ls := #[.val (.ref q1), .val (.int (1 : Int32)), .unset, .unset]) (by decide +kernel) (fun m => ef_rmKL3_0_1 q1 m) ?_
  intro p e s m below meth c T hx hby hml hown hnm hret hlk hZ hh X0 e0
  have N0 := Fr.nil n0
  refine g_aloadN X0 hx hby d13_0 (pc' := 1) rfl rfl rfl ?_
  refine g_iloadN X0 hx hby d13_1 (pc' := 2) rfl rfl ?_
  refine g_callV X0 hx hZ hown (W := 0) (argsL := [.int (1 : Int32)]) (b := q1) (rest := []) hby d13_2 (pc' := 5) rfl (by rw [hml]; rfl) (w_60 hw) (w_61 hw) (w_63 hw) (notFace_of_selects (args := #[]) (mvT hZ (w_63 hw))) (w_62 hw) (w_10 hw) (w_64 hw) (by decide) (rmCA3_0_1 l Z a0 hw [] q1 h0 n0 x0 x1 x2 _ _ hx0 hx1 hx2 E_a F_v F_c A_v l0 l1 l2 cs fm SS O0) e0 E_a (by decide) (by decide) (by decide) (by decide) rfl pd__28I_29C rfl rfl (Nat.le_of_eq rfl) ?_
  rintro _ T1 L1 X1 ⟨rfl, N1q, e1⟩
  have N1 := Fr.app N0 N1q
  show GoE p e below _ (T1.setTop (mkF m 5 #[.val (.ref q1), .val (.int (1 : Int32)), .unset, .unset] [.int x1]))
  refine g_istoreN X1 hx hby d13_5 (pc' := 6) rfl (l' := #[.val (.ref q1), .val (.int (1 : Int32)), .val (.int x1), .unset]) rfl ?_
  refine g_iloadN X1 hx hby d13_6 (pc' := 7) rfl rfl ?_
  refine g_if_ne X1 hx hby d13_7 (by decide) (pc' := 12) (by decide) (pn := 10) rfl (fun hc7_2 => ?_) (fun hc7_2 => ?_)
  · refine g_iloadN X1 hx hby d13_12 (pc' := 13) rfl rfl ?_
    refine g_callS X1 hx hZ hown (W := 0) (argsL := [.int x1]) (rest := []) hby d13_13 (pc' := 16) rfl (by rw [hml]; rfl) (w_90 hw) (w_91 hw) (w_92 hw) (w_93 hw) (by decide) (rmS l Z a0 hw [] x1 h0 n0) e1 (by decide) (by decide) (by decide) (by decide) rfl pd__28C_29Z rfl rfl (Nat.le_of_eq rfl) ?_
    rintro _ T3 L3 X3 ⟨rfl, N3q, e3⟩
    have N3 := Fr.app N1 N3q
    show GoE p e below _ (T3.setTop (mkF m 16 #[.val (.ref q1), .val (.int (1 : Int32)), .val (.int x1), .unset] [.int (isS x1)]))
    refine g_if_ne X3 hx hby d13_16 (by decide) (pc' := 21) (by decide) (pn := 19) rfl (fun hc16_4 => ?_) (fun hc16_4 => ?_)
    · refine g_iloadN X3 hx hby d13_21 (pc' := 22) rfl rfl ?_
      refine g_callS X3 hx hZ hown (W := 0) (argsL := [.int x1]) (rest := []) hby d13_22 (pc' := 25) rfl (by rw [hml]; rfl) (w_96 hw) (w_97 hw) (w_92 hw) (w_98 hw) (by decide) (rmH l Z a0 hw [] x1 h0 n0) e3 (by decide) (by decide) (by decide) (by decide) rfl pd__28C_29Z rfl rfl (Nat.le_of_eq rfl) ?_
      rintro _ T5 L5 X5 ⟨rfl, N5q, e5⟩
      have N5 := Fr.app N3 N5q
      show GoE p e below _ (T5.setTop (mkF m 25 #[.val (.ref q1), .val (.int (1 : Int32)), .val (.int x1), .unset] [.int (isH x1)]))
      refine g_if_eq X5 hx hby d13_25 (by decide) (pc' := 55) (by decide) (pn := 28) rfl (fun hc25_6 => ?_) (fun hc25_6 => ?_)
      · refine g_iconst X5 hx hby d13_55 (pc' := 56) rfl (z := (0 : Int32)) rfl ?_
        refine g_istoreN X5 hx hby d13_56 (pc' := 57) rfl (l' := #[.val (.ref q1), .val (.int (1 : Int32)), .val (.int x1), .val (.int (0 : Int32))]) rfl ?_
        refine g_iloadN X5 hx hby d13_57 (pc' := 58) rfl rfl ?_
        refine g_if_eq X5 hx hby d13_58 (by decide) (pc' := 65) (by decide) (pn := 61) rfl (fun _ => ?_) (fun z => absurd z (by decide))
        refine g_iconst X5 hx hby d13_65 (pc' := 66) rfl (z := (0 : Int32)) rfl ?_
        exact g_retI (Q := (fun v h L => v = some (.int (klB x1 x2)) ∧ Fr n0 L ∧ h = h0)) X5 hx hby d13_66 hret hlk (by decide) (by decide) ⟨congrArg (fun z : Int32 => some (Value.int z)) (by unfold klB; rw [if_neg hc7_2, if_neg hc16_4, if_pos hc25_6]), N5, e5⟩
      · refine g_iloadN X5 hx hby d13_28 (pc' := 29) rfl rfl ?_
        refine g_iconst X5 hx hby d13_29 (pc' := 30) rfl (z := (1 : Int32)) rfl ?_
        refine g_iadd X5 hx hby d13_30 (pc' := 31) rfl ?_
        refine g_eqI (b := (2 : Int32)) (by decide +kernel) ?_
        refine g_aloadN X5 hx hby d13_31 (pc' := 32) rfl rfl rfl ?_
        refine g_callV X5 hx hZ hown (W := 1) (argsL := []) (b := q1) (rest := [.int (2 : Int32)]) hby d13_32 (pc' := 35) rfl (by rw [hml]; rfl) (w_102 hw) (w_103 hw) (w_105 hw) (notFace_of_selects (args := #[]) (mvT hZ (w_105 hw))) (w_104 hw) (w_10 hw) (w_106 hw) (by decide) (rmSL3_0 l Z a0 hw [] q1 h0 n0 x0 x1 x2 _ _ hx0 hx1 hx2 E_a F_v F_c A_v l0 l1 l2 cs fm SS O0) e5 E_a (by decide) (by decide) (by decide) (by decide) rfl pd__28_29I rfl rfl (Nat.le_of_eq rfl) ?_
        rintro _ T7 L7 X7 ⟨rfl, N7q, e7⟩
        have N7 := Fr.app N5 N7q
        show GoE p e below _ (T7.setTop (mkF m 35 #[.val (.ref q1), .val (.int (1 : Int32)), .val (.int x1), .unset] [.int (3 : Int32), .int (2 : Int32)]))
        refine g_icmp_ge X7 hx hby d13_35 (by decide) (pc' := 55) (by decide) (pn := 38) rfl (fun z => absurd z (by decide)) (fun _ => ?_)
        refine g_aloadN X7 hx hby d13_38 (pc' := 39) rfl rfl rfl ?_
        refine g_iloadN X7 hx hby d13_39 (pc' := 40) rfl rfl ?_
        refine g_iconst X7 hx hby d13_40 (pc' := 41) rfl (z := (1 : Int32)) rfl ?_
        refine g_iadd X7 hx hby d13_41 (pc' := 42) rfl ?_
        refine g_eqI (b := (2 : Int32)) (by decide +kernel) ?_
        refine g_callV X7 hx hZ hown (W := 0) (argsL := [.int (2 : Int32)]) (b := q1) (rest := []) hby d13_42 (pc' := 45) rfl (by rw [hml]; rfl) (w_60 hw) (w_61 hw) (w_63 hw) (notFace_of_selects (args := #[]) (mvT hZ (w_63 hw))) (w_62 hw) (w_10 hw) (w_64 hw) (by decide) (rmCA3_0_2 l Z a0 hw [] q1 h0 n0 x0 x1 x2 _ _ hx0 hx1 hx2 E_a F_v F_c A_v l0 l1 l2 cs fm SS O0) e7 E_a (by decide) (by decide) (by decide) (by decide) rfl pd__28I_29C rfl rfl (Nat.le_of_eq rfl) ?_
        rintro _ T8 L8 X8 ⟨rfl, N8q, e8⟩
        have N8 := Fr.app N7 N8q
        show GoE p e below _ (T8.setTop (mkF m 45 #[.val (.ref q1), .val (.int (1 : Int32)), .val (.int x1), .unset] [.int x2]))
        refine g_callS X8 hx hZ hown (W := 0) (argsL := [.int x2]) (rest := []) hby d13_45 (pc' := 48) rfl (by rw [hml]; rfl) (w_117 hw) (w_118 hw) (w_92 hw) (w_119 hw) (by decide) (rmW l Z a0 hw [] x2 h0 n0) e8 (by decide) (by decide) (by decide) (by decide) rfl pd__28C_29Z rfl rfl (Nat.le_of_eq rfl) ?_
        rintro _ T9 L9 X9 ⟨rfl, N9q, e9⟩
        have N9 := Fr.app N8 N9q
        show GoE p e below _ (T9.setTop (mkF m 48 #[.val (.ref q1), .val (.int (1 : Int32)), .val (.int x1), .unset] [.int (isL x2)]))
        refine g_if_eq X9 hx hby d13_48 (by decide) (pc' := 55) (by decide) (pn := 51) rfl (fun hc48_10 => ?_) (fun hc48_10 => ?_)
        · refine g_iconst X9 hx hby d13_55 (pc' := 56) rfl (z := (0 : Int32)) rfl ?_
          refine g_istoreN X9 hx hby d13_56 (pc' := 57) rfl (l' := #[.val (.ref q1), .val (.int (1 : Int32)), .val (.int x1), .val (.int (0 : Int32))]) rfl ?_
          refine g_iloadN X9 hx hby d13_57 (pc' := 58) rfl rfl ?_
          refine g_if_eq X9 hx hby d13_58 (by decide) (pc' := 65) (by decide) (pn := 61) rfl (fun _ => ?_) (fun z => absurd z (by decide))
          refine g_iconst X9 hx hby d13_65 (pc' := 66) rfl (z := (0 : Int32)) rfl ?_
          exact g_retI (Q := (fun v h L => v = some (.int (klB x1 x2)) ∧ Fr n0 L ∧ h = h0)) X9 hx hby d13_66 hret hlk (by decide) (by decide) ⟨congrArg (fun z : Int32 => some (Value.int z)) (by unfold klB; rw [if_neg hc7_2, if_neg hc16_4, if_neg hc25_6, if_pos hc48_10]), N9, e9⟩
        · refine g_iconst X9 hx hby d13_51 (pc' := 52) rfl (z := (1 : Int32)) rfl ?_
          refine g_goto X9 hx hby d13_52 (by decide) (pc' := 56) (by decide) ?_
          refine g_istoreN X9 hx hby d13_56 (pc' := 57) rfl (l' := #[.val (.ref q1), .val (.int (1 : Int32)), .val (.int x1), .val (.int (1 : Int32))]) rfl ?_
          refine g_iloadN X9 hx hby d13_57 (pc' := 58) rfl rfl ?_
          refine g_if_eq X9 hx hby d13_58 (by decide) (pc' := 65) (by decide) (pn := 61) rfl (fun z => absurd z (by decide)) (fun _ => ?_)
          refine g_iconst X9 hx hby d13_61 (pc' := 62) rfl (z := (2 : Int32)) rfl ?_
          refine g_goto X9 hx hby d13_62 (by decide) (pc' := 66) (by decide) ?_
          exact g_retI (Q := (fun v h L => v = some (.int (klB x1 x2)) ∧ Fr n0 L ∧ h = h0)) X9 hx hby d13_66 hret hlk (by decide) (by decide) ⟨congrArg (fun z : Int32 => some (Value.int z)) (by unfold klB; rw [if_neg hc7_2, if_neg hc16_4, if_neg hc25_6, if_neg hc48_10]), N9, e9⟩
    · refine g_iconst X3 hx hby d13_19 (pc' := 20) rfl (z := (1 : Int32)) rfl ?_
      exact g_retI (Q := (fun v h L => v = some (.int (klB x1 x2)) ∧ Fr n0 L ∧ h = h0)) X3 hx hby d13_20 hret hlk (by decide) (by decide) ⟨congrArg (fun z : Int32 => some (Value.int z)) (by unfold klB; rw [if_neg hc7_2, if_pos hc16_4]), N3, e3⟩
  · refine g_iconst X1 hx hby d13_10 (pc' := 11) rfl (z := (0 : Int32)) rfl ?_
    exact g_retI (Q := (fun v h L => v = some (.int (klB x1 x2)) ∧ Fr n0 L ∧ h = h0)) X1 hx hby d13_11 hret hlk (by decide) (by decide) ⟨congrArg (fun z : Int32 => some (Value.int z)) (by unfold klB; rw [if_pos hc7_2]), N1, e1⟩
theorem ef_rmKL3_0_2 (q1 : Addr) (m : MethodId) : entryFrame m #[.ref q1, .int (2 : Int32)] 4 = mkF m 0 #[.val (.ref q1), .val (.int (2 : Int32)), .unset, .unset] [] := by
  first | (simp [entryFrame, mkF, argsToLocals, Value.category]; done) | rfl
set_option maxRecDepth 65536 in
set_option maxHeartbeats 40000000 in
theorem rmKL3_0_2 (l : Launch) (Z : State) (a0 : Array Value) (hw : ∀ d ∈ tables_1, d.before a0 Z = true) (ws : List Jvm.Cond) (q1 : Addr) (h0 : Heap) (n0 : Nat) (x0 x1 x2 : Int32) (bv : Addr) (kv : ClassId) (hx0 : CH x0) (hx1 : CH x1) (hx2 : CH x2) (E_a : Exa Z h0 q1 "java/lang/String") (F_v : Fld Z h0 q1 "java/lang/String" "value" "[B" (.ref bv)) (F_c : Fld Z h0 q1 "java/lang/String" "coder" "B" (.int (0 : Int32)))  (A_v : Arv Z h0 bv kv .byte (3 : Int32) [.int (lat x0), .int (lat x1), .int (lat x2)] (.int 0)) (l0 : ¬ (255 : Int32) < x0) (l1 : ¬ (255 : Int32) < x1) (l2 : ¬ (255 : Int32) < x2) (cs : Int32) (fm : Value) (SS : SSt Z cs fm) (O0 : Old Z n0 h0) :
    Ctr l Z ({ cls := "com/example/libonce/libonce/StorableText", name := "keptLength", desc := "(Ljava/lang/String;I)I" } : Jvm.MethodName) prog_13_method_4_code 4 (some .int) ws ({ frames := 5, cells := 0, slots := 0, locals := 66 } : Room) #[.ref q1, .int (2 : Int32)] h0 (fun v h L => v = some (.int (klA x2)) ∧ Fr n0 L ∧ h = h0) := by
  refine Ctr.enter (Ls := #[.val (.ref q1), .val (.int (2 : Int32)), .unset, .unset]) (by decide +kernel) (fun m => ef_rmKL3_0_2 q1 m) ?_
  intro p e s m below meth c T hx hby hml hown hnm hret hlk hZ hh X0 e0
  have N0 := Fr.nil n0
  refine g_aloadN X0 hx hby d13_0 (pc' := 1) rfl rfl rfl ?_
  refine g_iloadN X0 hx hby d13_1 (pc' := 2) rfl rfl ?_
  refine g_callV X0 hx hZ hown (W := 0) (argsL := [.int (2 : Int32)]) (b := q1) (rest := []) hby d13_2 (pc' := 5) rfl (by rw [hml]; rfl) (w_60 hw) (w_61 hw) (w_63 hw) (notFace_of_selects (args := #[]) (mvT hZ (w_63 hw))) (w_62 hw) (w_10 hw) (w_64 hw) (by decide) (rmCA3_0_2 l Z a0 hw [] q1 h0 n0 x0 x1 x2 _ _ hx0 hx1 hx2 E_a F_v F_c A_v l0 l1 l2 cs fm SS O0) e0 E_a (by decide) (by decide) (by decide) (by decide) rfl pd__28I_29C rfl rfl (Nat.le_of_eq rfl) ?_
  rintro _ T1 L1 X1 ⟨rfl, N1q, e1⟩
  have N1 := Fr.app N0 N1q
  show GoE p e below _ (T1.setTop (mkF m 5 #[.val (.ref q1), .val (.int (2 : Int32)), .unset, .unset] [.int x2]))
  refine g_istoreN X1 hx hby d13_5 (pc' := 6) rfl (l' := #[.val (.ref q1), .val (.int (2 : Int32)), .val (.int x2), .unset]) rfl ?_
  refine g_iloadN X1 hx hby d13_6 (pc' := 7) rfl rfl ?_
  refine g_if_ne X1 hx hby d13_7 (by decide) (pc' := 12) (by decide) (pn := 10) rfl (fun hc7_2 => ?_) (fun hc7_2 => ?_)
  · refine g_iloadN X1 hx hby d13_12 (pc' := 13) rfl rfl ?_
    refine g_callS X1 hx hZ hown (W := 0) (argsL := [.int x2]) (rest := []) hby d13_13 (pc' := 16) rfl (by rw [hml]; rfl) (w_90 hw) (w_91 hw) (w_92 hw) (w_93 hw) (by decide) (rmS l Z a0 hw [] x2 h0 n0) e1 (by decide) (by decide) (by decide) (by decide) rfl pd__28C_29Z rfl rfl (Nat.le_of_eq rfl) ?_
    rintro _ T3 L3 X3 ⟨rfl, N3q, e3⟩
    have N3 := Fr.app N1 N3q
    show GoE p e below _ (T3.setTop (mkF m 16 #[.val (.ref q1), .val (.int (2 : Int32)), .val (.int x2), .unset] [.int (isS x2)]))
    refine g_if_ne X3 hx hby d13_16 (by decide) (pc' := 21) (by decide) (pn := 19) rfl (fun hc16_4 => ?_) (fun hc16_4 => ?_)
    · refine g_iloadN X3 hx hby d13_21 (pc' := 22) rfl rfl ?_
      refine g_callS X3 hx hZ hown (W := 0) (argsL := [.int x2]) (rest := []) hby d13_22 (pc' := 25) rfl (by rw [hml]; rfl) (w_96 hw) (w_97 hw) (w_92 hw) (w_98 hw) (by decide) (rmH l Z a0 hw [] x2 h0 n0) e3 (by decide) (by decide) (by decide) (by decide) rfl pd__28C_29Z rfl rfl (Nat.le_of_eq rfl) ?_
      rintro _ T5 L5 X5 ⟨rfl, N5q, e5⟩
      have N5 := Fr.app N3 N5q
      show GoE p e below _ (T5.setTop (mkF m 25 #[.val (.ref q1), .val (.int (2 : Int32)), .val (.int x2), .unset] [.int (isH x2)]))
      refine g_if_eq X5 hx hby d13_25 (by decide) (pc' := 55) (by decide) (pn := 28) rfl (fun hc25_6 => ?_) (fun hc25_6 => ?_)
      · refine g_iconst X5 hx hby d13_55 (pc' := 56) rfl (z := (0 : Int32)) rfl ?_
        refine g_istoreN X5 hx hby d13_56 (pc' := 57) rfl (l' := #[.val (.ref q1), .val (.int (2 : Int32)), .val (.int x2), .val (.int (0 : Int32))]) rfl ?_
        refine g_iloadN X5 hx hby d13_57 (pc' := 58) rfl rfl ?_
        refine g_if_eq X5 hx hby d13_58 (by decide) (pc' := 65) (by decide) (pn := 61) rfl (fun _ => ?_) (fun z => absurd z (by decide))
        refine g_iconst X5 hx hby d13_65 (pc' := 66) rfl (z := (0 : Int32)) rfl ?_
        exact g_retI (Q := (fun v h L => v = some (.int (klA x2)) ∧ Fr n0 L ∧ h = h0)) X5 hx hby d13_66 hret hlk (by decide) (by decide) ⟨congrArg (fun z : Int32 => some (Value.int z)) (by unfold klA; rw [if_neg hc7_2, if_neg hc16_4, if_pos hc25_6]), N5, e5⟩
      · refine g_iloadN X5 hx hby d13_28 (pc' := 29) rfl rfl ?_
        refine g_iconst X5 hx hby d13_29 (pc' := 30) rfl (z := (1 : Int32)) rfl ?_
        refine g_iadd X5 hx hby d13_30 (pc' := 31) rfl ?_
        refine g_eqI (b := (3 : Int32)) (by decide +kernel) ?_
        refine g_aloadN X5 hx hby d13_31 (pc' := 32) rfl rfl rfl ?_
        refine g_callV X5 hx hZ hown (W := 1) (argsL := []) (b := q1) (rest := [.int (3 : Int32)]) hby d13_32 (pc' := 35) rfl (by rw [hml]; rfl) (w_102 hw) (w_103 hw) (w_105 hw) (notFace_of_selects (args := #[]) (mvT hZ (w_105 hw))) (w_104 hw) (w_10 hw) (w_106 hw) (by decide) (rmSL3_0 l Z a0 hw [] q1 h0 n0 x0 x1 x2 _ _ hx0 hx1 hx2 E_a F_v F_c A_v l0 l1 l2 cs fm SS O0) e5 E_a (by decide) (by decide) (by decide) (by decide) rfl pd__28_29I rfl rfl (Nat.le_of_eq rfl) ?_
        rintro _ T7 L7 X7 ⟨rfl, N7q, e7⟩
        have N7 := Fr.app N5 N7q
        show GoE p e below _ (T7.setTop (mkF m 35 #[.val (.ref q1), .val (.int (2 : Int32)), .val (.int x2), .unset] [.int (3 : Int32), .int (3 : Int32)]))
        refine g_icmp_ge X7 hx hby d13_35 (by decide) (pc' := 55) (by decide) (pn := 38) rfl (fun _ => ?_) (fun z => absurd z (by decide))
        refine g_iconst X7 hx hby d13_55 (pc' := 56) rfl (z := (0 : Int32)) rfl ?_
        refine g_istoreN X7 hx hby d13_56 (pc' := 57) rfl (l' := #[.val (.ref q1), .val (.int (2 : Int32)), .val (.int x2), .val (.int (0 : Int32))]) rfl ?_
        refine g_iloadN X7 hx hby d13_57 (pc' := 58) rfl rfl ?_
        refine g_if_eq X7 hx hby d13_58 (by decide) (pc' := 65) (by decide) (pn := 61) rfl (fun _ => ?_) (fun z => absurd z (by decide))
        refine g_iconst X7 hx hby d13_65 (pc' := 66) rfl (z := (0 : Int32)) rfl ?_
        exact g_retI (Q := (fun v h L => v = some (.int (klA x2)) ∧ Fr n0 L ∧ h = h0)) X7 hx hby d13_66 hret hlk (by decide) (by decide) ⟨congrArg (fun z : Int32 => some (Value.int z)) (by unfold klA; rw [if_neg hc7_2, if_neg hc16_4, if_neg hc25_6]), N7, e7⟩
    · refine g_iconst X3 hx hby d13_19 (pc' := 20) rfl (z := (1 : Int32)) rfl ?_
      exact g_retI (Q := (fun v h L => v = some (.int (klA x2)) ∧ Fr n0 L ∧ h = h0)) X3 hx hby d13_20 hret hlk (by decide) (by decide) ⟨congrArg (fun z : Int32 => some (Value.int z)) (by unfold klA; rw [if_neg hc7_2, if_pos hc16_4]), N3, e3⟩
  · refine g_iconst X1 hx hby d13_10 (pc' := 11) rfl (z := (0 : Int32)) rfl ?_
    exact g_retI (Q := (fun v h L => v = some (.int (klA x2)) ∧ Fr n0 L ∧ h = h0)) X1 hx hby d13_11 hret hlk (by decide) (by decide) ⟨congrArg (fun z : Int32 => some (Value.int z)) (by unfold klA; rw [if_pos hc7_2]), N1, e1⟩
theorem ef_rmKL3_1_0 (q1 : Addr) (m : MethodId) : entryFrame m #[.ref q1, .int (0 : Int32)] 4 = mkF m 0 #[.val (.ref q1), .val (.int (0 : Int32)), .unset, .unset] [] := by
  first | (simp [entryFrame, mkF, argsToLocals, Value.category]; done) | rfl
set_option maxRecDepth 65536 in
set_option maxHeartbeats 40000000 in
theorem rmKL3_1_0 (l : Launch) (Z : State) (a0 : Array Value) (hw : ∀ d ∈ tables_1, d.before a0 Z = true) (ws : List Jvm.Cond) (q1 : Addr) (h0 : Heap) (n0 : Nat) (x0 x1 x2 : Int32) (bv : Addr) (kv : ClassId) (hx0 : CH x0) (hx1 : CH x1) (hx2 : CH x2) (E_a : Exa Z h0 q1 "java/lang/String") (F_v : Fld Z h0 q1 "java/lang/String" "value" "[B" (.ref bv)) (F_c : Fld Z h0 q1 "java/lang/String" "coder" "B" (.int (1 : Int32)))  (A_v : Arv Z h0 bv kv .byte (6 : Int32) [.int (lob x0), .int (hib x0), .int (lob x1), .int (hib x1), .int (lob x2), .int (hib x2)] (.int 0)) (cs : Int32) (fm : Value) (SS : SSt Z cs fm) (O0 : Old Z n0 h0) :
    Ctr l Z ({ cls := "com/example/libonce/libonce/StorableText", name := "keptLength", desc := "(Ljava/lang/String;I)I" } : Jvm.MethodName) prog_13_method_4_code 4 (some .int) ws ({ frames := 5, cells := 0, slots := 0, locals := 66 } : Room) #[.ref q1, .int (0 : Int32)] h0 (fun v h L => v = some (.int (klB x0 x1)) ∧ Fr n0 L ∧ h = h0) := by
  refine Ctr.enter (Ls := #[.val (.ref q1), .val (.int (0 : Int32)), .unset, .unset]) (by decide +kernel) (fun m => ef_rmKL3_1_0 q1 m) ?_
  intro p e s m below meth c T hx hby hml hown hnm hret hlk hZ hh X0 e0
  have N0 := Fr.nil n0
  refine g_aloadN X0 hx hby d13_0 (pc' := 1) rfl rfl rfl ?_
  refine g_iloadN X0 hx hby d13_1 (pc' := 2) rfl rfl ?_
  refine g_callV X0 hx hZ hown (W := 0) (argsL := [.int (0 : Int32)]) (b := q1) (rest := []) hby d13_2 (pc' := 5) rfl (by rw [hml]; rfl) (w_60 hw) (w_61 hw) (w_63 hw) (notFace_of_selects (args := #[]) (mvT hZ (w_63 hw))) (w_62 hw) (w_10 hw) (w_64 hw) (by decide) (rmCA3_1_0 l Z a0 hw [] q1 h0 n0 x0 x1 x2 _ _ hx0 hx1 hx2 E_a F_v F_c A_v cs fm SS O0) e0 E_a (by decide) (by decide) (by decide) (by decide) rfl pd__28I_29C rfl rfl (Nat.le_of_eq rfl) ?_
  rintro _ T1 L1 X1 ⟨rfl, N1q, e1⟩
  have N1 := Fr.app N0 N1q
  show GoE p e below _ (T1.setTop (mkF m 5 #[.val (.ref q1), .val (.int (0 : Int32)), .unset, .unset] [.int x0]))
  refine g_istoreN X1 hx hby d13_5 (pc' := 6) rfl (l' := #[.val (.ref q1), .val (.int (0 : Int32)), .val (.int x0), .unset]) rfl ?_
  refine g_iloadN X1 hx hby d13_6 (pc' := 7) rfl rfl ?_
  refine g_if_ne X1 hx hby d13_7 (by decide) (pc' := 12) (by decide) (pn := 10) rfl (fun hc7_2 => ?_) (fun hc7_2 => ?_)
  · refine g_iloadN X1 hx hby d13_12 (pc' := 13) rfl rfl ?_
    refine g_callS X1 hx hZ hown (W := 0) (argsL := [.int x0]) (rest := []) hby d13_13 (pc' := 16) rfl (by rw [hml]; rfl) (w_90 hw) (w_91 hw) (w_92 hw) (w_93 hw) (by decide) (rmS l Z a0 hw [] x0 h0 n0) e1 (by decide) (by decide) (by decide) (by decide) rfl pd__28C_29Z rfl rfl (Nat.le_of_eq rfl) ?_
    rintro _ T3 L3 X3 ⟨rfl, N3q, e3⟩
    have N3 := Fr.app N1 N3q
    show GoE p e below _ (T3.setTop (mkF m 16 #[.val (.ref q1), .val (.int (0 : Int32)), .val (.int x0), .unset] [.int (isS x0)]))
    refine g_if_ne X3 hx hby d13_16 (by decide) (pc' := 21) (by decide) (pn := 19) rfl (fun hc16_4 => ?_) (fun hc16_4 => ?_)
    · refine g_iloadN X3 hx hby d13_21 (pc' := 22) rfl rfl ?_
      refine g_callS X3 hx hZ hown (W := 0) (argsL := [.int x0]) (rest := []) hby d13_22 (pc' := 25) rfl (by rw [hml]; rfl) (w_96 hw) (w_97 hw) (w_92 hw) (w_98 hw) (by decide) (rmH l Z a0 hw [] x0 h0 n0) e3 (by decide) (by decide) (by decide) (by decide) rfl pd__28C_29Z rfl rfl (Nat.le_of_eq rfl) ?_
      rintro _ T5 L5 X5 ⟨rfl, N5q, e5⟩
      have N5 := Fr.app N3 N5q
      show GoE p e below _ (T5.setTop (mkF m 25 #[.val (.ref q1), .val (.int (0 : Int32)), .val (.int x0), .unset] [.int (isH x0)]))
      refine g_if_eq X5 hx hby d13_25 (by decide) (pc' := 55) (by decide) (pn := 28) rfl (fun hc25_6 => ?_) (fun hc25_6 => ?_)
      · refine g_iconst X5 hx hby d13_55 (pc' := 56) rfl (z := (0 : Int32)) rfl ?_
        refine g_istoreN X5 hx hby d13_56 (pc' := 57) rfl (l' := #[.val (.ref q1), .val (.int (0 : Int32)), .val (.int x0), .val (.int (0 : Int32))]) rfl ?_
        refine g_iloadN X5 hx hby d13_57 (pc' := 58) rfl rfl ?_
        refine g_if_eq X5 hx hby d13_58 (by decide) (pc' := 65) (by decide) (pn := 61) rfl (fun _ => ?_) (fun z => absurd z (by decide))
        refine g_iconst X5 hx hby d13_65 (pc' := 66) rfl (z := (0 : Int32)) rfl ?_
        exact g_retI (Q := (fun v h L => v = some (.int (klB x0 x1)) ∧ Fr n0 L ∧ h = h0)) X5 hx hby d13_66 hret hlk (by decide) (by decide) ⟨congrArg (fun z : Int32 => some (Value.int z)) (by unfold klB; rw [if_neg hc7_2, if_neg hc16_4, if_pos hc25_6]), N5, e5⟩
      · refine g_iloadN X5 hx hby d13_28 (pc' := 29) rfl rfl ?_
        refine g_iconst X5 hx hby d13_29 (pc' := 30) rfl (z := (1 : Int32)) rfl ?_
        refine g_iadd X5 hx hby d13_30 (pc' := 31) rfl ?_
        refine g_eqI (b := (1 : Int32)) (by decide +kernel) ?_
        refine g_aloadN X5 hx hby d13_31 (pc' := 32) rfl rfl rfl ?_
        refine g_callV X5 hx hZ hown (W := 1) (argsL := []) (b := q1) (rest := [.int (1 : Int32)]) hby d13_32 (pc' := 35) rfl (by rw [hml]; rfl) (w_102 hw) (w_103 hw) (w_105 hw) (notFace_of_selects (args := #[]) (mvT hZ (w_105 hw))) (w_104 hw) (w_10 hw) (w_106 hw) (by decide) (rmSL3_1 l Z a0 hw [] q1 h0 n0 x0 x1 x2 _ _ hx0 hx1 hx2 E_a F_v F_c A_v cs fm SS O0) e5 E_a (by decide) (by decide) (by decide) (by decide) rfl pd__28_29I rfl rfl (Nat.le_of_eq rfl) ?_
        rintro _ T7 L7 X7 ⟨rfl, N7q, e7⟩
        have N7 := Fr.app N5 N7q
        show GoE p e below _ (T7.setTop (mkF m 35 #[.val (.ref q1), .val (.int (0 : Int32)), .val (.int x0), .unset] [.int (3 : Int32), .int (1 : Int32)]))
        refine g_icmp_ge X7 hx hby d13_35 (by decide) (pc' := 55) (by decide) (pn := 38) rfl (fun z => absurd z (by decide)) (fun _ => ?_)
        refine g_aloadN X7 hx hby d13_38 (pc' := 39) rfl rfl rfl ?_
        refine g_iloadN X7 hx hby d13_39 (pc' := 40) rfl rfl ?_
        refine g_iconst X7 hx hby d13_40 (pc' := 41) rfl (z := (1 : Int32)) rfl ?_
        refine g_iadd X7 hx hby d13_41 (pc' := 42) rfl ?_
        refine g_eqI (b := (1 : Int32)) (by decide +kernel) ?_
        refine g_callV X7 hx hZ hown (W := 0) (argsL := [.int (1 : Int32)]) (b := q1) (rest := []) hby d13_42 (pc' := 45) rfl (by rw [hml]; rfl) (w_60 hw) (w_61 hw) (w_63 hw) (notFace_of_selects (args := #[]) (mvT hZ (w_63 hw))) (w_62 hw) (w_10 hw) (w_64 hw) (by decide) (rmCA3_1_1 l Z a0 hw [] q1 h0 n0 x0 x1 x2 _ _ hx0 hx1 hx2 E_a F_v F_c A_v cs fm SS O0) e7 E_a (by decide) (by decide) (by decide) (by decide) rfl pd__28I_29C rfl rfl (Nat.le_of_eq rfl) ?_
        rintro _ T8 L8 X8 ⟨rfl, N8q, e8⟩
        have N8 := Fr.app N7 N8q
        show GoE p e below _ (T8.setTop (mkF m 45 #[.val (.ref q1), .val (.int (0 : Int32)), .val (.int x0), .unset] [.int x1]))
        refine g_callS X8 hx hZ hown (W := 0) (argsL := [.int x1]) (rest := []) hby d13_45 (pc' := 48) rfl (by rw [hml]; rfl) (w_117 hw) (w_118 hw) (w_92 hw) (w_119 hw) (by decide) (rmW l Z a0 hw [] x1 h0 n0) e8 (by decide) (by decide) (by decide) (by decide) rfl pd__28C_29Z rfl rfl (Nat.le_of_eq rfl) ?_
        rintro _ T9 L9 X9 ⟨rfl, N9q, e9⟩
        have N9 := Fr.app N8 N9q
        show GoE p e below _ (T9.setTop (mkF m 48 #[.val (.ref q1), .val (.int (0 : Int32)), .val (.int x0), .unset] [.int (isL x1)]))
        refine g_if_eq X9 hx hby d13_48 (by decide) (pc' := 55) (by decide) (pn := 51) rfl (fun hc48_10 => ?_) (fun hc48_10 => ?_)
        · refine g_iconst X9 hx hby d13_55 (pc' := 56) rfl (z := (0 : Int32)) rfl ?_
          refine g_istoreN X9 hx hby d13_56 (pc' := 57) rfl (l' := #[.val (.ref q1), .val (.int (0 : Int32)), .val (.int x0), .val (.int (0 : Int32))]) rfl ?_
          refine g_iloadN X9 hx hby d13_57 (pc' := 58) rfl rfl ?_
          refine g_if_eq X9 hx hby d13_58 (by decide) (pc' := 65) (by decide) (pn := 61) rfl (fun _ => ?_) (fun z => absurd z (by decide))
          refine g_iconst X9 hx hby d13_65 (pc' := 66) rfl (z := (0 : Int32)) rfl ?_
          exact g_retI (Q := (fun v h L => v = some (.int (klB x0 x1)) ∧ Fr n0 L ∧ h = h0)) X9 hx hby d13_66 hret hlk (by decide) (by decide) ⟨congrArg (fun z : Int32 => some (Value.int z)) (by unfold klB; rw [if_neg hc7_2, if_neg hc16_4, if_neg hc25_6, if_pos hc48_10]), N9, e9⟩
        · refine g_iconst X9 hx hby d13_51 (pc' := 52) rfl (z := (1 : Int32)) rfl ?_
          refine g_goto X9 hx hby d13_52 (by decide) (pc' := 56) (by decide) ?_
          refine g_istoreN X9 hx hby d13_56 (pc' := 57) rfl (l' := #[.val (.ref q1), .val (.int (0 : Int32)), .val (.int x0), .val (.int (1 : Int32))]) rfl ?_
          refine g_iloadN X9 hx hby d13_57 (pc' := 58) rfl rfl ?_
          refine g_if_eq X9 hx hby d13_58 (by decide) (pc' := 65) (by decide) (pn := 61) rfl (fun z => absurd z (by decide)) (fun _ => ?_)
          refine g_iconst X9 hx hby d13_61 (pc' := 62) rfl (z := (2 : Int32)) rfl ?_
          refine g_goto X9 hx hby d13_62 (by decide) (pc' := 66) (by decide) ?_
          exact g_retI (Q := (fun v h L => v = some (.int (klB x0 x1)) ∧ Fr n0 L ∧ h = h0)) X9 hx hby d13_66 hret hlk (by decide) (by decide) ⟨congrArg (fun z : Int32 => some (Value.int z)) (by unfold klB; rw [if_neg hc7_2, if_neg hc16_4, if_neg hc25_6, if_neg hc48_10]), N9, e9⟩
    · refine g_iconst X3 hx hby d13_19 (pc' := 20) rfl (z := (1 : Int32)) rfl ?_
      exact g_retI (Q := (fun v h L => v = some (.int (klB x0 x1)) ∧ Fr n0 L ∧ h = h0)) X3 hx hby d13_20 hret hlk (by decide) (by decide) ⟨congrArg (fun z : Int32 => some (Value.int z)) (by unfold klB; rw [if_neg hc7_2, if_pos hc16_4]), N3, e3⟩
  · refine g_iconst X1 hx hby d13_10 (pc' := 11) rfl (z := (0 : Int32)) rfl ?_
    exact g_retI (Q := (fun v h L => v = some (.int (klB x0 x1)) ∧ Fr n0 L ∧ h = h0)) X1 hx hby d13_11 hret hlk (by decide) (by decide) ⟨congrArg (fun z : Int32 => some (Value.int z)) (by unfold klB; rw [if_pos hc7_2]), N1, e1⟩
theorem ef_rmKL3_1_1 (q1 : Addr) (m : MethodId) : entryFrame m #[.ref q1, .int (1 : Int32)] 4 = mkF m 0 #[.val (.ref q1), .val (.int (1 : Int32)), .unset, .unset] [] := by
  first | (simp [entryFrame, mkF, argsToLocals, Value.category]; done) | rfl
set_option maxRecDepth 65536 in
set_option maxHeartbeats 40000000 in
theorem rmKL3_1_1 (l : Launch) (Z : State) (a0 : Array Value) (hw : ∀ d ∈ tables_1, d.before a0 Z = true) (ws : List Jvm.Cond) (q1 : Addr) (h0 : Heap) (n0 : Nat) (x0 x1 x2 : Int32) (bv : Addr) (kv : ClassId) (hx0 : CH x0) (hx1 : CH x1) (hx2 : CH x2) (E_a : Exa Z h0 q1 "java/lang/String") (F_v : Fld Z h0 q1 "java/lang/String" "value" "[B" (.ref bv)) (F_c : Fld Z h0 q1 "java/lang/String" "coder" "B" (.int (1 : Int32)))  (A_v : Arv Z h0 bv kv .byte (6 : Int32) [.int (lob x0), .int (hib x0), .int (lob x1), .int (hib x1), .int (lob x2), .int (hib x2)] (.int 0)) (cs : Int32) (fm : Value) (SS : SSt Z cs fm) (O0 : Old Z n0 h0) :
    Ctr l Z ({ cls := "com/example/libonce/libonce/StorableText", name := "keptLength", desc := "(Ljava/lang/String;I)I" } : Jvm.MethodName) prog_13_method_4_code 4 (some .int) ws ({ frames := 5, cells := 0, slots := 0, locals := 66 } : Room) #[.ref q1, .int (1 : Int32)] h0 (fun v h L => v = some (.int (klB x1 x2)) ∧ Fr n0 L ∧ h = h0) := by
  refine Ctr.enter (Ls := #[.val (.ref q1), .val (.int (1 : Int32)), .unset, .unset]) (by decide +kernel) (fun m => ef_rmKL3_1_1 q1 m) ?_
  intro p e s m below meth c T hx hby hml hown hnm hret hlk hZ hh X0 e0
  have N0 := Fr.nil n0
  refine g_aloadN X0 hx hby d13_0 (pc' := 1) rfl rfl rfl ?_
  refine g_iloadN X0 hx hby d13_1 (pc' := 2) rfl rfl ?_
  refine g_callV X0 hx hZ hown (W := 0) (argsL := [.int (1 : Int32)]) (b := q1) (rest := []) hby d13_2 (pc' := 5) rfl (by rw [hml]; rfl) (w_60 hw) (w_61 hw) (w_63 hw) (notFace_of_selects (args := #[]) (mvT hZ (w_63 hw))) (w_62 hw) (w_10 hw) (w_64 hw) (by decide) (rmCA3_1_1 l Z a0 hw [] q1 h0 n0 x0 x1 x2 _ _ hx0 hx1 hx2 E_a F_v F_c A_v cs fm SS O0) e0 E_a (by decide) (by decide) (by decide) (by decide) rfl pd__28I_29C rfl rfl (Nat.le_of_eq rfl) ?_
  rintro _ T1 L1 X1 ⟨rfl, N1q, e1⟩
  have N1 := Fr.app N0 N1q
  show GoE p e below _ (T1.setTop (mkF m 5 #[.val (.ref q1), .val (.int (1 : Int32)), .unset, .unset] [.int x1]))
  refine g_istoreN X1 hx hby d13_5 (pc' := 6) rfl (l' := #[.val (.ref q1), .val (.int (1 : Int32)), .val (.int x1), .unset]) rfl ?_
  refine g_iloadN X1 hx hby d13_6 (pc' := 7) rfl rfl ?_
  refine g_if_ne X1 hx hby d13_7 (by decide) (pc' := 12) (by decide) (pn := 10) rfl (fun hc7_2 => ?_) (fun hc7_2 => ?_)
  · refine g_iloadN X1 hx hby d13_12 (pc' := 13) rfl rfl ?_
    refine g_callS X1 hx hZ hown (W := 0) (argsL := [.int x1]) (rest := []) hby d13_13 (pc' := 16) rfl (by rw [hml]; rfl) (w_90 hw) (w_91 hw) (w_92 hw) (w_93 hw) (by decide) (rmS l Z a0 hw [] x1 h0 n0) e1 (by decide) (by decide) (by decide) (by decide) rfl pd__28C_29Z rfl rfl (Nat.le_of_eq rfl) ?_
    rintro _ T3 L3 X3 ⟨rfl, N3q, e3⟩
    have N3 := Fr.app N1 N3q
    show GoE p e below _ (T3.setTop (mkF m 16 #[.val (.ref q1), .val (.int (1 : Int32)), .val (.int x1), .unset] [.int (isS x1)]))
    refine g_if_ne X3 hx hby d13_16 (by decide) (pc' := 21) (by decide) (pn := 19) rfl (fun hc16_4 => ?_) (fun hc16_4 => ?_)
    · refine g_iloadN X3 hx hby d13_21 (pc' := 22) rfl rfl ?_
      refine g_callS X3 hx hZ hown (W := 0) (argsL := [.int x1]) (rest := []) hby d13_22 (pc' := 25) rfl (by rw [hml]; rfl) (w_96 hw) (w_97 hw) (w_92 hw) (w_98 hw) (by decide) (rmH l Z a0 hw [] x1 h0 n0) e3 (by decide) (by decide) (by decide) (by decide) rfl pd__28C_29Z rfl rfl (Nat.le_of_eq rfl) ?_
      rintro _ T5 L5 X5 ⟨rfl, N5q, e5⟩
      have N5 := Fr.app N3 N5q
      show GoE p e below _ (T5.setTop (mkF m 25 #[.val (.ref q1), .val (.int (1 : Int32)), .val (.int x1), .unset] [.int (isH x1)]))
      refine g_if_eq X5 hx hby d13_25 (by decide) (pc' := 55) (by decide) (pn := 28) rfl (fun hc25_6 => ?_) (fun hc25_6 => ?_)
      · refine g_iconst X5 hx hby d13_55 (pc' := 56) rfl (z := (0 : Int32)) rfl ?_
        refine g_istoreN X5 hx hby d13_56 (pc' := 57) rfl (l' := #[.val (.ref q1), .val (.int (1 : Int32)), .val (.int x1), .val (.int (0 : Int32))]) rfl ?_
        refine g_iloadN X5 hx hby d13_57 (pc' := 58) rfl rfl ?_
        refine g_if_eq X5 hx hby d13_58 (by decide) (pc' := 65) (by decide) (pn := 61) rfl (fun _ => ?_) (fun z => absurd z (by decide))
        refine g_iconst X5 hx hby d13_65 (pc' := 66) rfl (z := (0 : Int32)) rfl ?_
        exact g_retI (Q := (fun v h L => v = some (.int (klB x1 x2)) ∧ Fr n0 L ∧ h = h0)) X5 hx hby d13_66 hret hlk (by decide) (by decide) ⟨congrArg (fun z : Int32 => some (Value.int z)) (by unfold klB; rw [if_neg hc7_2, if_neg hc16_4, if_pos hc25_6]), N5, e5⟩
      · refine g_iloadN X5 hx hby d13_28 (pc' := 29) rfl rfl ?_
        refine g_iconst X5 hx hby d13_29 (pc' := 30) rfl (z := (1 : Int32)) rfl ?_
        refine g_iadd X5 hx hby d13_30 (pc' := 31) rfl ?_
        refine g_eqI (b := (2 : Int32)) (by decide +kernel) ?_
        refine g_aloadN X5 hx hby d13_31 (pc' := 32) rfl rfl rfl ?_
        refine g_callV X5 hx hZ hown (W := 1) (argsL := []) (b := q1) (rest := [.int (2 : Int32)]) hby d13_32 (pc' := 35) rfl (by rw [hml]; rfl) (w_102 hw) (w_103 hw) (w_105 hw) (notFace_of_selects (args := #[]) (mvT hZ (w_105 hw))) (w_104 hw) (w_10 hw) (w_106 hw) (by decide) (rmSL3_1 l Z a0 hw [] q1 h0 n0 x0 x1 x2 _ _ hx0 hx1 hx2 E_a F_v F_c A_v cs fm SS O0) e5 E_a (by decide) (by decide) (by decide) (by decide) rfl pd__28_29I rfl rfl (Nat.le_of_eq rfl) ?_
        rintro _ T7 L7 X7 ⟨rfl, N7q, e7⟩
        have N7 := Fr.app N5 N7q
        show GoE p e below _ (T7.setTop (mkF m 35 #[.val (.ref q1), .val (.int (1 : Int32)), .val (.int x1), .unset] [.int (3 : Int32), .int (2 : Int32)]))
        refine g_icmp_ge X7 hx hby d13_35 (by decide) (pc' := 55) (by decide) (pn := 38) rfl (fun z => absurd z (by decide)) (fun _ => ?_)
        refine g_aloadN X7 hx hby d13_38 (pc' := 39) rfl rfl rfl ?_
        refine g_iloadN X7 hx hby d13_39 (pc' := 40) rfl rfl ?_
        refine g_iconst X7 hx hby d13_40 (pc' := 41) rfl (z := (1 : Int32)) rfl ?_
        refine g_iadd X7 hx hby d13_41 (pc' := 42) rfl ?_
        refine g_eqI (b := (2 : Int32)) (by decide +kernel) ?_
        refine g_callV X7 hx hZ hown (W := 0) (argsL := [.int (2 : Int32)]) (b := q1) (rest := []) hby d13_42 (pc' := 45) rfl (by rw [hml]; rfl) (w_60 hw) (w_61 hw) (w_63 hw) (notFace_of_selects (args := #[]) (mvT hZ (w_63 hw))) (w_62 hw) (w_10 hw) (w_64 hw) (by decide) (rmCA3_1_2 l Z a0 hw [] q1 h0 n0 x0 x1 x2 _ _ hx0 hx1 hx2 E_a F_v F_c A_v cs fm SS O0) e7 E_a (by decide) (by decide) (by decide) (by decide) rfl pd__28I_29C rfl rfl (Nat.le_of_eq rfl) ?_
        rintro _ T8 L8 X8 ⟨rfl, N8q, e8⟩
        have N8 := Fr.app N7 N8q
        show GoE p e below _ (T8.setTop (mkF m 45 #[.val (.ref q1), .val (.int (1 : Int32)), .val (.int x1), .unset] [.int x2]))
        refine g_callS X8 hx hZ hown (W := 0) (argsL := [.int x2]) (rest := []) hby d13_45 (pc' := 48) rfl (by rw [hml]; rfl) (w_117 hw) (w_118 hw) (w_92 hw) (w_119 hw) (by decide) (rmW l Z a0 hw [] x2 h0 n0) e8 (by decide) (by decide) (by decide) (by decide) rfl pd__28C_29Z rfl rfl (Nat.le_of_eq rfl) ?_
        rintro _ T9 L9 X9 ⟨rfl, N9q, e9⟩
        have N9 := Fr.app N8 N9q
        show GoE p e below _ (T9.setTop (mkF m 48 #[.val (.ref q1), .val (.int (1 : Int32)), .val (.int x1), .unset] [.int (isL x2)]))
        refine g_if_eq X9 hx hby d13_48 (by decide) (pc' := 55) (by decide) (pn := 51) rfl (fun hc48_10 => ?_) (fun hc48_10 => ?_)
        · refine g_iconst X9 hx hby d13_55 (pc' := 56) rfl (z := (0 : Int32)) rfl ?_
          refine g_istoreN X9 hx hby d13_56 (pc' := 57) rfl (l' := #[.val (.ref q1), .val (.int (1 : Int32)), .val (.int x1), .val (.int (0 : Int32))]) rfl ?_
          refine g_iloadN X9 hx hby d13_57 (pc' := 58) rfl rfl ?_
          refine g_if_eq X9 hx hby d13_58 (by decide) (pc' := 65) (by decide) (pn := 61) rfl (fun _ => ?_) (fun z => absurd z (by decide))
          refine g_iconst X9 hx hby d13_65 (pc' := 66) rfl (z := (0 : Int32)) rfl ?_
          exact g_retI (Q := (fun v h L => v = some (.int (klB x1 x2)) ∧ Fr n0 L ∧ h = h0)) X9 hx hby d13_66 hret hlk (by decide) (by decide) ⟨congrArg (fun z : Int32 => some (Value.int z)) (by unfold klB; rw [if_neg hc7_2, if_neg hc16_4, if_neg hc25_6, if_pos hc48_10]), N9, e9⟩
        · refine g_iconst X9 hx hby d13_51 (pc' := 52) rfl (z := (1 : Int32)) rfl ?_
          refine g_goto X9 hx hby d13_52 (by decide) (pc' := 56) (by decide) ?_
          refine g_istoreN X9 hx hby d13_56 (pc' := 57) rfl (l' := #[.val (.ref q1), .val (.int (1 : Int32)), .val (.int x1), .val (.int (1 : Int32))]) rfl ?_
          refine g_iloadN X9 hx hby d13_57 (pc' := 58) rfl rfl ?_
          refine g_if_eq X9 hx hby d13_58 (by decide) (pc' := 65) (by decide) (pn := 61) rfl (fun z => absurd z (by decide)) (fun _ => ?_)
          refine g_iconst X9 hx hby d13_61 (pc' := 62) rfl (z := (2 : Int32)) rfl ?_
          refine g_goto X9 hx hby d13_62 (by decide) (pc' := 66) (by decide) ?_
          exact g_retI (Q := (fun v h L => v = some (.int (klB x1 x2)) ∧ Fr n0 L ∧ h = h0)) X9 hx hby d13_66 hret hlk (by decide) (by decide) ⟨congrArg (fun z : Int32 => some (Value.int z)) (by unfold klB; rw [if_neg hc7_2, if_neg hc16_4, if_neg hc25_6, if_neg hc48_10]), N9, e9⟩
    · refine g_iconst X3 hx hby d13_19 (pc' := 20) rfl (z := (1 : Int32)) rfl ?_
      exact g_retI (Q := (fun v h L => v = some (.int (klB x1 x2)) ∧ Fr n0 L ∧ h = h0)) X3 hx hby d13_20 hret hlk (by decide) (by decide) ⟨congrArg (fun z : Int32 => some (Value.int z)) (by unfold klB; rw [if_neg hc7_2, if_pos hc16_4]), N3, e3⟩
  · refine g_iconst X1 hx hby d13_10 (pc' := 11) rfl (z := (0 : Int32)) rfl ?_
    exact g_retI (Q := (fun v h L => v = some (.int (klB x1 x2)) ∧ Fr n0 L ∧ h = h0)) X1 hx hby d13_11 hret hlk (by decide) (by decide) ⟨congrArg (fun z : Int32 => some (Value.int z)) (by unfold klB; rw [if_pos hc7_2]), N1, e1⟩
theorem ef_rmKL3_1_2 (q1 : Addr) (m : MethodId) : entryFrame m #[.ref q1, .int (2 : Int32)] 4 = mkF m 0 #[.val (.ref q1), .val (.int (2 : Int32)), .unset, .unset] [] := by
  first | (simp [entryFrame, mkF, argsToLocals, Value.category]; done) | rfl
set_option maxRecDepth 65536 in
set_option maxHeartbeats 40000000 in
theorem rmKL3_1_2 (l : Launch) (Z : State) (a0 : Array Value) (hw : ∀ d ∈ tables_1, d.before a0 Z = true) (ws : List Jvm.Cond) (q1 : Addr) (h0 : Heap) (n0 : Nat) (x0 x1 x2 : Int32) (bv : Addr) (kv : ClassId) (hx0 : CH x0) (hx1 : CH x1) (hx2 : CH x2) (E_a : Exa Z h0 q1 "java/lang/String") (F_v : Fld Z h0 q1 "java/lang/String" "value" "[B" (.ref bv)) (F_c : Fld Z h0 q1 "java/lang/String" "coder" "B" (.int (1 : Int32)))  (A_v : Arv Z h0 bv kv .byte (6 : Int32) [.int (lob x0), .int (hib x0), .int (lob x1), .int (hib x1), .int (lob x2), .int (hib x2)] (.int 0)) (cs : Int32) (fm : Value) (SS : SSt Z cs fm) (O0 : Old Z n0 h0) :
    Ctr l Z ({ cls := "com/example/libonce/libonce/StorableText", name := "keptLength", desc := "(Ljava/lang/String;I)I" } : Jvm.MethodName) prog_13_method_4_code 4 (some .int) ws ({ frames := 5, cells := 0, slots := 0, locals := 66 } : Room) #[.ref q1, .int (2 : Int32)] h0 (fun v h L => v = some (.int (klA x2)) ∧ Fr n0 L ∧ h = h0) := by
  refine Ctr.enter (Ls := #[.val (.ref q1), .val (.int (2 : Int32)), .unset, .unset]) (by decide +kernel) (fun m => ef_rmKL3_1_2 q1 m) ?_
  intro p e s m below meth c T hx hby hml hown hnm hret hlk hZ hh X0 e0
  have N0 := Fr.nil n0
  refine g_aloadN X0 hx hby d13_0 (pc' := 1) rfl rfl rfl ?_
  refine g_iloadN X0 hx hby d13_1 (pc' := 2) rfl rfl ?_
  refine g_callV X0 hx hZ hown (W := 0) (argsL := [.int (2 : Int32)]) (b := q1) (rest := []) hby d13_2 (pc' := 5) rfl (by rw [hml]; rfl) (w_60 hw) (w_61 hw) (w_63 hw) (notFace_of_selects (args := #[]) (mvT hZ (w_63 hw))) (w_62 hw) (w_10 hw) (w_64 hw) (by decide) (rmCA3_1_2 l Z a0 hw [] q1 h0 n0 x0 x1 x2 _ _ hx0 hx1 hx2 E_a F_v F_c A_v cs fm SS O0) e0 E_a (by decide) (by decide) (by decide) (by decide) rfl pd__28I_29C rfl rfl (Nat.le_of_eq rfl) ?_
  rintro _ T1 L1 X1 ⟨rfl, N1q, e1⟩
  have N1 := Fr.app N0 N1q
  show GoE p e below _ (T1.setTop (mkF m 5 #[.val (.ref q1), .val (.int (2 : Int32)), .unset, .unset] [.int x2]))
  refine g_istoreN X1 hx hby d13_5 (pc' := 6) rfl (l' := #[.val (.ref q1), .val (.int (2 : Int32)), .val (.int x2), .unset]) rfl ?_
  refine g_iloadN X1 hx hby d13_6 (pc' := 7) rfl rfl ?_
  refine g_if_ne X1 hx hby d13_7 (by decide) (pc' := 12) (by decide) (pn := 10) rfl (fun hc7_2 => ?_) (fun hc7_2 => ?_)
  · refine g_iloadN X1 hx hby d13_12 (pc' := 13) rfl rfl ?_
    refine g_callS X1 hx hZ hown (W := 0) (argsL := [.int x2]) (rest := []) hby d13_13 (pc' := 16) rfl (by rw [hml]; rfl) (w_90 hw) (w_91 hw) (w_92 hw) (w_93 hw) (by decide) (rmS l Z a0 hw [] x2 h0 n0) e1 (by decide) (by decide) (by decide) (by decide) rfl pd__28C_29Z rfl rfl (Nat.le_of_eq rfl) ?_
    rintro _ T3 L3 X3 ⟨rfl, N3q, e3⟩
    have N3 := Fr.app N1 N3q
    show GoE p e below _ (T3.setTop (mkF m 16 #[.val (.ref q1), .val (.int (2 : Int32)), .val (.int x2), .unset] [.int (isS x2)]))
    refine g_if_ne X3 hx hby d13_16 (by decide) (pc' := 21) (by decide) (pn := 19) rfl (fun hc16_4 => ?_) (fun hc16_4 => ?_)
    · refine g_iloadN X3 hx hby d13_21 (pc' := 22) rfl rfl ?_
      refine g_callS X3 hx hZ hown (W := 0) (argsL := [.int x2]) (rest := []) hby d13_22 (pc' := 25) rfl (by rw [hml]; rfl) (w_96 hw) (w_97 hw) (w_92 hw) (w_98 hw) (by decide) (rmH l Z a0 hw [] x2 h0 n0) e3 (by decide) (by decide) (by decide) (by decide) rfl pd__28C_29Z rfl rfl (Nat.le_of_eq rfl) ?_
      rintro _ T5 L5 X5 ⟨rfl, N5q, e5⟩
      have N5 := Fr.app N3 N5q
      show GoE p e below _ (T5.setTop (mkF m 25 #[.val (.ref q1), .val (.int (2 : Int32)), .val (.int x2), .unset] [.int (isH x2)]))
      refine g_if_eq X5 hx hby d13_25 (by decide) (pc' := 55) (by decide) (pn := 28) rfl (fun hc25_6 => ?_) (fun hc25_6 => ?_)
      · refine g_iconst X5 hx hby d13_55 (pc' := 56) rfl (z := (0 : Int32)) rfl ?_
        refine g_istoreN X5 hx hby d13_56 (pc' := 57) rfl (l' := #[.val (.ref q1), .val (.int (2 : Int32)), .val (.int x2), .val (.int (0 : Int32))]) rfl ?_
        refine g_iloadN X5 hx hby d13_57 (pc' := 58) rfl rfl ?_
        refine g_if_eq X5 hx hby d13_58 (by decide) (pc' := 65) (by decide) (pn := 61) rfl (fun _ => ?_) (fun z => absurd z (by decide))
        refine g_iconst X5 hx hby d13_65 (pc' := 66) rfl (z := (0 : Int32)) rfl ?_
        exact g_retI (Q := (fun v h L => v = some (.int (klA x2)) ∧ Fr n0 L ∧ h = h0)) X5 hx hby d13_66 hret hlk (by decide) (by decide) ⟨congrArg (fun z : Int32 => some (Value.int z)) (by unfold klA; rw [if_neg hc7_2, if_neg hc16_4, if_pos hc25_6]), N5, e5⟩
      · refine g_iloadN X5 hx hby d13_28 (pc' := 29) rfl rfl ?_
        refine g_iconst X5 hx hby d13_29 (pc' := 30) rfl (z := (1 : Int32)) rfl ?_
        refine g_iadd X5 hx hby d13_30 (pc' := 31) rfl ?_
        refine g_eqI (b := (3 : Int32)) (by decide +kernel) ?_
        refine g_aloadN X5 hx hby d13_31 (pc' := 32) rfl rfl rfl ?_
        refine g_callV X5 hx hZ hown (W := 1) (argsL := []) (b := q1) (rest := [.int (3 : Int32)]) hby d13_32 (pc' := 35) rfl (by rw [hml]; rfl) (w_102 hw) (w_103 hw) (w_105 hw) (notFace_of_selects (args := #[]) (mvT hZ (w_105 hw))) (w_104 hw) (w_10 hw) (w_106 hw) (by decide) (rmSL3_1 l Z a0 hw [] q1 h0 n0 x0 x1 x2 _ _ hx0 hx1 hx2 E_a F_v F_c A_v cs fm SS O0) e5 E_a (by decide) (by decide) (by decide) (by decide) rfl pd__28_29I rfl rfl (Nat.le_of_eq rfl) ?_
        rintro _ T7 L7 X7 ⟨rfl, N7q, e7⟩
        have N7 := Fr.app N5 N7q
        show GoE p e below _ (T7.setTop (mkF m 35 #[.val (.ref q1), .val (.int (2 : Int32)), .val (.int x2), .unset] [.int (3 : Int32), .int (3 : Int32)]))
        refine g_icmp_ge X7 hx hby d13_35 (by decide) (pc' := 55) (by decide) (pn := 38) rfl (fun _ => ?_) (fun z => absurd z (by decide))
        refine g_iconst X7 hx hby d13_55 (pc' := 56) rfl (z := (0 : Int32)) rfl ?_
        refine g_istoreN X7 hx hby d13_56 (pc' := 57) rfl (l' := #[.val (.ref q1), .val (.int (2 : Int32)), .val (.int x2), .val (.int (0 : Int32))]) rfl ?_
        refine g_iloadN X7 hx hby d13_57 (pc' := 58) rfl rfl ?_
        refine g_if_eq X7 hx hby d13_58 (by decide) (pc' := 65) (by decide) (pn := 61) rfl (fun _ => ?_) (fun z => absurd z (by decide))
        refine g_iconst X7 hx hby d13_65 (pc' := 66) rfl (z := (0 : Int32)) rfl ?_
        exact g_retI (Q := (fun v h L => v = some (.int (klA x2)) ∧ Fr n0 L ∧ h = h0)) X7 hx hby d13_66 hret hlk (by decide) (by decide) ⟨congrArg (fun z : Int32 => some (Value.int z)) (by unfold klA; rw [if_neg hc7_2, if_neg hc16_4, if_neg hc25_6]), N7, e7⟩
    · refine g_iconst X3 hx hby d13_19 (pc' := 20) rfl (z := (1 : Int32)) rfl ?_
      exact g_retI (Q := (fun v h L => v = some (.int (klA x2)) ∧ Fr n0 L ∧ h = h0)) X3 hx hby d13_20 hret hlk (by decide) (by decide) ⟨congrArg (fun z : Int32 => some (Value.int z)) (by unfold klA; rw [if_neg hc7_2, if_pos hc16_4]), N3, e3⟩
  · refine g_iconst X1 hx hby d13_10 (pc' := 11) rfl (z := (0 : Int32)) rfl ?_
    exact g_retI (Q := (fun v h L => v = some (.int (klA x2)) ∧ Fr n0 L ∧ h = h0)) X1 hx hby d13_11 hret hlk (by decide) (by decide) ⟨congrArg (fun z : Int32 => some (Value.int z)) (by unfold klA; rw [if_pos hc7_2]), N1, e1⟩
theorem ef_rmEX1_0 (q1 : Addr) (m : MethodId) : entryFrame m #[.ref q1, .int (1 : Int32), .int (0 : Int32)] 5 = mkF m 0 #[.val (.ref q1), .val (.int (1 : Int32)), .val (.int (0 : Int32)), .unset, .unset] [] := by
  first | (simp [entryFrame, mkF, argsToLocals, Value.category]; done) | rfl
set_option maxRecDepth 65536 in
set_option maxHeartbeats 40000000 in
theorem rmEX1_0 (l : Launch) (Z : State) (a0 : Array Value) (hw : ∀ d ∈ tables_1, d.before a0 Z = true) (ws : List Jvm.Cond) (q1 : Addr) (h0 : Heap) (n0 : Nat) (x0 : Int32) (kc : ClassId) (A_c : Arv Z h0 q1 kc .char (1 : Int32) [.int x0] (.int 0)) :
    Ctr l Z ({ cls := "com/example/libonce/libonce/StorableTextKeptLengthPinLaw", name := "expected", desc := "([CII)I" } : Jvm.MethodName) method_4_code 5 (some .int) ws ({ frames := 0, cells := 0, slots := 0, locals := 0 } : Room) #[.ref q1, .int (1 : Int32), .int (0 : Int32)] h0 (fun v h L => v = some (.int (exA x0)) ∧ Fr n0 L ∧ h = h0) := by
  refine Ctr.enter (Ls := #[.val (.ref q1), .val (.int (1 : Int32)), .val (.int (0 : Int32)), .unset, .unset]) (by decide +kernel) (fun m => ef_rmEX1_0 q1 m) ?_
  intro p e s m below meth c T hx hby hml hown hnm hret hlk hZ hh X0 e0
  have N0 := Fr.nil n0
  refine g_aloadN X0 hx hby d21_0 (pc' := 1) rfl rfl rfl ?_
  refine g_iloadN X0 hx hby d21_1 (pc' := 2) rfl rfl ?_
  refine g_caload X0 hx hZ hby d21_2 (pc' := 3) rfl e0 A_c (by decide) (v := .int x0) rfl ?_
  refine g_istoreN X0 hx hby d21_3 (pc' := 4) rfl (l' := #[.val (.ref q1), .val (.int (1 : Int32)), .val (.int (0 : Int32)), .val (.int x0), .unset]) rfl ?_
  refine g_iloadN X0 hx hby d21_4 (pc' := 5) rfl rfl ?_
  refine g_if_ne X0 hx hby d21_5 (by decide) (pc' := 10) (by decide) (pn := 8) rfl (fun hc5_1 => ?_) (fun hc5_1 => ?_)
  · refine g_iloadN X0 hx hby d21_10 (pc' := 11) rfl rfl ?_
    refine g_ldcI X0 hx hZ hown hby d21_11 (pc' := 13) rfl (w_100 hw) ?_
    refine g_icmp_lt X0 hx hby d21_13 (by decide) (pc' := 22) (by decide) (pn := 16) rfl (fun hc13_2 => ?_) (fun hc13_2 => ?_)
    · refine g_iconst X0 hx hby d21_22 (pc' := 23) rfl (z := (1 : Int32)) rfl ?_
      exact g_retI (Q := (fun v h L => v = some (.int (exA x0)) ∧ Fr n0 L ∧ h = h0)) X0 hx hby d21_23 hret hlk (by decide) (by decide) ⟨congrArg (fun z : Int32 => some (Value.int z)) (by unfold exA; rw [if_neg hc5_1, if_pos hc13_2]), N0, e0⟩
    · refine g_iloadN X0 hx hby d21_16 (pc' := 17) rfl rfl ?_
      refine g_ldcI X0 hx hZ hown hby d21_17 (pc' := 19) rfl (w_101 hw) ?_
      refine g_icmp_le X0 hx hby d21_19 (by decide) (pc' := 24) (by decide) (pn := 22) rfl (fun hc19_3 => ?_) (fun hc19_3 => ?_)
      · refine g_iloadN X0 hx hby d21_24 (pc' := 25) rfl rfl ?_
        refine g_ldcI X0 hx hZ hown hby d21_25 (pc' := 27) rfl (w_6 hw) ?_
        refine g_icmp_lt X0 hx hby d21_27 (by decide) (pc' := 32) (by decide) (pn := 30) rfl (fun hc27_4 => ?_) (fun hc27_4 => ?_)
        · refine g_iloadN X0 hx hby d21_32 (pc' := 33) rfl rfl ?_
          refine g_iconst X0 hx hby d21_33 (pc' := 34) rfl (z := (1 : Int32)) rfl ?_
          refine g_iadd X0 hx hby d21_34 (pc' := 35) rfl ?_
          refine g_eqI (b := (1 : Int32)) (by decide +kernel) ?_
          refine g_iloadN X0 hx hby d21_35 (pc' := 36) rfl rfl ?_
          refine g_icmp_lt X0 hx hby d21_36 (by decide) (pc' := 41) (by decide) (pn := 39) rfl (fun z => absurd z (by decide)) (fun _ => ?_)
          refine g_iconst X0 hx hby d21_39 (pc' := 40) rfl (z := (0 : Int32)) rfl ?_
          exact g_retI (Q := (fun v h L => v = some (.int (exA x0)) ∧ Fr n0 L ∧ h = h0)) X0 hx hby d21_40 hret hlk (by decide) (by decide) ⟨congrArg (fun z : Int32 => some (Value.int z)) (by unfold exA; rw [if_neg hc5_1, if_neg hc13_2, if_neg hc19_3, if_pos hc27_4]), N0, e0⟩
        · refine g_iconst X0 hx hby d21_30 (pc' := 31) rfl (z := (0 : Int32)) rfl ?_
          exact g_retI (Q := (fun v h L => v = some (.int (exA x0)) ∧ Fr n0 L ∧ h = h0)) X0 hx hby d21_31 hret hlk (by decide) (by decide) ⟨congrArg (fun z : Int32 => some (Value.int z)) (by unfold exA; rw [if_neg hc5_1, if_neg hc13_2, if_neg hc19_3, if_neg hc27_4]), N0, e0⟩
      · refine g_iconst X0 hx hby d21_22 (pc' := 23) rfl (z := (1 : Int32)) rfl ?_
        exact g_retI (Q := (fun v h L => v = some (.int (exA x0)) ∧ Fr n0 L ∧ h = h0)) X0 hx hby d21_23 hret hlk (by decide) (by decide) ⟨congrArg (fun z : Int32 => some (Value.int z)) (by unfold exA; rw [if_neg hc5_1, if_neg hc13_2, if_pos hc19_3]), N0, e0⟩
  · refine g_iconst X0 hx hby d21_8 (pc' := 9) rfl (z := (0 : Int32)) rfl ?_
    exact g_retI (Q := (fun v h L => v = some (.int (exA x0)) ∧ Fr n0 L ∧ h = h0)) X0 hx hby d21_9 hret hlk (by decide) (by decide) ⟨congrArg (fun z : Int32 => some (Value.int z)) (by unfold exA; rw [if_pos hc5_1]), N0, e0⟩
theorem ef_rmEX2_0 (q1 : Addr) (m : MethodId) : entryFrame m #[.ref q1, .int (2 : Int32), .int (0 : Int32)] 5 = mkF m 0 #[.val (.ref q1), .val (.int (2 : Int32)), .val (.int (0 : Int32)), .unset, .unset] [] := by
  first | (simp [entryFrame, mkF, argsToLocals, Value.category]; done) | rfl
set_option maxRecDepth 65536 in
set_option maxHeartbeats 40000000 in
theorem rmEX2_0 (l : Launch) (Z : State) (a0 : Array Value) (hw : ∀ d ∈ tables_1, d.before a0 Z = true) (ws : List Jvm.Cond) (q1 : Addr) (h0 : Heap) (n0 : Nat) (x0 x1 : Int32) (kc : ClassId) (A_c : Arv Z h0 q1 kc .char (2 : Int32) [.int x0, .int x1] (.int 0)) :
    Ctr l Z ({ cls := "com/example/libonce/libonce/StorableTextKeptLengthPinLaw", name := "expected", desc := "([CII)I" } : Jvm.MethodName) method_4_code 5 (some .int) ws ({ frames := 0, cells := 0, slots := 0, locals := 0 } : Room) #[.ref q1, .int (2 : Int32), .int (0 : Int32)] h0 (fun v h L => v = some (.int (exB x0 x1)) ∧ Fr n0 L ∧ h = h0) := by
  refine Ctr.enter (Ls := #[.val (.ref q1), .val (.int (2 : Int32)), .val (.int (0 : Int32)), .unset, .unset]) (by decide +kernel) (fun m => ef_rmEX2_0 q1 m) ?_
  intro p e s m below meth c T hx hby hml hown hnm hret hlk hZ hh X0 e0
  have N0 := Fr.nil n0
  refine g_aloadN X0 hx hby d21_0 (pc' := 1) rfl rfl rfl ?_
  refine g_iloadN X0 hx hby d21_1 (pc' := 2) rfl rfl ?_
  refine g_caload X0 hx hZ hby d21_2 (pc' := 3) rfl e0 A_c (by decide) (v := .int x0) rfl ?_
  refine g_istoreN X0 hx hby d21_3 (pc' := 4) rfl (l' := #[.val (.ref q1), .val (.int (2 : Int32)), .val (.int (0 : Int32)), .val (.int x0), .unset]) rfl ?_
  refine g_iloadN X0 hx hby d21_4 (pc' := 5) rfl rfl ?_
  refine g_if_ne X0 hx hby d21_5 (by decide) (pc' := 10) (by decide) (pn := 8) rfl (fun hc5_1 => ?_) (fun hc5_1 => ?_)
  · refine g_iloadN X0 hx hby d21_10 (pc' := 11) rfl rfl ?_
    refine g_ldcI X0 hx hZ hown hby d21_11 (pc' := 13) rfl (w_100 hw) ?_
    refine g_icmp_lt X0 hx hby d21_13 (by decide) (pc' := 22) (by decide) (pn := 16) rfl (fun hc13_2 => ?_) (fun hc13_2 => ?_)
    · refine g_iconst X0 hx hby d21_22 (pc' := 23) rfl (z := (1 : Int32)) rfl ?_
      exact g_retI (Q := (fun v h L => v = some (.int (exB x0 x1)) ∧ Fr n0 L ∧ h = h0)) X0 hx hby d21_23 hret hlk (by decide) (by decide) ⟨congrArg (fun z : Int32 => some (Value.int z)) (by unfold exB; rw [if_neg hc5_1, if_pos hc13_2]), N0, e0⟩
    · refine g_iloadN X0 hx hby d21_16 (pc' := 17) rfl rfl ?_
      refine g_ldcI X0 hx hZ hown hby d21_17 (pc' := 19) rfl (w_101 hw) ?_
      refine g_icmp_le X0 hx hby d21_19 (by decide) (pc' := 24) (by decide) (pn := 22) rfl (fun hc19_3 => ?_) (fun hc19_3 => ?_)
      · refine g_iloadN X0 hx hby d21_24 (pc' := 25) rfl rfl ?_
        refine g_ldcI X0 hx hZ hown hby d21_25 (pc' := 27) rfl (w_6 hw) ?_
        refine g_icmp_lt X0 hx hby d21_27 (by decide) (pc' := 32) (by decide) (pn := 30) rfl (fun hc27_4 => ?_) (fun hc27_4 => ?_)
        · refine g_iloadN X0 hx hby d21_32 (pc' := 33) rfl rfl ?_
          refine g_iconst X0 hx hby d21_33 (pc' := 34) rfl (z := (1 : Int32)) rfl ?_
          refine g_iadd X0 hx hby d21_34 (pc' := 35) rfl ?_
          refine g_eqI (b := (1 : Int32)) (by decide +kernel) ?_
          refine g_iloadN X0 hx hby d21_35 (pc' := 36) rfl rfl ?_
          refine g_icmp_lt X0 hx hby d21_36 (by decide) (pc' := 41) (by decide) (pn := 39) rfl (fun _ => ?_) (fun z => absurd z (by decide))
          refine g_aloadN X0 hx hby d21_41 (pc' := 42) rfl rfl rfl ?_
          refine g_iloadN X0 hx hby d21_42 (pc' := 43) rfl rfl ?_
          refine g_iconst X0 hx hby d21_43 (pc' := 44) rfl (z := (1 : Int32)) rfl ?_
          refine g_iadd X0 hx hby d21_44 (pc' := 45) rfl ?_
          refine g_eqI (b := (1 : Int32)) (by decide +kernel) ?_
          refine g_caload X0 hx hZ hby d21_45 (pc' := 46) rfl e0 A_c (by decide) (v := .int x1) rfl ?_
          refine g_istore X0 hx hby d21_46 (pc' := 48) rfl (l' := #[.val (.ref q1), .val (.int (2 : Int32)), .val (.int (0 : Int32)), .val (.int x0), .val (.int x1)]) rfl ?_
          refine g_iload X0 hx hby d21_48 (pc' := 50) rfl rfl ?_
          refine g_ldcI X0 hx hZ hown hby d21_50 (pc' := 52) rfl (w_6 hw) ?_
          refine g_icmp_lt X0 hx hby d21_52 (by decide) (pc' := 64) (by decide) (pn := 55) rfl (fun hc52_5 => ?_) (fun hc52_5 => ?_)
          · refine g_iconst X0 hx hby d21_64 (pc' := 65) rfl (z := (0 : Int32)) rfl ?_
            exact g_retI (Q := (fun v h L => v = some (.int (exB x0 x1)) ∧ Fr n0 L ∧ h = h0)) X0 hx hby d21_65 hret hlk (by decide) (by decide) ⟨congrArg (fun z : Int32 => some (Value.int z)) (by unfold exB; rw [if_neg hc5_1, if_neg hc13_2, if_neg hc19_3, if_pos hc27_4, if_pos hc52_5]), N0, e0⟩
          · refine g_iload X0 hx hby d21_55 (pc' := 57) rfl rfl ?_
            refine g_ldcI X0 hx hZ hown hby d21_57 (pc' := 59) rfl (w_101 hw) ?_
            refine g_icmp_gt X0 hx hby d21_59 (by decide) (pc' := 64) (by decide) (pn := 62) rfl (fun hc59_6 => ?_) (fun hc59_6 => ?_)
            · refine g_iconst X0 hx hby d21_64 (pc' := 65) rfl (z := (0 : Int32)) rfl ?_
              exact g_retI (Q := (fun v h L => v = some (.int (exB x0 x1)) ∧ Fr n0 L ∧ h = h0)) X0 hx hby d21_65 hret hlk (by decide) (by decide) ⟨congrArg (fun z : Int32 => some (Value.int z)) (by unfold exB; rw [if_neg hc5_1, if_neg hc13_2, if_neg hc19_3, if_pos hc27_4, if_neg hc52_5, if_pos hc59_6]), N0, e0⟩
            · refine g_iconst X0 hx hby d21_62 (pc' := 63) rfl (z := (2 : Int32)) rfl ?_
              exact g_retI (Q := (fun v h L => v = some (.int (exB x0 x1)) ∧ Fr n0 L ∧ h = h0)) X0 hx hby d21_63 hret hlk (by decide) (by decide) ⟨congrArg (fun z : Int32 => some (Value.int z)) (by unfold exB; rw [if_neg hc5_1, if_neg hc13_2, if_neg hc19_3, if_pos hc27_4, if_neg hc52_5, if_neg hc59_6]), N0, e0⟩
        · refine g_iconst X0 hx hby d21_30 (pc' := 31) rfl (z := (0 : Int32)) rfl ?_
          exact g_retI (Q := (fun v h L => v = some (.int (exB x0 x1)) ∧ Fr n0 L ∧ h = h0)) X0 hx hby d21_31 hret hlk (by decide) (by decide) ⟨congrArg (fun z : Int32 => some (Value.int z)) (by unfold exB; rw [if_neg hc5_1, if_neg hc13_2, if_neg hc19_3, if_neg hc27_4]), N0, e0⟩
      · refine g_iconst X0 hx hby d21_22 (pc' := 23) rfl (z := (1 : Int32)) rfl ?_
        exact g_retI (Q := (fun v h L => v = some (.int (exB x0 x1)) ∧ Fr n0 L ∧ h = h0)) X0 hx hby d21_23 hret hlk (by decide) (by decide) ⟨congrArg (fun z : Int32 => some (Value.int z)) (by unfold exB; rw [if_neg hc5_1, if_neg hc13_2, if_pos hc19_3]), N0, e0⟩
  · refine g_iconst X0 hx hby d21_8 (pc' := 9) rfl (z := (0 : Int32)) rfl ?_
    exact g_retI (Q := (fun v h L => v = some (.int (exB x0 x1)) ∧ Fr n0 L ∧ h = h0)) X0 hx hby d21_9 hret hlk (by decide) (by decide) ⟨congrArg (fun z : Int32 => some (Value.int z)) (by unfold exB; rw [if_pos hc5_1]), N0, e0⟩
theorem ef_rmEX2_1 (q1 : Addr) (m : MethodId) : entryFrame m #[.ref q1, .int (2 : Int32), .int (1 : Int32)] 5 = mkF m 0 #[.val (.ref q1), .val (.int (2 : Int32)), .val (.int (1 : Int32)), .unset, .unset] [] := by
  first | (simp [entryFrame, mkF, argsToLocals, Value.category]; done) | rfl
set_option maxRecDepth 65536 in
set_option maxHeartbeats 40000000 in
theorem rmEX2_1 (l : Launch) (Z : State) (a0 : Array Value) (hw : ∀ d ∈ tables_1, d.before a0 Z = true) (ws : List Jvm.Cond) (q1 : Addr) (h0 : Heap) (n0 : Nat) (x0 x1 : Int32) (kc : ClassId) (A_c : Arv Z h0 q1 kc .char (2 : Int32) [.int x0, .int x1] (.int 0)) :
    Ctr l Z ({ cls := "com/example/libonce/libonce/StorableTextKeptLengthPinLaw", name := "expected", desc := "([CII)I" } : Jvm.MethodName) method_4_code 5 (some .int) ws ({ frames := 0, cells := 0, slots := 0, locals := 0 } : Room) #[.ref q1, .int (2 : Int32), .int (1 : Int32)] h0 (fun v h L => v = some (.int (exA x1)) ∧ Fr n0 L ∧ h = h0) := by
  refine Ctr.enter (Ls := #[.val (.ref q1), .val (.int (2 : Int32)), .val (.int (1 : Int32)), .unset, .unset]) (by decide +kernel) (fun m => ef_rmEX2_1 q1 m) ?_
  intro p e s m below meth c T hx hby hml hown hnm hret hlk hZ hh X0 e0
  have N0 := Fr.nil n0
  refine g_aloadN X0 hx hby d21_0 (pc' := 1) rfl rfl rfl ?_
  refine g_iloadN X0 hx hby d21_1 (pc' := 2) rfl rfl ?_
  refine g_caload X0 hx hZ hby d21_2 (pc' := 3) rfl e0 A_c (by decide) (v := .int x1) rfl ?_
  refine g_istoreN X0 hx hby d21_3 (pc' := 4) rfl (l' := #[.val (.ref q1), .val (.int (2 : Int32)), .val (.int (1 : Int32)), .val (.int x1), .unset]) rfl ?_
  refine g_iloadN X0 hx hby d21_4 (pc' := 5) rfl rfl ?_
  refine g_if_ne X0 hx hby d21_5 (by decide) (pc' := 10) (by decide) (pn := 8) rfl (fun hc5_1 => ?_) (fun hc5_1 => ?_)
  · refine g_iloadN X0 hx hby d21_10 (pc' := 11) rfl rfl ?_
    refine g_ldcI X0 hx hZ hown hby d21_11 (pc' := 13) rfl (w_100 hw) ?_
    refine g_icmp_lt X0 hx hby d21_13 (by decide) (pc' := 22) (by decide) (pn := 16) rfl (fun hc13_2 => ?_) (fun hc13_2 => ?_)
    · refine g_iconst X0 hx hby d21_22 (pc' := 23) rfl (z := (1 : Int32)) rfl ?_
      exact g_retI (Q := (fun v h L => v = some (.int (exA x1)) ∧ Fr n0 L ∧ h = h0)) X0 hx hby d21_23 hret hlk (by decide) (by decide) ⟨congrArg (fun z : Int32 => some (Value.int z)) (by unfold exA; rw [if_neg hc5_1, if_pos hc13_2]), N0, e0⟩
    · refine g_iloadN X0 hx hby d21_16 (pc' := 17) rfl rfl ?_
      refine g_ldcI X0 hx hZ hown hby d21_17 (pc' := 19) rfl (w_101 hw) ?_
      refine g_icmp_le X0 hx hby d21_19 (by decide) (pc' := 24) (by decide) (pn := 22) rfl (fun hc19_3 => ?_) (fun hc19_3 => ?_)
      · refine g_iloadN X0 hx hby d21_24 (pc' := 25) rfl rfl ?_
        refine g_ldcI X0 hx hZ hown hby d21_25 (pc' := 27) rfl (w_6 hw) ?_
        refine g_icmp_lt X0 hx hby d21_27 (by decide) (pc' := 32) (by decide) (pn := 30) rfl (fun hc27_4 => ?_) (fun hc27_4 => ?_)
        · refine g_iloadN X0 hx hby d21_32 (pc' := 33) rfl rfl ?_
          refine g_iconst X0 hx hby d21_33 (pc' := 34) rfl (z := (1 : Int32)) rfl ?_
          refine g_iadd X0 hx hby d21_34 (pc' := 35) rfl ?_
          refine g_eqI (b := (2 : Int32)) (by decide +kernel) ?_
          refine g_iloadN X0 hx hby d21_35 (pc' := 36) rfl rfl ?_
          refine g_icmp_lt X0 hx hby d21_36 (by decide) (pc' := 41) (by decide) (pn := 39) rfl (fun z => absurd z (by decide)) (fun _ => ?_)
          refine g_iconst X0 hx hby d21_39 (pc' := 40) rfl (z := (0 : Int32)) rfl ?_
          exact g_retI (Q := (fun v h L => v = some (.int (exA x1)) ∧ Fr n0 L ∧ h = h0)) X0 hx hby d21_40 hret hlk (by decide) (by decide) ⟨congrArg (fun z : Int32 => some (Value.int z)) (by unfold exA; rw [if_neg hc5_1, if_neg hc13_2, if_neg hc19_3, if_pos hc27_4]), N0, e0⟩
        · refine g_iconst X0 hx hby d21_30 (pc' := 31) rfl (z := (0 : Int32)) rfl ?_
          exact g_retI (Q := (fun v h L => v = some (.int (exA x1)) ∧ Fr n0 L ∧ h = h0)) X0 hx hby d21_31 hret hlk (by decide) (by decide) ⟨congrArg (fun z : Int32 => some (Value.int z)) (by unfold exA; rw [if_neg hc5_1, if_neg hc13_2, if_neg hc19_3, if_neg hc27_4]), N0, e0⟩
      · refine g_iconst X0 hx hby d21_22 (pc' := 23) rfl (z := (1 : Int32)) rfl ?_
        exact g_retI (Q := (fun v h L => v = some (.int (exA x1)) ∧ Fr n0 L ∧ h = h0)) X0 hx hby d21_23 hret hlk (by decide) (by decide) ⟨congrArg (fun z : Int32 => some (Value.int z)) (by unfold exA; rw [if_neg hc5_1, if_neg hc13_2, if_pos hc19_3]), N0, e0⟩
  · refine g_iconst X0 hx hby d21_8 (pc' := 9) rfl (z := (0 : Int32)) rfl ?_
    exact g_retI (Q := (fun v h L => v = some (.int (exA x1)) ∧ Fr n0 L ∧ h = h0)) X0 hx hby d21_9 hret hlk (by decide) (by decide) ⟨congrArg (fun z : Int32 => some (Value.int z)) (by unfold exA; rw [if_pos hc5_1]), N0, e0⟩
theorem ef_rmEX3_0 (q1 : Addr) (m : MethodId) : entryFrame m #[.ref q1, .int (3 : Int32), .int (0 : Int32)] 5 = mkF m 0 #[.val (.ref q1), .val (.int (3 : Int32)), .val (.int (0 : Int32)), .unset, .unset] [] := by
  first | (simp [entryFrame, mkF, argsToLocals, Value.category]; done) | rfl
set_option maxRecDepth 65536 in
set_option maxHeartbeats 40000000 in
theorem rmEX3_0 (l : Launch) (Z : State) (a0 : Array Value) (hw : ∀ d ∈ tables_1, d.before a0 Z = true) (ws : List Jvm.Cond) (q1 : Addr) (h0 : Heap) (n0 : Nat) (x0 x1 x2 : Int32) (kc : ClassId) (A_c : Arv Z h0 q1 kc .char (3 : Int32) [.int x0, .int x1, .int x2] (.int 0)) :
    Ctr l Z ({ cls := "com/example/libonce/libonce/StorableTextKeptLengthPinLaw", name := "expected", desc := "([CII)I" } : Jvm.MethodName) method_4_code 5 (some .int) ws ({ frames := 0, cells := 0, slots := 0, locals := 0 } : Room) #[.ref q1, .int (3 : Int32), .int (0 : Int32)] h0 (fun v h L => v = some (.int (exB x0 x1)) ∧ Fr n0 L ∧ h = h0) := by
  refine Ctr.enter (Ls := #[.val (.ref q1), .val (.int (3 : Int32)), .val (.int (0 : Int32)), .unset, .unset]) (by decide +kernel) (fun m => ef_rmEX3_0 q1 m) ?_
  intro p e s m below meth c T hx hby hml hown hnm hret hlk hZ hh X0 e0
  have N0 := Fr.nil n0
  refine g_aloadN X0 hx hby d21_0 (pc' := 1) rfl rfl rfl ?_
  refine g_iloadN X0 hx hby d21_1 (pc' := 2) rfl rfl ?_
  refine g_caload X0 hx hZ hby d21_2 (pc' := 3) rfl e0 A_c (by decide) (v := .int x0) rfl ?_
  refine g_istoreN X0 hx hby d21_3 (pc' := 4) rfl (l' := #[.val (.ref q1), .val (.int (3 : Int32)), .val (.int (0 : Int32)), .val (.int x0), .unset]) rfl ?_
  refine g_iloadN X0 hx hby d21_4 (pc' := 5) rfl rfl ?_
  refine g_if_ne X0 hx hby d21_5 (by decide) (pc' := 10) (by decide) (pn := 8) rfl (fun hc5_1 => ?_) (fun hc5_1 => ?_)
  · refine g_iloadN X0 hx hby d21_10 (pc' := 11) rfl rfl ?_
    refine g_ldcI X0 hx hZ hown hby d21_11 (pc' := 13) rfl (w_100 hw) ?_
    refine g_icmp_lt X0 hx hby d21_13 (by decide) (pc' := 22) (by decide) (pn := 16) rfl (fun hc13_2 => ?_) (fun hc13_2 => ?_)
    · refine g_iconst X0 hx hby d21_22 (pc' := 23) rfl (z := (1 : Int32)) rfl ?_
      exact g_retI (Q := (fun v h L => v = some (.int (exB x0 x1)) ∧ Fr n0 L ∧ h = h0)) X0 hx hby d21_23 hret hlk (by decide) (by decide) ⟨congrArg (fun z : Int32 => some (Value.int z)) (by unfold exB; rw [if_neg hc5_1, if_pos hc13_2]), N0, e0⟩
    · refine g_iloadN X0 hx hby d21_16 (pc' := 17) rfl rfl ?_
      refine g_ldcI X0 hx hZ hown hby d21_17 (pc' := 19) rfl (w_101 hw) ?_
      refine g_icmp_le X0 hx hby d21_19 (by decide) (pc' := 24) (by decide) (pn := 22) rfl (fun hc19_3 => ?_) (fun hc19_3 => ?_)
      · refine g_iloadN X0 hx hby d21_24 (pc' := 25) rfl rfl ?_
        refine g_ldcI X0 hx hZ hown hby d21_25 (pc' := 27) rfl (w_6 hw) ?_
        refine g_icmp_lt X0 hx hby d21_27 (by decide) (pc' := 32) (by decide) (pn := 30) rfl (fun hc27_4 => ?_) (fun hc27_4 => ?_)
        · refine g_iloadN X0 hx hby d21_32 (pc' := 33) rfl rfl ?_
          refine g_iconst X0 hx hby d21_33 (pc' := 34) rfl (z := (1 : Int32)) rfl ?_
          refine g_iadd X0 hx hby d21_34 (pc' := 35) rfl ?_
          refine g_eqI (b := (1 : Int32)) (by decide +kernel) ?_
          refine g_iloadN X0 hx hby d21_35 (pc' := 36) rfl rfl ?_
          refine g_icmp_lt X0 hx hby d21_36 (by decide) (pc' := 41) (by decide) (pn := 39) rfl (fun _ => ?_) (fun z => absurd z (by decide))
          refine g_aloadN X0 hx hby d21_41 (pc' := 42) rfl rfl rfl ?_
          refine g_iloadN X0 hx hby d21_42 (pc' := 43) rfl rfl ?_
          refine g_iconst X0 hx hby d21_43 (pc' := 44) rfl (z := (1 : Int32)) rfl ?_
          refine g_iadd X0 hx hby d21_44 (pc' := 45) rfl ?_
          refine g_eqI (b := (1 : Int32)) (by decide +kernel) ?_
          refine g_caload X0 hx hZ hby d21_45 (pc' := 46) rfl e0 A_c (by decide) (v := .int x1) rfl ?_
          refine g_istore X0 hx hby d21_46 (pc' := 48) rfl (l' := #[.val (.ref q1), .val (.int (3 : Int32)), .val (.int (0 : Int32)), .val (.int x0), .val (.int x1)]) rfl ?_
          refine g_iload X0 hx hby d21_48 (pc' := 50) rfl rfl ?_
          refine g_ldcI X0 hx hZ hown hby d21_50 (pc' := 52) rfl (w_6 hw) ?_
          refine g_icmp_lt X0 hx hby d21_52 (by decide) (pc' := 64) (by decide) (pn := 55) rfl (fun hc52_5 => ?_) (fun hc52_5 => ?_)
          · refine g_iconst X0 hx hby d21_64 (pc' := 65) rfl (z := (0 : Int32)) rfl ?_
            exact g_retI (Q := (fun v h L => v = some (.int (exB x0 x1)) ∧ Fr n0 L ∧ h = h0)) X0 hx hby d21_65 hret hlk (by decide) (by decide) ⟨congrArg (fun z : Int32 => some (Value.int z)) (by unfold exB; rw [if_neg hc5_1, if_neg hc13_2, if_neg hc19_3, if_pos hc27_4, if_pos hc52_5]), N0, e0⟩
          · refine g_iload X0 hx hby d21_55 (pc' := 57) rfl rfl ?_
            refine g_ldcI X0 hx hZ hown hby d21_57 (pc' := 59) rfl (w_101 hw) ?_
            refine g_icmp_gt X0 hx hby d21_59 (by decide) (pc' := 64) (by decide) (pn := 62) rfl (fun hc59_6 => ?_) (fun hc59_6 => ?_)
            · refine g_iconst X0 hx hby d21_64 (pc' := 65) rfl (z := (0 : Int32)) rfl ?_
              exact g_retI (Q := (fun v h L => v = some (.int (exB x0 x1)) ∧ Fr n0 L ∧ h = h0)) X0 hx hby d21_65 hret hlk (by decide) (by decide) ⟨congrArg (fun z : Int32 => some (Value.int z)) (by unfold exB; rw [if_neg hc5_1, if_neg hc13_2, if_neg hc19_3, if_pos hc27_4, if_neg hc52_5, if_pos hc59_6]), N0, e0⟩
            · refine g_iconst X0 hx hby d21_62 (pc' := 63) rfl (z := (2 : Int32)) rfl ?_
              exact g_retI (Q := (fun v h L => v = some (.int (exB x0 x1)) ∧ Fr n0 L ∧ h = h0)) X0 hx hby d21_63 hret hlk (by decide) (by decide) ⟨congrArg (fun z : Int32 => some (Value.int z)) (by unfold exB; rw [if_neg hc5_1, if_neg hc13_2, if_neg hc19_3, if_pos hc27_4, if_neg hc52_5, if_neg hc59_6]), N0, e0⟩
        · refine g_iconst X0 hx hby d21_30 (pc' := 31) rfl (z := (0 : Int32)) rfl ?_
          exact g_retI (Q := (fun v h L => v = some (.int (exB x0 x1)) ∧ Fr n0 L ∧ h = h0)) X0 hx hby d21_31 hret hlk (by decide) (by decide) ⟨congrArg (fun z : Int32 => some (Value.int z)) (by unfold exB; rw [if_neg hc5_1, if_neg hc13_2, if_neg hc19_3, if_neg hc27_4]), N0, e0⟩
      · refine g_iconst X0 hx hby d21_22 (pc' := 23) rfl (z := (1 : Int32)) rfl ?_
        exact g_retI (Q := (fun v h L => v = some (.int (exB x0 x1)) ∧ Fr n0 L ∧ h = h0)) X0 hx hby d21_23 hret hlk (by decide) (by decide) ⟨congrArg (fun z : Int32 => some (Value.int z)) (by unfold exB; rw [if_neg hc5_1, if_neg hc13_2, if_pos hc19_3]), N0, e0⟩
  · refine g_iconst X0 hx hby d21_8 (pc' := 9) rfl (z := (0 : Int32)) rfl ?_
    exact g_retI (Q := (fun v h L => v = some (.int (exB x0 x1)) ∧ Fr n0 L ∧ h = h0)) X0 hx hby d21_9 hret hlk (by decide) (by decide) ⟨congrArg (fun z : Int32 => some (Value.int z)) (by unfold exB; rw [if_pos hc5_1]), N0, e0⟩
theorem ef_rmEX3_1 (q1 : Addr) (m : MethodId) : entryFrame m #[.ref q1, .int (3 : Int32), .int (1 : Int32)] 5 = mkF m 0 #[.val (.ref q1), .val (.int (3 : Int32)), .val (.int (1 : Int32)), .unset, .unset] [] := by
  first | (simp [entryFrame, mkF, argsToLocals, Value.category]; done) | rfl
set_option maxRecDepth 65536 in
set_option maxHeartbeats 40000000 in
theorem rmEX3_1 (l : Launch) (Z : State) (a0 : Array Value) (hw : ∀ d ∈ tables_1, d.before a0 Z = true) (ws : List Jvm.Cond) (q1 : Addr) (h0 : Heap) (n0 : Nat) (x0 x1 x2 : Int32) (kc : ClassId) (A_c : Arv Z h0 q1 kc .char (3 : Int32) [.int x0, .int x1, .int x2] (.int 0)) :
    Ctr l Z ({ cls := "com/example/libonce/libonce/StorableTextKeptLengthPinLaw", name := "expected", desc := "([CII)I" } : Jvm.MethodName) method_4_code 5 (some .int) ws ({ frames := 0, cells := 0, slots := 0, locals := 0 } : Room) #[.ref q1, .int (3 : Int32), .int (1 : Int32)] h0 (fun v h L => v = some (.int (exB x1 x2)) ∧ Fr n0 L ∧ h = h0) := by
  refine Ctr.enter (Ls := #[.val (.ref q1), .val (.int (3 : Int32)), .val (.int (1 : Int32)), .unset, .unset]) (by decide +kernel) (fun m => ef_rmEX3_1 q1 m) ?_
  intro p e s m below meth c T hx hby hml hown hnm hret hlk hZ hh X0 e0
  have N0 := Fr.nil n0
  refine g_aloadN X0 hx hby d21_0 (pc' := 1) rfl rfl rfl ?_
  refine g_iloadN X0 hx hby d21_1 (pc' := 2) rfl rfl ?_
  refine g_caload X0 hx hZ hby d21_2 (pc' := 3) rfl e0 A_c (by decide) (v := .int x1) rfl ?_
  refine g_istoreN X0 hx hby d21_3 (pc' := 4) rfl (l' := #[.val (.ref q1), .val (.int (3 : Int32)), .val (.int (1 : Int32)), .val (.int x1), .unset]) rfl ?_
  refine g_iloadN X0 hx hby d21_4 (pc' := 5) rfl rfl ?_
  refine g_if_ne X0 hx hby d21_5 (by decide) (pc' := 10) (by decide) (pn := 8) rfl (fun hc5_1 => ?_) (fun hc5_1 => ?_)
  · refine g_iloadN X0 hx hby d21_10 (pc' := 11) rfl rfl ?_
    refine g_ldcI X0 hx hZ hown hby d21_11 (pc' := 13) rfl (w_100 hw) ?_
    refine g_icmp_lt X0 hx hby d21_13 (by decide) (pc' := 22) (by decide) (pn := 16) rfl (fun hc13_2 => ?_) (fun hc13_2 => ?_)
    · refine g_iconst X0 hx hby d21_22 (pc' := 23) rfl (z := (1 : Int32)) rfl ?_
      exact g_retI (Q := (fun v h L => v = some (.int (exB x1 x2)) ∧ Fr n0 L ∧ h = h0)) X0 hx hby d21_23 hret hlk (by decide) (by decide) ⟨congrArg (fun z : Int32 => some (Value.int z)) (by unfold exB; rw [if_neg hc5_1, if_pos hc13_2]), N0, e0⟩
    · refine g_iloadN X0 hx hby d21_16 (pc' := 17) rfl rfl ?_
      refine g_ldcI X0 hx hZ hown hby d21_17 (pc' := 19) rfl (w_101 hw) ?_
      refine g_icmp_le X0 hx hby d21_19 (by decide) (pc' := 24) (by decide) (pn := 22) rfl (fun hc19_3 => ?_) (fun hc19_3 => ?_)
      · refine g_iloadN X0 hx hby d21_24 (pc' := 25) rfl rfl ?_
        refine g_ldcI X0 hx hZ hown hby d21_25 (pc' := 27) rfl (w_6 hw) ?_
        refine g_icmp_lt X0 hx hby d21_27 (by decide) (pc' := 32) (by decide) (pn := 30) rfl (fun hc27_4 => ?_) (fun hc27_4 => ?_)
        · refine g_iloadN X0 hx hby d21_32 (pc' := 33) rfl rfl ?_
          refine g_iconst X0 hx hby d21_33 (pc' := 34) rfl (z := (1 : Int32)) rfl ?_
          refine g_iadd X0 hx hby d21_34 (pc' := 35) rfl ?_
          refine g_eqI (b := (2 : Int32)) (by decide +kernel) ?_
          refine g_iloadN X0 hx hby d21_35 (pc' := 36) rfl rfl ?_
          refine g_icmp_lt X0 hx hby d21_36 (by decide) (pc' := 41) (by decide) (pn := 39) rfl (fun _ => ?_) (fun z => absurd z (by decide))
          refine g_aloadN X0 hx hby d21_41 (pc' := 42) rfl rfl rfl ?_
          refine g_iloadN X0 hx hby d21_42 (pc' := 43) rfl rfl ?_
          refine g_iconst X0 hx hby d21_43 (pc' := 44) rfl (z := (1 : Int32)) rfl ?_
          refine g_iadd X0 hx hby d21_44 (pc' := 45) rfl ?_
          refine g_eqI (b := (2 : Int32)) (by decide +kernel) ?_
          refine g_caload X0 hx hZ hby d21_45 (pc' := 46) rfl e0 A_c (by decide) (v := .int x2) rfl ?_
          refine g_istore X0 hx hby d21_46 (pc' := 48) rfl (l' := #[.val (.ref q1), .val (.int (3 : Int32)), .val (.int (1 : Int32)), .val (.int x1), .val (.int x2)]) rfl ?_
          refine g_iload X0 hx hby d21_48 (pc' := 50) rfl rfl ?_
          refine g_ldcI X0 hx hZ hown hby d21_50 (pc' := 52) rfl (w_6 hw) ?_
          refine g_icmp_lt X0 hx hby d21_52 (by decide) (pc' := 64) (by decide) (pn := 55) rfl (fun hc52_5 => ?_) (fun hc52_5 => ?_)
          · refine g_iconst X0 hx hby d21_64 (pc' := 65) rfl (z := (0 : Int32)) rfl ?_
            exact g_retI (Q := (fun v h L => v = some (.int (exB x1 x2)) ∧ Fr n0 L ∧ h = h0)) X0 hx hby d21_65 hret hlk (by decide) (by decide) ⟨congrArg (fun z : Int32 => some (Value.int z)) (by unfold exB; rw [if_neg hc5_1, if_neg hc13_2, if_neg hc19_3, if_pos hc27_4, if_pos hc52_5]), N0, e0⟩
          · refine g_iload X0 hx hby d21_55 (pc' := 57) rfl rfl ?_
            refine g_ldcI X0 hx hZ hown hby d21_57 (pc' := 59) rfl (w_101 hw) ?_
            refine g_icmp_gt X0 hx hby d21_59 (by decide) (pc' := 64) (by decide) (pn := 62) rfl (fun hc59_6 => ?_) (fun hc59_6 => ?_)
            · refine g_iconst X0 hx hby d21_64 (pc' := 65) rfl (z := (0 : Int32)) rfl ?_
              exact g_retI (Q := (fun v h L => v = some (.int (exB x1 x2)) ∧ Fr n0 L ∧ h = h0)) X0 hx hby d21_65 hret hlk (by decide) (by decide) ⟨congrArg (fun z : Int32 => some (Value.int z)) (by unfold exB; rw [if_neg hc5_1, if_neg hc13_2, if_neg hc19_3, if_pos hc27_4, if_neg hc52_5, if_pos hc59_6]), N0, e0⟩
            · refine g_iconst X0 hx hby d21_62 (pc' := 63) rfl (z := (2 : Int32)) rfl ?_
              exact g_retI (Q := (fun v h L => v = some (.int (exB x1 x2)) ∧ Fr n0 L ∧ h = h0)) X0 hx hby d21_63 hret hlk (by decide) (by decide) ⟨congrArg (fun z : Int32 => some (Value.int z)) (by unfold exB; rw [if_neg hc5_1, if_neg hc13_2, if_neg hc19_3, if_pos hc27_4, if_neg hc52_5, if_neg hc59_6]), N0, e0⟩
        · refine g_iconst X0 hx hby d21_30 (pc' := 31) rfl (z := (0 : Int32)) rfl ?_
          exact g_retI (Q := (fun v h L => v = some (.int (exB x1 x2)) ∧ Fr n0 L ∧ h = h0)) X0 hx hby d21_31 hret hlk (by decide) (by decide) ⟨congrArg (fun z : Int32 => some (Value.int z)) (by unfold exB; rw [if_neg hc5_1, if_neg hc13_2, if_neg hc19_3, if_neg hc27_4]), N0, e0⟩
      · refine g_iconst X0 hx hby d21_22 (pc' := 23) rfl (z := (1 : Int32)) rfl ?_
        exact g_retI (Q := (fun v h L => v = some (.int (exB x1 x2)) ∧ Fr n0 L ∧ h = h0)) X0 hx hby d21_23 hret hlk (by decide) (by decide) ⟨congrArg (fun z : Int32 => some (Value.int z)) (by unfold exB; rw [if_neg hc5_1, if_neg hc13_2, if_pos hc19_3]), N0, e0⟩
  · refine g_iconst X0 hx hby d21_8 (pc' := 9) rfl (z := (0 : Int32)) rfl ?_
    exact g_retI (Q := (fun v h L => v = some (.int (exB x1 x2)) ∧ Fr n0 L ∧ h = h0)) X0 hx hby d21_9 hret hlk (by decide) (by decide) ⟨congrArg (fun z : Int32 => some (Value.int z)) (by unfold exB; rw [if_pos hc5_1]), N0, e0⟩
theorem ef_rmEX3_2 (q1 : Addr) (m : MethodId) : entryFrame m #[.ref q1, .int (3 : Int32), .int (2 : Int32)] 5 = mkF m 0 #[.val (.ref q1), .val (.int (3 : Int32)), .val (.int (2 : Int32)), .unset, .unset] [] := by
  first | (simp [entryFrame, mkF, argsToLocals, Value.category]; done) | rfl
set_option maxRecDepth 65536 in
set_option maxHeartbeats 40000000 in
theorem rmEX3_2 (l : Launch) (Z : State) (a0 : Array Value) (hw : ∀ d ∈ tables_1, d.before a0 Z = true) (ws : List Jvm.Cond) (q1 : Addr) (h0 : Heap) (n0 : Nat) (x0 x1 x2 : Int32) (kc : ClassId) (A_c : Arv Z h0 q1 kc .char (3 : Int32) [.int x0, .int x1, .int x2] (.int 0)) :
    Ctr l Z ({ cls := "com/example/libonce/libonce/StorableTextKeptLengthPinLaw", name := "expected", desc := "([CII)I" } : Jvm.MethodName) method_4_code 5 (some .int) ws ({ frames := 0, cells := 0, slots := 0, locals := 0 } : Room) #[.ref q1, .int (3 : Int32), .int (2 : Int32)] h0 (fun v h L => v = some (.int (exA x2)) ∧ Fr n0 L ∧ h = h0) := by
  refine Ctr.enter (Ls := #[.val (.ref q1), .val (.int (3 : Int32)), .val (.int (2 : Int32)), .unset, .unset]) (by decide +kernel) (fun m => ef_rmEX3_2 q1 m) ?_
  intro p e s m below meth c T hx hby hml hown hnm hret hlk hZ hh X0 e0
  have N0 := Fr.nil n0
  refine g_aloadN X0 hx hby d21_0 (pc' := 1) rfl rfl rfl ?_
  refine g_iloadN X0 hx hby d21_1 (pc' := 2) rfl rfl ?_
  refine g_caload X0 hx hZ hby d21_2 (pc' := 3) rfl e0 A_c (by decide) (v := .int x2) rfl ?_
  refine g_istoreN X0 hx hby d21_3 (pc' := 4) rfl (l' := #[.val (.ref q1), .val (.int (3 : Int32)), .val (.int (2 : Int32)), .val (.int x2), .unset]) rfl ?_
  refine g_iloadN X0 hx hby d21_4 (pc' := 5) rfl rfl ?_
  refine g_if_ne X0 hx hby d21_5 (by decide) (pc' := 10) (by decide) (pn := 8) rfl (fun hc5_1 => ?_) (fun hc5_1 => ?_)
  · refine g_iloadN X0 hx hby d21_10 (pc' := 11) rfl rfl ?_
    refine g_ldcI X0 hx hZ hown hby d21_11 (pc' := 13) rfl (w_100 hw) ?_
    refine g_icmp_lt X0 hx hby d21_13 (by decide) (pc' := 22) (by decide) (pn := 16) rfl (fun hc13_2 => ?_) (fun hc13_2 => ?_)
    · refine g_iconst X0 hx hby d21_22 (pc' := 23) rfl (z := (1 : Int32)) rfl ?_
      exact g_retI (Q := (fun v h L => v = some (.int (exA x2)) ∧ Fr n0 L ∧ h = h0)) X0 hx hby d21_23 hret hlk (by decide) (by decide) ⟨congrArg (fun z : Int32 => some (Value.int z)) (by unfold exA; rw [if_neg hc5_1, if_pos hc13_2]), N0, e0⟩
    · refine g_iloadN X0 hx hby d21_16 (pc' := 17) rfl rfl ?_
      refine g_ldcI X0 hx hZ hown hby d21_17 (pc' := 19) rfl (w_101 hw) ?_
      refine g_icmp_le X0 hx hby d21_19 (by decide) (pc' := 24) (by decide) (pn := 22) rfl (fun hc19_3 => ?_) (fun hc19_3 => ?_)
      · refine g_iloadN X0 hx hby d21_24 (pc' := 25) rfl rfl ?_
        refine g_ldcI X0 hx hZ hown hby d21_25 (pc' := 27) rfl (w_6 hw) ?_
        refine g_icmp_lt X0 hx hby d21_27 (by decide) (pc' := 32) (by decide) (pn := 30) rfl (fun hc27_4 => ?_) (fun hc27_4 => ?_)
        · refine g_iloadN X0 hx hby d21_32 (pc' := 33) rfl rfl ?_
          refine g_iconst X0 hx hby d21_33 (pc' := 34) rfl (z := (1 : Int32)) rfl ?_
          refine g_iadd X0 hx hby d21_34 (pc' := 35) rfl ?_
          refine g_eqI (b := (3 : Int32)) (by decide +kernel) ?_
          refine g_iloadN X0 hx hby d21_35 (pc' := 36) rfl rfl ?_
          refine g_icmp_lt X0 hx hby d21_36 (by decide) (pc' := 41) (by decide) (pn := 39) rfl (fun z => absurd z (by decide)) (fun _ => ?_)
          refine g_iconst X0 hx hby d21_39 (pc' := 40) rfl (z := (0 : Int32)) rfl ?_
          exact g_retI (Q := (fun v h L => v = some (.int (exA x2)) ∧ Fr n0 L ∧ h = h0)) X0 hx hby d21_40 hret hlk (by decide) (by decide) ⟨congrArg (fun z : Int32 => some (Value.int z)) (by unfold exA; rw [if_neg hc5_1, if_neg hc13_2, if_neg hc19_3, if_pos hc27_4]), N0, e0⟩
        · refine g_iconst X0 hx hby d21_30 (pc' := 31) rfl (z := (0 : Int32)) rfl ?_
          exact g_retI (Q := (fun v h L => v = some (.int (exA x2)) ∧ Fr n0 L ∧ h = h0)) X0 hx hby d21_31 hret hlk (by decide) (by decide) ⟨congrArg (fun z : Int32 => some (Value.int z)) (by unfold exA; rw [if_neg hc5_1, if_neg hc13_2, if_neg hc19_3, if_neg hc27_4]), N0, e0⟩
      · refine g_iconst X0 hx hby d21_22 (pc' := 23) rfl (z := (1 : Int32)) rfl ?_
        exact g_retI (Q := (fun v h L => v = some (.int (exA x2)) ∧ Fr n0 L ∧ h = h0)) X0 hx hby d21_23 hret hlk (by decide) (by decide) ⟨congrArg (fun z : Int32 => some (Value.int z)) (by unfold exA; rw [if_neg hc5_1, if_neg hc13_2, if_pos hc19_3]), N0, e0⟩
  · refine g_iconst X0 hx hby d21_8 (pc' := 9) rfl (z := (0 : Int32)) rfl ?_
    exact g_retI (Q := (fun v h L => v = some (.int (exA x2)) ∧ Fr n0 L ∧ h = h0)) X0 hx hby d21_9 hret hlk (by decide) (by decide) ⟨congrArg (fun z : Int32 => some (Value.int z)) (by unfold exA; rw [if_pos hc5_1]), N0, e0⟩
theorem ef_rm0 (q1 : Int32) (q2 : Int32) (q3 : Int32) (q4 : Int32) (q5 : Int32) (m : MethodId) : entryFrame m #[.int q1, .int q2, .int q3, .int q4, .int q5] maxLocals = mkF m 0 #[.val (.int q1), .val (.int q2), .val (.int q3), .val (.int q4), .val (.int q5), .unset, .unset, .unset, .unset, .unset, .unset, .unset, .unset] [] := by
  first | (simp [entryFrame, mkF, argsToLocals, Value.category, maxLocals]; done) | rfl
theorem pn_rm0 : plainName "com/example/libonce/libonce/StorableTextKeptLengthPinLaw" = true := by first | (simp [plainName, overriddenIn]; done) | decide +kernel
set_option maxRecDepth 65536 in
set_option maxHeartbeats 40000000 in
theorem rm0 (l : Launch) (Z : State) (a0 : Array Value) (hw : ∀ d ∈ tables_1, d.before a0 Z = true) (ws : List Jvm.Cond) (q1 : Int32) (q2 : Int32) (q3 : Int32) (q4 : Int32) (q5 : Int32) (h0 : Heap) (n0 : Nat) (Z0 : n0 ≤ h0.size) (cs : Int32) (fm : Value) (SS : SSt Z cs fm) (O0 : Old Z n0 h0) :
    Ctr l Z x code maxLocals ret ws room_1 #[.int q1, .int q2, .int q3, .int q4, .int q5] h0 (fun v h L => v = some (.int 1) ∧ Fr n0 L) := by
  refine Ctr.enter (Ls := #[.val (.int q1), .val (.int q2), .val (.int q3), .val (.int q4), .val (.int q5), .unset, .unset, .unset, .unset, .unset, .unset, .unset, .unset]) (plainFor_of_name pn_rm0) (fun m => ef_rm0 q1 q2 q3 q4 q5 m) ?_
  intro p e s m below meth c T hx hby hml hown hnm hret hlk hZ hh X0 e0
  have N0 := Fr.nil n0
  refine g_iconst X0 hx hby at_0 (pc' := 1) rfl (z := (1 : Int32)) rfl ?_
  refine g_iloadN X0 hx hby at_1 (pc' := 2) rfl rfl ?_
  refine g_ldcI X0 hx hZ hown hby at_2 (pc' := 4) rfl (w_0 hw) ?_
  refine g_iand X0 hx hby at_4 (pc' := 5) rfl ?_
  refine g_iconst X0 hx hby at_5 (pc' := 6) rfl (z := (3 : Int32)) rfl ?_
  refine g_irem X0 hx hby at_6 (pc' := 7) rfl (by decide) ?_
  refine g_iadd X0 hx hby at_7 (pc' := 8) rfl ?_
  rcases own_n q4 with hr1_0 | hr1_1 | hr1_2
  · refine g_eqI (b := (1 : Int32)) hr1_0 ?_
    refine g_istore X0 hx hby at_8 (pc' := 10) rfl (l' := #[.val (.int q1), .val (.int q2), .val (.int q3), .val (.int q4), .val (.int q5), .val (.int (1 : Int32)), .unset, .unset, .unset, .unset, .unset, .unset, .unset]) rfl ?_
    refine g_iload X0 hx hby at_10 (pc' := 12) rfl rfl ?_
    refine g_ldcI X0 hx hZ hown hby at_12 (pc' := 14) rfl (w_0 hw) ?_
    refine g_iand X0 hx hby at_14 (pc' := 15) rfl ?_
    refine g_iload X0 hx hby at_15 (pc' := 17) rfl rfl ?_
    refine g_irem X0 hx hby at_17 (pc' := 18) rfl (by decide) ?_
    refine g_eqI (b := (0 : Int32)) (own_i1 q5) ?_
    refine g_istore X0 hx hby at_18 (pc' := 20) rfl (l' := #[.val (.int q1), .val (.int q2), .val (.int q3), .val (.int q4), .val (.int q5), .val (.int (1 : Int32)), .val (.int (0 : Int32)), .unset, .unset, .unset, .unset, .unset, .unset]) rfl ?_
    refine g_iloadN X0 hx hby at_20 (pc' := 21) rfl rfl ?_
    refine g_callS X0 hx hZ hown (W := 0) (argsL := [.int q1]) (rest := []) hby at_21 (pc' := 24) rfl (by rw [hml]; rfl) (w_1 hw) (w_2 hw) (w_3 hw) (w_4 hw) (by decide) (rmD l Z a0 hw [] q1 h0 n0) e0 (by decide) (by decide) (by decide) (by decide) rfl pd__28I_29C rfl rfl (Nat.le_of_eq rfl) ?_
    rintro _ T3 L3 X3 ⟨rfl, N3q, e3⟩
    have N3 := Fr.app N0 N3q
    show GoE p e below _ (T3.setTop (mkF m 24 #[.val (.int q1), .val (.int q2), .val (.int q3), .val (.int q4), .val (.int q5), .val (.int (1 : Int32)), .val (.int (0 : Int32)), .unset, .unset, .unset, .unset, .unset, .unset] [.int (drawV q1)]))
    refine g_istore X3 hx hby at_24 (pc' := 26) rfl (l' := #[.val (.int q1), .val (.int q2), .val (.int q3), .val (.int q4), .val (.int q5), .val (.int (1 : Int32)), .val (.int (0 : Int32)), .val (.int (drawV q1)), .unset, .unset, .unset, .unset, .unset]) rfl ?_
    refine g_iloadN X3 hx hby at_26 (pc' := 27) rfl rfl ?_
    refine g_callS X3 hx hZ hown (W := 0) (argsL := [.int q2]) (rest := []) hby at_27 (pc' := 30) rfl (by rw [hml]; rfl) (w_1 hw) (w_2 hw) (w_3 hw) (w_4 hw) (by decide) (rmD l Z a0 hw [] q2 h0 n0) e3 (by decide) (by decide) (by decide) (by decide) rfl pd__28I_29C rfl rfl (Nat.le_of_eq rfl) ?_
    rintro _ T4 L4 X4 ⟨rfl, N4q, e4⟩
    have N4 := Fr.app N3 N4q
    show GoE p e below _ (T4.setTop (mkF m 30 #[.val (.int q1), .val (.int q2), .val (.int q3), .val (.int q4), .val (.int q5), .val (.int (1 : Int32)), .val (.int (0 : Int32)), .val (.int (drawV q1)), .unset, .unset, .unset, .unset, .unset] [.int (drawV q2)]))
    refine g_istore X4 hx hby at_30 (pc' := 32) rfl (l' := #[.val (.int q1), .val (.int q2), .val (.int q3), .val (.int q4), .val (.int q5), .val (.int (1 : Int32)), .val (.int (0 : Int32)), .val (.int (drawV q1)), .val (.int (drawV q2)), .unset, .unset, .unset, .unset]) rfl ?_
    refine g_iloadN X4 hx hby at_32 (pc' := 33) rfl rfl ?_
    refine g_callS X4 hx hZ hown (W := 0) (argsL := [.int q3]) (rest := []) hby at_33 (pc' := 36) rfl (by rw [hml]; rfl) (w_1 hw) (w_2 hw) (w_3 hw) (w_4 hw) (by decide) (rmD l Z a0 hw [] q3 h0 n0) e4 (by decide) (by decide) (by decide) (by decide) rfl pd__28I_29C rfl rfl (Nat.le_of_eq rfl) ?_
    rintro _ T5 L5 X5 ⟨rfl, N5q, e5⟩
    have N5 := Fr.app N4 N5q
    show GoE p e below _ (T5.setTop (mkF m 36 #[.val (.int q1), .val (.int q2), .val (.int q3), .val (.int q4), .val (.int q5), .val (.int (1 : Int32)), .val (.int (0 : Int32)), .val (.int (drawV q1)), .val (.int (drawV q2)), .unset, .unset, .unset, .unset] [.int (drawV q3)]))
    refine g_istore X5 hx hby at_36 (pc' := 38) rfl (l' := #[.val (.int q1), .val (.int q2), .val (.int q3), .val (.int q4), .val (.int q5), .val (.int (1 : Int32)), .val (.int (0 : Int32)), .val (.int (drawV q1)), .val (.int (drawV q2)), .val (.int (drawV q3)), .unset, .unset, .unset]) rfl ?_
    refine g_iload X5 hx hby at_38 (pc' := 40) rfl rfl ?_
    refine g_iconst X5 hx hby at_40 (pc' := 41) rfl (z := (1 : Int32)) rfl ?_
    refine g_icmp_ne X5 hx hby at_41 (by decide) (pc' := 57) (by decide) (pn := 44) rfl (fun z => absurd z (by decide)) (fun _ => ?_)
    refine g_iconst X5 hx hby at_44 (pc' := 45) rfl (z := (1 : Int32)) rfl ?_
    refine g_newarray X5 hx hZ 1  "[C" hby at_45 (pc' := 47) rfl (w_7 hw) e5 (by decide) (by decide) (by decide) (by decide) (by decide) rfl ?_
    intro T6 b6 c6 hb6 X6 E6 A6v A6x
    have O6o := O0.ext E6
    have Z6 := Nat.le_trans Z0 E6.1
    have A6 : Arv Z T6.heap b6 c6 .char (1 : Int32) [.int 0] (.int 0) := A6v
    refine g_dup X6 hx hby at_47 (pc' := 48) rfl rfl ?_
    refine g_iconst X6 hx hby at_48 (pc' := 49) rfl (z := (0 : Int32)) rfl ?_
    refine g_iload X6 hx hby at_49 (pc' := 51) rfl rfl ?_
    refine g_castore X6 hx hZ 0 hby at_51 (pc' := 52) rfl rfl A6 (by decide) (by decide) (by first | decide | simp) ?_
    intro T7 X7 W7 A7v
    have N7 := Fr.snoc X7 N5 (Nat.le_trans Z0 (Nat.le_of_eq hb6.symm))
    have O7 := O6o.wr W7 (Nat.le_trans Z0 (Nat.le_of_eq hb6.symm))
    have Z7 : n0 ≤ T7.heap.size := (W7.size ▸ Z6)
    have E7_b6 := A6x.wr W7
    have A7 : Arv Z T7.heap b6 c6 .char (1 : Int32) [.int (nar .char (drawV q1))] (.int 0) := A7v
    refine g_astore X7 hx hby at_52 (pc' := 54) rfl rfl (l' := #[.val (.int q1), .val (.int q2), .val (.int q3), .val (.int q4), .val (.int q5), .val (.int (1 : Int32)), .val (.int (0 : Int32)), .val (.int (drawV q1)), .val (.int (drawV q2)), .val (.int (drawV q3)), .val (.ref b6), .unset, .unset]) rfl ?_
    refine g_goto X7 hx hby at_54 (by decide) (pc' := 101) (by decide) ?_
    have A8 : Arv Z T7.heap b6 c6 .char (1 : Int32) [.int (drawV q1)] (.int 0) := by
      have z := A7
      rw [own_narc (own_draw q1)] at z
      exact z
    refine g_new X7 hx hZ hown hby at_101 (pc' := 104) rfl (w_8 hw) (w_9 hw) (w_10 hw) rfl (by decide) (by decide) ?_
    intro T9 b9 hb9 X9 E9 A9 D9
    have O9o := O7.ext E9
    have Z9 := Nat.le_trans Z7 E9.1
    have E9_b6 := E7_b6.ext E9
    have ne9_b6 : b6 ≠ b9 := hb9 ▸ Nat.ne_of_lt E7_b6.lt
    have A9_b6 := A8.ext E9
    have F9_coder : Fld Z T9.heap b9 "java/lang/String" "coder" "B" (.int (0 : Int32)) := D9 (Or.inr (w_53 hw)) (ty := .byte) (by decide)
    have F9_value : Fld Z T9.heap b9 "java/lang/String" "value" "[B" (.null) := D9 (Or.inr (w_55 hw)) (ty := (.array .byte)) (by decide)
    refine g_dup X9 hx hby at_104 (pc' := 105) rfl rfl ?_
    refine g_aload X9 hx hby at_105 (pc' := 107) rfl rfl rfl ?_
    refine g_callI X9 hx hZ hown (W := 1) (argsL := [.ref b6]) (b := b9) (rest := [.ref b9]) hby at_107 (pc' := 110) rfl (by rw [hml]; rfl) (w_11 hw) (w_12 hw) (w_10 hw) (w_13 hw) rfl (by decide) (rmS11 l Z a0 hw [] b9 b6 T9.heap n0 (drawV q1) _ A9_b6 (own_draw q1) _ _ Z9 A9 F9_value F9_coder ne9_b6 (Nat.le_trans Z7 (Nat.le_of_eq hb9.symm)) cs fm SS O9o) rfl (by decide) (by decide) (by decide) (by decide) rfl pd__28_5bC_29V rfl rfl (Nat.le_of_eq rfl) ?_
    rintro _ T10 L10 X10 (⟨b10, k10, rfl, N10q, K10, Ei10, Fv10, Fc10, nb10, A10, l10_0⟩ | ⟨b10, k10, rfl, N10q, K10, Ei10, Fv10, Fc10, nb10, A10⟩)
    · have N10 := Fr.app N7 N10q
      have O10 := O9o.keep K10 (allS (Nat.le_trans Z7 (Nat.le_of_eq hb9.symm)) all0)
      have Z10 := Nat.le_trans Z9 K10.1
      have E10_b6 := E9_b6.keep K10
      have A10_b6 := A9_b6.keep K10 (ninS ne9_b6 nin0)
      have E10_b9 := A9.keep K10
      show GoE p e below _ (T10.setTop (mkF m 110 #[.val (.int q1), .val (.int q2), .val (.int q3), .val (.int q4), .val (.int q5), .val (.int (1 : Int32)), .val (.int (0 : Int32)), .val (.int (drawV q1)), .val (.int (drawV q2)), .val (.int (drawV q3)), .val (.ref b6), .unset, .unset] [.ref b9]))
      refine g_astore X10 hx hby at_110 (pc' := 112) rfl rfl (l' := #[.val (.int q1), .val (.int q2), .val (.int q3), .val (.int q4), .val (.int q5), .val (.int (1 : Int32)), .val (.int (0 : Int32)), .val (.int (drawV q1)), .val (.int (drawV q2)), .val (.int (drawV q3)), .val (.ref b6), .val (.ref b9), .unset]) rfl ?_
      refine g_aload X10 hx hby at_112 (pc' := 114) rfl rfl rfl ?_
      refine g_iload X10 hx hby at_114 (pc' := 116) rfl rfl ?_
      refine g_callS X10 hx hZ hown (W := 0) (argsL := [.ref b9, .int (0 : Int32)]) (rest := []) hby at_116 (pc' := 119) rfl (by rw [hml]; rfl) (w_56 hw) (w_57 hw) (w_58 hw) (w_59 hw) (by decide) (rmKL1_0_0 l Z a0 hw [] b9 T10.heap n0 (drawV q1) _ _ (own_draw q1) Ei10 Fv10 Fc10 A10 l10_0 cs fm SS O10) rfl (by decide) (by decide) (by decide) (by decide) rfl pd__28Ljava_2flang_2fString_3bI_29I rfl rfl (Nat.le_of_eq rfl) ?_
      rintro _ T11 L11 X11 ⟨rfl, N11q, e11⟩
      have N11 := Fr.app N10 N11q
      show GoE p e below _ (T11.setTop (mkF m 119 #[.val (.int q1), .val (.int q2), .val (.int q3), .val (.int q4), .val (.int q5), .val (.int (1 : Int32)), .val (.int (0 : Int32)), .val (.int (drawV q1)), .val (.int (drawV q2)), .val (.int (drawV q3)), .val (.ref b6), .val (.ref b9), .unset] [.int (klA (drawV q1))]))
      refine g_istore X11 hx hby at_119 (pc' := 121) rfl (l' := #[.val (.int q1), .val (.int q2), .val (.int q3), .val (.int q4), .val (.int q5), .val (.int (1 : Int32)), .val (.int (0 : Int32)), .val (.int (drawV q1)), .val (.int (drawV q2)), .val (.int (drawV q3)), .val (.ref b6), .val (.ref b9), .val (.int (klA (drawV q1)))]) rfl ?_
      refine g_iload X11 hx hby at_121 (pc' := 123) rfl rfl ?_
      refine g_aload X11 hx hby at_123 (pc' := 125) rfl rfl rfl ?_
      refine g_iload X11 hx hby at_125 (pc' := 127) rfl rfl ?_
      refine g_iload X11 hx hby at_127 (pc' := 129) rfl rfl ?_
      refine g_callS X11 hx hZ hown (W := 1) (argsL := [.ref b6, .int (1 : Int32), .int (0 : Int32)]) (rest := [.int (klA (drawV q1))]) hby at_129 (pc' := 132) rfl (by rw [hml]; rfl) (w_87 hw) (w_88 hw) (w_3 hw) (w_89 hw) (by decide) (rmEX1_0 l Z a0 hw [] b6 T10.heap n0 (drawV q1) _ A10_b6) e11 (by decide) (by decide) (by decide) (by decide) rfl pd__28_5bCII_29I rfl rfl (Nat.le_of_eq rfl) ?_
      rintro _ T12 L12 X12 ⟨rfl, N12q, e12⟩
      have N12 := Fr.app N11 N12q
      show GoE p e below _ (T12.setTop (mkF m 132 #[.val (.int q1), .val (.int q2), .val (.int q3), .val (.int q4), .val (.int q5), .val (.int (1 : Int32)), .val (.int (0 : Int32)), .val (.int (drawV q1)), .val (.int (drawV q2)), .val (.int (drawV q3)), .val (.ref b6), .val (.ref b9), .val (.int (klA (drawV q1)))] [.int (exA (drawV q1)), .int (klA (drawV q1))]))
      refine g_icmp_ne X12 hx hby at_132 (by decide) (pc' := 139) (by decide) (pn := 135) rfl (fun z => absurd z (fun z => z (own_A _))) (fun hc132_13 => ?_)
      refine g_iconst X12 hx hby at_135 (pc' := 136) rfl (z := (1 : Int32)) rfl ?_
      refine g_goto X12 hx hby at_136 (by decide) (pc' := 140) (by decide) ?_
      exact g_retN (Q := (fun v h L => v = some (.int 1) ∧ Fr n0 L)) (w := (1 : Int32)) X12 hx hby at_140 hret (by simp) (by first | decide | rfl) hlk (by decide) (by decide) ⟨rfl, N12⟩
    · have N10 := Fr.app N7 N10q
      have O10 := O9o.keep K10 (allS (Nat.le_trans Z7 (Nat.le_of_eq hb9.symm)) all0)
      have Z10 := Nat.le_trans Z9 K10.1
      have E10_b6 := E9_b6.keep K10
      have A10_b6 := A9_b6.keep K10 (ninS ne9_b6 nin0)
      have E10_b9 := A9.keep K10
      show GoE p e below _ (T10.setTop (mkF m 110 #[.val (.int q1), .val (.int q2), .val (.int q3), .val (.int q4), .val (.int q5), .val (.int (1 : Int32)), .val (.int (0 : Int32)), .val (.int (drawV q1)), .val (.int (drawV q2)), .val (.int (drawV q3)), .val (.ref b6), .unset, .unset] [.ref b9]))
      refine g_astore X10 hx hby at_110 (pc' := 112) rfl rfl (l' := #[.val (.int q1), .val (.int q2), .val (.int q3), .val (.int q4), .val (.int q5), .val (.int (1 : Int32)), .val (.int (0 : Int32)), .val (.int (drawV q1)), .val (.int (drawV q2)), .val (.int (drawV q3)), .val (.ref b6), .val (.ref b9), .unset]) rfl ?_
      refine g_aload X10 hx hby at_112 (pc' := 114) rfl rfl rfl ?_
      refine g_iload X10 hx hby at_114 (pc' := 116) rfl rfl ?_
      refine g_callS X10 hx hZ hown (W := 0) (argsL := [.ref b9, .int (0 : Int32)]) (rest := []) hby at_116 (pc' := 119) rfl (by rw [hml]; rfl) (w_56 hw) (w_57 hw) (w_58 hw) (w_59 hw) (by decide) (rmKL1_1_0 l Z a0 hw [] b9 T10.heap n0 (drawV q1) _ _ (own_draw q1) Ei10 Fv10 Fc10 A10 cs fm SS O10) rfl (by decide) (by decide) (by decide) (by decide) rfl pd__28Ljava_2flang_2fString_3bI_29I rfl rfl (Nat.le_of_eq rfl) ?_
      rintro _ T14 L14 X14 ⟨rfl, N14q, e14⟩
      have N14 := Fr.app N10 N14q
      show GoE p e below _ (T14.setTop (mkF m 119 #[.val (.int q1), .val (.int q2), .val (.int q3), .val (.int q4), .val (.int q5), .val (.int (1 : Int32)), .val (.int (0 : Int32)), .val (.int (drawV q1)), .val (.int (drawV q2)), .val (.int (drawV q3)), .val (.ref b6), .val (.ref b9), .unset] [.int (klA (drawV q1))]))
      refine g_istore X14 hx hby at_119 (pc' := 121) rfl (l' := #[.val (.int q1), .val (.int q2), .val (.int q3), .val (.int q4), .val (.int q5), .val (.int (1 : Int32)), .val (.int (0 : Int32)), .val (.int (drawV q1)), .val (.int (drawV q2)), .val (.int (drawV q3)), .val (.ref b6), .val (.ref b9), .val (.int (klA (drawV q1)))]) rfl ?_
      refine g_iload X14 hx hby at_121 (pc' := 123) rfl rfl ?_
      refine g_aload X14 hx hby at_123 (pc' := 125) rfl rfl rfl ?_
      refine g_iload X14 hx hby at_125 (pc' := 127) rfl rfl ?_
      refine g_iload X14 hx hby at_127 (pc' := 129) rfl rfl ?_
      refine g_callS X14 hx hZ hown (W := 1) (argsL := [.ref b6, .int (1 : Int32), .int (0 : Int32)]) (rest := [.int (klA (drawV q1))]) hby at_129 (pc' := 132) rfl (by rw [hml]; rfl) (w_87 hw) (w_88 hw) (w_3 hw) (w_89 hw) (by decide) (rmEX1_0 l Z a0 hw [] b6 T10.heap n0 (drawV q1) _ A10_b6) e14 (by decide) (by decide) (by decide) (by decide) rfl pd__28_5bCII_29I rfl rfl (Nat.le_of_eq rfl) ?_
      rintro _ T15 L15 X15 ⟨rfl, N15q, e15⟩
      have N15 := Fr.app N14 N15q
      show GoE p e below _ (T15.setTop (mkF m 132 #[.val (.int q1), .val (.int q2), .val (.int q3), .val (.int q4), .val (.int q5), .val (.int (1 : Int32)), .val (.int (0 : Int32)), .val (.int (drawV q1)), .val (.int (drawV q2)), .val (.int (drawV q3)), .val (.ref b6), .val (.ref b9), .val (.int (klA (drawV q1)))] [.int (exA (drawV q1)), .int (klA (drawV q1))]))
      refine g_icmp_ne X15 hx hby at_132 (by decide) (pc' := 139) (by decide) (pn := 135) rfl (fun z => absurd z (fun z => z (own_A _))) (fun hc132_16 => ?_)
      refine g_iconst X15 hx hby at_135 (pc' := 136) rfl (z := (1 : Int32)) rfl ?_
      refine g_goto X15 hx hby at_136 (by decide) (pc' := 140) (by decide) ?_
      exact g_retN (Q := (fun v h L => v = some (.int 1) ∧ Fr n0 L)) (w := (1 : Int32)) X15 hx hby at_140 hret (by simp) (by first | decide | rfl) hlk (by decide) (by decide) ⟨rfl, N15⟩
  · refine g_eqI (b := (2 : Int32)) hr1_1 ?_
    refine g_istore X0 hx hby at_8 (pc' := 10) rfl (l' := #[.val (.int q1), .val (.int q2), .val (.int q3), .val (.int q4), .val (.int q5), .val (.int (2 : Int32)), .unset, .unset, .unset, .unset, .unset, .unset, .unset]) rfl ?_
    refine g_iload X0 hx hby at_10 (pc' := 12) rfl rfl ?_
    refine g_ldcI X0 hx hZ hown hby at_12 (pc' := 14) rfl (w_0 hw) ?_
    refine g_iand X0 hx hby at_14 (pc' := 15) rfl ?_
    refine g_iload X0 hx hby at_15 (pc' := 17) rfl rfl ?_
    refine g_irem X0 hx hby at_17 (pc' := 18) rfl (by decide) ?_
    rcases own_i2 q5 with hr17_0 | hr17_1
    · refine g_eqI (b := (0 : Int32)) hr17_0 ?_
      refine g_istore X0 hx hby at_18 (pc' := 20) rfl (l' := #[.val (.int q1), .val (.int q2), .val (.int q3), .val (.int q4), .val (.int q5), .val (.int (2 : Int32)), .val (.int (0 : Int32)), .unset, .unset, .unset, .unset, .unset, .unset]) rfl ?_
      refine g_iloadN X0 hx hby at_20 (pc' := 21) rfl rfl ?_
      refine g_callS X0 hx hZ hown (W := 0) (argsL := [.int q1]) (rest := []) hby at_21 (pc' := 24) rfl (by rw [hml]; rfl) (w_1 hw) (w_2 hw) (w_3 hw) (w_4 hw) (by decide) (rmD l Z a0 hw [] q1 h0 n0) e0 (by decide) (by decide) (by decide) (by decide) rfl pd__28I_29C rfl rfl (Nat.le_of_eq rfl) ?_
      rintro _ T18 L18 X18 ⟨rfl, N18q, e18⟩
      have N18 := Fr.app N0 N18q
      show GoE p e below _ (T18.setTop (mkF m 24 #[.val (.int q1), .val (.int q2), .val (.int q3), .val (.int q4), .val (.int q5), .val (.int (2 : Int32)), .val (.int (0 : Int32)), .unset, .unset, .unset, .unset, .unset, .unset] [.int (drawV q1)]))
      refine g_istore X18 hx hby at_24 (pc' := 26) rfl (l' := #[.val (.int q1), .val (.int q2), .val (.int q3), .val (.int q4), .val (.int q5), .val (.int (2 : Int32)), .val (.int (0 : Int32)), .val (.int (drawV q1)), .unset, .unset, .unset, .unset, .unset]) rfl ?_
      refine g_iloadN X18 hx hby at_26 (pc' := 27) rfl rfl ?_
      refine g_callS X18 hx hZ hown (W := 0) (argsL := [.int q2]) (rest := []) hby at_27 (pc' := 30) rfl (by rw [hml]; rfl) (w_1 hw) (w_2 hw) (w_3 hw) (w_4 hw) (by decide) (rmD l Z a0 hw [] q2 h0 n0) e18 (by decide) (by decide) (by decide) (by decide) rfl pd__28I_29C rfl rfl (Nat.le_of_eq rfl) ?_
      rintro _ T19 L19 X19 ⟨rfl, N19q, e19⟩
      have N19 := Fr.app N18 N19q
      show GoE p e below _ (T19.setTop (mkF m 30 #[.val (.int q1), .val (.int q2), .val (.int q3), .val (.int q4), .val (.int q5), .val (.int (2 : Int32)), .val (.int (0 : Int32)), .val (.int (drawV q1)), .unset, .unset, .unset, .unset, .unset] [.int (drawV q2)]))
      refine g_istore X19 hx hby at_30 (pc' := 32) rfl (l' := #[.val (.int q1), .val (.int q2), .val (.int q3), .val (.int q4), .val (.int q5), .val (.int (2 : Int32)), .val (.int (0 : Int32)), .val (.int (drawV q1)), .val (.int (drawV q2)), .unset, .unset, .unset, .unset]) rfl ?_
      refine g_iloadN X19 hx hby at_32 (pc' := 33) rfl rfl ?_
      refine g_callS X19 hx hZ hown (W := 0) (argsL := [.int q3]) (rest := []) hby at_33 (pc' := 36) rfl (by rw [hml]; rfl) (w_1 hw) (w_2 hw) (w_3 hw) (w_4 hw) (by decide) (rmD l Z a0 hw [] q3 h0 n0) e19 (by decide) (by decide) (by decide) (by decide) rfl pd__28I_29C rfl rfl (Nat.le_of_eq rfl) ?_
      rintro _ T20 L20 X20 ⟨rfl, N20q, e20⟩
      have N20 := Fr.app N19 N20q
      show GoE p e below _ (T20.setTop (mkF m 36 #[.val (.int q1), .val (.int q2), .val (.int q3), .val (.int q4), .val (.int q5), .val (.int (2 : Int32)), .val (.int (0 : Int32)), .val (.int (drawV q1)), .val (.int (drawV q2)), .unset, .unset, .unset, .unset] [.int (drawV q3)]))
      refine g_istore X20 hx hby at_36 (pc' := 38) rfl (l' := #[.val (.int q1), .val (.int q2), .val (.int q3), .val (.int q4), .val (.int q5), .val (.int (2 : Int32)), .val (.int (0 : Int32)), .val (.int (drawV q1)), .val (.int (drawV q2)), .val (.int (drawV q3)), .unset, .unset, .unset]) rfl ?_
      refine g_iload X20 hx hby at_38 (pc' := 40) rfl rfl ?_
      refine g_iconst X20 hx hby at_40 (pc' := 41) rfl (z := (1 : Int32)) rfl ?_
      refine g_icmp_ne X20 hx hby at_41 (by decide) (pc' := 57) (by decide) (pn := 44) rfl (fun _ => ?_) (fun z => absurd z (by decide))
      refine g_iload X20 hx hby at_57 (pc' := 59) rfl rfl ?_
      refine g_iconst X20 hx hby at_59 (pc' := 60) rfl (z := (2 : Int32)) rfl ?_
      refine g_icmp_ne X20 hx hby at_60 (by decide) (pc' := 81) (by decide) (pn := 63) rfl (fun z => absurd z (by decide)) (fun _ => ?_)
      refine g_iconst X20 hx hby at_63 (pc' := 64) rfl (z := (2 : Int32)) rfl ?_
      refine g_newarray X20 hx hZ 2  "[C" hby at_64 (pc' := 66) rfl (w_7 hw) e20 (by decide) (by decide) (by decide) (by decide) (by decide) rfl ?_
      intro T21 b21 c21 hb21 X21 E21 A21v A21x
      have O21o := O0.ext E21
      have Z21 := Nat.le_trans Z0 E21.1
      have A21 : Arv Z T21.heap b21 c21 .char (2 : Int32) [.int 0, .int 0] (.int 0) := A21v
      refine g_dup X21 hx hby at_66 (pc' := 67) rfl rfl ?_
      refine g_iconst X21 hx hby at_67 (pc' := 68) rfl (z := (0 : Int32)) rfl ?_
      refine g_iload X21 hx hby at_68 (pc' := 70) rfl rfl ?_
      refine g_castore X21 hx hZ 0 hby at_70 (pc' := 71) rfl rfl A21 (by decide) (by decide) (by first | decide | simp) ?_
      intro T22 X22 W22 A22v
      have N22 := Fr.snoc X22 N20 (Nat.le_trans Z0 (Nat.le_of_eq hb21.symm))
      have O22 := O21o.wr W22 (Nat.le_trans Z0 (Nat.le_of_eq hb21.symm))
      have Z22 : n0 ≤ T22.heap.size := (W22.size ▸ Z21)
      have E22_b21 := A21x.wr W22
      have A22 : Arv Z T22.heap b21 c21 .char (2 : Int32) [.int (nar .char (drawV q1)), .int 0] (.int 0) := A22v
      refine g_dup X22 hx hby at_71 (pc' := 72) rfl rfl ?_
      refine g_iconst X22 hx hby at_72 (pc' := 73) rfl (z := (1 : Int32)) rfl ?_
      refine g_iload X22 hx hby at_73 (pc' := 75) rfl rfl ?_
      refine g_castore X22 hx hZ 1 hby at_75 (pc' := 76) rfl rfl A22 (by decide) (by decide) (by first | decide | simp) ?_
      intro T23 X23 W23 A23v
      have N23 := Fr.snoc X23 N22 (Nat.le_trans Z0 (Nat.le_of_eq hb21.symm))
      have O23 := O22.wr W23 (Nat.le_trans Z0 (Nat.le_of_eq hb21.symm))
      have Z23 : n0 ≤ T23.heap.size := (W23.size ▸ Z22)
      have E23_b21 := E22_b21.wr W23
      have A23 : Arv Z T23.heap b21 c21 .char (2 : Int32) [.int (nar .char (drawV q1)), .int (nar .char (drawV q2))] (.int 0) := A23v
      refine g_astore X23 hx hby at_76 (pc' := 78) rfl rfl (l' := #[.val (.int q1), .val (.int q2), .val (.int q3), .val (.int q4), .val (.int q5), .val (.int (2 : Int32)), .val (.int (0 : Int32)), .val (.int (drawV q1)), .val (.int (drawV q2)), .val (.int (drawV q3)), .val (.ref b21), .unset, .unset]) rfl ?_
      refine g_goto X23 hx hby at_78 (by decide) (pc' := 101) (by decide) ?_
      have A24 : Arv Z T23.heap b21 c21 .char (2 : Int32) [.int (drawV q1), .int (drawV q2)] (.int 0) := by
        have z := A23
        rw [own_narc (own_draw q1), own_narc (own_draw q2)] at z
        exact z
      refine g_new X23 hx hZ hown hby at_101 (pc' := 104) rfl (w_8 hw) (w_9 hw) (w_10 hw) rfl (by decide) (by decide) ?_
      intro T25 b25 hb25 X25 E25 A25 D25
      have O25o := O23.ext E25
      have Z25 := Nat.le_trans Z23 E25.1
      have E25_b21 := E23_b21.ext E25
      have ne25_b21 : b21 ≠ b25 := hb25 ▸ Nat.ne_of_lt E23_b21.lt
      have A25_b21 := A24.ext E25
      have F25_coder : Fld Z T25.heap b25 "java/lang/String" "coder" "B" (.int (0 : Int32)) := D25 (Or.inr (w_53 hw)) (ty := .byte) (by decide)
      have F25_value : Fld Z T25.heap b25 "java/lang/String" "value" "[B" (.null) := D25 (Or.inr (w_55 hw)) (ty := (.array .byte)) (by decide)
      refine g_dup X25 hx hby at_104 (pc' := 105) rfl rfl ?_
      refine g_aload X25 hx hby at_105 (pc' := 107) rfl rfl rfl ?_
      refine g_callI X25 hx hZ hown (W := 1) (argsL := [.ref b21]) (b := b25) (rest := [.ref b25]) hby at_107 (pc' := 110) rfl (by rw [hml]; rfl) (w_11 hw) (w_12 hw) (w_10 hw) (w_13 hw) rfl (by decide) (rmS12 l Z a0 hw [] b25 b21 T25.heap n0 (drawV q1) (drawV q2) _ A25_b21 (own_draw q1) (own_draw q2) _ _ Z25 A25 F25_value F25_coder ne25_b21 (Nat.le_trans Z23 (Nat.le_of_eq hb25.symm)) cs fm SS O25o) rfl (by decide) (by decide) (by decide) (by decide) rfl pd__28_5bC_29V rfl rfl (Nat.le_of_eq rfl) ?_
      rintro _ T26 L26 X26 (⟨b26, k26, rfl, N26q, K26, Ei26, Fv26, Fc26, nb26, A26, l26_0, l26_1⟩ | ⟨b26, k26, rfl, N26q, K26, Ei26, Fv26, Fc26, nb26, A26⟩)
      · have N26 := Fr.app N23 N26q
        have O26 := O25o.keep K26 (allS (Nat.le_trans Z23 (Nat.le_of_eq hb25.symm)) all0)
        have Z26 := Nat.le_trans Z25 K26.1
        have E26_b21 := E25_b21.keep K26
        have A26_b21 := A25_b21.keep K26 (ninS ne25_b21 nin0)
        have E26_b25 := A25.keep K26
        show GoE p e below _ (T26.setTop (mkF m 110 #[.val (.int q1), .val (.int q2), .val (.int q3), .val (.int q4), .val (.int q5), .val (.int (2 : Int32)), .val (.int (0 : Int32)), .val (.int (drawV q1)), .val (.int (drawV q2)), .val (.int (drawV q3)), .val (.ref b21), .unset, .unset] [.ref b25]))
        refine g_astore X26 hx hby at_110 (pc' := 112) rfl rfl (l' := #[.val (.int q1), .val (.int q2), .val (.int q3), .val (.int q4), .val (.int q5), .val (.int (2 : Int32)), .val (.int (0 : Int32)), .val (.int (drawV q1)), .val (.int (drawV q2)), .val (.int (drawV q3)), .val (.ref b21), .val (.ref b25), .unset]) rfl ?_
        refine g_aload X26 hx hby at_112 (pc' := 114) rfl rfl rfl ?_
        refine g_iload X26 hx hby at_114 (pc' := 116) rfl rfl ?_
        refine g_callS X26 hx hZ hown (W := 0) (argsL := [.ref b25, .int (0 : Int32)]) (rest := []) hby at_116 (pc' := 119) rfl (by rw [hml]; rfl) (w_56 hw) (w_57 hw) (w_58 hw) (w_59 hw) (by decide) (rmKL2_0_0 l Z a0 hw [] b25 T26.heap n0 (drawV q1) (drawV q2) _ _ (own_draw q1) (own_draw q2) Ei26 Fv26 Fc26 A26 l26_0 l26_1 cs fm SS O26) rfl (by decide) (by decide) (by decide) (by decide) rfl pd__28Ljava_2flang_2fString_3bI_29I rfl rfl (Nat.le_of_eq rfl) ?_
        rintro _ T27 L27 X27 ⟨rfl, N27q, e27⟩
        have N27 := Fr.app N26 N27q
        show GoE p e below _ (T27.setTop (mkF m 119 #[.val (.int q1), .val (.int q2), .val (.int q3), .val (.int q4), .val (.int q5), .val (.int (2 : Int32)), .val (.int (0 : Int32)), .val (.int (drawV q1)), .val (.int (drawV q2)), .val (.int (drawV q3)), .val (.ref b21), .val (.ref b25), .unset] [.int (klB (drawV q1) (drawV q2))]))
        refine g_istore X27 hx hby at_119 (pc' := 121) rfl (l' := #[.val (.int q1), .val (.int q2), .val (.int q3), .val (.int q4), .val (.int q5), .val (.int (2 : Int32)), .val (.int (0 : Int32)), .val (.int (drawV q1)), .val (.int (drawV q2)), .val (.int (drawV q3)), .val (.ref b21), .val (.ref b25), .val (.int (klB (drawV q1) (drawV q2)))]) rfl ?_
        refine g_iload X27 hx hby at_121 (pc' := 123) rfl rfl ?_
        refine g_aload X27 hx hby at_123 (pc' := 125) rfl rfl rfl ?_
        refine g_iload X27 hx hby at_125 (pc' := 127) rfl rfl ?_
        refine g_iload X27 hx hby at_127 (pc' := 129) rfl rfl ?_
        refine g_callS X27 hx hZ hown (W := 1) (argsL := [.ref b21, .int (2 : Int32), .int (0 : Int32)]) (rest := [.int (klB (drawV q1) (drawV q2))]) hby at_129 (pc' := 132) rfl (by rw [hml]; rfl) (w_87 hw) (w_88 hw) (w_3 hw) (w_89 hw) (by decide) (rmEX2_0 l Z a0 hw [] b21 T26.heap n0 (drawV q1) (drawV q2) _ A26_b21) e27 (by decide) (by decide) (by decide) (by decide) rfl pd__28_5bCII_29I rfl rfl (Nat.le_of_eq rfl) ?_
        rintro _ T28 L28 X28 ⟨rfl, N28q, e28⟩
        have N28 := Fr.app N27 N28q
        show GoE p e below _ (T28.setTop (mkF m 132 #[.val (.int q1), .val (.int q2), .val (.int q3), .val (.int q4), .val (.int q5), .val (.int (2 : Int32)), .val (.int (0 : Int32)), .val (.int (drawV q1)), .val (.int (drawV q2)), .val (.int (drawV q3)), .val (.ref b21), .val (.ref b25), .val (.int (klB (drawV q1) (drawV q2)))] [.int (exB (drawV q1) (drawV q2)), .int (klB (drawV q1) (drawV q2))]))
        refine g_icmp_ne X28 hx hby at_132 (by decide) (pc' := 139) (by decide) (pn := 135) rfl (fun z => absurd z (fun z => z (own_B _ _))) (fun hc132_29 => ?_)
        refine g_iconst X28 hx hby at_135 (pc' := 136) rfl (z := (1 : Int32)) rfl ?_
        refine g_goto X28 hx hby at_136 (by decide) (pc' := 140) (by decide) ?_
        exact g_retN (Q := (fun v h L => v = some (.int 1) ∧ Fr n0 L)) (w := (1 : Int32)) X28 hx hby at_140 hret (by simp) (by first | decide | rfl) hlk (by decide) (by decide) ⟨rfl, N28⟩
      · have N26 := Fr.app N23 N26q
        have O26 := O25o.keep K26 (allS (Nat.le_trans Z23 (Nat.le_of_eq hb25.symm)) all0)
        have Z26 := Nat.le_trans Z25 K26.1
        have E26_b21 := E25_b21.keep K26
        have A26_b21 := A25_b21.keep K26 (ninS ne25_b21 nin0)
        have E26_b25 := A25.keep K26
        show GoE p e below _ (T26.setTop (mkF m 110 #[.val (.int q1), .val (.int q2), .val (.int q3), .val (.int q4), .val (.int q5), .val (.int (2 : Int32)), .val (.int (0 : Int32)), .val (.int (drawV q1)), .val (.int (drawV q2)), .val (.int (drawV q3)), .val (.ref b21), .unset, .unset] [.ref b25]))
        refine g_astore X26 hx hby at_110 (pc' := 112) rfl rfl (l' := #[.val (.int q1), .val (.int q2), .val (.int q3), .val (.int q4), .val (.int q5), .val (.int (2 : Int32)), .val (.int (0 : Int32)), .val (.int (drawV q1)), .val (.int (drawV q2)), .val (.int (drawV q3)), .val (.ref b21), .val (.ref b25), .unset]) rfl ?_
        refine g_aload X26 hx hby at_112 (pc' := 114) rfl rfl rfl ?_
        refine g_iload X26 hx hby at_114 (pc' := 116) rfl rfl ?_
        refine g_callS X26 hx hZ hown (W := 0) (argsL := [.ref b25, .int (0 : Int32)]) (rest := []) hby at_116 (pc' := 119) rfl (by rw [hml]; rfl) (w_56 hw) (w_57 hw) (w_58 hw) (w_59 hw) (by decide) (rmKL2_1_0 l Z a0 hw [] b25 T26.heap n0 (drawV q1) (drawV q2) _ _ (own_draw q1) (own_draw q2) Ei26 Fv26 Fc26 A26 cs fm SS O26) rfl (by decide) (by decide) (by decide) (by decide) rfl pd__28Ljava_2flang_2fString_3bI_29I rfl rfl (Nat.le_of_eq rfl) ?_
        rintro _ T30 L30 X30 ⟨rfl, N30q, e30⟩
        have N30 := Fr.app N26 N30q
        show GoE p e below _ (T30.setTop (mkF m 119 #[.val (.int q1), .val (.int q2), .val (.int q3), .val (.int q4), .val (.int q5), .val (.int (2 : Int32)), .val (.int (0 : Int32)), .val (.int (drawV q1)), .val (.int (drawV q2)), .val (.int (drawV q3)), .val (.ref b21), .val (.ref b25), .unset] [.int (klB (drawV q1) (drawV q2))]))
        refine g_istore X30 hx hby at_119 (pc' := 121) rfl (l' := #[.val (.int q1), .val (.int q2), .val (.int q3), .val (.int q4), .val (.int q5), .val (.int (2 : Int32)), .val (.int (0 : Int32)), .val (.int (drawV q1)), .val (.int (drawV q2)), .val (.int (drawV q3)), .val (.ref b21), .val (.ref b25), .val (.int (klB (drawV q1) (drawV q2)))]) rfl ?_
        refine g_iload X30 hx hby at_121 (pc' := 123) rfl rfl ?_
        refine g_aload X30 hx hby at_123 (pc' := 125) rfl rfl rfl ?_
        refine g_iload X30 hx hby at_125 (pc' := 127) rfl rfl ?_
        refine g_iload X30 hx hby at_127 (pc' := 129) rfl rfl ?_
        refine g_callS X30 hx hZ hown (W := 1) (argsL := [.ref b21, .int (2 : Int32), .int (0 : Int32)]) (rest := [.int (klB (drawV q1) (drawV q2))]) hby at_129 (pc' := 132) rfl (by rw [hml]; rfl) (w_87 hw) (w_88 hw) (w_3 hw) (w_89 hw) (by decide) (rmEX2_0 l Z a0 hw [] b21 T26.heap n0 (drawV q1) (drawV q2) _ A26_b21) e30 (by decide) (by decide) (by decide) (by decide) rfl pd__28_5bCII_29I rfl rfl (Nat.le_of_eq rfl) ?_
        rintro _ T31 L31 X31 ⟨rfl, N31q, e31⟩
        have N31 := Fr.app N30 N31q
        show GoE p e below _ (T31.setTop (mkF m 132 #[.val (.int q1), .val (.int q2), .val (.int q3), .val (.int q4), .val (.int q5), .val (.int (2 : Int32)), .val (.int (0 : Int32)), .val (.int (drawV q1)), .val (.int (drawV q2)), .val (.int (drawV q3)), .val (.ref b21), .val (.ref b25), .val (.int (klB (drawV q1) (drawV q2)))] [.int (exB (drawV q1) (drawV q2)), .int (klB (drawV q1) (drawV q2))]))
        refine g_icmp_ne X31 hx hby at_132 (by decide) (pc' := 139) (by decide) (pn := 135) rfl (fun z => absurd z (fun z => z (own_B _ _))) (fun hc132_32 => ?_)
        refine g_iconst X31 hx hby at_135 (pc' := 136) rfl (z := (1 : Int32)) rfl ?_
        refine g_goto X31 hx hby at_136 (by decide) (pc' := 140) (by decide) ?_
        exact g_retN (Q := (fun v h L => v = some (.int 1) ∧ Fr n0 L)) (w := (1 : Int32)) X31 hx hby at_140 hret (by simp) (by first | decide | rfl) hlk (by decide) (by decide) ⟨rfl, N31⟩
    · refine g_eqI (b := (1 : Int32)) hr17_1 ?_
      refine g_istore X0 hx hby at_18 (pc' := 20) rfl (l' := #[.val (.int q1), .val (.int q2), .val (.int q3), .val (.int q4), .val (.int q5), .val (.int (2 : Int32)), .val (.int (1 : Int32)), .unset, .unset, .unset, .unset, .unset, .unset]) rfl ?_
      refine g_iloadN X0 hx hby at_20 (pc' := 21) rfl rfl ?_
      refine g_callS X0 hx hZ hown (W := 0) (argsL := [.int q1]) (rest := []) hby at_21 (pc' := 24) rfl (by rw [hml]; rfl) (w_1 hw) (w_2 hw) (w_3 hw) (w_4 hw) (by decide) (rmD l Z a0 hw [] q1 h0 n0) e0 (by decide) (by decide) (by decide) (by decide) rfl pd__28I_29C rfl rfl (Nat.le_of_eq rfl) ?_
      rintro _ T33 L33 X33 ⟨rfl, N33q, e33⟩
      have N33 := Fr.app N0 N33q
      show GoE p e below _ (T33.setTop (mkF m 24 #[.val (.int q1), .val (.int q2), .val (.int q3), .val (.int q4), .val (.int q5), .val (.int (2 : Int32)), .val (.int (1 : Int32)), .unset, .unset, .unset, .unset, .unset, .unset] [.int (drawV q1)]))
      refine g_istore X33 hx hby at_24 (pc' := 26) rfl (l' := #[.val (.int q1), .val (.int q2), .val (.int q3), .val (.int q4), .val (.int q5), .val (.int (2 : Int32)), .val (.int (1 : Int32)), .val (.int (drawV q1)), .unset, .unset, .unset, .unset, .unset]) rfl ?_
      refine g_iloadN X33 hx hby at_26 (pc' := 27) rfl rfl ?_
      refine g_callS X33 hx hZ hown (W := 0) (argsL := [.int q2]) (rest := []) hby at_27 (pc' := 30) rfl (by rw [hml]; rfl) (w_1 hw) (w_2 hw) (w_3 hw) (w_4 hw) (by decide) (rmD l Z a0 hw [] q2 h0 n0) e33 (by decide) (by decide) (by decide) (by decide) rfl pd__28I_29C rfl rfl (Nat.le_of_eq rfl) ?_
      rintro _ T34 L34 X34 ⟨rfl, N34q, e34⟩
      have N34 := Fr.app N33 N34q
      show GoE p e below _ (T34.setTop (mkF m 30 #[.val (.int q1), .val (.int q2), .val (.int q3), .val (.int q4), .val (.int q5), .val (.int (2 : Int32)), .val (.int (1 : Int32)), .val (.int (drawV q1)), .unset, .unset, .unset, .unset, .unset] [.int (drawV q2)]))
      refine g_istore X34 hx hby at_30 (pc' := 32) rfl (l' := #[.val (.int q1), .val (.int q2), .val (.int q3), .val (.int q4), .val (.int q5), .val (.int (2 : Int32)), .val (.int (1 : Int32)), .val (.int (drawV q1)), .val (.int (drawV q2)), .unset, .unset, .unset, .unset]) rfl ?_
      refine g_iloadN X34 hx hby at_32 (pc' := 33) rfl rfl ?_
      refine g_callS X34 hx hZ hown (W := 0) (argsL := [.int q3]) (rest := []) hby at_33 (pc' := 36) rfl (by rw [hml]; rfl) (w_1 hw) (w_2 hw) (w_3 hw) (w_4 hw) (by decide) (rmD l Z a0 hw [] q3 h0 n0) e34 (by decide) (by decide) (by decide) (by decide) rfl pd__28I_29C rfl rfl (Nat.le_of_eq rfl) ?_
      rintro _ T35 L35 X35 ⟨rfl, N35q, e35⟩
      have N35 := Fr.app N34 N35q
      show GoE p e below _ (T35.setTop (mkF m 36 #[.val (.int q1), .val (.int q2), .val (.int q3), .val (.int q4), .val (.int q5), .val (.int (2 : Int32)), .val (.int (1 : Int32)), .val (.int (drawV q1)), .val (.int (drawV q2)), .unset, .unset, .unset, .unset] [.int (drawV q3)]))
      refine g_istore X35 hx hby at_36 (pc' := 38) rfl (l' := #[.val (.int q1), .val (.int q2), .val (.int q3), .val (.int q4), .val (.int q5), .val (.int (2 : Int32)), .val (.int (1 : Int32)), .val (.int (drawV q1)), .val (.int (drawV q2)), .val (.int (drawV q3)), .unset, .unset, .unset]) rfl ?_
      refine g_iload X35 hx hby at_38 (pc' := 40) rfl rfl ?_
      refine g_iconst X35 hx hby at_40 (pc' := 41) rfl (z := (1 : Int32)) rfl ?_
      refine g_icmp_ne X35 hx hby at_41 (by decide) (pc' := 57) (by decide) (pn := 44) rfl (fun _ => ?_) (fun z => absurd z (by decide))
      refine g_iload X35 hx hby at_57 (pc' := 59) rfl rfl ?_
      refine g_iconst X35 hx hby at_59 (pc' := 60) rfl (z := (2 : Int32)) rfl ?_
      refine g_icmp_ne X35 hx hby at_60 (by decide) (pc' := 81) (by decide) (pn := 63) rfl (fun z => absurd z (by decide)) (fun _ => ?_)
      refine g_iconst X35 hx hby at_63 (pc' := 64) rfl (z := (2 : Int32)) rfl ?_
      refine g_newarray X35 hx hZ 2  "[C" hby at_64 (pc' := 66) rfl (w_7 hw) e35 (by decide) (by decide) (by decide) (by decide) (by decide) rfl ?_
      intro T36 b36 c36 hb36 X36 E36 A36v A36x
      have O36o := O0.ext E36
      have Z36 := Nat.le_trans Z0 E36.1
      have A36 : Arv Z T36.heap b36 c36 .char (2 : Int32) [.int 0, .int 0] (.int 0) := A36v
      refine g_dup X36 hx hby at_66 (pc' := 67) rfl rfl ?_
      refine g_iconst X36 hx hby at_67 (pc' := 68) rfl (z := (0 : Int32)) rfl ?_
      refine g_iload X36 hx hby at_68 (pc' := 70) rfl rfl ?_
      refine g_castore X36 hx hZ 0 hby at_70 (pc' := 71) rfl rfl A36 (by decide) (by decide) (by first | decide | simp) ?_
      intro T37 X37 W37 A37v
      have N37 := Fr.snoc X37 N35 (Nat.le_trans Z0 (Nat.le_of_eq hb36.symm))
      have O37 := O36o.wr W37 (Nat.le_trans Z0 (Nat.le_of_eq hb36.symm))
      have Z37 : n0 ≤ T37.heap.size := (W37.size ▸ Z36)
      have E37_b36 := A36x.wr W37
      have A37 : Arv Z T37.heap b36 c36 .char (2 : Int32) [.int (nar .char (drawV q1)), .int 0] (.int 0) := A37v
      refine g_dup X37 hx hby at_71 (pc' := 72) rfl rfl ?_
      refine g_iconst X37 hx hby at_72 (pc' := 73) rfl (z := (1 : Int32)) rfl ?_
      refine g_iload X37 hx hby at_73 (pc' := 75) rfl rfl ?_
      refine g_castore X37 hx hZ 1 hby at_75 (pc' := 76) rfl rfl A37 (by decide) (by decide) (by first | decide | simp) ?_
      intro T38 X38 W38 A38v
      have N38 := Fr.snoc X38 N37 (Nat.le_trans Z0 (Nat.le_of_eq hb36.symm))
      have O38 := O37.wr W38 (Nat.le_trans Z0 (Nat.le_of_eq hb36.symm))
      have Z38 : n0 ≤ T38.heap.size := (W38.size ▸ Z37)
      have E38_b36 := E37_b36.wr W38
      have A38 : Arv Z T38.heap b36 c36 .char (2 : Int32) [.int (nar .char (drawV q1)), .int (nar .char (drawV q2))] (.int 0) := A38v
      refine g_astore X38 hx hby at_76 (pc' := 78) rfl rfl (l' := #[.val (.int q1), .val (.int q2), .val (.int q3), .val (.int q4), .val (.int q5), .val (.int (2 : Int32)), .val (.int (1 : Int32)), .val (.int (drawV q1)), .val (.int (drawV q2)), .val (.int (drawV q3)), .val (.ref b36), .unset, .unset]) rfl ?_
      refine g_goto X38 hx hby at_78 (by decide) (pc' := 101) (by decide) ?_
      have A39 : Arv Z T38.heap b36 c36 .char (2 : Int32) [.int (drawV q1), .int (drawV q2)] (.int 0) := by
        have z := A38
        rw [own_narc (own_draw q1), own_narc (own_draw q2)] at z
        exact z
      refine g_new X38 hx hZ hown hby at_101 (pc' := 104) rfl (w_8 hw) (w_9 hw) (w_10 hw) rfl (by decide) (by decide) ?_
      intro T40 b40 hb40 X40 E40 A40 D40
      have O40o := O38.ext E40
      have Z40 := Nat.le_trans Z38 E40.1
      have E40_b36 := E38_b36.ext E40
      have ne40_b36 : b36 ≠ b40 := hb40 ▸ Nat.ne_of_lt E38_b36.lt
      have A40_b36 := A39.ext E40
      have F40_coder : Fld Z T40.heap b40 "java/lang/String" "coder" "B" (.int (0 : Int32)) := D40 (Or.inr (w_53 hw)) (ty := .byte) (by decide)
      have F40_value : Fld Z T40.heap b40 "java/lang/String" "value" "[B" (.null) := D40 (Or.inr (w_55 hw)) (ty := (.array .byte)) (by decide)
      refine g_dup X40 hx hby at_104 (pc' := 105) rfl rfl ?_
      refine g_aload X40 hx hby at_105 (pc' := 107) rfl rfl rfl ?_
      refine g_callI X40 hx hZ hown (W := 1) (argsL := [.ref b36]) (b := b40) (rest := [.ref b40]) hby at_107 (pc' := 110) rfl (by rw [hml]; rfl) (w_11 hw) (w_12 hw) (w_10 hw) (w_13 hw) rfl (by decide) (rmS12 l Z a0 hw [] b40 b36 T40.heap n0 (drawV q1) (drawV q2) _ A40_b36 (own_draw q1) (own_draw q2) _ _ Z40 A40 F40_value F40_coder ne40_b36 (Nat.le_trans Z38 (Nat.le_of_eq hb40.symm)) cs fm SS O40o) rfl (by decide) (by decide) (by decide) (by decide) rfl pd__28_5bC_29V rfl rfl (Nat.le_of_eq rfl) ?_
      rintro _ T41 L41 X41 (⟨b41, k41, rfl, N41q, K41, Ei41, Fv41, Fc41, nb41, A41, l41_0, l41_1⟩ | ⟨b41, k41, rfl, N41q, K41, Ei41, Fv41, Fc41, nb41, A41⟩)
      · have N41 := Fr.app N38 N41q
        have O41 := O40o.keep K41 (allS (Nat.le_trans Z38 (Nat.le_of_eq hb40.symm)) all0)
        have Z41 := Nat.le_trans Z40 K41.1
        have E41_b36 := E40_b36.keep K41
        have A41_b36 := A40_b36.keep K41 (ninS ne40_b36 nin0)
        have E41_b40 := A40.keep K41
        show GoE p e below _ (T41.setTop (mkF m 110 #[.val (.int q1), .val (.int q2), .val (.int q3), .val (.int q4), .val (.int q5), .val (.int (2 : Int32)), .val (.int (1 : Int32)), .val (.int (drawV q1)), .val (.int (drawV q2)), .val (.int (drawV q3)), .val (.ref b36), .unset, .unset] [.ref b40]))
        refine g_astore X41 hx hby at_110 (pc' := 112) rfl rfl (l' := #[.val (.int q1), .val (.int q2), .val (.int q3), .val (.int q4), .val (.int q5), .val (.int (2 : Int32)), .val (.int (1 : Int32)), .val (.int (drawV q1)), .val (.int (drawV q2)), .val (.int (drawV q3)), .val (.ref b36), .val (.ref b40), .unset]) rfl ?_
        refine g_aload X41 hx hby at_112 (pc' := 114) rfl rfl rfl ?_
        refine g_iload X41 hx hby at_114 (pc' := 116) rfl rfl ?_
        refine g_callS X41 hx hZ hown (W := 0) (argsL := [.ref b40, .int (1 : Int32)]) (rest := []) hby at_116 (pc' := 119) rfl (by rw [hml]; rfl) (w_56 hw) (w_57 hw) (w_58 hw) (w_59 hw) (by decide) (rmKL2_0_1 l Z a0 hw [] b40 T41.heap n0 (drawV q1) (drawV q2) _ _ (own_draw q1) (own_draw q2) Ei41 Fv41 Fc41 A41 l41_0 l41_1 cs fm SS O41) rfl (by decide) (by decide) (by decide) (by decide) rfl pd__28Ljava_2flang_2fString_3bI_29I rfl rfl (Nat.le_of_eq rfl) ?_
        rintro _ T42 L42 X42 ⟨rfl, N42q, e42⟩
        have N42 := Fr.app N41 N42q
        show GoE p e below _ (T42.setTop (mkF m 119 #[.val (.int q1), .val (.int q2), .val (.int q3), .val (.int q4), .val (.int q5), .val (.int (2 : Int32)), .val (.int (1 : Int32)), .val (.int (drawV q1)), .val (.int (drawV q2)), .val (.int (drawV q3)), .val (.ref b36), .val (.ref b40), .unset] [.int (klA (drawV q2))]))
        refine g_istore X42 hx hby at_119 (pc' := 121) rfl (l' := #[.val (.int q1), .val (.int q2), .val (.int q3), .val (.int q4), .val (.int q5), .val (.int (2 : Int32)), .val (.int (1 : Int32)), .val (.int (drawV q1)), .val (.int (drawV q2)), .val (.int (drawV q3)), .val (.ref b36), .val (.ref b40), .val (.int (klA (drawV q2)))]) rfl ?_
        refine g_iload X42 hx hby at_121 (pc' := 123) rfl rfl ?_
        refine g_aload X42 hx hby at_123 (pc' := 125) rfl rfl rfl ?_
        refine g_iload X42 hx hby at_125 (pc' := 127) rfl rfl ?_
        refine g_iload X42 hx hby at_127 (pc' := 129) rfl rfl ?_
        refine g_callS X42 hx hZ hown (W := 1) (argsL := [.ref b36, .int (2 : Int32), .int (1 : Int32)]) (rest := [.int (klA (drawV q2))]) hby at_129 (pc' := 132) rfl (by rw [hml]; rfl) (w_87 hw) (w_88 hw) (w_3 hw) (w_89 hw) (by decide) (rmEX2_1 l Z a0 hw [] b36 T41.heap n0 (drawV q1) (drawV q2) _ A41_b36) e42 (by decide) (by decide) (by decide) (by decide) rfl pd__28_5bCII_29I rfl rfl (Nat.le_of_eq rfl) ?_
        rintro _ T43 L43 X43 ⟨rfl, N43q, e43⟩
        have N43 := Fr.app N42 N43q
        show GoE p e below _ (T43.setTop (mkF m 132 #[.val (.int q1), .val (.int q2), .val (.int q3), .val (.int q4), .val (.int q5), .val (.int (2 : Int32)), .val (.int (1 : Int32)), .val (.int (drawV q1)), .val (.int (drawV q2)), .val (.int (drawV q3)), .val (.ref b36), .val (.ref b40), .val (.int (klA (drawV q2)))] [.int (exA (drawV q2)), .int (klA (drawV q2))]))
        refine g_icmp_ne X43 hx hby at_132 (by decide) (pc' := 139) (by decide) (pn := 135) rfl (fun z => absurd z (fun z => z (own_A _))) (fun hc132_44 => ?_)
        refine g_iconst X43 hx hby at_135 (pc' := 136) rfl (z := (1 : Int32)) rfl ?_
        refine g_goto X43 hx hby at_136 (by decide) (pc' := 140) (by decide) ?_
        exact g_retN (Q := (fun v h L => v = some (.int 1) ∧ Fr n0 L)) (w := (1 : Int32)) X43 hx hby at_140 hret (by simp) (by first | decide | rfl) hlk (by decide) (by decide) ⟨rfl, N43⟩
      · have N41 := Fr.app N38 N41q
        have O41 := O40o.keep K41 (allS (Nat.le_trans Z38 (Nat.le_of_eq hb40.symm)) all0)
        have Z41 := Nat.le_trans Z40 K41.1
        have E41_b36 := E40_b36.keep K41
        have A41_b36 := A40_b36.keep K41 (ninS ne40_b36 nin0)
        have E41_b40 := A40.keep K41
        show GoE p e below _ (T41.setTop (mkF m 110 #[.val (.int q1), .val (.int q2), .val (.int q3), .val (.int q4), .val (.int q5), .val (.int (2 : Int32)), .val (.int (1 : Int32)), .val (.int (drawV q1)), .val (.int (drawV q2)), .val (.int (drawV q3)), .val (.ref b36), .unset, .unset] [.ref b40]))
        refine g_astore X41 hx hby at_110 (pc' := 112) rfl rfl (l' := #[.val (.int q1), .val (.int q2), .val (.int q3), .val (.int q4), .val (.int q5), .val (.int (2 : Int32)), .val (.int (1 : Int32)), .val (.int (drawV q1)), .val (.int (drawV q2)), .val (.int (drawV q3)), .val (.ref b36), .val (.ref b40), .unset]) rfl ?_
        refine g_aload X41 hx hby at_112 (pc' := 114) rfl rfl rfl ?_
        refine g_iload X41 hx hby at_114 (pc' := 116) rfl rfl ?_
        refine g_callS X41 hx hZ hown (W := 0) (argsL := [.ref b40, .int (1 : Int32)]) (rest := []) hby at_116 (pc' := 119) rfl (by rw [hml]; rfl) (w_56 hw) (w_57 hw) (w_58 hw) (w_59 hw) (by decide) (rmKL2_1_1 l Z a0 hw [] b40 T41.heap n0 (drawV q1) (drawV q2) _ _ (own_draw q1) (own_draw q2) Ei41 Fv41 Fc41 A41 cs fm SS O41) rfl (by decide) (by decide) (by decide) (by decide) rfl pd__28Ljava_2flang_2fString_3bI_29I rfl rfl (Nat.le_of_eq rfl) ?_
        rintro _ T45 L45 X45 ⟨rfl, N45q, e45⟩
        have N45 := Fr.app N41 N45q
        show GoE p e below _ (T45.setTop (mkF m 119 #[.val (.int q1), .val (.int q2), .val (.int q3), .val (.int q4), .val (.int q5), .val (.int (2 : Int32)), .val (.int (1 : Int32)), .val (.int (drawV q1)), .val (.int (drawV q2)), .val (.int (drawV q3)), .val (.ref b36), .val (.ref b40), .unset] [.int (klA (drawV q2))]))
        refine g_istore X45 hx hby at_119 (pc' := 121) rfl (l' := #[.val (.int q1), .val (.int q2), .val (.int q3), .val (.int q4), .val (.int q5), .val (.int (2 : Int32)), .val (.int (1 : Int32)), .val (.int (drawV q1)), .val (.int (drawV q2)), .val (.int (drawV q3)), .val (.ref b36), .val (.ref b40), .val (.int (klA (drawV q2)))]) rfl ?_
        refine g_iload X45 hx hby at_121 (pc' := 123) rfl rfl ?_
        refine g_aload X45 hx hby at_123 (pc' := 125) rfl rfl rfl ?_
        refine g_iload X45 hx hby at_125 (pc' := 127) rfl rfl ?_
        refine g_iload X45 hx hby at_127 (pc' := 129) rfl rfl ?_
        refine g_callS X45 hx hZ hown (W := 1) (argsL := [.ref b36, .int (2 : Int32), .int (1 : Int32)]) (rest := [.int (klA (drawV q2))]) hby at_129 (pc' := 132) rfl (by rw [hml]; rfl) (w_87 hw) (w_88 hw) (w_3 hw) (w_89 hw) (by decide) (rmEX2_1 l Z a0 hw [] b36 T41.heap n0 (drawV q1) (drawV q2) _ A41_b36) e45 (by decide) (by decide) (by decide) (by decide) rfl pd__28_5bCII_29I rfl rfl (Nat.le_of_eq rfl) ?_
        rintro _ T46 L46 X46 ⟨rfl, N46q, e46⟩
        have N46 := Fr.app N45 N46q
        show GoE p e below _ (T46.setTop (mkF m 132 #[.val (.int q1), .val (.int q2), .val (.int q3), .val (.int q4), .val (.int q5), .val (.int (2 : Int32)), .val (.int (1 : Int32)), .val (.int (drawV q1)), .val (.int (drawV q2)), .val (.int (drawV q3)), .val (.ref b36), .val (.ref b40), .val (.int (klA (drawV q2)))] [.int (exA (drawV q2)), .int (klA (drawV q2))]))
        refine g_icmp_ne X46 hx hby at_132 (by decide) (pc' := 139) (by decide) (pn := 135) rfl (fun z => absurd z (fun z => z (own_A _))) (fun hc132_47 => ?_)
        refine g_iconst X46 hx hby at_135 (pc' := 136) rfl (z := (1 : Int32)) rfl ?_
        refine g_goto X46 hx hby at_136 (by decide) (pc' := 140) (by decide) ?_
        exact g_retN (Q := (fun v h L => v = some (.int 1) ∧ Fr n0 L)) (w := (1 : Int32)) X46 hx hby at_140 hret (by simp) (by first | decide | rfl) hlk (by decide) (by decide) ⟨rfl, N46⟩
  · refine g_eqI (b := (3 : Int32)) hr1_2 ?_
    refine g_istore X0 hx hby at_8 (pc' := 10) rfl (l' := #[.val (.int q1), .val (.int q2), .val (.int q3), .val (.int q4), .val (.int q5), .val (.int (3 : Int32)), .unset, .unset, .unset, .unset, .unset, .unset, .unset]) rfl ?_
    refine g_iload X0 hx hby at_10 (pc' := 12) rfl rfl ?_
    refine g_ldcI X0 hx hZ hown hby at_12 (pc' := 14) rfl (w_0 hw) ?_
    refine g_iand X0 hx hby at_14 (pc' := 15) rfl ?_
    refine g_iload X0 hx hby at_15 (pc' := 17) rfl rfl ?_
    refine g_irem X0 hx hby at_17 (pc' := 18) rfl (by decide) ?_
    rcases own_i3 q5 with hr48_0 | hr48_1 | hr48_2
    · refine g_eqI (b := (0 : Int32)) hr48_0 ?_
      refine g_istore X0 hx hby at_18 (pc' := 20) rfl (l' := #[.val (.int q1), .val (.int q2), .val (.int q3), .val (.int q4), .val (.int q5), .val (.int (3 : Int32)), .val (.int (0 : Int32)), .unset, .unset, .unset, .unset, .unset, .unset]) rfl ?_
      refine g_iloadN X0 hx hby at_20 (pc' := 21) rfl rfl ?_
      refine g_callS X0 hx hZ hown (W := 0) (argsL := [.int q1]) (rest := []) hby at_21 (pc' := 24) rfl (by rw [hml]; rfl) (w_1 hw) (w_2 hw) (w_3 hw) (w_4 hw) (by decide) (rmD l Z a0 hw [] q1 h0 n0) e0 (by decide) (by decide) (by decide) (by decide) rfl pd__28I_29C rfl rfl (Nat.le_of_eq rfl) ?_
      rintro _ T49 L49 X49 ⟨rfl, N49q, e49⟩
      have N49 := Fr.app N0 N49q
      show GoE p e below _ (T49.setTop (mkF m 24 #[.val (.int q1), .val (.int q2), .val (.int q3), .val (.int q4), .val (.int q5), .val (.int (3 : Int32)), .val (.int (0 : Int32)), .unset, .unset, .unset, .unset, .unset, .unset] [.int (drawV q1)]))
      refine g_istore X49 hx hby at_24 (pc' := 26) rfl (l' := #[.val (.int q1), .val (.int q2), .val (.int q3), .val (.int q4), .val (.int q5), .val (.int (3 : Int32)), .val (.int (0 : Int32)), .val (.int (drawV q1)), .unset, .unset, .unset, .unset, .unset]) rfl ?_
      refine g_iloadN X49 hx hby at_26 (pc' := 27) rfl rfl ?_
      refine g_callS X49 hx hZ hown (W := 0) (argsL := [.int q2]) (rest := []) hby at_27 (pc' := 30) rfl (by rw [hml]; rfl) (w_1 hw) (w_2 hw) (w_3 hw) (w_4 hw) (by decide) (rmD l Z a0 hw [] q2 h0 n0) e49 (by decide) (by decide) (by decide) (by decide) rfl pd__28I_29C rfl rfl (Nat.le_of_eq rfl) ?_
      rintro _ T50 L50 X50 ⟨rfl, N50q, e50⟩
      have N50 := Fr.app N49 N50q
      show GoE p e below _ (T50.setTop (mkF m 30 #[.val (.int q1), .val (.int q2), .val (.int q3), .val (.int q4), .val (.int q5), .val (.int (3 : Int32)), .val (.int (0 : Int32)), .val (.int (drawV q1)), .unset, .unset, .unset, .unset, .unset] [.int (drawV q2)]))
      refine g_istore X50 hx hby at_30 (pc' := 32) rfl (l' := #[.val (.int q1), .val (.int q2), .val (.int q3), .val (.int q4), .val (.int q5), .val (.int (3 : Int32)), .val (.int (0 : Int32)), .val (.int (drawV q1)), .val (.int (drawV q2)), .unset, .unset, .unset, .unset]) rfl ?_
      refine g_iloadN X50 hx hby at_32 (pc' := 33) rfl rfl ?_
      refine g_callS X50 hx hZ hown (W := 0) (argsL := [.int q3]) (rest := []) hby at_33 (pc' := 36) rfl (by rw [hml]; rfl) (w_1 hw) (w_2 hw) (w_3 hw) (w_4 hw) (by decide) (rmD l Z a0 hw [] q3 h0 n0) e50 (by decide) (by decide) (by decide) (by decide) rfl pd__28I_29C rfl rfl (Nat.le_of_eq rfl) ?_
      rintro _ T51 L51 X51 ⟨rfl, N51q, e51⟩
      have N51 := Fr.app N50 N51q
      show GoE p e below _ (T51.setTop (mkF m 36 #[.val (.int q1), .val (.int q2), .val (.int q3), .val (.int q4), .val (.int q5), .val (.int (3 : Int32)), .val (.int (0 : Int32)), .val (.int (drawV q1)), .val (.int (drawV q2)), .unset, .unset, .unset, .unset] [.int (drawV q3)]))
      refine g_istore X51 hx hby at_36 (pc' := 38) rfl (l' := #[.val (.int q1), .val (.int q2), .val (.int q3), .val (.int q4), .val (.int q5), .val (.int (3 : Int32)), .val (.int (0 : Int32)), .val (.int (drawV q1)), .val (.int (drawV q2)), .val (.int (drawV q3)), .unset, .unset, .unset]) rfl ?_
      refine g_iload X51 hx hby at_38 (pc' := 40) rfl rfl ?_
      refine g_iconst X51 hx hby at_40 (pc' := 41) rfl (z := (1 : Int32)) rfl ?_
      refine g_icmp_ne X51 hx hby at_41 (by decide) (pc' := 57) (by decide) (pn := 44) rfl (fun _ => ?_) (fun z => absurd z (by decide))
      refine g_iload X51 hx hby at_57 (pc' := 59) rfl rfl ?_
      refine g_iconst X51 hx hby at_59 (pc' := 60) rfl (z := (2 : Int32)) rfl ?_
      refine g_icmp_ne X51 hx hby at_60 (by decide) (pc' := 81) (by decide) (pn := 63) rfl (fun _ => ?_) (fun z => absurd z (by decide))
      refine g_iconst X51 hx hby at_81 (pc' := 82) rfl (z := (3 : Int32)) rfl ?_
      refine g_newarray X51 hx hZ 3  "[C" hby at_82 (pc' := 84) rfl (w_7 hw) e51 (by decide) (by decide) (by decide) (by decide) (by decide) rfl ?_
      intro T52 b52 c52 hb52 X52 E52 A52v A52x
      have O52o := O0.ext E52
      have Z52 := Nat.le_trans Z0 E52.1
      have A52 : Arv Z T52.heap b52 c52 .char (3 : Int32) [.int 0, .int 0, .int 0] (.int 0) := A52v
      refine g_dup X52 hx hby at_84 (pc' := 85) rfl rfl ?_
      refine g_iconst X52 hx hby at_85 (pc' := 86) rfl (z := (0 : Int32)) rfl ?_
      refine g_iload X52 hx hby at_86 (pc' := 88) rfl rfl ?_
      refine g_castore X52 hx hZ 0 hby at_88 (pc' := 89) rfl rfl A52 (by decide) (by decide) (by first | decide | simp) ?_
      intro T53 X53 W53 A53v
      have N53 := Fr.snoc X53 N51 (Nat.le_trans Z0 (Nat.le_of_eq hb52.symm))
      have O53 := O52o.wr W53 (Nat.le_trans Z0 (Nat.le_of_eq hb52.symm))
      have Z53 : n0 ≤ T53.heap.size := (W53.size ▸ Z52)
      have E53_b52 := A52x.wr W53
      have A53 : Arv Z T53.heap b52 c52 .char (3 : Int32) [.int (nar .char (drawV q1)), .int 0, .int 0] (.int 0) := A53v
      refine g_dup X53 hx hby at_89 (pc' := 90) rfl rfl ?_
      refine g_iconst X53 hx hby at_90 (pc' := 91) rfl (z := (1 : Int32)) rfl ?_
      refine g_iload X53 hx hby at_91 (pc' := 93) rfl rfl ?_
      refine g_castore X53 hx hZ 1 hby at_93 (pc' := 94) rfl rfl A53 (by decide) (by decide) (by first | decide | simp) ?_
      intro T54 X54 W54 A54v
      have N54 := Fr.snoc X54 N53 (Nat.le_trans Z0 (Nat.le_of_eq hb52.symm))
      have O54 := O53.wr W54 (Nat.le_trans Z0 (Nat.le_of_eq hb52.symm))
      have Z54 : n0 ≤ T54.heap.size := (W54.size ▸ Z53)
      have E54_b52 := E53_b52.wr W54
      have A54 : Arv Z T54.heap b52 c52 .char (3 : Int32) [.int (nar .char (drawV q1)), .int (nar .char (drawV q2)), .int 0] (.int 0) := A54v
      refine g_dup X54 hx hby at_94 (pc' := 95) rfl rfl ?_
      refine g_iconst X54 hx hby at_95 (pc' := 96) rfl (z := (2 : Int32)) rfl ?_
      refine g_iload X54 hx hby at_96 (pc' := 98) rfl rfl ?_
      refine g_castore X54 hx hZ 2 hby at_98 (pc' := 99) rfl rfl A54 (by decide) (by decide) (by first | decide | simp) ?_
      intro T55 X55 W55 A55v
      have N55 := Fr.snoc X55 N54 (Nat.le_trans Z0 (Nat.le_of_eq hb52.symm))
      have O55 := O54.wr W55 (Nat.le_trans Z0 (Nat.le_of_eq hb52.symm))
      have Z55 : n0 ≤ T55.heap.size := (W55.size ▸ Z54)
      have E55_b52 := E54_b52.wr W55
      have A55 : Arv Z T55.heap b52 c52 .char (3 : Int32) [.int (nar .char (drawV q1)), .int (nar .char (drawV q2)), .int (nar .char (drawV q3))] (.int 0) := A55v
      refine g_astore X55 hx hby at_99 (pc' := 101) rfl rfl (l' := #[.val (.int q1), .val (.int q2), .val (.int q3), .val (.int q4), .val (.int q5), .val (.int (3 : Int32)), .val (.int (0 : Int32)), .val (.int (drawV q1)), .val (.int (drawV q2)), .val (.int (drawV q3)), .val (.ref b52), .unset, .unset]) rfl ?_
      have A56 : Arv Z T55.heap b52 c52 .char (3 : Int32) [.int (drawV q1), .int (drawV q2), .int (drawV q3)] (.int 0) := by
        have z := A55
        rw [own_narc (own_draw q1), own_narc (own_draw q2), own_narc (own_draw q3)] at z
        exact z
      refine g_new X55 hx hZ hown hby at_101 (pc' := 104) rfl (w_8 hw) (w_9 hw) (w_10 hw) rfl (by decide) (by decide) ?_
      intro T57 b57 hb57 X57 E57 A57 D57
      have O57o := O55.ext E57
      have Z57 := Nat.le_trans Z55 E57.1
      have E57_b52 := E55_b52.ext E57
      have ne57_b52 : b52 ≠ b57 := hb57 ▸ Nat.ne_of_lt E55_b52.lt
      have A57_b52 := A56.ext E57
      have F57_coder : Fld Z T57.heap b57 "java/lang/String" "coder" "B" (.int (0 : Int32)) := D57 (Or.inr (w_53 hw)) (ty := .byte) (by decide)
      have F57_value : Fld Z T57.heap b57 "java/lang/String" "value" "[B" (.null) := D57 (Or.inr (w_55 hw)) (ty := (.array .byte)) (by decide)
      refine g_dup X57 hx hby at_104 (pc' := 105) rfl rfl ?_
      refine g_aload X57 hx hby at_105 (pc' := 107) rfl rfl rfl ?_
      refine g_callI X57 hx hZ hown (W := 1) (argsL := [.ref b52]) (b := b57) (rest := [.ref b57]) hby at_107 (pc' := 110) rfl (by rw [hml]; rfl) (w_11 hw) (w_12 hw) (w_10 hw) (w_13 hw) rfl (by decide) (rmS13 l Z a0 hw [] b57 b52 T57.heap n0 (drawV q1) (drawV q2) (drawV q3) _ A57_b52 (own_draw q1) (own_draw q2) (own_draw q3) _ _ Z57 A57 F57_value F57_coder ne57_b52 (Nat.le_trans Z55 (Nat.le_of_eq hb57.symm)) cs fm SS O57o) rfl (by decide) (by decide) (by decide) (by decide) rfl pd__28_5bC_29V rfl rfl (Nat.le_of_eq rfl) ?_
      rintro _ T58 L58 X58 (⟨b58, k58, rfl, N58q, K58, Ei58, Fv58, Fc58, nb58, A58, l58_0, l58_1, l58_2⟩ | ⟨b58, k58, rfl, N58q, K58, Ei58, Fv58, Fc58, nb58, A58⟩)
      · have N58 := Fr.app N55 N58q
        have O58 := O57o.keep K58 (allS (Nat.le_trans Z55 (Nat.le_of_eq hb57.symm)) all0)
        have Z58 := Nat.le_trans Z57 K58.1
        have E58_b52 := E57_b52.keep K58
        have A58_b52 := A57_b52.keep K58 (ninS ne57_b52 nin0)
        have E58_b57 := A57.keep K58
        show GoE p e below _ (T58.setTop (mkF m 110 #[.val (.int q1), .val (.int q2), .val (.int q3), .val (.int q4), .val (.int q5), .val (.int (3 : Int32)), .val (.int (0 : Int32)), .val (.int (drawV q1)), .val (.int (drawV q2)), .val (.int (drawV q3)), .val (.ref b52), .unset, .unset] [.ref b57]))
        refine g_astore X58 hx hby at_110 (pc' := 112) rfl rfl (l' := #[.val (.int q1), .val (.int q2), .val (.int q3), .val (.int q4), .val (.int q5), .val (.int (3 : Int32)), .val (.int (0 : Int32)), .val (.int (drawV q1)), .val (.int (drawV q2)), .val (.int (drawV q3)), .val (.ref b52), .val (.ref b57), .unset]) rfl ?_
        refine g_aload X58 hx hby at_112 (pc' := 114) rfl rfl rfl ?_
        refine g_iload X58 hx hby at_114 (pc' := 116) rfl rfl ?_
        refine g_callS X58 hx hZ hown (W := 0) (argsL := [.ref b57, .int (0 : Int32)]) (rest := []) hby at_116 (pc' := 119) rfl (by rw [hml]; rfl) (w_56 hw) (w_57 hw) (w_58 hw) (w_59 hw) (by decide) (rmKL3_0_0 l Z a0 hw [] b57 T58.heap n0 (drawV q1) (drawV q2) (drawV q3) _ _ (own_draw q1) (own_draw q2) (own_draw q3) Ei58 Fv58 Fc58 A58 l58_0 l58_1 l58_2 cs fm SS O58) rfl (by decide) (by decide) (by decide) (by decide) rfl pd__28Ljava_2flang_2fString_3bI_29I rfl rfl (Nat.le_of_eq rfl) ?_
        rintro _ T59 L59 X59 ⟨rfl, N59q, e59⟩
        have N59 := Fr.app N58 N59q
        show GoE p e below _ (T59.setTop (mkF m 119 #[.val (.int q1), .val (.int q2), .val (.int q3), .val (.int q4), .val (.int q5), .val (.int (3 : Int32)), .val (.int (0 : Int32)), .val (.int (drawV q1)), .val (.int (drawV q2)), .val (.int (drawV q3)), .val (.ref b52), .val (.ref b57), .unset] [.int (klB (drawV q1) (drawV q2))]))
        refine g_istore X59 hx hby at_119 (pc' := 121) rfl (l' := #[.val (.int q1), .val (.int q2), .val (.int q3), .val (.int q4), .val (.int q5), .val (.int (3 : Int32)), .val (.int (0 : Int32)), .val (.int (drawV q1)), .val (.int (drawV q2)), .val (.int (drawV q3)), .val (.ref b52), .val (.ref b57), .val (.int (klB (drawV q1) (drawV q2)))]) rfl ?_
        refine g_iload X59 hx hby at_121 (pc' := 123) rfl rfl ?_
        refine g_aload X59 hx hby at_123 (pc' := 125) rfl rfl rfl ?_
        refine g_iload X59 hx hby at_125 (pc' := 127) rfl rfl ?_
        refine g_iload X59 hx hby at_127 (pc' := 129) rfl rfl ?_
        refine g_callS X59 hx hZ hown (W := 1) (argsL := [.ref b52, .int (3 : Int32), .int (0 : Int32)]) (rest := [.int (klB (drawV q1) (drawV q2))]) hby at_129 (pc' := 132) rfl (by rw [hml]; rfl) (w_87 hw) (w_88 hw) (w_3 hw) (w_89 hw) (by decide) (rmEX3_0 l Z a0 hw [] b52 T58.heap n0 (drawV q1) (drawV q2) (drawV q3) _ A58_b52) e59 (by decide) (by decide) (by decide) (by decide) rfl pd__28_5bCII_29I rfl rfl (Nat.le_of_eq rfl) ?_
        rintro _ T60 L60 X60 ⟨rfl, N60q, e60⟩
        have N60 := Fr.app N59 N60q
        show GoE p e below _ (T60.setTop (mkF m 132 #[.val (.int q1), .val (.int q2), .val (.int q3), .val (.int q4), .val (.int q5), .val (.int (3 : Int32)), .val (.int (0 : Int32)), .val (.int (drawV q1)), .val (.int (drawV q2)), .val (.int (drawV q3)), .val (.ref b52), .val (.ref b57), .val (.int (klB (drawV q1) (drawV q2)))] [.int (exB (drawV q1) (drawV q2)), .int (klB (drawV q1) (drawV q2))]))
        refine g_icmp_ne X60 hx hby at_132 (by decide) (pc' := 139) (by decide) (pn := 135) rfl (fun z => absurd z (fun z => z (own_B _ _))) (fun hc132_61 => ?_)
        refine g_iconst X60 hx hby at_135 (pc' := 136) rfl (z := (1 : Int32)) rfl ?_
        refine g_goto X60 hx hby at_136 (by decide) (pc' := 140) (by decide) ?_
        exact g_retN (Q := (fun v h L => v = some (.int 1) ∧ Fr n0 L)) (w := (1 : Int32)) X60 hx hby at_140 hret (by simp) (by first | decide | rfl) hlk (by decide) (by decide) ⟨rfl, N60⟩
      · have N58 := Fr.app N55 N58q
        have O58 := O57o.keep K58 (allS (Nat.le_trans Z55 (Nat.le_of_eq hb57.symm)) all0)
        have Z58 := Nat.le_trans Z57 K58.1
        have E58_b52 := E57_b52.keep K58
        have A58_b52 := A57_b52.keep K58 (ninS ne57_b52 nin0)
        have E58_b57 := A57.keep K58
        show GoE p e below _ (T58.setTop (mkF m 110 #[.val (.int q1), .val (.int q2), .val (.int q3), .val (.int q4), .val (.int q5), .val (.int (3 : Int32)), .val (.int (0 : Int32)), .val (.int (drawV q1)), .val (.int (drawV q2)), .val (.int (drawV q3)), .val (.ref b52), .unset, .unset] [.ref b57]))
        refine g_astore X58 hx hby at_110 (pc' := 112) rfl rfl (l' := #[.val (.int q1), .val (.int q2), .val (.int q3), .val (.int q4), .val (.int q5), .val (.int (3 : Int32)), .val (.int (0 : Int32)), .val (.int (drawV q1)), .val (.int (drawV q2)), .val (.int (drawV q3)), .val (.ref b52), .val (.ref b57), .unset]) rfl ?_
        refine g_aload X58 hx hby at_112 (pc' := 114) rfl rfl rfl ?_
        refine g_iload X58 hx hby at_114 (pc' := 116) rfl rfl ?_
        refine g_callS X58 hx hZ hown (W := 0) (argsL := [.ref b57, .int (0 : Int32)]) (rest := []) hby at_116 (pc' := 119) rfl (by rw [hml]; rfl) (w_56 hw) (w_57 hw) (w_58 hw) (w_59 hw) (by decide) (rmKL3_1_0 l Z a0 hw [] b57 T58.heap n0 (drawV q1) (drawV q2) (drawV q3) _ _ (own_draw q1) (own_draw q2) (own_draw q3) Ei58 Fv58 Fc58 A58 cs fm SS O58) rfl (by decide) (by decide) (by decide) (by decide) rfl pd__28Ljava_2flang_2fString_3bI_29I rfl rfl (Nat.le_of_eq rfl) ?_
        rintro _ T62 L62 X62 ⟨rfl, N62q, e62⟩
        have N62 := Fr.app N58 N62q
        show GoE p e below _ (T62.setTop (mkF m 119 #[.val (.int q1), .val (.int q2), .val (.int q3), .val (.int q4), .val (.int q5), .val (.int (3 : Int32)), .val (.int (0 : Int32)), .val (.int (drawV q1)), .val (.int (drawV q2)), .val (.int (drawV q3)), .val (.ref b52), .val (.ref b57), .unset] [.int (klB (drawV q1) (drawV q2))]))
        refine g_istore X62 hx hby at_119 (pc' := 121) rfl (l' := #[.val (.int q1), .val (.int q2), .val (.int q3), .val (.int q4), .val (.int q5), .val (.int (3 : Int32)), .val (.int (0 : Int32)), .val (.int (drawV q1)), .val (.int (drawV q2)), .val (.int (drawV q3)), .val (.ref b52), .val (.ref b57), .val (.int (klB (drawV q1) (drawV q2)))]) rfl ?_
        refine g_iload X62 hx hby at_121 (pc' := 123) rfl rfl ?_
        refine g_aload X62 hx hby at_123 (pc' := 125) rfl rfl rfl ?_
        refine g_iload X62 hx hby at_125 (pc' := 127) rfl rfl ?_
        refine g_iload X62 hx hby at_127 (pc' := 129) rfl rfl ?_
        refine g_callS X62 hx hZ hown (W := 1) (argsL := [.ref b52, .int (3 : Int32), .int (0 : Int32)]) (rest := [.int (klB (drawV q1) (drawV q2))]) hby at_129 (pc' := 132) rfl (by rw [hml]; rfl) (w_87 hw) (w_88 hw) (w_3 hw) (w_89 hw) (by decide) (rmEX3_0 l Z a0 hw [] b52 T58.heap n0 (drawV q1) (drawV q2) (drawV q3) _ A58_b52) e62 (by decide) (by decide) (by decide) (by decide) rfl pd__28_5bCII_29I rfl rfl (Nat.le_of_eq rfl) ?_
        rintro _ T63 L63 X63 ⟨rfl, N63q, e63⟩
        have N63 := Fr.app N62 N63q
        show GoE p e below _ (T63.setTop (mkF m 132 #[.val (.int q1), .val (.int q2), .val (.int q3), .val (.int q4), .val (.int q5), .val (.int (3 : Int32)), .val (.int (0 : Int32)), .val (.int (drawV q1)), .val (.int (drawV q2)), .val (.int (drawV q3)), .val (.ref b52), .val (.ref b57), .val (.int (klB (drawV q1) (drawV q2)))] [.int (exB (drawV q1) (drawV q2)), .int (klB (drawV q1) (drawV q2))]))
        refine g_icmp_ne X63 hx hby at_132 (by decide) (pc' := 139) (by decide) (pn := 135) rfl (fun z => absurd z (fun z => z (own_B _ _))) (fun hc132_64 => ?_)
        refine g_iconst X63 hx hby at_135 (pc' := 136) rfl (z := (1 : Int32)) rfl ?_
        refine g_goto X63 hx hby at_136 (by decide) (pc' := 140) (by decide) ?_
        exact g_retN (Q := (fun v h L => v = some (.int 1) ∧ Fr n0 L)) (w := (1 : Int32)) X63 hx hby at_140 hret (by simp) (by first | decide | rfl) hlk (by decide) (by decide) ⟨rfl, N63⟩
    · refine g_eqI (b := (1 : Int32)) hr48_1 ?_
      refine g_istore X0 hx hby at_18 (pc' := 20) rfl (l' := #[.val (.int q1), .val (.int q2), .val (.int q3), .val (.int q4), .val (.int q5), .val (.int (3 : Int32)), .val (.int (1 : Int32)), .unset, .unset, .unset, .unset, .unset, .unset]) rfl ?_
      refine g_iloadN X0 hx hby at_20 (pc' := 21) rfl rfl ?_
      refine g_callS X0 hx hZ hown (W := 0) (argsL := [.int q1]) (rest := []) hby at_21 (pc' := 24) rfl (by rw [hml]; rfl) (w_1 hw) (w_2 hw) (w_3 hw) (w_4 hw) (by decide) (rmD l Z a0 hw [] q1 h0 n0) e0 (by decide) (by decide) (by decide) (by decide) rfl pd__28I_29C rfl rfl (Nat.le_of_eq rfl) ?_
      rintro _ T65 L65 X65 ⟨rfl, N65q, e65⟩
      have N65 := Fr.app N0 N65q
      show GoE p e below _ (T65.setTop (mkF m 24 #[.val (.int q1), .val (.int q2), .val (.int q3), .val (.int q4), .val (.int q5), .val (.int (3 : Int32)), .val (.int (1 : Int32)), .unset, .unset, .unset, .unset, .unset, .unset] [.int (drawV q1)]))
      refine g_istore X65 hx hby at_24 (pc' := 26) rfl (l' := #[.val (.int q1), .val (.int q2), .val (.int q3), .val (.int q4), .val (.int q5), .val (.int (3 : Int32)), .val (.int (1 : Int32)), .val (.int (drawV q1)), .unset, .unset, .unset, .unset, .unset]) rfl ?_
      refine g_iloadN X65 hx hby at_26 (pc' := 27) rfl rfl ?_
      refine g_callS X65 hx hZ hown (W := 0) (argsL := [.int q2]) (rest := []) hby at_27 (pc' := 30) rfl (by rw [hml]; rfl) (w_1 hw) (w_2 hw) (w_3 hw) (w_4 hw) (by decide) (rmD l Z a0 hw [] q2 h0 n0) e65 (by decide) (by decide) (by decide) (by decide) rfl pd__28I_29C rfl rfl (Nat.le_of_eq rfl) ?_
      rintro _ T66 L66 X66 ⟨rfl, N66q, e66⟩
      have N66 := Fr.app N65 N66q
      show GoE p e below _ (T66.setTop (mkF m 30 #[.val (.int q1), .val (.int q2), .val (.int q3), .val (.int q4), .val (.int q5), .val (.int (3 : Int32)), .val (.int (1 : Int32)), .val (.int (drawV q1)), .unset, .unset, .unset, .unset, .unset] [.int (drawV q2)]))
      refine g_istore X66 hx hby at_30 (pc' := 32) rfl (l' := #[.val (.int q1), .val (.int q2), .val (.int q3), .val (.int q4), .val (.int q5), .val (.int (3 : Int32)), .val (.int (1 : Int32)), .val (.int (drawV q1)), .val (.int (drawV q2)), .unset, .unset, .unset, .unset]) rfl ?_
      refine g_iloadN X66 hx hby at_32 (pc' := 33) rfl rfl ?_
      refine g_callS X66 hx hZ hown (W := 0) (argsL := [.int q3]) (rest := []) hby at_33 (pc' := 36) rfl (by rw [hml]; rfl) (w_1 hw) (w_2 hw) (w_3 hw) (w_4 hw) (by decide) (rmD l Z a0 hw [] q3 h0 n0) e66 (by decide) (by decide) (by decide) (by decide) rfl pd__28I_29C rfl rfl (Nat.le_of_eq rfl) ?_
      rintro _ T67 L67 X67 ⟨rfl, N67q, e67⟩
      have N67 := Fr.app N66 N67q
      show GoE p e below _ (T67.setTop (mkF m 36 #[.val (.int q1), .val (.int q2), .val (.int q3), .val (.int q4), .val (.int q5), .val (.int (3 : Int32)), .val (.int (1 : Int32)), .val (.int (drawV q1)), .val (.int (drawV q2)), .unset, .unset, .unset, .unset] [.int (drawV q3)]))
      refine g_istore X67 hx hby at_36 (pc' := 38) rfl (l' := #[.val (.int q1), .val (.int q2), .val (.int q3), .val (.int q4), .val (.int q5), .val (.int (3 : Int32)), .val (.int (1 : Int32)), .val (.int (drawV q1)), .val (.int (drawV q2)), .val (.int (drawV q3)), .unset, .unset, .unset]) rfl ?_
      refine g_iload X67 hx hby at_38 (pc' := 40) rfl rfl ?_
      refine g_iconst X67 hx hby at_40 (pc' := 41) rfl (z := (1 : Int32)) rfl ?_
      refine g_icmp_ne X67 hx hby at_41 (by decide) (pc' := 57) (by decide) (pn := 44) rfl (fun _ => ?_) (fun z => absurd z (by decide))
      refine g_iload X67 hx hby at_57 (pc' := 59) rfl rfl ?_
      refine g_iconst X67 hx hby at_59 (pc' := 60) rfl (z := (2 : Int32)) rfl ?_
      refine g_icmp_ne X67 hx hby at_60 (by decide) (pc' := 81) (by decide) (pn := 63) rfl (fun _ => ?_) (fun z => absurd z (by decide))
      refine g_iconst X67 hx hby at_81 (pc' := 82) rfl (z := (3 : Int32)) rfl ?_
      refine g_newarray X67 hx hZ 3  "[C" hby at_82 (pc' := 84) rfl (w_7 hw) e67 (by decide) (by decide) (by decide) (by decide) (by decide) rfl ?_
      intro T68 b68 c68 hb68 X68 E68 A68v A68x
      have O68o := O0.ext E68
      have Z68 := Nat.le_trans Z0 E68.1
      have A68 : Arv Z T68.heap b68 c68 .char (3 : Int32) [.int 0, .int 0, .int 0] (.int 0) := A68v
      refine g_dup X68 hx hby at_84 (pc' := 85) rfl rfl ?_
      refine g_iconst X68 hx hby at_85 (pc' := 86) rfl (z := (0 : Int32)) rfl ?_
      refine g_iload X68 hx hby at_86 (pc' := 88) rfl rfl ?_
      refine g_castore X68 hx hZ 0 hby at_88 (pc' := 89) rfl rfl A68 (by decide) (by decide) (by first | decide | simp) ?_
      intro T69 X69 W69 A69v
      have N69 := Fr.snoc X69 N67 (Nat.le_trans Z0 (Nat.le_of_eq hb68.symm))
      have O69 := O68o.wr W69 (Nat.le_trans Z0 (Nat.le_of_eq hb68.symm))
      have Z69 : n0 ≤ T69.heap.size := (W69.size ▸ Z68)
      have E69_b68 := A68x.wr W69
      have A69 : Arv Z T69.heap b68 c68 .char (3 : Int32) [.int (nar .char (drawV q1)), .int 0, .int 0] (.int 0) := A69v
      refine g_dup X69 hx hby at_89 (pc' := 90) rfl rfl ?_
      refine g_iconst X69 hx hby at_90 (pc' := 91) rfl (z := (1 : Int32)) rfl ?_
      refine g_iload X69 hx hby at_91 (pc' := 93) rfl rfl ?_
      refine g_castore X69 hx hZ 1 hby at_93 (pc' := 94) rfl rfl A69 (by decide) (by decide) (by first | decide | simp) ?_
      intro T70 X70 W70 A70v
      have N70 := Fr.snoc X70 N69 (Nat.le_trans Z0 (Nat.le_of_eq hb68.symm))
      have O70 := O69.wr W70 (Nat.le_trans Z0 (Nat.le_of_eq hb68.symm))
      have Z70 : n0 ≤ T70.heap.size := (W70.size ▸ Z69)
      have E70_b68 := E69_b68.wr W70
      have A70 : Arv Z T70.heap b68 c68 .char (3 : Int32) [.int (nar .char (drawV q1)), .int (nar .char (drawV q2)), .int 0] (.int 0) := A70v
      refine g_dup X70 hx hby at_94 (pc' := 95) rfl rfl ?_
      refine g_iconst X70 hx hby at_95 (pc' := 96) rfl (z := (2 : Int32)) rfl ?_
      refine g_iload X70 hx hby at_96 (pc' := 98) rfl rfl ?_
      refine g_castore X70 hx hZ 2 hby at_98 (pc' := 99) rfl rfl A70 (by decide) (by decide) (by first | decide | simp) ?_
      intro T71 X71 W71 A71v
      have N71 := Fr.snoc X71 N70 (Nat.le_trans Z0 (Nat.le_of_eq hb68.symm))
      have O71 := O70.wr W71 (Nat.le_trans Z0 (Nat.le_of_eq hb68.symm))
      have Z71 : n0 ≤ T71.heap.size := (W71.size ▸ Z70)
      have E71_b68 := E70_b68.wr W71
      have A71 : Arv Z T71.heap b68 c68 .char (3 : Int32) [.int (nar .char (drawV q1)), .int (nar .char (drawV q2)), .int (nar .char (drawV q3))] (.int 0) := A71v
      refine g_astore X71 hx hby at_99 (pc' := 101) rfl rfl (l' := #[.val (.int q1), .val (.int q2), .val (.int q3), .val (.int q4), .val (.int q5), .val (.int (3 : Int32)), .val (.int (1 : Int32)), .val (.int (drawV q1)), .val (.int (drawV q2)), .val (.int (drawV q3)), .val (.ref b68), .unset, .unset]) rfl ?_
      have A72 : Arv Z T71.heap b68 c68 .char (3 : Int32) [.int (drawV q1), .int (drawV q2), .int (drawV q3)] (.int 0) := by
        have z := A71
        rw [own_narc (own_draw q1), own_narc (own_draw q2), own_narc (own_draw q3)] at z
        exact z
      refine g_new X71 hx hZ hown hby at_101 (pc' := 104) rfl (w_8 hw) (w_9 hw) (w_10 hw) rfl (by decide) (by decide) ?_
      intro T73 b73 hb73 X73 E73 A73 D73
      have O73o := O71.ext E73
      have Z73 := Nat.le_trans Z71 E73.1
      have E73_b68 := E71_b68.ext E73
      have ne73_b68 : b68 ≠ b73 := hb73 ▸ Nat.ne_of_lt E71_b68.lt
      have A73_b68 := A72.ext E73
      have F73_coder : Fld Z T73.heap b73 "java/lang/String" "coder" "B" (.int (0 : Int32)) := D73 (Or.inr (w_53 hw)) (ty := .byte) (by decide)
      have F73_value : Fld Z T73.heap b73 "java/lang/String" "value" "[B" (.null) := D73 (Or.inr (w_55 hw)) (ty := (.array .byte)) (by decide)
      refine g_dup X73 hx hby at_104 (pc' := 105) rfl rfl ?_
      refine g_aload X73 hx hby at_105 (pc' := 107) rfl rfl rfl ?_
      refine g_callI X73 hx hZ hown (W := 1) (argsL := [.ref b68]) (b := b73) (rest := [.ref b73]) hby at_107 (pc' := 110) rfl (by rw [hml]; rfl) (w_11 hw) (w_12 hw) (w_10 hw) (w_13 hw) rfl (by decide) (rmS13 l Z a0 hw [] b73 b68 T73.heap n0 (drawV q1) (drawV q2) (drawV q3) _ A73_b68 (own_draw q1) (own_draw q2) (own_draw q3) _ _ Z73 A73 F73_value F73_coder ne73_b68 (Nat.le_trans Z71 (Nat.le_of_eq hb73.symm)) cs fm SS O73o) rfl (by decide) (by decide) (by decide) (by decide) rfl pd__28_5bC_29V rfl rfl (Nat.le_of_eq rfl) ?_
      rintro _ T74 L74 X74 (⟨b74, k74, rfl, N74q, K74, Ei74, Fv74, Fc74, nb74, A74, l74_0, l74_1, l74_2⟩ | ⟨b74, k74, rfl, N74q, K74, Ei74, Fv74, Fc74, nb74, A74⟩)
      · have N74 := Fr.app N71 N74q
        have O74 := O73o.keep K74 (allS (Nat.le_trans Z71 (Nat.le_of_eq hb73.symm)) all0)
        have Z74 := Nat.le_trans Z73 K74.1
        have E74_b68 := E73_b68.keep K74
        have A74_b68 := A73_b68.keep K74 (ninS ne73_b68 nin0)
        have E74_b73 := A73.keep K74
        show GoE p e below _ (T74.setTop (mkF m 110 #[.val (.int q1), .val (.int q2), .val (.int q3), .val (.int q4), .val (.int q5), .val (.int (3 : Int32)), .val (.int (1 : Int32)), .val (.int (drawV q1)), .val (.int (drawV q2)), .val (.int (drawV q3)), .val (.ref b68), .unset, .unset] [.ref b73]))
        refine g_astore X74 hx hby at_110 (pc' := 112) rfl rfl (l' := #[.val (.int q1), .val (.int q2), .val (.int q3), .val (.int q4), .val (.int q5), .val (.int (3 : Int32)), .val (.int (1 : Int32)), .val (.int (drawV q1)), .val (.int (drawV q2)), .val (.int (drawV q3)), .val (.ref b68), .val (.ref b73), .unset]) rfl ?_
        refine g_aload X74 hx hby at_112 (pc' := 114) rfl rfl rfl ?_
        refine g_iload X74 hx hby at_114 (pc' := 116) rfl rfl ?_
        refine g_callS X74 hx hZ hown (W := 0) (argsL := [.ref b73, .int (1 : Int32)]) (rest := []) hby at_116 (pc' := 119) rfl (by rw [hml]; rfl) (w_56 hw) (w_57 hw) (w_58 hw) (w_59 hw) (by decide) (rmKL3_0_1 l Z a0 hw [] b73 T74.heap n0 (drawV q1) (drawV q2) (drawV q3) _ _ (own_draw q1) (own_draw q2) (own_draw q3) Ei74 Fv74 Fc74 A74 l74_0 l74_1 l74_2 cs fm SS O74) rfl (by decide) (by decide) (by decide) (by decide) rfl pd__28Ljava_2flang_2fString_3bI_29I rfl rfl (Nat.le_of_eq rfl) ?_
        rintro _ T75 L75 X75 ⟨rfl, N75q, e75⟩
        have N75 := Fr.app N74 N75q
        show GoE p e below _ (T75.setTop (mkF m 119 #[.val (.int q1), .val (.int q2), .val (.int q3), .val (.int q4), .val (.int q5), .val (.int (3 : Int32)), .val (.int (1 : Int32)), .val (.int (drawV q1)), .val (.int (drawV q2)), .val (.int (drawV q3)), .val (.ref b68), .val (.ref b73), .unset] [.int (klB (drawV q2) (drawV q3))]))
        refine g_istore X75 hx hby at_119 (pc' := 121) rfl (l' := #[.val (.int q1), .val (.int q2), .val (.int q3), .val (.int q4), .val (.int q5), .val (.int (3 : Int32)), .val (.int (1 : Int32)), .val (.int (drawV q1)), .val (.int (drawV q2)), .val (.int (drawV q3)), .val (.ref b68), .val (.ref b73), .val (.int (klB (drawV q2) (drawV q3)))]) rfl ?_
        refine g_iload X75 hx hby at_121 (pc' := 123) rfl rfl ?_
        refine g_aload X75 hx hby at_123 (pc' := 125) rfl rfl rfl ?_
        refine g_iload X75 hx hby at_125 (pc' := 127) rfl rfl ?_
        refine g_iload X75 hx hby at_127 (pc' := 129) rfl rfl ?_
        refine g_callS X75 hx hZ hown (W := 1) (argsL := [.ref b68, .int (3 : Int32), .int (1 : Int32)]) (rest := [.int (klB (drawV q2) (drawV q3))]) hby at_129 (pc' := 132) rfl (by rw [hml]; rfl) (w_87 hw) (w_88 hw) (w_3 hw) (w_89 hw) (by decide) (rmEX3_1 l Z a0 hw [] b68 T74.heap n0 (drawV q1) (drawV q2) (drawV q3) _ A74_b68) e75 (by decide) (by decide) (by decide) (by decide) rfl pd__28_5bCII_29I rfl rfl (Nat.le_of_eq rfl) ?_
        rintro _ T76 L76 X76 ⟨rfl, N76q, e76⟩
        have N76 := Fr.app N75 N76q
        show GoE p e below _ (T76.setTop (mkF m 132 #[.val (.int q1), .val (.int q2), .val (.int q3), .val (.int q4), .val (.int q5), .val (.int (3 : Int32)), .val (.int (1 : Int32)), .val (.int (drawV q1)), .val (.int (drawV q2)), .val (.int (drawV q3)), .val (.ref b68), .val (.ref b73), .val (.int (klB (drawV q2) (drawV q3)))] [.int (exB (drawV q2) (drawV q3)), .int (klB (drawV q2) (drawV q3))]))
        refine g_icmp_ne X76 hx hby at_132 (by decide) (pc' := 139) (by decide) (pn := 135) rfl (fun z => absurd z (fun z => z (own_B _ _))) (fun hc132_77 => ?_)
        refine g_iconst X76 hx hby at_135 (pc' := 136) rfl (z := (1 : Int32)) rfl ?_
        refine g_goto X76 hx hby at_136 (by decide) (pc' := 140) (by decide) ?_
        exact g_retN (Q := (fun v h L => v = some (.int 1) ∧ Fr n0 L)) (w := (1 : Int32)) X76 hx hby at_140 hret (by simp) (by first | decide | rfl) hlk (by decide) (by decide) ⟨rfl, N76⟩
      · have N74 := Fr.app N71 N74q
        have O74 := O73o.keep K74 (allS (Nat.le_trans Z71 (Nat.le_of_eq hb73.symm)) all0)
        have Z74 := Nat.le_trans Z73 K74.1
        have E74_b68 := E73_b68.keep K74
        have A74_b68 := A73_b68.keep K74 (ninS ne73_b68 nin0)
        have E74_b73 := A73.keep K74
        show GoE p e below _ (T74.setTop (mkF m 110 #[.val (.int q1), .val (.int q2), .val (.int q3), .val (.int q4), .val (.int q5), .val (.int (3 : Int32)), .val (.int (1 : Int32)), .val (.int (drawV q1)), .val (.int (drawV q2)), .val (.int (drawV q3)), .val (.ref b68), .unset, .unset] [.ref b73]))
        refine g_astore X74 hx hby at_110 (pc' := 112) rfl rfl (l' := #[.val (.int q1), .val (.int q2), .val (.int q3), .val (.int q4), .val (.int q5), .val (.int (3 : Int32)), .val (.int (1 : Int32)), .val (.int (drawV q1)), .val (.int (drawV q2)), .val (.int (drawV q3)), .val (.ref b68), .val (.ref b73), .unset]) rfl ?_
        refine g_aload X74 hx hby at_112 (pc' := 114) rfl rfl rfl ?_
        refine g_iload X74 hx hby at_114 (pc' := 116) rfl rfl ?_
        refine g_callS X74 hx hZ hown (W := 0) (argsL := [.ref b73, .int (1 : Int32)]) (rest := []) hby at_116 (pc' := 119) rfl (by rw [hml]; rfl) (w_56 hw) (w_57 hw) (w_58 hw) (w_59 hw) (by decide) (rmKL3_1_1 l Z a0 hw [] b73 T74.heap n0 (drawV q1) (drawV q2) (drawV q3) _ _ (own_draw q1) (own_draw q2) (own_draw q3) Ei74 Fv74 Fc74 A74 cs fm SS O74) rfl (by decide) (by decide) (by decide) (by decide) rfl pd__28Ljava_2flang_2fString_3bI_29I rfl rfl (Nat.le_of_eq rfl) ?_
        rintro _ T78 L78 X78 ⟨rfl, N78q, e78⟩
        have N78 := Fr.app N74 N78q
        show GoE p e below _ (T78.setTop (mkF m 119 #[.val (.int q1), .val (.int q2), .val (.int q3), .val (.int q4), .val (.int q5), .val (.int (3 : Int32)), .val (.int (1 : Int32)), .val (.int (drawV q1)), .val (.int (drawV q2)), .val (.int (drawV q3)), .val (.ref b68), .val (.ref b73), .unset] [.int (klB (drawV q2) (drawV q3))]))
        refine g_istore X78 hx hby at_119 (pc' := 121) rfl (l' := #[.val (.int q1), .val (.int q2), .val (.int q3), .val (.int q4), .val (.int q5), .val (.int (3 : Int32)), .val (.int (1 : Int32)), .val (.int (drawV q1)), .val (.int (drawV q2)), .val (.int (drawV q3)), .val (.ref b68), .val (.ref b73), .val (.int (klB (drawV q2) (drawV q3)))]) rfl ?_
        refine g_iload X78 hx hby at_121 (pc' := 123) rfl rfl ?_
        refine g_aload X78 hx hby at_123 (pc' := 125) rfl rfl rfl ?_
        refine g_iload X78 hx hby at_125 (pc' := 127) rfl rfl ?_
        refine g_iload X78 hx hby at_127 (pc' := 129) rfl rfl ?_
        refine g_callS X78 hx hZ hown (W := 1) (argsL := [.ref b68, .int (3 : Int32), .int (1 : Int32)]) (rest := [.int (klB (drawV q2) (drawV q3))]) hby at_129 (pc' := 132) rfl (by rw [hml]; rfl) (w_87 hw) (w_88 hw) (w_3 hw) (w_89 hw) (by decide) (rmEX3_1 l Z a0 hw [] b68 T74.heap n0 (drawV q1) (drawV q2) (drawV q3) _ A74_b68) e78 (by decide) (by decide) (by decide) (by decide) rfl pd__28_5bCII_29I rfl rfl (Nat.le_of_eq rfl) ?_
        rintro _ T79 L79 X79 ⟨rfl, N79q, e79⟩
        have N79 := Fr.app N78 N79q
        show GoE p e below _ (T79.setTop (mkF m 132 #[.val (.int q1), .val (.int q2), .val (.int q3), .val (.int q4), .val (.int q5), .val (.int (3 : Int32)), .val (.int (1 : Int32)), .val (.int (drawV q1)), .val (.int (drawV q2)), .val (.int (drawV q3)), .val (.ref b68), .val (.ref b73), .val (.int (klB (drawV q2) (drawV q3)))] [.int (exB (drawV q2) (drawV q3)), .int (klB (drawV q2) (drawV q3))]))
        refine g_icmp_ne X79 hx hby at_132 (by decide) (pc' := 139) (by decide) (pn := 135) rfl (fun z => absurd z (fun z => z (own_B _ _))) (fun hc132_80 => ?_)
        refine g_iconst X79 hx hby at_135 (pc' := 136) rfl (z := (1 : Int32)) rfl ?_
        refine g_goto X79 hx hby at_136 (by decide) (pc' := 140) (by decide) ?_
        exact g_retN (Q := (fun v h L => v = some (.int 1) ∧ Fr n0 L)) (w := (1 : Int32)) X79 hx hby at_140 hret (by simp) (by first | decide | rfl) hlk (by decide) (by decide) ⟨rfl, N79⟩
    · refine g_eqI (b := (2 : Int32)) hr48_2 ?_
      refine g_istore X0 hx hby at_18 (pc' := 20) rfl (l' := #[.val (.int q1), .val (.int q2), .val (.int q3), .val (.int q4), .val (.int q5), .val (.int (3 : Int32)), .val (.int (2 : Int32)), .unset, .unset, .unset, .unset, .unset, .unset]) rfl ?_
      refine g_iloadN X0 hx hby at_20 (pc' := 21) rfl rfl ?_
      refine g_callS X0 hx hZ hown (W := 0) (argsL := [.int q1]) (rest := []) hby at_21 (pc' := 24) rfl (by rw [hml]; rfl) (w_1 hw) (w_2 hw) (w_3 hw) (w_4 hw) (by decide) (rmD l Z a0 hw [] q1 h0 n0) e0 (by decide) (by decide) (by decide) (by decide) rfl pd__28I_29C rfl rfl (Nat.le_of_eq rfl) ?_
      rintro _ T81 L81 X81 ⟨rfl, N81q, e81⟩
      have N81 := Fr.app N0 N81q
      show GoE p e below _ (T81.setTop (mkF m 24 #[.val (.int q1), .val (.int q2), .val (.int q3), .val (.int q4), .val (.int q5), .val (.int (3 : Int32)), .val (.int (2 : Int32)), .unset, .unset, .unset, .unset, .unset, .unset] [.int (drawV q1)]))
      refine g_istore X81 hx hby at_24 (pc' := 26) rfl (l' := #[.val (.int q1), .val (.int q2), .val (.int q3), .val (.int q4), .val (.int q5), .val (.int (3 : Int32)), .val (.int (2 : Int32)), .val (.int (drawV q1)), .unset, .unset, .unset, .unset, .unset]) rfl ?_
      refine g_iloadN X81 hx hby at_26 (pc' := 27) rfl rfl ?_
      refine g_callS X81 hx hZ hown (W := 0) (argsL := [.int q2]) (rest := []) hby at_27 (pc' := 30) rfl (by rw [hml]; rfl) (w_1 hw) (w_2 hw) (w_3 hw) (w_4 hw) (by decide) (rmD l Z a0 hw [] q2 h0 n0) e81 (by decide) (by decide) (by decide) (by decide) rfl pd__28I_29C rfl rfl (Nat.le_of_eq rfl) ?_
      rintro _ T82 L82 X82 ⟨rfl, N82q, e82⟩
      have N82 := Fr.app N81 N82q
      show GoE p e below _ (T82.setTop (mkF m 30 #[.val (.int q1), .val (.int q2), .val (.int q3), .val (.int q4), .val (.int q5), .val (.int (3 : Int32)), .val (.int (2 : Int32)), .val (.int (drawV q1)), .unset, .unset, .unset, .unset, .unset] [.int (drawV q2)]))
      refine g_istore X82 hx hby at_30 (pc' := 32) rfl (l' := #[.val (.int q1), .val (.int q2), .val (.int q3), .val (.int q4), .val (.int q5), .val (.int (3 : Int32)), .val (.int (2 : Int32)), .val (.int (drawV q1)), .val (.int (drawV q2)), .unset, .unset, .unset, .unset]) rfl ?_
      refine g_iloadN X82 hx hby at_32 (pc' := 33) rfl rfl ?_
      refine g_callS X82 hx hZ hown (W := 0) (argsL := [.int q3]) (rest := []) hby at_33 (pc' := 36) rfl (by rw [hml]; rfl) (w_1 hw) (w_2 hw) (w_3 hw) (w_4 hw) (by decide) (rmD l Z a0 hw [] q3 h0 n0) e82 (by decide) (by decide) (by decide) (by decide) rfl pd__28I_29C rfl rfl (Nat.le_of_eq rfl) ?_
      rintro _ T83 L83 X83 ⟨rfl, N83q, e83⟩
      have N83 := Fr.app N82 N83q
      show GoE p e below _ (T83.setTop (mkF m 36 #[.val (.int q1), .val (.int q2), .val (.int q3), .val (.int q4), .val (.int q5), .val (.int (3 : Int32)), .val (.int (2 : Int32)), .val (.int (drawV q1)), .val (.int (drawV q2)), .unset, .unset, .unset, .unset] [.int (drawV q3)]))
      refine g_istore X83 hx hby at_36 (pc' := 38) rfl (l' := #[.val (.int q1), .val (.int q2), .val (.int q3), .val (.int q4), .val (.int q5), .val (.int (3 : Int32)), .val (.int (2 : Int32)), .val (.int (drawV q1)), .val (.int (drawV q2)), .val (.int (drawV q3)), .unset, .unset, .unset]) rfl ?_
      refine g_iload X83 hx hby at_38 (pc' := 40) rfl rfl ?_
      refine g_iconst X83 hx hby at_40 (pc' := 41) rfl (z := (1 : Int32)) rfl ?_
      refine g_icmp_ne X83 hx hby at_41 (by decide) (pc' := 57) (by decide) (pn := 44) rfl (fun _ => ?_) (fun z => absurd z (by decide))
      refine g_iload X83 hx hby at_57 (pc' := 59) rfl rfl ?_
      refine g_iconst X83 hx hby at_59 (pc' := 60) rfl (z := (2 : Int32)) rfl ?_
      refine g_icmp_ne X83 hx hby at_60 (by decide) (pc' := 81) (by decide) (pn := 63) rfl (fun _ => ?_) (fun z => absurd z (by decide))
      refine g_iconst X83 hx hby at_81 (pc' := 82) rfl (z := (3 : Int32)) rfl ?_
      refine g_newarray X83 hx hZ 3  "[C" hby at_82 (pc' := 84) rfl (w_7 hw) e83 (by decide) (by decide) (by decide) (by decide) (by decide) rfl ?_
      intro T84 b84 c84 hb84 X84 E84 A84v A84x
      have O84o := O0.ext E84
      have Z84 := Nat.le_trans Z0 E84.1
      have A84 : Arv Z T84.heap b84 c84 .char (3 : Int32) [.int 0, .int 0, .int 0] (.int 0) := A84v
      refine g_dup X84 hx hby at_84 (pc' := 85) rfl rfl ?_
      refine g_iconst X84 hx hby at_85 (pc' := 86) rfl (z := (0 : Int32)) rfl ?_
      refine g_iload X84 hx hby at_86 (pc' := 88) rfl rfl ?_
      refine g_castore X84 hx hZ 0 hby at_88 (pc' := 89) rfl rfl A84 (by decide) (by decide) (by first | decide | simp) ?_
      intro T85 X85 W85 A85v
      have N85 := Fr.snoc X85 N83 (Nat.le_trans Z0 (Nat.le_of_eq hb84.symm))
      have O85 := O84o.wr W85 (Nat.le_trans Z0 (Nat.le_of_eq hb84.symm))
      have Z85 : n0 ≤ T85.heap.size := (W85.size ▸ Z84)
      have E85_b84 := A84x.wr W85
      have A85 : Arv Z T85.heap b84 c84 .char (3 : Int32) [.int (nar .char (drawV q1)), .int 0, .int 0] (.int 0) := A85v
      refine g_dup X85 hx hby at_89 (pc' := 90) rfl rfl ?_
      refine g_iconst X85 hx hby at_90 (pc' := 91) rfl (z := (1 : Int32)) rfl ?_
      refine g_iload X85 hx hby at_91 (pc' := 93) rfl rfl ?_
      refine g_castore X85 hx hZ 1 hby at_93 (pc' := 94) rfl rfl A85 (by decide) (by decide) (by first | decide | simp) ?_
      intro T86 X86 W86 A86v
      have N86 := Fr.snoc X86 N85 (Nat.le_trans Z0 (Nat.le_of_eq hb84.symm))
      have O86 := O85.wr W86 (Nat.le_trans Z0 (Nat.le_of_eq hb84.symm))
      have Z86 : n0 ≤ T86.heap.size := (W86.size ▸ Z85)
      have E86_b84 := E85_b84.wr W86
      have A86 : Arv Z T86.heap b84 c84 .char (3 : Int32) [.int (nar .char (drawV q1)), .int (nar .char (drawV q2)), .int 0] (.int 0) := A86v
      refine g_dup X86 hx hby at_94 (pc' := 95) rfl rfl ?_
      refine g_iconst X86 hx hby at_95 (pc' := 96) rfl (z := (2 : Int32)) rfl ?_
      refine g_iload X86 hx hby at_96 (pc' := 98) rfl rfl ?_
      refine g_castore X86 hx hZ 2 hby at_98 (pc' := 99) rfl rfl A86 (by decide) (by decide) (by first | decide | simp) ?_
      intro T87 X87 W87 A87v
      have N87 := Fr.snoc X87 N86 (Nat.le_trans Z0 (Nat.le_of_eq hb84.symm))
      have O87 := O86.wr W87 (Nat.le_trans Z0 (Nat.le_of_eq hb84.symm))
      have Z87 : n0 ≤ T87.heap.size := (W87.size ▸ Z86)
      have E87_b84 := E86_b84.wr W87
      have A87 : Arv Z T87.heap b84 c84 .char (3 : Int32) [.int (nar .char (drawV q1)), .int (nar .char (drawV q2)), .int (nar .char (drawV q3))] (.int 0) := A87v
      refine g_astore X87 hx hby at_99 (pc' := 101) rfl rfl (l' := #[.val (.int q1), .val (.int q2), .val (.int q3), .val (.int q4), .val (.int q5), .val (.int (3 : Int32)), .val (.int (2 : Int32)), .val (.int (drawV q1)), .val (.int (drawV q2)), .val (.int (drawV q3)), .val (.ref b84), .unset, .unset]) rfl ?_
      have A88 : Arv Z T87.heap b84 c84 .char (3 : Int32) [.int (drawV q1), .int (drawV q2), .int (drawV q3)] (.int 0) := by
        have z := A87
        rw [own_narc (own_draw q1), own_narc (own_draw q2), own_narc (own_draw q3)] at z
        exact z
      refine g_new X87 hx hZ hown hby at_101 (pc' := 104) rfl (w_8 hw) (w_9 hw) (w_10 hw) rfl (by decide) (by decide) ?_
      intro T89 b89 hb89 X89 E89 A89 D89
      have O89o := O87.ext E89
      have Z89 := Nat.le_trans Z87 E89.1
      have E89_b84 := E87_b84.ext E89
      have ne89_b84 : b84 ≠ b89 := hb89 ▸ Nat.ne_of_lt E87_b84.lt
      have A89_b84 := A88.ext E89
      have F89_coder : Fld Z T89.heap b89 "java/lang/String" "coder" "B" (.int (0 : Int32)) := D89 (Or.inr (w_53 hw)) (ty := .byte) (by decide)
      have F89_value : Fld Z T89.heap b89 "java/lang/String" "value" "[B" (.null) := D89 (Or.inr (w_55 hw)) (ty := (.array .byte)) (by decide)
      refine g_dup X89 hx hby at_104 (pc' := 105) rfl rfl ?_
      refine g_aload X89 hx hby at_105 (pc' := 107) rfl rfl rfl ?_
      refine g_callI X89 hx hZ hown (W := 1) (argsL := [.ref b84]) (b := b89) (rest := [.ref b89]) hby at_107 (pc' := 110) rfl (by rw [hml]; rfl) (w_11 hw) (w_12 hw) (w_10 hw) (w_13 hw) rfl (by decide) (rmS13 l Z a0 hw [] b89 b84 T89.heap n0 (drawV q1) (drawV q2) (drawV q3) _ A89_b84 (own_draw q1) (own_draw q2) (own_draw q3) _ _ Z89 A89 F89_value F89_coder ne89_b84 (Nat.le_trans Z87 (Nat.le_of_eq hb89.symm)) cs fm SS O89o) rfl (by decide) (by decide) (by decide) (by decide) rfl pd__28_5bC_29V rfl rfl (Nat.le_of_eq rfl) ?_
      rintro _ T90 L90 X90 (⟨b90, k90, rfl, N90q, K90, Ei90, Fv90, Fc90, nb90, A90, l90_0, l90_1, l90_2⟩ | ⟨b90, k90, rfl, N90q, K90, Ei90, Fv90, Fc90, nb90, A90⟩)
      · have N90 := Fr.app N87 N90q
        have O90 := O89o.keep K90 (allS (Nat.le_trans Z87 (Nat.le_of_eq hb89.symm)) all0)
        have Z90 := Nat.le_trans Z89 K90.1
        have E90_b84 := E89_b84.keep K90
        have A90_b84 := A89_b84.keep K90 (ninS ne89_b84 nin0)
        have E90_b89 := A89.keep K90
        show GoE p e below _ (T90.setTop (mkF m 110 #[.val (.int q1), .val (.int q2), .val (.int q3), .val (.int q4), .val (.int q5), .val (.int (3 : Int32)), .val (.int (2 : Int32)), .val (.int (drawV q1)), .val (.int (drawV q2)), .val (.int (drawV q3)), .val (.ref b84), .unset, .unset] [.ref b89]))
        refine g_astore X90 hx hby at_110 (pc' := 112) rfl rfl (l' := #[.val (.int q1), .val (.int q2), .val (.int q3), .val (.int q4), .val (.int q5), .val (.int (3 : Int32)), .val (.int (2 : Int32)), .val (.int (drawV q1)), .val (.int (drawV q2)), .val (.int (drawV q3)), .val (.ref b84), .val (.ref b89), .unset]) rfl ?_
        refine g_aload X90 hx hby at_112 (pc' := 114) rfl rfl rfl ?_
        refine g_iload X90 hx hby at_114 (pc' := 116) rfl rfl ?_
        refine g_callS X90 hx hZ hown (W := 0) (argsL := [.ref b89, .int (2 : Int32)]) (rest := []) hby at_116 (pc' := 119) rfl (by rw [hml]; rfl) (w_56 hw) (w_57 hw) (w_58 hw) (w_59 hw) (by decide) (rmKL3_0_2 l Z a0 hw [] b89 T90.heap n0 (drawV q1) (drawV q2) (drawV q3) _ _ (own_draw q1) (own_draw q2) (own_draw q3) Ei90 Fv90 Fc90 A90 l90_0 l90_1 l90_2 cs fm SS O90) rfl (by decide) (by decide) (by decide) (by decide) rfl pd__28Ljava_2flang_2fString_3bI_29I rfl rfl (Nat.le_of_eq rfl) ?_
        rintro _ T91 L91 X91 ⟨rfl, N91q, e91⟩
        have N91 := Fr.app N90 N91q
        show GoE p e below _ (T91.setTop (mkF m 119 #[.val (.int q1), .val (.int q2), .val (.int q3), .val (.int q4), .val (.int q5), .val (.int (3 : Int32)), .val (.int (2 : Int32)), .val (.int (drawV q1)), .val (.int (drawV q2)), .val (.int (drawV q3)), .val (.ref b84), .val (.ref b89), .unset] [.int (klA (drawV q3))]))
        refine g_istore X91 hx hby at_119 (pc' := 121) rfl (l' := #[.val (.int q1), .val (.int q2), .val (.int q3), .val (.int q4), .val (.int q5), .val (.int (3 : Int32)), .val (.int (2 : Int32)), .val (.int (drawV q1)), .val (.int (drawV q2)), .val (.int (drawV q3)), .val (.ref b84), .val (.ref b89), .val (.int (klA (drawV q3)))]) rfl ?_
        refine g_iload X91 hx hby at_121 (pc' := 123) rfl rfl ?_
        refine g_aload X91 hx hby at_123 (pc' := 125) rfl rfl rfl ?_
        refine g_iload X91 hx hby at_125 (pc' := 127) rfl rfl ?_
        refine g_iload X91 hx hby at_127 (pc' := 129) rfl rfl ?_
        refine g_callS X91 hx hZ hown (W := 1) (argsL := [.ref b84, .int (3 : Int32), .int (2 : Int32)]) (rest := [.int (klA (drawV q3))]) hby at_129 (pc' := 132) rfl (by rw [hml]; rfl) (w_87 hw) (w_88 hw) (w_3 hw) (w_89 hw) (by decide) (rmEX3_2 l Z a0 hw [] b84 T90.heap n0 (drawV q1) (drawV q2) (drawV q3) _ A90_b84) e91 (by decide) (by decide) (by decide) (by decide) rfl pd__28_5bCII_29I rfl rfl (Nat.le_of_eq rfl) ?_
        rintro _ T92 L92 X92 ⟨rfl, N92q, e92⟩
        have N92 := Fr.app N91 N92q
        show GoE p e below _ (T92.setTop (mkF m 132 #[.val (.int q1), .val (.int q2), .val (.int q3), .val (.int q4), .val (.int q5), .val (.int (3 : Int32)), .val (.int (2 : Int32)), .val (.int (drawV q1)), .val (.int (drawV q2)), .val (.int (drawV q3)), .val (.ref b84), .val (.ref b89), .val (.int (klA (drawV q3)))] [.int (exA (drawV q3)), .int (klA (drawV q3))]))
        refine g_icmp_ne X92 hx hby at_132 (by decide) (pc' := 139) (by decide) (pn := 135) rfl (fun z => absurd z (fun z => z (own_A _))) (fun hc132_93 => ?_)
        refine g_iconst X92 hx hby at_135 (pc' := 136) rfl (z := (1 : Int32)) rfl ?_
        refine g_goto X92 hx hby at_136 (by decide) (pc' := 140) (by decide) ?_
        exact g_retN (Q := (fun v h L => v = some (.int 1) ∧ Fr n0 L)) (w := (1 : Int32)) X92 hx hby at_140 hret (by simp) (by first | decide | rfl) hlk (by decide) (by decide) ⟨rfl, N92⟩
      · have N90 := Fr.app N87 N90q
        have O90 := O89o.keep K90 (allS (Nat.le_trans Z87 (Nat.le_of_eq hb89.symm)) all0)
        have Z90 := Nat.le_trans Z89 K90.1
        have E90_b84 := E89_b84.keep K90
        have A90_b84 := A89_b84.keep K90 (ninS ne89_b84 nin0)
        have E90_b89 := A89.keep K90
        show GoE p e below _ (T90.setTop (mkF m 110 #[.val (.int q1), .val (.int q2), .val (.int q3), .val (.int q4), .val (.int q5), .val (.int (3 : Int32)), .val (.int (2 : Int32)), .val (.int (drawV q1)), .val (.int (drawV q2)), .val (.int (drawV q3)), .val (.ref b84), .unset, .unset] [.ref b89]))
        refine g_astore X90 hx hby at_110 (pc' := 112) rfl rfl (l' := #[.val (.int q1), .val (.int q2), .val (.int q3), .val (.int q4), .val (.int q5), .val (.int (3 : Int32)), .val (.int (2 : Int32)), .val (.int (drawV q1)), .val (.int (drawV q2)), .val (.int (drawV q3)), .val (.ref b84), .val (.ref b89), .unset]) rfl ?_
        refine g_aload X90 hx hby at_112 (pc' := 114) rfl rfl rfl ?_
        refine g_iload X90 hx hby at_114 (pc' := 116) rfl rfl ?_
        refine g_callS X90 hx hZ hown (W := 0) (argsL := [.ref b89, .int (2 : Int32)]) (rest := []) hby at_116 (pc' := 119) rfl (by rw [hml]; rfl) (w_56 hw) (w_57 hw) (w_58 hw) (w_59 hw) (by decide) (rmKL3_1_2 l Z a0 hw [] b89 T90.heap n0 (drawV q1) (drawV q2) (drawV q3) _ _ (own_draw q1) (own_draw q2) (own_draw q3) Ei90 Fv90 Fc90 A90 cs fm SS O90) rfl (by decide) (by decide) (by decide) (by decide) rfl pd__28Ljava_2flang_2fString_3bI_29I rfl rfl (Nat.le_of_eq rfl) ?_
        rintro _ T94 L94 X94 ⟨rfl, N94q, e94⟩
        have N94 := Fr.app N90 N94q
        show GoE p e below _ (T94.setTop (mkF m 119 #[.val (.int q1), .val (.int q2), .val (.int q3), .val (.int q4), .val (.int q5), .val (.int (3 : Int32)), .val (.int (2 : Int32)), .val (.int (drawV q1)), .val (.int (drawV q2)), .val (.int (drawV q3)), .val (.ref b84), .val (.ref b89), .unset] [.int (klA (drawV q3))]))
        refine g_istore X94 hx hby at_119 (pc' := 121) rfl (l' := #[.val (.int q1), .val (.int q2), .val (.int q3), .val (.int q4), .val (.int q5), .val (.int (3 : Int32)), .val (.int (2 : Int32)), .val (.int (drawV q1)), .val (.int (drawV q2)), .val (.int (drawV q3)), .val (.ref b84), .val (.ref b89), .val (.int (klA (drawV q3)))]) rfl ?_
        refine g_iload X94 hx hby at_121 (pc' := 123) rfl rfl ?_
        refine g_aload X94 hx hby at_123 (pc' := 125) rfl rfl rfl ?_
        refine g_iload X94 hx hby at_125 (pc' := 127) rfl rfl ?_
        refine g_iload X94 hx hby at_127 (pc' := 129) rfl rfl ?_
        refine g_callS X94 hx hZ hown (W := 1) (argsL := [.ref b84, .int (3 : Int32), .int (2 : Int32)]) (rest := [.int (klA (drawV q3))]) hby at_129 (pc' := 132) rfl (by rw [hml]; rfl) (w_87 hw) (w_88 hw) (w_3 hw) (w_89 hw) (by decide) (rmEX3_2 l Z a0 hw [] b84 T90.heap n0 (drawV q1) (drawV q2) (drawV q3) _ A90_b84) e94 (by decide) (by decide) (by decide) (by decide) rfl pd__28_5bCII_29I rfl rfl (Nat.le_of_eq rfl) ?_
        rintro _ T95 L95 X95 ⟨rfl, N95q, e95⟩
        have N95 := Fr.app N94 N95q
        show GoE p e below _ (T95.setTop (mkF m 132 #[.val (.int q1), .val (.int q2), .val (.int q3), .val (.int q4), .val (.int q5), .val (.int (3 : Int32)), .val (.int (2 : Int32)), .val (.int (drawV q1)), .val (.int (drawV q2)), .val (.int (drawV q3)), .val (.ref b84), .val (.ref b89), .val (.int (klA (drawV q3)))] [.int (exA (drawV q3)), .int (klA (drawV q3))]))
        refine g_icmp_ne X95 hx hby at_132 (by decide) (pc' := 139) (by decide) (pn := 135) rfl (fun z => absurd z (fun z => z (own_A _))) (fun hc132_96 => ?_)
        refine g_iconst X95 hx hby at_135 (pc' := 136) rfl (z := (1 : Int32)) rfl ?_
        refine g_goto X95 hx hby at_136 (by decide) (pc' := 140) (by decide) ?_
        exact g_retN (Q := (fun v h L => v = some (.int 1) ∧ Fr n0 L)) (w := (1 : Int32)) X95 hx hby at_140 hret (by simp) (by first | decide | rfl) hlk (by decide) (by decide) ⟨rfl, N95⟩
set_option maxRecDepth 65536 in
set_option maxHeartbeats 40000000 in
theorem comes_1 {Post : Tables → Env → Array Value → State → Outcome → State → Prop} (hpost : ∀ tb e args s v u, (limb_1_1.after args s (.returned v) u = true ∧ limb_1_2.after args s (.returned v) u = true ∧ True) → FrameEnd s (.returned v) u (Jvm.fieldLocs frame_1_writes args s ++ Jvm.arrayLocs frame_1_arrays args s ++ Jvm.staticLocs frame_1_statics s) 16 128 → Post tb e args s (.returned v) u) :
    ArmFor flags0 classFile x code maxLocals ret World_1 tables_1 room_1 Calls_1 rest_1 Pre_1 Post := by
  intro l hfl _ _ p e ha hc hk s m args below hf hA hF happ hP
  obtain ⟨hcalls, hrest, hpre⟩ := hP
  obtain ⟨-, -, -, hnamed, -, -, -, hat⟩ := (Spec.applies_iff hf).mp happ
  obtain ⟨hg, hn⟩ := and_e (Cond.before_iff.mp (show (Jvm.Cond.and given_1 narrow_1).before args s = true from hpre))
  obtain ⟨h1, g0⟩ := and_e hg
  obtain ⟨a0, g1⟩ := and_e g0
  obtain ⟨a1, g2⟩ := and_e g1
  obtain ⟨a2, g3⟩ := and_e g2
  obtain ⟨a3, g4⟩ := and_e g3
  have a4 := g4
  obtain ⟨u0, u1, u2, u3, u4, rfl⟩ : ∃ u0 u1 u2 u3 u4 : Value, args = #[u0, u1, u2, u3, u4] := by
    have hs : args.size = 5 := by simpa [Cond.value, given_1] using h1
    obtain ⟨L⟩ := args
    match L, hs with
    | [u0, u1, u2, u3, u4], _ => exact ⟨u0, u1, u2, u3, u4, rfl⟩
  have hw := fun d (hd : d ∈ tables_1) => atoms_spec (ws := Jvm.Cond.code x code maxLocals ret :: tables_1) hat d (List.mem_cons_of_mem _ hd)
  have hfit : Fit s := fun {y c} hc i hi => by
    obtain ⟨ha, rfl⟩ := Array.getElem?_eq_some_iff.mp hc
    have q := List.all_eq_true.mp ((Array.all_eq_true_iff_forall_mem.mp hF) _ (Array.getElem_mem ha)) i (List.mem_range.mpr hi)
    simpa [Array.getElem?_eq_getElem hi] using q
  obtain ⟨i0, e0⟩ := is_v a0
  obtain rfl : u0 = (.int i0) := Option.some.inj e0
  obtain ⟨i1, e1⟩ := is_v a1
  obtain rfl : u1 = (.int i1) := Option.some.inj e1
  obtain ⟨i2, e2⟩ := is_v a2
  obtain rfl : u2 = (.int i2) := Option.some.inj e2
  obtain ⟨i3, e3⟩ := is_v a3
  obtain rfl : u3 = (.int i3) := Option.some.inj e3
  obtain ⟨i4, e4⟩ := is_v a4
  obtain rfl : u4 = (.int i4) := Option.some.inj e4
  obtain ⟨hsets, -⟩ := atoms_of _ (rest_1_c_eq ▸ (show rest_1_c.before _ s = true from hrest))
  obtain ⟨cs, ecs⟩ := is_v (Cond.before_iff.mp (hsets _ (List.mem_of_getElem? (i := 1) rfl)))
  have ncs := not_v (Cond.before_iff.mp (hsets _ (List.mem_of_getElem? (i := 2) rfl)))
  have hcs : ¬ (cs = (0 : Int32)) := gotF (Cond.eq_ints ecs (Term.int_eval (0))) ncs
  have S1 : Sta s s.heap "java/lang/String" "COMPACT_STRINGS" "Z" (.int cs) := Sta.start ecs (Or.inl (hsets _ (List.mem_of_getElem? (i := 0) rfl)))
  obtain ⟨fm, efm, rfm⟩ := isR_v (Cond.before_iff.mp (hsets _ (List.mem_of_getElem? (i := 8) rfl)))
  have S6 : Sta s s.heap "jdk/internal/util/Preconditions" "SIOOBE_FORMATTER" "Ljava/util/function/BiFunction;" fm := Sta.start efm (Or.inl (hsets _ (List.mem_of_getElem? (i := 7) rfl)))
  have S11 : Sta s s.heap "java/lang/StringUTF16" "$assertionsDisabled" "Z" (.int (1 : Int32)) := Sta.start (own_stI (Cond.before_iff.mp (hsets _ (List.mem_of_getElem? (i := 12) rfl)))) (Or.inl (hsets _ (List.mem_of_getElem? (i := 11) rfl)))
  have S14 : Sta s s.heap "java/lang/StringUTF16" "HI_BYTE_SHIFT" "I" (.int (0 : Int32)) := Sta.start (own_stI (Cond.before_iff.mp (hsets _ (List.mem_of_getElem? (i := 15) rfl)))) (Or.inl (hsets _ (List.mem_of_getElem? (i := 14) rfl)))
  have S17 : Sta s s.heap "java/lang/StringUTF16" "LO_BYTE_SHIFT" "I" (.int (8 : Int32)) := Sta.start (own_stI (Cond.before_iff.mp (hsets _ (List.mem_of_getElem? (i := 18) rfl)))) (Or.inl (hsets _ (List.mem_of_getElem? (i := 17) rfl)))
  have SS : SSt s cs fm := ⟨hcs, S1, S11, S14, S17, S6, rfm⟩
  obtain ⟨n, o, h1, h2, h3, _, L, rfl, ⟨rfl, N⟩, hq⟩ := rm0 l s _ hw tables_1 i0 i1 i2 i3 i4  s.heap s.heap.size (Nat.le_refl _) cs fm SS (Old.start s) p e ha hc hk s m _ below hf ((Spec.applies_iff_loose hf).mp happ).1 ⟨rfl, State.Warmed39.refl s, rfl⟩ trivial
  refine ⟨n, _, h1, h2, h3, hpost _ _ _ _ _ _ ⟨Cond.after_iff.mpr rfl, Cond.after_iff.mpr (eq_i res_at (Term.int_eval (1)) rfl), trivial⟩ ⟨hq.1, hq.2.1, (hq.2.2.sift fun y hy => Or.inr (N y hy)).mono (by decide) (by decide)⟩⟩
theorem main_1_1 : Claimed_1_1 := comes_1 fun _ _ _ _ _ _ h hF => ⟨h.1, hF⟩
theorem main_1_2 : Claimed_1_2 := comes_1 fun _ _ _ _ _ _ h hF => ⟨h.2.1, hF⟩
end Jvm.Pilot.@@N@@
namespace Jvm.Pilot.@@N@@
open Jvm Jvm.ClassFile Sem Op Lib Jvm.Free Jvm.Stand Jvm.Pilot.@@N@@.Jvm.D
/-! MADE BY PROGRAM (witnessworld.py) out of the Statement's table words and the real class files: 21 classes; the members and pool entries that the words name. The judged class is class 1, her method 1. -/
namespace start1
open Jvm.ClassFile
def u (s : String) : CpInfo := .utf8 (stringToUtf16 s)
/-- a pool by its gaps: so many unusable entries, then the entry; so many at the end -/
def gap : Nat → List CpInfo → List CpInfo
  | 0, r => r
  | n + 1, r => .unusable :: gap n r
def poolList (es : List (Nat × CpInfo)) (last : Nat) : List CpInfo := es.foldr (fun e r => gap e.1 (e.2 :: r)) (gap last [])
def pool (es : List (Nat × CpInfo)) (last : Nat) : Array CpInfo := ⟨poolList es last⟩
def fileOf (pool : Array CpInfo) (this : Nat) (attrs : Array Attribute := #[]) (ms : Array MethodInfo := #[]) (fl : Nat := 33) (sup : Nat := 0) (ifs : Array Nat := #[]) (fds : Array FieldInfo := #[]) : ClassFile where
  minorVersion := 0
  majorVersion := 65
  constantPool := pool
  accessFlags := fl
  thisClass := this
  superClass := sup
  interfaces := ifs
  fields := fds
  methods := ms
  attributes := attrs
def plain (name : String) (sup : Option ClassId) : Class where
  name := name
  kind := .ordinary
  loader := none
  accessFlags := 33
  super := sup
  interfaces := #[]
  cf := none
  fields := #[]
  methods := #[]
  instanceTypes := #[]
  staticTypes := #[]
  resolved := #[]
  callSites := []
  init := .initialized
  statics := none
  mirror := none

def pool0 : Array CpInfo := pool [(5, u "<init>"), (0, u "()V"), (1, .class_ 10), (1, u "java/lang/Object")] 113

def k0c0 : Code := { maxStack := 0, maxLocals := 1, code := object_method_1_code, exceptionTable := #[], attributes := #[] }
def k0m0 : Method := { name := "<init>", desc := "()V", sig := { parameters := [], returnType := none }, accessFlags := 1, code := some k0c0 }
/-- java/lang/Object -/
def k0 : Class := { plain "java/lang/Object" none with
  accessFlags := 33
  interfaces := #[]
  cf := some (fileOf pool0 8 #[] #[{ accessFlags := 1, nameIndex := 5, descriptorIndex := 6, attributes := #[] }] 33 0 #[] #[])
  fields := #[]
  methods := #[k0m0]
  instanceTypes := #[]
  staticTypes := #[]
  resolved := Array.replicate 124 none
  statics := none }

def pool1 : Array CpInfo := pool [(2, .class_ 4), (1, u "java/lang/Object"), (0, u "<init>"), (0, u "()V"), (0, .integer 2147483647), (0, .methodref 9 10), (0, .class_ 11), (0, .nameAndType 12 13), (0, u "com/example/libonce/libonce/StorableTextKeptLengthPinLaw"), (0, u "draw"), (0, u "(I)C"), (0, .class_ 15), (0, u "java/lang/String"), (0, .methodref 14 17), (0, .nameAndType 5 18), (0, u "([C)V"), (0, .methodref 20 21), (0, .class_ 22), (0, .nameAndType 23 24), (0, u "com/example/libonce/libonce/StorableText"), (0, u "keptLength"), (0, u "(Ljava/lang/String;I)I"), (0, .methodref 9 26), (0, .nameAndType 27 28), (0, u "expected"), (0, u "([CII)I"), (0, .integer 65535), (0, .integer 55296), (0, .integer 56320), (0, .integer 57343), (2, u "law"), (0, u "(IIIII)Z")] 5

def k1m0 : Method := { name := "<init>", desc := "()V", sig := { parameters := [], returnType := none }, accessFlags := 1, code := none }
def k1c1 : Code := { maxStack := 4, maxLocals := 13, code := code, exceptionTable := #[], attributes := #[] }
def k1m1 : Method := { name := "law", desc := "(IIIII)Z", sig := { parameters := [.int, .int, .int, .int, .int], returnType := some .boolean }, accessFlags := 9, code := some k1c1 }
def k1c2 : Code := { maxStack := 3, maxLocals := 3, code := method_3_code, exceptionTable := #[], attributes := #[] }
def k1m2 : Method := { name := "draw", desc := "(I)C", sig := { parameters := [.int], returnType := some .char }, accessFlags := 10, code := some k1c2 }
def k1c3 : Code := { maxStack := 3, maxLocals := 5, code := method_4_code, exceptionTable := #[], attributes := #[] }
def k1m3 : Method := { name := "expected", desc := "([CII)I", sig := { parameters := [(.array .char), .int, .int], returnType := some .int }, accessFlags := 10, code := some k1c3 }
/-- com/example/libonce/libonce/StorableTextKeptLengthPinLaw -/
def k1 : Class := { plain "com/example/libonce/libonce/StorableTextKeptLengthPinLaw" (some 0) with
  accessFlags := 49
  interfaces := #[]
  cf := some (fileOf pool1 9 #[] #[{ accessFlags := 1, nameIndex := 5, descriptorIndex := 6, attributes := #[] }, { accessFlags := 9, nameIndex := 35, descriptorIndex := 36, attributes := #[] }, { accessFlags := 10, nameIndex := 12, descriptorIndex := 13, attributes := #[] }, { accessFlags := 10, nameIndex := 27, descriptorIndex := 28, attributes := #[] }] 49 2 #[] #[])
  fields := #[]
  methods := #[k1m0, k1m1, k1m2, k1m3]
  instanceTypes := #[]
  staticTypes := #[]
  resolved := Array.replicate 42 none
  statics := none }

def pool2 : Array CpInfo := pool [(1, .class_ 2), (0, u "java/io/Serializable"), (0, .class_ 4), (0, u "java/lang/Object")] 2

/-- java/io/Serializable -/
def k2 : Class := { plain "java/io/Serializable" (some 0) with
  accessFlags := 1537
  interfaces := #[]
  cf := some (fileOf pool2 1 #[] #[] 1537 3 #[] #[])
  fields := #[]
  methods := #[]
  instanceTypes := #[]
  staticTypes := #[]
  resolved := Array.replicate 7 none
  statics := none }

def pool3 : Array CpInfo := pool [(1, .class_ 2), (0, u "java/lang/Comparable"), (0, .class_ 4), (0, u "java/lang/Object")] 7

/-- java/lang/Comparable -/
def k3 : Class := { plain "java/lang/Comparable" (some 0) with
  accessFlags := 1537
  interfaces := #[]
  cf := some (fileOf pool3 1 #[] #[] 1537 3 #[] #[])
  fields := #[]
  methods := #[]
  instanceTypes := #[]
  staticTypes := #[]
  resolved := Array.replicate 12 none
  statics := none }

def pool4 : Array CpInfo := pool [(2, .class_ 4), (1, u "java/lang/CharSequence"), (42, .class_ 48), (0, u "java/lang/CharSequence$1CodePointIterator"), (10, .class_ 60), (0, u "java/lang/CharSequence$1CharIterator"), (5, .class_ 67), (0, u "java/lang/Object")] 63

/-- java/lang/CharSequence -/
def k4 : Class := { plain "java/lang/CharSequence" (some 0) with
  accessFlags := 1537
  interfaces := #[]
  cf := some (fileOf pool4 2 #[.nestMembers #[47, 59]] #[] 1537 66 #[] #[])
  fields := #[]
  methods := #[]
  instanceTypes := #[]
  staticTypes := #[]
  resolved := Array.replicate 131 none
  statics := none }

def pool5 : Array CpInfo := pool [(1, .class_ 2), (0, u "java/lang/constant/Constable"), (0, .class_ 4), (0, u "java/lang/Object")] 6

/-- java/lang/constant/Constable -/
def k5 : Class := { plain "java/lang/constant/Constable" (some 0) with
  accessFlags := 1537
  interfaces := #[]
  cf := some (fileOf pool5 1 #[] #[] 1537 3 #[] #[])
  fields := #[]
  methods := #[]
  instanceTypes := #[]
  staticTypes := #[]
  resolved := Array.replicate 11 none
  statics := none }

def pool6 : Array CpInfo := pool [(1, .class_ 2), (0, u "java/lang/constant/ConstantDesc"), (0, .class_ 4), (0, u "java/lang/Object")] 32

/-- java/lang/constant/ConstantDesc -/
def k6 : Class := { plain "java/lang/constant/ConstantDesc" (some 0) with
  accessFlags := 1537
  interfaces := #[]
  cf := some (fileOf pool6 1 #[] #[] 1537 3 #[] #[])
  fields := #[]
  methods := #[]
  instanceTypes := #[]
  staticTypes := #[]
  resolved := Array.replicate 37 none
  statics := none }

def pool7 : Array CpInfo := pool [(1, .methodref 2 3), (0, .class_ 4), (0, .nameAndType 5 6), (0, u "java/lang/Object"), (0, u "<init>"), (0, u "()V"), (2, .fieldref 10 11), (0, .class_ 12), (0, .nameAndType 13 14), (0, u "java/lang/String"), (0, u "value"), (0, u "[B"), (0, .fieldref 10 16), (0, .nameAndType 17 18), (0, u "coder"), (0, u "B"), (2, u "hash"), (0, u "I"), (2, u "hashIsZero"), (0, u "Z"), (0, .methodref 10 28), (0, .nameAndType 5 29), (0, u "([CIILjava/lang/Void;)V"), (8, .fieldref 10 39), (0, .nameAndType 40 26), (0, u "COMPACT_STRINGS"), (1, .class_ 44), (1, u "java/lang/StringUTF16"), (0, u "compress"), (1, .methodref 42 48), (0, .nameAndType 49 50), (0, u "coderFromArrayLen"), (0, u "([BI)B"), (56, .class_ 109), (1, u "java/lang/StringLatin1"), (32, u "()Z"), (34, .methodref 42 178), (0, .nameAndType 45 179), (0, u "([CII)[B"), (154, u "()I"), (0, .methodref 10 336), (0, .nameAndType 17 337), (0, u "()B"), (25, u "([BI)C"), (27, u "(II)V"), (35, u "(I)C"), (64, .methodref 10 493), (0, .nameAndType 494 142), (0, u "isLatin1"), (0, .methodref 107 496), (0, .nameAndType 497 363), (0, u "charAt"), (0, .methodref 42 496), (2, u "checkIndex"), (5, u "length"), (67, .class_ 576), (0, u "java/lang/CharSequence"), (22, u "CASE_INSENSITIVE_ORDER"), (0, u "Ljava/util/Comparator;"), (409, u "([C)V"), (42, .fieldref 1054 1055), (0, .class_ 1056), (0, .nameAndType 1057 1058), (0, u "jdk/internal/util/Preconditions"), (0, u "SIOOBE_FORMATTER"), (0, u "Ljava/util/function/BiFunction;"), (0, .methodref 1054 1060), (0, .nameAndType 501 1061), (0, u "(IILjava/util/function/BiFunction;)I"), (39, u "serialPersistentFields"), (0, u "[Ljava/io/ObjectStreamField;"), (0, .class_ 1104), (0, u "java/lang/String$CaseInsensitiveComparator"), (1, .class_ 1107), (0, u "java/io/Serializable"), (0, .class_ 1109), (0, u "java/lang/Comparable"), (0, .class_ 1111), (0, u "java/lang/constant/Constable"), (0, .class_ 1113), (0, u "java/lang/constant/ConstantDesc"), (2, u "serialVersionUID"), (0, u "J"), (3, u "REPL"), (0, u "C"), (2, u "LATIN1"), (1, u "UTF16")] 323

def k7m0 : Method := { name := "<init>", desc := "()V", sig := { parameters := [], returnType := none }, accessFlags := 1, code := none }
def k7c1 : Code := { maxStack := 5, maxLocals := 2, code := jdk_42_method_3_code, exceptionTable := #[], attributes := #[] }
def k7m1 : Method := { name := "<init>", desc := "([C)V", sig := { parameters := [(.array .char)], returnType := none }, accessFlags := 1, code := some k7c1 }
def k7c2 : Code := { maxStack := 2, maxLocals := 1, code := jdk_42_method_54_code, exceptionTable := #[], attributes := #[] }
def k7m2 : Method := { name := "length", desc := "()I", sig := { parameters := [], returnType := some .int }, accessFlags := 1, code := some k7c2 }
def k7c3 : Code := { maxStack := 2, maxLocals := 2, code := jdk_42_method_56_code, exceptionTable := #[], attributes := #[] }
def k7m3 : Method := { name := "charAt", desc := "(I)C", sig := { parameters := [.int], returnType := some .char }, accessFlags := 1, code := some k7c3 }
def k7c4 : Code := { maxStack := 4, maxLocals := 6, code := jdk_42_method_149_code, exceptionTable := #[], attributes := #[] }
def k7m4 : Method := { name := "<init>", desc := "([CIILjava/lang/Void;)V", sig := { parameters := [(.array .char), .int, .int, (.object "java/lang/Void")], returnType := none }, accessFlags := 2, code := some k7c4 }
def k7c5 : Code := { maxStack := 1, maxLocals := 1, code := jdk_42_method_152_code, exceptionTable := #[], attributes := #[] }
def k7m5 : Method := { name := "coder", desc := "()B", sig := { parameters := [], returnType := some .byte }, accessFlags := 0, code := some k7c5 }
def k7c6 : Code := { maxStack := 1, maxLocals := 1, code := jdk_42_method_154_code, exceptionTable := #[], attributes := #[] }
def k7m6 : Method := { name := "isLatin1", desc := "()Z", sig := { parameters := [], returnType := some .boolean }, accessFlags := 0, code := some k7c6 }
def k7c7 : Code := { maxStack := 3, maxLocals := 2, code := jdk_42_method_155_code, exceptionTable := #[], attributes := #[] }
def k7m7 : Method := { name := "checkIndex", desc := "(II)V", sig := { parameters := [.int, .int], returnType := none }, accessFlags := 8, code := some k7c7 }
/-- java/lang/String -/
def k7 : Class := { plain "java/lang/String" (some 0) with
  accessFlags := 49
  interfaces := #[2, 3, 4, 5, 6]
  cf := some (fileOf pool7 10 #[.nestMembers #[1103]] #[{ accessFlags := 1, nameIndex := 5, descriptorIndex := 6, attributes := #[] }, { accessFlags := 1, nameIndex := 5, descriptorIndex := 1010, attributes := #[] }, { accessFlags := 1, nameIndex := 507, descriptorIndex := 334, attributes := #[] }, { accessFlags := 1, nameIndex := 497, descriptorIndex := 427, attributes := #[] }, { accessFlags := 2, nameIndex := 5, descriptorIndex := 29, attributes := #[] }, { accessFlags := 0, nameIndex := 17, descriptorIndex := 337, attributes := #[] }, { accessFlags := 0, nameIndex := 494, descriptorIndex := 142, attributes := #[] }, { accessFlags := 8, nameIndex := 501, descriptorIndex := 391, attributes := #[] }] 49 2 #[1106, 1108, 575, 1110, 1112] #[{ accessFlags := 18, nameIndex := 13, descriptorIndex := 14, attributes := #[] }, { accessFlags := 18, nameIndex := 17, descriptorIndex := 18, attributes := #[] }, { accessFlags := 2, nameIndex := 21, descriptorIndex := 22, attributes := #[] }, { accessFlags := 2, nameIndex := 25, descriptorIndex := 26, attributes := #[] }, { accessFlags := 26, nameIndex := 1116, descriptorIndex := 1117, attributes := #[] }, { accessFlags := 24, nameIndex := 40, descriptorIndex := 26, attributes := #[] }, { accessFlags := 26, nameIndex := 1101, descriptorIndex := 1102, attributes := #[] }, { accessFlags := 26, nameIndex := 1121, descriptorIndex := 1122, attributes := #[] }, { accessFlags := 25, nameIndex := 599, descriptorIndex := 600, attributes := #[] }, { accessFlags := 24, nameIndex := 1125, descriptorIndex := 18, attributes := #[] }, { accessFlags := 24, nameIndex := 1127, descriptorIndex := 18, attributes := #[] }])
  fields := #[{ name := "value", type := (.array .byte), accessFlags := 18, slot := 0, constantValue := 0 }, { name := "coder", type := .byte, accessFlags := 18, slot := 1, constantValue := 0 }, { name := "hash", type := .int, accessFlags := 2, slot := 2, constantValue := 0 }, { name := "hashIsZero", type := .boolean, accessFlags := 2, slot := 3, constantValue := 0 }, { name := "serialVersionUID", type := .long, accessFlags := 26, slot := 0, constantValue := 0 }, { name := "COMPACT_STRINGS", type := .boolean, accessFlags := 24, slot := 1, constantValue := 0 }, { name := "serialPersistentFields", type := (.array (.object "java/io/ObjectStreamField")), accessFlags := 26, slot := 2, constantValue := 0 }, { name := "REPL", type := .char, accessFlags := 26, slot := 3, constantValue := 0 }, { name := "CASE_INSENSITIVE_ORDER", type := (.object "java/util/Comparator"), accessFlags := 25, slot := 4, constantValue := 0 }, { name := "LATIN1", type := .byte, accessFlags := 24, slot := 5, constantValue := 0 }, { name := "UTF16", type := .byte, accessFlags := 24, slot := 6, constantValue := 0 }]
  methods := #[k7m0, k7m1, k7m2, k7m3, k7m4, k7m5, k7m6, k7m7]
  instanceTypes := #[(.array .byte), .byte, .int, .boolean]
  staticTypes := #[.long, .boolean, (.array (.object "java/io/ObjectStreamField")), .char, (.object "java/util/Comparator"), .byte, .byte]
  resolved := Array.replicate 1451 none
  statics := some 0 }

def pool8 : Array CpInfo := pool [(3, .class_ 4), (0, u "java/lang/String"), (1, .class_ 8), (1, u "java/lang/Object"), (0, u "<init>"), (0, u "()V"), (0, .methodref 12 13), (0, .class_ 14), (0, .nameAndType 15 16), (0, u "java/lang/StringUTF16"), (0, u "newBytesLength"), (0, u "(I)I"), (3, .integer 1073741823), (23, .fieldref 12 45), (0, .nameAndType 46 47), (0, u "$assertionsDisabled"), (0, u "Z"), (0, .methodref 12 49), (0, .nameAndType 50 51), (0, u "length"), (0, u "([B)I"), (7, .fieldref 12 60), (0, .nameAndType 61 62), (0, u "HI_BYTE_SHIFT"), (0, u "I"), (0, .fieldref 12 64), (0, .nameAndType 65 62), (0, u "LO_BYTE_SHIFT"), (1, .methodref 12 68), (0, .nameAndType 69 70), (0, u "checkIndex"), (0, u "(I[B)V"), (0, .methodref 12 72), (0, .nameAndType 73 74), (0, u "getChar"), (0, u "([BI)C"), (32, .methodref 12 108), (0, .nameAndType 109 110), (0, u "newBytesFor"), (0, u "(I)[B"), (0, .methodref 12 112), (0, .nameAndType 113 114), (0, u "putChar"), (0, u "([BII)V"), (0, .methodref 12 116), (0, .nameAndType 117 118), (0, u "compress"), (0, u "([CI[BII)I"), (0, .methodref 12 120), (0, .nameAndType 121 122), (0, u "toBytes"), (0, u "([CII)[B"), (138, u "coderFromArrayLen"), (0, u "([BI)B"), (106, .class_ 371), (1, u "java/lang/StringUTF16$LinesSpliterator"), (20, u "charAt"), (21, .methodref 3 415), (0, .nameAndType 69 416), (0, u "(II)V"), (13, u "MAX_LENGTH"), (196, .class_ 628), (0, u "java/lang/StringUTF16$CodePointsSpliterator"), (0, .class_ 630), (0, u "java/lang/StringUTF16$CharsSpliterator")] 4

def k8m0 : Method := { name := "<init>", desc := "()V", sig := { parameters := [], returnType := none }, accessFlags := 0, code := none }
def k8c1 : Code := { maxStack := 1, maxLocals := 1, code := jdk_52_method_2_code, exceptionTable := #[], attributes := #[] }
def k8m1 : Method := { name := "newBytesFor", desc := "(I)[B", sig := { parameters := [.int], returnType := some (.array .byte) }, accessFlags := 9, code := some k8c1 }
def k8c2 : Code := { maxStack := 4, maxLocals := 1, code := jdk_52_method_3_code, exceptionTable := #[], attributes := #[] }
def k8m2 : Method := { name := "newBytesLength", desc := "(I)I", sig := { parameters := [.int], returnType := some .int }, accessFlags := 9, code := some k8c2 }
def k8c3 : Code := { maxStack := 4, maxLocals := 3, code := jdk_52_method_4_code, exceptionTable := #[], attributes := #[] }
def k8m3 : Method := { name := "putChar", desc := "([BII)V", sig := { parameters := [(.array .byte), .int, .int], returnType := none }, accessFlags := 8, code := some k8c3 }
def k8c4 : Code := { maxStack := 3, maxLocals := 2, code := jdk_52_method_5_code, exceptionTable := #[], attributes := #[] }
def k8m4 : Method := { name := "getChar", desc := "([BI)C", sig := { parameters := [(.array .byte), .int], returnType := some .char }, accessFlags := 8, code := some k8c4 }
def k8c5 : Code := { maxStack := 2, maxLocals := 1, code := jdk_52_method_6_code, exceptionTable := #[], attributes := #[] }
def k8m5 : Method := { name := "length", desc := "([B)I", sig := { parameters := [(.array .byte)], returnType := some .int }, accessFlags := 9, code := some k8c5 }
def k8c6 : Code := { maxStack := 4, maxLocals := 5, code := jdk_52_method_14_code, exceptionTable := #[], attributes := #[] }
def k8m6 : Method := { name := "toBytes", desc := "([CII)[B", sig := { parameters := [(.array .char), .int, .int], returnType := some (.array .byte) }, accessFlags := 9, code := some k8c6 }
def k8c7 : Code := { maxStack := 2, maxLocals := 2, code := jdk_52_method_15_code, exceptionTable := #[], attributes := #[] }
def k8m7 : Method := { name := "coderFromArrayLen", desc := "([BI)B", sig := { parameters := [(.array .byte), .int], returnType := some .byte }, accessFlags := 8, code := some k8c7 }
def k8c8 : Code := { maxStack := 5, maxLocals := 6, code := jdk_52_method_16_code, exceptionTable := #[], attributes := #[] }
def k8m8 : Method := { name := "compress", desc := "([CII)[B", sig := { parameters := [(.array .char), .int, .int], returnType := some (.array .byte) }, accessFlags := 9, code := some k8c8 }
def k8c9 : Code := { maxStack := 3, maxLocals := 7, code := jdk_52_method_21_code, exceptionTable := #[], attributes := #[] }
def k8m9 : Method := { name := "compress", desc := "([CI[BII)I", sig := { parameters := [(.array .char), .int, (.array .byte), .int, .int], returnType := some .int }, accessFlags := 9, code := some k8c9 }
def k8c10 : Code := { maxStack := 2, maxLocals := 2, code := jdk_52_method_83_code, exceptionTable := #[], attributes := #[] }
def k8m10 : Method := { name := "charAt", desc := "([BI)C", sig := { parameters := [(.array .byte), .int], returnType := some .char }, accessFlags := 9, code := some k8c10 }
def k8c11 : Code := { maxStack := 2, maxLocals := 2, code := jdk_52_method_91_code, exceptionTable := #[], attributes := #[] }
def k8m11 : Method := { name := "checkIndex", desc := "(I[B)V", sig := { parameters := [.int, (.array .byte)], returnType := none }, accessFlags := 9, code := some k8c11 }
/-- java/lang/StringUTF16 -/
def k8 : Class := { plain "java/lang/StringUTF16" (some 0) with
  accessFlags := 48
  interfaces := #[]
  cf := some (fileOf pool8 12 #[.nestMembers #[627, 629, 369]] #[{ accessFlags := 0, nameIndex := 9, descriptorIndex := 10, attributes := #[] }, { accessFlags := 9, nameIndex := 109, descriptorIndex := 110, attributes := #[] }, { accessFlags := 9, nameIndex := 15, descriptorIndex := 16, attributes := #[] }, { accessFlags := 8, nameIndex := 113, descriptorIndex := 114, attributes := #[] }, { accessFlags := 8, nameIndex := 73, descriptorIndex := 74, attributes := #[] }, { accessFlags := 9, nameIndex := 50, descriptorIndex := 51, attributes := #[] }, { accessFlags := 9, nameIndex := 121, descriptorIndex := 122, attributes := #[] }, { accessFlags := 8, nameIndex := 261, descriptorIndex := 262, attributes := #[] }, { accessFlags := 9, nameIndex := 117, descriptorIndex := 122, attributes := #[] }, { accessFlags := 9, nameIndex := 117, descriptorIndex := 118, attributes := #[] }, { accessFlags := 9, nameIndex := 392, descriptorIndex := 74, attributes := #[] }, { accessFlags := 9, nameIndex := 69, descriptorIndex := 70, attributes := #[] }] 48 6 #[] #[{ accessFlags := 26, nameIndex := 61, descriptorIndex := 62, attributes := #[] }, { accessFlags := 26, nameIndex := 65, descriptorIndex := 62, attributes := #[] }, { accessFlags := 24, nameIndex := 430, descriptorIndex := 62, attributes := #[] }, { accessFlags := 4120, nameIndex := 46, descriptorIndex := 47, attributes := #[] }])
  fields := #[{ name := "HI_BYTE_SHIFT", type := .int, accessFlags := 26, slot := 0, constantValue := 0 }, { name := "LO_BYTE_SHIFT", type := .int, accessFlags := 26, slot := 1, constantValue := 0 }, { name := "MAX_LENGTH", type := .int, accessFlags := 24, slot := 2, constantValue := 0 }, { name := "$assertionsDisabled", type := .boolean, accessFlags := 4120, slot := 3, constantValue := 0 }]
  methods := #[k8m0, k8m1, k8m2, k8m3, k8m4, k8m5, k8m6, k8m7, k8m8, k8m9, k8m10, k8m11]
  instanceTypes := #[]
  staticTypes := #[.int, .int, .int, .boolean]
  resolved := Array.replicate 635 none
  statics := some 1 }

def pool9 : Array CpInfo := pool [(1, .methodref 2 3), (0, .class_ 4), (0, .nameAndType 5 6), (0, u "java/lang/String"), (0, u "length"), (0, u "()I"), (0, .methodref 2 8), (0, .nameAndType 9 10), (0, u "charAt"), (0, u "(I)C"), (0, .class_ 12), (0, u "com/example/libonce/libonce/StorableText"), (3, u "keptLength"), (0, u "(Ljava/lang/String;I)I"), (4, u "<init>"), (24, .methodref 48 49), (0, .class_ 50), (0, .nameAndType 51 52), (0, u "java/lang/Character"), (0, u "isSurrogate"), (0, u "(C)Z"), (0, .methodref 48 54), (0, .nameAndType 55 52), (0, u "isHighSurrogate"), (0, .methodref 48 57), (0, .nameAndType 58 52), (0, u "isLowSurrogate"), (1, .class_ 62), (1, u "java/lang/Object"), (0, u "()V"), (0, u "ESCAPE"), (0, u "C"), (1, u "ESCAPE_LENGTH"), (0, u "I"), (1, u "HEX_DIGITS"), (0, u "Ljava/lang/String;")] 8

def k9c0 : Code := { maxStack := 3, maxLocals := 4, code := prog_13_method_4_code, exceptionTable := #[], attributes := #[] }
def k9m0 : Method := { name := "keptLength", desc := "(Ljava/lang/String;I)I", sig := { parameters := [(.object "java/lang/String"), .int], returnType := some .int }, accessFlags := 8, code := some k9c0 }
def k9m1 : Method := { name := "<init>", desc := "()V", sig := { parameters := [], returnType := none }, accessFlags := 2, code := none }
/-- com/example/libonce/libonce/StorableText -/
def k9 : Class := { plain "com/example/libonce/libonce/StorableText" (some 0) with
  accessFlags := 32
  interfaces := #[]
  cf := some (fileOf pool9 11 #[] #[{ accessFlags := 8, nameIndex := 16, descriptorIndex := 17, attributes := #[] }, { accessFlags := 2, nameIndex := 22, descriptorIndex := 63, attributes := #[] }] 32 60 #[] #[{ accessFlags := 26, nameIndex := 64, descriptorIndex := 65, attributes := #[] }, { accessFlags := 26, nameIndex := 67, descriptorIndex := 68, attributes := #[] }, { accessFlags := 26, nameIndex := 70, descriptorIndex := 71, attributes := #[] }])
  fields := #[{ name := "ESCAPE", type := .char, accessFlags := 26, slot := 0, constantValue := 0 }, { name := "ESCAPE_LENGTH", type := .int, accessFlags := 26, slot := 1, constantValue := 0 }, { name := "HEX_DIGITS", type := (.object "java/lang/String"), accessFlags := 26, slot := 2, constantValue := 0 }]
  methods := #[k9m0, k9m1]
  instanceTypes := #[]
  staticTypes := #[.char, .int, (.object "java/lang/String")]
  resolved := Array.replicate 80 none
  statics := none }

def pool10 : Array CpInfo := pool [(2, .class_ 4), (1, u "java/lang/Object"), (0, u "<init>"), (0, u "()V"), (17, .class_ 26), (1, u "jdk/internal/util/Preconditions"), (6, u "checkIndex"), (21, .class_ 56), (0, u "jdk/internal/util/Preconditions$4"), (57, .class_ 115), (0, u "jdk/internal/util/Preconditions$1"), (7, u "SIOOBE_FORMATTER"), (0, u "Ljava/util/function/BiFunction;"), (0, .class_ 126), (0, u "jdk/internal/util/Preconditions$2"), (3, u "AIOOBE_FORMATTER"), (0, .class_ 132), (0, u "jdk/internal/util/Preconditions$3"), (3, u "IOOBE_FORMATTER"), (41, u "(IILjava/util/function/BiFunction;)I")] 15

def k10m0 : Method := { name := "<init>", desc := "()V", sig := { parameters := [], returnType := none }, accessFlags := 1, code := none }
def k10c1 : Code := { maxStack := 3, maxLocals := 3, code := jdk_41_method_11_code, exceptionTable := #[], attributes := #[] }
def k10m1 : Method := { name := "checkIndex", desc := "(IILjava/util/function/BiFunction;)I", sig := { parameters := [.int, .int, (.object "java/util/function/BiFunction")], returnType := some .int }, accessFlags := 9, code := some k10c1 }
/-- jdk/internal/util/Preconditions -/
def k10 : Class := { plain "jdk/internal/util/Preconditions" (some 0) with
  accessFlags := 33
  interfaces := #[]
  cf := some (fileOf pool10 24 #[.nestMembers #[55, 131, 125, 114]] #[{ accessFlags := 1, nameIndex := 5, descriptorIndex := 6, attributes := #[] }, { accessFlags := 9, nameIndex := 33, descriptorIndex := 178, attributes := #[] }] 33 2 #[] #[{ accessFlags := 25, nameIndex := 123, descriptorIndex := 124, attributes := #[] }, { accessFlags := 25, nameIndex := 130, descriptorIndex := 124, attributes := #[] }, { accessFlags := 25, nameIndex := 136, descriptorIndex := 124, attributes := #[] }])
  fields := #[{ name := "SIOOBE_FORMATTER", type := (.object "java/util/function/BiFunction"), accessFlags := 25, slot := 0, constantValue := 0 }, { name := "AIOOBE_FORMATTER", type := (.object "java/util/function/BiFunction"), accessFlags := 25, slot := 1, constantValue := 0 }, { name := "IOOBE_FORMATTER", type := (.object "java/util/function/BiFunction"), accessFlags := 25, slot := 2, constantValue := 0 }]
  methods := #[k10m0, k10m1]
  instanceTypes := #[]
  staticTypes := #[(.object "java/util/function/BiFunction"), (.object "java/util/function/BiFunction"), (.object "java/util/function/BiFunction")]
  resolved := Array.replicate 194 none
  statics := some 2 }

def pool11 : Array CpInfo := pool [(1, .class_ 2), (0, u "java/lang/Character"), (18, u "value"), (0, u "C"), (19, .class_ 44), (1, u "java/lang/Object"), (3, .class_ 50), (1, u "java/lang/Character$CharacterCache"), (24, .integer 55296), (0, .integer 56320), (0, .integer 57344), (2, u "isHighSurrogate"), (0, u "(C)Z"), (2, u "isLowSurrogate"), (199, u "$assertionsDisabled"), (0, u "Z"), (21, .class_ 309), (1, u "java/lang/Character$UnicodeBlock"), (73, u "TYPE"), (0, u "Ljava/lang/Class;"), (0, .class_ 386), (0, u "java/io/Serializable"), (0, .class_ 388), (0, u "java/lang/Comparable"), (0, .class_ 390), (0, u "java/lang/constant/Constable"), (0, u "MIN_RADIX"), (0, u "I"), (2, u "MAX_RADIX"), (1, u "MIN_VALUE"), (1, u "MAX_VALUE"), (3, u "UNASSIGNED"), (0, u "B"), (0, u "UPPERCASE_LETTER"), (1, u "LOWERCASE_LETTER"), (0, u "TITLECASE_LETTER"), (1, u "MODIFIER_LETTER"), (1, u "OTHER_LETTER"), (1, u "NON_SPACING_MARK"), (1, u "ENCLOSING_MARK"), (1, u "COMBINING_SPACING_MARK"), (1, u "DECIMAL_DIGIT_NUMBER"), (1, u "LETTER_NUMBER"), (1, u "OTHER_NUMBER"), (1, u "SPACE_SEPARATOR"), (1, u "LINE_SEPARATOR"), (1, u "PARAGRAPH_SEPARATOR"), (1, u "CONTROL"), (1, u "FORMAT"), (1, u "PRIVATE_USE"), (1, u "SURROGATE"), (1, u "DASH_PUNCTUATION"), (1, u "START_PUNCTUATION"), (1, u "END_PUNCTUATION"), (1, u "CONNECTOR_PUNCTUATION"), (1, u "OTHER_PUNCTUATION"), (1, u "MATH_SYMBOL"), (1, u "CURRENCY_SYMBOL"), (1, u "MODIFIER_SYMBOL"), (1, u "OTHER_SYMBOL"), (1, u "INITIAL_QUOTE_PUNCTUATION"), (1, u "FINAL_QUOTE_PUNCTUATION"), (1, u "ERROR"), (1, u "DIRECTIONALITY_UNDEFINED"), (0, u "DIRECTIONALITY_LEFT_TO_RIGHT"), (0, u "DIRECTIONALITY_RIGHT_TO_LEFT"), (0, u "DIRECTIONALITY_RIGHT_TO_LEFT_ARABIC"), (0, u "DIRECTIONALITY_EUROPEAN_NUMBER"), (0, u "DIRECTIONALITY_EUROPEAN_NUMBER_SEPARATOR"), (0, u "DIRECTIONALITY_EUROPEAN_NUMBER_TERMINATOR"), (0, u "DIRECTIONALITY_ARABIC_NUMBER"), (0, u "DIRECTIONALITY_COMMON_NUMBER_SEPARATOR"), (0, u "DIRECTIONALITY_NONSPACING_MARK"), (0, u "DIRECTIONALITY_BOUNDARY_NEUTRAL"), (0, u "DIRECTIONALITY_PARAGRAPH_SEPARATOR"), (0, u "DIRECTIONALITY_SEGMENT_SEPARATOR"), (0, u "DIRECTIONALITY_WHITESPACE"), (0, u "DIRECTIONALITY_OTHER_NEUTRALS"), (0, u "DIRECTIONALITY_LEFT_TO_RIGHT_EMBEDDING"), (0, u "DIRECTIONALITY_LEFT_TO_RIGHT_OVERRIDE"), (0, u "DIRECTIONALITY_RIGHT_TO_LEFT_EMBEDDING"), (0, u "DIRECTIONALITY_RIGHT_TO_LEFT_OVERRIDE"), (1, u "DIRECTIONALITY_POP_DIRECTIONAL_FORMAT"), (0, u "DIRECTIONALITY_LEFT_TO_RIGHT_ISOLATE"), (0, u "DIRECTIONALITY_RIGHT_TO_LEFT_ISOLATE"), (0, u "DIRECTIONALITY_FIRST_STRONG_ISOLATE"), (0, u "DIRECTIONALITY_POP_DIRECTIONAL_ISOLATE"), (0, u "MIN_HIGH_SURROGATE"), (0, u "MAX_HIGH_SURROGATE"), (1, u "MIN_LOW_SURROGATE"), (0, u "MAX_LOW_SURROGATE"), (1, u "MIN_SURROGATE"), (0, u "MAX_SURROGATE"), (0, u "MIN_SUPPLEMENTARY_CODE_POINT"), (0, u "MIN_CODE_POINT"), (0, u "MAX_CODE_POINT"), (1, u "serialVersionUID"), (0, u "J"), (2, u "SIZE"), (0, u "BYTES"), (24, u "isSurrogate"), (63, .class_ 596), (0, u "java/lang/Character$UnicodeScript"), (0, .class_ 598), (0, u "java/lang/Character$Subset")] 5

def k11c0 : Code := { maxStack := 2, maxLocals := 1, code := jdk_89_method_14_code, exceptionTable := #[], attributes := #[] }
def k11m0 : Method := { name := "isHighSurrogate", desc := "(C)Z", sig := { parameters := [.char], returnType := some .boolean }, accessFlags := 9, code := some k11c0 }
def k11c1 : Code := { maxStack := 2, maxLocals := 1, code := jdk_89_method_15_code, exceptionTable := #[], attributes := #[] }
def k11m1 : Method := { name := "isLowSurrogate", desc := "(C)Z", sig := { parameters := [.char], returnType := some .boolean }, accessFlags := 9, code := some k11c1 }
def k11c2 : Code := { maxStack := 2, maxLocals := 1, code := jdk_89_method_16_code, exceptionTable := #[], attributes := #[] }
def k11m2 : Method := { name := "isSurrogate", desc := "(C)Z", sig := { parameters := [.char], returnType := some .boolean }, accessFlags := 9, code := some k11c2 }
/-- java/lang/Character -/
def k11 : Class := { plain "java/lang/Character" (some 0) with
  accessFlags := 49
  interfaces := #[2, 3, 5]
  cf := some (fileOf pool11 1 #[.nestMembers #[48, 595, 307, 597]] #[{ accessFlags := 9, nameIndex := 80, descriptorIndex := 81, attributes := #[] }, { accessFlags := 9, nameIndex := 84, descriptorIndex := 81, attributes := #[] }, { accessFlags := 9, nameIndex := 531, descriptorIndex := 81, attributes := #[] }] 49 42 #[385, 387, 389] #[{ accessFlags := 25, nameIndex := 391, descriptorIndex := 392, attributes := #[] }, { accessFlags := 25, nameIndex := 395, descriptorIndex := 392, attributes := #[] }, { accessFlags := 25, nameIndex := 397, descriptorIndex := 22, attributes := #[] }, { accessFlags := 25, nameIndex := 399, descriptorIndex := 22, attributes := #[] }, { accessFlags := 25, nameIndex := 383, descriptorIndex := 384, attributes := #[] }, { accessFlags := 25, nameIndex := 403, descriptorIndex := 404, attributes := #[] }, { accessFlags := 25, nameIndex := 405, descriptorIndex := 404, attributes := #[] }, { accessFlags := 25, nameIndex := 407, descriptorIndex := 404, attributes := #[] }, { accessFlags := 25, nameIndex := 408, descriptorIndex := 404, attributes := #[] }, { accessFlags := 25, nameIndex := 410, descriptorIndex := 404, attributes := #[] }, { accessFlags := 25, nameIndex := 412, descriptorIndex := 404, attributes := #[] }, { accessFlags := 25, nameIndex := 414, descriptorIndex := 404, attributes := #[] }, { accessFlags := 25, nameIndex := 416, descriptorIndex := 404, attributes := #[] }, { accessFlags := 25, nameIndex := 418, descriptorIndex := 404, attributes := #[] }, { accessFlags := 25, nameIndex := 420, descriptorIndex := 404, attributes := #[] }, { accessFlags := 25, nameIndex := 422, descriptorIndex := 404, attributes := #[] }, { accessFlags := 25, nameIndex := 424, descriptorIndex := 404, attributes := #[] }, { accessFlags := 25, nameIndex := 426, descriptorIndex := 404, attributes := #[] }, { accessFlags := 25, nameIndex := 428, descriptorIndex := 404, attributes := #[] }, { accessFlags := 25, nameIndex := 430, descriptorIndex := 404, attributes := #[] }, { accessFlags := 25, nameIndex := 432, descriptorIndex := 404, attributes := #[] }, { accessFlags := 25, nameIndex := 434, descriptorIndex := 404, attributes := #[] }, { accessFlags := 25, nameIndex := 436, descriptorIndex := 404, attributes := #[] }, { accessFlags := 25, nameIndex := 438, descriptorIndex := 404, attributes := #[] }, { accessFlags := 25, nameIndex := 440, descriptorIndex := 404, attributes := #[] }, { accessFlags := 25, nameIndex := 442, descriptorIndex := 404, attributes := #[] }, { accessFlags := 25, nameIndex := 444, descriptorIndex := 404, attributes := #[] }, { accessFlags := 25, nameIndex := 446, descriptorIndex := 404, attributes := #[] }, { accessFlags := 25, nameIndex := 448, descriptorIndex := 404, attributes := #[] }, { accessFlags := 25, nameIndex := 450, descriptorIndex := 404, attributes := #[] }, { accessFlags := 25, nameIndex := 452, descriptorIndex := 404, attributes := #[] }, { accessFlags := 25, nameIndex := 454, descriptorIndex := 404, attributes := #[] }, { accessFlags := 25, nameIndex := 456, descriptorIndex := 404, attributes := #[] }, { accessFlags := 25, nameIndex := 458, descriptorIndex := 404, attributes := #[] }, { accessFlags := 25, nameIndex := 460, descriptorIndex := 404, attributes := #[] }, { accessFlags := 24, nameIndex := 462, descriptorIndex := 392, attributes := #[] }, { accessFlags := 25, nameIndex := 464, descriptorIndex := 404, attributes := #[] }, { accessFlags := 25, nameIndex := 465, descriptorIndex := 404, attributes := #[] }, { accessFlags := 25, nameIndex := 466, descriptorIndex := 404, attributes := #[] }, { accessFlags := 25, nameIndex := 467, descriptorIndex := 404, attributes := #[] }, { accessFlags := 25, nameIndex := 468, descriptorIndex := 404, attributes := #[] }, { accessFlags := 25, nameIndex := 469, descriptorIndex := 404, attributes := #[] }, { accessFlags := 25, nameIndex := 470, descriptorIndex := 404, attributes := #[] }, { accessFlags := 25, nameIndex := 471, descriptorIndex := 404, attributes := #[] }, { accessFlags := 25, nameIndex := 472, descriptorIndex := 404, attributes := #[] }, { accessFlags := 25, nameIndex := 473, descriptorIndex := 404, attributes := #[] }, { accessFlags := 25, nameIndex := 474, descriptorIndex := 404, attributes := #[] }, { accessFlags := 25, nameIndex := 475, descriptorIndex := 404, attributes := #[] }, { accessFlags := 25, nameIndex := 476, descriptorIndex := 404, attributes := #[] }, { accessFlags := 25, nameIndex := 477, descriptorIndex := 404, attributes := #[] }, { accessFlags := 25, nameIndex := 478, descriptorIndex := 404, attributes := #[] }, { accessFlags := 25, nameIndex := 479, descriptorIndex := 404, attributes := #[] }, { accessFlags := 25, nameIndex := 480, descriptorIndex := 404, attributes := #[] }, { accessFlags := 25, nameIndex := 481, descriptorIndex := 404, attributes := #[] }, { accessFlags := 25, nameIndex := 482, descriptorIndex := 404, attributes := #[] }, { accessFlags := 25, nameIndex := 484, descriptorIndex := 404, attributes := #[] }, { accessFlags := 25, nameIndex := 485, descriptorIndex := 404, attributes := #[] }, { accessFlags := 25, nameIndex := 486, descriptorIndex := 404, attributes := #[] }, { accessFlags := 25, nameIndex := 487, descriptorIndex := 404, attributes := #[] }, { accessFlags := 25, nameIndex := 488, descriptorIndex := 404, attributes := #[] }, { accessFlags := 25, nameIndex := 489, descriptorIndex := 22, attributes := #[] }, { accessFlags := 25, nameIndex := 490, descriptorIndex := 22, attributes := #[] }, { accessFlags := 25, nameIndex := 492, descriptorIndex := 22, attributes := #[] }, { accessFlags := 25, nameIndex := 493, descriptorIndex := 22, attributes := #[] }, { accessFlags := 25, nameIndex := 495, descriptorIndex := 22, attributes := #[] }, { accessFlags := 25, nameIndex := 496, descriptorIndex := 22, attributes := #[] }, { accessFlags := 25, nameIndex := 497, descriptorIndex := 392, attributes := #[] }, { accessFlags := 25, nameIndex := 498, descriptorIndex := 392, attributes := #[] }, { accessFlags := 25, nameIndex := 499, descriptorIndex := 392, attributes := #[] }, { accessFlags := 18, nameIndex := 21, descriptorIndex := 22, attributes := #[] }, { accessFlags := 26, nameIndex := 501, descriptorIndex := 502, attributes := #[] }, { accessFlags := 25, nameIndex := 505, descriptorIndex := 392, attributes := #[] }, { accessFlags := 25, nameIndex := 506, descriptorIndex := 392, attributes := #[] }, { accessFlags := 4120, nameIndex := 284, descriptorIndex := 285, attributes := #[] }])
  fields := #[{ name := "MIN_RADIX", type := .int, accessFlags := 25, slot := 0, constantValue := 0 }, { name := "MAX_RADIX", type := .int, accessFlags := 25, slot := 1, constantValue := 0 }, { name := "MIN_VALUE", type := .char, accessFlags := 25, slot := 2, constantValue := 0 }, { name := "MAX_VALUE", type := .char, accessFlags := 25, slot := 3, constantValue := 0 }, { name := "TYPE", type := (.object "java/lang/Class"), accessFlags := 25, slot := 4, constantValue := 0 }, { name := "UNASSIGNED", type := .byte, accessFlags := 25, slot := 5, constantValue := 0 }, { name := "UPPERCASE_LETTER", type := .byte, accessFlags := 25, slot := 6, constantValue := 0 }, { name := "LOWERCASE_LETTER", type := .byte, accessFlags := 25, slot := 7, constantValue := 0 }, { name := "TITLECASE_LETTER", type := .byte, accessFlags := 25, slot := 8, constantValue := 0 }, { name := "MODIFIER_LETTER", type := .byte, accessFlags := 25, slot := 9, constantValue := 0 }, { name := "OTHER_LETTER", type := .byte, accessFlags := 25, slot := 10, constantValue := 0 }, { name := "NON_SPACING_MARK", type := .byte, accessFlags := 25, slot := 11, constantValue := 0 }, { name := "ENCLOSING_MARK", type := .byte, accessFlags := 25, slot := 12, constantValue := 0 }, { name := "COMBINING_SPACING_MARK", type := .byte, accessFlags := 25, slot := 13, constantValue := 0 }, { name := "DECIMAL_DIGIT_NUMBER", type := .byte, accessFlags := 25, slot := 14, constantValue := 0 }, { name := "LETTER_NUMBER", type := .byte, accessFlags := 25, slot := 15, constantValue := 0 }, { name := "OTHER_NUMBER", type := .byte, accessFlags := 25, slot := 16, constantValue := 0 }, { name := "SPACE_SEPARATOR", type := .byte, accessFlags := 25, slot := 17, constantValue := 0 }, { name := "LINE_SEPARATOR", type := .byte, accessFlags := 25, slot := 18, constantValue := 0 }, { name := "PARAGRAPH_SEPARATOR", type := .byte, accessFlags := 25, slot := 19, constantValue := 0 }, { name := "CONTROL", type := .byte, accessFlags := 25, slot := 20, constantValue := 0 }, { name := "FORMAT", type := .byte, accessFlags := 25, slot := 21, constantValue := 0 }, { name := "PRIVATE_USE", type := .byte, accessFlags := 25, slot := 22, constantValue := 0 }, { name := "SURROGATE", type := .byte, accessFlags := 25, slot := 23, constantValue := 0 }, { name := "DASH_PUNCTUATION", type := .byte, accessFlags := 25, slot := 24, constantValue := 0 }, { name := "START_PUNCTUATION", type := .byte, accessFlags := 25, slot := 25, constantValue := 0 }, { name := "END_PUNCTUATION", type := .byte, accessFlags := 25, slot := 26, constantValue := 0 }, { name := "CONNECTOR_PUNCTUATION", type := .byte, accessFlags := 25, slot := 27, constantValue := 0 }, { name := "OTHER_PUNCTUATION", type := .byte, accessFlags := 25, slot := 28, constantValue := 0 }, { name := "MATH_SYMBOL", type := .byte, accessFlags := 25, slot := 29, constantValue := 0 }, { name := "CURRENCY_SYMBOL", type := .byte, accessFlags := 25, slot := 30, constantValue := 0 }, { name := "MODIFIER_SYMBOL", type := .byte, accessFlags := 25, slot := 31, constantValue := 0 }, { name := "OTHER_SYMBOL", type := .byte, accessFlags := 25, slot := 32, constantValue := 0 }, { name := "INITIAL_QUOTE_PUNCTUATION", type := .byte, accessFlags := 25, slot := 33, constantValue := 0 }, { name := "FINAL_QUOTE_PUNCTUATION", type := .byte, accessFlags := 25, slot := 34, constantValue := 0 }, { name := "ERROR", type := .int, accessFlags := 24, slot := 35, constantValue := 0 }, { name := "DIRECTIONALITY_UNDEFINED", type := .byte, accessFlags := 25, slot := 36, constantValue := 0 }, { name := "DIRECTIONALITY_LEFT_TO_RIGHT", type := .byte, accessFlags := 25, slot := 37, constantValue := 0 }, { name := "DIRECTIONALITY_RIGHT_TO_LEFT", type := .byte, accessFlags := 25, slot := 38, constantValue := 0 }, { name := "DIRECTIONALITY_RIGHT_TO_LEFT_ARABIC", type := .byte, accessFlags := 25, slot := 39, constantValue := 0 }, { name := "DIRECTIONALITY_EUROPEAN_NUMBER", type := .byte, accessFlags := 25, slot := 40, constantValue := 0 }, { name := "DIRECTIONALITY_EUROPEAN_NUMBER_SEPARATOR", type := .byte, accessFlags := 25, slot := 41, constantValue := 0 }, { name := "DIRECTIONALITY_EUROPEAN_NUMBER_TERMINATOR", type := .byte, accessFlags := 25, slot := 42, constantValue := 0 }, { name := "DIRECTIONALITY_ARABIC_NUMBER", type := .byte, accessFlags := 25, slot := 43, constantValue := 0 }, { name := "DIRECTIONALITY_COMMON_NUMBER_SEPARATOR", type := .byte, accessFlags := 25, slot := 44, constantValue := 0 }, { name := "DIRECTIONALITY_NONSPACING_MARK", type := .byte, accessFlags := 25, slot := 45, constantValue := 0 }, { name := "DIRECTIONALITY_BOUNDARY_NEUTRAL", type := .byte, accessFlags := 25, slot := 46, constantValue := 0 }, { name := "DIRECTIONALITY_PARAGRAPH_SEPARATOR", type := .byte, accessFlags := 25, slot := 47, constantValue := 0 }, { name := "DIRECTIONALITY_SEGMENT_SEPARATOR", type := .byte, accessFlags := 25, slot := 48, constantValue := 0 }, { name := "DIRECTIONALITY_WHITESPACE", type := .byte, accessFlags := 25, slot := 49, constantValue := 0 }, { name := "DIRECTIONALITY_OTHER_NEUTRALS", type := .byte, accessFlags := 25, slot := 50, constantValue := 0 }, { name := "DIRECTIONALITY_LEFT_TO_RIGHT_EMBEDDING", type := .byte, accessFlags := 25, slot := 51, constantValue := 0 }, { name := "DIRECTIONALITY_LEFT_TO_RIGHT_OVERRIDE", type := .byte, accessFlags := 25, slot := 52, constantValue := 0 }, { name := "DIRECTIONALITY_RIGHT_TO_LEFT_EMBEDDING", type := .byte, accessFlags := 25, slot := 53, constantValue := 0 }, { name := "DIRECTIONALITY_RIGHT_TO_LEFT_OVERRIDE", type := .byte, accessFlags := 25, slot := 54, constantValue := 0 }, { name := "DIRECTIONALITY_POP_DIRECTIONAL_FORMAT", type := .byte, accessFlags := 25, slot := 55, constantValue := 0 }, { name := "DIRECTIONALITY_LEFT_TO_RIGHT_ISOLATE", type := .byte, accessFlags := 25, slot := 56, constantValue := 0 }, { name := "DIRECTIONALITY_RIGHT_TO_LEFT_ISOLATE", type := .byte, accessFlags := 25, slot := 57, constantValue := 0 }, { name := "DIRECTIONALITY_FIRST_STRONG_ISOLATE", type := .byte, accessFlags := 25, slot := 58, constantValue := 0 }, { name := "DIRECTIONALITY_POP_DIRECTIONAL_ISOLATE", type := .byte, accessFlags := 25, slot := 59, constantValue := 0 }, { name := "MIN_HIGH_SURROGATE", type := .char, accessFlags := 25, slot := 60, constantValue := 0 }, { name := "MAX_HIGH_SURROGATE", type := .char, accessFlags := 25, slot := 61, constantValue := 0 }, { name := "MIN_LOW_SURROGATE", type := .char, accessFlags := 25, slot := 62, constantValue := 0 }, { name := "MAX_LOW_SURROGATE", type := .char, accessFlags := 25, slot := 63, constantValue := 0 }, { name := "MIN_SURROGATE", type := .char, accessFlags := 25, slot := 64, constantValue := 0 }, { name := "MAX_SURROGATE", type := .char, accessFlags := 25, slot := 65, constantValue := 0 }, { name := "MIN_SUPPLEMENTARY_CODE_POINT", type := .int, accessFlags := 25, slot := 66, constantValue := 0 }, { name := "MIN_CODE_POINT", type := .int, accessFlags := 25, slot := 67, constantValue := 0 }, { name := "MAX_CODE_POINT", type := .int, accessFlags := 25, slot := 68, constantValue := 0 }, { name := "value", type := .char, accessFlags := 18, slot := 0, constantValue := 0 }, { name := "serialVersionUID", type := .long, accessFlags := 26, slot := 69, constantValue := 0 }, { name := "SIZE", type := .int, accessFlags := 25, slot := 70, constantValue := 0 }, { name := "BYTES", type := .int, accessFlags := 25, slot := 71, constantValue := 0 }, { name := "$assertionsDisabled", type := .boolean, accessFlags := 4120, slot := 72, constantValue := 0 }]
  methods := #[k11m0, k11m1, k11m2]
  instanceTypes := #[.char]
  staticTypes := #[.int, .int, .char, .char, (.object "java/lang/Class"), .byte, .byte, .byte, .byte, .byte, .byte, .byte, .byte, .byte, .byte, .byte, .byte, .byte, .byte, .byte, .byte, .byte, .byte, .byte, .byte, .byte, .byte, .byte, .byte, .byte, .byte, .byte, .byte, .byte, .byte, .int, .byte, .byte, .byte, .byte, .byte, .byte, .byte, .byte, .byte, .byte, .byte, .byte, .byte, .byte, .byte, .byte, .byte, .byte, .byte, .byte, .byte, .byte, .byte, .byte, .char, .char, .char, .char, .char, .char, .int, .int, .int, .long, .int, .int, .boolean]
  resolved := Array.replicate 604 none
  statics := none }

def pool12 : Array CpInfo := pool [(1, .class_ 2), (0, u "java/lang/String"), (1, .class_ 6), (1, u "java/lang/Object"), (0, u "<init>"), (0, u "()V"), (0, .methodref 1 10), (0, .nameAndType 11 12), (0, u "checkIndex"), (0, u "(II)V"), (1, .class_ 16), (1, u "java/lang/StringLatin1"), (36, u "([BI)C"), (67, u "$assertionsDisabled"), (0, u "Z"), (98, .class_ 223), (1, u "java/lang/StringLatin1$LinesSpliterator"), (28, u "charAt"), (137, .class_ 391), (0, u "java/lang/StringLatin1$CharsSpliterator")] 3

def k12m0 : Method := { name := "<init>", desc := "()V", sig := { parameters := [], returnType := none }, accessFlags := 0, code := none }
def k12c1 : Code := { maxStack := 2, maxLocals := 2, code := jdk_43_method_2_code, exceptionTable := #[], attributes := #[] }
def k12m1 : Method := { name := "charAt", desc := "([BI)C", sig := { parameters := [(.array .byte), .int], returnType := some .char }, accessFlags := 9, code := some k12c1 }
/-- java/lang/StringLatin1 -/
def k12 : Class := { plain "java/lang/StringLatin1" (some 0) with
  accessFlags := 48
  interfaces := #[]
  cf := some (fileOf pool12 14 #[.nestMembers #[390, 221]] #[{ accessFlags := 0, nameIndex := 7, descriptorIndex := 8, attributes := #[] }, { accessFlags := 9, nameIndex := 252, descriptorIndex := 53, attributes := #[] }] 48 4 #[] #[{ accessFlags := 4120, nameIndex := 121, descriptorIndex := 122, attributes := #[] }])
  fields := #[{ name := "$assertionsDisabled", type := .boolean, accessFlags := 4120, slot := 0, constantValue := 0 }]
  methods := #[k12m0, k12m1]
  instanceTypes := #[]
  staticTypes := #[.boolean]
  resolved := Array.replicate 395 none
  statics := none }

def pool13 : Array CpInfo := pool [(9, u "<init>"), (6, .class_ 18), (1, u "java/lang/Object"), (0, u "()V"), (1, .class_ 23), (1, u "jdk/internal/util/ArraysSupport"), (0, u "LOG2_ARRAY_LONG_INDEX_SCALE"), (0, u "I"), (2, u "U"), (0, u "Ljdk/internal/misc/Unsafe;"), (8, u "BIG_ENDIAN"), (0, u "Z"), (8, u "LOG2_BYTE_BIT_SIZE"), (4, u "LOG2_ARRAY_INT_INDEX_SCALE"), (54, u "JLA"), (0, u "Ljdk/internal/access/JavaLangAccess;"), (11, u "LOG2_ARRAY_BOOLEAN_INDEX_SCALE"), (9, u "LOG2_ARRAY_BYTE_INDEX_SCALE"), (5, u "LOG2_ARRAY_CHAR_INDEX_SCALE"), (5, u "LOG2_ARRAY_SHORT_INDEX_SCALE"), (18, u "LOG2_ARRAY_FLOAT_INDEX_SCALE"), (24, u "LOG2_ARRAY_DOUBLE_INDEX_SCALE"), (89, u "T_BOOLEAN"), (2, u "T_CHAR"), (1, u "T_FLOAT"), (1, u "T_DOUBLE"), (1, u "T_BYTE"), (1, u "T_SHORT"), (1, u "T_INT"), (1, u "T_LONG"), (1, u "SOFT_MAX_ARRAY_LENGTH")] 83

def k13m0 : Method := { name := "<init>", desc := "()V", sig := { parameters := [], returnType := none }, accessFlags := 2, code := none }
/-- jdk/internal/util/ArraysSupport -/
def k13 : Class := { plain "jdk/internal/util/ArraysSupport" (some 0) with
  accessFlags := 33
  interfaces := #[]
  cf := some (fileOf pool13 21 #[] #[{ accessFlags := 2, nameIndex := 9, descriptorIndex := 19, attributes := #[] }] 33 16 #[] #[{ accessFlags := 24, nameIndex := 28, descriptorIndex := 29, attributes := #[] }, { accessFlags := 26, nameIndex := 38, descriptorIndex := 39, attributes := #[] }, { accessFlags := 25, nameIndex := 121, descriptorIndex := 25, attributes := #[] }, { accessFlags := 25, nameIndex := 131, descriptorIndex := 25, attributes := #[] }, { accessFlags := 25, nameIndex := 137, descriptorIndex := 25, attributes := #[] }, { accessFlags := 25, nameIndex := 143, descriptorIndex := 25, attributes := #[] }, { accessFlags := 25, nameIndex := 53, descriptorIndex := 25, attributes := #[] }, { accessFlags := 25, nameIndex := 24, descriptorIndex := 25, attributes := #[] }, { accessFlags := 25, nameIndex := 162, descriptorIndex := 25, attributes := #[] }, { accessFlags := 25, nameIndex := 187, descriptorIndex := 25, attributes := #[] }, { accessFlags := 26, nameIndex := 48, descriptorIndex := 25, attributes := #[] }, { accessFlags := 25, nameIndex := 277, descriptorIndex := 25, attributes := #[] }, { accessFlags := 25, nameIndex := 280, descriptorIndex := 25, attributes := #[] }, { accessFlags := 25, nameIndex := 282, descriptorIndex := 25, attributes := #[] }, { accessFlags := 25, nameIndex := 284, descriptorIndex := 25, attributes := #[] }, { accessFlags := 25, nameIndex := 286, descriptorIndex := 25, attributes := #[] }, { accessFlags := 25, nameIndex := 288, descriptorIndex := 25, attributes := #[] }, { accessFlags := 25, nameIndex := 290, descriptorIndex := 25, attributes := #[] }, { accessFlags := 25, nameIndex := 292, descriptorIndex := 25, attributes := #[] }, { accessFlags := 26, nameIndex := 108, descriptorIndex := 109, attributes := #[] }, { accessFlags := 25, nameIndex := 294, descriptorIndex := 25, attributes := #[] }])
  fields := #[{ name := "U", type := (.object "jdk/internal/misc/Unsafe"), accessFlags := 24, slot := 0, constantValue := 0 }, { name := "BIG_ENDIAN", type := .boolean, accessFlags := 26, slot := 1, constantValue := 0 }, { name := "LOG2_ARRAY_BOOLEAN_INDEX_SCALE", type := .int, accessFlags := 25, slot := 2, constantValue := 0 }, { name := "LOG2_ARRAY_BYTE_INDEX_SCALE", type := .int, accessFlags := 25, slot := 3, constantValue := 0 }, { name := "LOG2_ARRAY_CHAR_INDEX_SCALE", type := .int, accessFlags := 25, slot := 4, constantValue := 0 }, { name := "LOG2_ARRAY_SHORT_INDEX_SCALE", type := .int, accessFlags := 25, slot := 5, constantValue := 0 }, { name := "LOG2_ARRAY_INT_INDEX_SCALE", type := .int, accessFlags := 25, slot := 6, constantValue := 0 }, { name := "LOG2_ARRAY_LONG_INDEX_SCALE", type := .int, accessFlags := 25, slot := 7, constantValue := 0 }, { name := "LOG2_ARRAY_FLOAT_INDEX_SCALE", type := .int, accessFlags := 25, slot := 8, constantValue := 0 }, { name := "LOG2_ARRAY_DOUBLE_INDEX_SCALE", type := .int, accessFlags := 25, slot := 9, constantValue := 0 }, { name := "LOG2_BYTE_BIT_SIZE", type := .int, accessFlags := 26, slot := 10, constantValue := 0 }, { name := "T_BOOLEAN", type := .int, accessFlags := 25, slot := 11, constantValue := 0 }, { name := "T_CHAR", type := .int, accessFlags := 25, slot := 12, constantValue := 0 }, { name := "T_FLOAT", type := .int, accessFlags := 25, slot := 13, constantValue := 0 }, { name := "T_DOUBLE", type := .int, accessFlags := 25, slot := 14, constantValue := 0 }, { name := "T_BYTE", type := .int, accessFlags := 25, slot := 15, constantValue := 0 }, { name := "T_SHORT", type := .int, accessFlags := 25, slot := 16, constantValue := 0 }, { name := "T_INT", type := .int, accessFlags := 25, slot := 17, constantValue := 0 }, { name := "T_LONG", type := .int, accessFlags := 25, slot := 18, constantValue := 0 }, { name := "JLA", type := (.object "jdk/internal/access/JavaLangAccess"), accessFlags := 26, slot := 19, constantValue := 0 }, { name := "SOFT_MAX_ARRAY_LENGTH", type := .int, accessFlags := 25, slot := 20, constantValue := 0 }]
  methods := #[k13m0]
  instanceTypes := #[]
  staticTypes := #[(.object "jdk/internal/misc/Unsafe"), .boolean, .int, .int, .int, .int, .int, .int, .int, .int, .int, .int, .int, .int, .int, .int, .int, .int, .int, (.object "jdk/internal/access/JavaLangAccess"), .int]
  resolved := Array.replicate 378 none
  statics := none }

def pool14 : Array CpInfo := pool [(1, u "java/lang/Cloneable"), (0, .class_ 1), (0, u "java/lang/Object"), (0, .class_ 3)] 3

/-- java/lang/Cloneable -/
def k14 : Class := { plain "java/lang/Cloneable" (some 0) with
  accessFlags := 1537
  interfaces := #[]
  cf := some (fileOf pool14 2 #[] #[] 1537 4 #[] #[])
  fields := #[]
  methods := #[]
  instanceTypes := #[]
  staticTypes := #[]
  resolved := Array.replicate 8 none
  statics := none }

/-- the primitive byte -/
def k15 : Class := { plain "byte" none with kind := .primitive 'B', accessFlags := 0x411 }
/-- [B -/
def k16 : Class := { plain "[B" (some 0) with kind := .array 15 .byte, interfaces := #[14, 2], accessFlags := 1041 }

/-- the primitive char -/
def k17 : Class := { plain "char" none with kind := .primitive 'C', accessFlags := 0x411 }
/-- [C -/
def k18 : Class := { plain "[C" (some 0) with kind := .array 17 .char, interfaces := #[14, 2], accessFlags := 1041 }

/-- the primitive int -/
def k19 : Class := { plain "int" none with kind := .primitive 'I', accessFlags := 0x411 }
/-- [I -/
def k20 : Class := { plain "[I" (some 0) with kind := .array 19 .int, interfaces := #[14, 2], accessFlags := 1041 }

def heap : Heap := #[{ cls := 7, slots := #[.long 0, .int 1, .null, .int 0, .null, .int 0, .int 0], vm := .statics 7 },
  { cls := 8, slots := #[.int 0, .int 8, .int 0, .int 1], vm := .statics 8 },
  { cls := 10, slots := #[.null, .null, .null], vm := .statics 10 }]
def classes : Array Class := #[k0, k1, k2, k3, k4, k5, k6, k7, k8, k9, k10, k11, k12, k13, k14, k15, k16, k17, k18, k19, k20]
def interned : List (Array UInt16 × Addr) := []
def slotsUsed : Nat := 14
def theMethod : MethodId := ⟨1, 1⟩
def args0 : Array Value := #[.int 5, .int 7, .int 9, .int 1, .int 0]
def aboutOver (below : List Frame) : State where
  vm := { classes := classes, interned := interned.toArray }
  heap := heap
  slotsUsed := slotsUsed
  threads := #[{ frames := .invoking theMethod args0 :: below }]
def below0 : List Frame := [.native { method := ⟨0, 0⟩, args := #[] }]
def about1 : State := aboutOver below0
def p0 : Program := .bare "" "" ""
def e0 : Env := launch0.env 0 0 0
theorem w_frames : about1.frames = Frame.invoking theMethod args0 :: below0 := rfl
set_option maxRecDepth 65536 in
theorem w_args : argsFit about1.vm theMethod args0 = true := by decide +kernel
set_option maxRecDepth 65536 in
theorem w_heap : heapFits about1 = true := by decide +kernel
set_option maxRecDepth 65536 in
theorem w_runnable : about1.curStatus? = some .runnable := by decide +kernel
set_option maxRecDepth 65536 in
theorem w_alone : about1.alone = true := by decide +kernel
set_option maxRecDepth 65536 in
theorem w_named : about1.methodNamed? x = some theMethod := by decide +kernel
set_option maxRecDepth 65536 in
theorem w_hears : about1.hears theMethod below0 = true := by decide +kernel
set_option maxRecDepth 65536 in
theorem w_ripe : about1.ripe theMethod args0 below0 = true := by decide +kernel
theorem w_running : about1.status = .running := rfl
set_option maxRecDepth 65536 in
theorem w_room : about1.hasRoom e0.platform room_1 = true :=
  launch0.hasRoom_least _ room_1 (by decide +kernel) (by decide +kernel) (by decide +kernel) (by decide +kernel) (by decide +kernel) (by decide +kernel)
theorem allAtoms_all (ts : List Jvm.Cond) (a : Array Jvm.Value) (st : Jvm.State) : (allAtoms ts).before a st = ts.all (fun c => c.before a st) := by
  induction ts with
  | nil => rfl
  | cons c t ih =>
    show (Jvm.Cond.and c (allAtoms t)).before a st = _
    rw [Jvm.Cond.before_and, ih, List.all_cons]
def words1 : List Jvm.Cond := Jvm.Cond.code x code maxLocals ret :: tables_1
/-- a 'code' word, met by the world's own term for the bytes: nothing is compared byte by byte -/
theorem code_word {y : MethodName} {bytes : ByteArray} {mx : Nat} {rt : Option FieldType} {a : Array Value} {s : State} {m : MethodId} {meth : Method} {c : Code} (h1 : s.methodNamed? y = some m) (h2 : s.vm.method? m = some meth) (h3 : meth.code = some c) (h4 : c.code = bytes)
    (h5 : (c.maxLocals == mx && c.exceptionTable.isEmpty && decide (c.maxStack ≤ mostOperands) && decide (meth.sig.returnType = rt) && !meth.locks && decide (parseMethodDescriptor y.desc = some meth.sig)) = true) : (Jvm.Cond.code y bytes mx rt).before a s = true := by
  simp only [Bool.and_eq_true, beq_iff_eq, Bool.not_eq_true', decide_eq_true_eq] at h5
  obtain ⟨⟨⟨⟨⟨g1, g2⟩, g3⟩, g4⟩, g5⟩, g6⟩ := h5
  simp [Cond.before, Cond.holds, Cond.value, h1, h2, h3, h4, g1, g2, g3, g4, g5, g6]
def isCode : Jvm.Cond → Bool
  | .code _ _ _ _ => true
  | _ => false
theorem all_split {L : List Jvm.Cond} {P : Jvm.Cond → Bool} (h1 : L.all (fun c => isCode c || P c) = true) (h2 : ∀ c ∈ L.filter isCode, P c = true) : L.all P = true := by
  refine List.all_eq_true.mpr fun c hc => ?_
  have h := List.all_eq_true.mp h1 c hc
  rcases Bool.eq_false_or_eq_true (isCode c) with hi | hi
  · exact h2 c (List.mem_filter.mpr ⟨hc, hi⟩)
  · simpa [hi] using h
set_option maxRecDepth 65536 in
theorem w_c0 : (Jvm.Cond.code x code maxLocals ret).before args0 about1 = true := code_word (m := ⟨1, 1⟩) (meth := k1m1) (c := k1c1) (by decide +kernel) rfl rfl rfl (by decide +kernel)
set_option maxRecDepth 65536 in
theorem w_c1 : (Jvm.Cond.code ({ cls := "com/example/libonce/libonce/StorableTextKeptLengthPinLaw", name := "draw", desc := "(I)C" } : Jvm.MethodName) method_3_code (3 : Nat) (Option.some Jvm.ClassFile.FieldType.char)).before args0 about1 = true := code_word (m := ⟨1, 2⟩) (meth := k1m2) (c := k1c2) (by decide +kernel) rfl rfl rfl (by decide +kernel)
set_option maxRecDepth 65536 in
theorem w_c2 : (Jvm.Cond.code ({ cls := "java/lang/String", name := "<init>", desc := "([C)V" } : Jvm.MethodName) jdk_42_method_3_code (2 : Nat) (Option.none : Option Jvm.ClassFile.FieldType)).before args0 about1 = true := code_word (m := ⟨7, 1⟩) (meth := k7m1) (c := k7c1) (by decide +kernel) rfl rfl rfl (by decide +kernel)
set_option maxRecDepth 65536 in
theorem w_c3 : (Jvm.Cond.code ({ cls := "java/lang/String", name := "<init>", desc := "([CIILjava/lang/Void;)V" } : Jvm.MethodName) jdk_42_method_149_code (6 : Nat) (Option.none : Option Jvm.ClassFile.FieldType)).before args0 about1 = true := code_word (m := ⟨7, 4⟩) (meth := k7m4) (c := k7c4) (by decide +kernel) rfl rfl rfl (by decide +kernel)
set_option maxRecDepth 65536 in
theorem w_c4 : (Jvm.Cond.code ({ cls := "java/lang/Object", name := "<init>", desc := "()V" } : Jvm.MethodName) object_method_1_code (1 : Nat) (Option.none : Option Jvm.ClassFile.FieldType)).before args0 about1 = true := code_word (m := ⟨0, 0⟩) (meth := k0m0) (c := k0c0) (by decide +kernel) rfl rfl rfl (by decide +kernel)
set_option maxRecDepth 65536 in
theorem w_c5 : (Jvm.Cond.code ({ cls := "java/lang/StringUTF16", name := "compress", desc := "([CII)[B" } : Jvm.MethodName) jdk_52_method_16_code (6 : Nat) (Option.some (Jvm.ClassFile.FieldType.array Jvm.ClassFile.FieldType.byte))).before args0 about1 = true := code_word (m := ⟨8, 8⟩) (meth := k8m8) (c := k8c8) (by decide +kernel) rfl rfl rfl (by decide +kernel)
set_option maxRecDepth 65536 in
theorem w_c6 : (Jvm.Cond.code ({ cls := "java/lang/StringUTF16", name := "compress", desc := "([CI[BII)I" } : Jvm.MethodName) jdk_52_method_21_code (7 : Nat) (Option.some Jvm.ClassFile.FieldType.int)).before args0 about1 = true := code_word (m := ⟨8, 9⟩) (meth := k8m9) (c := k8c9) (by decide +kernel) rfl rfl rfl (by decide +kernel)
set_option maxRecDepth 65536 in
theorem w_c7 : (Jvm.Cond.code ({ cls := "java/lang/StringUTF16", name := "toBytes", desc := "([CII)[B" } : Jvm.MethodName) jdk_52_method_14_code (5 : Nat) (Option.some (Jvm.ClassFile.FieldType.array Jvm.ClassFile.FieldType.byte))).before args0 about1 = true := code_word (m := ⟨8, 6⟩) (meth := k8m6) (c := k8c6) (by decide +kernel) rfl rfl rfl (by decide +kernel)
set_option maxRecDepth 65536 in
theorem w_c8 : (Jvm.Cond.code ({ cls := "java/lang/StringUTF16", name := "newBytesFor", desc := "(I)[B" } : Jvm.MethodName) jdk_52_method_2_code (1 : Nat) (Option.some (Jvm.ClassFile.FieldType.array Jvm.ClassFile.FieldType.byte))).before args0 about1 = true := code_word (m := ⟨8, 1⟩) (meth := k8m1) (c := k8c1) (by decide +kernel) rfl rfl rfl (by decide +kernel)
set_option maxRecDepth 65536 in
theorem w_c9 : (Jvm.Cond.code ({ cls := "java/lang/StringUTF16", name := "newBytesLength", desc := "(I)I" } : Jvm.MethodName) jdk_52_method_3_code (1 : Nat) (Option.some Jvm.ClassFile.FieldType.int)).before args0 about1 = true := code_word (m := ⟨8, 2⟩) (meth := k8m2) (c := k8c2) (by decide +kernel) rfl rfl rfl (by decide +kernel)
set_option maxRecDepth 65536 in
theorem w_c10 : (Jvm.Cond.code ({ cls := "java/lang/StringUTF16", name := "putChar", desc := "([BII)V" } : Jvm.MethodName) jdk_52_method_4_code (3 : Nat) (Option.none : Option Jvm.ClassFile.FieldType)).before args0 about1 = true := code_word (m := ⟨8, 3⟩) (meth := k8m3) (c := k8c3) (by decide +kernel) rfl rfl rfl (by decide +kernel)
set_option maxRecDepth 65536 in
theorem w_c11 : (Jvm.Cond.code ({ cls := "java/lang/StringUTF16", name := "getChar", desc := "([BI)C" } : Jvm.MethodName) jdk_52_method_5_code (2 : Nat) (Option.some Jvm.ClassFile.FieldType.char)).before args0 about1 = true := code_word (m := ⟨8, 4⟩) (meth := k8m4) (c := k8c4) (by decide +kernel) rfl rfl rfl (by decide +kernel)
set_option maxRecDepth 65536 in
theorem w_c12 : (Jvm.Cond.code ({ cls := "java/lang/StringUTF16", name := "coderFromArrayLen", desc := "([BI)B" } : Jvm.MethodName) jdk_52_method_15_code (2 : Nat) (Option.some Jvm.ClassFile.FieldType.byte)).before args0 about1 = true := code_word (m := ⟨8, 7⟩) (meth := k8m7) (c := k8c7) (by decide +kernel) rfl rfl rfl (by decide +kernel)
set_option maxRecDepth 65536 in
theorem w_c13 : (Jvm.Cond.code ({ cls := "com/example/libonce/libonce/StorableText", name := "keptLength", desc := "(Ljava/lang/String;I)I" } : Jvm.MethodName) prog_13_method_4_code (4 : Nat) (Option.some Jvm.ClassFile.FieldType.int)).before args0 about1 = true := code_word (m := ⟨9, 0⟩) (meth := k9m0) (c := k9c0) (by decide +kernel) rfl rfl rfl (by decide +kernel)
set_option maxRecDepth 65536 in
theorem w_c14 : (Jvm.Cond.code ({ cls := "java/lang/String", name := "charAt", desc := "(I)C" } : Jvm.MethodName) jdk_42_method_56_code (2 : Nat) (Option.some Jvm.ClassFile.FieldType.char)).before args0 about1 = true := code_word (m := ⟨7, 3⟩) (meth := k7m3) (c := k7c3) (by decide +kernel) rfl rfl rfl (by decide +kernel)
set_option maxRecDepth 65536 in
theorem w_c15 : (Jvm.Cond.code ({ cls := "java/lang/String", name := "isLatin1", desc := "()Z" } : Jvm.MethodName) jdk_42_method_154_code (1 : Nat) (Option.some Jvm.ClassFile.FieldType.boolean)).before args0 about1 = true := code_word (m := ⟨7, 6⟩) (meth := k7m6) (c := k7c6) (by decide +kernel) rfl rfl rfl (by decide +kernel)
set_option maxRecDepth 65536 in
theorem w_c16 : (Jvm.Cond.code ({ cls := "java/lang/StringUTF16", name := "charAt", desc := "([BI)C" } : Jvm.MethodName) jdk_52_method_83_code (2 : Nat) (Option.some Jvm.ClassFile.FieldType.char)).before args0 about1 = true := code_word (m := ⟨8, 10⟩) (meth := k8m10) (c := k8c10) (by decide +kernel) rfl rfl rfl (by decide +kernel)
set_option maxRecDepth 65536 in
theorem w_c17 : (Jvm.Cond.code ({ cls := "java/lang/StringUTF16", name := "checkIndex", desc := "(I[B)V" } : Jvm.MethodName) jdk_52_method_91_code (2 : Nat) (Option.none : Option Jvm.ClassFile.FieldType)).before args0 about1 = true := code_word (m := ⟨8, 11⟩) (meth := k8m11) (c := k8c11) (by decide +kernel) rfl rfl rfl (by decide +kernel)
set_option maxRecDepth 65536 in
theorem w_c18 : (Jvm.Cond.code ({ cls := "java/lang/StringUTF16", name := "length", desc := "([B)I" } : Jvm.MethodName) jdk_52_method_6_code (1 : Nat) (Option.some Jvm.ClassFile.FieldType.int)).before args0 about1 = true := code_word (m := ⟨8, 5⟩) (meth := k8m5) (c := k8c5) (by decide +kernel) rfl rfl rfl (by decide +kernel)
set_option maxRecDepth 65536 in
theorem w_c19 : (Jvm.Cond.code ({ cls := "java/lang/String", name := "checkIndex", desc := "(II)V" } : Jvm.MethodName) jdk_42_method_155_code (2 : Nat) (Option.none : Option Jvm.ClassFile.FieldType)).before args0 about1 = true := code_word (m := ⟨7, 7⟩) (meth := k7m7) (c := k7c7) (by decide +kernel) rfl rfl rfl (by decide +kernel)
set_option maxRecDepth 65536 in
theorem w_c20 : (Jvm.Cond.code ({ cls := "jdk/internal/util/Preconditions", name := "checkIndex", desc := "(IILjava/util/function/BiFunction;)I" } : Jvm.MethodName) jdk_41_method_11_code (3 : Nat) (Option.some Jvm.ClassFile.FieldType.int)).before args0 about1 = true := code_word (m := ⟨10, 1⟩) (meth := k10m1) (c := k10c1) (by decide +kernel) rfl rfl rfl (by decide +kernel)
set_option maxRecDepth 65536 in
theorem w_c21 : (Jvm.Cond.code ({ cls := "com/example/libonce/libonce/StorableTextKeptLengthPinLaw", name := "expected", desc := "([CII)I" } : Jvm.MethodName) method_4_code (5 : Nat) (Option.some Jvm.ClassFile.FieldType.int)).before args0 about1 = true := code_word (m := ⟨1, 3⟩) (meth := k1m3) (c := k1c3) (by decide +kernel) rfl rfl rfl (by decide +kernel)
set_option maxRecDepth 65536 in
theorem w_c22 : (Jvm.Cond.code ({ cls := "java/lang/Character", name := "isSurrogate", desc := "(C)Z" } : Jvm.MethodName) jdk_89_method_16_code (1 : Nat) (Option.some Jvm.ClassFile.FieldType.boolean)).before args0 about1 = true := code_word (m := ⟨11, 2⟩) (meth := k11m2) (c := k11c2) (by decide +kernel) rfl rfl rfl (by decide +kernel)
set_option maxRecDepth 65536 in
theorem w_c23 : (Jvm.Cond.code ({ cls := "java/lang/Character", name := "isHighSurrogate", desc := "(C)Z" } : Jvm.MethodName) jdk_89_method_14_code (1 : Nat) (Option.some Jvm.ClassFile.FieldType.boolean)).before args0 about1 = true := code_word (m := ⟨11, 0⟩) (meth := k11m0) (c := k11c0) (by decide +kernel) rfl rfl rfl (by decide +kernel)
set_option maxRecDepth 65536 in
theorem w_c24 : (Jvm.Cond.code ({ cls := "java/lang/String", name := "length", desc := "()I" } : Jvm.MethodName) jdk_42_method_54_code (1 : Nat) (Option.some Jvm.ClassFile.FieldType.int)).before args0 about1 = true := code_word (m := ⟨7, 2⟩) (meth := k7m2) (c := k7c2) (by decide +kernel) rfl rfl rfl (by decide +kernel)
set_option maxRecDepth 65536 in
theorem w_c25 : (Jvm.Cond.code ({ cls := "java/lang/String", name := "coder", desc := "()B" } : Jvm.MethodName) jdk_42_method_152_code (1 : Nat) (Option.some Jvm.ClassFile.FieldType.byte)).before args0 about1 = true := code_word (m := ⟨7, 5⟩) (meth := k7m5) (c := k7c5) (by decide +kernel) rfl rfl rfl (by decide +kernel)
set_option maxRecDepth 65536 in
theorem w_c26 : (Jvm.Cond.code ({ cls := "java/lang/StringLatin1", name := "charAt", desc := "([BI)C" } : Jvm.MethodName) jdk_43_method_2_code (2 : Nat) (Option.some Jvm.ClassFile.FieldType.char)).before args0 about1 = true := code_word (m := ⟨12, 1⟩) (meth := k12m1) (c := k12c1) (by decide +kernel) rfl rfl rfl (by decide +kernel)
set_option maxRecDepth 65536 in
theorem w_c27 : (Jvm.Cond.code ({ cls := "java/lang/Character", name := "isLowSurrogate", desc := "(C)Z" } : Jvm.MethodName) jdk_89_method_15_code (1 : Nat) (Option.some Jvm.ClassFile.FieldType.boolean)).before args0 about1 = true := code_word (m := ⟨11, 1⟩) (meth := k11m1) (c := k11c1) (by decide +kernel) rfl rfl rfl (by decide +kernel)
def codes1 : List Jvm.Cond := [Jvm.Cond.code x code maxLocals ret, Jvm.Cond.code ({ cls := "com/example/libonce/libonce/StorableTextKeptLengthPinLaw", name := "draw", desc := "(I)C" } : Jvm.MethodName) method_3_code (3 : Nat) (Option.some Jvm.ClassFile.FieldType.char), Jvm.Cond.code ({ cls := "java/lang/String", name := "<init>", desc := "([C)V" } : Jvm.MethodName) jdk_42_method_3_code (2 : Nat) (Option.none : Option Jvm.ClassFile.FieldType), Jvm.Cond.code ({ cls := "java/lang/String", name := "<init>", desc := "([CIILjava/lang/Void;)V" } : Jvm.MethodName) jdk_42_method_149_code (6 : Nat) (Option.none : Option Jvm.ClassFile.FieldType), Jvm.Cond.code ({ cls := "java/lang/Object", name := "<init>", desc := "()V" } : Jvm.MethodName) object_method_1_code (1 : Nat) (Option.none : Option Jvm.ClassFile.FieldType), Jvm.Cond.code ({ cls := "java/lang/StringUTF16", name := "compress", desc := "([CII)[B" } : Jvm.MethodName) jdk_52_method_16_code (6 : Nat) (Option.some (Jvm.ClassFile.FieldType.array Jvm.ClassFile.FieldType.byte)), Jvm.Cond.code ({ cls := "java/lang/StringUTF16", name := "compress", desc := "([CI[BII)I" } : Jvm.MethodName) jdk_52_method_21_code (7 : Nat) (Option.some Jvm.ClassFile.FieldType.int), Jvm.Cond.code ({ cls := "java/lang/StringUTF16", name := "toBytes", desc := "([CII)[B" } : Jvm.MethodName) jdk_52_method_14_code (5 : Nat) (Option.some (Jvm.ClassFile.FieldType.array Jvm.ClassFile.FieldType.byte)), Jvm.Cond.code ({ cls := "java/lang/StringUTF16", name := "newBytesFor", desc := "(I)[B" } : Jvm.MethodName) jdk_52_method_2_code (1 : Nat) (Option.some (Jvm.ClassFile.FieldType.array Jvm.ClassFile.FieldType.byte)), Jvm.Cond.code ({ cls := "java/lang/StringUTF16", name := "newBytesLength", desc := "(I)I" } : Jvm.MethodName) jdk_52_method_3_code (1 : Nat) (Option.some Jvm.ClassFile.FieldType.int), Jvm.Cond.code ({ cls := "java/lang/StringUTF16", name := "putChar", desc := "([BII)V" } : Jvm.MethodName) jdk_52_method_4_code (3 : Nat) (Option.none : Option Jvm.ClassFile.FieldType), Jvm.Cond.code ({ cls := "java/lang/StringUTF16", name := "getChar", desc := "([BI)C" } : Jvm.MethodName) jdk_52_method_5_code (2 : Nat) (Option.some Jvm.ClassFile.FieldType.char), Jvm.Cond.code ({ cls := "java/lang/StringUTF16", name := "coderFromArrayLen", desc := "([BI)B" } : Jvm.MethodName) jdk_52_method_15_code (2 : Nat) (Option.some Jvm.ClassFile.FieldType.byte), Jvm.Cond.code ({ cls := "com/example/libonce/libonce/StorableText", name := "keptLength", desc := "(Ljava/lang/String;I)I" } : Jvm.MethodName) prog_13_method_4_code (4 : Nat) (Option.some Jvm.ClassFile.FieldType.int), Jvm.Cond.code ({ cls := "java/lang/String", name := "charAt", desc := "(I)C" } : Jvm.MethodName) jdk_42_method_56_code (2 : Nat) (Option.some Jvm.ClassFile.FieldType.char), Jvm.Cond.code ({ cls := "java/lang/String", name := "isLatin1", desc := "()Z" } : Jvm.MethodName) jdk_42_method_154_code (1 : Nat) (Option.some Jvm.ClassFile.FieldType.boolean), Jvm.Cond.code ({ cls := "java/lang/StringUTF16", name := "charAt", desc := "([BI)C" } : Jvm.MethodName) jdk_52_method_83_code (2 : Nat) (Option.some Jvm.ClassFile.FieldType.char), Jvm.Cond.code ({ cls := "java/lang/StringUTF16", name := "checkIndex", desc := "(I[B)V" } : Jvm.MethodName) jdk_52_method_91_code (2 : Nat) (Option.none : Option Jvm.ClassFile.FieldType), Jvm.Cond.code ({ cls := "java/lang/StringUTF16", name := "length", desc := "([B)I" } : Jvm.MethodName) jdk_52_method_6_code (1 : Nat) (Option.some Jvm.ClassFile.FieldType.int), Jvm.Cond.code ({ cls := "java/lang/String", name := "checkIndex", desc := "(II)V" } : Jvm.MethodName) jdk_42_method_155_code (2 : Nat) (Option.none : Option Jvm.ClassFile.FieldType), Jvm.Cond.code ({ cls := "jdk/internal/util/Preconditions", name := "checkIndex", desc := "(IILjava/util/function/BiFunction;)I" } : Jvm.MethodName) jdk_41_method_11_code (3 : Nat) (Option.some Jvm.ClassFile.FieldType.int), Jvm.Cond.code ({ cls := "com/example/libonce/libonce/StorableTextKeptLengthPinLaw", name := "expected", desc := "([CII)I" } : Jvm.MethodName) method_4_code (5 : Nat) (Option.some Jvm.ClassFile.FieldType.int), Jvm.Cond.code ({ cls := "java/lang/Character", name := "isSurrogate", desc := "(C)Z" } : Jvm.MethodName) jdk_89_method_16_code (1 : Nat) (Option.some Jvm.ClassFile.FieldType.boolean), Jvm.Cond.code ({ cls := "java/lang/Character", name := "isHighSurrogate", desc := "(C)Z" } : Jvm.MethodName) jdk_89_method_14_code (1 : Nat) (Option.some Jvm.ClassFile.FieldType.boolean), Jvm.Cond.code ({ cls := "java/lang/String", name := "length", desc := "()I" } : Jvm.MethodName) jdk_42_method_54_code (1 : Nat) (Option.some Jvm.ClassFile.FieldType.int), Jvm.Cond.code ({ cls := "java/lang/String", name := "coder", desc := "()B" } : Jvm.MethodName) jdk_42_method_152_code (1 : Nat) (Option.some Jvm.ClassFile.FieldType.byte), Jvm.Cond.code ({ cls := "java/lang/StringLatin1", name := "charAt", desc := "([BI)C" } : Jvm.MethodName) jdk_43_method_2_code (2 : Nat) (Option.some Jvm.ClassFile.FieldType.char), Jvm.Cond.code ({ cls := "java/lang/Character", name := "isLowSurrogate", desc := "(C)Z" } : Jvm.MethodName) jdk_89_method_15_code (1 : Nat) (Option.some Jvm.ClassFile.FieldType.boolean)]
set_option maxRecDepth 65536 in
theorem codes_eq : words1.filter isCode = codes1 := rfl
theorem w_codes : ∀ c ∈ words1.filter isCode, c.before args0 about1 = true := by
  rw [codes_eq]
  intro c hc
  simp only [codes1, List.mem_cons, List.not_mem_nil, or_false] at hc
  rcases hc with rfl | rfl | rfl | rfl | rfl | rfl | rfl | rfl | rfl | rfl | rfl | rfl | rfl | rfl | rfl | rfl | rfl | rfl | rfl | rfl | rfl | rfl | rfl | rfl | rfl | rfl | rfl | rfl
  · exact w_c0
  · exact w_c1
  · exact w_c2
  · exact w_c3
  · exact w_c4
  · exact w_c5
  · exact w_c6
  · exact w_c7
  · exact w_c8
  · exact w_c9
  · exact w_c10
  · exact w_c11
  · exact w_c12
  · exact w_c13
  · exact w_c14
  · exact w_c15
  · exact w_c16
  · exact w_c17
  · exact w_c18
  · exact w_c19
  · exact w_c20
  · exact w_c21
  · exact w_c22
  · exact w_c23
  · exact w_c24
  · exact w_c25
  · exact w_c26
  · exact w_c27
set_option maxRecDepth 65536 in
theorem w_t1 : (words1.take 24).all (fun c => isCode c || c.before args0 about1) = true := by decide +kernel
set_option maxRecDepth 65536 in
theorem w_t2 : ((words1.drop 24).take 24).all (fun c => isCode c || c.before args0 about1) = true := by decide +kernel
set_option maxRecDepth 65536 in
theorem w_t3 : (((words1.drop 24).drop 24).take 24).all (fun c => isCode c || c.before args0 about1) = true := by decide +kernel
set_option maxRecDepth 65536 in
theorem w_t4 : ((((words1.drop 24).drop 24).drop 24).take 24).all (fun c => isCode c || c.before args0 about1) = true := by decide +kernel
set_option maxRecDepth 65536 in
theorem w_t5 : (((((words1.drop 24).drop 24).drop 24).drop 24).take 24).all (fun c => isCode c || c.before args0 about1) = true := by decide +kernel
set_option maxRecDepth 65536 in
theorem w_t6 : (((((words1.drop 24).drop 24).drop 24).drop 24).drop 24).all (fun c => isCode c || c.before args0 about1) = true := by decide +kernel
theorem w_tables : (allAtoms (Jvm.Cond.code x code maxLocals ret :: tables_1)).before args0 about1 = true := by
  rw [allAtoms_all]
  show words1.all (fun c => c.before args0 about1) = true
  refine all_split ?_ w_codes
  rw [← List.take_append_drop 24 words1, List.all_append, w_t1, ← List.take_append_drop 24 (words1.drop 24), List.all_append, w_t2, ← List.take_append_drop 24 ((words1.drop 24).drop 24), List.all_append, w_t3, ← List.take_append_drop 24 (((words1.drop 24).drop 24).drop 24), List.all_append, w_t4, ← List.take_append_drop 24 ((((words1.drop 24).drop 24).drop 24).drop 24), List.all_append, w_t5, w_t6]
  rfl
set_option maxRecDepth 65536 in
theorem w_rest : rest_1_c.before args0 about1 = true := by decide +kernel
set_option maxRecDepth 65536 in
theorem w_case : (Jvm.Cond.and given_1 narrow_1).before args0 about1 = true := by decide +kernel
theorem w_applies : (headSpec (Jvm.Cond.code x code maxLocals ret :: tables_1) room_1).applies x e0.platform about1 = true :=
  (Spec.applies_iff w_frames).mpr ⟨w_running, w_runnable, w_alone, w_named, w_hears, w_ripe, w_room, w_tables⟩
theorem atStart : AtStart classFile x code maxLocals ret World_1 tables_1 room_1 Calls_1 rest_1 Pre_1 launch0 p0 e0 about1 theMethod args0 below0 :=
  ⟨lists_1, trivial, launch0.admits_env _ _ _, launch0.least_env, fairChoices_fair.cas, fairChoices_fair.clock, w_frames, w_args, w_heap, w_applies, trivial, w_rest, w_case⟩
end start1
theorem witness_1 : WitnessClaimed_1 := ⟨start1.p0, start1.e0, start1.about1, start1.theMethod, start1.args0, start1.below0, start1.atStart⟩
end Jvm.Pilot.@@N@@
