import JvmDerived
import JvmDerived.Pilot.@@N@@Statement
import JvmDerived.Pilot.@@N@@Code
set_option linter.unusedVariables false
set_option linter.unusedSimpArgs false
namespace Jvm.RoadKit
open Sem ClassFile Op Lib Jvm.Stand Jvm.Free Jvm.LawKit
section New
variable {p : Program} {l : Launch} {e : Env} {R : Room} {s : State} {m : MethodId} {args : Array Value} {below : List Frame} {meth : Method} {c : Code} {T : State} {locs : List Loc} {cells slots : Nat}
theorem retI (X : Stand p l e R s m args below meth c T locs cells slots) (hx : p.tables.exec = Jvm.exec) {pc : Nat} {Ls : Array Slot} {z : Int32} {rest : List Value} (hret : meth.sig.returnType = some .int) (hd : decode c.code pc = .ok (.ireturn, 1)) {fs : List Frame}
    (hl : ∀ (f : JFrame) (acts : List Action), f.method = m → f.locked = none → f.entered = [] → (doReturn e (T.setTop f) acts (some (.int z))).1 = T.setFrames fs) : Steps p.tables e below (T.setTop (mkF m pc Ls (.int z :: rest))) (T.setFrames fs) := by
  have hm' : T.vm.method? m = some meth := X.method'
  have hn : narrow .int (.int z) = .int z := rfl
  show Steps p.tables e below (T.setTop { method := m, pc := pc, locals := Ls, stack := _ :: rest, locked := none }) _
  jvm_step X.here [X.here.top, hx, hd, hm', hret, hn]
  first | (intro acts; rw [hl _ acts rfl rfl rfl]) | rw [hl _ _ rfl rfl rfl]
  exact Steps.refl _
end New
end Jvm.RoadKit
namespace Jvm.Pilot.@@N@@
open Jvm Jvm.ClassFile Sem Op Lib Jvm.Free Jvm.Stand Jvm.LawKit Jvm.RoadKit Bundle Jvm.Pilot.@@N@@.Jvm.D
open Jvm.Free.XT (ushr ushrL cmpL)
section GoKit
open Jvm.Free.XT (ushr ushrL cmpL)
variable {p : Program} {l : Launch} {e : Env} {R : Room} {s : State} {m : MethodId} {args : Array Value} {below : List Frame} {meth : Method} {c : Code} {T : State} {locs : List Loc} {cells slots : Nat} {Q : Option Value → Heap → List Loc → Prop} {rc rs : Nat} {Fi : Outcome → State → Prop} {bytes : ByteArray} {pc pc' : Nat} {Ls : Array Slot} {rest : List Value}
def GoE (p : Program) (e : Env) (below : List Frame) (Fi : Outcome → State → Prop) (S : State) : Prop :=
  ∃ t o, Steps p.tables e below S t ∧ t.status = .running ∧ Ended t below o ∧ Fi o t
abbrev Go (p : Program) (e : Env) (below : List Frame) (s : State) (rc rs : Nat) (Q : Option Value → Heap → List Loc → Prop) (S : State) : Prop :=
  GoE p e below (fun o t => ∃ v L, o = .returned v ∧ Q v t.heap L ∧ FrameEnd s o t L rc rs) S
theorem GoE.pull {a b : State} (h : GoE p e below Fi b) (f : ∀ t, Steps p.tables e below b t → Steps p.tables e below a t) : GoE p e below Fi a := by
  obtain ⟨t, o, h1, h2⟩ := h
  exact ⟨t, o, f t h1, h2⟩
theorem GoE.imp {Fi' : Outcome → State → Prop} {a : State} (h : GoE p e below Fi a) (f : ∀ o t, Fi o t → Fi' o t) : GoE p e below Fi' a := by
  obtain ⟨t, o, h1, h2, h3, h4⟩ := h
  exact ⟨t, o, h1, h2, h3, f _ _ h4⟩
def Ctr (l : Launch) (Z : State) (y : MethodName) (bytes : ByteArray) (ml : Nat) (ret : Option FieldType) (ws : List Jvm.Cond) (rm : Room) (as : Array Value) (h0 : Heap) (Q : Option Value → Heap → List Loc → Prop) : Prop :=
  MetFree l y (head1 (Jvm.Cond.code y bytes ml ret :: ws) rm) (fun a U => a = as ∧ Z.Warmed39 U.vm ∧ U.heap = h0) (fun _ _ _ _ _ => True) (fun _ U o U' => ∃ v L, o = .returned v ∧ Q v U'.heap L ∧ FrameEnd U o U' L rm.cells rm.slots)
theorem Ctr.enter {Z : State} {y : MethodName} {ml : Nat} {ret : Option FieldType} {ws : List Jvm.Cond} {rm : Room} {as : Array Value} {h0 : Heap} (hpl : plainFor y = true) (hef : ∀ m, entryFrame m as ml = mkF m 0 Ls [])
    (body : ∀ (p : Program) (e : Env) (s : State) (m : MethodId) (below : List Frame) (meth : Method) (c : Code) (T : State), p.tables.exec = Jvm.exec → c.code = bytes → c.maxLocals = ml → s.vm.findClass y.cls = some m.cls → meth.name = y.name → meth.sig.returnType = ret → meth.locks = false → Z.Warmed39 s.vm → s.heap = h0 →
      Stand p l e rm s m as below meth c T [] 0 0 → T.heap = h0 → Go p e below s rm.cells rm.slots Q (T.setTop (mkF m 0 Ls []))) : Ctr l Z y bytes ml ret ws rm as h0 Q := by
  refine MetFree.of_bodySF hpl hisR ?_
  intro p e s m args below meth c s₁ Bd hml0 hP hK
  obtain ⟨rfl, hZ, hh⟩ := hP
  have h := body p e s m below meth c s₁ Bd.exec Bd.bytes hml0 (findClass_of_methodNamed Bd.named) (name_of_methodNamed Bd.named Bd.method).1 Bd.returns (BodyLoose.notSynchronized Bd) hZ hh (Stand.of_body Bd) (by rw [← hh, Bd.state]; rfl)
  exact h.pull fun t k => castTop (hef m) k
theorem Ctr.imp {Z : State} {y : MethodName} {ml : Nat} {ret : Option FieldType} {ws : List Jvm.Cond} {rm : Room} {as : Array Value} {h0 : Heap} {Q' : Option Value → Heap → List Loc → Prop} (C : Ctr l Z y bytes ml ret ws rm as h0 Q) (f : ∀ v h L, Q v h L → Q' v h L) : Ctr l Z y bytes ml ret ws rm as h0 Q' := by
  intro p e ha hc hk s m args below hf happ hP hK
  obtain ⟨n, o, h1, h2, h3, v, L, h4, h5, h6⟩ := C p e ha hc hk s m args below hf happ hP hK
  exact ⟨n, o, h1, h2, h3, v, L, h4, f _ _ _ h5, h6⟩
theorem g_iload (X : Stand p l e R s m args below meth c T locs cells slots) (hx : p.tables.exec = Jvm.exec) {k : Nat} {v : Int32} (hby : c.code = bytes) (hd : decode bytes pc = .ok (.iload k, 2)) (hp : pc + 2 = pc') (hl : Ls[k]? = some (.val (.int v)))
    (H : GoE p e below Fi (T.setTop (mkF m pc' Ls (.int v :: rest)))) : GoE p e below Fi (T.setTop (mkF m pc Ls rest)) := by
  subst hp; exact H.pull fun t k => Jvm.Free.XS.iload X.here hx rfl (hb hby hd) hl k
theorem g_iloadN (X : Stand p l e R s m args below meth c T locs cells slots) (hx : p.tables.exec = Jvm.exec) {k : Fin 4} {v : Int32} (hby : c.code = bytes) (hd : decode bytes pc = .ok (.iload_n k, 1)) (hp : pc + 1 = pc') (hl : Ls[k.val]? = some (.val (.int v)))
    (H : GoE p e below Fi (T.setTop (mkF m pc' Ls (.int v :: rest)))) : GoE p e below Fi (T.setTop (mkF m pc Ls rest)) := by
  subst hp; exact H.pull fun t k => Jvm.Free.XS.iloadN X.here hx rfl (hb hby hd) hl k
theorem g_istore (X : Stand p l e R s m args below meth c T locs cells slots) (hx : p.tables.exec = Jvm.exec) {k : Nat} {x : Int32} {l' : Array Slot} (hby : c.code = bytes) (hd : decode bytes pc = .ok (.istore k, 2)) (hp : pc + 2 = pc') (hl : storeLocals Ls k (.int x) = some l')
    (H : GoE p e below Fi (T.setTop (mkF m pc' l' rest))) : GoE p e below Fi (T.setTop (mkF m pc Ls (.int x :: rest))) := by
  subst hp; exact H.pull fun t k => Jvm.Free.XS.istore X.here hx rfl (hb hby hd) rfl hl k
theorem g_istoreN (X : Stand p l e R s m args below meth c T locs cells slots) (hx : p.tables.exec = Jvm.exec) {k : Fin 4} {x : Int32} {l' : Array Slot} (hby : c.code = bytes) (hd : decode bytes pc = .ok (.istore_n k, 1)) (hp : pc + 1 = pc') (hl : storeLocals Ls k.val (.int x) = some l')
    (H : GoE p e below Fi (T.setTop (mkF m pc' l' rest))) : GoE p e below Fi (T.setTop (mkF m pc Ls (.int x :: rest))) := by
  subst hp; exact H.pull fun t k => Jvm.Free.XS.istoreN X.here hx rfl (hb hby hd) rfl hl k
theorem g_lload (X : Stand p l e R s m args below meth c T locs cells slots) (hx : p.tables.exec = Jvm.exec) {k : Nat} {v : Int64} (hby : c.code = bytes) (hd : decode bytes pc = .ok (.lload k, 2)) (hp : pc + 2 = pc') (hl : Ls[k]? = some (.val (.long v)))
    (H : GoE p e below Fi (T.setTop (mkF m pc' Ls (.long v :: rest)))) : GoE p e below Fi (T.setTop (mkF m pc Ls rest)) := by
  subst hp; exact H.pull fun t k => Jvm.Free.XT.lload X.here hx rfl (hb hby hd) hl k
theorem g_lloadN (X : Stand p l e R s m args below meth c T locs cells slots) (hx : p.tables.exec = Jvm.exec) {k : Fin 4} {v : Int64} (hby : c.code = bytes) (hd : decode bytes pc = .ok (.lload_n k, 1)) (hp : pc + 1 = pc') (hl : Ls[k.val]? = some (.val (.long v)))
    (H : GoE p e below Fi (T.setTop (mkF m pc' Ls (.long v :: rest)))) : GoE p e below Fi (T.setTop (mkF m pc Ls rest)) := by
  subst hp; exact H.pull fun t k => Jvm.Free.XT.lloadN X.here hx rfl (hb hby hd) hl k
theorem g_lstore (X : Stand p l e R s m args below meth c T locs cells slots) (hx : p.tables.exec = Jvm.exec) {k : Nat} {x : Int64} {l' : Array Slot} (hby : c.code = bytes) (hd : decode bytes pc = .ok (.lstore k, 2)) (hp : pc + 2 = pc') (hl : storeLocals Ls k (.long x) = some l')
    (H : GoE p e below Fi (T.setTop (mkF m pc' l' rest))) : GoE p e below Fi (T.setTop (mkF m pc Ls (.long x :: rest))) := by
  subst hp; exact H.pull fun t k => Jvm.Free.XT.lstore X.here hx rfl (hb hby hd) rfl hl k
theorem g_lstoreN (X : Stand p l e R s m args below meth c T locs cells slots) (hx : p.tables.exec = Jvm.exec) {k : Fin 4} {x : Int64} {l' : Array Slot} (hby : c.code = bytes) (hd : decode bytes pc = .ok (.lstore_n k, 1)) (hp : pc + 1 = pc') (hl : storeLocals Ls k.val (.long x) = some l')
    (H : GoE p e below Fi (T.setTop (mkF m pc' l' rest))) : GoE p e below Fi (T.setTop (mkF m pc Ls (.long x :: rest))) := by
  subst hp; exact H.pull fun t k => Jvm.Free.XT.lstoreN X.here hx rfl (hb hby hd) rfl hl k
theorem g_dload (X : Stand p l e R s m args below meth c T locs cells slots) (hx : p.tables.exec = Jvm.exec) {k : Nat} {v : UInt64} (hby : c.code = bytes) (hd : decode bytes pc = .ok (.dload k, 2)) (hp : pc + 2 = pc') (hl : Ls[k]? = some (.val (.double v)))
    (H : GoE p e below Fi (T.setTop (mkF m pc' Ls (.double v :: rest)))) : GoE p e below Fi (T.setTop (mkF m pc Ls rest)) := by
  subst hp; exact H.pull fun t k => Jvm.Free.XS.dload X.here hx rfl (hb hby hd) hl k
theorem g_dloadN (X : Stand p l e R s m args below meth c T locs cells slots) (hx : p.tables.exec = Jvm.exec) {k : Fin 4} {v : UInt64} (hby : c.code = bytes) (hd : decode bytes pc = .ok (.dload_n k, 1)) (hp : pc + 1 = pc') (hl : Ls[k.val]? = some (.val (.double v)))
    (H : GoE p e below Fi (T.setTop (mkF m pc' Ls (.double v :: rest)))) : GoE p e below Fi (T.setTop (mkF m pc Ls rest)) := by
  subst hp; exact H.pull fun t k => Jvm.Free.XS.dloadN X.here hx rfl (hb hby hd) hl k
theorem g_dstore (X : Stand p l e R s m args below meth c T locs cells slots) (hx : p.tables.exec = Jvm.exec) {k : Nat} {x : UInt64} {l' : Array Slot} (hby : c.code = bytes) (hd : decode bytes pc = .ok (.dstore k, 2)) (hp : pc + 2 = pc') (hl : storeLocals Ls k (.double x) = some l')
    (H : GoE p e below Fi (T.setTop (mkF m pc' l' rest))) : GoE p e below Fi (T.setTop (mkF m pc Ls (.double x :: rest))) := by
  subst hp; exact H.pull fun t k => Jvm.Free.XS.dstore X.here hx rfl (hb hby hd) rfl hl k
theorem g_dstoreN (X : Stand p l e R s m args below meth c T locs cells slots) (hx : p.tables.exec = Jvm.exec) {k : Fin 4} {x : UInt64} {l' : Array Slot} (hby : c.code = bytes) (hd : decode bytes pc = .ok (.dstore_n k, 1)) (hp : pc + 1 = pc') (hl : storeLocals Ls k.val (.double x) = some l')
    (H : GoE p e below Fi (T.setTop (mkF m pc' l' rest))) : GoE p e below Fi (T.setTop (mkF m pc Ls (.double x :: rest))) := by
  subst hp; exact H.pull fun t k => Jvm.Free.XS.dstoreN X.here hx rfl (hb hby hd) rfl hl k
theorem g_aload (X : Stand p l e R s m args below meth c T locs cells slots) (hx : p.tables.exec = Jvm.exec) {k : Nat} {v : Value} (hby : c.code = bytes) (hd : decode bytes pc = .ok (.aload k, 2)) (hp : pc + 2 = pc') (hl : Ls[k]? = some (.val v)) (hv : v.isRef = true)
    (H : GoE p e below Fi (T.setTop (mkF m pc' Ls (v :: rest)))) : GoE p e below Fi (T.setTop (mkF m pc Ls rest)) := by
  subst hp; exact H.pull fun t k => Jvm.Free.XS.aload X.here hx rfl (hb hby hd) hl hv k
theorem g_aloadN (X : Stand p l e R s m args below meth c T locs cells slots) (hx : p.tables.exec = Jvm.exec) {k : Fin 4} {v : Value} (hby : c.code = bytes) (hd : decode bytes pc = .ok (.aload_n k, 1)) (hp : pc + 1 = pc') (hl : Ls[k.val]? = some (.val v)) (hv : v.isRef = true)
    (H : GoE p e below Fi (T.setTop (mkF m pc' Ls (v :: rest)))) : GoE p e below Fi (T.setTop (mkF m pc Ls rest)) := by
  subst hp; exact H.pull fun t k => Jvm.Free.XS.aloadN X.here hx rfl (hb hby hd) hl hv k
theorem g_astore (X : Stand p l e R s m args below meth c T locs cells slots) (hx : p.tables.exec = Jvm.exec) {k : Nat} {x : Value} {l' : Array Slot} (hby : c.code = bytes) (hd : decode bytes pc = .ok (.astore k, 2)) (hp : pc + 2 = pc') (hv : x.isRef = true) (hl : storeLocals Ls k x = some l')
    (H : GoE p e below Fi (T.setTop (mkF m pc' l' rest))) : GoE p e below Fi (T.setTop (mkF m pc Ls (x :: rest))) := by
  subst hp; exact H.pull fun t k => Jvm.Free.XS.astore X.here hx rfl (hb hby hd) rfl hv hl k
theorem g_astoreN (X : Stand p l e R s m args below meth c T locs cells slots) (hx : p.tables.exec = Jvm.exec) {k : Fin 4} {x : Value} {l' : Array Slot} (hby : c.code = bytes) (hd : decode bytes pc = .ok (.astore_n k, 1)) (hp : pc + 1 = pc') (hv : x.isRef = true) (hl : storeLocals Ls k.val x = some l')
    (H : GoE p e below Fi (T.setTop (mkF m pc' l' rest))) : GoE p e below Fi (T.setTop (mkF m pc Ls (x :: rest))) := by
  subst hp; exact H.pull fun t k => Jvm.Free.XS.astoreN X.here hx rfl (hb hby hd) rfl hv hl k
theorem g_iconst (X : Stand p l e R s m args below meth c T locs cells slots) (hx : p.tables.exec = Jvm.exec) {i : Int} {z : Int32} (hby : c.code = bytes) (hd : decode bytes pc = .ok (.iconst i, 1)) (hp : pc + 1 = pc') (hz : z = Int32.ofInt i)
    (H : GoE p e below Fi (T.setTop (mkF m pc' Ls (.int z :: rest)))) : GoE p e below Fi (T.setTop (mkF m pc Ls rest)) := by
  subst hp; exact H.pull fun t k => Jvm.Free.XS.iconst X.here hx rfl (hb hby hd) (hz ▸ k)
theorem g_bipush (X : Stand p l e R s m args below meth c T locs cells slots) (hx : p.tables.exec = Jvm.exec) {i : Int} {z : Int32} (hby : c.code = bytes) (hd : decode bytes pc = .ok (.bipush i, 2)) (hp : pc + 2 = pc') (hz : z = (Int8.ofInt i).toInt32)
    (H : GoE p e below Fi (T.setTop (mkF m pc' Ls (.int z :: rest)))) : GoE p e below Fi (T.setTop (mkF m pc Ls rest)) := by
  subst hp; exact H.pull fun t k => Jvm.Free.XS.bipush X.here hx rfl (hb hby hd) (hz ▸ k)
theorem g_sipush (X : Stand p l e R s m args below meth c T locs cells slots) (hx : p.tables.exec = Jvm.exec) {i : Int} {z : Int32} (hby : c.code = bytes) (hd : decode bytes pc = .ok (.sipush i, 3)) (hp : pc + 3 = pc') (hz : z = (Int16.ofInt i).toInt32)
    (H : GoE p e below Fi (T.setTop (mkF m pc' Ls (.int z :: rest)))) : GoE p e below Fi (T.setTop (mkF m pc Ls rest)) := by
  subst hp; exact H.pull fun t k => Jvm.Free.XS.sipush X.here hx rfl (hb hby hd) (hz ▸ k)
theorem g_lconst (X : Stand p l e R s m args below meth c T locs cells slots) (hx : p.tables.exec = Jvm.exec) {i : Fin 2} {z : Int64} (hby : c.code = bytes) (hd : decode bytes pc = .ok (.lconst i, 1)) (hp : pc + 1 = pc') (hz : z = Int64.ofNat i)
    (H : GoE p e below Fi (T.setTop (mkF m pc' Ls (.long z :: rest)))) : GoE p e below Fi (T.setTop (mkF m pc Ls rest)) := by
  subst hp; exact H.pull fun t k => Jvm.Free.XT.lconst X.here hx rfl (hb hby hd) (hz ▸ k)
theorem g_aconstNull (X : Stand p l e R s m args below meth c T locs cells slots) (hx : p.tables.exec = Jvm.exec)  (hby : c.code = bytes) (hd : decode bytes pc = .ok (.aconst_null, 1)) (hp : pc + 1 = pc') 
    (H : GoE p e below Fi (T.setTop (mkF m pc' Ls (.null :: rest)))) : GoE p e below Fi (T.setTop (mkF m pc Ls rest)) := by
  subst hp; exact H.pull fun t k => Jvm.Free.XS.aconstNull X.here hx rfl (hb hby hd) k
theorem g_ldcI (X : Stand p l e R s m args below meth c T locs cells slots) (hx : p.tables.exec = Jvm.exec) {Z : State} {a0 : Array Value} (hZ : Z.Warmed39 s.vm) {own : String} (hown : s.vm.findClass own = some m.cls) {index : Nat} {v : Int32} (hby : c.code = bytes) (hd : decode bytes pc = .ok (.ldc index, 2)) (hp : pc + 2 = pc') (w : (Jvm.Cond.constant own index v).before a0 Z = true)
    (H : GoE p e below Fi (T.setTop (mkF m pc' Ls (.int v :: rest)))) : GoE p e below Fi (T.setTop (mkF m pc Ls rest)) := by
  subst hp; exact H.pull fun t k => X.ldcInt hx hown (mvT hZ w) (g := mkF m pc Ls rest) rfl (hb hby hd) _ k
theorem g_ldcL (X : Stand p l e R s m args below meth c T locs cells slots) (hx : p.tables.exec = Jvm.exec) {Z : State} {a0 : Array Value} (hZ : Z.Warmed39 s.vm) {own : String} (hown : s.vm.findClass own = some m.cls) {index : Nat} {v : Int64} (hby : c.code = bytes) (hd : decode bytes pc = .ok (.ldc2_w index, 3)) (hp : pc + 3 = pc') (w : (Jvm.Cond.constantLong own index v).before a0 Z = true)
    (H : GoE p e below Fi (T.setTop (mkF m pc' Ls (.long v :: rest)))) : GoE p e below Fi (T.setTop (mkF m pc Ls rest)) := by
  subst hp; exact H.pull fun t k => X.ldc2Long hx hown (mvT hZ w) (g := mkF m pc Ls rest) rfl (hb hby hd) _ k
theorem g_ldcD (X : Stand p l e R s m args below meth c T locs cells slots) (hx : p.tables.exec = Jvm.exec) {Z : State} {a0 : Array Value} (hZ : Z.Warmed39 s.vm) {own : String} (hown : s.vm.findClass own = some m.cls) {index : Nat} {v : UInt64} (hby : c.code = bytes) (hd : decode bytes pc = .ok (.ldc2_w index, 3)) (hp : pc + 3 = pc') (w : (Jvm.Cond.constantDouble own index v).before a0 Z = true)
    (H : GoE p e below Fi (T.setTop (mkF m pc' Ls (.double v :: rest)))) : GoE p e below Fi (T.setTop (mkF m pc Ls rest)) := by
  subst hp; exact H.pull fun t k => X.ldc2DoubleC hx hown (mvT hZ w) (g := mkF m pc Ls rest) rfl (hb hby hd) _ k
theorem g_iadd (X : Stand p l e R s m args below meth c T locs cells slots) (hx : p.tables.exec = Jvm.exec) {x y : Int32} (hby : c.code = bytes) (hd : decode bytes pc = .ok (.iadd, 1)) (hp : pc + 1 = pc') 
    (H : GoE p e below Fi (T.setTop (mkF m pc' Ls (.int (x + y) :: rest)))) : GoE p e below Fi (T.setTop (mkF m pc Ls (.int y :: .int x :: rest))) := by
  subst hp; exact H.pull fun t k => Jvm.Free.XS.iadd X.here hx rfl (hb hby hd) rfl k
theorem g_isub (X : Stand p l e R s m args below meth c T locs cells slots) (hx : p.tables.exec = Jvm.exec) {x y : Int32} (hby : c.code = bytes) (hd : decode bytes pc = .ok (.isub, 1)) (hp : pc + 1 = pc') 
    (H : GoE p e below Fi (T.setTop (mkF m pc' Ls (.int (x - y) :: rest)))) : GoE p e below Fi (T.setTop (mkF m pc Ls (.int y :: .int x :: rest))) := by
  subst hp; exact H.pull fun t k => Jvm.Free.XS.isub X.here hx rfl (hb hby hd) rfl k
theorem g_imul (X : Stand p l e R s m args below meth c T locs cells slots) (hx : p.tables.exec = Jvm.exec) {x y : Int32} (hby : c.code = bytes) (hd : decode bytes pc = .ok (.imul, 1)) (hp : pc + 1 = pc') 
    (H : GoE p e below Fi (T.setTop (mkF m pc' Ls (.int (x * y) :: rest)))) : GoE p e below Fi (T.setTop (mkF m pc Ls (.int y :: .int x :: rest))) := by
  subst hp; exact H.pull fun t k => Jvm.Free.XS.imul X.here hx rfl (hb hby hd) rfl k
theorem g_iand (X : Stand p l e R s m args below meth c T locs cells slots) (hx : p.tables.exec = Jvm.exec) {x y : Int32} (hby : c.code = bytes) (hd : decode bytes pc = .ok (.iand, 1)) (hp : pc + 1 = pc') 
    (H : GoE p e below Fi (T.setTop (mkF m pc' Ls (.int (x &&& y) :: rest)))) : GoE p e below Fi (T.setTop (mkF m pc Ls (.int y :: .int x :: rest))) := by
  subst hp; exact H.pull fun t k => Jvm.Free.XS.iand X.here hx rfl (hb hby hd) rfl k
theorem g_ior (X : Stand p l e R s m args below meth c T locs cells slots) (hx : p.tables.exec = Jvm.exec) {x y : Int32} (hby : c.code = bytes) (hd : decode bytes pc = .ok (.ior, 1)) (hp : pc + 1 = pc') 
    (H : GoE p e below Fi (T.setTop (mkF m pc' Ls (.int (x ||| y) :: rest)))) : GoE p e below Fi (T.setTop (mkF m pc Ls (.int y :: .int x :: rest))) := by
  subst hp; exact H.pull fun t k => Jvm.Free.XT.ior X.here hx rfl (hb hby hd) rfl k
theorem g_ixor (X : Stand p l e R s m args below meth c T locs cells slots) (hx : p.tables.exec = Jvm.exec) {x y : Int32} (hby : c.code = bytes) (hd : decode bytes pc = .ok (.ixor, 1)) (hp : pc + 1 = pc') 
    (H : GoE p e below Fi (T.setTop (mkF m pc' Ls (.int (x ^^^ y) :: rest)))) : GoE p e below Fi (T.setTop (mkF m pc Ls (.int y :: .int x :: rest))) := by
  subst hp; exact H.pull fun t k => Jvm.Free.XT.ixor X.here hx rfl (hb hby hd) rfl k
theorem g_ishl (X : Stand p l e R s m args below meth c T locs cells slots) (hx : p.tables.exec = Jvm.exec) {x y : Int32} (hby : c.code = bytes) (hd : decode bytes pc = .ok (.ishl, 1)) (hp : pc + 1 = pc') 
    (H : GoE p e below Fi (T.setTop (mkF m pc' Ls (.int (x <<< (y &&& 31)) :: rest)))) : GoE p e below Fi (T.setTop (mkF m pc Ls (.int y :: .int x :: rest))) := by
  subst hp; exact H.pull fun t k => Jvm.Free.XT.ishl X.here hx rfl (hb hby hd) rfl k
theorem g_ishr (X : Stand p l e R s m args below meth c T locs cells slots) (hx : p.tables.exec = Jvm.exec) {x y : Int32} (hby : c.code = bytes) (hd : decode bytes pc = .ok (.ishr, 1)) (hp : pc + 1 = pc') 
    (H : GoE p e below Fi (T.setTop (mkF m pc' Ls (.int (x >>> (y &&& 31)) :: rest)))) : GoE p e below Fi (T.setTop (mkF m pc Ls (.int y :: .int x :: rest))) := by
  subst hp; exact H.pull fun t k => Jvm.Free.XT.ishr X.here hx rfl (hb hby hd) rfl k
theorem g_iushr (X : Stand p l e R s m args below meth c T locs cells slots) (hx : p.tables.exec = Jvm.exec) {x y : Int32} (hby : c.code = bytes) (hd : decode bytes pc = .ok (.iushr, 1)) (hp : pc + 1 = pc') 
    (H : GoE p e below Fi (T.setTop (mkF m pc' Ls (.int (ushr x y) :: rest)))) : GoE p e below Fi (T.setTop (mkF m pc Ls (.int y :: .int x :: rest))) := by
  subst hp; exact H.pull fun t k => Jvm.Free.XT.iushr X.here hx rfl (hb hby hd) rfl k
theorem g_idiv (X : Stand p l e R s m args below meth c T locs cells slots) (hx : p.tables.exec = Jvm.exec) {x y : Int32} (hby : c.code = bytes) (hd : decode bytes pc = .ok (.idiv, 1)) (hp : pc + 1 = pc') (hy : y ≠ 0)
    (H : GoE p e below Fi (T.setTop (mkF m pc' Ls (.int (x / y) :: rest)))) : GoE p e below Fi (T.setTop (mkF m pc Ls (.int y :: .int x :: rest))) := by
  subst hp; exact H.pull fun t k => Jvm.Free.XS.idiv X.here hx rfl (hb hby hd) rfl hy k
theorem g_irem (X : Stand p l e R s m args below meth c T locs cells slots) (hx : p.tables.exec = Jvm.exec) {x y : Int32} (hby : c.code = bytes) (hd : decode bytes pc = .ok (.irem, 1)) (hp : pc + 1 = pc') (hy : y ≠ 0)
    (H : GoE p e below Fi (T.setTop (mkF m pc' Ls (.int (x - (x / y) * y) :: rest)))) : GoE p e below Fi (T.setTop (mkF m pc Ls (.int y :: .int x :: rest))) := by
  subst hp; exact H.pull fun t k => Jvm.Free.XS.irem X.here hx rfl (hb hby hd) rfl hy k
theorem g_ineg (X : Stand p l e R s m args below meth c T locs cells slots) (hx : p.tables.exec = Jvm.exec) {x : Int32} (hby : c.code = bytes) (hd : decode bytes pc = .ok (.ineg, 1)) (hp : pc + 1 = pc') 
    (H : GoE p e below Fi (T.setTop (mkF m pc' Ls (.int (-x) :: rest)))) : GoE p e below Fi (T.setTop (mkF m pc Ls (.int x :: rest))) := by
  subst hp; exact H.pull fun t k => Jvm.Free.XS.ineg X.here hx rfl (hb hby hd) rfl k
theorem g_ladd (X : Stand p l e R s m args below meth c T locs cells slots) (hx : p.tables.exec = Jvm.exec) {x y : Int64} (hby : c.code = bytes) (hd : decode bytes pc = .ok (.ladd, 1)) (hp : pc + 1 = pc') 
    (H : GoE p e below Fi (T.setTop (mkF m pc' Ls (.long (x + y) :: rest)))) : GoE p e below Fi (T.setTop (mkF m pc Ls (.long y :: .long x :: rest))) := by
  subst hp; exact H.pull fun t k => Jvm.Free.XT.ladd X.here hx rfl (hb hby hd) rfl k
theorem g_lsub (X : Stand p l e R s m args below meth c T locs cells slots) (hx : p.tables.exec = Jvm.exec) {x y : Int64} (hby : c.code = bytes) (hd : decode bytes pc = .ok (.lsub, 1)) (hp : pc + 1 = pc') 
    (H : GoE p e below Fi (T.setTop (mkF m pc' Ls (.long (x - y) :: rest)))) : GoE p e below Fi (T.setTop (mkF m pc Ls (.long y :: .long x :: rest))) := by
  subst hp; exact H.pull fun t k => Jvm.Free.XT.lsub X.here hx rfl (hb hby hd) rfl k
theorem g_lmul (X : Stand p l e R s m args below meth c T locs cells slots) (hx : p.tables.exec = Jvm.exec) {x y : Int64} (hby : c.code = bytes) (hd : decode bytes pc = .ok (.lmul, 1)) (hp : pc + 1 = pc') 
    (H : GoE p e below Fi (T.setTop (mkF m pc' Ls (.long (x * y) :: rest)))) : GoE p e below Fi (T.setTop (mkF m pc Ls (.long y :: .long x :: rest))) := by
  subst hp; exact H.pull fun t k => Jvm.Free.XT.lmul X.here hx rfl (hb hby hd) rfl k
theorem g_land (X : Stand p l e R s m args below meth c T locs cells slots) (hx : p.tables.exec = Jvm.exec) {x y : Int64} (hby : c.code = bytes) (hd : decode bytes pc = .ok (.land, 1)) (hp : pc + 1 = pc') 
    (H : GoE p e below Fi (T.setTop (mkF m pc' Ls (.long (x &&& y) :: rest)))) : GoE p e below Fi (T.setTop (mkF m pc Ls (.long y :: .long x :: rest))) := by
  subst hp; exact H.pull fun t k => Jvm.Free.XT.land X.here hx rfl (hb hby hd) rfl k
theorem g_lor (X : Stand p l e R s m args below meth c T locs cells slots) (hx : p.tables.exec = Jvm.exec) {x y : Int64} (hby : c.code = bytes) (hd : decode bytes pc = .ok (.lor, 1)) (hp : pc + 1 = pc') 
    (H : GoE p e below Fi (T.setTop (mkF m pc' Ls (.long (x ||| y) :: rest)))) : GoE p e below Fi (T.setTop (mkF m pc Ls (.long y :: .long x :: rest))) := by
  subst hp; exact H.pull fun t k => Jvm.Free.XT.lor X.here hx rfl (hb hby hd) rfl k
theorem g_lxor (X : Stand p l e R s m args below meth c T locs cells slots) (hx : p.tables.exec = Jvm.exec) {x y : Int64} (hby : c.code = bytes) (hd : decode bytes pc = .ok (.lxor, 1)) (hp : pc + 1 = pc') 
    (H : GoE p e below Fi (T.setTop (mkF m pc' Ls (.long (x ^^^ y) :: rest)))) : GoE p e below Fi (T.setTop (mkF m pc Ls (.long y :: .long x :: rest))) := by
  subst hp; exact H.pull fun t k => Jvm.Free.XT.lxor X.here hx rfl (hb hby hd) rfl k
theorem g_ldiv (X : Stand p l e R s m args below meth c T locs cells slots) (hx : p.tables.exec = Jvm.exec) {x y : Int64} (hby : c.code = bytes) (hd : decode bytes pc = .ok (.ldiv, 1)) (hp : pc + 1 = pc') (hy : y ≠ 0)
    (H : GoE p e below Fi (T.setTop (mkF m pc' Ls (.long (x / y) :: rest)))) : GoE p e below Fi (T.setTop (mkF m pc Ls (.long y :: .long x :: rest))) := by
  subst hp; exact H.pull fun t k => Jvm.Free.XT.ldiv X.here hx rfl (hb hby hd) rfl hy k
theorem g_lrem (X : Stand p l e R s m args below meth c T locs cells slots) (hx : p.tables.exec = Jvm.exec) {x y : Int64} (hby : c.code = bytes) (hd : decode bytes pc = .ok (.lrem, 1)) (hp : pc + 1 = pc') (hy : y ≠ 0)
    (H : GoE p e below Fi (T.setTop (mkF m pc' Ls (.long (x - (x / y) * y) :: rest)))) : GoE p e below Fi (T.setTop (mkF m pc Ls (.long y :: .long x :: rest))) := by
  subst hp; exact H.pull fun t k => Jvm.Free.XT.lrem X.here hx rfl (hb hby hd) rfl hy k
theorem g_lneg (X : Stand p l e R s m args below meth c T locs cells slots) (hx : p.tables.exec = Jvm.exec) {x : Int64} (hby : c.code = bytes) (hd : decode bytes pc = .ok (.lneg, 1)) (hp : pc + 1 = pc') 
    (H : GoE p e below Fi (T.setTop (mkF m pc' Ls (.long (-x) :: rest)))) : GoE p e below Fi (T.setTop (mkF m pc Ls (.long x :: rest))) := by
  subst hp; exact H.pull fun t k => Jvm.Free.XT.lneg X.here hx rfl (hb hby hd) rfl k
theorem g_lshl (X : Stand p l e R s m args below meth c T locs cells slots) (hx : p.tables.exec = Jvm.exec) {x : Int64} {y : Int32} (hby : c.code = bytes) (hd : decode bytes pc = .ok (.lshl, 1)) (hp : pc + 1 = pc') 
    (H : GoE p e below Fi (T.setTop (mkF m pc' Ls (.long (x <<< (y.toInt64 &&& 63)) :: rest)))) : GoE p e below Fi (T.setTop (mkF m pc Ls (.int y :: .long x :: rest))) := by
  subst hp; exact H.pull fun t k => Jvm.Free.XT.lshl X.here hx rfl (hb hby hd) rfl k
theorem g_lshr (X : Stand p l e R s m args below meth c T locs cells slots) (hx : p.tables.exec = Jvm.exec) {x : Int64} {y : Int32} (hby : c.code = bytes) (hd : decode bytes pc = .ok (.lshr, 1)) (hp : pc + 1 = pc') 
    (H : GoE p e below Fi (T.setTop (mkF m pc' Ls (.long (x >>> (y.toInt64 &&& 63)) :: rest)))) : GoE p e below Fi (T.setTop (mkF m pc Ls (.int y :: .long x :: rest))) := by
  subst hp; exact H.pull fun t k => Jvm.Free.XT.lshr X.here hx rfl (hb hby hd) rfl k
theorem g_lushr (X : Stand p l e R s m args below meth c T locs cells slots) (hx : p.tables.exec = Jvm.exec) {x : Int64} {y : Int32} (hby : c.code = bytes) (hd : decode bytes pc = .ok (.lushr, 1)) (hp : pc + 1 = pc') 
    (H : GoE p e below Fi (T.setTop (mkF m pc' Ls (.long (ushrL x y) :: rest)))) : GoE p e below Fi (T.setTop (mkF m pc Ls (.int y :: .long x :: rest))) := by
  subst hp; exact H.pull fun t k => Jvm.Free.XT.lushr X.here hx rfl (hb hby hd) rfl k
theorem g_i2l (X : Stand p l e R s m args below meth c T locs cells slots) (hx : p.tables.exec = Jvm.exec) {x : Int32} (hby : c.code = bytes) (hd : decode bytes pc = .ok (.i2l, 1)) (hp : pc + 1 = pc') 
    (H : GoE p e below Fi (T.setTop (mkF m pc' Ls (.long x.toInt64 :: rest)))) : GoE p e below Fi (T.setTop (mkF m pc Ls (.int x :: rest))) := by
  subst hp; exact H.pull fun t k => Jvm.Free.XT.i2l X.here hx rfl (hb hby hd) rfl k
theorem g_l2i (X : Stand p l e R s m args below meth c T locs cells slots) (hx : p.tables.exec = Jvm.exec) {x : Int64} (hby : c.code = bytes) (hd : decode bytes pc = .ok (.l2i, 1)) (hp : pc + 1 = pc') 
    (H : GoE p e below Fi (T.setTop (mkF m pc' Ls (.int x.toInt32 :: rest)))) : GoE p e below Fi (T.setTop (mkF m pc Ls (.long x :: rest))) := by
  subst hp; exact H.pull fun t k => Jvm.Free.XT.l2i X.here hx rfl (hb hby hd) rfl k
theorem g_i2b (X : Stand p l e R s m args below meth c T locs cells slots) (hx : p.tables.exec = Jvm.exec) {x : Int32} (hby : c.code = bytes) (hd : decode bytes pc = .ok (.i2b, 1)) (hp : pc + 1 = pc') 
    (H : GoE p e below Fi (T.setTop (mkF m pc' Ls (.int x.toInt8.toInt32 :: rest)))) : GoE p e below Fi (T.setTop (mkF m pc Ls (.int x :: rest))) := by
  subst hp; exact H.pull fun t k => Jvm.Free.XT.i2b X.here hx rfl (hb hby hd) rfl k
theorem g_i2c (X : Stand p l e R s m args below meth c T locs cells slots) (hx : p.tables.exec = Jvm.exec) {x : Int32} (hby : c.code = bytes) (hd : decode bytes pc = .ok (.i2c, 1)) (hp : pc + 1 = pc') 
    (H : GoE p e below Fi (T.setTop (mkF m pc' Ls (.int x.toUInt32.toUInt16.toUInt32.toInt32 :: rest)))) : GoE p e below Fi (T.setTop (mkF m pc Ls (.int x :: rest))) := by
  subst hp; exact H.pull fun t k => Jvm.Free.XT.i2c X.here hx rfl (hb hby hd) rfl k
theorem g_i2s (X : Stand p l e R s m args below meth c T locs cells slots) (hx : p.tables.exec = Jvm.exec) {x : Int32} (hby : c.code = bytes) (hd : decode bytes pc = .ok (.i2s, 1)) (hp : pc + 1 = pc') 
    (H : GoE p e below Fi (T.setTop (mkF m pc' Ls (.int x.toInt16.toInt32 :: rest)))) : GoE p e below Fi (T.setTop (mkF m pc Ls (.int x :: rest))) := by
  subst hp; exact H.pull fun t k => Jvm.Free.XT.i2s X.here hx rfl (hb hby hd) rfl k
theorem g_i2d (X : Stand p l e R s m args below meth c T locs cells slots) (hx : p.tables.exec = Jvm.exec) {x : Int32} (hby : c.code = bytes) (hd : decode bytes pc = .ok (.i2d, 1)) (hp : pc + 1 = pc') 
    (H : GoE p e below Fi (T.setTop (mkF m pc' Ls (.double (FP.l2d x.toInt64) :: rest)))) : GoE p e below Fi (T.setTop (mkF m pc Ls (.int x :: rest))) := by
  subst hp; exact H.pull fun t k => Jvm.Free.XS.i2dS X.here hx rfl (hb hby hd) rfl (i2d_w x) k
theorem g_l2d (X : Stand p l e R s m args below meth c T locs cells slots) (hx : p.tables.exec = Jvm.exec) {x : Int64} (hby : c.code = bytes) (hd : decode bytes pc = .ok (.l2d, 1)) (hp : pc + 1 = pc') 
    (H : GoE p e below Fi (T.setTop (mkF m pc' Ls (.double (FP.l2d x) :: rest)))) : GoE p e below Fi (T.setTop (mkF m pc Ls (.long x :: rest))) := by
  subst hp; exact H.pull fun t k => Jvm.Free.XS.l2dS X.here hx rfl (hb hby hd) rfl rfl k
theorem g_dcmp (X : Stand p l e R s m args below meth c T locs cells slots) (hx : p.tables.exec = Jvm.exec) {o : CmpOp} {x y : UInt64} {v : Int32} (hby : c.code = bytes) (hd : decode bytes pc = .ok (.dcmp o, 1)) (hp : pc + 1 = pc') (hv : cmpValue (FP.dcmp x y) o = v)
    (H : GoE p e below Fi (T.setTop (mkF m pc' Ls (.int v :: rest)))) : GoE p e below Fi (T.setTop (mkF m pc Ls (.double y :: .double x :: rest))) := by
  subst hp; exact H.pull fun t k => Jvm.Free.XS.dcmpS X.here hx rfl (hb hby hd) rfl hv k
theorem g_lcmp (X : Stand p l e R s m args below meth c T locs cells slots) (hx : p.tables.exec = Jvm.exec) {x y : Int64} (hby : c.code = bytes) (hd : decode bytes pc = .ok (.lcmp, 1)) (hp : pc + 1 = pc') 
    (H : GoE p e below Fi (T.setTop (mkF m pc' Ls (.int (cmpL x y) :: rest)))) : GoE p e below Fi (T.setTop (mkF m pc Ls (.long y :: .long x :: rest))) := by
  subst hp; exact H.pull fun t k => Jvm.Free.XT.lcmp X.here hx rfl (hb hby hd) rfl k
theorem g_dup (X : Stand p l e R s m args below meth c T locs cells slots) (hx : p.tables.exec = Jvm.exec) {x : Value} (hby : c.code = bytes) (hd : decode bytes pc = .ok (.dup, 1)) (hp : pc + 1 = pc') (hc : x.category = 1)
    (H : GoE p e below Fi (T.setTop (mkF m pc' Ls (x :: x :: rest)))) : GoE p e below Fi (T.setTop (mkF m pc Ls (x :: rest))) := by
  subst hp; exact H.pull fun t k => Jvm.Free.XS.dup X.here hx rfl (hb hby hd) rfl hc k
theorem g_pop (X : Stand p l e R s m args below meth c T locs cells slots) (hx : p.tables.exec = Jvm.exec) {x : Value} (hby : c.code = bytes) (hd : decode bytes pc = .ok (.pop, 1)) (hp : pc + 1 = pc') (hc : x.category = 1)
    (H : GoE p e below Fi (T.setTop (mkF m pc' Ls rest))) : GoE p e below Fi (T.setTop (mkF m pc Ls (x :: rest))) := by
  subst hp; exact H.pull fun t k => Jvm.Free.XT.pop X.here hx rfl (hb hby hd) rfl hc k
theorem g_iinc (X : Stand p l e R s m args below meth c T locs cells slots) (hx : p.tables.exec = Jvm.exec) {k : Nat} {cst : Int} {x : Int32} {l' : Array Slot} (hby : c.code = bytes) (hd : decode bytes pc = .ok (.iinc k cst, 3)) (hp : pc + 3 = pc') (hl : Ls[k]? = some (.val (.int x))) (hl' : storeLocals Ls k (.int (x + Int32.ofInt cst)) = some l')
    (H : GoE p e below Fi (T.setTop (mkF m pc' l' rest))) : GoE p e below Fi (T.setTop (mkF m pc Ls rest)) := by
  subst hp; exact H.pull fun t k => Jvm.Free.XS.iinc X.here hx rfl (hb hby hd) hl hl' k
theorem g_goto (X : Stand p l e R s m args below meth c T locs cells slots) (hx : p.tables.exec = Jvm.exec) {o : Int} (hby : c.code = bytes) (hd : decode bytes pc = .ok (.goto o, 3)) (ho : 0 ≤ (pc : Int) + o) (hp : ((pc : Int) + o).toNat = pc')
    (H : GoE p e below Fi (T.setTop (mkF m pc' Ls rest))) : GoE p e below Fi (T.setTop (mkF m pc Ls rest)) :=
  H.pull fun t k => Jvm.Free.XS.goto X.here hx rfl rfl (hb hby hd) ho hp k
theorem g_icmp_eq (X : Stand p l e R s m args below meth c T locs cells slots) (hx : p.tables.exec = Jvm.exec) {o : Int} {pn : Nat} (hby : c.code = bytes) {x y : Int32} (hd : decode bytes pc = .ok (.if_icmp .eq o, 3)) (ho : 0 ≤ (pc : Int) + o) (hp : ((pc : Int) + o).toNat = pc') (hn : pc + 3 = pn)
    (HY : x = y → GoE p e below Fi (T.setTop (mkF m pc' Ls rest))) (HN : ¬ (x = y) → GoE p e below Fi (T.setTop (mkF m pn Ls rest))) : GoE p e below Fi (T.setTop (mkF m pc Ls (.int y :: .int x :: rest))) := by
  subst hn
  by_cases q : x = y
  · exact (HY q).pull fun t k => Jvm.Free.XS.icmpYes X.here hx rfl rfl (hb hby hd) rfl (teq q).1 ho hp k
  · have q' : ¬ (x = y) := by first | exact q | exact Decidable.not_not.mp q
    exact (HN q').pull fun t k => Jvm.Free.XS.icmpNo X.here hx rfl (hb hby hd) rfl (feq q').1 k
theorem g_if_eq (X : Stand p l e R s m args below meth c T locs cells slots) (hx : p.tables.exec = Jvm.exec) {o : Int} {pn : Nat} (hby : c.code = bytes) {x : Int32} (hd : decode bytes pc = .ok (.ifCond .eq o, 3)) (ho : 0 ≤ (pc : Int) + o) (hp : ((pc : Int) + o).toNat = pc') (hn : pc + 3 = pn)
    (HY : x = 0 → GoE p e below Fi (T.setTop (mkF m pc' Ls rest))) (HN : ¬ (x = 0) → GoE p e below Fi (T.setTop (mkF m pn Ls rest))) : GoE p e below Fi (T.setTop (mkF m pc Ls (.int x :: rest))) := by
  subst hn
  by_cases q : x = 0
  · exact (HY q).pull fun t k => Jvm.Free.XS.ifYes X.here hx rfl rfl (hb hby hd) rfl ((if0 _ _).trans (teq q).1) ho hp k
  · have q' : ¬ (x = 0) := by first | exact q | exact Decidable.not_not.mp q
    exact (HN q').pull fun t k => Jvm.Free.XS.ifNo X.here hx rfl (hb hby hd) rfl ((if0 _ _).trans (feq q').1) k
theorem cl_W (u v : Int64) : cmpL u v = lcmpW u v := rfl
theorem cl_lt (u v : Int64) : cmpL u v < 0 ↔ u < v := by rw [cl_W]; exact lw_lt u v
theorem cl_gt (u v : Int64) : 0 < cmpL u v ↔ v < u := by rw [cl_W]; exact lw_gt u v
theorem cl_eq (u v : Int64) : cmpL u v = 0 ↔ u = v := by rw [cl_W]; exact lw_eq u v
theorem g_ifL_eq (X : Stand p l e R s m args below meth c T locs cells slots) (hx : p.tables.exec = Jvm.exec) {o : Int} {pn : Nat} (hby : c.code = bytes) {u v : Int64} (hd : decode bytes pc = .ok (.ifCond .eq o, 3)) (ho : 0 ≤ (pc : Int) + o) (hp : ((pc : Int) + o).toNat = pc') (hn : pc + 3 = pn)
    (HY : u = v → GoE p e below Fi (T.setTop (mkF m pc' Ls rest))) (HN : ¬ (u = v) → GoE p e below Fi (T.setTop (mkF m pn Ls rest))) : GoE p e below Fi (T.setTop (mkF m pc Ls (.int (cmpL u v) :: rest))) :=
  g_if_eq X hx hby hd ho hp hn (fun h => HY ((cl_eq u v).mp h)) (fun h => HN (fun z => h ((cl_eq u v).mpr z)))
theorem g_icmp_ne (X : Stand p l e R s m args below meth c T locs cells slots) (hx : p.tables.exec = Jvm.exec) {o : Int} {pn : Nat} (hby : c.code = bytes) {x y : Int32} (hd : decode bytes pc = .ok (.if_icmp .ne o, 3)) (ho : 0 ≤ (pc : Int) + o) (hp : ((pc : Int) + o).toNat = pc') (hn : pc + 3 = pn)
    (HY : ¬ (x = y) → GoE p e below Fi (T.setTop (mkF m pc' Ls rest))) (HN : x = y → GoE p e below Fi (T.setTop (mkF m pn Ls rest))) : GoE p e below Fi (T.setTop (mkF m pc Ls (.int y :: .int x :: rest))) := by
  subst hn
  by_cases q : ¬ (x = y)
  · exact (HY q).pull fun t k => Jvm.Free.XS.icmpYes X.here hx rfl rfl (hb hby hd) rfl (feq q).2 ho hp k
  · have q' : x = y := by first | exact q | exact Decidable.not_not.mp q
    exact (HN q').pull fun t k => Jvm.Free.XS.icmpNo X.here hx rfl (hb hby hd) rfl (teq q').2 k
theorem g_if_ne (X : Stand p l e R s m args below meth c T locs cells slots) (hx : p.tables.exec = Jvm.exec) {o : Int} {pn : Nat} (hby : c.code = bytes) {x : Int32} (hd : decode bytes pc = .ok (.ifCond .ne o, 3)) (ho : 0 ≤ (pc : Int) + o) (hp : ((pc : Int) + o).toNat = pc') (hn : pc + 3 = pn)
    (HY : ¬ (x = 0) → GoE p e below Fi (T.setTop (mkF m pc' Ls rest))) (HN : x = 0 → GoE p e below Fi (T.setTop (mkF m pn Ls rest))) : GoE p e below Fi (T.setTop (mkF m pc Ls (.int x :: rest))) := by
  subst hn
  by_cases q : ¬ (x = 0)
  · exact (HY q).pull fun t k => Jvm.Free.XS.ifYes X.here hx rfl rfl (hb hby hd) rfl ((if0 _ _).trans (feq q).2) ho hp k
  · have q' : x = 0 := by first | exact q | exact Decidable.not_not.mp q
    exact (HN q').pull fun t k => Jvm.Free.XS.ifNo X.here hx rfl (hb hby hd) rfl ((if0 _ _).trans (teq q').2) k
theorem g_ifL_ne (X : Stand p l e R s m args below meth c T locs cells slots) (hx : p.tables.exec = Jvm.exec) {o : Int} {pn : Nat} (hby : c.code = bytes) {u v : Int64} (hd : decode bytes pc = .ok (.ifCond .ne o, 3)) (ho : 0 ≤ (pc : Int) + o) (hp : ((pc : Int) + o).toNat = pc') (hn : pc + 3 = pn)
    (HY : ¬ (u = v) → GoE p e below Fi (T.setTop (mkF m pc' Ls rest))) (HN : u = v → GoE p e below Fi (T.setTop (mkF m pn Ls rest))) : GoE p e below Fi (T.setTop (mkF m pc Ls (.int (cmpL u v) :: rest))) :=
  g_if_ne X hx hby hd ho hp hn (fun h => HY (fun z => h ((cl_eq u v).mpr z))) (fun h => HN ((cl_eq u v).mp h))
theorem g_icmp_lt (X : Stand p l e R s m args below meth c T locs cells slots) (hx : p.tables.exec = Jvm.exec) {o : Int} {pn : Nat} (hby : c.code = bytes) {x y : Int32} (hd : decode bytes pc = .ok (.if_icmp .lt o, 3)) (ho : 0 ≤ (pc : Int) + o) (hp : ((pc : Int) + o).toNat = pc') (hn : pc + 3 = pn)
    (HY : x < y → GoE p e below Fi (T.setTop (mkF m pc' Ls rest))) (HN : ¬ (x < y) → GoE p e below Fi (T.setTop (mkF m pn Ls rest))) : GoE p e below Fi (T.setTop (mkF m pc Ls (.int y :: .int x :: rest))) := by
  subst hn
  by_cases q : x < y
  · exact (HY q).pull fun t k => Jvm.Free.XS.icmpYes X.here hx rfl rfl (hb hby hd) rfl (tlt q).1 ho hp k
  · have q' : ¬ (x < y) := by first | exact q | exact Decidable.not_not.mp q
    exact (HN q').pull fun t k => Jvm.Free.XS.icmpNo X.here hx rfl (hb hby hd) rfl (flt q').1 k
theorem g_if_lt (X : Stand p l e R s m args below meth c T locs cells slots) (hx : p.tables.exec = Jvm.exec) {o : Int} {pn : Nat} (hby : c.code = bytes) {x : Int32} (hd : decode bytes pc = .ok (.ifCond .lt o, 3)) (ho : 0 ≤ (pc : Int) + o) (hp : ((pc : Int) + o).toNat = pc') (hn : pc + 3 = pn)
    (HY : x < 0 → GoE p e below Fi (T.setTop (mkF m pc' Ls rest))) (HN : ¬ (x < 0) → GoE p e below Fi (T.setTop (mkF m pn Ls rest))) : GoE p e below Fi (T.setTop (mkF m pc Ls (.int x :: rest))) := by
  subst hn
  by_cases q : x < 0
  · exact (HY q).pull fun t k => Jvm.Free.XS.ifYes X.here hx rfl rfl (hb hby hd) rfl ((if0 _ _).trans (tlt q).1) ho hp k
  · have q' : ¬ (x < 0) := by first | exact q | exact Decidable.not_not.mp q
    exact (HN q').pull fun t k => Jvm.Free.XS.ifNo X.here hx rfl (hb hby hd) rfl ((if0 _ _).trans (flt q').1) k
theorem g_ifL_lt (X : Stand p l e R s m args below meth c T locs cells slots) (hx : p.tables.exec = Jvm.exec) {o : Int} {pn : Nat} (hby : c.code = bytes) {u v : Int64} (hd : decode bytes pc = .ok (.ifCond .lt o, 3)) (ho : 0 ≤ (pc : Int) + o) (hp : ((pc : Int) + o).toNat = pc') (hn : pc + 3 = pn)
    (HY : u < v → GoE p e below Fi (T.setTop (mkF m pc' Ls rest))) (HN : ¬ (u < v) → GoE p e below Fi (T.setTop (mkF m pn Ls rest))) : GoE p e below Fi (T.setTop (mkF m pc Ls (.int (cmpL u v) :: rest))) :=
  g_if_lt X hx hby hd ho hp hn (fun h => HY ((cl_lt u v).mp h)) (fun h => HN (fun z => h ((cl_lt u v).mpr z)))
theorem g_icmp_ge (X : Stand p l e R s m args below meth c T locs cells slots) (hx : p.tables.exec = Jvm.exec) {o : Int} {pn : Nat} (hby : c.code = bytes) {x y : Int32} (hd : decode bytes pc = .ok (.if_icmp .ge o, 3)) (ho : 0 ≤ (pc : Int) + o) (hp : ((pc : Int) + o).toNat = pc') (hn : pc + 3 = pn)
    (HY : ¬ (x < y) → GoE p e below Fi (T.setTop (mkF m pc' Ls rest))) (HN : x < y → GoE p e below Fi (T.setTop (mkF m pn Ls rest))) : GoE p e below Fi (T.setTop (mkF m pc Ls (.int y :: .int x :: rest))) := by
  subst hn
  by_cases q : ¬ (x < y)
  · exact (HY q).pull fun t k => Jvm.Free.XS.icmpYes X.here hx rfl rfl (hb hby hd) rfl (flt q).2.1 ho hp k
  · have q' : x < y := by first | exact q | exact Decidable.not_not.mp q
    exact (HN q').pull fun t k => Jvm.Free.XS.icmpNo X.here hx rfl (hb hby hd) rfl (tlt q').2.1 k
theorem g_if_ge (X : Stand p l e R s m args below meth c T locs cells slots) (hx : p.tables.exec = Jvm.exec) {o : Int} {pn : Nat} (hby : c.code = bytes) {x : Int32} (hd : decode bytes pc = .ok (.ifCond .ge o, 3)) (ho : 0 ≤ (pc : Int) + o) (hp : ((pc : Int) + o).toNat = pc') (hn : pc + 3 = pn)
    (HY : ¬ (x < 0) → GoE p e below Fi (T.setTop (mkF m pc' Ls rest))) (HN : x < 0 → GoE p e below Fi (T.setTop (mkF m pn Ls rest))) : GoE p e below Fi (T.setTop (mkF m pc Ls (.int x :: rest))) := by
  subst hn
  by_cases q : ¬ (x < 0)
  · exact (HY q).pull fun t k => Jvm.Free.XS.ifYes X.here hx rfl rfl (hb hby hd) rfl ((if0 _ _).trans (flt q).2.1) ho hp k
  · have q' : x < 0 := by first | exact q | exact Decidable.not_not.mp q
    exact (HN q').pull fun t k => Jvm.Free.XS.ifNo X.here hx rfl (hb hby hd) rfl ((if0 _ _).trans (tlt q').2.1) k
theorem g_ifL_ge (X : Stand p l e R s m args below meth c T locs cells slots) (hx : p.tables.exec = Jvm.exec) {o : Int} {pn : Nat} (hby : c.code = bytes) {u v : Int64} (hd : decode bytes pc = .ok (.ifCond .ge o, 3)) (ho : 0 ≤ (pc : Int) + o) (hp : ((pc : Int) + o).toNat = pc') (hn : pc + 3 = pn)
    (HY : ¬ (u < v) → GoE p e below Fi (T.setTop (mkF m pc' Ls rest))) (HN : u < v → GoE p e below Fi (T.setTop (mkF m pn Ls rest))) : GoE p e below Fi (T.setTop (mkF m pc Ls (.int (cmpL u v) :: rest))) :=
  g_if_ge X hx hby hd ho hp hn (fun h => HY (fun z => h ((cl_lt u v).mpr z))) (fun h => HN ((cl_lt u v).mp h))
theorem g_icmp_gt (X : Stand p l e R s m args below meth c T locs cells slots) (hx : p.tables.exec = Jvm.exec) {o : Int} {pn : Nat} (hby : c.code = bytes) {x y : Int32} (hd : decode bytes pc = .ok (.if_icmp .gt o, 3)) (ho : 0 ≤ (pc : Int) + o) (hp : ((pc : Int) + o).toNat = pc') (hn : pc + 3 = pn)
    (HY : y < x → GoE p e below Fi (T.setTop (mkF m pc' Ls rest))) (HN : ¬ (y < x) → GoE p e below Fi (T.setTop (mkF m pn Ls rest))) : GoE p e below Fi (T.setTop (mkF m pc Ls (.int y :: .int x :: rest))) := by
  subst hn
  by_cases q : y < x
  · exact (HY q).pull fun t k => Jvm.Free.XS.icmpYes X.here hx rfl rfl (hb hby hd) rfl (tlt q).2.2.1 ho hp k
  · have q' : ¬ (y < x) := by first | exact q | exact Decidable.not_not.mp q
    exact (HN q').pull fun t k => Jvm.Free.XS.icmpNo X.here hx rfl (hb hby hd) rfl (flt q').2.2.1 k
theorem g_if_gt (X : Stand p l e R s m args below meth c T locs cells slots) (hx : p.tables.exec = Jvm.exec) {o : Int} {pn : Nat} (hby : c.code = bytes) {x : Int32} (hd : decode bytes pc = .ok (.ifCond .gt o, 3)) (ho : 0 ≤ (pc : Int) + o) (hp : ((pc : Int) + o).toNat = pc') (hn : pc + 3 = pn)
    (HY : 0 < x → GoE p e below Fi (T.setTop (mkF m pc' Ls rest))) (HN : ¬ (0 < x) → GoE p e below Fi (T.setTop (mkF m pn Ls rest))) : GoE p e below Fi (T.setTop (mkF m pc Ls (.int x :: rest))) := by
  subst hn
  by_cases q : 0 < x
  · exact (HY q).pull fun t k => Jvm.Free.XS.ifYes X.here hx rfl rfl (hb hby hd) rfl ((if0 _ _).trans (tlt q).2.2.1) ho hp k
  · have q' : ¬ (0 < x) := by first | exact q | exact Decidable.not_not.mp q
    exact (HN q').pull fun t k => Jvm.Free.XS.ifNo X.here hx rfl (hb hby hd) rfl ((if0 _ _).trans (flt q').2.2.1) k
theorem g_ifL_gt (X : Stand p l e R s m args below meth c T locs cells slots) (hx : p.tables.exec = Jvm.exec) {o : Int} {pn : Nat} (hby : c.code = bytes) {u v : Int64} (hd : decode bytes pc = .ok (.ifCond .gt o, 3)) (ho : 0 ≤ (pc : Int) + o) (hp : ((pc : Int) + o).toNat = pc') (hn : pc + 3 = pn)
    (HY : v < u → GoE p e below Fi (T.setTop (mkF m pc' Ls rest))) (HN : ¬ (v < u) → GoE p e below Fi (T.setTop (mkF m pn Ls rest))) : GoE p e below Fi (T.setTop (mkF m pc Ls (.int (cmpL u v) :: rest))) :=
  g_if_gt X hx hby hd ho hp hn (fun h => HY ((cl_gt u v).mp h)) (fun h => HN (fun z => h ((cl_gt u v).mpr z)))
theorem g_icmp_le (X : Stand p l e R s m args below meth c T locs cells slots) (hx : p.tables.exec = Jvm.exec) {o : Int} {pn : Nat} (hby : c.code = bytes) {x y : Int32} (hd : decode bytes pc = .ok (.if_icmp .le o, 3)) (ho : 0 ≤ (pc : Int) + o) (hp : ((pc : Int) + o).toNat = pc') (hn : pc + 3 = pn)
    (HY : ¬ (y < x) → GoE p e below Fi (T.setTop (mkF m pc' Ls rest))) (HN : y < x → GoE p e below Fi (T.setTop (mkF m pn Ls rest))) : GoE p e below Fi (T.setTop (mkF m pc Ls (.int y :: .int x :: rest))) := by
  subst hn
  by_cases q : ¬ (y < x)
  · exact (HY q).pull fun t k => Jvm.Free.XS.icmpYes X.here hx rfl rfl (hb hby hd) rfl (flt q).2.2.2 ho hp k
  · have q' : y < x := by first | exact q | exact Decidable.not_not.mp q
    exact (HN q').pull fun t k => Jvm.Free.XS.icmpNo X.here hx rfl (hb hby hd) rfl (tlt q').2.2.2 k
theorem g_if_le (X : Stand p l e R s m args below meth c T locs cells slots) (hx : p.tables.exec = Jvm.exec) {o : Int} {pn : Nat} (hby : c.code = bytes) {x : Int32} (hd : decode bytes pc = .ok (.ifCond .le o, 3)) (ho : 0 ≤ (pc : Int) + o) (hp : ((pc : Int) + o).toNat = pc') (hn : pc + 3 = pn)
    (HY : ¬ (0 < x) → GoE p e below Fi (T.setTop (mkF m pc' Ls rest))) (HN : 0 < x → GoE p e below Fi (T.setTop (mkF m pn Ls rest))) : GoE p e below Fi (T.setTop (mkF m pc Ls (.int x :: rest))) := by
  subst hn
  by_cases q : ¬ (0 < x)
  · exact (HY q).pull fun t k => Jvm.Free.XS.ifYes X.here hx rfl rfl (hb hby hd) rfl ((if0 _ _).trans (flt q).2.2.2) ho hp k
  · have q' : 0 < x := by first | exact q | exact Decidable.not_not.mp q
    exact (HN q').pull fun t k => Jvm.Free.XS.ifNo X.here hx rfl (hb hby hd) rfl ((if0 _ _).trans (tlt q').2.2.2) k
theorem g_ifL_le (X : Stand p l e R s m args below meth c T locs cells slots) (hx : p.tables.exec = Jvm.exec) {o : Int} {pn : Nat} (hby : c.code = bytes) {u v : Int64} (hd : decode bytes pc = .ok (.ifCond .le o, 3)) (ho : 0 ≤ (pc : Int) + o) (hp : ((pc : Int) + o).toNat = pc') (hn : pc + 3 = pn)
    (HY : ¬ (v < u) → GoE p e below Fi (T.setTop (mkF m pc' Ls rest))) (HN : v < u → GoE p e below Fi (T.setTop (mkF m pn Ls rest))) : GoE p e below Fi (T.setTop (mkF m pc Ls (.int (cmpL u v) :: rest))) :=
  g_if_le X hx hby hd ho hp hn (fun h => HY (fun z => h ((cl_gt u v).mpr z))) (fun h => HN ((cl_gt u v).mp h))
theorem g_ifnull_no (X : Stand p l e R s m args below meth c T locs cells slots) (hx : p.tables.exec = Jvm.exec) {o : Int} {pn : Nat} (hby : c.code = bytes) {b : Addr} (hd : decode bytes pc = .ok (.ifnull o, 3)) (hn : pc + 3 = pn)
    (H : GoE p e below Fi (T.setTop (mkF m pn Ls rest))) : GoE p e below Fi (T.setTop (mkF m pc Ls (.ref b :: rest))) := by
  subst hn; exact H.pull fun t k => Jvm.Free.XS.ifnullNo X.here hx rfl (hb hby hd) rfl k
theorem g_ifnull_yes (X : Stand p l e R s m args below meth c T locs cells slots) (hx : p.tables.exec = Jvm.exec) {o : Int} (hby : c.code = bytes) (hd : decode bytes pc = .ok (.ifnull o, 3)) (ho : 0 ≤ (pc : Int) + o) (hp : ((pc : Int) + o).toNat = pc')
    (H : GoE p e below Fi (T.setTop (mkF m pc' Ls rest))) : GoE p e below Fi (T.setTop (mkF m pc Ls (.null :: rest))) :=
  H.pull fun t k => Jvm.Free.XS.ifnullYes X.here hx rfl rfl (hb hby hd) rfl ho hp k
theorem g_ifnonnull_yes (X : Stand p l e R s m args below meth c T locs cells slots) (hx : p.tables.exec = Jvm.exec) {o : Int} (hby : c.code = bytes) {b : Addr} (hd : decode bytes pc = .ok (.ifnonnull o, 3)) (ho : 0 ≤ (pc : Int) + o) (hp : ((pc : Int) + o).toNat = pc')
    (H : GoE p e below Fi (T.setTop (mkF m pc' Ls rest))) : GoE p e below Fi (T.setTop (mkF m pc Ls (.ref b :: rest))) :=
  H.pull fun t k => Jvm.Free.XT.ifnonnullYes X.here hx rfl rfl (hb hby hd) rfl ho hp k
theorem g_ifnonnull_no (X : Stand p l e R s m args below meth c T locs cells slots) (hx : p.tables.exec = Jvm.exec) {o : Int} {pn : Nat} (hby : c.code = bytes) (hd : decode bytes pc = .ok (.ifnonnull o, 3)) (hn : pc + 3 = pn)
    (H : GoE p e below Fi (T.setTop (mkF m pn Ls rest))) : GoE p e below Fi (T.setTop (mkF m pc Ls (.null :: rest))) := by
  subst hn; exact H.pull fun t k => Jvm.Free.XT.ifnonnullNo X.here hx rfl (hb hby hd) rfl k
theorem g_acmp_yes (X : Stand p l e R s m args below meth c T locs cells slots) (hx : p.tables.exec = Jvm.exec) {o : Int} (hby : c.code = bytes) {cd : ClassFile.ACond} {x y : Value} (hd : decode bytes pc = .ok (.if_acmp cd o, 3)) (ho : 0 ≤ (pc : Int) + o) (hp : ((pc : Int) + o).toNat = pc') (h1 : x.isRef = true) (h2 : y.isRef = true) (hc : Jvm.Free.XT.acmp cd x y = true)
    (H : GoE p e below Fi (T.setTop (mkF m pc' Ls rest))) : GoE p e below Fi (T.setTop (mkF m pc Ls (y :: x :: rest))) :=
  H.pull fun t k => Jvm.Free.XT.acmpYes X.here hx rfl rfl (hb hby hd) rfl h1 h2 hc ho hp k
theorem g_acmp_no (X : Stand p l e R s m args below meth c T locs cells slots) (hx : p.tables.exec = Jvm.exec) {o : Int} {pn : Nat} (hby : c.code = bytes) {cd : ClassFile.ACond} {x y : Value} (hd : decode bytes pc = .ok (.if_acmp cd o, 3)) (hn : pc + 3 = pn) (h1 : x.isRef = true) (h2 : y.isRef = true) (hc : Jvm.Free.XT.acmp cd x y = false)
    (H : GoE p e below Fi (T.setTop (mkF m pn Ls rest))) : GoE p e below Fi (T.setTop (mkF m pc Ls (y :: x :: rest))) := by
  subst hn; exact H.pull fun t k => Jvm.Free.XT.acmpNo X.here hx rfl (hb hby hd) rfl h1 h2 hc k
theorem g_retI (X : Stand p l e R s m args below meth c T locs cells slots) (hx : p.tables.exec = Jvm.exec) {z : Int32} (hby : c.code = bytes) (hd : decode bytes pc = .ok (.ireturn, 1)) (hret : meth.sig.returnType = some .int) (hlk : meth.locks = false) (hc : cells ≤ rc) (hs : slots ≤ rs) (hQ : Q (some (.int z)) T.heap locs) : Go p e below s rc rs Q (T.setTop (mkF m pc Ls (.int z :: rest))) := by
  obtain ⟨fs, hr, hrun, hended, hW, hsame⟩ := X.leave (v := some (.int z)) (fun h => by first | rfl | (rw [hret] at h; cases h)) hlk
  exact ⟨_, _, retI X hx hret (hb hby hd) hr, hrun, hended, _, _, rfl, hQ, ⟨_, rfl⟩, hW, hsame.mono hc hs⟩
theorem g_retN (X : Stand p l e R s m args below meth c T locs cells slots) (hx : p.tables.exec = Jvm.exec) {z w : Int32} {t : FieldType} (hby : c.code = bytes) (hd : decode bytes pc = .ok (.ireturn, 1)) (hret : meth.sig.returnType = some t) (ht : t = .boolean ∨ t = .byte ∨ t = .char ∨ t = .short) (hnar : nar t z = w) (hlk : meth.locks = false) (hc : cells ≤ rc) (hs : slots ≤ rs) (hQ : Q (some (.int w)) T.heap locs) : Go p e below s rc rs Q (T.setTop (mkF m pc Ls (.int z :: rest))) := by
  subst hnar
  obtain ⟨fs, hr, hrun, hended, hW, hsame⟩ := X.leave (v := some (.int (nar t z))) (fun h => by rw [hret] at h; cases h) hlk
  exact ⟨_, _, retN X hx hret ht (hb hby hd) hr, hrun, hended, _, _, rfl, hQ, ⟨_, rfl⟩, hW, hsame.mono hc hs⟩
theorem g_retL (X : Stand p l e R s m args below meth c T locs cells slots) (hx : p.tables.exec = Jvm.exec) {z : Int64} (hby : c.code = bytes) (hd : decode bytes pc = .ok (.lreturn, 1)) (hret : meth.sig.returnType = some .long) (hlk : meth.locks = false) (hc : cells ≤ rc) (hs : slots ≤ rs) (hQ : Q (some (.long z)) T.heap locs) : Go p e below s rc rs Q (T.setTop (mkF m pc Ls [.long z])) := by
  obtain ⟨fs, hr, hrun, hended, hW, hsame⟩ := X.leave (v := some (.long z)) (fun h => by first | rfl | (rw [hret] at h; cases h)) hlk
  exact ⟨_, _, X.lreturnOut hx hret (hb hby hd) hr, hrun, hended, _, _, rfl, hQ, ⟨_, rfl⟩, hW, hsame.mono hc hs⟩
theorem g_retA (X : Stand p l e R s m args below meth c T locs cells slots) (hx : p.tables.exec = Jvm.exec) {z : Value} {t : FieldType} (hby : c.code = bytes) (hd : decode bytes pc = .ok (.areturn, 1)) (hz : z.isRef = true) (hret : meth.sig.returnType = some t) (ht : t.isReference = true) (hlk : meth.locks = false) (hc : cells ≤ rc) (hs : slots ≤ rs) (hQ : Q (some z) T.heap locs) : Go p e below s rc rs Q (T.setTop (mkF m pc Ls [z])) := by
  obtain ⟨fs, hr, hrun, hended, hW, hsame⟩ := X.leave (v := some z) (fun h => by first | rfl | (rw [hret] at h; cases h)) hlk
  exact ⟨_, _, X.areturnOut hx hz hret ht (hb hby hd) hr, hrun, hended, _, _, rfl, hQ, ⟨_, rfl⟩, hW, hsame.mono hc hs⟩
theorem g_retV (X : Stand p l e R s m args below meth c T locs cells slots) (hx : p.tables.exec = Jvm.exec)  (hby : c.code = bytes) (hd : decode bytes pc = .ok (.return_, 1)) (hret : meth.sig.returnType = none) (hlk : meth.locks = false) (hc : cells ≤ rc) (hs : slots ≤ rs) (hQ : Q (none) T.heap locs) : Go p e below s rc rs Q (T.setTop (mkF m pc Ls [])) := by
  obtain ⟨fs, hr, hrun, hended, hW, hsame⟩ := X.leave (v := none) (fun h => by first | rfl | (rw [hret] at h; cases h)) hlk
  exact ⟨_, _, X.returnOut hx hret (hb hby hd) hr, hrun, hended, _, _, rfl, hQ, ⟨_, rfl⟩, hW, hsame.mono hc hs⟩
theorem g_callS (X : Stand p l e R s m args below meth c T locs cells slots) (hx : p.tables.exec = Jvm.exec) {Z : State} {a0 : Array Value} (hZ : Z.Warmed39 s.vm) {own : String} (hown : s.vm.findClass own = some m.cls) {y : MethodName} {cb : ByteArray} {maxL : Nat} {ret : Option FieldType} {rm : Room} {as' : Array Value} {h : Heap} {Q' : Option Value → Heap → List Loc → Prop} {W : Nat} {index : Nat} {argsL : List Value} (hby : c.code = bytes) (hd : decode bytes pc = .ok (.invokestatic index, 3)) (hp : pc + 3 = pc') (hml : Ls.size = c.maxLocals)
    (w1 : (Jvm.Cond.methodLink own index y).before a0 Z = true) (w2 : (Jvm.Cond.static y).before a0 Z = true) (w3 : (Jvm.Cond.initialized y.cls).before a0 Z = true) (w4 : (Jvm.Cond.code y cb maxL ret).before a0 Z = true) (hy : y.cls ≠ "java/lang/invoke/MethodHandle" ∧ y.cls ≠ "java/lang/invoke/VarHandle")
    (C : Ctr l Z y cb maxL ret [] rm as' h Q') (eT : T.heap = h) (hfr : rm.frames + 1 ≤ R.frames) (hlo : W + (maxL + 11) + rm.locals ≤ R.locals) (hce : cells + rm.cells ≤ R.cells) (hsl : slots + rm.slots ≤ R.slots) {stk : List Value} {psig : MethodDescriptor} (has : argsL.toArray = as') (hpd : parseMethodDescriptor y.desc = some psig) (hlen : argsL.length = psig.parameters.length) (hst : stk = argsL.reverse ++ rest) (hW : 2 * 0 + (rest.map fun v => v.category).sum ≤ W)
    (K : ∀ (v : Option Value) (T' : State) (L : List Loc), Stand p l e R s m args below meth c T' (locs ++ L) (cells + rm.cells) (slots + rm.slots) → Q' v T'.heap L → GoE p e below Fi (T'.setTop (mkF m pc' Ls (v.toList ++ rest)))) : GoE p e below Fi (T.setTop (mkF m pc Ls stk)) := by
  subst hp hst has
  obtain ⟨v, _, ⟨T4, L4, k4, n4⟩, -, X4, ⟨Lc, hQ, l4, y4, z4⟩, st⟩ := Jvm.LawKit.callS X hx (y := y) hown (mvT hZ w1) (mvT hZ w2) (mvT hZ w3) (mvT hZ w4) hy (backOf (W := W) C hZ w4 w3 hfr hlo) (g := mkF m pc Ls (argsL.reverse ++ rest)) rfl hml (argsL := argsL) (rest := rest) (fun sig h => by rw [hpd] at h; cases h; exact hlen) rfl hW (hb hby hd) (fun _ _ => ⟨rfl, eT, hce, hsl⟩)
  dsimp only [Pt.U, Pt.locs, Pt.cells, Pt.slots] at X4 l4 y4 z4 st hQ
  subst l4 y4 z4
  exact (K v T4 Lc X4 hQ).pull st
theorem g_callI (X : Stand p l e R s m args below meth c T locs cells slots) (hx : p.tables.exec = Jvm.exec) {Z : State} {a0 : Array Value} (hZ : Z.Warmed39 s.vm) {own : String} (hown : s.vm.findClass own = some m.cls) {y : MethodName} {cb : ByteArray} {maxL : Nat} {rm : Room} {as' : Array Value} {h : Heap} {Q' : Option Value → Heap → List Loc → Prop} {W : Nat} {index : Nat} {argsL : List Value} {b : Addr} (hby : c.code = bytes) (hd : decode bytes pc = .ok (.invokespecial index, 3)) (hp : pc + 3 = pc') (hml : Ls.size = c.maxLocals)
    (w1 : (Jvm.Cond.methodLink own index y).before a0 Z = true) (w2 : (Jvm.Cond.instanceMethod y).before a0 Z = true) (w3 : (Jvm.Cond.initialized y.cls).before a0 Z = true) (w4 : (Jvm.Cond.code y cb maxL none).before a0 Z = true) (hin : y.name = "<init>") (hy : y.cls ≠ "java/lang/invoke/MethodHandle" ∧ y.cls ≠ "java/lang/invoke/VarHandle")
    (C : Ctr l Z y cb maxL none [] rm as' h Q') (eT : T.heap = h) (hfr : rm.frames + 1 ≤ R.frames) (hlo : W + (maxL + 11) + rm.locals ≤ R.locals) (hce : cells + rm.cells ≤ R.cells) (hsl : slots + rm.slots ≤ R.slots) {stk : List Value} {psig : MethodDescriptor} (has : (Value.ref b :: argsL).toArray = as') (hpd : parseMethodDescriptor y.desc = some psig) (hlen : argsL.length = psig.parameters.length) (hst : stk = argsL.reverse ++ Value.ref b :: rest) (hW : 2 * 0 + (rest.map fun v => v.category).sum ≤ W)
    (K : ∀ (v : Option Value) (T' : State) (L : List Loc), Stand p l e R s m args below meth c T' (locs ++ L) (cells + rm.cells) (slots + rm.slots) → Q' v T'.heap L → GoE p e below Fi (T'.setTop (mkF m pc' Ls (v.toList ++ rest)))) : GoE p e below Fi (T.setTop (mkF m pc Ls stk)) := by
  subst hp hst has
  obtain ⟨v, _, ⟨T4, L4, k4, n4⟩, -, X4, ⟨Lc, hQ, l4, y4, z4⟩, st⟩ := X.specialBack hx (y := y) hin hown (mvT hZ w1) (mvT hZ w2) (mvT hZ w4) hy (backOf (W := W) C hZ w4 w3 hfr hlo) (g := mkF m pc Ls (argsL.reverse ++ Value.ref b :: rest)) rfl hml (Steps.refl _) (a := b) (argsL := argsL) (rest := rest) (fun sig h => by rw [hpd] at h; cases h; exact hlen) rfl hW (hb hby hd) (fun _ _ => ⟨rfl, eT, hce, hsl⟩)
  dsimp only [Pt.U, Pt.locs, Pt.cells, Pt.slots] at X4 l4 y4 z4 st hQ
  subst l4 y4 z4
  exact (K v T4 Lc X4 hQ).pull fun t k => st.trans k
theorem g_callV (X : Stand p l e R s m args below meth c T locs cells slots) (hx : p.tables.exec = Jvm.exec) {Z : State} {a0 : Array Value} (hZ : Z.Warmed39 s.vm) {own : String} (hown : s.vm.findClass own = some m.cls) {y : MethodName} {cb : ByteArray} {maxL : Nat} {ret : Option FieldType} {rm : Room} {as' : Array Value} {h : Heap} {Q' : Option Value → Heap → List Loc → Prop} {W : Nat} {index : Nat} {argsL : List Value} {b : Addr} {z : MethodName} {C0 : String} (hby : c.code = bytes) (hd : decode bytes pc = .ok (.invokevirtual index, 3)) (hp : pc + 3 = pc') (hml : Ls.size = c.maxLocals)
    (w1 : (Jvm.Cond.methodLink own index y).before a0 Z = true) (w2 : (Jvm.Cond.declares y).before a0 Z = true) (w5 : (Jvm.Cond.selects C0 y z).before a0 Z = true) (nf : NotFace s y) (w6 : (Jvm.Cond.instanceMethod z).before a0 Z = true) (w3 : (Jvm.Cond.initialized z.cls).before a0 Z = true) (w4 : (Jvm.Cond.code z cb maxL ret).before a0 Z = true) (hy : y.cls ≠ "java/lang/invoke/MethodHandle" ∧ y.cls ≠ "java/lang/invoke/VarHandle")
    (C : Ctr l Z z cb maxL ret [] rm as' h Q') (eT : T.heap = h) (E : Exa Z h b C0) (hfr : rm.frames + 1 ≤ R.frames) (hlo : W + (maxL + 11) + rm.locals ≤ R.locals) (hce : cells + rm.cells ≤ R.cells) (hsl : slots + rm.slots ≤ R.slots) {stk : List Value} {psig : MethodDescriptor} (has : (Value.ref b :: argsL).toArray = as') (hpd : parseMethodDescriptor y.desc = some psig) (hlen : argsL.length = psig.parameters.length) (hst : stk = argsL.reverse ++ Value.ref b :: rest) (hW : 2 * 0 + (rest.map fun v => v.category).sum ≤ W)
    (K : ∀ (v : Option Value) (T' : State) (L : List Loc), Stand p l e R s m args below meth c T' (locs ++ L) (cells + rm.cells) (slots + rm.slots) → Q' v T'.heap L → GoE p e below Fi (T'.setTop (mkF m pc' Ls (v.toList ++ rest)))) : GoE p e below Fi (T.setTop (mkF m pc Ls stk)) := by
  subst hp hst has
  obtain ⟨cq, kq, qa, qb, qc⟩ := isOf hZ eT E
  obtain ⟨v, _, ⟨T4, L4, k4, n4⟩, -, X4, ⟨Lc, hQ, l4, y4, z4⟩, st⟩ := X.virtualBack hx (y := y) (z := z) hown (mvT hZ w1) (mvT hZ w2) nf (mvT hZ w5) (mvT hZ w6) hy (backOf (W := W) C hZ w4 w3 hfr hlo) qa qc (g := mkF m pc Ls (argsL.reverse ++ Value.ref b :: rest)) rfl hml (Steps.refl _) (argsL := argsL) (rest := rest) (fun sig h => by rw [hpd] at h; cases h; exact hlen) rfl hW (hb hby hd) (fun _ _ => ⟨rfl, eT, hce, hsl⟩)
  dsimp only [Pt.U, Pt.locs, Pt.cells, Pt.slots] at X4 l4 y4 z4 st hQ
  subst l4 y4 z4
  exact (K v T4 Lc X4 hQ).pull fun t k => st.trans k
theorem g_new (X : Stand p l e R s m args below meth c T locs cells slots) (hx : p.tables.exec = Jvm.exec) {Z : State} {a0 : Array Value} (hZ : Z.Warmed39 s.vm) {own : String} (hown : s.vm.findClass own = some m.cls) {C : String} {index n : Nat} {h : Heap} (hby : c.code = bytes) (hd : decode bytes pc = .ok (.new index, 3)) (hp : pc + 3 = pc') (w1 : (Jvm.Cond.classLink own index C).before a0 Z = true) (w2 : (Jvm.Cond.instantiable C n).before a0 Z = true) (w3 : (Jvm.Cond.initialized C).before a0 Z = true) (eT : T.heap = h) (hce : cells + 1 ≤ R.cells) (hsl : slots + n ≤ R.slots)
    (K : ∀ (T' : State) (b : Addr), b = h.size → Stand p l e R s m args below meth c T' locs (cells + 1) (slots + n) → Ext h T'.heap → Exa Z T'.heap b C → (∀ {O nm d : String} {ty : FieldType}, Laid Z a0 C O nm d → parseFieldDescriptor d = some ty → Fld Z T'.heap b O nm d (defaultValue ty)) → GoE p e below Fi (T'.setTop (mkF m pc' Ls (.ref b :: rest)))) : GoE p e below Fi (T.setTop (mkF m pc Ls rest)) := by
  subst hp
  obtain ⟨T2, h2, X2, e2, E2, A2, D2, -, st2⟩ := newO X hx hZ hown w1 w2 w3 eT (g := mkF m pc Ls rest) rfl (hb hby hd) hce hsl
  subst e2
  exact (K T2 _ rfl X2 E2 A2 D2).pull st2
theorem g_initO (X : Stand p l e R s m args below meth c T locs cells slots) (hx : p.tables.exec = Jvm.exec) {Z : State} {a0 : Array Value} (hZ : Z.Warmed39 s.vm) {own : String} (hown : s.vm.findClass own = some m.cls) {index : Nat} {h : Heap} {cb : ByteArray} {b : Addr} {W maxL : Nat} (hby : c.code = bytes) (hd : decode bytes pc = .ok (.invokespecial index, 3)) (hp : pc + 3 = pc') (hml : Ls.size = c.maxLocals)
    (F : ∃ T', Stand p l e R s m args below meth c T' locs cells slots ∧ T'.heap = h ∧ ∀ target, Steps p.tables e below (T'.setTop (mkF m (pc + 3) Ls rest)) target → Steps p.tables e below (T.setTop (mkF m pc Ls (.ref b :: rest))) target)
    (K : ∀ T' : State, Stand p l e R s m args below meth c T' locs cells slots → T'.heap = h → GoE p e below Fi (T'.setTop (mkF m pc' Ls rest))) : GoE p e below Fi (T.setTop (mkF m pc Ls (.ref b :: rest))) := by
  subst hp
  obtain ⟨T2, X2, e2, st2⟩ := F
  exact (K T2 X2 e2).pull st2
theorem g_get (X : Stand p l e R s m args below meth c T locs cells slots) (hx : p.tables.exec = Jvm.exec) {Z : State} {a0 : Array Value} (hZ : Z.Warmed39 s.vm) {own : String} (hown : s.vm.findClass own = some m.cls) {O n d : String} {index : Nat} {h : Heap} {a : Addr} {v : Value} (hby : c.code = bytes) (hd : decode bytes pc = .ok (.getfield index, 3)) (hp : pc + 3 = pc') (w : (Jvm.Cond.fieldLink own index O n d).before a0 Z = true) (eT : T.heap = h) (F : Fld Z h a O n d v)
    (K : ∀ T' : State, Stand p l e R s m args below meth c T' locs cells slots → T'.heap = h → GoE p e below Fi (T'.setTop (mkF m pc' Ls (v :: rest)))) : GoE p e below Fi (T.setTop (mkF m pc Ls (.ref a :: rest))) := by
  subst hp
  obtain ⟨T2, X2, e2, st2⟩ := getF X hx hZ hown (host := "") (Or.inl w) Via.refl eT F (g := mkF m pc Ls (.ref a :: rest)) rfl rfl (hb hby hd)
  exact (K T2 X2 e2).pull st2
theorem g_put (X : Stand p l e R s m args below meth c T locs cells slots) (hx : p.tables.exec = Jvm.exec) {Z : State} {a0 : Array Value} (hZ : Z.Warmed39 s.vm) {own : String} (hown : s.vm.findClass own = some m.cls) {O n d C : String} {index kk : Nat} {ty : FieldType} {h : Heap} {a : Addr} {v old : Value} (hby : c.code = bytes) (hd : decode bytes pc = .ok (.putfield index, 3)) (hp : pc + 3 = pc') (w : (Jvm.Cond.fieldLink own index O n d).before a0 Z = true) (eT : T.heap = h) (F : Fld Z h a O n d old) (E : Exa Z h a C) (Lf : (Jvm.Cond.lays C O n d).before a0 Z = true ∨ ((Jvm.Cond.laysFinal C O n d).before a0 Z = true ∧ own = O ∧ meth.name = "<init>")) (wi : (Jvm.Cond.instantiable C kk).before a0 Z = true) (hty : parseFieldDescriptor d = some ty) (hn : narrow ty v = v) (hf : fits ty v = true)
    (K : ∀ T' : State, Stand p l e R s m args below meth c T' (locs ++ [⟨a, RoadKit.slotOf Z O n d⟩]) cells slots → Wr h T'.heap a (RoadKit.slotOf Z O n d) v → GoE p e below Fi (T'.setTop (mkF m pc' Ls rest))) : GoE p e below Fi (T.setTop (mkF m pc Ls (v :: .ref a :: rest))) := by
  subst hp
  obtain ⟨T2, h2, X2, e2, W2, st2⟩ := putF X hx hZ hown (host := "") (Or.inl w) Via.refl eT F E Lf wi hty hn hf (g := mkF m pc Ls (v :: .ref a :: rest)) rfl rfl (hb hby hd)
  subst e2
  exact (K T2 X2 W2).pull st2
theorem g_getS (X : Stand p l e R s m args below meth c T locs cells slots) (hx : p.tables.exec = Jvm.exec) {Z : State} {a0 : Array Value} (hZ : Z.Warmed39 s.vm) {own : String} (hown : s.vm.findClass own = some m.cls) {O n d : String} {index : Nat} {h : Heap} {v : Value} (hby : c.code = bytes) (hd : decode bytes pc = .ok (.getstatic index, 3)) (hp : pc + 3 = pc') (w : (Jvm.Cond.fieldLink own index O n d).before a0 Z = true) (eT : T.heap = h) (F : Sta Z h O n d v)
    (K : ∀ T' : State, Stand p l e R s m args below meth c T' locs cells slots → T'.heap = h → GoE p e below Fi (T'.setTop (mkF m pc' Ls (v :: rest)))) : GoE p e below Fi (T.setTop (mkF m pc Ls rest)) := by
  subst hp
  obtain ⟨T2, X2, e2, st2⟩ := getS X hx hZ hown (host := "") w Via.refl eT F (g := mkF m pc Ls rest) rfl (hb hby hd)
  exact (K T2 X2 e2).pull st2
theorem g_iaload (X : Stand p l e R s m args below meth c T locs cells slots) (hx : p.tables.exec = Jvm.exec) {Z : State} (hZ : Z.Warmed39 s.vm) {h : Heap} {a : Addr} {k : ClassId} {n : Int32} {vs : List Value} {dv : Value} {j : Int32} {v : Value} (hby : c.code = bytes) (hd : decode bytes pc = .ok (.iaload, 1)) (hp : pc + 1 = pc') (eT : T.heap = h) (F : Arv Z h a k .int n vs dv) (hj : ¬ j < 0 ∧ j < n) (u : vs.getD j.toNatClampNeg dv = v)
    (H : GoE p e below Fi (T.setTop (mkF m pc' Ls (v :: rest)))) : GoE p e below Fi (T.setTop (mkF m pc Ls (.int j :: .ref a :: rest))) := by
  subst hp
  obtain ⟨cl, A, q1, S, q3, Hh, G⟩ := F
  exact H.pull fun t k => X.iaload hx (by rw [eT]; exact A.1) (State.isArrayOf_alike hZ.alike A.2.1) A.2.2 (inb_of S hj) (Hh.at (inb_of S hj) u) (g := mkF m pc Ls (.int j :: .ref a :: rest)) rfl rfl (hb hby hd) _ k
theorem g_laload (X : Stand p l e R s m args below meth c T locs cells slots) (hx : p.tables.exec = Jvm.exec) {Z : State} (hZ : Z.Warmed39 s.vm) {h : Heap} {a : Addr} {k : ClassId} {n : Int32} {vs : List Value} {dv : Value} {j : Int32} {v : Value} (hby : c.code = bytes) (hd : decode bytes pc = .ok (.laload, 1)) (hp : pc + 1 = pc') (eT : T.heap = h) (F : Arv Z h a k .long n vs dv) (hj : ¬ j < 0 ∧ j < n) (u : vs.getD j.toNatClampNeg dv = v)
    (H : GoE p e below Fi (T.setTop (mkF m pc' Ls (v :: rest)))) : GoE p e below Fi (T.setTop (mkF m pc Ls (.int j :: .ref a :: rest))) := by
  subst hp
  obtain ⟨cl, A, q1, S, q3, Hh, G⟩ := F
  exact H.pull fun t k => X.laload hx (by rw [eT]; exact A.1) (State.isArrayOf_alike hZ.alike A.2.1) A.2.2 (inb_of S hj) (Hh.at (inb_of S hj) u) (g := mkF m pc Ls (.int j :: .ref a :: rest)) rfl rfl (hb hby hd) _ k
theorem g_caload (X : Stand p l e R s m args below meth c T locs cells slots) (hx : p.tables.exec = Jvm.exec) {Z : State} (hZ : Z.Warmed39 s.vm) {h : Heap} {a : Addr} {k : ClassId} {n : Int32} {vs : List Value} {dv : Value} {j : Int32} {v : Value} (hby : c.code = bytes) (hd : decode bytes pc = .ok (.caload, 1)) (hp : pc + 1 = pc') (eT : T.heap = h) (F : Arv Z h a k .char n vs dv) (hj : ¬ j < 0 ∧ j < n) (u : vs.getD j.toNatClampNeg dv = v)
    (H : GoE p e below Fi (T.setTop (mkF m pc' Ls (v :: rest)))) : GoE p e below Fi (T.setTop (mkF m pc Ls (.int j :: .ref a :: rest))) := by
  subst hp
  obtain ⟨cl, A, q1, S, q3, Hh, G⟩ := F
  exact H.pull fun t k => X.caload hx (by rw [eT]; exact A.1) (State.isArrayOf_alike hZ.alike A.2.1) A.2.2 (inb_of S hj) (Hh.at (inb_of S hj) u) (g := mkF m pc Ls (.int j :: .ref a :: rest)) rfl rfl (hb hby hd) _ k
theorem g_baload (X : Stand p l e R s m args below meth c T locs cells slots) (hx : p.tables.exec = Jvm.exec) {Z : State} (hZ : Z.Warmed39 s.vm) {h : Heap} {a : Addr} {k : ClassId} {n : Int32} {vs : List Value} {dv : Value} {j : Int32} {v : Value} (hby : c.code = bytes) (hd : decode bytes pc = .ok (.baload, 1)) (hp : pc + 1 = pc') (eT : T.heap = h) (F : Arv Z h a k .byte n vs dv) (hj : ¬ j < 0 ∧ j < n) (u : vs.getD j.toNatClampNeg dv = v)
    (H : GoE p e below Fi (T.setTop (mkF m pc' Ls (v :: rest)))) : GoE p e below Fi (T.setTop (mkF m pc Ls (.int j :: .ref a :: rest))) := by
  subst hp
  obtain ⟨cl, A, q1, S, q3, Hh, G⟩ := F
  exact H.pull fun t k => X.baloadBytes hx (by rw [eT]; exact A.1) (State.isArrayOf_alike hZ.alike A.2.1) A.2.2 (inb_of S hj) (Hh.at (inb_of S hj) u) (g := mkF m pc Ls (.int j :: .ref a :: rest)) rfl rfl (hb hby hd) _ k
theorem g_daload (X : Stand p l e R s m args below meth c T locs cells slots) (hx : p.tables.exec = Jvm.exec) {Z : State} (hZ : Z.Warmed39 s.vm) {h : Heap} {a : Addr} {k : ClassId} {n : Int32} {vs : List Value} {dv : Value} {j : Int32} {v : Value} (hby : c.code = bytes) (hd : decode bytes pc = .ok (.daload, 1)) (hp : pc + 1 = pc') (eT : T.heap = h) (F : Arv Z h a k .double n vs dv) (hj : ¬ j < 0 ∧ j < n) (u : vs.getD j.toNatClampNeg dv = v)
    (H : GoE p e below Fi (T.setTop (mkF m pc' Ls (v :: rest)))) : GoE p e below Fi (T.setTop (mkF m pc Ls (.int j :: .ref a :: rest))) := by
  subst hp
  obtain ⟨cl, A, q1, S, q3, Hh, G⟩ := F
  exact H.pull fun t k => X.daload hx (by rw [eT]; exact A.1) (State.isArrayOf_alike hZ.alike A.2.1) A.2.2 (inb_of S hj) (Hh.at (inb_of S hj) u) (g := mkF m pc Ls (.int j :: .ref a :: rest)) rfl rfl (hb hby hd) _ k
theorem g_aaload (X : Stand p l e R s m args below meth c T locs cells slots) (hx : p.tables.exec = Jvm.exec) {Z : State} (hZ : Z.Warmed39 s.vm) {h : Heap} {a : Addr} {k : ClassId} {n : Int32} {vs : List Value} {dv : Value} {ty : FieldType} {j : Int32} {v : Value} (hby : c.code = bytes) (hd : decode bytes pc = .ok (.aaload, 1)) (hp : pc + 1 = pc') (eT : T.heap = h) (F : Arv Z h a k ty n vs dv) (hty : ty.isReference = true) (hj : ¬ j < 0 ∧ j < n) (u : vs.getD j.toNatClampNeg dv = v)
    (H : GoE p e below Fi (T.setTop (mkF m pc' Ls (v :: rest)))) : GoE p e below Fi (T.setTop (mkF m pc Ls (.int j :: .ref a :: rest))) := by
  subst hp
  obtain ⟨cl, A, q1, S, q3, Hh, G⟩ := F
  exact H.pull fun t k => X.aaload hx (by rw [eT]; exact A.1) (State.isArrayOf_alike hZ.alike A.2.1) hty A.2.2 (inb_of S hj) (Hh.at (inb_of S hj) u) (g := mkF m pc Ls (.int j :: .ref a :: rest)) rfl rfl (hb hby hd) _ k
theorem g_alen (X : Stand p l e R s m args below meth c T locs cells slots) (hx : p.tables.exec = Jvm.exec) {Z : State} (hZ : Z.Warmed39 s.vm) {h : Heap} {a : Addr} {k : ClassId} {n : Int32} {vs : List Value} {dv : Value} {ty : FieldType} (hby : c.code = bytes) (hd : decode bytes pc = .ok (.arraylength, 1)) (hp : pc + 1 = pc') (eT : T.heap = h) (F : Arv Z h a k ty n vs dv)
    (H : GoE p e below Fi (T.setTop (mkF m pc' Ls (.int n :: rest)))) : GoE p e below Fi (T.setTop (mkF m pc Ls (.ref a :: rest))) := by
  subst hp
  obtain ⟨cl, A, q1, S, q3, Hh, G⟩ := F
  exact H.pull fun t k => X.arraylength hx (by rw [eT]; exact A.1) (State.isArrayOf_alike hZ.alike A.2.1) (g := mkF m pc Ls (.ref a :: rest)) rfl rfl (hb hby hd) _ (by rw [len_of S q3]; exact k)
theorem g_iastore (X : Stand p l e R s m args below meth c T locs cells slots) (hx : p.tables.exec = Jvm.exec) {Z : State} (hZ : Z.Warmed39 s.vm) {h : Heap} {a : Addr} {k : ClassId} {n : Int32} {vs : List Value} {dv : Value} {j : Int32} {x : Int32} (i : Nat) (hby : c.code = bytes) (hd : decode bytes pc = .ok (.iastore, 1)) (hp : pc + 1 = pc') (eT : T.heap = h) (F : Arv Z h a k .int n vs dv) (hj : ¬ j < 0 ∧ j < n) (hji : j.toNatClampNeg = i) (hi : i < vs.length)
    (K : ∀ T' : State, Stand p l e R s m args below meth c T' (locs ++ [⟨a, j.toNatClampNeg⟩]) cells slots → Wr h T'.heap a j.toNatClampNeg (.int x) → Arv Z T'.heap a k .int n (vs.set i (.int x)) dv → GoE p e below Fi (T'.setTop (mkF m pc' Ls rest))) : GoE p e below Fi (T.setTop (mkF m pc Ls (.int x :: .int j :: .ref a :: rest))) := by
  subst hp
  obtain ⟨cl, A, q1, S, q3, Hh, G⟩ := F
  obtain ⟨T2, h2, X2, e2, W2, st2⟩ := stI X hx hZ eT A (inb_of S hj) (g := mkF m pc Ls (.int x :: .int j :: .ref a :: rest)) rfl rfl (hb hby hd)
  subst e2
  exact (K T2 X2 W2 (Arv.set A q1 S q3 Hh G rfl W2 i hji hi)).pull st2
theorem g_lastore (X : Stand p l e R s m args below meth c T locs cells slots) (hx : p.tables.exec = Jvm.exec) {Z : State} (hZ : Z.Warmed39 s.vm) {h : Heap} {a : Addr} {k : ClassId} {n : Int32} {vs : List Value} {dv : Value} {j : Int32} {x : Int64} (i : Nat) (hby : c.code = bytes) (hd : decode bytes pc = .ok (.lastore, 1)) (hp : pc + 1 = pc') (eT : T.heap = h) (F : Arv Z h a k .long n vs dv) (hj : ¬ j < 0 ∧ j < n) (hji : j.toNatClampNeg = i) (hi : i < vs.length)
    (K : ∀ T' : State, Stand p l e R s m args below meth c T' (locs ++ [⟨a, j.toNatClampNeg⟩]) cells slots → Wr h T'.heap a j.toNatClampNeg (.long x) → Arv Z T'.heap a k .long n (vs.set i (.long x)) dv → GoE p e below Fi (T'.setTop (mkF m pc' Ls rest))) : GoE p e below Fi (T.setTop (mkF m pc Ls (.long x :: .int j :: .ref a :: rest))) := by
  subst hp
  obtain ⟨cl, A, q1, S, q3, Hh, G⟩ := F
  obtain ⟨T2, h2, X2, e2, W2, st2⟩ := stJ X hx hZ eT A (inb_of S hj) (g := mkF m pc Ls (.long x :: .int j :: .ref a :: rest)) rfl rfl (hb hby hd)
  subst e2
  exact (K T2 X2 W2 (Arv.set A q1 S q3 Hh G rfl W2 i hji hi)).pull st2
theorem g_castore (X : Stand p l e R s m args below meth c T locs cells slots) (hx : p.tables.exec = Jvm.exec) {Z : State} (hZ : Z.Warmed39 s.vm) {h : Heap} {a : Addr} {k : ClassId} {n : Int32} {vs : List Value} {dv : Value} {j : Int32} {x : Int32} (i : Nat) (hby : c.code = bytes) (hd : decode bytes pc = .ok (.castore, 1)) (hp : pc + 1 = pc') (eT : T.heap = h) (F : Arv Z h a k .char n vs dv) (hj : ¬ j < 0 ∧ j < n) (hji : j.toNatClampNeg = i) (hi : i < vs.length)
    (K : ∀ T' : State, Stand p l e R s m args below meth c T' (locs ++ [⟨a, j.toNatClampNeg⟩]) cells slots → Wr h T'.heap a j.toNatClampNeg (.int (nar .char x)) → Arv Z T'.heap a k .char n (vs.set i (.int (nar .char x))) dv → GoE p e below Fi (T'.setTop (mkF m pc' Ls rest))) : GoE p e below Fi (T.setTop (mkF m pc Ls (.int x :: .int j :: .ref a :: rest))) := by
  subst hp
  obtain ⟨cl, A, q1, S, q3, Hh, G⟩ := F
  obtain ⟨T2, h2, X2, e2, W2, st2⟩ := stC X hx hZ eT A (inb_of S hj) (g := mkF m pc Ls (.int x :: .int j :: .ref a :: rest)) rfl rfl (hb hby hd)
  subst e2
  exact (K T2 X2 W2 (Arv.set A q1 S q3 Hh G (fits_nar_char x) W2 i hji hi)).pull st2
theorem g_bastore (X : Stand p l e R s m args below meth c T locs cells slots) (hx : p.tables.exec = Jvm.exec) {Z : State} (hZ : Z.Warmed39 s.vm) {h : Heap} {a : Addr} {k : ClassId} {n : Int32} {vs : List Value} {dv : Value} {j : Int32} {x : Int32} (i : Nat) (hby : c.code = bytes) (hd : decode bytes pc = .ok (.bastore, 1)) (hp : pc + 1 = pc') (eT : T.heap = h) (F : Arv Z h a k .byte n vs dv) (hj : ¬ j < 0 ∧ j < n) (hji : j.toNatClampNeg = i) (hi : i < vs.length)
    (K : ∀ T' : State, Stand p l e R s m args below meth c T' (locs ++ [⟨a, j.toNatClampNeg⟩]) cells slots → Wr h T'.heap a j.toNatClampNeg (.int (nar .byte x)) → Arv Z T'.heap a k .byte n (vs.set i (.int (nar .byte x))) dv → GoE p e below Fi (T'.setTop (mkF m pc' Ls rest))) : GoE p e below Fi (T.setTop (mkF m pc Ls (.int x :: .int j :: .ref a :: rest))) := by
  subst hp
  obtain ⟨cl, A, q1, S, q3, Hh, G⟩ := F
  obtain ⟨T2, h2, X2, e2, W2, st2⟩ := stB X hx hZ eT A (inb_of S hj) (g := mkF m pc Ls (.int x :: .int j :: .ref a :: rest)) rfl rfl (hb hby hd)
  subst e2
  exact (K T2 X2 W2 (Arv.set A q1 S q3 Hh G (fits_nar_byte x) W2 i hji hi)).pull st2
theorem g_dastore (X : Stand p l e R s m args below meth c T locs cells slots) (hx : p.tables.exec = Jvm.exec) {Z : State} (hZ : Z.Warmed39 s.vm) {h : Heap} {a : Addr} {k : ClassId} {n : Int32} {vs : List Value} {dv : Value} {j : Int32} {x : UInt64} (i : Nat) (hby : c.code = bytes) (hd : decode bytes pc = .ok (.dastore, 1)) (hp : pc + 1 = pc') (eT : T.heap = h) (F : Arv Z h a k .double n vs dv) (hj : ¬ j < 0 ∧ j < n) (hji : j.toNatClampNeg = i) (hi : i < vs.length)
    (K : ∀ T' : State, Stand p l e R s m args below meth c T' (locs ++ [⟨a, j.toNatClampNeg⟩]) cells slots → Wr h T'.heap a j.toNatClampNeg (.double x) → Arv Z T'.heap a k .double n (vs.set i (.double x)) dv → GoE p e below Fi (T'.setTop (mkF m pc' Ls rest))) : GoE p e below Fi (T.setTop (mkF m pc Ls (.double x :: .int j :: .ref a :: rest))) := by
  subst hp
  obtain ⟨cl, A, q1, S, q3, Hh, G⟩ := F
  obtain ⟨T2, h2, X2, e2, W2, st2⟩ := stD X hx hZ eT A (inb_of S hj) (g := mkF m pc Ls (.double x :: .int j :: .ref a :: rest)) rfl rfl (hb hby hd)
  subst e2
  exact (K T2 X2 W2 (Arv.set A q1 S q3 Hh G rfl W2 i hji hi)).pull st2
theorem g_newarray (X : Stand p l e R s m args below meth c T locs cells slots) (hx : p.tables.exec = Jvm.exec) {Z : State} {a0 : Array Value} (hZ : Z.Warmed39 s.vm) {aty : ArrayType} {h : Heap} {n : Int32} (cap : Nat) (ad : String) (hby : c.code = bytes) (hd : decode bytes pc = .ok (.newarray aty, 2)) (hp : pc + 2 = pc') (w : (Jvm.Cond.arrayClass (newarray.typeOf aty)).before a0 Z = true) (eT : T.heap = h) (hn : ¬ n < 0) (hcap : n.toNatClampNeg ≤ cap) (hbg : cap * 8 ≤ 536870912) (hce : cells + 1 ≤ R.cells) (hsl : slots + cap ≤ R.slots) (had : "[" ++ (newarray.typeOf aty).toString = ad)
    (K : ∀ (T' : State) (b : Addr) (cA : ClassId), b = h.size → Stand p l e R s m args below meth c T' locs (cells + 1) (slots + cap) → Ext h T'.heap → Arv Z T'.heap b cA (newarray.typeOf aty) n (List.replicate cap (defaultValue (newarray.typeOf aty))) (defaultValue (newarray.typeOf aty)) → Exa Z T'.heap b ad → GoE p e below Fi (T'.setTop (mkF m pc' Ls (.ref b :: rest)))) : GoE p e below Fi (T.setTop (mkF m pc Ls (.int n :: rest))) := by
  subst hp
  obtain ⟨T2, h2, cA, X2, e2, E2, A2, Ex2, st2⟩ := newPE X hx hZ w eT (g := mkF m pc Ls (.int n :: rest)) rfl (hb hby hd) rfl hn hcap hbg hce hsl had
  subst e2
  exact (K T2 _ cA rfl X2 E2 ((Arv.new A2 hn).pad (pad_rep [] _ cap)) Ex2).pull st2
theorem g_lswHit (X : Stand p l e R s m args below meth c T locs cells slots) (hx : p.tables.exec = Jvm.exec) {k : Int32} {dflt : Int} {pairs : Array (Int × Int)} {len : Nat} {a off : Int} (hby : c.code = bytes) (hd : decode bytes pc = .ok (.lookupswitch dflt pairs, len)) (hs : (pairs.toList.zip (pairs.toList.drop 1)).all (fun (a, next) => a.1 < next.1) = true) (hf : pairs.find? (·.1 == k.toInt) = some (a, off)) (ho : 0 ≤ (pc : Int) + off) (hp : ((pc : Int) + off).toNat = pc')
    (H : GoE p e below Fi (T.setTop (mkF m pc' Ls rest))) : GoE p e below Fi (T.setTop (mkF m pc Ls (.int k :: rest))) := by
  subst hp
  exact H.pull fun t q => X.lookupswitchHit hx (g := mkF m pc Ls (.int k :: rest)) rfl rfl (hb hby hd) hs hf ho _ q
theorem g_lswMiss (X : Stand p l e R s m args below meth c T locs cells slots) (hx : p.tables.exec = Jvm.exec) {k : Int32} {dflt : Int} {pairs : Array (Int × Int)} {len : Nat} (hby : c.code = bytes) (hd : decode bytes pc = .ok (.lookupswitch dflt pairs, len)) (hs : (pairs.toList.zip (pairs.toList.drop 1)).all (fun (a, next) => a.1 < next.1) = true) (hf : pairs.find? (·.1 == k.toInt) = none) (ho : 0 ≤ (pc : Int) + dflt) (hp : ((pc : Int) + dflt).toNat = pc')
    (H : GoE p e below Fi (T.setTop (mkF m pc' Ls rest))) : GoE p e below Fi (T.setTop (mkF m pc Ls (.int k :: rest))) := by
  subst hp
  exact H.pull fun t q => X.lookupswitchMiss hx (g := mkF m pc Ls (.int k :: rest)) rfl rfl (hb hby hd) hs hf ho _ q
theorem g_castY (X : Stand p l e R s m args below meth c T locs cells slots) (hx : p.tables.exec = Jvm.exec) {Z : State} {a0 : Array Value} (hZ : Z.Warmed39 s.vm) {own : String} (hown : s.vm.findClass own = some m.cls) {C : String} {index : Nat} {h : Heap} {a : Addr} (hby : c.code = bytes) (hd : decode bytes pc = .ok (.checkcast index, 3)) (hp : pc + 3 = pc') (w : (Jvm.Cond.classLink own index C).before a0 Z = true) (eT : T.heap = h) (F : Ins Z h a C true)
    (K : ∀ T' : State, Stand p l e R s m args below meth c T' locs cells slots → T'.heap = h → GoE p e below Fi (T'.setTop (mkF m pc' Ls (.ref a :: rest)))) : GoE p e below Fi (T.setTop (mkF m pc Ls (.ref a :: rest))) := by
  subst hp
  obtain ⟨T2, X2, e2, st2⟩ := castY X hx hZ hown w eT F (g := mkF m pc Ls (.ref a :: rest)) rfl rfl (hb hby hd)
  exact (K T2 X2 e2).pull st2
theorem g_instY (X : Stand p l e R s m args below meth c T locs cells slots) (hx : p.tables.exec = Jvm.exec) {Z : State} {a0 : Array Value} (hZ : Z.Warmed39 s.vm) {own : String} (hown : s.vm.findClass own = some m.cls) {C : String} {index : Nat} {h : Heap} {a : Addr} (hby : c.code = bytes) (hd : decode bytes pc = .ok (.instanceof index, 3)) (hp : pc + 3 = pc') (w : (Jvm.Cond.classLink own index C).before a0 Z = true) (eT : T.heap = h) (F : Ins Z h a C true)
    (K : ∀ T' : State, Stand p l e R s m args below meth c T' locs cells slots → T'.heap = h → GoE p e below Fi (T'.setTop (mkF m pc' Ls (.int 1 :: rest)))) : GoE p e below Fi (T.setTop (mkF m pc Ls (.ref a :: rest))) := by
  subst hp
  obtain ⟨T2, X2, e2, st2⟩ := instY X hx hZ hown w eT F (g := mkF m pc Ls (.ref a :: rest)) rfl rfl (hb hby hd)
  exact (K T2 X2 e2).pull st2
theorem g_instNo (X : Stand p l e R s m args below meth c T locs cells slots) (hx : p.tables.exec = Jvm.exec) {Z : State} {a0 : Array Value} (hZ : Z.Warmed39 s.vm) {own : String} (hown : s.vm.findClass own = some m.cls) {C D : String} {index : Nat} {h : Heap} {a : Addr} (hby : c.code = bytes) (hd : decode bytes pc = .ok (.instanceof index, 3)) (hp : pc + 3 = pc') (w : (Jvm.Cond.classLink own index C).before a0 Z = true) (eT : T.heap = h) (E : Exa Z h a D) (F : ∃ c t, Z.vm.findClass D = some c ∧ Z.vm.findClass C = some t ∧ Z.vm.assignable c t = false)
    (K : ∀ T' : State, Stand p l e R s m args below meth c T' locs cells slots → T'.heap = h → GoE p e below Fi (T'.setTop (mkF m pc' Ls (.int 0 :: rest)))) : GoE p e below Fi (T.setTop (mkF m pc Ls (.ref a :: rest))) := by
  subst hp
  obtain ⟨T2, X2, e2, st2⟩ := instNo X hx hZ hown w eT E F (g := mkF m pc Ls (.ref a :: rest)) rfl rfl (hb hby hd)
  exact (K T2 X2 e2).pull st2
theorem g_callIf (X : Stand p l e R s m args below meth c T locs cells slots) (hx : p.tables.exec = Jvm.exec) {Z : State} {a0 : Array Value} (hZ : Z.Warmed39 s.vm) {own : String} (hown : s.vm.findClass own = some m.cls) {y : MethodName} {cb : ByteArray} {maxL : Nat} {ret : Option FieldType} {rm : Room} {as' : Array Value} {h : Heap} {Q' : Option Value → Heap → List Loc → Prop} {W : Nat} {index : Nat} {argsL : List Value} {b : Addr} {z : MethodName} {C0 : String} {count : Nat} (hby : c.code = bytes) (hd : decode bytes pc = .ok (.invokeinterface index count, 5)) (hp : pc + 5 = pc') (hml : Ls.size = c.maxLocals)
    (w1 : (Jvm.Cond.methodLink own index y).before a0 Z = true) (w2 : (Jvm.Cond.declares y).before a0 Z = true) (w7 : (Jvm.Cond.interfaceMethod y.cls y.cls y.name y.desc).before a0 Z = true) (hd7 : ((Jvm.Cond.interfaceMethod y.cls y.cls y.name y.desc).onTables && (Jvm.Cond.interfaceMethod y.cls y.cls y.name y.desc).keepsFace) = true) (w5 : (Jvm.Cond.selects C0 y z).before a0 Z = true) (w6 : (Jvm.Cond.instanceMethod z).before a0 Z = true) (w8 : (Jvm.Cond.publicMethod z).before a0 Z = true) (w9 : (Jvm.Cond.unhidden C0 y.name y.desc).before a0 Z = true) (w10 : (Jvm.Cond.castable C0 y.cls).before a0 Z = true) (w3 : (Jvm.Cond.initialized z.cls).before a0 Z = true) (w4 : (Jvm.Cond.code z cb maxL ret).before a0 Z = true) (hy : y.cls ≠ "java/lang/invoke/MethodHandle" ∧ y.cls ≠ "java/lang/invoke/VarHandle")
    (C : Ctr l Z z cb maxL ret [] rm as' h Q') (eT : T.heap = h) (E : Exa Z h b C0) (hfr : rm.frames + 1 ≤ R.frames) (hlo : W + (maxL + 11) + rm.locals ≤ R.locals) (hce : cells + rm.cells ≤ R.cells) (hsl : slots + rm.slots ≤ R.slots) {stk : List Value} {psig : MethodDescriptor} (has : (Value.ref b :: argsL).toArray = as') (hpd : parseMethodDescriptor y.desc = some psig) (hlen : argsL.length = psig.parameters.length) (hst : stk = argsL.reverse ++ Value.ref b :: rest) (hW : 2 * 0 + (rest.map fun v => v.category).sum ≤ W)
    (K : ∀ (v : Option Value) (T' : State) (L : List Loc), Stand p l e R s m args below meth c T' (locs ++ L) (cells + rm.cells) (slots + rm.slots) → Q' v T'.heap L → GoE p e below Fi (T'.setTop (mkF m pc' Ls (v.toList ++ rest)))) : GoE p e below Fi (T.setTop (mkF m pc Ls stk)) := by
  subst hp hst has
  obtain ⟨cq, kq, qa, qb, qc⟩ := isOf hZ eT E
  obtain ⟨v, _, ⟨T4, L4, k4, n4⟩, -, X4, ⟨Lc, hQ, l4, y4, z4⟩, st⟩ := X.interfaceBack hx (xi := y) (y := z) hown (mvT hZ w1) (mvT hZ w2) (mvT hZ w7 hd7) (mvT hZ w5) (mvT hZ w6) (mvT hZ w8) (mvT hZ w9) (mvT hZ w10) hy (backOf (W := W) C hZ w4 w3 hfr hlo) qa qb qc (g := mkF m pc Ls (argsL.reverse ++ Value.ref b :: rest)) rfl hml (Steps.refl _) (argsL := argsL) (rest := rest) (fun sig h => by rw [hpd] at h; cases h; exact hlen) rfl hW (hb hby hd) (fun _ _ => ⟨rfl, eT, hce, hsl⟩)
  dsimp only [Pt.U, Pt.locs, Pt.cells, Pt.slots] at X4 l4 y4 z4 st hQ
  subst l4 y4 z4
  exact (K v T4 Lc X4 hQ).pull fun t k => st.trans k
theorem g_anewarrayA (X : Stand p l e R s m args below meth c T locs cells slots) (hx : p.tables.exec = Jvm.exec) {Z : State} {a0 : Array Value} (hZ : Z.Warmed39 s.vm) {own : String} (hown : s.vm.findClass own = some m.cls) {C : String} {ty : FieldType} {index : Nat} {h : Heap} {n : Int32} (cap : Nat) (ad : String) (hby : c.code = bytes) (hd : decode bytes pc = .ok (.anewarray index, 3)) (hp : pc + 3 = pc') (hC : (FieldType.array ty).toString = C) (w1 : (Jvm.Cond.classLink own index C).before a0 Z = true) (w2 : (Jvm.Cond.arrayOver (.array ty)).before a0 Z = true) (eT : T.heap = h) (hn : ¬ n < 0) (hcap : n.toNatClampNeg ≤ cap) (hbg : cap * 8 ≤ 536870912) (hce : cells + 1 ≤ R.cells) (hsl : slots + cap ≤ R.slots) (had : "[" ++ C = ad)
    (K : ∀ (T' : State) (b : Addr) (cA : ClassId), b = h.size → Stand p l e R s m args below meth c T' locs (cells + 1) (slots + cap) → Ext h T'.heap → Arv Z T'.heap b cA (.array ty) n (List.replicate cap .null) .null → Exa Z T'.heap b ad → OvrA Z cA ty C → GoE p e below Fi (T'.setTop (mkF m pc' Ls (.ref b :: rest)))) : GoE p e below Fi (T.setTop (mkF m pc Ls (.int n :: rest))) := by
  subst hp
  obtain ⟨T2, h2, cA, X2, e2, E2, A2, Ex2, O2, st2⟩ := newRA X hx hZ hown hC w1 w2 eT (g := mkF m pc Ls (.int n :: rest)) rfl (hb hby hd) rfl hn hcap hbg hce hsl had
  subst e2
  exact (K T2 _ cA rfl X2 E2 ((Arv.new A2 hn).pad (pad_rep [] _ cap)) Ex2 O2).pull st2
theorem g_aastore (X : Stand p l e R s m args below meth c T locs cells slots) (hx : p.tables.exec = Jvm.exec) {Z : State} (hZ : Z.Warmed39 s.vm) {h : Heap} {a : Addr} {k : ClassId} {n : Int32} {vs : List Value} {dv : Value} {ty : FieldType} {j : Int32} {v : Value} (i : Nat) (hby : c.code = bytes) (hd : decode bytes pc = .ok (.aastore, 1)) (hp : pc + 1 = pc') (eT : T.heap = h) (F : Arv Z h a k ty n vs dv) (hty : ty.isReference = true) (hS : ∀ cl : Cell, Arr Z h a cl ty → cl.cls = k → Sto Z h a v) (hfv : fits ty v = true) (hj : ¬ j < 0 ∧ j < n) (hji : j.toNatClampNeg = i) (hi : i < vs.length)
    (K : ∀ T' : State, Stand p l e R s m args below meth c T' (locs ++ [⟨a, j.toNatClampNeg⟩]) cells slots → Wr h T'.heap a j.toNatClampNeg v → Arv Z T'.heap a k ty n (vs.set i v) dv → GoE p e below Fi (T'.setTop (mkF m pc' Ls rest))) : GoE p e below Fi (T.setTop (mkF m pc Ls (v :: .int j :: .ref a :: rest))) := by
  subst hp
  obtain ⟨cl, A, q1, S, q3, Hh, G⟩ := F
  obtain ⟨T2, h2, X2, e2, W2, st2⟩ := stR X hx hZ eT A (inb_of S hj) hty (hS cl A q1) (g := mkF m pc Ls (v :: .int j :: .ref a :: rest)) rfl rfl (hb hby hd)
  subst e2
  exact (K T2 X2 W2 (Arv.set A q1 S q3 Hh G hfv W2 i hji hi)).pull st2
theorem g_eqI {a b : Int32} (h : a = b) (K : GoE p e below Fi (T.setTop (mkF m pc Ls (.int b :: rest)))) : GoE p e below Fi (T.setTop (mkF m pc Ls (.int a :: rest))) := h ▸ K
theorem g_eqL {a b : Int64} (h : a = b) (K : GoE p e below Fi (T.setTop (mkF m pc Ls (.long b :: rest)))) : GoE p e below Fi (T.setTop (mkF m pc Ls (.long a :: rest))) := h ▸ K
theorem g_newarrayV (X : Stand p l e R s m args below meth c T locs cells slots) (hx : p.tables.exec = Jvm.exec) {Z : State} {a0 : Array Value} (hZ : Z.Warmed39 s.vm) {aty : ArrayType} {h : Heap} {n : Int32} (cap vc : Nat) (ad : String) (hby : c.code = bytes) (hd : decode bytes pc = .ok (.newarray aty, 2)) (hp : pc + 2 = pc') (w : (Jvm.Cond.arrayClass (newarray.typeOf aty)).before a0 Z = true) (eT : T.heap = h) (hn : ¬ n < 0) (hcap : n.toNatClampNeg ≤ cap) (hbg : cap * 8 ≤ 536870912) (hce : cells + 1 ≤ R.cells) (hsl : slots + cap ≤ R.slots) (had : "[" ++ (newarray.typeOf aty).toString = ad)
    (K : ∀ (T' : State) (b : Addr) (cA : ClassId), b = h.size → Stand p l e R s m args below meth c T' locs (cells + 1) (slots + cap) → Ext h T'.heap → Arv Z T'.heap b cA (newarray.typeOf aty) n (List.replicate vc (defaultValue (newarray.typeOf aty))) (defaultValue (newarray.typeOf aty)) → Exa Z T'.heap b ad → GoE p e below Fi (T'.setTop (mkF m pc' Ls (.ref b :: rest)))) : GoE p e below Fi (T.setTop (mkF m pc Ls (.int n :: rest))) := by
  subst hp
  obtain ⟨T2, h2, cA, X2, e2, E2, A2, Ex2, st2⟩ := newPE X hx hZ w eT (g := mkF m pc Ls (.int n :: rest)) rfl (hb hby hd) rfl hn hcap hbg hce hsl had
  subst e2
  exact (K T2 _ cA rfl X2 E2 ((Arv.new A2 hn).pad (pad_rep [] _ vc)) Ex2).pull st2
theorem g_arraycopy (X : Stand p l e R s m args below meth c T locs cells slots) (hx : p.tables.exec = Jvm.exec) {Z : State} {a0 : Array Value} (hZ : Z.Warmed39 s.vm) {own : String} (hown : s.vm.findClass own = some m.cls) {index : Nat} {h : Heap} {a b : Addr} {k k' : ClassId} {ty : FieldType} {n z' sp dp nn : Int32} {vs vd us : List Value} {dv dd : Value} {W n0 : Nat} (hby : c.code = bytes) (hd : decode bytes pc = .ok (.invokestatic index, 3)) (hp : pc + 3 = pc') (hml : Ls.size = c.maxLocals)
    (w1 : (Jvm.Cond.methodLink own index Jvm.Stand.acN).before a0 Z = true) (w2 : (Jvm.Cond.native Jvm.Stand.acN).before a0 Z = true) (w3 : (Jvm.Cond.static Jvm.Stand.acN).before a0 Z = true) (w4 : (Jvm.Cond.initialized "java/lang/System").before a0 Z = true) (eT : T.heap = h) (A : Arv Z h a k ty n vs dv) (B : Arv Z h b k' ty z' vd dd) (hr : refKind ty = false)
    (h1 : ¬ sp < 0) (h2 : ¬ dp < 0) (h3 : ¬ nn < 0) (h4 : sp.toNatClampNeg + nn.toNatClampNeg ≤ n.toNatClampNeg) (h5 : dp.toNatClampNeg + nn.toNatClampNeg ≤ z'.toNatClampNeg) (hus : us = (List.range nn.toNatClampNeg).map fun i => vs.getD (sp.toNatClampNeg + i) dv) (hl : dp.toNatClampNeg + nn.toNatClampNeg ≤ vd.length) (N : Fr n0 locs) (ge : n0 ≤ b)
    (hf : 1 ≤ R.frames) (hW : 2 * 0 + (rest.map fun v => v.category).sum ≤ W) (hlo : W + (nativeFrameWords "java/lang/System" "arraycopy" 5 + 11) ≤ R.locals)
    (K : ∀ (T' : State) (L : List Loc), Stand p l e R s m args below meth c T' L cells slots → Fr n0 L → Keep h T'.heap [b] → Arv Z T'.heap b k' ty z' (vd.take dp.toNatClampNeg ++ us ++ vd.drop (dp.toNatClampNeg + nn.toNatClampNeg)) dd → GoE p e below Fi (T'.setTop (mkF m pc' Ls rest))) : GoE p e below Fi (T.setTop (mkF m pc Ls (.int nn :: .int dp :: .ref b :: .int sp :: .ref a :: rest))) := by
  subst hp
  obtain ⟨T2, h2', L2, X2, e2, N2, K2, A2, st2⟩ := cpA X hx hZ hown w1 w2 w3 w4 eT A B (Or.inl ⟨rfl, hr⟩) h1 h2 h3 h4 h5 hus hl N ge (g := mkF m pc Ls (.int nn :: .int dp :: .ref b :: .int sp :: .ref a :: rest)) rfl hml rfl (hb hby hd) hf hW hlo
  subst e2
  exact (K T2 L2 X2 N2 K2 A2).pull st2
end GoKit
section GoWKit
variable {p : Program} {l : Launch} {e : Env} {R : Room} {s : State} {m : MethodId} {args : Array Value} {below : List Frame} {meth : Method} {c : Code} {T : State} {locs : List Loc} {cells slots : Nat} {Q : Option Value → Heap → List Loc → Prop} {rc rs : Nat} {Fi : Outcome → State → Prop} {bytes : ByteArray} {pc pc' : Nat} {Ls : Array Slot} {rest : List Value}
abbrev GoW (p : Program) (e : Env) (below : List Frame) (s : State) (rc rs : Nat) (Q : Option Value → Heap → List Loc → Prop) (S : State) : Prop :=
  GoE p e below (fun o t => ∃ v L, o = .returned v ∧ Q v t.heap L ∧ ReturnedEndW s o t L rc rs) S
theorem GoW.of_go {vm0 : Vm} {k0 : Nat} {S : State} (Q : Option Value → Heap → List Loc → Prop) (hS : s.Since vm0 k0) (h : Go p e below (s.setVm vm0) rc rs (fun v h L => Q v h L ∧ k0 ≤ h.size) S) : GoW p e below s rc rs Q S :=
  h.imp fun o t ⟨v, L, h1, h2, h3⟩ => by
    obtain ⟨a, b, d⟩ := hS.ended h3.2.1 h2.2 h3.2.2
    exact ⟨v, L, h1, h2.1, h3.1, a, b, d⟩
def CtrW (l : Launch) (Z : State) (y : MethodName) (bytes : ByteArray) (ml : Nat) (ret : Option FieldType) (ws : List Jvm.Cond) (rm : Room) (as : Array Value) (h0 : Heap) (Q : Option Value → Heap → List Loc → Prop) : Prop :=
  MetFree l y (head1 (Jvm.Cond.code y bytes ml ret :: ws) rm) (fun a U => a = as ∧ Z.Warmed39 U.vm ∧ U.heap = h0) (fun _ _ _ _ _ => True) (fun _ U o U' => ∃ v L, o = .returned v ∧ Q v U'.heap L ∧ ReturnedEndW U o U' L rm.cells rm.slots)
theorem CtrW.enter {Z : State} {y : MethodName} {ml : Nat} {ret : Option FieldType} {ws : List Jvm.Cond} {rm : Room} {as : Array Value} {h0 : Heap} (hpl : plainFor y = true) (hef : ∀ m, entryFrame m as ml = mkF m 0 Ls [])
    (body : ∀ (p : Program) (e : Env) (s : State) (m : MethodId) (below : List Frame) (meth : Method) (c : Code) (T : State), p.tables.exec = Jvm.exec → c.code = bytes → c.maxLocals = ml → (s.setVm s.vm).vm.findClass y.cls = some m.cls → meth.name = y.name → meth.sig.returnType = ret → meth.locks = false → Z.Warmed39 (s.setVm s.vm).vm → s.heap = h0 →
      Stand p l e rm (s.setVm s.vm) m as below meth c T [] 0 0 → T.heap = h0 → s.Since s.vm h0.size → GoW p e below s rm.cells rm.slots Q (T.setTop (mkF m 0 Ls []))) : CtrW l Z y bytes ml ret ws rm as h0 Q := by
  refine MetFree.of_bodySF hpl hisR ?_
  intro p e s m args below meth c s₁ Bd hml0 hP hK
  obtain ⟨rfl, hZ, hh⟩ := hP
  have h := body p e s m below meth c s₁ Bd.exec Bd.bytes hml0 (findClass_of_methodNamed Bd.named) (name_of_methodNamed Bd.named Bd.method).1 Bd.returns (BodyLoose.notSynchronized Bd) hZ hh (Stand.of_body Bd) (by rw [← hh, Bd.state]; rfl) ((State.WarmedH.refl s).since _)
  exact h.pull fun t k => castTop (hef m) k
theorem g_ldcS {vm0 : Vm} (X : Stand p l e R (s.setVm vm0) m args below meth c T locs cells slots) (hx : p.tables.exec = Jvm.exec) {Z : State} {a0 : Array Value} (hZ : Z.Warmed39 (s.setVm vm0).vm) {own : String} (hown : (s.setVm vm0).vm.findClass own = some m.cls) {text : String} {index : Nat} {h : Heap} {k0 : Nat} (n : Nat) (hby : c.code = bytes) (hd : decode bytes pc = .ok (.ldc index, 2)) (hp : pc + 2 = pc') (w : (Jvm.Cond.stringLink own index text).before a0 Z = true) (wS : ∀ a ∈ Bundle.stringAtoms, a.before a0 Z = true) (eT : T.heap = h) (hS : s.Since vm0 k0) (hk : k0 ≤ h.size) (hn : 4 * text.toList.length ≤ n) (hbig : n ≤ 536870912) (hc : cells + 2 ≤ R.cells) (hl : slots + (n + 4) ≤ R.slots)
    (K : ∀ (a : Addr) (T' : State) (k1 : Nat), Stand p l e R (s.setVm T'.vm) m args below meth c T' locs (cells + 2) (slots + (n + 4)) → Ext h T'.heap → s.Since T'.vm k1 → k1 ≤ T'.heap.size → Z.Warmed39 (s.setVm T'.vm).vm → (s.setVm T'.vm).vm.findClass own = some m.cls → GoE p e below Fi (T'.setTop (mkF m pc' Ls (.ref a :: rest)))) : GoE p e below Fi (T.setTop (mkF m pc Ls rest)) := by
  subst hp
  obtain ⟨a, T2, h2, k1, X2, e2, E2, S2, q2, Z2, o2, st2⟩ := ldcS X hx hZ hown w wS eT hS hk (g := mkF m pc Ls rest) rfl (hb hby hd) hn hbig hc hl
  subst e2
  exact (K a T2 k1 X2 E2 S2 q2 Z2 o2).pull st2
theorem g_callSW {vm0 : Vm} (X : Stand p l e R (s.setVm vm0) m args below meth c T locs cells slots) (hx : p.tables.exec = Jvm.exec) {Z : State} {a0 : Array Value} (hZ : Z.Warmed39 (s.setVm vm0).vm) {own : String} (hown : (s.setVm vm0).vm.findClass own = some m.cls) {y : MethodName} {cb : ByteArray} {maxL : Nat} {ret : Option FieldType} {rm : Room} {as' : Array Value} {h : Heap} {Q' : Option Value → Heap → List Loc → Prop} {W : Nat} {index : Nat} {argsL : List Value} {k0 : Nat} (hby : c.code = bytes) (hd : decode bytes pc = .ok (.invokestatic index, 3)) (hp : pc + 3 = pc') (hml : Ls.size = c.maxLocals)
    (w1 : (Jvm.Cond.methodLink own index y).before a0 Z = true) (w2 : (Jvm.Cond.static y).before a0 Z = true) (w3 : (Jvm.Cond.initialized y.cls).before a0 Z = true) (w4 : (Jvm.Cond.code y cb maxL ret).before a0 Z = true) (hy : y.cls ≠ "java/lang/invoke/MethodHandle" ∧ y.cls ≠ "java/lang/invoke/VarHandle")
    (C : CtrW l Z y cb maxL ret [] rm as' h Q') (eT : T.heap = h) (hS : s.Since vm0 k0) (hk : k0 ≤ h.size) (hfr : rm.frames + 1 ≤ R.frames) (hlo : W + (maxL + 11) + rm.locals ≤ R.locals) (hce : cells + rm.cells ≤ R.cells) (hsl : slots + rm.slots ≤ R.slots) {stk : List Value} {psig : MethodDescriptor} (has : argsL.toArray = as') (hpd : parseMethodDescriptor y.desc = some psig) (hlen : argsL.length = psig.parameters.length) (hst : stk = argsL.reverse ++ rest) (hW : 2 * 0 + (rest.map fun v => v.category).sum ≤ W)
    (K : ∀ (v : Option Value) (T' : State) (L : List Loc), Stand p l e R (s.setVm T'.vm) m args below meth c T' (locs ++ L) (cells + rm.cells) (slots + rm.slots) → Q' v T'.heap L → s.Since T'.vm T'.heap.size → Z.Warmed39 (s.setVm T'.vm).vm → (s.setVm T'.vm).vm.findClass own = some m.cls → GoE p e below Fi (T'.setTop (mkF m pc' Ls (v.toList ++ rest)))) : GoE p e below Fi (T.setTop (mkF m pc Ls stk)) := by
  subst hp hst has
  obtain ⟨v, _, ⟨T4, L4, k4, n4⟩, -, X4, S4, g4, ⟨Lc, hQ, l4, y4, z4⟩, st⟩ := callSS X hx (y := y) hown (mvT hZ w1) (mvT hZ w2) (mvT hZ w3) (mvT hZ w4) hy (backOfS (W := W) C hZ w4 w3 hfr hlo) (g := mkF m pc Ls (argsL.reverse ++ rest)) rfl hml (argsL := argsL) (rest := rest) (fun sig h => by rw [hpd] at h; cases h; exact hlen) rfl hW (hb hby hd) (fun _ _ => ⟨rfl, eT, hce, hsl⟩)
  dsimp only [Pt.U, Pt.locs, Pt.cells, Pt.slots] at X4 l4 y4 z4 st hQ S4 g4
  subst l4 y4 z4
  exact (K v T4 Lc X4 hQ (hS.trans S4 (Nat.le_trans hk (by rw [← eT]; exact g4))) (State.Warmed39.trans hZ S4.1) ((S4.1.alike.findClass _ _).trans hown)).pull fun t k => st.trans k
theorem g_clone (X : Stand p l e R s m args below meth c T locs cells slots) (hx : p.tables.exec = Jvm.exec) {Z : State} {a0 : Array Value} (hZ : Z.Warmed39 s.vm) {own : String} (hown : s.vm.findClass own = some m.cls) {index : Nat} {ad : String} {h : Heap} {a : Addr} {k : ClassId} {n : Int32} {vs : List Value} {dv : Value} {ty : FieldType} {W : Nat} (cap : Nat) (hby : c.code = bytes) (hd : decode bytes pc = .ok (.invokevirtual index, 3)) (hp : pc + 3 = pc') (hml : Ls.size = c.maxLocals)
    (w1 : (Jvm.Cond.methodLink own index ⟨ad, "clone", "()Ljava/lang/Object;"⟩).before a0 Z = true) (w2 : (Jvm.Cond.sameMethod ad "java/lang/Object" "clone" "()Ljava/lang/Object;").before a0 Z = true) (w3 : (Jvm.Cond.native ⟨"java/lang/Object", "clone", "()Ljava/lang/Object;"⟩).before a0 Z = true) (w4 : (Jvm.Cond.instanceMethod ⟨"java/lang/Object", "clone", "()Ljava/lang/Object;"⟩).before a0 Z = true) (w5 : (Jvm.Cond.selects ad ⟨ad, "clone", "()Ljava/lang/Object;"⟩ ⟨"java/lang/Object", "clone", "()Ljava/lang/Object;"⟩).before a0 Z = true) (w6 : (Jvm.Cond.castable ad "java/lang/Cloneable").before a0 Z = true)
    (eT : T.heap = h) (F : Arv Z h a k ty n vs dv) (E : Exa Z h a ad) (hfr : 1 ≤ R.frames) (hW : 2 * 0 + (rest.map fun v => v.category).sum ≤ W) (hlo : W + 14 ≤ R.locals) (hcap : n.toNatClampNeg ≤ cap) (hce : cells + 1 ≤ R.cells) (hsl : slots + cap ≤ R.slots)
    (K : ∀ (T' : State) (b : Addr), b = h.size → Stand p l e R s m args below meth c T' locs (cells + 1) (slots + cap) → Ext h T'.heap → Arv Z T'.heap b k ty n vs dv → Exa Z T'.heap b ad → GoE p e below Fi (T'.setTop (mkF m pc' Ls (.ref b :: rest)))) : GoE p e below Fi (T.setTop (mkF m pc Ls (.ref a :: rest))) := by
  subst hp
  obtain ⟨T2, h2, X2, e2, E2, A2, Ex2, st2⟩ := cloneH X hx hZ hown w1 w2 w3 w4 w5 w6 eT F.arh E (g := mkF m pc Ls (.ref a :: rest)) rfl hml rfl (hb hby hd) hfr hW hlo hcap hce hsl
  subst e2
  exact (K T2 _ rfl X2 E2 A2 Ex2).pull st2
end GoWKit
theorem own_lenS {args : Array Value} {s : State} {t : Term} {b : Addr} {cl : Cell} {ty : FieldType} {n : Int32} (ht : t.eval args s none [] s = some (.ref b)) (A : Arr s s.heap b cl ty) (h : (Jvm.Cond.eq (.length t) (.int n)).value args s none s [] = some true) : cl.slots.size < 2 ^ 31 ∧ cl.slots.size.toInt32 = n := by
  obtain ⟨x, y, h1, h2, -, -⟩ := cmp_v (Or.inl h)
  have hA : s.arrayAt? b = some cl := A.fin (Vm.Alike.refl _)
  by_cases q : cl.slots.size < 2 ^ 31
  · exact ⟨q, gotT (Cond.eq_ints (len_f ht hA q) (Term.int_eval n)) h⟩
  · exfalso
    have h3 : (Term.length t).eval args s none [] s = none := by
      simp only [Term.eval, ht, Option.bind_eq_bind, Option.bind_some, hA]
      exact if_neg q
    rw [h3] at h1; cases h1
theorem own_elemI {args : Array Value} {s : State} {t : Term} {b : Addr} {cl : Cell} {i v : Int32} (ht : t.eval args s none [] s = some (.ref b)) (hc : s.heap[b]? = some cl) (h : (Jvm.Cond.eq (.elem t (.int i)) (.int v)).value args s none s [] = some true) : cl.slots[i.toNatClampNeg]? = some (.int v) := by
  obtain ⟨x, y, h1, h2, -, hk⟩ := cmp_v (Or.inl h)
  cases (Term.int_eval v).symm.trans h2
  obtain ⟨c2, e1, -, e3⟩ := elem_at h1 ht (Term.int_eval i)
  cases hc.symm.trans e1
  obtain ⟨x, rfl⟩ : ∃ z, x = Value.int z := hk
  rw [e3]
  have := gotT (Cond.eq_ints h1 (Term.int_eval v)) h
  rw [this]
theorem own_elemL {args : Array Value} {s : State} {t : Term} {b : Addr} {cl : Cell} {i : Int32} {v : Int64} (ht : t.eval args s none [] s = some (.ref b)) (hc : s.heap[b]? = some cl) (h : (Jvm.Cond.eq (.elem t (.int i)) (.long v)).value args s none s [] = some true) : cl.slots[i.toNatClampNeg]? = some (.long v) := by
  obtain ⟨x, y, h1, h2, -, hk⟩ := cmp_v (Or.inl h)
  have h2' : (Term.long v).eval args s none [] s = some (.long v) := by simp [Term.eval]
  cases h2'.symm.trans h2
  obtain ⟨c2, e1, -, e3⟩ := elem_at h1 ht (Term.int_eval i)
  cases hc.symm.trans e1
  obtain ⟨x, rfl⟩ : ∃ z, x = Value.long z := hk
  rw [e3]
  have := gotT (eq_L h1 h2') h
  rw [this]
theorem own_fldI {args : Array Value} {s : State} {t : Term} {b : Addr} {C n : String} {v : Int32} (ht : t.eval args s none [] s = some (.ref b)) (h : (Jvm.Cond.eq (.field t C n "I") (.int v)).value args s none s [] = some true) : Fld s s.heap b C n "I" (.int v) := by
  obtain ⟨x, y, h1, h2, -, hk⟩ := cmp_v (Or.inl h)
  cases (Term.int_eval v).symm.trans h2
  have h3 := h1
  rw [fld_at ht] at h3
  obtain ⟨x, rfl⟩ : ∃ z, x = Value.int z := hk
  have := gotT (Cond.eq_ints h1 (Term.int_eval v)) h
  rw [this] at h3
  exact Fld.start h3
theorem own_fldN {args : Array Value} {s : State} {t : Term} {b : Addr} {C n d : String} (ht : t.eval args s none [] s = some (.ref b)) (h : (Jvm.Cond.eq (.field t C n d) .null).value args s none s [] = some true) : Fld s s.heap b C n d .null := by
  have h1 := null_v h
  rw [fld_at ht] at h1
  exact Fld.start h1
theorem own_stI {args : Array Value} {s : State} {t : Term} {v : Int32} (h : (Jvm.Cond.eq t (.int v)).value args s none s [] = some true) : t.eval args s none [] s = some (.int v) := by
  obtain ⟨x, y, h1, h2, -, hk⟩ := cmp_v (Or.inl h)
  cases (Term.int_eval v).symm.trans h2
  obtain ⟨x, rfl⟩ : ∃ z, x = Value.int z := hk
  have := gotT (Cond.eq_ints h1 (Term.int_eval v)) h
  rw [this] at h1
  exact h1
theorem own_stR {args : Array Value} {s : State} {t u : Term} {a b : Addr} (h1 : t.eval args s none [] s = some (.ref a)) (h2 : u.eval args s none [] s = some (.ref b)) (h : (Jvm.Cond.eq t u).value args s none s [] = some true) : a = b := by
  have := gotT (eq_R h1 h2 rfl rfl) h
  cases this
  rfl

def AS (c : Int32) : Prop := 32 ≤ c.toInt ∧ c.toInt < 127
def lat (c : Int32) : Int32 := nar .byte (c.toInt8.toInt32)
def chV (a : Int32) : Int32 := ((32 : Int32) + ((a &&& (2147483647 : Int32)) - ((a &&& (2147483647 : Int32)) / (95 : Int32)) * (95 : Int32))).toUInt32.toUInt16.toUInt32.toInt32
def spV (a : Int32) : Int32 := (a &&& (127 : Int32)).toUInt32.toUInt16.toUInt32.toInt32
def pow10V (i : Int32) : Int32 := if i = (0 : Int32) then 1 else if i = (1 : Int32) then 10 else if i = (2 : Int32) then 100 else if i = (3 : Int32) then 1000 else if i = (4 : Int32) then 10000 else if i = (5 : Int32) then 100000 else if i = (6 : Int32) then 1000000 else if i = (7 : Int32) then 10000000 else if i = (8 : Int32) then 100000000 else 1000000000
def digV (q : Int32) : Int32 := if q < (10 : Int32) then 1 else if q < (100 : Int32) then 2 else if q < (1000 : Int32) then 3 else if q < (10000 : Int32) then 4 else if q < (100000 : Int32) then 5 else if q < (1000000 : Int32) then 6 else if q < (10000000 : Int32) then 7 else if q < (100000000 : Int32) then 8 else if q < (1000000000 : Int32) then 9 else 10
def dv : Nat → Int32 → Int32
  | 0, q => q
  | k + 1, q => dv k q / (10 : Int32)
def dg (k : Nat) (q : Int32) : Int32 := ((48 : Int32) + (dv k q - (dv k q / (10 : Int32)) * (10 : Int32))).toInt8.toInt32
def DC (d : Nat) (q : Int32) : Prop := (d = 1 ∨ (10 ^ (d - 1) : Nat) ≤ q.toInt) ∧ q.toInt < (10 ^ d : Nat) ∧ 0 ≤ q.toInt
theorem own_tl (a b : Int32) : (a < b) = (a.toInt < b.toInt) := propext Int32.lt_iff_toInt_lt
theorem own_as (a : Int32) : AS (chV a) := by
  have e31 : ((2 ^ 31 : Nat) : Int) = 2147483648 := rfl
  have h := c_mask a 2147483647 31 (by decide) (by decide)
  rw [e31] at h
  unfold AS chV
  generalize a &&& (2147483647 : Int32) = y at h ⊢
  have d := (c_idiv y 95 95 (by decide) (by decide)).1 (by omega)
  generalize y / (95 : Int32) = z at d ⊢
  have m := c_imul z 95
  have e3 : (95 : Int32).toInt = 95 := by decide
  rw [e3] at m
  generalize z * (95 : Int32) = t at m ⊢
  have s := c_isub y t
  generalize y - t = u at s ⊢
  have v := c_iadd 32 u
  have e1 : (32 : Int32).toInt = 32 := by decide
  rw [e1] at v
  generalize (32 : Int32) + u = w at v ⊢
  have r1 := rng32 t
  have r2 := rng32 u
  have r3 := rng32 w
  have r4 := rng32 z
  have w2 := c_i2c w
  omega
theorem own_narc {c : Int32} (h : AS c) : nar .char c = c := by
  obtain ⟨a, b⟩ := h
  have q := c_i2c c
  exact Int32.toInt_inj.mp (show c.toUInt32.toUInt16.toUInt32.toInt32.toInt = _ by omega)
theorem own_le255 {c : Int32} (h : AS c) : ¬ (255 : Int32) < c := by
  obtain ⟨a, b⟩ := h
  rw [own_tl]
  have e : (255 : Int32).toInt = 255 := by decide
  omega
theorem own_bb (x : Int32) : x.toInt8.toInt32.toInt8.toInt32 = x.toInt8.toInt32 := by
  have a := c_i2b x
  have b := c_i2b x.toInt8.toInt32
  exact Int32.toInt_inj.mp (by omega)
theorem own_nb (x : Int32) : nar .byte (x.toInt8.toInt32) = x.toInt8.toInt32 := own_bb x
theorem own_narB (x : Int32) : narrow .byte (.int x.toInt8.toInt32) = .int x.toInt8.toInt32 := congrArg Value.int (own_bb x)
theorem own_latpos {c : Int32} (h : AS c) : ¬ lat c < 0 := by
  obtain ⟨a, b⟩ := h
  have q := c_i2b c
  have e : lat c = c.toInt8.toInt32 := own_nb c
  rw [e, own_tl]
  have e0 : (0 : Int32).toInt = 0 := by decide
  omega
theorem own_sep (a : Int32) : nar .byte ((spV a).toInt8.toInt32) = (a &&& (127 : Int32)).toInt8.toInt32 := by
  rw [own_nb]
  have e7 : ((2 ^ 7 : Nat) : Int) = 128 := rfl
  have h := c_mask a 127 7 (by decide) (by decide)
  rw [e7] at h
  unfold spV
  generalize a &&& (127 : Int32) = y at h ⊢
  have q := c_i2c y
  generalize y.toUInt32.toUInt16.toUInt32.toInt32 = z at q ⊢
  have p1 := c_i2b y
  have p2 := c_i2b z
  exact Int32.toInt_inj.mp (by omega)
theorem own_div (x : Int32) (h : 0 ≤ x.toInt) : (x / (10 : Int32)).toInt = x.toInt / 10 := (c_idiv x 10 10 (by decide) (by decide)).1 h
theorem own_dv (k : Nat) (q : Int32) (h : 0 ≤ q.toInt) : (dv k q).toInt = q.toInt / (10 ^ k : Nat) := by
  induction k with
  | zero => simp [dv]
  | succ n ih =>
    have e : 0 ≤ (dv n q).toInt := by rw [ih]; exact Int.ediv_nonneg h (Int.natCast_nonneg _)
    show (dv n q / (10 : Int32)).toInt = _
    rw [own_div _ e, ih, Int.ediv_ediv_of_nonneg (Int.natCast_nonneg _)]
    congr 1
theorem own_yes {d : Nat} (k : Nat) {q : Int32} (h : DC d q) (hk : k < d) (h0 : 0 < k) : 0 < dv k q := by
  obtain ⟨a, b, c⟩ := h
  rw [own_tl, own_dv k q c]
  have e0 : (0 : Int32).toInt = 0 := by decide
  rw [e0]
  have l : ((10 ^ k : Nat) : Int) ≤ q.toInt := by
    rcases a with rfl | a
    · omega
    · have z : (10 ^ k : Nat) ≤ (10 ^ (d - 1) : Nat) := Nat.pow_le_pow_right (by decide) (by omega)
      omega
  have p : (0 : Int) < ((10 ^ k : Nat) : Int) := by
    have z : 0 < 10 ^ k := by first | exact Nat.pow_pos (by decide) | exact Nat.pos_pow_of_pos k (by decide)
    omega
  have z := Int.le_ediv_of_mul_le p (show 1 * ((10 ^ k : Nat) : Int) ≤ q.toInt by rw [Int.one_mul]; exact l)
  omega
theorem own_no {d : Nat} {q : Int32} (h : DC d q) : ¬ 0 < dv d q := by
  obtain ⟨a, b, c⟩ := h
  rw [own_tl, own_dv d q c, Int.ediv_eq_zero_of_lt c b]
  decide
theorem own_nine (q : Int32) (h : 0 ≤ q.toInt) : DC 1 q ∨ DC 2 q ∨ DC 3 q ∨ DC 4 q ∨ DC 5 q ∨ DC 6 q ∨ DC 7 q ∨ DC 8 q ∨ DC 9 q ∨ DC 10 q := by
  have r := rng32 q
  by_cases c1 : q.toInt < 10
  · exact (Or.inl ⟨Or.inl rfl, c1, h⟩)
  by_cases c2 : q.toInt < 100
  · exact (Or.inr (Or.inl ⟨Or.inr (show ((10 ^ (2 - 1) : Nat) : Int) ≤ q.toInt from (by omega : ((10 : Int) ≤ q.toInt))), c2, h⟩))
  by_cases c3 : q.toInt < 1000
  · exact (Or.inr (Or.inr (Or.inl ⟨Or.inr (show ((10 ^ (3 - 1) : Nat) : Int) ≤ q.toInt from (by omega : ((100 : Int) ≤ q.toInt))), c3, h⟩)))
  by_cases c4 : q.toInt < 10000
  · exact (Or.inr (Or.inr (Or.inr (Or.inl ⟨Or.inr (show ((10 ^ (4 - 1) : Nat) : Int) ≤ q.toInt from (by omega : ((1000 : Int) ≤ q.toInt))), c4, h⟩))))
  by_cases c5 : q.toInt < 100000
  · exact (Or.inr (Or.inr (Or.inr (Or.inr (Or.inl ⟨Or.inr (show ((10 ^ (5 - 1) : Nat) : Int) ≤ q.toInt from (by omega : ((10000 : Int) ≤ q.toInt))), c5, h⟩)))))
  by_cases c6 : q.toInt < 1000000
  · exact (Or.inr (Or.inr (Or.inr (Or.inr (Or.inr (Or.inl ⟨Or.inr (show ((10 ^ (6 - 1) : Nat) : Int) ≤ q.toInt from (by omega : ((100000 : Int) ≤ q.toInt))), c6, h⟩))))))
  by_cases c7 : q.toInt < 10000000
  · exact (Or.inr (Or.inr (Or.inr (Or.inr (Or.inr (Or.inr (Or.inl ⟨Or.inr (show ((10 ^ (7 - 1) : Nat) : Int) ≤ q.toInt from (by omega : ((1000000 : Int) ≤ q.toInt))), c7, h⟩)))))))
  by_cases c8 : q.toInt < 100000000
  · exact (Or.inr (Or.inr (Or.inr (Or.inr (Or.inr (Or.inr (Or.inr (Or.inl ⟨Or.inr (show ((10 ^ (8 - 1) : Nat) : Int) ≤ q.toInt from (by omega : ((10000000 : Int) ≤ q.toInt))), c8, h⟩))))))))
  by_cases c9 : q.toInt < 1000000000
  · exact (Or.inr (Or.inr (Or.inr (Or.inr (Or.inr (Or.inr (Or.inr (Or.inr (Or.inl ⟨Or.inr (show ((10 ^ (9 - 1) : Nat) : Int) ≤ q.toInt from (by omega : ((100000000 : Int) ≤ q.toInt))), c9, h⟩)))))))))
  exact (Or.inr (Or.inr (Or.inr (Or.inr (Or.inr (Or.inr (Or.inr (Or.inr (Or.inr ⟨Or.inr (show ((10 ^ (10 - 1) : Nat) : Int) ≤ q.toInt from (by omega : ((1000000000 : Int) ≤ q.toInt))), (show q.toInt < ((10 ^ 10 : Nat) : Int) from (by omega : q.toInt < 10000000000)), h⟩)))))))))
theorem own_dig {d : Nat} {q : Int32} (h : DC d q) (h1 : 1 ≤ d) (h2 : d ≤ 10) : digV q = Int32.ofNat d := by
  have hh : d = 1 ∨ d = 2 ∨ d = 3 ∨ d = 4 ∨ d = 5 ∨ d = 6 ∨ d = 7 ∨ d = 8 ∨ d = 9 ∨ d = 10 := by omega
  obtain ⟨a, b, c⟩ := h
  have e : ∀ n : Int32, (q < n) ↔ q.toInt < n.toInt := fun n => Int32.lt_iff_toInt_lt
  unfold digV
  simp only [e, Int32.reduceToInt]
  rcases hh with rfl | rfl | rfl | rfl | rfl | rfl | rfl | rfl | rfl | rfl
  · have b' : q.toInt < 10 := b
    rw [if_pos (by omega)]; rfl
  · have a' : (10 : Int) ≤ q.toInt := a.resolve_left (by decide)
    have b' : q.toInt < 100 := b
    rw [if_neg (by omega), if_pos (by omega)]; rfl
  · have a' : (100 : Int) ≤ q.toInt := a.resolve_left (by decide)
    have b' : q.toInt < 1000 := b
    rw [if_neg (by omega), if_neg (by omega), if_pos (by omega)]; rfl
  · have a' : (1000 : Int) ≤ q.toInt := a.resolve_left (by decide)
    have b' : q.toInt < 10000 := b
    rw [if_neg (by omega), if_neg (by omega), if_neg (by omega), if_pos (by omega)]; rfl
  · have a' : (10000 : Int) ≤ q.toInt := a.resolve_left (by decide)
    have b' : q.toInt < 100000 := b
    rw [if_neg (by omega), if_neg (by omega), if_neg (by omega), if_neg (by omega), if_pos (by omega)]; rfl
  · have a' : (100000 : Int) ≤ q.toInt := a.resolve_left (by decide)
    have b' : q.toInt < 1000000 := b
    rw [if_neg (by omega), if_neg (by omega), if_neg (by omega), if_neg (by omega), if_neg (by omega), if_pos (by omega)]; rfl
  · have a' : (1000000 : Int) ≤ q.toInt := a.resolve_left (by decide)
    have b' : q.toInt < 10000000 := b
    rw [if_neg (by omega), if_neg (by omega), if_neg (by omega), if_neg (by omega), if_neg (by omega), if_neg (by omega), if_pos (by omega)]; rfl
  · have a' : (10000000 : Int) ≤ q.toInt := a.resolve_left (by decide)
    have b' : q.toInt < 100000000 := b
    rw [if_neg (by omega), if_neg (by omega), if_neg (by omega), if_neg (by omega), if_neg (by omega), if_neg (by omega), if_neg (by omega), if_pos (by omega)]; rfl
  · have a' : (100000000 : Int) ≤ q.toInt := a.resolve_left (by decide)
    have b' : q.toInt < 1000000000 := b
    rw [if_neg (by omega), if_neg (by omega), if_neg (by omega), if_neg (by omega), if_neg (by omega), if_neg (by omega), if_neg (by omega), if_neg (by omega), if_pos (by omega)]; rfl
  · have a' : (1000000000 : Int) ≤ q.toInt := a.resolve_left (by decide)
    rw [if_neg (by omega), if_neg (by omega), if_neg (by omega), if_neg (by omega), if_neg (by omega), if_neg (by omega), if_neg (by omega), if_neg (by omega), if_neg (by omega)]; rfl
def DIGS (n : Nat) (q : Int32) (vs : List Value) : Prop := ∀ d : Nat, DC d q → 1 ≤ d → d ≤ 10 → ∀ i : Nat, i < d → vs.getD (n + d - i) (.int 0) = .int (nar .byte (dg i q))
theorem own_uniq {d e : Nat} {q : Int32} (h : DC d q) (h' : DC e q) (h1 : 1 ≤ d) (h2 : d ≤ 10) (h3 : 1 ≤ e) (h4 : e ≤ 10) : e = d := by
  have a := own_dig h h1 h2
  have b := own_dig h' h3 h4
  rw [a] at b
  have z := congrArg Int32.toInt b
  have e1 : (Int32.ofNat d).toInt = d := Int32.toInt_ofNat_of_lt (by omega)
  have e2 : (Int32.ofNat e).toInt = e := Int32.toInt_ofNat_of_lt (by omega)
  omega
theorem own_digs {n d : Nat} {q : Int32} {vs : List Value} (h : DC d q) (h1 : 1 ≤ d) (h2 : d ≤ 10) (f : ∀ i : Nat, i < d → vs.getD (n + d - i) (.int 0) = .int (nar .byte (dg i q))) : DIGS n q vs := by
  intro e h' h3 h4
  cases own_uniq h h' h1 h2 h3 h4
  exact f
def dexp (n i : Int32) : Int32 := ((48 : Int32) + ((n / (pow10V i)) - ((n / (pow10V i)) / (10 : Int32)) * (10 : Int32))).toInt8.toInt32
theorem own_p10 (i : Nat) (hi : i < 10) : (pow10V (Int32.ofNat i)).toInt = (10 ^ i : Nat) ∧ pow10V (Int32.ofNat i) ≠ -1 := by
  have hh : i = 0 ∨ i = 1 ∨ i = 2 ∨ i = 3 ∨ i = 4 ∨ i = 5 ∨ i = 6 ∨ i = 7 ∨ i = 8 ∨ i = 9 := by omega
  rcases hh with rfl | rfl | rfl | rfl | rfl | rfl | rfl | rfl | rfl | rfl <;> decide +kernel
theorem own_dgx (i : Nat) (hi : i < 10) (q : Int32) (h : 0 ≤ q.toInt) : nar .byte (dg i q) = dexp q (Int32.ofNat i) := by
  have e : dv i q = q / (pow10V (Int32.ofNat i)) := by
    refine Int32.toInt_inj.mp ?_
    rw [own_dv i q h, (c_idiv q _ _ (own_p10 i hi).1 (own_p10 i hi).2).1 h]
  unfold dexp
  rw [← e]
  exact own_nb _
theorem own_pnz (i : Int32) : ¬ pow10V i = 0 := by
  unfold pow10V
  repeat' split
  all_goals decide
theorem own_dbnd (q : Int32) : 1 ≤ (digV q).toInt ∧ (digV q).toInt ≤ 10 := by
  unfold digV
  repeat' split
  all_goals decide
theorem own_lt10 {i : Nat} (h : i < 10) : i = 0 ∨ i = 1 ∨ i = 2 ∨ i = 3 ∨ i = 4 ∨ i = 5 ∨ i = 6 ∨ i = 7 ∨ i = 8 ∨ i = 9 := by omega
theorem own_ix {n d i : Nat} (hn : n = 1 ∨ n = 2) (h1 : 1 ≤ d) (h2 : d ≤ 10) (h : i < d) : (((Int32.ofNat (n + 1)) + Int32.ofNat d) - 1) - Int32.ofNat i = Int32.ofNat (n + d - i) := by
  have a := c_iadd (Int32.ofNat (n + 1)) (Int32.ofNat d)
  generalize Int32.ofNat (n + 1) + Int32.ofNat d = x at a ⊢
  have b := c_isub x 1
  generalize x - 1 = y at b ⊢
  have c := c_isub y (Int32.ofNat i)
  generalize y - Int32.ofNat i = z at c ⊢
  have e1 : (Int32.ofNat (n + 1)).toInt = ((n + 1 : Nat) : Int) := Int32.toInt_ofNat_of_lt (by omega)
  have e2 : (Int32.ofNat d).toInt = d := Int32.toInt_ofNat_of_lt (by omega)
  have e3 : (Int32.ofNat i).toInt = i := Int32.toInt_ofNat_of_lt (by omega)
  have e4 : (Int32.ofNat (n + d - i)).toInt = ((n + d - i : Nat) : Int) := Int32.toInt_ofNat_of_lt (by omega)
  have e5 : (1 : Int32).toInt = 1 := by decide
  have r1 := rng32 x
  have r2 := rng32 y
  have r3 := rng32 z
  rw [e1, e2] at a
  rw [e5] at b
  rw [e3] at c
  refine Int32.toInt_inj.mp ?_
  rw [e4]
  omega
theorem own_ok (n i : Nat) {q : Int32} {vs : List Value} (hn : n = 1 ∨ n = 2) (hi : i < 10) (hD : DIGS n q vs) (hq : 0 ≤ q.toInt) (hl : (Int32.ofNat i) < digV q) : (¬ ((((Int32.ofNat (n + 1)) + digV q) - 1) - Int32.ofNat i) < 0 ∧ ((((Int32.ofNat (n + 1)) + digV q) - 1) - Int32.ofNat i) < 266) ∧ ∃ w : Int32, vs.getD (((((Int32.ofNat (n + 1)) + digV q) - 1) - Int32.ofNat i)).toNatClampNeg (.int 0) = .int w ∧ w = dexp q (Int32.ofNat i) := by
  have key : ∀ d : Nat, DC d q → 1 ≤ d → d ≤ 10 → (¬ ((((Int32.ofNat (n + 1)) + digV q) - 1) - Int32.ofNat i) < 0 ∧ ((((Int32.ofNat (n + 1)) + digV q) - 1) - Int32.ofNat i) < 266) ∧ ∃ w : Int32, vs.getD (((((Int32.ofNat (n + 1)) + digV q) - 1) - Int32.ofNat i)).toNatClampNeg (.int 0) = .int w ∧ w = dexp q (Int32.ofNat i) := by
    intro d h h1 h2
    have ed := own_dig h h1 h2
    rw [ed] at hl ⊢
    have e2 : (Int32.ofNat d).toInt = d := Int32.toInt_ofNat_of_lt (by omega)
    have e3 : (Int32.ofNat i).toInt = i := Int32.toInt_ofNat_of_lt (by omega)
    have hid : i < d := by
      rw [own_tl, e2, e3] at hl
      omega
    rw [own_ix hn h1 h2 hid]
    have e4 : (Int32.ofNat (n + d - i)).toInt = ((n + d - i : Nat) : Int) := Int32.toInt_ofNat_of_lt (by omega)
    have e5 : (Int32.ofNat (n + d - i)).toNatClampNeg = n + d - i := by
      simp only [Int32.toNatClampNeg, e4]
      omega
    have z0 : (0 : Int32).toInt = 0 := by decide
    have z1 : (266 : Int32).toInt = 266 := by decide
    rw [e5]
    refine ⟨⟨?_, ?_⟩, _, hD d h h1 h2 i hid, own_dgx i hi q hq⟩
    · rw [own_tl, e4, z0]; omega
    · rw [own_tl, e4, z1]; omega
  rcases own_nine q hq with h | h | h | h | h | h | h | h | h | h
  · exact key 1 h (by decide) (by decide)
  · exact key 2 h (by decide) (by decide)
  · exact key 3 h (by decide) (by decide)
  · exact key 4 h (by decide) (by decide)
  · exact key 5 h (by decide) (by decide)
  · exact key 6 h (by decide) (by decide)
  · exact key 7 h (by decide) (by decide)
  · exact key 8 h (by decide) (by decide)
  · exact key 9 h (by decide) (by decide)
  · exact key 10 h (by decide) (by decide)
theorem own_l266 (n : Nat) (hn : n = 1 ∨ n = 2) (q : Int32) : ¬ (266 : Int32) < Int32.ofNat (n + 1) + digV q := by
  have b := own_dbnd q
  have a := c_iadd (Int32.ofNat (n + 1)) (digV q)
  have e1 : (Int32.ofNat (n + 1)).toInt = ((n + 1 : Nat) : Int) := Int32.toInt_ofNat_of_lt (by omega)
  rw [e1] at a
  have r := rng32 (Int32.ofNat (n + 1) + digV q)
  have z1 : (266 : Int32).toInt = 266 := by decide
  rw [own_tl, z1]
  omega
theorem own_nn (a : Int32) : 0 ≤ (a &&& (2147483647 : Int32)).toInt := by
  have e31 : ((2 ^ 31 : Nat) : Int) = 2147483648 := rfl
  have h := c_mask a 2147483647 31 (by decide) (by decide)
  rw [e31] at h
  omega
def SSt (Z : State) (cs : Int32) (u8 : Addr) : Prop := ¬ cs = 0 ∧ Sta Z Z.heap "java/lang/String" "COMPACT_STRINGS" "Z" (.int cs) ∧ Sta Z Z.heap "java/nio/charset/StandardCharsets" "UTF_8" "Ljava/nio/charset/Charset;" (.ref u8) ∧ Sta Z Z.heap "sun/nio/cs/UTF_8" "INSTANCE" "Lsun/nio/cs/UTF_8;" (.ref u8)

theorem w_0 {Z : State} {a0 : Array Value} (hw : ∀ d ∈ tables_1, d.before a0 Z = true) : (Jvm.Cond.constant "com/example/astilla/astilla/PointLabelsWritePinLaw" (31 : Nat) (2147483647 : Int32)).before a0 Z = true := hw _ (List.mem_of_getElem? (i := 0) rfl)
theorem w_1 {Z : State} {a0 : Array Value} (hw : ∀ d ∈ tables_1, d.before a0 Z = true) : (Jvm.Cond.arrayClass Jvm.ClassFile.FieldType.char).before a0 Z = true := hw _ (List.mem_of_getElem? (i := 1) rfl)
theorem w_2 {Z : State} {a0 : Array Value} (hw : ∀ d ∈ tables_1, d.before a0 Z = true) : (Jvm.Cond.classLink "com/example/astilla/astilla/PointLabelsWritePinLaw" (32 : Nat) "java/lang/String").before a0 Z = true := hw _ (List.mem_of_getElem? (i := 2) rfl)
theorem w_3 {Z : State} {a0 : Array Value} (hw : ∀ d ∈ tables_1, d.before a0 Z = true) : (Jvm.Cond.instantiable "java/lang/String" (4 : Nat)).before a0 Z = true := hw _ (List.mem_of_getElem? (i := 3) rfl)
theorem w_4 {Z : State} {a0 : Array Value} (hw : ∀ d ∈ tables_1, d.before a0 Z = true) : (Jvm.Cond.initialized "java/lang/String").before a0 Z = true := hw _ (List.mem_of_getElem? (i := 4) rfl)
theorem w_5 {Z : State} {a0 : Array Value} (hw : ∀ d ∈ tables_1, d.before a0 Z = true) : (Jvm.Cond.methodLink "com/example/astilla/astilla/PointLabelsWritePinLaw" (34 : Nat) ({ cls := "java/lang/String", name := "<init>", desc := "([C)V" } : Jvm.MethodName)).before a0 Z = true := hw _ (List.mem_of_getElem? (i := 5) rfl)
theorem w_6 {Z : State} {a0 : Array Value} (hw : ∀ d ∈ tables_1, d.before a0 Z = true) : (Jvm.Cond.instanceMethod ({ cls := "java/lang/String", name := "<init>", desc := "([C)V" } : Jvm.MethodName)).before a0 Z = true := hw _ (List.mem_of_getElem? (i := 6) rfl)
theorem w_7 {Z : State} {a0 : Array Value} (hw : ∀ d ∈ tables_1, d.before a0 Z = true) : (Jvm.Cond.code ({ cls := "java/lang/String", name := "<init>", desc := "([C)V" } : Jvm.MethodName) jdk_42_method_3_code (2 : Nat) (Option.none : Option Jvm.ClassFile.FieldType)).before a0 Z = true := hw _ (List.mem_of_getElem? (i := 7) rfl)
theorem w_8 {Z : State} {a0 : Array Value} (hw : ∀ d ∈ tables_1, d.before a0 Z = true) : (Jvm.Cond.methodLink "java/lang/String" (27 : Nat) ({ cls := "java/lang/String", name := "<init>", desc := "([CIILjava/lang/Void;)V" } : Jvm.MethodName)).before a0 Z = true := hw _ (List.mem_of_getElem? (i := 8) rfl)
theorem w_9 {Z : State} {a0 : Array Value} (hw : ∀ d ∈ tables_1, d.before a0 Z = true) : (Jvm.Cond.instanceMethod ({ cls := "java/lang/String", name := "<init>", desc := "([CIILjava/lang/Void;)V" } : Jvm.MethodName)).before a0 Z = true := hw _ (List.mem_of_getElem? (i := 9) rfl)
theorem w_11 {Z : State} {a0 : Array Value} (hw : ∀ d ∈ tables_1, d.before a0 Z = true) : (Jvm.Cond.code ({ cls := "java/lang/String", name := "<init>", desc := "([CIILjava/lang/Void;)V" } : Jvm.MethodName) jdk_42_method_149_code (6 : Nat) (Option.none : Option Jvm.ClassFile.FieldType)).before a0 Z = true := hw _ (List.mem_of_getElem? (i := 11) rfl)
theorem w_12 {Z : State} {a0 : Array Value} (hw : ∀ d ∈ tables_1, d.before a0 Z = true) : (Jvm.Cond.methodLink "java/lang/String" (1 : Nat) ({ cls := "java/lang/Object", name := "<init>", desc := "()V" } : Jvm.MethodName)).before a0 Z = true := hw _ (List.mem_of_getElem? (i := 12) rfl)
theorem w_13 {Z : State} {a0 : Array Value} (hw : ∀ d ∈ tables_1, d.before a0 Z = true) : (Jvm.Cond.instanceMethod ({ cls := "java/lang/Object", name := "<init>", desc := "()V" } : Jvm.MethodName)).before a0 Z = true := hw _ (List.mem_of_getElem? (i := 13) rfl)
theorem w_14 {Z : State} {a0 : Array Value} (hw : ∀ d ∈ tables_1, d.before a0 Z = true) : (Jvm.Cond.code ({ cls := "java/lang/Object", name := "<init>", desc := "()V" } : Jvm.MethodName) object_method_1_code (1 : Nat) (Option.none : Option Jvm.ClassFile.FieldType)).before a0 Z = true := hw _ (List.mem_of_getElem? (i := 14) rfl)
theorem w_15 {Z : State} {a0 : Array Value} (hw : ∀ d ∈ tables_1, d.before a0 Z = true) : (Jvm.Cond.fieldLink "java/lang/String" (38 : Nat) "java/lang/String" "COMPACT_STRINGS" "Z").before a0 Z = true := hw _ (List.mem_of_getElem? (i := 15) rfl)
theorem w_16 {Z : State} {a0 : Array Value} (hw : ∀ d ∈ tables_1, d.before a0 Z = true) : (Jvm.Cond.methodLink "java/lang/String" (177 : Nat) ({ cls := "java/lang/StringUTF16", name := "compress", desc := "([CII)[B" } : Jvm.MethodName)).before a0 Z = true := hw _ (List.mem_of_getElem? (i := 16) rfl)
theorem w_17 {Z : State} {a0 : Array Value} (hw : ∀ d ∈ tables_1, d.before a0 Z = true) : (Jvm.Cond.static ({ cls := "java/lang/StringUTF16", name := "compress", desc := "([CII)[B" } : Jvm.MethodName)).before a0 Z = true := hw _ (List.mem_of_getElem? (i := 17) rfl)
theorem w_18 {Z : State} {a0 : Array Value} (hw : ∀ d ∈ tables_1, d.before a0 Z = true) : (Jvm.Cond.initialized "java/lang/StringUTF16").before a0 Z = true := hw _ (List.mem_of_getElem? (i := 18) rfl)
theorem w_19 {Z : State} {a0 : Array Value} (hw : ∀ d ∈ tables_1, d.before a0 Z = true) : (Jvm.Cond.code ({ cls := "java/lang/StringUTF16", name := "compress", desc := "([CII)[B" } : Jvm.MethodName) jdk_52_method_16_code (6 : Nat) (Option.some (Jvm.ClassFile.FieldType.array Jvm.ClassFile.FieldType.byte))).before a0 Z = true := hw _ (List.mem_of_getElem? (i := 19) rfl)
theorem w_20 {Z : State} {a0 : Array Value} (hw : ∀ d ∈ tables_1, d.before a0 Z = true) : (Jvm.Cond.arrayClass Jvm.ClassFile.FieldType.byte).before a0 Z = true := hw _ (List.mem_of_getElem? (i := 20) rfl)
theorem w_21 {Z : State} {a0 : Array Value} (hw : ∀ d ∈ tables_1, d.before a0 Z = true) : (Jvm.Cond.methodLink "java/lang/StringUTF16" (115 : Nat) ({ cls := "java/lang/StringUTF16", name := "compress", desc := "([CI[BII)I" } : Jvm.MethodName)).before a0 Z = true := hw _ (List.mem_of_getElem? (i := 21) rfl)
theorem w_22 {Z : State} {a0 : Array Value} (hw : ∀ d ∈ tables_1, d.before a0 Z = true) : (Jvm.Cond.static ({ cls := "java/lang/StringUTF16", name := "compress", desc := "([CI[BII)I" } : Jvm.MethodName)).before a0 Z = true := hw _ (List.mem_of_getElem? (i := 22) rfl)
theorem w_23 {Z : State} {a0 : Array Value} (hw : ∀ d ∈ tables_1, d.before a0 Z = true) : (Jvm.Cond.code ({ cls := "java/lang/StringUTF16", name := "compress", desc := "([CI[BII)I" } : Jvm.MethodName) jdk_52_method_21_code (7 : Nat) (Option.some Jvm.ClassFile.FieldType.int)).before a0 Z = true := hw _ (List.mem_of_getElem? (i := 23) rfl)
theorem w_24 {Z : State} {a0 : Array Value} (hw : ∀ d ∈ tables_1, d.before a0 Z = true) : (Jvm.Cond.methodLink "java/lang/String" (47 : Nat) ({ cls := "java/lang/StringUTF16", name := "coderFromArrayLen", desc := "([BI)B" } : Jvm.MethodName)).before a0 Z = true := hw _ (List.mem_of_getElem? (i := 24) rfl)
theorem w_25 {Z : State} {a0 : Array Value} (hw : ∀ d ∈ tables_1, d.before a0 Z = true) : (Jvm.Cond.static ({ cls := "java/lang/StringUTF16", name := "coderFromArrayLen", desc := "([BI)B" } : Jvm.MethodName)).before a0 Z = true := hw _ (List.mem_of_getElem? (i := 25) rfl)
theorem w_26 {Z : State} {a0 : Array Value} (hw : ∀ d ∈ tables_1, d.before a0 Z = true) : (Jvm.Cond.code ({ cls := "java/lang/StringUTF16", name := "coderFromArrayLen", desc := "([BI)B" } : Jvm.MethodName) jdk_52_method_15_code (2 : Nat) (Option.some Jvm.ClassFile.FieldType.byte)).before a0 Z = true := hw _ (List.mem_of_getElem? (i := 26) rfl)
theorem w_27 {Z : State} {a0 : Array Value} (hw : ∀ d ∈ tables_1, d.before a0 Z = true) : (Jvm.Cond.fieldLink "java/lang/String" (15 : Nat) "java/lang/String" "coder" "B").before a0 Z = true := hw _ (List.mem_of_getElem? (i := 27) rfl)
theorem w_28 {Z : State} {a0 : Array Value} (hw : ∀ d ∈ tables_1, d.before a0 Z = true) : (Jvm.Cond.laysFinal "java/lang/String" "java/lang/String" "coder" "B").before a0 Z = true := hw _ (List.mem_of_getElem? (i := 28) rfl)
theorem w_29 {Z : State} {a0 : Array Value} (hw : ∀ d ∈ tables_1, d.before a0 Z = true) : (Jvm.Cond.fieldLink "java/lang/String" (9 : Nat) "java/lang/String" "value" "[B").before a0 Z = true := hw _ (List.mem_of_getElem? (i := 29) rfl)
theorem w_30 {Z : State} {a0 : Array Value} (hw : ∀ d ∈ tables_1, d.before a0 Z = true) : (Jvm.Cond.laysFinal "java/lang/String" "java/lang/String" "value" "[B").before a0 Z = true := hw _ (List.mem_of_getElem? (i := 30) rfl)
theorem w_31 {Z : State} {a0 : Array Value} (hw : ∀ d ∈ tables_1, d.before a0 Z = true) : (Jvm.Cond.classLink "com/example/astilla/astilla/PointLabelsWritePinLaw" (22 : Nat) "com/example/astilla/astilla/PointLabels").before a0 Z = true := hw _ (List.mem_of_getElem? (i := 31) rfl)
theorem w_32 {Z : State} {a0 : Array Value} (hw : ∀ d ∈ tables_1, d.before a0 Z = true) : (Jvm.Cond.instantiable "com/example/astilla/astilla/PointLabels" (3 : Nat)).before a0 Z = true := hw _ (List.mem_of_getElem? (i := 32) rfl)
theorem w_33 {Z : State} {a0 : Array Value} (hw : ∀ d ∈ tables_1, d.before a0 Z = true) : (Jvm.Cond.initialized "com/example/astilla/astilla/PointLabels").before a0 Z = true := hw _ (List.mem_of_getElem? (i := 33) rfl)
theorem w_34 {Z : State} {a0 : Array Value} (hw : ∀ d ∈ tables_1, d.before a0 Z = true) : (Jvm.Cond.methodLink "com/example/astilla/astilla/PointLabelsWritePinLaw" (37 : Nat) ({ cls := "com/example/astilla/astilla/PointLabels", name := "<init>", desc := "(C)V" } : Jvm.MethodName)).before a0 Z = true := hw _ (List.mem_of_getElem? (i := 34) rfl)
theorem w_35 {Z : State} {a0 : Array Value} (hw : ∀ d ∈ tables_1, d.before a0 Z = true) : (Jvm.Cond.instanceMethod ({ cls := "com/example/astilla/astilla/PointLabels", name := "<init>", desc := "(C)V" } : Jvm.MethodName)).before a0 Z = true := hw _ (List.mem_of_getElem? (i := 35) rfl)
theorem w_36 {Z : State} {a0 : Array Value} (hw : ∀ d ∈ tables_1, d.before a0 Z = true) : (Jvm.Cond.code ({ cls := "com/example/astilla/astilla/PointLabels", name := "<init>", desc := "(C)V" } : Jvm.MethodName) prog_15_method_1_code (2 : Nat) (Option.none : Option Jvm.ClassFile.FieldType)).before a0 Z = true := hw _ (List.mem_of_getElem? (i := 36) rfl)
theorem w_37 {Z : State} {a0 : Array Value} (hw : ∀ d ∈ tables_1, d.before a0 Z = true) : (Jvm.Cond.methodLink "com/example/astilla/astilla/PointLabels" (1 : Nat) ({ cls := "java/lang/Object", name := "<init>", desc := "()V" } : Jvm.MethodName)).before a0 Z = true := hw _ (List.mem_of_getElem? (i := 37) rfl)
theorem w_38 {Z : State} {a0 : Array Value} (hw : ∀ d ∈ tables_1, d.before a0 Z = true) : (Jvm.Cond.fieldLink "com/example/astilla/astilla/PointLabels" (11 : Nat) "com/example/astilla/astilla/PointLabels" "label" "[B").before a0 Z = true := hw _ (List.mem_of_getElem? (i := 38) rfl)
theorem w_39 {Z : State} {a0 : Array Value} (hw : ∀ d ∈ tables_1, d.before a0 Z = true) : (Jvm.Cond.laysFinal "com/example/astilla/astilla/PointLabels" "com/example/astilla/astilla/PointLabels" "label" "[B").before a0 Z = true := hw _ (List.mem_of_getElem? (i := 39) rfl)
theorem w_40 {Z : State} {a0 : Array Value} (hw : ∀ d ∈ tables_1, d.before a0 Z = true) : (Jvm.Cond.fieldLink "com/example/astilla/astilla/PointLabels" (15 : Nat) "com/example/astilla/astilla/PointLabels" "separator" "B").before a0 Z = true := hw _ (List.mem_of_getElem? (i := 40) rfl)
theorem w_41 {Z : State} {a0 : Array Value} (hw : ∀ d ∈ tables_1, d.before a0 Z = true) : (Jvm.Cond.laysFinal "com/example/astilla/astilla/PointLabels" "com/example/astilla/astilla/PointLabels" "separator" "B").before a0 Z = true := hw _ (List.mem_of_getElem? (i := 41) rfl)
theorem w_42 {Z : State} {a0 : Array Value} (hw : ∀ d ∈ tables_1, d.before a0 Z = true) : (Jvm.Cond.methodLink "com/example/astilla/astilla/PointLabelsWritePinLaw" (40 : Nat) ({ cls := "com/example/astilla/astilla/PointLabels", name := "startNode", desc := "(Ljava/lang/String;)V" } : Jvm.MethodName)).before a0 Z = true := hw _ (List.mem_of_getElem? (i := 42) rfl)
theorem w_43 {Z : State} {a0 : Array Value} (hw : ∀ d ∈ tables_1, d.before a0 Z = true) : (Jvm.Cond.declares ({ cls := "com/example/astilla/astilla/PointLabels", name := "startNode", desc := "(Ljava/lang/String;)V" } : Jvm.MethodName)).before a0 Z = true := hw _ (List.mem_of_getElem? (i := 43) rfl)
theorem w_44 {Z : State} {a0 : Array Value} (hw : ∀ d ∈ tables_1, d.before a0 Z = true) : (Jvm.Cond.instanceMethod ({ cls := "com/example/astilla/astilla/PointLabels", name := "startNode", desc := "(Ljava/lang/String;)V" } : Jvm.MethodName)).before a0 Z = true := hw _ (List.mem_of_getElem? (i := 44) rfl)
theorem w_45 {Z : State} {a0 : Array Value} (hw : ∀ d ∈ tables_1, d.before a0 Z = true) : (Jvm.Cond.selects "com/example/astilla/astilla/PointLabels" ({ cls := "com/example/astilla/astilla/PointLabels", name := "startNode", desc := "(Ljava/lang/String;)V" } : Jvm.MethodName) ({ cls := "com/example/astilla/astilla/PointLabels", name := "startNode", desc := "(Ljava/lang/String;)V" } : Jvm.MethodName)).before a0 Z = true := hw _ (List.mem_of_getElem? (i := 45) rfl)
theorem w_46 {Z : State} {a0 : Array Value} (hw : ∀ d ∈ tables_1, d.before a0 Z = true) : (Jvm.Cond.code ({ cls := "com/example/astilla/astilla/PointLabels", name := "startNode", desc := "(Ljava/lang/String;)V" } : Jvm.MethodName) prog_15_method_2_code (3 : Nat) (Option.none : Option Jvm.ClassFile.FieldType)).before a0 Z = true := hw _ (List.mem_of_getElem? (i := 46) rfl)
theorem w_47 {Z : State} {a0 : Array Value} (hw : ∀ d ∈ tables_1, d.before a0 Z = true) : (Jvm.Cond.fieldLink "com/example/astilla/astilla/PointLabels" (19 : Nat) "java/nio/charset/StandardCharsets" "UTF_8" "Ljava/nio/charset/Charset;").before a0 Z = true := hw _ (List.mem_of_getElem? (i := 47) rfl)
theorem w_49 {Z : State} {a0 : Array Value} (hw : ∀ d ∈ tables_1, d.before a0 Z = true) : (Jvm.Cond.methodLink "com/example/astilla/astilla/PointLabels" (25 : Nat) ({ cls := "java/lang/String", name := "getBytes", desc := "(Ljava/nio/charset/Charset;)[B" } : Jvm.MethodName)).before a0 Z = true := hw _ (List.mem_of_getElem? (i := 49) rfl)
theorem w_50 {Z : State} {a0 : Array Value} (hw : ∀ d ∈ tables_1, d.before a0 Z = true) : (Jvm.Cond.declares ({ cls := "java/lang/String", name := "getBytes", desc := "(Ljava/nio/charset/Charset;)[B" } : Jvm.MethodName)).before a0 Z = true := hw _ (List.mem_of_getElem? (i := 50) rfl)
theorem w_51 {Z : State} {a0 : Array Value} (hw : ∀ d ∈ tables_1, d.before a0 Z = true) : (Jvm.Cond.instanceMethod ({ cls := "java/lang/String", name := "getBytes", desc := "(Ljava/nio/charset/Charset;)[B" } : Jvm.MethodName)).before a0 Z = true := hw _ (List.mem_of_getElem? (i := 51) rfl)
theorem w_52 {Z : State} {a0 : Array Value} (hw : ∀ d ∈ tables_1, d.before a0 Z = true) : (Jvm.Cond.selects "java/lang/String" ({ cls := "java/lang/String", name := "getBytes", desc := "(Ljava/nio/charset/Charset;)[B" } : Jvm.MethodName) ({ cls := "java/lang/String", name := "getBytes", desc := "(Ljava/nio/charset/Charset;)[B" } : Jvm.MethodName)).before a0 Z = true := hw _ (List.mem_of_getElem? (i := 52) rfl)
theorem w_53 {Z : State} {a0 : Array Value} (hw : ∀ d ∈ tables_1, d.before a0 Z = true) : (Jvm.Cond.code ({ cls := "java/lang/String", name := "getBytes", desc := "(Ljava/nio/charset/Charset;)[B" } : Jvm.MethodName) jdk_42_method_64_code (2 : Nat) (Option.some (Jvm.ClassFile.FieldType.array Jvm.ClassFile.FieldType.byte))).before a0 Z = true := hw _ (List.mem_of_getElem? (i := 53) rfl)
theorem w_54 {Z : State} {a0 : Array Value} (hw : ∀ d ∈ tables_1, d.before a0 Z = true) : (Jvm.Cond.methodLink "java/lang/String" (335 : Nat) ({ cls := "java/lang/String", name := "coder", desc := "()B" } : Jvm.MethodName)).before a0 Z = true := hw _ (List.mem_of_getElem? (i := 54) rfl)
theorem w_55 {Z : State} {a0 : Array Value} (hw : ∀ d ∈ tables_1, d.before a0 Z = true) : (Jvm.Cond.declares ({ cls := "java/lang/String", name := "coder", desc := "()B" } : Jvm.MethodName)).before a0 Z = true := hw _ (List.mem_of_getElem? (i := 55) rfl)
theorem w_56 {Z : State} {a0 : Array Value} (hw : ∀ d ∈ tables_1, d.before a0 Z = true) : (Jvm.Cond.instanceMethod ({ cls := "java/lang/String", name := "coder", desc := "()B" } : Jvm.MethodName)).before a0 Z = true := hw _ (List.mem_of_getElem? (i := 56) rfl)
theorem w_57 {Z : State} {a0 : Array Value} (hw : ∀ d ∈ tables_1, d.before a0 Z = true) : (Jvm.Cond.selects "java/lang/String" ({ cls := "java/lang/String", name := "coder", desc := "()B" } : Jvm.MethodName) ({ cls := "java/lang/String", name := "coder", desc := "()B" } : Jvm.MethodName)).before a0 Z = true := hw _ (List.mem_of_getElem? (i := 57) rfl)
theorem w_58 {Z : State} {a0 : Array Value} (hw : ∀ d ∈ tables_1, d.before a0 Z = true) : (Jvm.Cond.code ({ cls := "java/lang/String", name := "coder", desc := "()B" } : Jvm.MethodName) jdk_42_method_152_code (1 : Nat) (Option.some Jvm.ClassFile.FieldType.byte)).before a0 Z = true := hw _ (List.mem_of_getElem? (i := 58) rfl)
theorem w_59 {Z : State} {a0 : Array Value} (hw : ∀ d ∈ tables_1, d.before a0 Z = true) : (Jvm.Cond.methodLink "java/lang/String" (535 : Nat) ({ cls := "java/lang/String", name := "encode", desc := "(Ljava/nio/charset/Charset;B[B)[B" } : Jvm.MethodName)).before a0 Z = true := hw _ (List.mem_of_getElem? (i := 59) rfl)
theorem w_60 {Z : State} {a0 : Array Value} (hw : ∀ d ∈ tables_1, d.before a0 Z = true) : (Jvm.Cond.static ({ cls := "java/lang/String", name := "encode", desc := "(Ljava/nio/charset/Charset;B[B)[B" } : Jvm.MethodName)).before a0 Z = true := hw _ (List.mem_of_getElem? (i := 60) rfl)
theorem w_61 {Z : State} {a0 : Array Value} (hw : ∀ d ∈ tables_1, d.before a0 Z = true) : (Jvm.Cond.code ({ cls := "java/lang/String", name := "encode", desc := "(Ljava/nio/charset/Charset;B[B)[B" } : Jvm.MethodName) jdk_42_method_18_code (3 : Nat) (Option.some (Jvm.ClassFile.FieldType.array Jvm.ClassFile.FieldType.byte))).before a0 Z = true := hw _ (List.mem_of_getElem? (i := 61) rfl)
theorem w_62 {Z : State} {a0 : Array Value} (hw : ∀ d ∈ tables_1, d.before a0 Z = true) : (Jvm.Cond.fieldLink "java/lang/String" (86 : Nat) "sun/nio/cs/UTF_8" "INSTANCE" "Lsun/nio/cs/UTF_8;").before a0 Z = true := hw _ (List.mem_of_getElem? (i := 62) rfl)
theorem w_64 {Z : State} {a0 : Array Value} (hw : ∀ d ∈ tables_1, d.before a0 Z = true) : (Jvm.Cond.methodLink "java/lang/String" (252 : Nat) ({ cls := "java/lang/String", name := "encodeUTF8", desc := "(B[BZ)[B" } : Jvm.MethodName)).before a0 Z = true := hw _ (List.mem_of_getElem? (i := 64) rfl)
theorem w_65 {Z : State} {a0 : Array Value} (hw : ∀ d ∈ tables_1, d.before a0 Z = true) : (Jvm.Cond.static ({ cls := "java/lang/String", name := "encodeUTF8", desc := "(B[BZ)[B" } : Jvm.MethodName)).before a0 Z = true := hw _ (List.mem_of_getElem? (i := 65) rfl)
theorem w_66 {Z : State} {a0 : Array Value} (hw : ∀ d ∈ tables_1, d.before a0 Z = true) : (Jvm.Cond.code ({ cls := "java/lang/String", name := "encodeUTF8", desc := "(B[BZ)[B" } : Jvm.MethodName) jdk_42_method_46_code (9 : Nat) (Option.some (Jvm.ClassFile.FieldType.array Jvm.ClassFile.FieldType.byte))).before a0 Z = true := hw _ (List.mem_of_getElem? (i := 66) rfl)
theorem w_67 {Z : State} {a0 : Array Value} (hw : ∀ d ∈ tables_1, d.before a0 Z = true) : (Jvm.Cond.methodLink "java/lang/String" (128 : Nat) ({ cls := "java/lang/StringCoding", name := "hasNegatives", desc := "([BII)Z" } : Jvm.MethodName)).before a0 Z = true := hw _ (List.mem_of_getElem? (i := 67) rfl)
theorem w_68 {Z : State} {a0 : Array Value} (hw : ∀ d ∈ tables_1, d.before a0 Z = true) : (Jvm.Cond.static ({ cls := "java/lang/StringCoding", name := "hasNegatives", desc := "([BII)Z" } : Jvm.MethodName)).before a0 Z = true := hw _ (List.mem_of_getElem? (i := 68) rfl)
theorem w_69 {Z : State} {a0 : Array Value} (hw : ∀ d ∈ tables_1, d.before a0 Z = true) : (Jvm.Cond.initialized "java/lang/StringCoding").before a0 Z = true := hw _ (List.mem_of_getElem? (i := 69) rfl)
theorem w_70 {Z : State} {a0 : Array Value} (hw : ∀ d ∈ tables_1, d.before a0 Z = true) : (Jvm.Cond.code ({ cls := "java/lang/StringCoding", name := "hasNegatives", desc := "([BII)Z" } : Jvm.MethodName) jdk_123_method_2_code (3 : Nat) (Option.some Jvm.ClassFile.FieldType.boolean)).before a0 Z = true := hw _ (List.mem_of_getElem? (i := 70) rfl)
theorem w_71 {Z : State} {a0 : Array Value} (hw : ∀ d ∈ tables_1, d.before a0 Z = true) : (Jvm.Cond.methodLink "java/lang/StringCoding" (7 : Nat) ({ cls := "java/lang/StringCoding", name := "countPositives", desc := "([BII)I" } : Jvm.MethodName)).before a0 Z = true := hw _ (List.mem_of_getElem? (i := 71) rfl)
theorem w_72 {Z : State} {a0 : Array Value} (hw : ∀ d ∈ tables_1, d.before a0 Z = true) : (Jvm.Cond.static ({ cls := "java/lang/StringCoding", name := "countPositives", desc := "([BII)I" } : Jvm.MethodName)).before a0 Z = true := hw _ (List.mem_of_getElem? (i := 72) rfl)
theorem w_73 {Z : State} {a0 : Array Value} (hw : ∀ d ∈ tables_1, d.before a0 Z = true) : (Jvm.Cond.code ({ cls := "java/lang/StringCoding", name := "countPositives", desc := "([BII)I" } : Jvm.MethodName) jdk_123_method_3_code (5 : Nat) (Option.some Jvm.ClassFile.FieldType.int)).before a0 Z = true := hw _ (List.mem_of_getElem? (i := 73) rfl)
theorem w_74 {Z : State} {a0 : Array Value} (hw : ∀ d ∈ tables_1, d.before a0 Z = true) : (Jvm.Cond.methodLink "java/lang/String" (279 : Nat) ({ cls := "[B", name := "clone", desc := "()Ljava/lang/Object;" } : Jvm.MethodName)).before a0 Z = true := hw _ (List.mem_of_getElem? (i := 74) rfl)
theorem w_75 {Z : State} {a0 : Array Value} (hw : ∀ d ∈ tables_1, d.before a0 Z = true) : (Jvm.Cond.sameMethod "[B" "java/lang/Object" "clone" "()Ljava/lang/Object;").before a0 Z = true := hw _ (List.mem_of_getElem? (i := 75) rfl)
theorem w_77 {Z : State} {a0 : Array Value} (hw : ∀ d ∈ tables_1, d.before a0 Z = true) : (Jvm.Cond.instanceMethod ({ cls := "java/lang/Object", name := "clone", desc := "()Ljava/lang/Object;" } : Jvm.MethodName)).before a0 Z = true := hw _ (List.mem_of_getElem? (i := 77) rfl)
theorem w_78 {Z : State} {a0 : Array Value} (hw : ∀ d ∈ tables_1, d.before a0 Z = true) : (Jvm.Cond.selects "[B" ({ cls := "[B", name := "clone", desc := "()Ljava/lang/Object;" } : Jvm.MethodName) ({ cls := "java/lang/Object", name := "clone", desc := "()Ljava/lang/Object;" } : Jvm.MethodName)).before a0 Z = true := hw _ (List.mem_of_getElem? (i := 78) rfl)
theorem w_79 {Z : State} {a0 : Array Value} (hw : ∀ d ∈ tables_1, d.before a0 Z = true) : (Jvm.Cond.native ({ cls := "java/lang/Object", name := "clone", desc := "()Ljava/lang/Object;" } : Jvm.MethodName)).before a0 Z = true := hw _ (List.mem_of_getElem? (i := 79) rfl)
theorem w_80 {Z : State} {a0 : Array Value} (hw : ∀ d ∈ tables_1, d.before a0 Z = true) : (Jvm.Cond.castable "[B" "java/lang/Cloneable").before a0 Z = true := hw _ (List.mem_of_getElem? (i := 80) rfl)
theorem w_81 {Z : State} {a0 : Array Value} (hw : ∀ d ∈ tables_1, d.before a0 Z = true) : (Jvm.Cond.classLink "java/lang/String" (280 : Nat) "[B").before a0 Z = true := hw _ (List.mem_of_getElem? (i := 81) rfl)
theorem w_83 {Z : State} {a0 : Array Value} (hw : ∀ d ∈ tables_1, d.before a0 Z = true) : (Jvm.Cond.methodLink "com/example/astilla/astilla/PointLabels" (31 : Nat) ({ cls := "java/lang/System", name := "arraycopy", desc := "(Ljava/lang/Object;ILjava/lang/Object;II)V" } : Jvm.MethodName)).before a0 Z = true := hw _ (List.mem_of_getElem? (i := 83) rfl)
theorem w_84 {Z : State} {a0 : Array Value} (hw : ∀ d ∈ tables_1, d.before a0 Z = true) : (Jvm.Cond.static ({ cls := "java/lang/System", name := "arraycopy", desc := "(Ljava/lang/Object;ILjava/lang/Object;II)V" } : Jvm.MethodName)).before a0 Z = true := hw _ (List.mem_of_getElem? (i := 84) rfl)
theorem w_85 {Z : State} {a0 : Array Value} (hw : ∀ d ∈ tables_1, d.before a0 Z = true) : (Jvm.Cond.initialized "java/lang/System").before a0 Z = true := hw _ (List.mem_of_getElem? (i := 85) rfl)
theorem w_86 {Z : State} {a0 : Array Value} (hw : ∀ d ∈ tables_1, d.before a0 Z = true) : (Jvm.Cond.native ({ cls := "java/lang/System", name := "arraycopy", desc := "(Ljava/lang/Object;ILjava/lang/Object;II)V" } : Jvm.MethodName)).before a0 Z = true := hw _ (List.mem_of_getElem? (i := 86) rfl)
theorem w_87 {Z : State} {a0 : Array Value} (hw : ∀ d ∈ tables_1, d.before a0 Z = true) : (Jvm.Cond.fieldLink "com/example/astilla/astilla/PointLabels" (37 : Nat) "com/example/astilla/astilla/PointLabels" "numberAt" "I").before a0 Z = true := hw _ (List.mem_of_getElem? (i := 87) rfl)
theorem w_88 {Z : State} {a0 : Array Value} (hw : ∀ d ∈ tables_1, d.before a0 Z = true) : (Jvm.Cond.lays "com/example/astilla/astilla/PointLabels" "com/example/astilla/astilla/PointLabels" "numberAt" "I").before a0 Z = true := hw _ (List.mem_of_getElem? (i := 88) rfl)
theorem w_89 {Z : State} {a0 : Array Value} (hw : ∀ d ∈ tables_1, d.before a0 Z = true) : (Jvm.Cond.methodLink "com/example/astilla/astilla/PointLabelsWritePinLaw" (44 : Nat) ({ cls := "com/example/astilla/astilla/PointLabels", name := "write", desc := "(I)I" } : Jvm.MethodName)).before a0 Z = true := hw _ (List.mem_of_getElem? (i := 89) rfl)
theorem w_90 {Z : State} {a0 : Array Value} (hw : ∀ d ∈ tables_1, d.before a0 Z = true) : (Jvm.Cond.declares ({ cls := "com/example/astilla/astilla/PointLabels", name := "write", desc := "(I)I" } : Jvm.MethodName)).before a0 Z = true := hw _ (List.mem_of_getElem? (i := 90) rfl)
theorem w_91 {Z : State} {a0 : Array Value} (hw : ∀ d ∈ tables_1, d.before a0 Z = true) : (Jvm.Cond.instanceMethod ({ cls := "com/example/astilla/astilla/PointLabels", name := "write", desc := "(I)I" } : Jvm.MethodName)).before a0 Z = true := hw _ (List.mem_of_getElem? (i := 91) rfl)
theorem w_92 {Z : State} {a0 : Array Value} (hw : ∀ d ∈ tables_1, d.before a0 Z = true) : (Jvm.Cond.selects "com/example/astilla/astilla/PointLabels" ({ cls := "com/example/astilla/astilla/PointLabels", name := "write", desc := "(I)I" } : Jvm.MethodName) ({ cls := "com/example/astilla/astilla/PointLabels", name := "write", desc := "(I)I" } : Jvm.MethodName)).before a0 Z = true := hw _ (List.mem_of_getElem? (i := 92) rfl)
theorem w_93 {Z : State} {a0 : Array Value} (hw : ∀ d ∈ tables_1, d.before a0 Z = true) : (Jvm.Cond.code ({ cls := "com/example/astilla/astilla/PointLabels", name := "write", desc := "(I)I" } : Jvm.MethodName) prog_15_method_3_code (5 : Nat) (Option.some Jvm.ClassFile.FieldType.int)).before a0 Z = true := hw _ (List.mem_of_getElem? (i := 93) rfl)
theorem w_94 {Z : State} {a0 : Array Value} (hw : ∀ d ∈ tables_1, d.before a0 Z = true) : (Jvm.Cond.methodLink "com/example/astilla/astilla/PointLabelsWritePinLaw" (47 : Nat) ({ cls := "com/example/astilla/astilla/PointLabelsWritePinLaw", name := "check", desc := "(Lcom/example/astilla/astilla/PointLabels;IICCBI)Z" } : Jvm.MethodName)).before a0 Z = true := hw _ (List.mem_of_getElem? (i := 94) rfl)
theorem w_95 {Z : State} {a0 : Array Value} (hw : ∀ d ∈ tables_1, d.before a0 Z = true) : (Jvm.Cond.static ({ cls := "com/example/astilla/astilla/PointLabelsWritePinLaw", name := "check", desc := "(Lcom/example/astilla/astilla/PointLabels;IICCBI)Z" } : Jvm.MethodName)).before a0 Z = true := hw _ (List.mem_of_getElem? (i := 95) rfl)
theorem w_96 {Z : State} {a0 : Array Value} (hw : ∀ d ∈ tables_1, d.before a0 Z = true) : (Jvm.Cond.initialized "com/example/astilla/astilla/PointLabelsWritePinLaw").before a0 Z = true := hw _ (List.mem_of_getElem? (i := 96) rfl)
theorem w_97 {Z : State} {a0 : Array Value} (hw : ∀ d ∈ tables_1, d.before a0 Z = true) : (Jvm.Cond.code ({ cls := "com/example/astilla/astilla/PointLabelsWritePinLaw", name := "check", desc := "(Lcom/example/astilla/astilla/PointLabels;IICCBI)Z" } : Jvm.MethodName) method_5_code (10 : Nat) (Option.some Jvm.ClassFile.FieldType.boolean)).before a0 Z = true := hw _ (List.mem_of_getElem? (i := 97) rfl)
theorem w_98 {Z : State} {a0 : Array Value} (hw : ∀ d ∈ tables_1, d.before a0 Z = true) : (Jvm.Cond.methodLink "com/example/astilla/astilla/PointLabelsWritePinLaw" (18 : Nat) ({ cls := "com/example/astilla/astilla/PointLabelsWritePinLaw", name := "digits", desc := "(I)I" } : Jvm.MethodName)).before a0 Z = true := hw _ (List.mem_of_getElem? (i := 98) rfl)
theorem w_99 {Z : State} {a0 : Array Value} (hw : ∀ d ∈ tables_1, d.before a0 Z = true) : (Jvm.Cond.static ({ cls := "com/example/astilla/astilla/PointLabelsWritePinLaw", name := "digits", desc := "(I)I" } : Jvm.MethodName)).before a0 Z = true := hw _ (List.mem_of_getElem? (i := 99) rfl)
theorem w_100 {Z : State} {a0 : Array Value} (hw : ∀ d ∈ tables_1, d.before a0 Z = true) : (Jvm.Cond.code ({ cls := "com/example/astilla/astilla/PointLabelsWritePinLaw", name := "digits", desc := "(I)I" } : Jvm.MethodName) method_3_code (1 : Nat) (Option.some Jvm.ClassFile.FieldType.int)).before a0 Z = true := hw _ (List.mem_of_getElem? (i := 100) rfl)
theorem w_101 {Z : State} {a0 : Array Value} (hw : ∀ d ∈ tables_1, d.before a0 Z = true) : (Jvm.Cond.methodLink "com/example/astilla/astilla/PointLabelsWritePinLaw" (21 : Nat) ({ cls := "com/example/astilla/astilla/PointLabels", name := "bytes", desc := "()[B" } : Jvm.MethodName)).before a0 Z = true := hw _ (List.mem_of_getElem? (i := 101) rfl)
theorem w_102 {Z : State} {a0 : Array Value} (hw : ∀ d ∈ tables_1, d.before a0 Z = true) : (Jvm.Cond.declares ({ cls := "com/example/astilla/astilla/PointLabels", name := "bytes", desc := "()[B" } : Jvm.MethodName)).before a0 Z = true := hw _ (List.mem_of_getElem? (i := 102) rfl)
theorem w_103 {Z : State} {a0 : Array Value} (hw : ∀ d ∈ tables_1, d.before a0 Z = true) : (Jvm.Cond.instanceMethod ({ cls := "com/example/astilla/astilla/PointLabels", name := "bytes", desc := "()[B" } : Jvm.MethodName)).before a0 Z = true := hw _ (List.mem_of_getElem? (i := 103) rfl)
theorem w_104 {Z : State} {a0 : Array Value} (hw : ∀ d ∈ tables_1, d.before a0 Z = true) : (Jvm.Cond.selects "com/example/astilla/astilla/PointLabels" ({ cls := "com/example/astilla/astilla/PointLabels", name := "bytes", desc := "()[B" } : Jvm.MethodName) ({ cls := "com/example/astilla/astilla/PointLabels", name := "bytes", desc := "()[B" } : Jvm.MethodName)).before a0 Z = true := hw _ (List.mem_of_getElem? (i := 104) rfl)
theorem w_105 {Z : State} {a0 : Array Value} (hw : ∀ d ∈ tables_1, d.before a0 Z = true) : (Jvm.Cond.code ({ cls := "com/example/astilla/astilla/PointLabels", name := "bytes", desc := "()[B" } : Jvm.MethodName) prog_15_method_4_code (1 : Nat) (Option.some (Jvm.ClassFile.FieldType.array Jvm.ClassFile.FieldType.byte))).before a0 Z = true := hw _ (List.mem_of_getElem? (i := 105) rfl)
theorem w_106 {Z : State} {a0 : Array Value} (hw : ∀ d ∈ tables_1, d.before a0 Z = true) : (Jvm.Cond.methodLink "com/example/astilla/astilla/PointLabelsWritePinLaw" (27 : Nat) ({ cls := "com/example/astilla/astilla/PointLabelsWritePinLaw", name := "digitOk", desc := "([BIIII)Z" } : Jvm.MethodName)).before a0 Z = true := hw _ (List.mem_of_getElem? (i := 106) rfl)
theorem w_107 {Z : State} {a0 : Array Value} (hw : ∀ d ∈ tables_1, d.before a0 Z = true) : (Jvm.Cond.static ({ cls := "com/example/astilla/astilla/PointLabelsWritePinLaw", name := "digitOk", desc := "([BIIII)Z" } : Jvm.MethodName)).before a0 Z = true := hw _ (List.mem_of_getElem? (i := 107) rfl)
theorem w_108 {Z : State} {a0 : Array Value} (hw : ∀ d ∈ tables_1, d.before a0 Z = true) : (Jvm.Cond.code ({ cls := "com/example/astilla/astilla/PointLabelsWritePinLaw", name := "digitOk", desc := "([BIIII)Z" } : Jvm.MethodName) method_4_code (5 : Nat) (Option.some Jvm.ClassFile.FieldType.boolean)).before a0 Z = true := hw _ (List.mem_of_getElem? (i := 108) rfl)
theorem w_109 {Z : State} {a0 : Array Value} (hw : ∀ d ∈ tables_1, d.before a0 Z = true) : (Jvm.Cond.methodLink "com/example/astilla/astilla/PointLabelsWritePinLaw" (12 : Nat) ({ cls := "com/example/astilla/astilla/PointLabelsWritePinLaw", name := "pow10", desc := "(I)I" } : Jvm.MethodName)).before a0 Z = true := hw _ (List.mem_of_getElem? (i := 109) rfl)
theorem w_110 {Z : State} {a0 : Array Value} (hw : ∀ d ∈ tables_1, d.before a0 Z = true) : (Jvm.Cond.static ({ cls := "com/example/astilla/astilla/PointLabelsWritePinLaw", name := "pow10", desc := "(I)I" } : Jvm.MethodName)).before a0 Z = true := hw _ (List.mem_of_getElem? (i := 110) rfl)
theorem w_111 {Z : State} {a0 : Array Value} (hw : ∀ d ∈ tables_1, d.before a0 Z = true) : (Jvm.Cond.code ({ cls := "com/example/astilla/astilla/PointLabelsWritePinLaw", name := "pow10", desc := "(I)I" } : Jvm.MethodName) method_2_code (1 : Nat) (Option.some Jvm.ClassFile.FieldType.int)).before a0 Z = true := hw _ (List.mem_of_getElem? (i := 111) rfl)
theorem w_112 {Z : State} {a0 : Array Value} (hw : ∀ d ∈ tables_1, d.before a0 Z = true) : (Jvm.Cond.constant "com/example/astilla/astilla/PointLabelsWritePinLaw" (7 : Nat) (100000 : Int32)).before a0 Z = true := hw _ (List.mem_of_getElem? (i := 112) rfl)
theorem w_113 {Z : State} {a0 : Array Value} (hw : ∀ d ∈ tables_1, d.before a0 Z = true) : (Jvm.Cond.constant "com/example/astilla/astilla/PointLabelsWritePinLaw" (8 : Nat) (1000000 : Int32)).before a0 Z = true := hw _ (List.mem_of_getElem? (i := 113) rfl)
theorem w_114 {Z : State} {a0 : Array Value} (hw : ∀ d ∈ tables_1, d.before a0 Z = true) : (Jvm.Cond.constant "com/example/astilla/astilla/PointLabelsWritePinLaw" (9 : Nat) (10000000 : Int32)).before a0 Z = true := hw _ (List.mem_of_getElem? (i := 114) rfl)
theorem w_115 {Z : State} {a0 : Array Value} (hw : ∀ d ∈ tables_1, d.before a0 Z = true) : (Jvm.Cond.constant "com/example/astilla/astilla/PointLabelsWritePinLaw" (10 : Nat) (100000000 : Int32)).before a0 Z = true := hw _ (List.mem_of_getElem? (i := 115) rfl)
theorem w_116 {Z : State} {a0 : Array Value} (hw : ∀ d ∈ tables_1, d.before a0 Z = true) : (Jvm.Cond.constant "com/example/astilla/astilla/PointLabelsWritePinLaw" (11 : Nat) (1000000000 : Int32)).before a0 Z = true := hw _ (List.mem_of_getElem? (i := 116) rfl)
theorem d5_0 : decode jdk_52_method_21_code 0 = .ok (.iconst 0, 1) := by decide +kernel
theorem d5_1 : decode jdk_52_method_21_code 1 = .ok (.istore 5, 2) := by decide +kernel
theorem d5_3 : decode jdk_52_method_21_code 3 = .ok (.iload 5, 2) := by decide +kernel
theorem d5_5 : decode jdk_52_method_21_code 5 = .ok (.iload 4, 2) := by decide +kernel
theorem d5_7 : decode jdk_52_method_21_code 7 = .ok (.if_icmp .ge 37, 3) := by decide +kernel
theorem d5_10 : decode jdk_52_method_21_code 10 = .ok (.aload_n 0, 1) := by decide +kernel
theorem d5_11 : decode jdk_52_method_21_code 11 = .ok (.iload_n 1, 1) := by decide +kernel
theorem d5_12 : decode jdk_52_method_21_code 12 = .ok (.caload, 1) := by decide +kernel
theorem d5_13 : decode jdk_52_method_21_code 13 = .ok (.istore 6, 2) := by decide +kernel
theorem d5_15 : decode jdk_52_method_21_code 15 = .ok (.iload 6, 2) := by decide +kernel
theorem d5_17 : decode jdk_52_method_21_code 17 = .ok (.sipush 255, 3) := by decide +kernel
theorem d5_20 : decode jdk_52_method_21_code 20 = .ok (.if_icmp .le 6, 3) := by decide +kernel
theorem d5_23 : decode jdk_52_method_21_code 23 = .ok (.iload 5, 2) := by decide +kernel
theorem d5_25 : decode jdk_52_method_21_code 25 = .ok (.ireturn, 1) := by decide +kernel
theorem d5_26 : decode jdk_52_method_21_code 26 = .ok (.aload_n 2, 1) := by decide +kernel
theorem d5_27 : decode jdk_52_method_21_code 27 = .ok (.iload_n 3, 1) := by decide +kernel
theorem d5_28 : decode jdk_52_method_21_code 28 = .ok (.iload 6, 2) := by decide +kernel
theorem d5_30 : decode jdk_52_method_21_code 30 = .ok (.i2b, 1) := by decide +kernel
theorem d5_31 : decode jdk_52_method_21_code 31 = .ok (.bastore, 1) := by decide +kernel
theorem d5_32 : decode jdk_52_method_21_code 32 = .ok (.iinc 1 1, 3) := by decide +kernel
theorem d5_35 : decode jdk_52_method_21_code 35 = .ok (.iinc 3 1, 3) := by decide +kernel
theorem d5_38 : decode jdk_52_method_21_code 38 = .ok (.iinc 5 1, 3) := by decide +kernel
theorem d5_41 : decode jdk_52_method_21_code 41 = .ok (.goto (-38), 3) := by decide +kernel
theorem d5_44 : decode jdk_52_method_21_code 44 = .ok (.iload 4, 2) := by decide +kernel
theorem d5_46 : decode jdk_52_method_21_code 46 = .ok (.ireturn, 1) := by decide +kernel
theorem d4_0 : decode jdk_52_method_16_code 0 = .ok (.iload_n 2, 1) := by decide +kernel
theorem d4_1 : decode jdk_52_method_16_code 1 = .ok (.newarray .byte, 2) := by decide +kernel
theorem d4_3 : decode jdk_52_method_16_code 3 = .ok (.astore_n 3, 1) := by decide +kernel
theorem d4_4 : decode jdk_52_method_16_code 4 = .ok (.aload_n 0, 1) := by decide +kernel
theorem d4_5 : decode jdk_52_method_16_code 5 = .ok (.iload_n 1, 1) := by decide +kernel
theorem d4_6 : decode jdk_52_method_16_code 6 = .ok (.aload_n 3, 1) := by decide +kernel
theorem d4_7 : decode jdk_52_method_16_code 7 = .ok (.iconst 0, 1) := by decide +kernel
theorem d4_8 : decode jdk_52_method_16_code 8 = .ok (.iload_n 2, 1) := by decide +kernel
theorem d4_9 : decode jdk_52_method_16_code 9 = .ok (.invokestatic 115, 3) := by decide +kernel
theorem d4_12 : decode jdk_52_method_16_code 12 = .ok (.istore 4, 2) := by decide +kernel
theorem d4_14 : decode jdk_52_method_16_code 14 = .ok (.iload 4, 2) := by decide +kernel
theorem d4_16 : decode jdk_52_method_16_code 16 = .ok (.iload_n 2, 1) := by decide +kernel
theorem d4_17 : decode jdk_52_method_16_code 17 = .ok (.if_icmp .eq 40, 3) := by decide +kernel
theorem d4_20 : decode jdk_52_method_16_code 20 = .ok (.aload_n 0, 1) := by decide +kernel
theorem d4_21 : decode jdk_52_method_16_code 21 = .ok (.iload_n 1, 1) := by decide +kernel
theorem d4_22 : decode jdk_52_method_16_code 22 = .ok (.iload_n 2, 1) := by decide +kernel
theorem d4_23 : decode jdk_52_method_16_code 23 = .ok (.invokestatic 119, 3) := by decide +kernel
theorem d4_26 : decode jdk_52_method_16_code 26 = .ok (.astore 5, 2) := by decide +kernel
theorem d4_28 : decode jdk_52_method_16_code 28 = .ok (.aload 5, 2) := by decide +kernel
theorem d4_30 : decode jdk_52_method_16_code 30 = .ok (.iload 4, 2) := by decide +kernel
theorem d4_32 : decode jdk_52_method_16_code 32 = .ok (.invokestatic 71, 3) := by decide +kernel
theorem d4_35 : decode jdk_52_method_16_code 35 = .ok (.sipush 255, 3) := by decide +kernel
theorem d4_38 : decode jdk_52_method_16_code 38 = .ok (.if_icmp .gt 16, 3) := by decide +kernel
theorem d4_41 : decode jdk_52_method_16_code 41 = .ok (.aload 5, 2) := by decide +kernel
theorem d4_43 : decode jdk_52_method_16_code 43 = .ok (.iconst 0, 1) := by decide +kernel
theorem d4_44 : decode jdk_52_method_16_code 44 = .ok (.aload_n 3, 1) := by decide +kernel
theorem d4_45 : decode jdk_52_method_16_code 45 = .ok (.iconst 0, 1) := by decide +kernel
theorem d4_46 : decode jdk_52_method_16_code 46 = .ok (.iload_n 2, 1) := by decide +kernel
theorem d4_47 : decode jdk_52_method_16_code 47 = .ok (.invokestatic 123, 3) := by decide +kernel
theorem d4_50 : decode jdk_52_method_16_code 50 = .ok (.iload_n 2, 1) := by decide +kernel
theorem d4_51 : decode jdk_52_method_16_code 51 = .ok (.if_icmp .eq 6, 3) := by decide +kernel
theorem d4_54 : decode jdk_52_method_16_code 54 = .ok (.aload 5, 2) := by decide +kernel
theorem d4_56 : decode jdk_52_method_16_code 56 = .ok (.areturn, 1) := by decide +kernel
theorem d4_57 : decode jdk_52_method_16_code 57 = .ok (.aload_n 3, 1) := by decide +kernel
theorem d4_58 : decode jdk_52_method_16_code 58 = .ok (.areturn, 1) := by decide +kernel
theorem d6_0 : decode jdk_52_method_15_code 0 = .ok (.iload_n 1, 1) := by decide +kernel
theorem d6_1 : decode jdk_52_method_15_code 1 = .ok (.aload_n 0, 1) := by decide +kernel
theorem d6_2 : decode jdk_52_method_15_code 2 = .ok (.arraylength, 1) := by decide +kernel
theorem d6_3 : decode jdk_52_method_15_code 3 = .ok (.isub, 1) := by decide +kernel
theorem d6_4 : decode jdk_52_method_15_code 4 = .ok (.bipush 31, 2) := by decide +kernel
theorem d6_6 : decode jdk_52_method_15_code 6 = .ok (.iushr, 1) := by decide +kernel
theorem d6_7 : decode jdk_52_method_15_code 7 = .ok (.i2b, 1) := by decide +kernel
theorem d6_8 : decode jdk_52_method_15_code 8 = .ok (.ireturn, 1) := by decide +kernel
theorem d2_0 : decode jdk_42_method_149_code 0 = .ok (.aload_n 0, 1) := by decide +kernel
theorem d2_1 : decode jdk_42_method_149_code 1 = .ok (.invokespecial 1, 3) := by decide +kernel
theorem d2_4 : decode jdk_42_method_149_code 4 = .ok (.iload_n 3, 1) := by decide +kernel
theorem d2_5 : decode jdk_42_method_149_code 5 = .ok (.ifCond .ne 22, 3) := by decide +kernel
theorem d2_8 : decode jdk_42_method_149_code 8 = .ok (.aload_n 0, 1) := by decide +kernel
theorem d2_9 : decode jdk_42_method_149_code 9 = .ok (.ldc 7, 2) := by decide +kernel
theorem d2_11 : decode jdk_42_method_149_code 11 = .ok (.getfield 9, 3) := by decide +kernel
theorem d2_14 : decode jdk_42_method_149_code 14 = .ok (.putfield 9, 3) := by decide +kernel
theorem d2_17 : decode jdk_42_method_149_code 17 = .ok (.aload_n 0, 1) := by decide +kernel
theorem d2_18 : decode jdk_42_method_149_code 18 = .ok (.ldc 7, 2) := by decide +kernel
theorem d2_20 : decode jdk_42_method_149_code 20 = .ok (.getfield 15, 3) := by decide +kernel
theorem d2_23 : decode jdk_42_method_149_code 23 = .ok (.putfield 15, 3) := by decide +kernel
theorem d2_26 : decode jdk_42_method_149_code 26 = .ok (.return_, 1) := by decide +kernel
theorem d2_27 : decode jdk_42_method_149_code 27 = .ok (.getstatic 38, 3) := by decide +kernel
theorem d2_30 : decode jdk_42_method_149_code 30 = .ok (.ifCond .eq 28, 3) := by decide +kernel
theorem d2_33 : decode jdk_42_method_149_code 33 = .ok (.aload_n 1, 1) := by decide +kernel
theorem d2_34 : decode jdk_42_method_149_code 34 = .ok (.iload_n 2, 1) := by decide +kernel
theorem d2_35 : decode jdk_42_method_149_code 35 = .ok (.iload_n 3, 1) := by decide +kernel
theorem d2_36 : decode jdk_42_method_149_code 36 = .ok (.invokestatic 177, 3) := by decide +kernel
theorem d2_39 : decode jdk_42_method_149_code 39 = .ok (.astore 5, 2) := by decide +kernel
theorem d2_41 : decode jdk_42_method_149_code 41 = .ok (.aload_n 0, 1) := by decide +kernel
theorem d2_42 : decode jdk_42_method_149_code 42 = .ok (.aload 5, 2) := by decide +kernel
theorem d2_44 : decode jdk_42_method_149_code 44 = .ok (.iload_n 3, 1) := by decide +kernel
theorem d2_45 : decode jdk_42_method_149_code 45 = .ok (.invokestatic 47, 3) := by decide +kernel
theorem d2_48 : decode jdk_42_method_149_code 48 = .ok (.putfield 15, 3) := by decide +kernel
theorem d2_51 : decode jdk_42_method_149_code 51 = .ok (.aload_n 0, 1) := by decide +kernel
theorem d2_52 : decode jdk_42_method_149_code 52 = .ok (.aload 5, 2) := by decide +kernel
theorem d2_54 : decode jdk_42_method_149_code 54 = .ok (.putfield 9, 3) := by decide +kernel
theorem d2_57 : decode jdk_42_method_149_code 57 = .ok (.return_, 1) := by decide +kernel
theorem d2_58 : decode jdk_42_method_149_code 58 = .ok (.aload_n 0, 1) := by decide +kernel
theorem d2_59 : decode jdk_42_method_149_code 59 = .ok (.iconst 1, 1) := by decide +kernel
theorem d2_60 : decode jdk_42_method_149_code 60 = .ok (.putfield 15, 3) := by decide +kernel
theorem d2_63 : decode jdk_42_method_149_code 63 = .ok (.aload_n 0, 1) := by decide +kernel
theorem d2_64 : decode jdk_42_method_149_code 64 = .ok (.aload_n 1, 1) := by decide +kernel
theorem d2_65 : decode jdk_42_method_149_code 65 = .ok (.iload_n 2, 1) := by decide +kernel
theorem d2_66 : decode jdk_42_method_149_code 66 = .ok (.iload_n 3, 1) := by decide +kernel
theorem d2_67 : decode jdk_42_method_149_code 67 = .ok (.invokestatic 180, 3) := by decide +kernel
theorem d2_70 : decode jdk_42_method_149_code 70 = .ok (.putfield 9, 3) := by decide +kernel
theorem d2_73 : decode jdk_42_method_149_code 73 = .ok (.return_, 1) := by decide +kernel
theorem d1_0 : decode jdk_42_method_3_code 0 = .ok (.aload_n 0, 1) := by decide +kernel
theorem d1_1 : decode jdk_42_method_3_code 1 = .ok (.aload_n 1, 1) := by decide +kernel
theorem d1_2 : decode jdk_42_method_3_code 2 = .ok (.iconst 0, 1) := by decide +kernel
theorem d1_3 : decode jdk_42_method_3_code 3 = .ok (.aload_n 1, 1) := by decide +kernel
theorem d1_4 : decode jdk_42_method_3_code 4 = .ok (.arraylength, 1) := by decide +kernel
theorem d1_5 : decode jdk_42_method_3_code 5 = .ok (.aconst_null, 1) := by decide +kernel
theorem d1_6 : decode jdk_42_method_3_code 6 = .ok (.invokespecial 27, 3) := by decide +kernel
theorem d1_9 : decode jdk_42_method_3_code 9 = .ok (.return_, 1) := by decide +kernel
theorem d10_0 : decode jdk_42_method_152_code 0 = .ok (.getstatic 38, 3) := by decide +kernel
theorem d10_3 : decode jdk_42_method_152_code 3 = .ok (.ifCond .eq 10, 3) := by decide +kernel
theorem d10_6 : decode jdk_42_method_152_code 6 = .ok (.aload_n 0, 1) := by decide +kernel
theorem d10_7 : decode jdk_42_method_152_code 7 = .ok (.getfield 15, 3) := by decide +kernel
theorem d10_10 : decode jdk_42_method_152_code 10 = .ok (.goto 4, 3) := by decide +kernel
theorem d10_13 : decode jdk_42_method_152_code 13 = .ok (.iconst 1, 1) := by decide +kernel
theorem d10_14 : decode jdk_42_method_152_code 14 = .ok (.ireturn, 1) := by decide +kernel
theorem d14_0 : decode jdk_123_method_3_code 0 = .ok (.iload_n 1, 1) := by decide +kernel
theorem d14_1 : decode jdk_123_method_3_code 1 = .ok (.iload_n 2, 1) := by decide +kernel
theorem d14_2 : decode jdk_123_method_3_code 2 = .ok (.iadd, 1) := by decide +kernel
theorem d14_3 : decode jdk_123_method_3_code 3 = .ok (.istore_n 3, 1) := by decide +kernel
theorem d14_4 : decode jdk_123_method_3_code 4 = .ok (.iload_n 1, 1) := by decide +kernel
theorem d14_5 : decode jdk_123_method_3_code 5 = .ok (.istore 4, 2) := by decide +kernel
theorem d14_7 : decode jdk_123_method_3_code 7 = .ok (.iload 4, 2) := by decide +kernel
theorem d14_9 : decode jdk_123_method_3_code 9 = .ok (.iload_n 3, 1) := by decide +kernel
theorem d14_10 : decode jdk_123_method_3_code 10 = .ok (.if_icmp .ge 21, 3) := by decide +kernel
theorem d14_13 : decode jdk_123_method_3_code 13 = .ok (.aload_n 0, 1) := by decide +kernel
theorem d14_14 : decode jdk_123_method_3_code 14 = .ok (.iload 4, 2) := by decide +kernel
theorem d14_16 : decode jdk_123_method_3_code 16 = .ok (.baload, 1) := by decide +kernel
theorem d14_17 : decode jdk_123_method_3_code 17 = .ok (.ifCond .ge 8, 3) := by decide +kernel
theorem d14_20 : decode jdk_123_method_3_code 20 = .ok (.iload 4, 2) := by decide +kernel
theorem d14_22 : decode jdk_123_method_3_code 22 = .ok (.iload_n 1, 1) := by decide +kernel
theorem d14_23 : decode jdk_123_method_3_code 23 = .ok (.isub, 1) := by decide +kernel
theorem d14_24 : decode jdk_123_method_3_code 24 = .ok (.ireturn, 1) := by decide +kernel
theorem d14_25 : decode jdk_123_method_3_code 25 = .ok (.iinc 4 1, 3) := by decide +kernel
theorem d14_28 : decode jdk_123_method_3_code 28 = .ok (.goto (-21), 3) := by decide +kernel
theorem d14_31 : decode jdk_123_method_3_code 31 = .ok (.iload_n 2, 1) := by decide +kernel
theorem d14_32 : decode jdk_123_method_3_code 32 = .ok (.ireturn, 1) := by decide +kernel
theorem d13_0 : decode jdk_123_method_2_code 0 = .ok (.aload_n 0, 1) := by decide +kernel
theorem d13_1 : decode jdk_123_method_2_code 1 = .ok (.iload_n 1, 1) := by decide +kernel
theorem d13_2 : decode jdk_123_method_2_code 2 = .ok (.iload_n 2, 1) := by decide +kernel
theorem d13_3 : decode jdk_123_method_2_code 3 = .ok (.invokestatic 7, 3) := by decide +kernel
theorem d13_6 : decode jdk_123_method_2_code 6 = .ok (.iload_n 2, 1) := by decide +kernel
theorem d13_7 : decode jdk_123_method_2_code 7 = .ok (.if_icmp .eq 7, 3) := by decide +kernel
theorem d13_10 : decode jdk_123_method_2_code 10 = .ok (.iconst 1, 1) := by decide +kernel
theorem d13_11 : decode jdk_123_method_2_code 11 = .ok (.goto 4, 3) := by decide +kernel
theorem d13_14 : decode jdk_123_method_2_code 14 = .ok (.iconst 0, 1) := by decide +kernel
theorem d13_15 : decode jdk_123_method_2_code 15 = .ok (.ireturn, 1) := by decide +kernel
theorem d12_0 : decode jdk_42_method_46_code 0 = .ok (.iload_n 0, 1) := by decide +kernel
theorem d12_1 : decode jdk_42_method_46_code 1 = .ok (.iconst 1, 1) := by decide +kernel
theorem d12_2 : decode jdk_42_method_46_code 2 = .ok (.if_icmp .ne 9, 3) := by decide +kernel
theorem d12_5 : decode jdk_42_method_46_code 5 = .ok (.aload_n 1, 1) := by decide +kernel
theorem d12_6 : decode jdk_42_method_46_code 6 = .ok (.iload_n 2, 1) := by decide +kernel
theorem d12_7 : decode jdk_42_method_46_code 7 = .ok (.invokestatic 473, 3) := by decide +kernel
theorem d12_10 : decode jdk_42_method_46_code 10 = .ok (.areturn, 1) := by decide +kernel
theorem d12_11 : decode jdk_42_method_46_code 11 = .ok (.aload_n 1, 1) := by decide +kernel
theorem d12_12 : decode jdk_42_method_46_code 12 = .ok (.iconst 0, 1) := by decide +kernel
theorem d12_13 : decode jdk_42_method_46_code 13 = .ok (.aload_n 1, 1) := by decide +kernel
theorem d12_14 : decode jdk_42_method_46_code 14 = .ok (.arraylength, 1) := by decide +kernel
theorem d12_15 : decode jdk_42_method_46_code 15 = .ok (.invokestatic 128, 3) := by decide +kernel
theorem d12_18 : decode jdk_42_method_46_code 18 = .ok (.ifCond .ne 11, 3) := by decide +kernel
theorem d12_21 : decode jdk_42_method_46_code 21 = .ok (.aload_n 1, 1) := by decide +kernel
theorem d12_22 : decode jdk_42_method_46_code 22 = .ok (.invokevirtual 279, 3) := by decide +kernel
theorem d12_25 : decode jdk_42_method_46_code 25 = .ok (.checkcast 280, 3) := by decide +kernel
theorem d12_28 : decode jdk_42_method_46_code 28 = .ok (.areturn, 1) := by decide +kernel
theorem d12_29 : decode jdk_42_method_46_code 29 = .ok (.iconst 0, 1) := by decide +kernel
theorem d12_30 : decode jdk_42_method_46_code 30 = .ok (.istore_n 3, 1) := by decide +kernel
theorem d12_31 : decode jdk_42_method_46_code 31 = .ok (.aload_n 1, 1) := by decide +kernel
theorem d12_32 : decode jdk_42_method_46_code 32 = .ok (.arraylength, 1) := by decide +kernel
theorem d12_33 : decode jdk_42_method_46_code 33 = .ok (.invokestatic 60, 3) := by decide +kernel
theorem d12_36 : decode jdk_42_method_46_code 36 = .ok (.astore 4, 2) := by decide +kernel
theorem d12_38 : decode jdk_42_method_46_code 38 = .ok (.aload_n 1, 1) := by decide +kernel
theorem d12_39 : decode jdk_42_method_46_code 39 = .ok (.astore 5, 2) := by decide +kernel
theorem d12_41 : decode jdk_42_method_46_code 41 = .ok (.aload 5, 2) := by decide +kernel
theorem d12_43 : decode jdk_42_method_46_code 43 = .ok (.arraylength, 1) := by decide +kernel
theorem d12_44 : decode jdk_42_method_46_code 44 = .ok (.istore 6, 2) := by decide +kernel
theorem d12_46 : decode jdk_42_method_46_code 46 = .ok (.iconst 0, 1) := by decide +kernel
theorem d12_47 : decode jdk_42_method_46_code 47 = .ok (.istore 7, 2) := by decide +kernel
theorem d12_49 : decode jdk_42_method_46_code 49 = .ok (.iload 7, 2) := by decide +kernel
theorem d12_51 : decode jdk_42_method_46_code 51 = .ok (.iload 6, 2) := by decide +kernel
theorem d12_53 : decode jdk_42_method_46_code 53 = .ok (.if_icmp .ge 71, 3) := by decide +kernel
theorem d12_56 : decode jdk_42_method_46_code 56 = .ok (.aload 5, 2) := by decide +kernel
theorem d12_58 : decode jdk_42_method_46_code 58 = .ok (.iload 7, 2) := by decide +kernel
theorem d12_60 : decode jdk_42_method_46_code 60 = .ok (.baload, 1) := by decide +kernel
theorem d12_61 : decode jdk_42_method_46_code 61 = .ok (.istore 8, 2) := by decide +kernel
theorem d12_63 : decode jdk_42_method_46_code 63 = .ok (.iload 8, 2) := by decide +kernel
theorem d12_65 : decode jdk_42_method_46_code 65 = .ok (.ifCond .ge 44, 3) := by decide +kernel
theorem d12_68 : decode jdk_42_method_46_code 68 = .ok (.aload 4, 2) := by decide +kernel
theorem d12_70 : decode jdk_42_method_46_code 70 = .ok (.iload_n 3, 1) := by decide +kernel
theorem d12_71 : decode jdk_42_method_46_code 71 = .ok (.iinc 3 1, 3) := by decide +kernel
theorem d12_74 : decode jdk_42_method_46_code 74 = .ok (.sipush 192, 3) := by decide +kernel
theorem d12_77 : decode jdk_42_method_46_code 77 = .ok (.iload 8, 2) := by decide +kernel
theorem d12_79 : decode jdk_42_method_46_code 79 = .ok (.sipush 255, 3) := by decide +kernel
theorem d12_82 : decode jdk_42_method_46_code 82 = .ok (.iand, 1) := by decide +kernel
theorem d12_83 : decode jdk_42_method_46_code 83 = .ok (.bipush 6, 2) := by decide +kernel
theorem d12_85 : decode jdk_42_method_46_code 85 = .ok (.ishr, 1) := by decide +kernel
theorem d12_86 : decode jdk_42_method_46_code 86 = .ok (.ior, 1) := by decide +kernel
theorem d12_87 : decode jdk_42_method_46_code 87 = .ok (.i2b, 1) := by decide +kernel
theorem d12_88 : decode jdk_42_method_46_code 88 = .ok (.bastore, 1) := by decide +kernel
theorem d12_89 : decode jdk_42_method_46_code 89 = .ok (.aload 4, 2) := by decide +kernel
theorem d12_91 : decode jdk_42_method_46_code 91 = .ok (.iload_n 3, 1) := by decide +kernel
theorem d12_92 : decode jdk_42_method_46_code 92 = .ok (.iinc 3 1, 3) := by decide +kernel
theorem d12_95 : decode jdk_42_method_46_code 95 = .ok (.sipush 128, 3) := by decide +kernel
theorem d12_98 : decode jdk_42_method_46_code 98 = .ok (.iload 8, 2) := by decide +kernel
theorem d12_100 : decode jdk_42_method_46_code 100 = .ok (.bipush 63, 2) := by decide +kernel
theorem d12_102 : decode jdk_42_method_46_code 102 = .ok (.iand, 1) := by decide +kernel
theorem d12_103 : decode jdk_42_method_46_code 103 = .ok (.ior, 1) := by decide +kernel
theorem d12_104 : decode jdk_42_method_46_code 104 = .ok (.i2b, 1) := by decide +kernel
theorem d12_105 : decode jdk_42_method_46_code 105 = .ok (.bastore, 1) := by decide +kernel
theorem d12_106 : decode jdk_42_method_46_code 106 = .ok (.goto 12, 3) := by decide +kernel
theorem d12_109 : decode jdk_42_method_46_code 109 = .ok (.aload 4, 2) := by decide +kernel
theorem d12_111 : decode jdk_42_method_46_code 111 = .ok (.iload_n 3, 1) := by decide +kernel
theorem d12_112 : decode jdk_42_method_46_code 112 = .ok (.iinc 3 1, 3) := by decide +kernel
theorem d12_115 : decode jdk_42_method_46_code 115 = .ok (.iload 8, 2) := by decide +kernel
theorem d12_117 : decode jdk_42_method_46_code 117 = .ok (.bastore, 1) := by decide +kernel
theorem d12_118 : decode jdk_42_method_46_code 118 = .ok (.iinc 7 1, 3) := by decide +kernel
theorem d12_121 : decode jdk_42_method_46_code 121 = .ok (.goto (-72), 3) := by decide +kernel
theorem d12_124 : decode jdk_42_method_46_code 124 = .ok (.iload_n 3, 1) := by decide +kernel
theorem d12_125 : decode jdk_42_method_46_code 125 = .ok (.aload 4, 2) := by decide +kernel
theorem d12_127 : decode jdk_42_method_46_code 127 = .ok (.arraylength, 1) := by decide +kernel
theorem d12_128 : decode jdk_42_method_46_code 128 = .ok (.if_icmp .ne 6, 3) := by decide +kernel
theorem d12_131 : decode jdk_42_method_46_code 131 = .ok (.aload 4, 2) := by decide +kernel
theorem d12_133 : decode jdk_42_method_46_code 133 = .ok (.areturn, 1) := by decide +kernel
theorem d12_134 : decode jdk_42_method_46_code 134 = .ok (.aload 4, 2) := by decide +kernel
theorem d12_136 : decode jdk_42_method_46_code 136 = .ok (.iload_n 3, 1) := by decide +kernel
theorem d12_137 : decode jdk_42_method_46_code 137 = .ok (.invokestatic 102, 3) := by decide +kernel
theorem d12_140 : decode jdk_42_method_46_code 140 = .ok (.areturn, 1) := by decide +kernel
theorem d11_0 : decode jdk_42_method_18_code 0 = .ok (.aload_n 0, 1) := by decide +kernel
theorem d11_1 : decode jdk_42_method_18_code 1 = .ok (.getstatic 86, 3) := by decide +kernel
theorem d11_4 : decode jdk_42_method_18_code 4 = .ok (.if_acmp .ne 10, 3) := by decide +kernel
theorem d11_7 : decode jdk_42_method_18_code 7 = .ok (.iload_n 1, 1) := by decide +kernel
theorem d11_8 : decode jdk_42_method_18_code 8 = .ok (.aload_n 2, 1) := by decide +kernel
theorem d11_9 : decode jdk_42_method_18_code 9 = .ok (.iconst 1, 1) := by decide +kernel
theorem d11_10 : decode jdk_42_method_18_code 10 = .ok (.invokestatic 252, 3) := by decide +kernel
theorem d11_13 : decode jdk_42_method_18_code 13 = .ok (.areturn, 1) := by decide +kernel
theorem d11_14 : decode jdk_42_method_18_code 14 = .ok (.aload_n 0, 1) := by decide +kernel
theorem d11_15 : decode jdk_42_method_18_code 15 = .ok (.getstatic 116, 3) := by decide +kernel
theorem d11_18 : decode jdk_42_method_18_code 18 = .ok (.if_acmp .ne 9, 3) := by decide +kernel
theorem d11_21 : decode jdk_42_method_18_code 21 = .ok (.iload_n 1, 1) := by decide +kernel
theorem d11_22 : decode jdk_42_method_18_code 22 = .ok (.aload_n 2, 1) := by decide +kernel
theorem d11_23 : decode jdk_42_method_18_code 23 = .ok (.invokestatic 256, 3) := by decide +kernel
theorem d11_26 : decode jdk_42_method_18_code 26 = .ok (.areturn, 1) := by decide +kernel
theorem d11_27 : decode jdk_42_method_18_code 27 = .ok (.aload_n 0, 1) := by decide +kernel
theorem d11_28 : decode jdk_42_method_18_code 28 = .ok (.getstatic 123, 3) := by decide +kernel
theorem d11_31 : decode jdk_42_method_18_code 31 = .ok (.if_acmp .ne 9, 3) := by decide +kernel
theorem d11_34 : decode jdk_42_method_18_code 34 = .ok (.iload_n 1, 1) := by decide +kernel
theorem d11_35 : decode jdk_42_method_18_code 35 = .ok (.aload_n 2, 1) := by decide +kernel
theorem d11_36 : decode jdk_42_method_18_code 36 = .ok (.invokestatic 260, 3) := by decide +kernel
theorem d11_39 : decode jdk_42_method_18_code 39 = .ok (.areturn, 1) := by decide +kernel
theorem d11_40 : decode jdk_42_method_18_code 40 = .ok (.aload_n 0, 1) := by decide +kernel
theorem d11_41 : decode jdk_42_method_18_code 41 = .ok (.iload_n 1, 1) := by decide +kernel
theorem d11_42 : decode jdk_42_method_18_code 42 = .ok (.aload_n 2, 1) := by decide +kernel
theorem d11_43 : decode jdk_42_method_18_code 43 = .ok (.iconst 1, 1) := by decide +kernel
theorem d11_44 : decode jdk_42_method_18_code 44 = .ok (.invokestatic 263, 3) := by decide +kernel
theorem d11_47 : decode jdk_42_method_18_code 47 = .ok (.areturn, 1) := by decide +kernel
theorem d9_0 : decode jdk_42_method_64_code 0 = .ok (.aload_n 1, 1) := by decide +kernel
theorem d9_1 : decode jdk_42_method_64_code 1 = .ok (.ifnonnull 11, 3) := by decide +kernel
theorem d9_4 : decode jdk_42_method_64_code 4 = .ok (.new 538, 3) := by decide +kernel
theorem d9_7 : decode jdk_42_method_64_code 7 = .ok (.dup, 1) := by decide +kernel
theorem d9_8 : decode jdk_42_method_64_code 8 = .ok (.invokespecial 540, 3) := by decide +kernel
theorem d9_11 : decode jdk_42_method_64_code 11 = .ok (.athrow, 1) := by decide +kernel
theorem d9_12 : decode jdk_42_method_64_code 12 = .ok (.aload_n 1, 1) := by decide +kernel
theorem d9_13 : decode jdk_42_method_64_code 13 = .ok (.aload_n 0, 1) := by decide +kernel
theorem d9_14 : decode jdk_42_method_64_code 14 = .ok (.invokevirtual 335, 3) := by decide +kernel
theorem d9_17 : decode jdk_42_method_64_code 17 = .ok (.aload_n 0, 1) := by decide +kernel
theorem d9_18 : decode jdk_42_method_64_code 18 = .ok (.getfield 9, 3) := by decide +kernel
theorem d9_21 : decode jdk_42_method_64_code 21 = .ok (.invokestatic 535, 3) := by decide +kernel
theorem d9_24 : decode jdk_42_method_64_code 24 = .ok (.areturn, 1) := by decide +kernel
theorem d7_0 : decode prog_15_method_1_code 0 = .ok (.aload_n 0, 1) := by decide +kernel
theorem d7_1 : decode prog_15_method_1_code 1 = .ok (.invokespecial 1, 3) := by decide +kernel
theorem d7_4 : decode prog_15_method_1_code 4 = .ok (.aload_n 0, 1) := by decide +kernel
theorem d7_5 : decode prog_15_method_1_code 5 = .ok (.sipush 266, 3) := by decide +kernel
theorem d7_8 : decode prog_15_method_1_code 8 = .ok (.newarray .byte, 2) := by decide +kernel
theorem d7_10 : decode prog_15_method_1_code 10 = .ok (.putfield 11, 3) := by decide +kernel
theorem d7_13 : decode prog_15_method_1_code 13 = .ok (.aload_n 0, 1) := by decide +kernel
theorem d7_14 : decode prog_15_method_1_code 14 = .ok (.iload_n 1, 1) := by decide +kernel
theorem d7_15 : decode prog_15_method_1_code 15 = .ok (.i2b, 1) := by decide +kernel
theorem d7_16 : decode prog_15_method_1_code 16 = .ok (.putfield 15, 3) := by decide +kernel
theorem d7_19 : decode prog_15_method_1_code 19 = .ok (.return_, 1) := by decide +kernel
theorem d8_0 : decode prog_15_method_2_code 0 = .ok (.aload_n 1, 1) := by decide +kernel
theorem d8_1 : decode prog_15_method_2_code 1 = .ok (.getstatic 19, 3) := by decide +kernel
theorem d8_4 : decode prog_15_method_2_code 4 = .ok (.invokevirtual 25, 3) := by decide +kernel
theorem d8_7 : decode prog_15_method_2_code 7 = .ok (.astore_n 2, 1) := by decide +kernel
theorem d8_8 : decode prog_15_method_2_code 8 = .ok (.aload_n 2, 1) := by decide +kernel
theorem d8_9 : decode prog_15_method_2_code 9 = .ok (.iconst 0, 1) := by decide +kernel
theorem d8_10 : decode prog_15_method_2_code 10 = .ok (.aload_n 0, 1) := by decide +kernel
theorem d8_11 : decode prog_15_method_2_code 11 = .ok (.getfield 11, 3) := by decide +kernel
theorem d8_14 : decode prog_15_method_2_code 14 = .ok (.iconst 0, 1) := by decide +kernel
theorem d8_15 : decode prog_15_method_2_code 15 = .ok (.aload_n 2, 1) := by decide +kernel
theorem d8_16 : decode prog_15_method_2_code 16 = .ok (.arraylength, 1) := by decide +kernel
theorem d8_17 : decode prog_15_method_2_code 17 = .ok (.invokestatic 31, 3) := by decide +kernel
theorem d8_20 : decode prog_15_method_2_code 20 = .ok (.aload_n 0, 1) := by decide +kernel
theorem d8_21 : decode prog_15_method_2_code 21 = .ok (.getfield 11, 3) := by decide +kernel
theorem d8_24 : decode prog_15_method_2_code 24 = .ok (.aload_n 2, 1) := by decide +kernel
theorem d8_25 : decode prog_15_method_2_code 25 = .ok (.arraylength, 1) := by decide +kernel
theorem d8_26 : decode prog_15_method_2_code 26 = .ok (.aload_n 0, 1) := by decide +kernel
theorem d8_27 : decode prog_15_method_2_code 27 = .ok (.getfield 15, 3) := by decide +kernel
theorem d8_30 : decode prog_15_method_2_code 30 = .ok (.bastore, 1) := by decide +kernel
theorem d8_31 : decode prog_15_method_2_code 31 = .ok (.aload_n 0, 1) := by decide +kernel
theorem d8_32 : decode prog_15_method_2_code 32 = .ok (.aload_n 2, 1) := by decide +kernel
theorem d8_33 : decode prog_15_method_2_code 33 = .ok (.arraylength, 1) := by decide +kernel
theorem d8_34 : decode prog_15_method_2_code 34 = .ok (.iconst 1, 1) := by decide +kernel
theorem d8_35 : decode prog_15_method_2_code 35 = .ok (.iadd, 1) := by decide +kernel
theorem d8_36 : decode prog_15_method_2_code 36 = .ok (.putfield 37, 3) := by decide +kernel
theorem d8_39 : decode prog_15_method_2_code 39 = .ok (.return_, 1) := by decide +kernel
theorem d18_0 : decode prog_15_method_4_code 0 = .ok (.aload_n 0, 1) := by decide +kernel
theorem d18_1 : decode prog_15_method_4_code 1 = .ok (.getfield 11, 3) := by decide +kernel
theorem d18_4 : decode prog_15_method_4_code 4 = .ok (.areturn, 1) := by decide +kernel
theorem d20_0 : decode method_2_code 0 = .ok (.iload_n 0, 1) := by decide +kernel
theorem d20_1 : decode method_2_code 1 = .ok (.ifCond .ne 5, 3) := by decide +kernel
theorem d20_4 : decode method_2_code 4 = .ok (.iconst 1, 1) := by decide +kernel
theorem d20_5 : decode method_2_code 5 = .ok (.ireturn, 1) := by decide +kernel
theorem d20_6 : decode method_2_code 6 = .ok (.iload_n 0, 1) := by decide +kernel
theorem d20_7 : decode method_2_code 7 = .ok (.iconst 1, 1) := by decide +kernel
theorem d20_8 : decode method_2_code 8 = .ok (.if_icmp .ne 6, 3) := by decide +kernel
theorem d20_11 : decode method_2_code 11 = .ok (.bipush 10, 2) := by decide +kernel
theorem d20_13 : decode method_2_code 13 = .ok (.ireturn, 1) := by decide +kernel
theorem d20_14 : decode method_2_code 14 = .ok (.iload_n 0, 1) := by decide +kernel
theorem d20_15 : decode method_2_code 15 = .ok (.iconst 2, 1) := by decide +kernel
theorem d20_16 : decode method_2_code 16 = .ok (.if_icmp .ne 6, 3) := by decide +kernel
theorem d20_19 : decode method_2_code 19 = .ok (.bipush 100, 2) := by decide +kernel
theorem d20_21 : decode method_2_code 21 = .ok (.ireturn, 1) := by decide +kernel
theorem d20_22 : decode method_2_code 22 = .ok (.iload_n 0, 1) := by decide +kernel
theorem d20_23 : decode method_2_code 23 = .ok (.iconst 3, 1) := by decide +kernel
theorem d20_24 : decode method_2_code 24 = .ok (.if_icmp .ne 7, 3) := by decide +kernel
theorem d20_27 : decode method_2_code 27 = .ok (.sipush 1000, 3) := by decide +kernel
theorem d20_30 : decode method_2_code 30 = .ok (.ireturn, 1) := by decide +kernel
theorem d20_31 : decode method_2_code 31 = .ok (.iload_n 0, 1) := by decide +kernel
theorem d20_32 : decode method_2_code 32 = .ok (.iconst 4, 1) := by decide +kernel
theorem d20_33 : decode method_2_code 33 = .ok (.if_icmp .ne 7, 3) := by decide +kernel
theorem d20_36 : decode method_2_code 36 = .ok (.sipush 10000, 3) := by decide +kernel
theorem d20_39 : decode method_2_code 39 = .ok (.ireturn, 1) := by decide +kernel
theorem d20_40 : decode method_2_code 40 = .ok (.iload_n 0, 1) := by decide +kernel
theorem d20_41 : decode method_2_code 41 = .ok (.iconst 5, 1) := by decide +kernel
theorem d20_42 : decode method_2_code 42 = .ok (.if_icmp .ne 6, 3) := by decide +kernel
theorem d20_45 : decode method_2_code 45 = .ok (.ldc 7, 2) := by decide +kernel
theorem d20_47 : decode method_2_code 47 = .ok (.ireturn, 1) := by decide +kernel
theorem d20_48 : decode method_2_code 48 = .ok (.iload_n 0, 1) := by decide +kernel
theorem d20_49 : decode method_2_code 49 = .ok (.bipush 6, 2) := by decide +kernel
theorem d20_51 : decode method_2_code 51 = .ok (.if_icmp .ne 6, 3) := by decide +kernel
theorem d20_54 : decode method_2_code 54 = .ok (.ldc 8, 2) := by decide +kernel
theorem d20_56 : decode method_2_code 56 = .ok (.ireturn, 1) := by decide +kernel
theorem d20_57 : decode method_2_code 57 = .ok (.iload_n 0, 1) := by decide +kernel
theorem d20_58 : decode method_2_code 58 = .ok (.bipush 7, 2) := by decide +kernel
theorem d20_60 : decode method_2_code 60 = .ok (.if_icmp .ne 6, 3) := by decide +kernel
theorem d20_63 : decode method_2_code 63 = .ok (.ldc 9, 2) := by decide +kernel
theorem d20_65 : decode method_2_code 65 = .ok (.ireturn, 1) := by decide +kernel
theorem d20_66 : decode method_2_code 66 = .ok (.iload_n 0, 1) := by decide +kernel
theorem d20_67 : decode method_2_code 67 = .ok (.bipush 8, 2) := by decide +kernel
theorem d20_69 : decode method_2_code 69 = .ok (.if_icmp .ne 6, 3) := by decide +kernel
theorem d20_72 : decode method_2_code 72 = .ok (.ldc 10, 2) := by decide +kernel
theorem d20_74 : decode method_2_code 74 = .ok (.ireturn, 1) := by decide +kernel
theorem d20_75 : decode method_2_code 75 = .ok (.ldc 11, 2) := by decide +kernel
theorem d20_77 : decode method_2_code 77 = .ok (.ireturn, 1) := by decide +kernel
theorem d17_0 : decode method_3_code 0 = .ok (.iload_n 0, 1) := by decide +kernel
theorem d17_1 : decode method_3_code 1 = .ok (.bipush 10, 2) := by decide +kernel
theorem d17_3 : decode method_3_code 3 = .ok (.if_icmp .ge 5, 3) := by decide +kernel
theorem d17_6 : decode method_3_code 6 = .ok (.iconst 1, 1) := by decide +kernel
theorem d17_7 : decode method_3_code 7 = .ok (.ireturn, 1) := by decide +kernel
theorem d17_8 : decode method_3_code 8 = .ok (.iload_n 0, 1) := by decide +kernel
theorem d17_9 : decode method_3_code 9 = .ok (.bipush 100, 2) := by decide +kernel
theorem d17_11 : decode method_3_code 11 = .ok (.if_icmp .ge 5, 3) := by decide +kernel
theorem d17_14 : decode method_3_code 14 = .ok (.iconst 2, 1) := by decide +kernel
theorem d17_15 : decode method_3_code 15 = .ok (.ireturn, 1) := by decide +kernel
theorem d17_16 : decode method_3_code 16 = .ok (.iload_n 0, 1) := by decide +kernel
theorem d17_17 : decode method_3_code 17 = .ok (.sipush 1000, 3) := by decide +kernel
theorem d17_20 : decode method_3_code 20 = .ok (.if_icmp .ge 5, 3) := by decide +kernel
theorem d17_23 : decode method_3_code 23 = .ok (.iconst 3, 1) := by decide +kernel
theorem d17_24 : decode method_3_code 24 = .ok (.ireturn, 1) := by decide +kernel
theorem d17_25 : decode method_3_code 25 = .ok (.iload_n 0, 1) := by decide +kernel
theorem d17_26 : decode method_3_code 26 = .ok (.sipush 10000, 3) := by decide +kernel
theorem d17_29 : decode method_3_code 29 = .ok (.if_icmp .ge 5, 3) := by decide +kernel
theorem d17_32 : decode method_3_code 32 = .ok (.iconst 4, 1) := by decide +kernel
theorem d17_33 : decode method_3_code 33 = .ok (.ireturn, 1) := by decide +kernel
theorem d17_34 : decode method_3_code 34 = .ok (.iload_n 0, 1) := by decide +kernel
theorem d17_35 : decode method_3_code 35 = .ok (.ldc 7, 2) := by decide +kernel
theorem d17_37 : decode method_3_code 37 = .ok (.if_icmp .ge 5, 3) := by decide +kernel
theorem d17_40 : decode method_3_code 40 = .ok (.iconst 5, 1) := by decide +kernel
theorem d17_41 : decode method_3_code 41 = .ok (.ireturn, 1) := by decide +kernel
theorem d17_42 : decode method_3_code 42 = .ok (.iload_n 0, 1) := by decide +kernel
theorem d17_43 : decode method_3_code 43 = .ok (.ldc 8, 2) := by decide +kernel
theorem d17_45 : decode method_3_code 45 = .ok (.if_icmp .ge 6, 3) := by decide +kernel
theorem d17_48 : decode method_3_code 48 = .ok (.bipush 6, 2) := by decide +kernel
theorem d17_50 : decode method_3_code 50 = .ok (.ireturn, 1) := by decide +kernel
theorem d17_51 : decode method_3_code 51 = .ok (.iload_n 0, 1) := by decide +kernel
theorem d17_52 : decode method_3_code 52 = .ok (.ldc 9, 2) := by decide +kernel
theorem d17_54 : decode method_3_code 54 = .ok (.if_icmp .ge 6, 3) := by decide +kernel
theorem d17_57 : decode method_3_code 57 = .ok (.bipush 7, 2) := by decide +kernel
theorem d17_59 : decode method_3_code 59 = .ok (.ireturn, 1) := by decide +kernel
theorem d17_60 : decode method_3_code 60 = .ok (.iload_n 0, 1) := by decide +kernel
theorem d17_61 : decode method_3_code 61 = .ok (.ldc 10, 2) := by decide +kernel
theorem d17_63 : decode method_3_code 63 = .ok (.if_icmp .ge 6, 3) := by decide +kernel
theorem d17_66 : decode method_3_code 66 = .ok (.bipush 8, 2) := by decide +kernel
theorem d17_68 : decode method_3_code 68 = .ok (.ireturn, 1) := by decide +kernel
theorem d17_69 : decode method_3_code 69 = .ok (.iload_n 0, 1) := by decide +kernel
theorem d17_70 : decode method_3_code 70 = .ok (.ldc 11, 2) := by decide +kernel
theorem d17_72 : decode method_3_code 72 = .ok (.if_icmp .ge 6, 3) := by decide +kernel
theorem d17_75 : decode method_3_code 75 = .ok (.bipush 9, 2) := by decide +kernel
theorem d17_77 : decode method_3_code 77 = .ok (.ireturn, 1) := by decide +kernel
theorem d17_78 : decode method_3_code 78 = .ok (.bipush 10, 2) := by decide +kernel
theorem d17_80 : decode method_3_code 80 = .ok (.ireturn, 1) := by decide +kernel
theorem d19_0 : decode method_4_code 0 = .ok (.iload 4, 2) := by decide +kernel
theorem d19_2 : decode method_4_code 2 = .ok (.iload_n 2, 1) := by decide +kernel
theorem d19_3 : decode method_4_code 3 = .ok (.if_icmp .lt 5, 3) := by decide +kernel
theorem d19_6 : decode method_4_code 6 = .ok (.iconst 1, 1) := by decide +kernel
theorem d19_7 : decode method_4_code 7 = .ok (.ireturn, 1) := by decide +kernel
theorem d19_8 : decode method_4_code 8 = .ok (.aload_n 0, 1) := by decide +kernel
theorem d19_9 : decode method_4_code 9 = .ok (.iload_n 1, 1) := by decide +kernel
theorem d19_10 : decode method_4_code 10 = .ok (.iload_n 2, 1) := by decide +kernel
theorem d19_11 : decode method_4_code 11 = .ok (.iadd, 1) := by decide +kernel
theorem d19_12 : decode method_4_code 12 = .ok (.iconst 1, 1) := by decide +kernel
theorem d19_13 : decode method_4_code 13 = .ok (.isub, 1) := by decide +kernel
theorem d19_14 : decode method_4_code 14 = .ok (.iload 4, 2) := by decide +kernel
theorem d19_16 : decode method_4_code 16 = .ok (.isub, 1) := by decide +kernel
theorem d19_17 : decode method_4_code 17 = .ok (.baload, 1) := by decide +kernel
theorem d19_18 : decode method_4_code 18 = .ok (.bipush 48, 2) := by decide +kernel
theorem d19_20 : decode method_4_code 20 = .ok (.iload_n 3, 1) := by decide +kernel
theorem d19_21 : decode method_4_code 21 = .ok (.iload 4, 2) := by decide +kernel
theorem d19_23 : decode method_4_code 23 = .ok (.invokestatic 12, 3) := by decide +kernel
theorem d19_26 : decode method_4_code 26 = .ok (.idiv, 1) := by decide +kernel
theorem d19_27 : decode method_4_code 27 = .ok (.bipush 10, 2) := by decide +kernel
theorem d19_29 : decode method_4_code 29 = .ok (.irem, 1) := by decide +kernel
theorem d19_30 : decode method_4_code 30 = .ok (.iadd, 1) := by decide +kernel
theorem d19_31 : decode method_4_code 31 = .ok (.i2b, 1) := by decide +kernel
theorem d19_32 : decode method_4_code 32 = .ok (.if_icmp .ne 7, 3) := by decide +kernel
theorem d19_35 : decode method_4_code 35 = .ok (.iconst 1, 1) := by decide +kernel
theorem d19_36 : decode method_4_code 36 = .ok (.goto 4, 3) := by decide +kernel
theorem d19_39 : decode method_4_code 39 = .ok (.iconst 0, 1) := by decide +kernel
theorem d19_40 : decode method_4_code 40 = .ok (.ireturn, 1) := by decide +kernel
theorem d16_0 : decode method_5_code 0 = .ok (.iload 6, 2) := by decide +kernel
theorem d16_2 : decode method_5_code 2 = .ok (.invokestatic 18, 3) := by decide +kernel
theorem d16_5 : decode method_5_code 5 = .ok (.istore 7, 2) := by decide +kernel
theorem d16_7 : decode method_5_code 7 = .ok (.iload_n 1, 1) := by decide +kernel
theorem d16_8 : decode method_5_code 8 = .ok (.iload_n 2, 1) := by decide +kernel
theorem d16_9 : decode method_5_code 9 = .ok (.iconst 1, 1) := by decide +kernel
theorem d16_10 : decode method_5_code 10 = .ok (.iadd, 1) := by decide +kernel
theorem d16_11 : decode method_5_code 11 = .ok (.iload 7, 2) := by decide +kernel
theorem d16_13 : decode method_5_code 13 = .ok (.iadd, 1) := by decide +kernel
theorem d16_14 : decode method_5_code 14 = .ok (.if_icmp .eq 5, 3) := by decide +kernel
theorem d16_17 : decode method_5_code 17 = .ok (.iconst 0, 1) := by decide +kernel
theorem d16_18 : decode method_5_code 18 = .ok (.ireturn, 1) := by decide +kernel
theorem d16_19 : decode method_5_code 19 = .ok (.aload_n 0, 1) := by decide +kernel
theorem d16_20 : decode method_5_code 20 = .ok (.invokevirtual 21, 3) := by decide +kernel
theorem d16_23 : decode method_5_code 23 = .ok (.astore 8, 2) := by decide +kernel
theorem d16_25 : decode method_5_code 25 = .ok (.aload 8, 2) := by decide +kernel
theorem d16_27 : decode method_5_code 27 = .ok (.ifnull 10, 3) := by decide +kernel
theorem d16_30 : decode method_5_code 30 = .ok (.aload 8, 2) := by decide +kernel
theorem d16_32 : decode method_5_code 32 = .ok (.arraylength, 1) := by decide +kernel
theorem d16_33 : decode method_5_code 33 = .ok (.iload_n 1, 1) := by decide +kernel
theorem d16_34 : decode method_5_code 34 = .ok (.if_icmp .ge 5, 3) := by decide +kernel
theorem d16_37 : decode method_5_code 37 = .ok (.iconst 0, 1) := by decide +kernel
theorem d16_38 : decode method_5_code 38 = .ok (.ireturn, 1) := by decide +kernel
theorem d16_39 : decode method_5_code 39 = .ok (.aload 8, 2) := by decide +kernel
theorem d16_41 : decode method_5_code 41 = .ok (.iconst 0, 1) := by decide +kernel
theorem d16_42 : decode method_5_code 42 = .ok (.baload, 1) := by decide +kernel
theorem d16_43 : decode method_5_code 43 = .ok (.iload_n 3, 1) := by decide +kernel
theorem d16_44 : decode method_5_code 44 = .ok (.i2b, 1) := by decide +kernel
theorem d16_45 : decode method_5_code 45 = .ok (.if_icmp .eq 5, 3) := by decide +kernel
theorem d16_48 : decode method_5_code 48 = .ok (.iconst 0, 1) := by decide +kernel
theorem d16_49 : decode method_5_code 49 = .ok (.ireturn, 1) := by decide +kernel
theorem d16_50 : decode method_5_code 50 = .ok (.iload_n 2, 1) := by decide +kernel
theorem d16_51 : decode method_5_code 51 = .ok (.iconst 2, 1) := by decide +kernel
theorem d16_52 : decode method_5_code 52 = .ok (.if_icmp .ne 15, 3) := by decide +kernel
theorem d16_55 : decode method_5_code 55 = .ok (.aload 8, 2) := by decide +kernel
theorem d16_57 : decode method_5_code 57 = .ok (.iconst 1, 1) := by decide +kernel
theorem d16_58 : decode method_5_code 58 = .ok (.baload, 1) := by decide +kernel
theorem d16_59 : decode method_5_code 59 = .ok (.iload 4, 2) := by decide +kernel
theorem d16_61 : decode method_5_code 61 = .ok (.i2b, 1) := by decide +kernel
theorem d16_62 : decode method_5_code 62 = .ok (.if_icmp .eq 5, 3) := by decide +kernel
theorem d16_65 : decode method_5_code 65 = .ok (.iconst 0, 1) := by decide +kernel
theorem d16_66 : decode method_5_code 66 = .ok (.ireturn, 1) := by decide +kernel
theorem d16_67 : decode method_5_code 67 = .ok (.aload 8, 2) := by decide +kernel
theorem d16_69 : decode method_5_code 69 = .ok (.iload_n 2, 1) := by decide +kernel
theorem d16_70 : decode method_5_code 70 = .ok (.baload, 1) := by decide +kernel
theorem d16_71 : decode method_5_code 71 = .ok (.iload 5, 2) := by decide +kernel
theorem d16_73 : decode method_5_code 73 = .ok (.if_icmp .eq 5, 3) := by decide +kernel
theorem d16_76 : decode method_5_code 76 = .ok (.iconst 0, 1) := by decide +kernel
theorem d16_77 : decode method_5_code 77 = .ok (.ireturn, 1) := by decide +kernel
theorem d16_78 : decode method_5_code 78 = .ok (.iload_n 2, 1) := by decide +kernel
theorem d16_79 : decode method_5_code 79 = .ok (.iconst 1, 1) := by decide +kernel
theorem d16_80 : decode method_5_code 80 = .ok (.iadd, 1) := by decide +kernel
theorem d16_81 : decode method_5_code 81 = .ok (.istore 9, 2) := by decide +kernel
theorem d16_83 : decode method_5_code 83 = .ok (.aload 8, 2) := by decide +kernel
theorem d16_85 : decode method_5_code 85 = .ok (.iload 9, 2) := by decide +kernel
theorem d16_87 : decode method_5_code 87 = .ok (.iload 7, 2) := by decide +kernel
theorem d16_89 : decode method_5_code 89 = .ok (.iload 6, 2) := by decide +kernel
theorem d16_91 : decode method_5_code 91 = .ok (.iconst 0, 1) := by decide +kernel
theorem d16_92 : decode method_5_code 92 = .ok (.invokestatic 27, 3) := by decide +kernel
theorem d16_95 : decode method_5_code 95 = .ok (.ifCond .eq 146, 3) := by decide +kernel
theorem d16_98 : decode method_5_code 98 = .ok (.aload 8, 2) := by decide +kernel
theorem d16_100 : decode method_5_code 100 = .ok (.iload 9, 2) := by decide +kernel
theorem d16_102 : decode method_5_code 102 = .ok (.iload 7, 2) := by decide +kernel
theorem d16_104 : decode method_5_code 104 = .ok (.iload 6, 2) := by decide +kernel
theorem d16_106 : decode method_5_code 106 = .ok (.iconst 1, 1) := by decide +kernel
theorem d16_107 : decode method_5_code 107 = .ok (.invokestatic 27, 3) := by decide +kernel
theorem d16_110 : decode method_5_code 110 = .ok (.ifCond .eq 131, 3) := by decide +kernel
theorem d16_113 : decode method_5_code 113 = .ok (.aload 8, 2) := by decide +kernel
theorem d16_115 : decode method_5_code 115 = .ok (.iload 9, 2) := by decide +kernel
theorem d16_117 : decode method_5_code 117 = .ok (.iload 7, 2) := by decide +kernel
theorem d16_119 : decode method_5_code 119 = .ok (.iload 6, 2) := by decide +kernel
theorem d16_121 : decode method_5_code 121 = .ok (.iconst 2, 1) := by decide +kernel
theorem d16_122 : decode method_5_code 122 = .ok (.invokestatic 27, 3) := by decide +kernel
theorem d16_125 : decode method_5_code 125 = .ok (.ifCond .eq 116, 3) := by decide +kernel
theorem d16_128 : decode method_5_code 128 = .ok (.aload 8, 2) := by decide +kernel
theorem d16_130 : decode method_5_code 130 = .ok (.iload 9, 2) := by decide +kernel
theorem d16_132 : decode method_5_code 132 = .ok (.iload 7, 2) := by decide +kernel
theorem d16_134 : decode method_5_code 134 = .ok (.iload 6, 2) := by decide +kernel
theorem d16_136 : decode method_5_code 136 = .ok (.iconst 3, 1) := by decide +kernel
theorem d16_137 : decode method_5_code 137 = .ok (.invokestatic 27, 3) := by decide +kernel
theorem d16_140 : decode method_5_code 140 = .ok (.ifCond .eq 101, 3) := by decide +kernel
theorem d16_143 : decode method_5_code 143 = .ok (.aload 8, 2) := by decide +kernel
theorem d16_145 : decode method_5_code 145 = .ok (.iload 9, 2) := by decide +kernel
theorem d16_147 : decode method_5_code 147 = .ok (.iload 7, 2) := by decide +kernel
theorem d16_149 : decode method_5_code 149 = .ok (.iload 6, 2) := by decide +kernel
theorem d16_151 : decode method_5_code 151 = .ok (.iconst 4, 1) := by decide +kernel
theorem d16_152 : decode method_5_code 152 = .ok (.invokestatic 27, 3) := by decide +kernel
theorem d16_155 : decode method_5_code 155 = .ok (.ifCond .eq 86, 3) := by decide +kernel
theorem d16_158 : decode method_5_code 158 = .ok (.aload 8, 2) := by decide +kernel
theorem d16_160 : decode method_5_code 160 = .ok (.iload 9, 2) := by decide +kernel
theorem d16_162 : decode method_5_code 162 = .ok (.iload 7, 2) := by decide +kernel
theorem d16_164 : decode method_5_code 164 = .ok (.iload 6, 2) := by decide +kernel
theorem d16_166 : decode method_5_code 166 = .ok (.iconst 5, 1) := by decide +kernel
theorem d16_167 : decode method_5_code 167 = .ok (.invokestatic 27, 3) := by decide +kernel
theorem d16_170 : decode method_5_code 170 = .ok (.ifCond .eq 71, 3) := by decide +kernel
theorem d16_173 : decode method_5_code 173 = .ok (.aload 8, 2) := by decide +kernel
theorem d16_175 : decode method_5_code 175 = .ok (.iload 9, 2) := by decide +kernel
theorem d16_177 : decode method_5_code 177 = .ok (.iload 7, 2) := by decide +kernel
theorem d16_179 : decode method_5_code 179 = .ok (.iload 6, 2) := by decide +kernel
theorem d16_181 : decode method_5_code 181 = .ok (.bipush 6, 2) := by decide +kernel
theorem d16_183 : decode method_5_code 183 = .ok (.invokestatic 27, 3) := by decide +kernel
theorem d16_186 : decode method_5_code 186 = .ok (.ifCond .eq 55, 3) := by decide +kernel
theorem d16_189 : decode method_5_code 189 = .ok (.aload 8, 2) := by decide +kernel
theorem d16_191 : decode method_5_code 191 = .ok (.iload 9, 2) := by decide +kernel
theorem d16_193 : decode method_5_code 193 = .ok (.iload 7, 2) := by decide +kernel
theorem d16_195 : decode method_5_code 195 = .ok (.iload 6, 2) := by decide +kernel
theorem d16_197 : decode method_5_code 197 = .ok (.bipush 7, 2) := by decide +kernel
theorem d16_199 : decode method_5_code 199 = .ok (.invokestatic 27, 3) := by decide +kernel
theorem d16_202 : decode method_5_code 202 = .ok (.ifCond .eq 39, 3) := by decide +kernel
theorem d16_205 : decode method_5_code 205 = .ok (.aload 8, 2) := by decide +kernel
theorem d16_207 : decode method_5_code 207 = .ok (.iload 9, 2) := by decide +kernel
theorem d16_209 : decode method_5_code 209 = .ok (.iload 7, 2) := by decide +kernel
theorem d16_211 : decode method_5_code 211 = .ok (.iload 6, 2) := by decide +kernel
theorem d16_213 : decode method_5_code 213 = .ok (.bipush 8, 2) := by decide +kernel
theorem d16_215 : decode method_5_code 215 = .ok (.invokestatic 27, 3) := by decide +kernel
theorem d16_218 : decode method_5_code 218 = .ok (.ifCond .eq 23, 3) := by decide +kernel
theorem d16_221 : decode method_5_code 221 = .ok (.aload 8, 2) := by decide +kernel
theorem d16_223 : decode method_5_code 223 = .ok (.iload 9, 2) := by decide +kernel
theorem d16_225 : decode method_5_code 225 = .ok (.iload 7, 2) := by decide +kernel
theorem d16_227 : decode method_5_code 227 = .ok (.iload 6, 2) := by decide +kernel
theorem d16_229 : decode method_5_code 229 = .ok (.bipush 9, 2) := by decide +kernel
theorem d16_231 : decode method_5_code 231 = .ok (.invokestatic 27, 3) := by decide +kernel
theorem d16_234 : decode method_5_code 234 = .ok (.ifCond .eq 7, 3) := by decide +kernel
theorem d16_237 : decode method_5_code 237 = .ok (.iconst 1, 1) := by decide +kernel
theorem d16_238 : decode method_5_code 238 = .ok (.goto 4, 3) := by decide +kernel
theorem d16_241 : decode method_5_code 241 = .ok (.iconst 0, 1) := by decide +kernel
theorem d16_242 : decode method_5_code 242 = .ok (.ireturn, 1) := by decide +kernel
theorem d15_0 : decode prog_15_method_3_code 0 = .ok (.aload_n 0, 1) := by decide +kernel
theorem d15_1 : decode prog_15_method_3_code 1 = .ok (.getfield 37, 3) := by decide +kernel
theorem d15_4 : decode prog_15_method_3_code 4 = .ok (.iconst 1, 1) := by decide +kernel
theorem d15_5 : decode prog_15_method_3_code 5 = .ok (.iadd, 1) := by decide +kernel
theorem d15_6 : decode prog_15_method_3_code 6 = .ok (.istore_n 2, 1) := by decide +kernel
theorem d15_7 : decode prog_15_method_3_code 7 = .ok (.iload_n 1, 1) := by decide +kernel
theorem d15_8 : decode prog_15_method_3_code 8 = .ok (.bipush 10, 2) := by decide +kernel
theorem d15_10 : decode prog_15_method_3_code 10 = .ok (.idiv, 1) := by decide +kernel
theorem d15_11 : decode prog_15_method_3_code 11 = .ok (.istore_n 3, 1) := by decide +kernel
theorem d15_12 : decode prog_15_method_3_code 12 = .ok (.iload_n 3, 1) := by decide +kernel
theorem d15_13 : decode prog_15_method_3_code 13 = .ok (.ifCond .le 14, 3) := by decide +kernel
theorem d15_16 : decode prog_15_method_3_code 16 = .ok (.iinc 2 1, 3) := by decide +kernel
theorem d15_19 : decode prog_15_method_3_code 19 = .ok (.iload_n 3, 1) := by decide +kernel
theorem d15_20 : decode prog_15_method_3_code 20 = .ok (.bipush 10, 2) := by decide +kernel
theorem d15_22 : decode prog_15_method_3_code 22 = .ok (.idiv, 1) := by decide +kernel
theorem d15_23 : decode prog_15_method_3_code 23 = .ok (.istore_n 3, 1) := by decide +kernel
theorem d15_24 : decode prog_15_method_3_code 24 = .ok (.goto (-12), 3) := by decide +kernel
theorem d15_27 : decode prog_15_method_3_code 27 = .ok (.iload_n 1, 1) := by decide +kernel
theorem d15_28 : decode prog_15_method_3_code 28 = .ok (.istore_n 3, 1) := by decide +kernel
theorem d15_29 : decode prog_15_method_3_code 29 = .ok (.iload_n 2, 1) := by decide +kernel
theorem d15_30 : decode prog_15_method_3_code 30 = .ok (.iconst 1, 1) := by decide +kernel
theorem d15_31 : decode prog_15_method_3_code 31 = .ok (.isub, 1) := by decide +kernel
theorem d15_32 : decode prog_15_method_3_code 32 = .ok (.istore 4, 2) := by decide +kernel
theorem d15_34 : decode prog_15_method_3_code 34 = .ok (.iload 4, 2) := by decide +kernel
theorem d15_36 : decode prog_15_method_3_code 36 = .ok (.aload_n 0, 1) := by decide +kernel
theorem d15_37 : decode prog_15_method_3_code 37 = .ok (.getfield 37, 3) := by decide +kernel
theorem d15_40 : decode prog_15_method_3_code 40 = .ok (.if_icmp .lt 29, 3) := by decide +kernel
theorem d15_43 : decode prog_15_method_3_code 43 = .ok (.aload_n 0, 1) := by decide +kernel
theorem d15_44 : decode prog_15_method_3_code 44 = .ok (.getfield 11, 3) := by decide +kernel
theorem d15_47 : decode prog_15_method_3_code 47 = .ok (.iload 4, 2) := by decide +kernel
theorem d15_49 : decode prog_15_method_3_code 49 = .ok (.bipush 48, 2) := by decide +kernel
theorem d15_51 : decode prog_15_method_3_code 51 = .ok (.iload_n 3, 1) := by decide +kernel
theorem d15_52 : decode prog_15_method_3_code 52 = .ok (.bipush 10, 2) := by decide +kernel
theorem d15_54 : decode prog_15_method_3_code 54 = .ok (.irem, 1) := by decide +kernel
theorem d15_55 : decode prog_15_method_3_code 55 = .ok (.iadd, 1) := by decide +kernel
theorem d15_56 : decode prog_15_method_3_code 56 = .ok (.i2b, 1) := by decide +kernel
theorem d15_57 : decode prog_15_method_3_code 57 = .ok (.bastore, 1) := by decide +kernel
theorem d15_58 : decode prog_15_method_3_code 58 = .ok (.iload_n 3, 1) := by decide +kernel
theorem d15_59 : decode prog_15_method_3_code 59 = .ok (.bipush 10, 2) := by decide +kernel
theorem d15_61 : decode prog_15_method_3_code 61 = .ok (.idiv, 1) := by decide +kernel
theorem d15_62 : decode prog_15_method_3_code 62 = .ok (.istore_n 3, 1) := by decide +kernel
theorem d15_63 : decode prog_15_method_3_code 63 = .ok (.iinc 4 (-1), 3) := by decide +kernel
theorem d15_66 : decode prog_15_method_3_code 66 = .ok (.goto (-32), 3) := by decide +kernel
theorem d15_69 : decode prog_15_method_3_code 69 = .ok (.iload_n 2, 1) := by decide +kernel
theorem d15_70 : decode prog_15_method_3_code 70 = .ok (.ireturn, 1) := by decide +kernel
theorem pd__28_5bCI_5bBII_29I : parseMethodDescriptor "([CI[BII)I" = some ⟨[(.array .char), .int, (.array .byte), .int, .int], some .int⟩ := by decide +kernel
theorem pd__28_5bCII_29_5bB : parseMethodDescriptor "([CII)[B" = some ⟨[(.array .char), .int, .int], some (.array .byte)⟩ := by decide +kernel
theorem pd__28_5bBI_29B : parseMethodDescriptor "([BI)B" = some ⟨[(.array .byte), .int], some .byte⟩ := by decide +kernel
theorem pd__28_5bCIILjava_2flang_2fVoid_3b_29V : parseMethodDescriptor "([CIILjava/lang/Void;)V" = some ⟨[(.array .char), .int, .int, (.object "java/lang/Void")], none⟩ := by decide +kernel
theorem pd__28_5bBII_29I : parseMethodDescriptor "([BII)I" = some ⟨[(.array .byte), .int, .int], some .int⟩ := by decide +kernel
theorem pd__28_5bBII_29Z : parseMethodDescriptor "([BII)Z" = some ⟨[(.array .byte), .int, .int], some .boolean⟩ := by decide +kernel
theorem pd__28B_5bBZ_29_5bB : parseMethodDescriptor "(B[BZ)[B" = some ⟨[.byte, (.array .byte), .boolean], some (.array .byte)⟩ := by decide +kernel
theorem pd__28_29B : parseMethodDescriptor "()B" = some ⟨[], some .byte⟩ := by decide +kernel
theorem pd__28Ljava_2fnio_2fcharset_2fCharset_3bB_5bB_29_5bB : parseMethodDescriptor "(Ljava/nio/charset/Charset;B[B)[B" = some ⟨[(.object "java/nio/charset/Charset"), .byte, (.array .byte)], some (.array .byte)⟩ := by decide +kernel
theorem pd__28Ljava_2fnio_2fcharset_2fCharset_3b_29_5bB : parseMethodDescriptor "(Ljava/nio/charset/Charset;)[B" = some ⟨[(.object "java/nio/charset/Charset")], some (.array .byte)⟩ := by decide +kernel
theorem pd__28I_29I : parseMethodDescriptor "(I)I" = some ⟨[.int], some .int⟩ := by decide +kernel
theorem pd__28_29_5bB : parseMethodDescriptor "()[B" = some ⟨[], some (.array .byte)⟩ := by decide +kernel
theorem pd__28_5bBIIII_29Z : parseMethodDescriptor "([BIIII)Z" = some ⟨[(.array .byte), .int, .int, .int, .int], some .boolean⟩ := by decide +kernel
theorem pd__28_5bC_29V : parseMethodDescriptor "([C)V" = some ⟨[(.array .char)], none⟩ := by decide +kernel
theorem pd__28C_29V : parseMethodDescriptor "(C)V" = some ⟨[.char], none⟩ := by decide +kernel
theorem pd__28Ljava_2flang_2fString_3b_29V : parseMethodDescriptor "(Ljava/lang/String;)V" = some ⟨[(.object "java/lang/String")], none⟩ := by decide +kernel
theorem pd__28Lcom_2fexample_2fastilla_2fastilla_2fPointLabels_3bIICCBI_29Z : parseMethodDescriptor "(Lcom/example/astilla/astilla/PointLabels;IICCBI)Z" = some ⟨[(.object "com/example/astilla/astilla/PointLabels"), .int, .int, .char, .char, .byte, .int], some .boolean⟩ := by decide +kernel
theorem ef_rmC51 (q1 : Addr) (q3 : Addr) (m : MethodId) : entryFrame m #[.ref q1, .int (0 : Int32), .ref q3, .int (0 : Int32), .int (1 : Int32)] 7 = mkF m 0 #[.val (.ref q1), .val (.int (0 : Int32)), .val (.ref q3), .val (.int (0 : Int32)), .val (.int (1 : Int32)), .unset, .unset] [] := by
  first | (simp [entryFrame, mkF, argsToLocals, Value.category]; done) | rfl
set_option maxRecDepth 65536 in
set_option maxHeartbeats 40000000 in
theorem rmC51 (l : Launch) (Z : State) (a0 : Array Value) (hw : ∀ d ∈ tables_1, d.before a0 Z = true) (ws : List Jvm.Cond) (q1 : Addr) (q3 : Addr) (h0 : Heap) (n0 : Nat) (x0 : Int32) (kc : ClassId) (A_c : Arv Z h0 q1 kc .char (1 : Int32) [.int x0] (.int 0)) (hx0 : AS x0) (kb : ClassId) (A_b : Arv Z h0 q3 kb .byte (1 : Int32) [.int 0] (.int 0)) (n_cb : q1 ≠ q3) (g_b : n0 ≤ q3) :
    Ctr l Z ({ cls := "java/lang/StringUTF16", name := "compress", desc := "([CI[BII)I" } : Jvm.MethodName) jdk_52_method_21_code 7 (some .int) ws ({ frames := 0, cells := 0, slots := 0, locals := 0 } : Room) #[.ref q1, .int (0 : Int32), .ref q3, .int (0 : Int32), .int (1 : Int32)] h0 (fun v h L => v = some (.int (1 : Int32)) ∧ Fr n0 L ∧ Keep h0 h [q3] ∧ Arv Z h q3 kb .byte (1 : Int32) [.int (lat x0)] (.int 0)) := by
  refine Ctr.enter (Ls := #[.val (.ref q1), .val (.int (0 : Int32)), .val (.ref q3), .val (.int (0 : Int32)), .val (.int (1 : Int32)), .unset, .unset]) (by decide +kernel) (fun m => ef_rmC51 q1 q3 m) ?_
  intro p e s m below meth c T hx hby hml hown hnm hret hlk hZ hh X0 e0
  have N0 := Fr.nil n0
  refine g_iconst X0 hx hby d5_0 (pc' := 1) rfl (z := (0 : Int32)) rfl ?_
  refine g_istore X0 hx hby d5_1 (pc' := 3) rfl (l' := #[.val (.ref q1), .val (.int (0 : Int32)), .val (.ref q3), .val (.int (0 : Int32)), .val (.int (1 : Int32)), .val (.int (0 : Int32)), .unset]) rfl ?_
  refine g_iload X0 hx hby d5_3 (pc' := 5) rfl rfl ?_
  refine g_iload X0 hx hby d5_5 (pc' := 7) rfl rfl ?_
  refine g_icmp_ge X0 hx hby d5_7 (by decide) (pc' := 44) (by decide) (pn := 10) rfl (fun z => absurd z (by decide)) (fun _ => ?_)
  refine g_aloadN X0 hx hby d5_10 (pc' := 11) rfl rfl rfl ?_
  refine g_iloadN X0 hx hby d5_11 (pc' := 12) rfl rfl ?_
  refine g_caload X0 hx hZ hby d5_12 (pc' := 13) rfl e0 A_c (by decide) (v := .int x0) rfl ?_
  refine g_istore X0 hx hby d5_13 (pc' := 15) rfl (l' := #[.val (.ref q1), .val (.int (0 : Int32)), .val (.ref q3), .val (.int (0 : Int32)), .val (.int (1 : Int32)), .val (.int (0 : Int32)), .val (.int x0)]) rfl ?_
  refine g_iload X0 hx hby d5_15 (pc' := 17) rfl rfl ?_
  refine g_sipush X0 hx hby d5_17 (pc' := 20) rfl (z := (255 : Int32)) rfl ?_
  refine g_icmp_le X0 hx hby d5_20 (by decide) (pc' := 26) (by decide) (pn := 23) rfl (fun hc20_1 => ?_) (fun z => absurd z (own_le255 hx0))
  refine g_aloadN X0 hx hby d5_26 (pc' := 27) rfl rfl rfl ?_
  refine g_iloadN X0 hx hby d5_27 (pc' := 28) rfl rfl ?_
  refine g_iload X0 hx hby d5_28 (pc' := 30) rfl rfl ?_
  refine g_i2b X0 hx hby d5_30 (pc' := 31) rfl ?_
  refine g_bastore X0 hx hZ 0 hby d5_31 (pc' := 32) rfl e0 A_b (by decide) (by decide) (by first | decide | simp) ?_
  intro T2 X2 W2 A2v
  have N2 := Fr.snoc X2 N0 g_b
  have A2_q1 := A_c.other W2 n_cb
  have K2 := (Keep.refl h0 [q3]).wr W2 (Or.inl (List.mem_of_getElem? (i := 0) rfl))
  have A2 : Arv Z T2.heap q3 kb .byte (1 : Int32) [.int (nar .byte x0.toInt8.toInt32)] (.int 0) := A2v
  refine g_iinc X2 hx hby d5_32 (pc' := 35) rfl rfl (l' := #[.val (.ref q1), .val (.int (1 : Int32)), .val (.ref q3), .val (.int (0 : Int32)), .val (.int (1 : Int32)), .val (.int (0 : Int32)), .val (.int x0)]) rfl ?_
  refine g_iinc X2 hx hby d5_35 (pc' := 38) rfl rfl (l' := #[.val (.ref q1), .val (.int (1 : Int32)), .val (.ref q3), .val (.int (1 : Int32)), .val (.int (1 : Int32)), .val (.int (0 : Int32)), .val (.int x0)]) rfl ?_
  refine g_iinc X2 hx hby d5_38 (pc' := 41) rfl rfl (l' := #[.val (.ref q1), .val (.int (1 : Int32)), .val (.ref q3), .val (.int (1 : Int32)), .val (.int (1 : Int32)), .val (.int (1 : Int32)), .val (.int x0)]) rfl ?_
  refine g_goto X2 hx hby d5_41 (by decide) (pc' := 3) (by decide) ?_
  refine g_iload X2 hx hby d5_3 (pc' := 5) rfl rfl ?_
  refine g_iload X2 hx hby d5_5 (pc' := 7) rfl rfl ?_
  refine g_icmp_ge X2 hx hby d5_7 (by decide) (pc' := 44) (by decide) (pn := 10) rfl (fun _ => ?_) (fun z => absurd z (by decide))
  refine g_iload X2 hx hby d5_44 (pc' := 46) rfl rfl ?_
  exact g_retI (Q := (fun v h L => v = some (.int (1 : Int32)) ∧ Fr n0 L ∧ Keep h0 h [q3] ∧ Arv Z h q3 kb .byte (1 : Int32) [.int (lat x0)] (.int 0))) X2 hx hby d5_46 hret hlk (by decide) (by decide) ⟨rfl, N2, K2, A2⟩
theorem ef_rmC52 (q1 : Addr) (q3 : Addr) (m : MethodId) : entryFrame m #[.ref q1, .int (0 : Int32), .ref q3, .int (0 : Int32), .int (2 : Int32)] 7 = mkF m 0 #[.val (.ref q1), .val (.int (0 : Int32)), .val (.ref q3), .val (.int (0 : Int32)), .val (.int (2 : Int32)), .unset, .unset] [] := by
  first | (simp [entryFrame, mkF, argsToLocals, Value.category]; done) | rfl
set_option maxRecDepth 65536 in
set_option maxHeartbeats 40000000 in
theorem rmC52 (l : Launch) (Z : State) (a0 : Array Value) (hw : ∀ d ∈ tables_1, d.before a0 Z = true) (ws : List Jvm.Cond) (q1 : Addr) (q3 : Addr) (h0 : Heap) (n0 : Nat) (x0 x1 : Int32) (kc : ClassId) (A_c : Arv Z h0 q1 kc .char (2 : Int32) [.int x0, .int x1] (.int 0)) (hx0 : AS x0) (hx1 : AS x1) (kb : ClassId) (A_b : Arv Z h0 q3 kb .byte (2 : Int32) [.int 0, .int 0] (.int 0)) (n_cb : q1 ≠ q3) (g_b : n0 ≤ q3) :
    Ctr l Z ({ cls := "java/lang/StringUTF16", name := "compress", desc := "([CI[BII)I" } : Jvm.MethodName) jdk_52_method_21_code 7 (some .int) ws ({ frames := 0, cells := 0, slots := 0, locals := 0 } : Room) #[.ref q1, .int (0 : Int32), .ref q3, .int (0 : Int32), .int (2 : Int32)] h0 (fun v h L => v = some (.int (2 : Int32)) ∧ Fr n0 L ∧ Keep h0 h [q3] ∧ Arv Z h q3 kb .byte (2 : Int32) [.int (lat x0), .int (lat x1)] (.int 0)) := by
  refine Ctr.enter (Ls := #[.val (.ref q1), .val (.int (0 : Int32)), .val (.ref q3), .val (.int (0 : Int32)), .val (.int (2 : Int32)), .unset, .unset]) (by decide +kernel) (fun m => ef_rmC52 q1 q3 m) ?_
  intro p e s m below meth c T hx hby hml hown hnm hret hlk hZ hh X0 e0
  have N0 := Fr.nil n0
  refine g_iconst X0 hx hby d5_0 (pc' := 1) rfl (z := (0 : Int32)) rfl ?_
  refine g_istore X0 hx hby d5_1 (pc' := 3) rfl (l' := #[.val (.ref q1), .val (.int (0 : Int32)), .val (.ref q3), .val (.int (0 : Int32)), .val (.int (2 : Int32)), .val (.int (0 : Int32)), .unset]) rfl ?_
  refine g_iload X0 hx hby d5_3 (pc' := 5) rfl rfl ?_
  refine g_iload X0 hx hby d5_5 (pc' := 7) rfl rfl ?_
  refine g_icmp_ge X0 hx hby d5_7 (by decide) (pc' := 44) (by decide) (pn := 10) rfl (fun z => absurd z (by decide)) (fun _ => ?_)
  refine g_aloadN X0 hx hby d5_10 (pc' := 11) rfl rfl rfl ?_
  refine g_iloadN X0 hx hby d5_11 (pc' := 12) rfl rfl ?_
  refine g_caload X0 hx hZ hby d5_12 (pc' := 13) rfl e0 A_c (by decide) (v := .int x0) rfl ?_
  refine g_istore X0 hx hby d5_13 (pc' := 15) rfl (l' := #[.val (.ref q1), .val (.int (0 : Int32)), .val (.ref q3), .val (.int (0 : Int32)), .val (.int (2 : Int32)), .val (.int (0 : Int32)), .val (.int x0)]) rfl ?_
  refine g_iload X0 hx hby d5_15 (pc' := 17) rfl rfl ?_
  refine g_sipush X0 hx hby d5_17 (pc' := 20) rfl (z := (255 : Int32)) rfl ?_
  refine g_icmp_le X0 hx hby d5_20 (by decide) (pc' := 26) (by decide) (pn := 23) rfl (fun hc20_1 => ?_) (fun z => absurd z (own_le255 hx0))
  refine g_aloadN X0 hx hby d5_26 (pc' := 27) rfl rfl rfl ?_
  refine g_iloadN X0 hx hby d5_27 (pc' := 28) rfl rfl ?_
  refine g_iload X0 hx hby d5_28 (pc' := 30) rfl rfl ?_
  refine g_i2b X0 hx hby d5_30 (pc' := 31) rfl ?_
  refine g_bastore X0 hx hZ 0 hby d5_31 (pc' := 32) rfl e0 A_b (by decide) (by decide) (by first | decide | simp) ?_
  intro T2 X2 W2 A2v
  have N2 := Fr.snoc X2 N0 g_b
  have A2_q1 := A_c.other W2 n_cb
  have K2 := (Keep.refl h0 [q3]).wr W2 (Or.inl (List.mem_of_getElem? (i := 0) rfl))
  have A2 : Arv Z T2.heap q3 kb .byte (2 : Int32) [.int (nar .byte x0.toInt8.toInt32), .int 0] (.int 0) := A2v
  refine g_iinc X2 hx hby d5_32 (pc' := 35) rfl rfl (l' := #[.val (.ref q1), .val (.int (1 : Int32)), .val (.ref q3), .val (.int (0 : Int32)), .val (.int (2 : Int32)), .val (.int (0 : Int32)), .val (.int x0)]) rfl ?_
  refine g_iinc X2 hx hby d5_35 (pc' := 38) rfl rfl (l' := #[.val (.ref q1), .val (.int (1 : Int32)), .val (.ref q3), .val (.int (1 : Int32)), .val (.int (2 : Int32)), .val (.int (0 : Int32)), .val (.int x0)]) rfl ?_
  refine g_iinc X2 hx hby d5_38 (pc' := 41) rfl rfl (l' := #[.val (.ref q1), .val (.int (1 : Int32)), .val (.ref q3), .val (.int (1 : Int32)), .val (.int (2 : Int32)), .val (.int (1 : Int32)), .val (.int x0)]) rfl ?_
  refine g_goto X2 hx hby d5_41 (by decide) (pc' := 3) (by decide) ?_
  refine g_iload X2 hx hby d5_3 (pc' := 5) rfl rfl ?_
  refine g_iload X2 hx hby d5_5 (pc' := 7) rfl rfl ?_
  refine g_icmp_ge X2 hx hby d5_7 (by decide) (pc' := 44) (by decide) (pn := 10) rfl (fun z => absurd z (by decide)) (fun _ => ?_)
  refine g_aloadN X2 hx hby d5_10 (pc' := 11) rfl rfl rfl ?_
  refine g_iloadN X2 hx hby d5_11 (pc' := 12) rfl rfl ?_
  refine g_caload X2 hx hZ hby d5_12 (pc' := 13) rfl rfl A2_q1 (by decide) (v := .int x1) rfl ?_
  refine g_istore X2 hx hby d5_13 (pc' := 15) rfl (l' := #[.val (.ref q1), .val (.int (1 : Int32)), .val (.ref q3), .val (.int (1 : Int32)), .val (.int (2 : Int32)), .val (.int (1 : Int32)), .val (.int x1)]) rfl ?_
  refine g_iload X2 hx hby d5_15 (pc' := 17) rfl rfl ?_
  refine g_sipush X2 hx hby d5_17 (pc' := 20) rfl (z := (255 : Int32)) rfl ?_
  refine g_icmp_le X2 hx hby d5_20 (by decide) (pc' := 26) (by decide) (pn := 23) rfl (fun hc20_3 => ?_) (fun z => absurd z (own_le255 hx1))
  refine g_aloadN X2 hx hby d5_26 (pc' := 27) rfl rfl rfl ?_
  refine g_iloadN X2 hx hby d5_27 (pc' := 28) rfl rfl ?_
  refine g_iload X2 hx hby d5_28 (pc' := 30) rfl rfl ?_
  refine g_i2b X2 hx hby d5_30 (pc' := 31) rfl ?_
  refine g_bastore X2 hx hZ 1 hby d5_31 (pc' := 32) rfl rfl A2 (by decide) (by decide) (by first | decide | simp) ?_
  intro T4 X4 W4 A4v
  have N4 := Fr.snoc X4 N2 g_b
  have A4_q1 := A2_q1.other W4 n_cb
  have K4 := K2.wr W4 (Or.inl (List.mem_of_getElem? (i := 0) rfl))
  have A4 : Arv Z T4.heap q3 kb .byte (2 : Int32) [.int (nar .byte x0.toInt8.toInt32), .int (nar .byte x1.toInt8.toInt32)] (.int 0) := A4v
  refine g_iinc X4 hx hby d5_32 (pc' := 35) rfl rfl (l' := #[.val (.ref q1), .val (.int (2 : Int32)), .val (.ref q3), .val (.int (1 : Int32)), .val (.int (2 : Int32)), .val (.int (1 : Int32)), .val (.int x1)]) rfl ?_
  refine g_iinc X4 hx hby d5_35 (pc' := 38) rfl rfl (l' := #[.val (.ref q1), .val (.int (2 : Int32)), .val (.ref q3), .val (.int (2 : Int32)), .val (.int (2 : Int32)), .val (.int (1 : Int32)), .val (.int x1)]) rfl ?_
  refine g_iinc X4 hx hby d5_38 (pc' := 41) rfl rfl (l' := #[.val (.ref q1), .val (.int (2 : Int32)), .val (.ref q3), .val (.int (2 : Int32)), .val (.int (2 : Int32)), .val (.int (2 : Int32)), .val (.int x1)]) rfl ?_
  refine g_goto X4 hx hby d5_41 (by decide) (pc' := 3) (by decide) ?_
  refine g_iload X4 hx hby d5_3 (pc' := 5) rfl rfl ?_
  refine g_iload X4 hx hby d5_5 (pc' := 7) rfl rfl ?_
  refine g_icmp_ge X4 hx hby d5_7 (by decide) (pc' := 44) (by decide) (pn := 10) rfl (fun _ => ?_) (fun z => absurd z (by decide))
  refine g_iload X4 hx hby d5_44 (pc' := 46) rfl rfl ?_
  exact g_retI (Q := (fun v h L => v = some (.int (2 : Int32)) ∧ Fr n0 L ∧ Keep h0 h [q3] ∧ Arv Z h q3 kb .byte (2 : Int32) [.int (lat x0), .int (lat x1)] (.int 0))) X4 hx hby d5_46 hret hlk (by decide) (by decide) ⟨rfl, N4, K4, A4⟩
theorem ef_rmC31 (q1 : Addr) (m : MethodId) : entryFrame m #[.ref q1, .int (0 : Int32), .int (1 : Int32)] 6 = mkF m 0 #[.val (.ref q1), .val (.int (0 : Int32)), .val (.int (1 : Int32)), .unset, .unset, .unset] [] := by
  first | (simp [entryFrame, mkF, argsToLocals, Value.category]; done) | rfl
set_option maxRecDepth 65536 in
set_option maxHeartbeats 40000000 in
theorem rmC31 (l : Launch) (Z : State) (a0 : Array Value) (hw : ∀ d ∈ tables_1, d.before a0 Z = true) (ws : List Jvm.Cond) (q1 : Addr) (h0 : Heap) (n0 : Nat) (x0 : Int32) (kc : ClassId) (A_c : Arv Z h0 q1 kc .char (1 : Int32) [.int x0] (.int 0)) (hx0 : AS x0) (Z0 : n0 ≤ h0.size) :
    Ctr l Z ({ cls := "java/lang/StringUTF16", name := "compress", desc := "([CII)[B" } : Jvm.MethodName) jdk_52_method_16_code 6 (some (.array .byte)) ws ({ frames := 1, cells := 1, slots := 2, locals := 18 } : Room) #[.ref q1, .int (0 : Int32), .int (1 : Int32)] h0 (fun v h L => ∃ (b : Addr) (k : ClassId), v = some (.ref b) ∧ Fr n0 L ∧ Keep h0 h [] ∧ h0.size ≤ b ∧ Arv Z h b k .byte (1 : Int32) [.int (lat x0)] (.int 0) ∧ Exa Z h b "[B") := by
  refine Ctr.enter (Ls := #[.val (.ref q1), .val (.int (0 : Int32)), .val (.int (1 : Int32)), .unset, .unset, .unset]) (by decide +kernel) (fun m => ef_rmC31 q1 m) ?_
  intro p e s m below meth c T hx hby hml hown hnm hret hlk hZ hh X0 e0
  have N0 := Fr.nil n0
  refine g_iloadN X0 hx hby d4_0 (pc' := 1) rfl rfl ?_
  refine g_newarray X0 hx hZ 1  "[B" hby d4_1 (pc' := 3) rfl (w_20 hw) e0 (by decide) (by decide) (by decide) (by decide) (by decide) rfl ?_
  intro T1 b1 c1 hb1 X1 E1 A1v A1x
  have K1 := (Keep.refl h0 []).ext E1
  have Z1 := Nat.le_trans Z0 E1.1
  have A1_q1 := A_c.ext E1
  have ne1_q1 : q1 ≠ b1 := hb1 ▸ Nat.ne_of_lt A_c.lt
  have A1 : Arv Z T1.heap b1 c1 .byte (1 : Int32) [.int 0] (.int 0) := A1v
  refine g_astoreN X1 hx hby d4_3 (pc' := 4) rfl rfl (l' := #[.val (.ref q1), .val (.int (0 : Int32)), .val (.int (1 : Int32)), .val (.ref b1), .unset, .unset]) rfl ?_
  refine g_aloadN X1 hx hby d4_4 (pc' := 5) rfl rfl rfl ?_
  refine g_iloadN X1 hx hby d4_5 (pc' := 6) rfl rfl ?_
  refine g_aloadN X1 hx hby d4_6 (pc' := 7) rfl rfl rfl ?_
  refine g_iconst X1 hx hby d4_7 (pc' := 8) rfl (z := (0 : Int32)) rfl ?_
  refine g_iloadN X1 hx hby d4_8 (pc' := 9) rfl rfl ?_
  refine g_callS X1 hx hZ hown (W := 0) (argsL := [.ref q1, .int (0 : Int32), .ref b1, .int (0 : Int32), .int (1 : Int32)]) (rest := []) hby d4_9 (pc' := 12) rfl (by rw [hml]; rfl) (w_21 hw) (w_22 hw) (w_18 hw) (w_23 hw) (by decide) (rmC51 l Z a0 hw [] q1 b1 T1.heap n0 x0 _ A1_q1 hx0 _ A1 ne1_q1 (Nat.le_trans Z0 (Nat.le_of_eq hb1.symm))) rfl (by decide) (by decide) (by decide) (by decide) rfl pd__28_5bCI_5bBII_29I rfl rfl (Nat.le_of_eq rfl) ?_
  rintro _ T2 L2 X2 ⟨rfl, N2q, K2, A2⟩
  have N2 := Fr.app N0 N2q
  have K2t := K1.trans K2 (allS (Or.inr (Nat.le_trans (Keep.refl h0 []).1 (Nat.le_of_eq hb1.symm))) all0)
  have Z2 := Nat.le_trans Z1 K2.1
  have A2_q1 := A1_q1.keep K2 (ninS ne1_q1 nin0)
  have E2_b1 := A1x.keep K2
  show GoE p e below _ (T2.setTop (mkF m 12 #[.val (.ref q1), .val (.int (0 : Int32)), .val (.int (1 : Int32)), .val (.ref b1), .unset, .unset] [.int (1 : Int32)]))
  refine g_istore X2 hx hby d4_12 (pc' := 14) rfl (l' := #[.val (.ref q1), .val (.int (0 : Int32)), .val (.int (1 : Int32)), .val (.ref b1), .val (.int (1 : Int32)), .unset]) rfl ?_
  refine g_iload X2 hx hby d4_14 (pc' := 16) rfl rfl ?_
  refine g_iloadN X2 hx hby d4_16 (pc' := 17) rfl rfl ?_
  refine g_icmp_eq X2 hx hby d4_17 (by decide) (pc' := 57) (by decide) (pn := 20) rfl (fun _ => ?_) (fun z => absurd z (by decide))
  refine g_aloadN X2 hx hby d4_57 (pc' := 58) rfl rfl rfl ?_
  exact g_retA (Q := (fun v h L => ∃ (b : Addr) (k : ClassId), v = some (.ref b) ∧ Fr n0 L ∧ Keep h0 h [] ∧ h0.size ≤ b ∧ Arv Z h b k .byte (1 : Int32) [.int (lat x0)] (.int 0) ∧ Exa Z h b "[B")) X2 hx hby d4_58 rfl hret rfl hlk (by decide) (by decide) ⟨b1, c1, rfl, N2, K2t, (Nat.le_trans (Keep.refl h0 []).1 (Nat.le_of_eq hb1.symm)), A2, E2_b1⟩
theorem ef_rmC32 (q1 : Addr) (m : MethodId) : entryFrame m #[.ref q1, .int (0 : Int32), .int (2 : Int32)] 6 = mkF m 0 #[.val (.ref q1), .val (.int (0 : Int32)), .val (.int (2 : Int32)), .unset, .unset, .unset] [] := by
  first | (simp [entryFrame, mkF, argsToLocals, Value.category]; done) | rfl
set_option maxRecDepth 65536 in
set_option maxHeartbeats 40000000 in
theorem rmC32 (l : Launch) (Z : State) (a0 : Array Value) (hw : ∀ d ∈ tables_1, d.before a0 Z = true) (ws : List Jvm.Cond) (q1 : Addr) (h0 : Heap) (n0 : Nat) (x0 x1 : Int32) (kc : ClassId) (A_c : Arv Z h0 q1 kc .char (2 : Int32) [.int x0, .int x1] (.int 0)) (hx0 : AS x0) (hx1 : AS x1) (Z0 : n0 ≤ h0.size) :
    Ctr l Z ({ cls := "java/lang/StringUTF16", name := "compress", desc := "([CII)[B" } : Jvm.MethodName) jdk_52_method_16_code 6 (some (.array .byte)) ws ({ frames := 1, cells := 1, slots := 2, locals := 18 } : Room) #[.ref q1, .int (0 : Int32), .int (2 : Int32)] h0 (fun v h L => ∃ (b : Addr) (k : ClassId), v = some (.ref b) ∧ Fr n0 L ∧ Keep h0 h [] ∧ h0.size ≤ b ∧ Arv Z h b k .byte (2 : Int32) [.int (lat x0), .int (lat x1)] (.int 0) ∧ Exa Z h b "[B") := by
  refine Ctr.enter (Ls := #[.val (.ref q1), .val (.int (0 : Int32)), .val (.int (2 : Int32)), .unset, .unset, .unset]) (by decide +kernel) (fun m => ef_rmC32 q1 m) ?_
  intro p e s m below meth c T hx hby hml hown hnm hret hlk hZ hh X0 e0
  have N0 := Fr.nil n0
  refine g_iloadN X0 hx hby d4_0 (pc' := 1) rfl rfl ?_
  refine g_newarray X0 hx hZ 2  "[B" hby d4_1 (pc' := 3) rfl (w_20 hw) e0 (by decide) (by decide) (by decide) (by decide) (by decide) rfl ?_
  intro T1 b1 c1 hb1 X1 E1 A1v A1x
  have K1 := (Keep.refl h0 []).ext E1
  have Z1 := Nat.le_trans Z0 E1.1
  have A1_q1 := A_c.ext E1
  have ne1_q1 : q1 ≠ b1 := hb1 ▸ Nat.ne_of_lt A_c.lt
  have A1 : Arv Z T1.heap b1 c1 .byte (2 : Int32) [.int 0, .int 0] (.int 0) := A1v
  refine g_astoreN X1 hx hby d4_3 (pc' := 4) rfl rfl (l' := #[.val (.ref q1), .val (.int (0 : Int32)), .val (.int (2 : Int32)), .val (.ref b1), .unset, .unset]) rfl ?_
  refine g_aloadN X1 hx hby d4_4 (pc' := 5) rfl rfl rfl ?_
  refine g_iloadN X1 hx hby d4_5 (pc' := 6) rfl rfl ?_
  refine g_aloadN X1 hx hby d4_6 (pc' := 7) rfl rfl rfl ?_
  refine g_iconst X1 hx hby d4_7 (pc' := 8) rfl (z := (0 : Int32)) rfl ?_
  refine g_iloadN X1 hx hby d4_8 (pc' := 9) rfl rfl ?_
  refine g_callS X1 hx hZ hown (W := 0) (argsL := [.ref q1, .int (0 : Int32), .ref b1, .int (0 : Int32), .int (2 : Int32)]) (rest := []) hby d4_9 (pc' := 12) rfl (by rw [hml]; rfl) (w_21 hw) (w_22 hw) (w_18 hw) (w_23 hw) (by decide) (rmC52 l Z a0 hw [] q1 b1 T1.heap n0 x0 x1 _ A1_q1 hx0 hx1 _ A1 ne1_q1 (Nat.le_trans Z0 (Nat.le_of_eq hb1.symm))) rfl (by decide) (by decide) (by decide) (by decide) rfl pd__28_5bCI_5bBII_29I rfl rfl (Nat.le_of_eq rfl) ?_
  rintro _ T2 L2 X2 ⟨rfl, N2q, K2, A2⟩
  have N2 := Fr.app N0 N2q
  have K2t := K1.trans K2 (allS (Or.inr (Nat.le_trans (Keep.refl h0 []).1 (Nat.le_of_eq hb1.symm))) all0)
  have Z2 := Nat.le_trans Z1 K2.1
  have A2_q1 := A1_q1.keep K2 (ninS ne1_q1 nin0)
  have E2_b1 := A1x.keep K2
  show GoE p e below _ (T2.setTop (mkF m 12 #[.val (.ref q1), .val (.int (0 : Int32)), .val (.int (2 : Int32)), .val (.ref b1), .unset, .unset] [.int (2 : Int32)]))
  refine g_istore X2 hx hby d4_12 (pc' := 14) rfl (l' := #[.val (.ref q1), .val (.int (0 : Int32)), .val (.int (2 : Int32)), .val (.ref b1), .val (.int (2 : Int32)), .unset]) rfl ?_
  refine g_iload X2 hx hby d4_14 (pc' := 16) rfl rfl ?_
  refine g_iloadN X2 hx hby d4_16 (pc' := 17) rfl rfl ?_
  refine g_icmp_eq X2 hx hby d4_17 (by decide) (pc' := 57) (by decide) (pn := 20) rfl (fun _ => ?_) (fun z => absurd z (by decide))
  refine g_aloadN X2 hx hby d4_57 (pc' := 58) rfl rfl rfl ?_
  exact g_retA (Q := (fun v h L => ∃ (b : Addr) (k : ClassId), v = some (.ref b) ∧ Fr n0 L ∧ Keep h0 h [] ∧ h0.size ≤ b ∧ Arv Z h b k .byte (2 : Int32) [.int (lat x0), .int (lat x1)] (.int 0) ∧ Exa Z h b "[B")) X2 hx hby d4_58 rfl hret rfl hlk (by decide) (by decide) ⟨b1, c1, rfl, N2, K2t, (Nat.le_trans (Keep.refl h0 []).1 (Nat.le_of_eq hb1.symm)), A2, E2_b1⟩
theorem ef_rmF1 (q1 : Addr) (m : MethodId) : entryFrame m #[.ref q1, .int (1 : Int32)] 2 = mkF m 0 #[.val (.ref q1), .val (.int (1 : Int32))] [] := by
  first | (simp [entryFrame, mkF, argsToLocals, Value.category]; done) | rfl
set_option maxRecDepth 65536 in
set_option maxHeartbeats 40000000 in
theorem rmF1 (l : Launch) (Z : State) (a0 : Array Value) (hw : ∀ d ∈ tables_1, d.before a0 Z = true) (ws : List Jvm.Cond) (q1 : Addr) (h0 : Heap) (n0 : Nat) (kq : ClassId) (vs : List Value) (A_q : Arv Z h0 q1 kq .byte (1 : Int32) vs (.int 0)) :
    Ctr l Z ({ cls := "java/lang/StringUTF16", name := "coderFromArrayLen", desc := "([BI)B" } : Jvm.MethodName) jdk_52_method_15_code 2 (some .byte) ws ({ frames := 0, cells := 0, slots := 0, locals := 0 } : Room) #[.ref q1, .int (1 : Int32)] h0 (fun v h L => v = some (.int (0 : Int32)) ∧ Fr n0 L ∧ h = h0) := by
  refine Ctr.enter (Ls := #[.val (.ref q1), .val (.int (1 : Int32))]) (by decide +kernel) (fun m => ef_rmF1 q1 m) ?_
  intro p e s m below meth c T hx hby hml hown hnm hret hlk hZ hh X0 e0
  have N0 := Fr.nil n0
  refine g_iloadN X0 hx hby d6_0 (pc' := 1) rfl rfl ?_
  refine g_aloadN X0 hx hby d6_1 (pc' := 2) rfl rfl rfl ?_
  refine g_alen X0 hx hZ hby d6_2 (pc' := 3) rfl e0 A_q ?_
  refine g_isub X0 hx hby d6_3 (pc' := 4) rfl ?_
  refine g_eqI (b := (0 : Int32)) (by decide +kernel) ?_
  refine g_bipush X0 hx hby d6_4 (pc' := 6) rfl (z := (31 : Int32)) rfl ?_
  refine g_iushr X0 hx hby d6_6 (pc' := 7) rfl ?_
  refine g_eqI (b := (0 : Int32)) (by decide +kernel) ?_
  refine g_i2b X0 hx hby d6_7 (pc' := 8) rfl ?_
  refine g_eqI (b := (0 : Int32)) (by decide +kernel) ?_
  exact g_retN (Q := (fun v h L => v = some (.int (0 : Int32)) ∧ Fr n0 L ∧ h = h0)) (w := (0 : Int32)) X0 hx hby d6_8 hret (by simp) (by first | decide | rfl) hlk (by decide) (by decide) ⟨rfl, N0, e0⟩
theorem ef_rmF2 (q1 : Addr) (m : MethodId) : entryFrame m #[.ref q1, .int (2 : Int32)] 2 = mkF m 0 #[.val (.ref q1), .val (.int (2 : Int32))] [] := by
  first | (simp [entryFrame, mkF, argsToLocals, Value.category]; done) | rfl
set_option maxRecDepth 65536 in
set_option maxHeartbeats 40000000 in
theorem rmF2 (l : Launch) (Z : State) (a0 : Array Value) (hw : ∀ d ∈ tables_1, d.before a0 Z = true) (ws : List Jvm.Cond) (q1 : Addr) (h0 : Heap) (n0 : Nat) (kq : ClassId) (vs : List Value) (A_q : Arv Z h0 q1 kq .byte (2 : Int32) vs (.int 0)) :
    Ctr l Z ({ cls := "java/lang/StringUTF16", name := "coderFromArrayLen", desc := "([BI)B" } : Jvm.MethodName) jdk_52_method_15_code 2 (some .byte) ws ({ frames := 0, cells := 0, slots := 0, locals := 0 } : Room) #[.ref q1, .int (2 : Int32)] h0 (fun v h L => v = some (.int (0 : Int32)) ∧ Fr n0 L ∧ h = h0) := by
  refine Ctr.enter (Ls := #[.val (.ref q1), .val (.int (2 : Int32))]) (by decide +kernel) (fun m => ef_rmF2 q1 m) ?_
  intro p e s m below meth c T hx hby hml hown hnm hret hlk hZ hh X0 e0
  have N0 := Fr.nil n0
  refine g_iloadN X0 hx hby d6_0 (pc' := 1) rfl rfl ?_
  refine g_aloadN X0 hx hby d6_1 (pc' := 2) rfl rfl rfl ?_
  refine g_alen X0 hx hZ hby d6_2 (pc' := 3) rfl e0 A_q ?_
  refine g_isub X0 hx hby d6_3 (pc' := 4) rfl ?_
  refine g_eqI (b := (0 : Int32)) (by decide +kernel) ?_
  refine g_bipush X0 hx hby d6_4 (pc' := 6) rfl (z := (31 : Int32)) rfl ?_
  refine g_iushr X0 hx hby d6_6 (pc' := 7) rfl ?_
  refine g_eqI (b := (0 : Int32)) (by decide +kernel) ?_
  refine g_i2b X0 hx hby d6_7 (pc' := 8) rfl ?_
  refine g_eqI (b := (0 : Int32)) (by decide +kernel) ?_
  exact g_retN (Q := (fun v h L => v = some (.int (0 : Int32)) ∧ Fr n0 L ∧ h = h0)) (w := (0 : Int32)) X0 hx hby d6_8 hret (by simp) (by first | decide | rfl) hlk (by decide) (by decide) ⟨rfl, N0, e0⟩
theorem ef_rmS41 (q1 : Addr) (q2 : Addr) (m : MethodId) : entryFrame m #[.ref q1, .ref q2, .int (0 : Int32), .int (1 : Int32), .null] 6 = mkF m 0 #[.val (.ref q1), .val (.ref q2), .val (.int (0 : Int32)), .val (.int (1 : Int32)), .val (.null), .unset] [] := by
  first | (simp [entryFrame, mkF, argsToLocals, Value.category]; done) | rfl
set_option maxRecDepth 65536 in
set_option maxHeartbeats 40000000 in
theorem rmS41 (l : Launch) (Z : State) (a0 : Array Value) (hw : ∀ d ∈ tables_1, d.before a0 Z = true) (ws : List Jvm.Cond) (q1 : Addr) (q2 : Addr) (h0 : Heap) (n0 : Nat) (x0 : Int32) (kc : ClassId) (A_c : Arv Z h0 q2 kc .char (1 : Int32) [.int x0] (.int 0)) (hx0 : AS x0) (w1 w2 : Value) (Z0 : n0 ≤ h0.size) (E_a : Exa Z h0 q1 "java/lang/String") (F_v : Fld Z h0 q1 "java/lang/String" "value" "[B" (w1)) (F_c : Fld Z h0 q1 "java/lang/String" "coder" "B" (w2)) (n_c : q2 ≠ q1) (g_a : n0 ≤ q1) (cs : Int32) (u8 : Addr) (SS : SSt Z cs u8) (O0 : Old Z n0 h0) :
    Ctr l Z ({ cls := "java/lang/String", name := "<init>", desc := "([CIILjava/lang/Void;)V" } : Jvm.MethodName) jdk_42_method_149_code 6 none ws ({ frames := 2, cells := 1, slots := 2, locals := 35 } : Room) #[.ref q1, .ref q2, .int (0 : Int32), .int (1 : Int32), .null] h0 (fun v h L => ∃ (b : Addr) (k : ClassId), v = none ∧ Fr n0 L ∧ Keep h0 h [q1] ∧ Exa Z h q1 "java/lang/String" ∧ Fld Z h q1 "java/lang/String" "value" "[B" (.ref b) ∧ Fld Z h q1 "java/lang/String" "coder" "B" (.int (0 : Int32)) ∧ h0.size ≤ b ∧ Arv Z h b k .byte (1 : Int32) [.int (lat x0)] (.int 0) ∧ Exa Z h b "[B") := by
  refine Ctr.enter (Ls := #[.val (.ref q1), .val (.ref q2), .val (.int (0 : Int32)), .val (.int (1 : Int32)), .val (.null), .unset]) (by decide +kernel) (fun m => ef_rmS41 q1 q2 m) ?_
  intro p e s m below meth c T hx hby hml hown hnm hret hlk hZ hh X0 e0
  have N0 := Fr.nil n0
  refine g_aloadN X0 hx hby d2_0 (pc' := 1) rfl rfl rfl ?_
  obtain ⟨T1, X1, e1, st1⟩ := initO X0 hx hZ hown (w_12 hw) (w_13 hw) (w_14 hw) e0 (g := (mkF m 1 #[.val (.ref q1), .val (.ref q2), .val (.int (0 : Int32)), .val (.int (1 : Int32)), .val (.null), .unset] [.ref q1])) rfl (by rw [hml]; rfl) rfl (hb hby d2_1) (by decide) (W := 0) (by show 2 * 0 + _ ≤ _; exact Nat.le_of_eq rfl) (by decide)
  refine GoE.pull (b := T1.setTop (mkF m 4 #[.val (.ref q1), .val (.ref q2), .val (.int (0 : Int32)), .val (.int (1 : Int32)), .val (.null), .unset] [])) ?_ st1
  refine g_iloadN X1 hx hby d2_4 (pc' := 5) rfl rfl ?_
  refine g_if_ne X1 hx hby d2_5 (by decide) (pc' := 27) (by decide) (pn := 8) rfl (fun _ => ?_) (fun z => absurd z (by decide))
  refine g_getS X1 hx hZ hown hby d2_27 (pc' := 30) rfl (w_15 hw) e1 (SS.2.1.ext O0.2) ?_
  intro T2 X2 e2
  refine g_if_eq X2 hx hby d2_30 (by decide) (pc' := 58) (by decide) (pn := 33) rfl (fun z => absurd z SS.1) (fun hc30_3 => ?_)
  refine g_aloadN X2 hx hby d2_33 (pc' := 34) rfl rfl rfl ?_
  refine g_iloadN X2 hx hby d2_34 (pc' := 35) rfl rfl ?_
  refine g_iloadN X2 hx hby d2_35 (pc' := 36) rfl rfl ?_
  refine g_callS X2 hx hZ hown (W := 0) (argsL := [.ref q2, .int (0 : Int32), .int (1 : Int32)]) (rest := []) hby d2_36 (pc' := 39) rfl (by rw [hml]; rfl) (w_16 hw) (w_17 hw) (w_18 hw) (w_19 hw) (by decide) (rmC31 l Z a0 hw [] q2 h0 n0 x0 _ A_c hx0 Z0) e2 (by decide) (by decide) (by decide) (by decide) rfl pd__28_5bCII_29_5bB rfl rfl (Nat.le_of_eq rfl) ?_
  rintro _ T4 L4 X4 (⟨b4, k4, rfl, N4q, K4, G4, A4, Ex4⟩)
  · have N4 := Fr.app N0 N4q
    have nb4_q1 : q1 ≠ b4 := Nat.ne_of_lt (Nat.lt_of_lt_of_le E_a.lt G4)
    have nb4_q2 : q2 ≠ b4 := Nat.ne_of_lt (Nat.lt_of_lt_of_le A_c.lt G4)
    have O4 := O0.keep K4 all0
    have Z4 := Nat.le_trans Z0 K4.1
    have E4_q1 := E_a.keep K4
    have A4_q2 := A_c.keep K4 nin0
    have K4t := (Keep.refl h0 [q1]).trans K4 all0
    have F4_q1_value := F_v.keep K4 nin0
    have F4_q1_coder := F_c.keep K4 nin0
    show GoE p e below _ (T4.setTop (mkF m 39 #[.val (.ref q1), .val (.ref q2), .val (.int (0 : Int32)), .val (.int (1 : Int32)), .val (.null), .unset] [.ref b4]))
    refine g_astore X4 hx hby d2_39 (pc' := 41) rfl rfl (l' := #[.val (.ref q1), .val (.ref q2), .val (.int (0 : Int32)), .val (.int (1 : Int32)), .val (.null), .val (.ref b4)]) rfl ?_
    refine g_aloadN X4 hx hby d2_41 (pc' := 42) rfl rfl rfl ?_
    refine g_aload X4 hx hby d2_42 (pc' := 44) rfl rfl rfl ?_
    refine g_iloadN X4 hx hby d2_44 (pc' := 45) rfl rfl ?_
    refine g_callS X4 hx hZ hown (W := 1) (argsL := [.ref b4, .int (1 : Int32)]) (rest := [.ref q1]) hby d2_45 (pc' := 48) rfl (by rw [hml]; rfl) (w_24 hw) (w_25 hw) (w_18 hw) (w_26 hw) (by decide) (rmF1 l Z a0 hw [] b4 T4.heap n0 _ _ A4) rfl (by decide) (by decide) (by decide) (by decide) rfl pd__28_5bBI_29B rfl rfl (Nat.le_of_eq rfl) ?_
    rintro _ T5 L5 X5 ⟨rfl, N5q, e5⟩
    have N5 := Fr.app N4 N5q
    show GoE p e below _ (T5.setTop (mkF m 48 #[.val (.ref q1), .val (.ref q2), .val (.int (0 : Int32)), .val (.int (1 : Int32)), .val (.null), .val (.ref b4)] [.int (0 : Int32), .ref q1]))
    refine g_put X5 hx hZ hown hby d2_48 (pc' := 51) rfl (w_27 hw) e5 F4_q1_coder E4_q1 (Or.inr ⟨(w_28 hw), rfl, hnm⟩) (w_3 hw) (ty := .byte) (by decide) rfl rfl ?_
    intro T6 X6 W6
    have N6 := Fr.snoc X6 N5 g_a
    have O6 := O4.wr W6 g_a
    have Z6 : n0 ≤ T6.heap.size := (W6.size ▸ Z4)
    have E6_q1 := E4_q1.wr W6
    have A6_q2 := A4_q2.other W6 n_c
    have K6 := K4t.wr W6 (Or.inl (List.mem_of_getElem? (i := 0) rfl))
    have F6_q1_value := F4_q1_value.other W6 (Or.inr (slot_ne (Or.inr (w_30 hw)) (Or.inr (w_28 hw)) (by decide) (t := (.array .byte)) (t' := .byte) (by decide) (by decide)))
    have F6_q1_coder := F4_q1_coder.same W6
    have A6_b4 := A4.other W6 nb4_q1.symm
    have E6_b4 := Ex4.wr W6
    refine g_aloadN X6 hx hby d2_51 (pc' := 52) rfl rfl rfl ?_
    refine g_aload X6 hx hby d2_52 (pc' := 54) rfl rfl rfl ?_
    refine g_put X6 hx hZ hown hby d2_54 (pc' := 57) rfl (w_29 hw) rfl F6_q1_value E6_q1 (Or.inr ⟨(w_30 hw), rfl, hnm⟩) (w_3 hw) (ty := (.array .byte)) (by decide) rfl rfl ?_
    intro T7 X7 W7
    have N7 := Fr.snoc X7 N6 g_a
    have O7 := O6.wr W7 g_a
    have Z7 : n0 ≤ T7.heap.size := (W7.size ▸ Z6)
    have E7_q1 := E6_q1.wr W7
    have A7_q2 := A6_q2.other W7 n_c
    have K7 := K6.wr W7 (Or.inl (List.mem_of_getElem? (i := 0) rfl))
    have F7_q1_value := F6_q1_value.same W7
    have F7_q1_coder := F6_q1_coder.other W7 (Or.inr (slot_ne (Or.inr (w_28 hw)) (Or.inr (w_30 hw)) (by decide) (t := .byte) (t' := (.array .byte)) (by decide) (by decide)))
    have A7_b4 := A6_b4.other W7 nb4_q1.symm
    have E7_b4 := E6_b4.wr W7
    exact g_retV (Q := (fun v h L => ∃ (b : Addr) (k : ClassId), v = none ∧ Fr n0 L ∧ Keep h0 h [q1] ∧ Exa Z h q1 "java/lang/String" ∧ Fld Z h q1 "java/lang/String" "value" "[B" (.ref b) ∧ Fld Z h q1 "java/lang/String" "coder" "B" (.int (0 : Int32)) ∧ h0.size ≤ b ∧ Arv Z h b k .byte (1 : Int32) [.int (lat x0)] (.int 0) ∧ Exa Z h b "[B")) X7 hx hby d2_57 hret hlk (by decide) (by decide) ⟨b4, k4, rfl, N7, K7, E7_q1, F7_q1_value, F7_q1_coder, (Nat.le_trans (Keep.refl h0 [q1]).1 G4), A7_b4, E7_b4⟩
theorem ef_rmS42 (q1 : Addr) (q2 : Addr) (m : MethodId) : entryFrame m #[.ref q1, .ref q2, .int (0 : Int32), .int (2 : Int32), .null] 6 = mkF m 0 #[.val (.ref q1), .val (.ref q2), .val (.int (0 : Int32)), .val (.int (2 : Int32)), .val (.null), .unset] [] := by
  first | (simp [entryFrame, mkF, argsToLocals, Value.category]; done) | rfl
set_option maxRecDepth 65536 in
set_option maxHeartbeats 40000000 in
theorem rmS42 (l : Launch) (Z : State) (a0 : Array Value) (hw : ∀ d ∈ tables_1, d.before a0 Z = true) (ws : List Jvm.Cond) (q1 : Addr) (q2 : Addr) (h0 : Heap) (n0 : Nat) (x0 x1 : Int32) (kc : ClassId) (A_c : Arv Z h0 q2 kc .char (2 : Int32) [.int x0, .int x1] (.int 0)) (hx0 : AS x0) (hx1 : AS x1) (w1 w2 : Value) (Z0 : n0 ≤ h0.size) (E_a : Exa Z h0 q1 "java/lang/String") (F_v : Fld Z h0 q1 "java/lang/String" "value" "[B" (w1)) (F_c : Fld Z h0 q1 "java/lang/String" "coder" "B" (w2)) (n_c : q2 ≠ q1) (g_a : n0 ≤ q1) (cs : Int32) (u8 : Addr) (SS : SSt Z cs u8) (O0 : Old Z n0 h0) :
    Ctr l Z ({ cls := "java/lang/String", name := "<init>", desc := "([CIILjava/lang/Void;)V" } : Jvm.MethodName) jdk_42_method_149_code 6 none ws ({ frames := 2, cells := 1, slots := 2, locals := 35 } : Room) #[.ref q1, .ref q2, .int (0 : Int32), .int (2 : Int32), .null] h0 (fun v h L => ∃ (b : Addr) (k : ClassId), v = none ∧ Fr n0 L ∧ Keep h0 h [q1] ∧ Exa Z h q1 "java/lang/String" ∧ Fld Z h q1 "java/lang/String" "value" "[B" (.ref b) ∧ Fld Z h q1 "java/lang/String" "coder" "B" (.int (0 : Int32)) ∧ h0.size ≤ b ∧ Arv Z h b k .byte (2 : Int32) [.int (lat x0), .int (lat x1)] (.int 0) ∧ Exa Z h b "[B") := by
  refine Ctr.enter (Ls := #[.val (.ref q1), .val (.ref q2), .val (.int (0 : Int32)), .val (.int (2 : Int32)), .val (.null), .unset]) (by decide +kernel) (fun m => ef_rmS42 q1 q2 m) ?_
  intro p e s m below meth c T hx hby hml hown hnm hret hlk hZ hh X0 e0
  have N0 := Fr.nil n0
  refine g_aloadN X0 hx hby d2_0 (pc' := 1) rfl rfl rfl ?_
  obtain ⟨T1, X1, e1, st1⟩ := initO X0 hx hZ hown (w_12 hw) (w_13 hw) (w_14 hw) e0 (g := (mkF m 1 #[.val (.ref q1), .val (.ref q2), .val (.int (0 : Int32)), .val (.int (2 : Int32)), .val (.null), .unset] [.ref q1])) rfl (by rw [hml]; rfl) rfl (hb hby d2_1) (by decide) (W := 0) (by show 2 * 0 + _ ≤ _; exact Nat.le_of_eq rfl) (by decide)
  refine GoE.pull (b := T1.setTop (mkF m 4 #[.val (.ref q1), .val (.ref q2), .val (.int (0 : Int32)), .val (.int (2 : Int32)), .val (.null), .unset] [])) ?_ st1
  refine g_iloadN X1 hx hby d2_4 (pc' := 5) rfl rfl ?_
  refine g_if_ne X1 hx hby d2_5 (by decide) (pc' := 27) (by decide) (pn := 8) rfl (fun _ => ?_) (fun z => absurd z (by decide))
  refine g_getS X1 hx hZ hown hby d2_27 (pc' := 30) rfl (w_15 hw) e1 (SS.2.1.ext O0.2) ?_
  intro T2 X2 e2
  refine g_if_eq X2 hx hby d2_30 (by decide) (pc' := 58) (by decide) (pn := 33) rfl (fun z => absurd z SS.1) (fun hc30_3 => ?_)
  refine g_aloadN X2 hx hby d2_33 (pc' := 34) rfl rfl rfl ?_
  refine g_iloadN X2 hx hby d2_34 (pc' := 35) rfl rfl ?_
  refine g_iloadN X2 hx hby d2_35 (pc' := 36) rfl rfl ?_
  refine g_callS X2 hx hZ hown (W := 0) (argsL := [.ref q2, .int (0 : Int32), .int (2 : Int32)]) (rest := []) hby d2_36 (pc' := 39) rfl (by rw [hml]; rfl) (w_16 hw) (w_17 hw) (w_18 hw) (w_19 hw) (by decide) (rmC32 l Z a0 hw [] q2 h0 n0 x0 x1 _ A_c hx0 hx1 Z0) e2 (by decide) (by decide) (by decide) (by decide) rfl pd__28_5bCII_29_5bB rfl rfl (Nat.le_of_eq rfl) ?_
  rintro _ T4 L4 X4 (⟨b4, k4, rfl, N4q, K4, G4, A4, Ex4⟩)
  · have N4 := Fr.app N0 N4q
    have nb4_q1 : q1 ≠ b4 := Nat.ne_of_lt (Nat.lt_of_lt_of_le E_a.lt G4)
    have nb4_q2 : q2 ≠ b4 := Nat.ne_of_lt (Nat.lt_of_lt_of_le A_c.lt G4)
    have O4 := O0.keep K4 all0
    have Z4 := Nat.le_trans Z0 K4.1
    have E4_q1 := E_a.keep K4
    have A4_q2 := A_c.keep K4 nin0
    have K4t := (Keep.refl h0 [q1]).trans K4 all0
    have F4_q1_value := F_v.keep K4 nin0
    have F4_q1_coder := F_c.keep K4 nin0
    show GoE p e below _ (T4.setTop (mkF m 39 #[.val (.ref q1), .val (.ref q2), .val (.int (0 : Int32)), .val (.int (2 : Int32)), .val (.null), .unset] [.ref b4]))
    refine g_astore X4 hx hby d2_39 (pc' := 41) rfl rfl (l' := #[.val (.ref q1), .val (.ref q2), .val (.int (0 : Int32)), .val (.int (2 : Int32)), .val (.null), .val (.ref b4)]) rfl ?_
    refine g_aloadN X4 hx hby d2_41 (pc' := 42) rfl rfl rfl ?_
    refine g_aload X4 hx hby d2_42 (pc' := 44) rfl rfl rfl ?_
    refine g_iloadN X4 hx hby d2_44 (pc' := 45) rfl rfl ?_
    refine g_callS X4 hx hZ hown (W := 1) (argsL := [.ref b4, .int (2 : Int32)]) (rest := [.ref q1]) hby d2_45 (pc' := 48) rfl (by rw [hml]; rfl) (w_24 hw) (w_25 hw) (w_18 hw) (w_26 hw) (by decide) (rmF2 l Z a0 hw [] b4 T4.heap n0 _ _ A4) rfl (by decide) (by decide) (by decide) (by decide) rfl pd__28_5bBI_29B rfl rfl (Nat.le_of_eq rfl) ?_
    rintro _ T5 L5 X5 ⟨rfl, N5q, e5⟩
    have N5 := Fr.app N4 N5q
    show GoE p e below _ (T5.setTop (mkF m 48 #[.val (.ref q1), .val (.ref q2), .val (.int (0 : Int32)), .val (.int (2 : Int32)), .val (.null), .val (.ref b4)] [.int (0 : Int32), .ref q1]))
    refine g_put X5 hx hZ hown hby d2_48 (pc' := 51) rfl (w_27 hw) e5 F4_q1_coder E4_q1 (Or.inr ⟨(w_28 hw), rfl, hnm⟩) (w_3 hw) (ty := .byte) (by decide) rfl rfl ?_
    intro T6 X6 W6
    have N6 := Fr.snoc X6 N5 g_a
    have O6 := O4.wr W6 g_a
    have Z6 : n0 ≤ T6.heap.size := (W6.size ▸ Z4)
    have E6_q1 := E4_q1.wr W6
    have A6_q2 := A4_q2.other W6 n_c
    have K6 := K4t.wr W6 (Or.inl (List.mem_of_getElem? (i := 0) rfl))
    have F6_q1_value := F4_q1_value.other W6 (Or.inr (slot_ne (Or.inr (w_30 hw)) (Or.inr (w_28 hw)) (by decide) (t := (.array .byte)) (t' := .byte) (by decide) (by decide)))
    have F6_q1_coder := F4_q1_coder.same W6
    have A6_b4 := A4.other W6 nb4_q1.symm
    have E6_b4 := Ex4.wr W6
    refine g_aloadN X6 hx hby d2_51 (pc' := 52) rfl rfl rfl ?_
    refine g_aload X6 hx hby d2_52 (pc' := 54) rfl rfl rfl ?_
    refine g_put X6 hx hZ hown hby d2_54 (pc' := 57) rfl (w_29 hw) rfl F6_q1_value E6_q1 (Or.inr ⟨(w_30 hw), rfl, hnm⟩) (w_3 hw) (ty := (.array .byte)) (by decide) rfl rfl ?_
    intro T7 X7 W7
    have N7 := Fr.snoc X7 N6 g_a
    have O7 := O6.wr W7 g_a
    have Z7 : n0 ≤ T7.heap.size := (W7.size ▸ Z6)
    have E7_q1 := E6_q1.wr W7
    have A7_q2 := A6_q2.other W7 n_c
    have K7 := K6.wr W7 (Or.inl (List.mem_of_getElem? (i := 0) rfl))
    have F7_q1_value := F6_q1_value.same W7
    have F7_q1_coder := F6_q1_coder.other W7 (Or.inr (slot_ne (Or.inr (w_28 hw)) (Or.inr (w_30 hw)) (by decide) (t := .byte) (t' := (.array .byte)) (by decide) (by decide)))
    have A7_b4 := A6_b4.other W7 nb4_q1.symm
    have E7_b4 := E6_b4.wr W7
    exact g_retV (Q := (fun v h L => ∃ (b : Addr) (k : ClassId), v = none ∧ Fr n0 L ∧ Keep h0 h [q1] ∧ Exa Z h q1 "java/lang/String" ∧ Fld Z h q1 "java/lang/String" "value" "[B" (.ref b) ∧ Fld Z h q1 "java/lang/String" "coder" "B" (.int (0 : Int32)) ∧ h0.size ≤ b ∧ Arv Z h b k .byte (2 : Int32) [.int (lat x0), .int (lat x1)] (.int 0) ∧ Exa Z h b "[B")) X7 hx hby d2_57 hret hlk (by decide) (by decide) ⟨b4, k4, rfl, N7, K7, E7_q1, F7_q1_value, F7_q1_coder, (Nat.le_trans (Keep.refl h0 [q1]).1 G4), A7_b4, E7_b4⟩
theorem ef_rmS11 (q1 : Addr) (q2 : Addr) (m : MethodId) : entryFrame m #[.ref q1, .ref q2] 2 = mkF m 0 #[.val (.ref q1), .val (.ref q2)] [] := by
  first | (simp [entryFrame, mkF, argsToLocals, Value.category]; done) | rfl
set_option maxRecDepth 65536 in
set_option maxHeartbeats 40000000 in
theorem rmS11 (l : Launch) (Z : State) (a0 : Array Value) (hw : ∀ d ∈ tables_1, d.before a0 Z = true) (ws : List Jvm.Cond) (q1 : Addr) (q2 : Addr) (h0 : Heap) (n0 : Nat) (x0 : Int32) (kc : ClassId) (A_c : Arv Z h0 q2 kc .char (1 : Int32) [.int x0] (.int 0)) (hx0 : AS x0) (w1 w2 : Value) (Z0 : n0 ≤ h0.size) (E_a : Exa Z h0 q1 "java/lang/String") (F_v : Fld Z h0 q1 "java/lang/String" "value" "[B" (w1)) (F_c : Fld Z h0 q1 "java/lang/String" "coder" "B" (w2)) (n_c : q2 ≠ q1) (g_a : n0 ≤ q1) (cs : Int32) (u8 : Addr) (SS : SSt Z cs u8) (O0 : Old Z n0 h0) :
    Ctr l Z ({ cls := "java/lang/String", name := "<init>", desc := "([C)V" } : Jvm.MethodName) jdk_42_method_3_code 2 none ws ({ frames := 3, cells := 1, slots := 2, locals := 52 } : Room) #[.ref q1, .ref q2] h0 (fun v h L => ∃ (b : Addr) (k : ClassId), v = none ∧ Fr n0 L ∧ Keep h0 h [q1] ∧ Exa Z h q1 "java/lang/String" ∧ Fld Z h q1 "java/lang/String" "value" "[B" (.ref b) ∧ Fld Z h q1 "java/lang/String" "coder" "B" (.int (0 : Int32)) ∧ h0.size ≤ b ∧ Arv Z h b k .byte (1 : Int32) [.int (lat x0)] (.int 0) ∧ Exa Z h b "[B") := by
  refine Ctr.enter (Ls := #[.val (.ref q1), .val (.ref q2)]) (by decide +kernel) (fun m => ef_rmS11 q1 q2 m) ?_
  intro p e s m below meth c T hx hby hml hown hnm hret hlk hZ hh X0 e0
  have N0 := Fr.nil n0
  refine g_aloadN X0 hx hby d1_0 (pc' := 1) rfl rfl rfl ?_
  refine g_aloadN X0 hx hby d1_1 (pc' := 2) rfl rfl rfl ?_
  refine g_iconst X0 hx hby d1_2 (pc' := 3) rfl (z := (0 : Int32)) rfl ?_
  refine g_aloadN X0 hx hby d1_3 (pc' := 4) rfl rfl rfl ?_
  refine g_alen X0 hx hZ hby d1_4 (pc' := 5) rfl e0 A_c ?_
  refine g_aconstNull X0 hx hby d1_5 (pc' := 6) rfl ?_
  refine g_callI X0 hx hZ hown (W := 0) (argsL := [.ref q2, .int (0 : Int32), .int (1 : Int32), .null]) (b := q1) (rest := []) hby d1_6 (pc' := 9) rfl (by rw [hml]; rfl) (w_8 hw) (w_9 hw) (w_4 hw) (w_11 hw) rfl (by decide) (rmS41 l Z a0 hw [] q1 q2 h0 n0 x0 _ A_c hx0 _ _ Z0 E_a F_v F_c n_c g_a cs u8 SS O0) e0 (by decide) (by decide) (by decide) (by decide) rfl pd__28_5bCIILjava_2flang_2fVoid_3b_29V rfl rfl (Nat.le_of_eq rfl) ?_
  rintro _ T1 L1 X1 (⟨b1, k1, rfl, N1q, K1, Ei1, Fv1, Fc1, G1, A1, Ex1⟩)
  · have N1 := Fr.app N0 N1q
    have nb1_q1 : q1 ≠ b1 := Nat.ne_of_lt (Nat.lt_of_lt_of_le E_a.lt G1)
    have nb1_q2 : q2 ≠ b1 := Nat.ne_of_lt (Nat.lt_of_lt_of_le A_c.lt G1)
    have O1 := O0.keep K1 (allS g_a all0)
    have Z1 := Nat.le_trans Z0 K1.1
    have E1_q1 := E_a.keep K1
    have A1_q2 := A_c.keep K1 (ninS n_c nin0)
    have K1t := (Keep.refl h0 [q1]).trans K1 (allS (Or.inl (List.mem_of_getElem? (i := 0) rfl)) all0)
    show GoE p e below _ (T1.setTop (mkF m 9 #[.val (.ref q1), .val (.ref q2)] []))
    exact g_retV (Q := (fun v h L => ∃ (b : Addr) (k : ClassId), v = none ∧ Fr n0 L ∧ Keep h0 h [q1] ∧ Exa Z h q1 "java/lang/String" ∧ Fld Z h q1 "java/lang/String" "value" "[B" (.ref b) ∧ Fld Z h q1 "java/lang/String" "coder" "B" (.int (0 : Int32)) ∧ h0.size ≤ b ∧ Arv Z h b k .byte (1 : Int32) [.int (lat x0)] (.int 0) ∧ Exa Z h b "[B")) X1 hx hby d1_9 hret hlk (by decide) (by decide) ⟨b1, k1, rfl, N1, K1t, Ei1, Fv1, Fc1, (Nat.le_trans (Keep.refl h0 [q1]).1 G1), A1, Ex1⟩
theorem ef_rmS12 (q1 : Addr) (q2 : Addr) (m : MethodId) : entryFrame m #[.ref q1, .ref q2] 2 = mkF m 0 #[.val (.ref q1), .val (.ref q2)] [] := by
  first | (simp [entryFrame, mkF, argsToLocals, Value.category]; done) | rfl
set_option maxRecDepth 65536 in
set_option maxHeartbeats 40000000 in
theorem rmS12 (l : Launch) (Z : State) (a0 : Array Value) (hw : ∀ d ∈ tables_1, d.before a0 Z = true) (ws : List Jvm.Cond) (q1 : Addr) (q2 : Addr) (h0 : Heap) (n0 : Nat) (x0 x1 : Int32) (kc : ClassId) (A_c : Arv Z h0 q2 kc .char (2 : Int32) [.int x0, .int x1] (.int 0)) (hx0 : AS x0) (hx1 : AS x1) (w1 w2 : Value) (Z0 : n0 ≤ h0.size) (E_a : Exa Z h0 q1 "java/lang/String") (F_v : Fld Z h0 q1 "java/lang/String" "value" "[B" (w1)) (F_c : Fld Z h0 q1 "java/lang/String" "coder" "B" (w2)) (n_c : q2 ≠ q1) (g_a : n0 ≤ q1) (cs : Int32) (u8 : Addr) (SS : SSt Z cs u8) (O0 : Old Z n0 h0) :
    Ctr l Z ({ cls := "java/lang/String", name := "<init>", desc := "([C)V" } : Jvm.MethodName) jdk_42_method_3_code 2 none ws ({ frames := 3, cells := 1, slots := 2, locals := 52 } : Room) #[.ref q1, .ref q2] h0 (fun v h L => ∃ (b : Addr) (k : ClassId), v = none ∧ Fr n0 L ∧ Keep h0 h [q1] ∧ Exa Z h q1 "java/lang/String" ∧ Fld Z h q1 "java/lang/String" "value" "[B" (.ref b) ∧ Fld Z h q1 "java/lang/String" "coder" "B" (.int (0 : Int32)) ∧ h0.size ≤ b ∧ Arv Z h b k .byte (2 : Int32) [.int (lat x0), .int (lat x1)] (.int 0) ∧ Exa Z h b "[B") := by
  refine Ctr.enter (Ls := #[.val (.ref q1), .val (.ref q2)]) (by decide +kernel) (fun m => ef_rmS12 q1 q2 m) ?_
  intro p e s m below meth c T hx hby hml hown hnm hret hlk hZ hh X0 e0
  have N0 := Fr.nil n0
  refine g_aloadN X0 hx hby d1_0 (pc' := 1) rfl rfl rfl ?_
  refine g_aloadN X0 hx hby d1_1 (pc' := 2) rfl rfl rfl ?_
  refine g_iconst X0 hx hby d1_2 (pc' := 3) rfl (z := (0 : Int32)) rfl ?_
  refine g_aloadN X0 hx hby d1_3 (pc' := 4) rfl rfl rfl ?_
  refine g_alen X0 hx hZ hby d1_4 (pc' := 5) rfl e0 A_c ?_
  refine g_aconstNull X0 hx hby d1_5 (pc' := 6) rfl ?_
  refine g_callI X0 hx hZ hown (W := 0) (argsL := [.ref q2, .int (0 : Int32), .int (2 : Int32), .null]) (b := q1) (rest := []) hby d1_6 (pc' := 9) rfl (by rw [hml]; rfl) (w_8 hw) (w_9 hw) (w_4 hw) (w_11 hw) rfl (by decide) (rmS42 l Z a0 hw [] q1 q2 h0 n0 x0 x1 _ A_c hx0 hx1 _ _ Z0 E_a F_v F_c n_c g_a cs u8 SS O0) e0 (by decide) (by decide) (by decide) (by decide) rfl pd__28_5bCIILjava_2flang_2fVoid_3b_29V rfl rfl (Nat.le_of_eq rfl) ?_
  rintro _ T1 L1 X1 (⟨b1, k1, rfl, N1q, K1, Ei1, Fv1, Fc1, G1, A1, Ex1⟩)
  · have N1 := Fr.app N0 N1q
    have nb1_q1 : q1 ≠ b1 := Nat.ne_of_lt (Nat.lt_of_lt_of_le E_a.lt G1)
    have nb1_q2 : q2 ≠ b1 := Nat.ne_of_lt (Nat.lt_of_lt_of_le A_c.lt G1)
    have O1 := O0.keep K1 (allS g_a all0)
    have Z1 := Nat.le_trans Z0 K1.1
    have E1_q1 := E_a.keep K1
    have A1_q2 := A_c.keep K1 (ninS n_c nin0)
    have K1t := (Keep.refl h0 [q1]).trans K1 (allS (Or.inl (List.mem_of_getElem? (i := 0) rfl)) all0)
    show GoE p e below _ (T1.setTop (mkF m 9 #[.val (.ref q1), .val (.ref q2)] []))
    exact g_retV (Q := (fun v h L => ∃ (b : Addr) (k : ClassId), v = none ∧ Fr n0 L ∧ Keep h0 h [q1] ∧ Exa Z h q1 "java/lang/String" ∧ Fld Z h q1 "java/lang/String" "value" "[B" (.ref b) ∧ Fld Z h q1 "java/lang/String" "coder" "B" (.int (0 : Int32)) ∧ h0.size ≤ b ∧ Arv Z h b k .byte (2 : Int32) [.int (lat x0), .int (lat x1)] (.int 0) ∧ Exa Z h b "[B")) X1 hx hby d1_9 hret hlk (by decide) (by decide) ⟨b1, k1, rfl, N1, K1t, Ei1, Fv1, Fc1, (Nat.le_trans (Keep.refl h0 [q1]).1 G1), A1, Ex1⟩
theorem ef_rmCD (q1 : Addr) (m : MethodId) : entryFrame m #[.ref q1] 1 = mkF m 0 #[.val (.ref q1)] [] := by
  first | (simp [entryFrame, mkF, argsToLocals, Value.category]; done) | rfl
set_option maxRecDepth 65536 in
set_option maxHeartbeats 40000000 in
theorem rmCD (l : Launch) (Z : State) (a0 : Array Value) (hw : ∀ d ∈ tables_1, d.before a0 Z = true) (ws : List Jvm.Cond) (q1 : Addr) (h0 : Heap) (n0 : Nat) (F_c : Fld Z h0 q1 "java/lang/String" "coder" "B" (.int (0 : Int32))) (cs : Int32) (u8 : Addr) (SS : SSt Z cs u8) (O0 : Old Z n0 h0) :
    Ctr l Z ({ cls := "java/lang/String", name := "coder", desc := "()B" } : Jvm.MethodName) jdk_42_method_152_code 1 (some .byte) ws ({ frames := 0, cells := 0, slots := 0, locals := 0 } : Room) #[.ref q1] h0 (fun v h L => v = some (.int (0 : Int32)) ∧ Fr n0 L ∧ h = h0) := by
  refine Ctr.enter (Ls := #[.val (.ref q1)]) (by decide +kernel) (fun m => ef_rmCD q1 m) ?_
  intro p e s m below meth c T hx hby hml hown hnm hret hlk hZ hh X0 e0
  have N0 := Fr.nil n0
  refine g_getS X0 hx hZ hown hby d10_0 (pc' := 3) rfl (w_15 hw) e0 (SS.2.1.ext O0.2) ?_
  intro T1 X1 e1
  refine g_if_eq X1 hx hby d10_3 (by decide) (pc' := 13) (by decide) (pn := 6) rfl (fun z => absurd z SS.1) (fun hc3_2 => ?_)
  refine g_aloadN X1 hx hby d10_6 (pc' := 7) rfl rfl rfl ?_
  refine g_get X1 hx hZ hown hby d10_7 (pc' := 10) rfl (w_27 hw) e1 F_c ?_
  intro T3 X3 e3
  refine g_goto X3 hx hby d10_10 (by decide) (pc' := 14) (by decide) ?_
  exact g_retN (Q := (fun v h L => v = some (.int (0 : Int32)) ∧ Fr n0 L ∧ h = h0)) (w := (0 : Int32)) X3 hx hby d10_14 hret (by simp) (by first | decide | rfl) hlk (by decide) (by decide) ⟨rfl, N0, e3⟩
theorem ef_rmCP1 (q1 : Addr) (m : MethodId) : entryFrame m #[.ref q1, .int (0 : Int32), .int (1 : Int32)] 5 = mkF m 0 #[.val (.ref q1), .val (.int (0 : Int32)), .val (.int (1 : Int32)), .unset, .unset] [] := by
  first | (simp [entryFrame, mkF, argsToLocals, Value.category]; done) | rfl
set_option maxRecDepth 65536 in
set_option maxHeartbeats 40000000 in
theorem rmCP1 (l : Launch) (Z : State) (a0 : Array Value) (hw : ∀ d ∈ tables_1, d.before a0 Z = true) (ws : List Jvm.Cond) (q1 : Addr) (h0 : Heap) (n0 : Nat) (x0 : Int32) (kv : ClassId) (hx0 : AS x0) (A_v : Arv Z h0 q1 kv .byte (1 : Int32) [.int (lat x0)] (.int 0)) :
    Ctr l Z ({ cls := "java/lang/StringCoding", name := "countPositives", desc := "([BII)I" } : Jvm.MethodName) jdk_123_method_3_code 5 (some .int) ws ({ frames := 0, cells := 0, slots := 0, locals := 0 } : Room) #[.ref q1, .int (0 : Int32), .int (1 : Int32)] h0 (fun v h L => v = some (.int (1 : Int32)) ∧ Fr n0 L ∧ h = h0) := by
  refine Ctr.enter (Ls := #[.val (.ref q1), .val (.int (0 : Int32)), .val (.int (1 : Int32)), .unset, .unset]) (by decide +kernel) (fun m => ef_rmCP1 q1 m) ?_
  intro p e s m below meth c T hx hby hml hown hnm hret hlk hZ hh X0 e0
  have N0 := Fr.nil n0
  refine g_iloadN X0 hx hby d14_0 (pc' := 1) rfl rfl ?_
  refine g_iloadN X0 hx hby d14_1 (pc' := 2) rfl rfl ?_
  refine g_iadd X0 hx hby d14_2 (pc' := 3) rfl ?_
  refine g_eqI (b := (1 : Int32)) (by decide +kernel) ?_
  refine g_istoreN X0 hx hby d14_3 (pc' := 4) rfl (l' := #[.val (.ref q1), .val (.int (0 : Int32)), .val (.int (1 : Int32)), .val (.int (1 : Int32)), .unset]) rfl ?_
  refine g_iloadN X0 hx hby d14_4 (pc' := 5) rfl rfl ?_
  refine g_istore X0 hx hby d14_5 (pc' := 7) rfl (l' := #[.val (.ref q1), .val (.int (0 : Int32)), .val (.int (1 : Int32)), .val (.int (1 : Int32)), .val (.int (0 : Int32))]) rfl ?_
  refine g_iload X0 hx hby d14_7 (pc' := 9) rfl rfl ?_
  refine g_iloadN X0 hx hby d14_9 (pc' := 10) rfl rfl ?_
  refine g_icmp_ge X0 hx hby d14_10 (by decide) (pc' := 31) (by decide) (pn := 13) rfl (fun z => absurd z (by decide)) (fun _ => ?_)
  refine g_aloadN X0 hx hby d14_13 (pc' := 14) rfl rfl rfl ?_
  refine g_iload X0 hx hby d14_14 (pc' := 16) rfl rfl ?_
  refine g_baload X0 hx hZ hby d14_16 (pc' := 17) rfl e0 A_v (by decide) (v := .int (lat x0)) rfl ?_
  refine g_if_ge X0 hx hby d14_17 (by decide) (pc' := 25) (by decide) (pn := 20) rfl (fun hc17_1 => ?_) (fun z => absurd z (own_latpos hx0))
  refine g_iinc X0 hx hby d14_25 (pc' := 28) rfl rfl (l' := #[.val (.ref q1), .val (.int (0 : Int32)), .val (.int (1 : Int32)), .val (.int (1 : Int32)), .val (.int (1 : Int32))]) rfl ?_
  refine g_goto X0 hx hby d14_28 (by decide) (pc' := 7) (by decide) ?_
  refine g_iload X0 hx hby d14_7 (pc' := 9) rfl rfl ?_
  refine g_iloadN X0 hx hby d14_9 (pc' := 10) rfl rfl ?_
  refine g_icmp_ge X0 hx hby d14_10 (by decide) (pc' := 31) (by decide) (pn := 13) rfl (fun _ => ?_) (fun z => absurd z (by decide))
  refine g_iloadN X0 hx hby d14_31 (pc' := 32) rfl rfl ?_
  exact g_retI (Q := (fun v h L => v = some (.int (1 : Int32)) ∧ Fr n0 L ∧ h = h0)) X0 hx hby d14_32 hret hlk (by decide) (by decide) ⟨rfl, N0, e0⟩
theorem ef_rmCP2 (q1 : Addr) (m : MethodId) : entryFrame m #[.ref q1, .int (0 : Int32), .int (2 : Int32)] 5 = mkF m 0 #[.val (.ref q1), .val (.int (0 : Int32)), .val (.int (2 : Int32)), .unset, .unset] [] := by
  first | (simp [entryFrame, mkF, argsToLocals, Value.category]; done) | rfl
set_option maxRecDepth 65536 in
set_option maxHeartbeats 40000000 in
theorem rmCP2 (l : Launch) (Z : State) (a0 : Array Value) (hw : ∀ d ∈ tables_1, d.before a0 Z = true) (ws : List Jvm.Cond) (q1 : Addr) (h0 : Heap) (n0 : Nat) (x0 x1 : Int32) (kv : ClassId) (hx0 : AS x0) (hx1 : AS x1) (A_v : Arv Z h0 q1 kv .byte (2 : Int32) [.int (lat x0), .int (lat x1)] (.int 0)) :
    Ctr l Z ({ cls := "java/lang/StringCoding", name := "countPositives", desc := "([BII)I" } : Jvm.MethodName) jdk_123_method_3_code 5 (some .int) ws ({ frames := 0, cells := 0, slots := 0, locals := 0 } : Room) #[.ref q1, .int (0 : Int32), .int (2 : Int32)] h0 (fun v h L => v = some (.int (2 : Int32)) ∧ Fr n0 L ∧ h = h0) := by
  refine Ctr.enter (Ls := #[.val (.ref q1), .val (.int (0 : Int32)), .val (.int (2 : Int32)), .unset, .unset]) (by decide +kernel) (fun m => ef_rmCP2 q1 m) ?_
  intro p e s m below meth c T hx hby hml hown hnm hret hlk hZ hh X0 e0
  have N0 := Fr.nil n0
  refine g_iloadN X0 hx hby d14_0 (pc' := 1) rfl rfl ?_
  refine g_iloadN X0 hx hby d14_1 (pc' := 2) rfl rfl ?_
  refine g_iadd X0 hx hby d14_2 (pc' := 3) rfl ?_
  refine g_eqI (b := (2 : Int32)) (by decide +kernel) ?_
  refine g_istoreN X0 hx hby d14_3 (pc' := 4) rfl (l' := #[.val (.ref q1), .val (.int (0 : Int32)), .val (.int (2 : Int32)), .val (.int (2 : Int32)), .unset]) rfl ?_
  refine g_iloadN X0 hx hby d14_4 (pc' := 5) rfl rfl ?_
  refine g_istore X0 hx hby d14_5 (pc' := 7) rfl (l' := #[.val (.ref q1), .val (.int (0 : Int32)), .val (.int (2 : Int32)), .val (.int (2 : Int32)), .val (.int (0 : Int32))]) rfl ?_
  refine g_iload X0 hx hby d14_7 (pc' := 9) rfl rfl ?_
  refine g_iloadN X0 hx hby d14_9 (pc' := 10) rfl rfl ?_
  refine g_icmp_ge X0 hx hby d14_10 (by decide) (pc' := 31) (by decide) (pn := 13) rfl (fun z => absurd z (by decide)) (fun _ => ?_)
  refine g_aloadN X0 hx hby d14_13 (pc' := 14) rfl rfl rfl ?_
  refine g_iload X0 hx hby d14_14 (pc' := 16) rfl rfl ?_
  refine g_baload X0 hx hZ hby d14_16 (pc' := 17) rfl e0 A_v (by decide) (v := .int (lat x0)) rfl ?_
  refine g_if_ge X0 hx hby d14_17 (by decide) (pc' := 25) (by decide) (pn := 20) rfl (fun hc17_1 => ?_) (fun z => absurd z (own_latpos hx0))
  refine g_iinc X0 hx hby d14_25 (pc' := 28) rfl rfl (l' := #[.val (.ref q1), .val (.int (0 : Int32)), .val (.int (2 : Int32)), .val (.int (2 : Int32)), .val (.int (1 : Int32))]) rfl ?_
  refine g_goto X0 hx hby d14_28 (by decide) (pc' := 7) (by decide) ?_
  refine g_iload X0 hx hby d14_7 (pc' := 9) rfl rfl ?_
  refine g_iloadN X0 hx hby d14_9 (pc' := 10) rfl rfl ?_
  refine g_icmp_ge X0 hx hby d14_10 (by decide) (pc' := 31) (by decide) (pn := 13) rfl (fun z => absurd z (by decide)) (fun _ => ?_)
  refine g_aloadN X0 hx hby d14_13 (pc' := 14) rfl rfl rfl ?_
  refine g_iload X0 hx hby d14_14 (pc' := 16) rfl rfl ?_
  refine g_baload X0 hx hZ hby d14_16 (pc' := 17) rfl e0 A_v (by decide) (v := .int (lat x1)) rfl ?_
  refine g_if_ge X0 hx hby d14_17 (by decide) (pc' := 25) (by decide) (pn := 20) rfl (fun hc17_2 => ?_) (fun z => absurd z (own_latpos hx1))
  refine g_iinc X0 hx hby d14_25 (pc' := 28) rfl rfl (l' := #[.val (.ref q1), .val (.int (0 : Int32)), .val (.int (2 : Int32)), .val (.int (2 : Int32)), .val (.int (2 : Int32))]) rfl ?_
  refine g_goto X0 hx hby d14_28 (by decide) (pc' := 7) (by decide) ?_
  refine g_iload X0 hx hby d14_7 (pc' := 9) rfl rfl ?_
  refine g_iloadN X0 hx hby d14_9 (pc' := 10) rfl rfl ?_
  refine g_icmp_ge X0 hx hby d14_10 (by decide) (pc' := 31) (by decide) (pn := 13) rfl (fun _ => ?_) (fun z => absurd z (by decide))
  refine g_iloadN X0 hx hby d14_31 (pc' := 32) rfl rfl ?_
  exact g_retI (Q := (fun v h L => v = some (.int (2 : Int32)) ∧ Fr n0 L ∧ h = h0)) X0 hx hby d14_32 hret hlk (by decide) (by decide) ⟨rfl, N0, e0⟩
theorem ef_rmHN1 (q1 : Addr) (m : MethodId) : entryFrame m #[.ref q1, .int (0 : Int32), .int (1 : Int32)] 3 = mkF m 0 #[.val (.ref q1), .val (.int (0 : Int32)), .val (.int (1 : Int32))] [] := by
  first | (simp [entryFrame, mkF, argsToLocals, Value.category]; done) | rfl
set_option maxRecDepth 65536 in
set_option maxHeartbeats 40000000 in
theorem rmHN1 (l : Launch) (Z : State) (a0 : Array Value) (hw : ∀ d ∈ tables_1, d.before a0 Z = true) (ws : List Jvm.Cond) (q1 : Addr) (h0 : Heap) (n0 : Nat) (x0 : Int32) (kv : ClassId) (hx0 : AS x0) (A_v : Arv Z h0 q1 kv .byte (1 : Int32) [.int (lat x0)] (.int 0)) :
    Ctr l Z ({ cls := "java/lang/StringCoding", name := "hasNegatives", desc := "([BII)Z" } : Jvm.MethodName) jdk_123_method_2_code 3 (some .boolean) ws ({ frames := 1, cells := 0, slots := 0, locals := 16 } : Room) #[.ref q1, .int (0 : Int32), .int (1 : Int32)] h0 (fun v h L => v = some (.int (0 : Int32)) ∧ Fr n0 L ∧ h = h0) := by
  refine Ctr.enter (Ls := #[.val (.ref q1), .val (.int (0 : Int32)), .val (.int (1 : Int32))]) (by decide +kernel) (fun m => ef_rmHN1 q1 m) ?_
  intro p e s m below meth c T hx hby hml hown hnm hret hlk hZ hh X0 e0
  have N0 := Fr.nil n0
  refine g_aloadN X0 hx hby d13_0 (pc' := 1) rfl rfl rfl ?_
  refine g_iloadN X0 hx hby d13_1 (pc' := 2) rfl rfl ?_
  refine g_iloadN X0 hx hby d13_2 (pc' := 3) rfl rfl ?_
  refine g_callS X0 hx hZ hown (W := 0) (argsL := [.ref q1, .int (0 : Int32), .int (1 : Int32)]) (rest := []) hby d13_3 (pc' := 6) rfl (by rw [hml]; rfl) (w_71 hw) (w_72 hw) (w_69 hw) (w_73 hw) (by decide) (rmCP1 l Z a0 hw [] q1 h0 n0 x0 _ hx0 A_v) e0 (by decide) (by decide) (by decide) (by decide) rfl pd__28_5bBII_29I rfl rfl (Nat.le_of_eq rfl) ?_
  rintro _ T1 L1 X1 ⟨rfl, N1q, e1⟩
  have N1 := Fr.app N0 N1q
  show GoE p e below _ (T1.setTop (mkF m 6 #[.val (.ref q1), .val (.int (0 : Int32)), .val (.int (1 : Int32))] [.int (1 : Int32)]))
  refine g_iloadN X1 hx hby d13_6 (pc' := 7) rfl rfl ?_
  refine g_icmp_eq X1 hx hby d13_7 (by decide) (pc' := 14) (by decide) (pn := 10) rfl (fun _ => ?_) (fun z => absurd z (by decide))
  refine g_iconst X1 hx hby d13_14 (pc' := 15) rfl (z := (0 : Int32)) rfl ?_
  exact g_retN (Q := (fun v h L => v = some (.int (0 : Int32)) ∧ Fr n0 L ∧ h = h0)) (w := (0 : Int32)) X1 hx hby d13_15 hret (by simp) (by first | decide | rfl) hlk (by decide) (by decide) ⟨rfl, N1, e1⟩
theorem ef_rmHN2 (q1 : Addr) (m : MethodId) : entryFrame m #[.ref q1, .int (0 : Int32), .int (2 : Int32)] 3 = mkF m 0 #[.val (.ref q1), .val (.int (0 : Int32)), .val (.int (2 : Int32))] [] := by
  first | (simp [entryFrame, mkF, argsToLocals, Value.category]; done) | rfl
set_option maxRecDepth 65536 in
set_option maxHeartbeats 40000000 in
theorem rmHN2 (l : Launch) (Z : State) (a0 : Array Value) (hw : ∀ d ∈ tables_1, d.before a0 Z = true) (ws : List Jvm.Cond) (q1 : Addr) (h0 : Heap) (n0 : Nat) (x0 x1 : Int32) (kv : ClassId) (hx0 : AS x0) (hx1 : AS x1) (A_v : Arv Z h0 q1 kv .byte (2 : Int32) [.int (lat x0), .int (lat x1)] (.int 0)) :
    Ctr l Z ({ cls := "java/lang/StringCoding", name := "hasNegatives", desc := "([BII)Z" } : Jvm.MethodName) jdk_123_method_2_code 3 (some .boolean) ws ({ frames := 1, cells := 0, slots := 0, locals := 16 } : Room) #[.ref q1, .int (0 : Int32), .int (2 : Int32)] h0 (fun v h L => v = some (.int (0 : Int32)) ∧ Fr n0 L ∧ h = h0) := by
  refine Ctr.enter (Ls := #[.val (.ref q1), .val (.int (0 : Int32)), .val (.int (2 : Int32))]) (by decide +kernel) (fun m => ef_rmHN2 q1 m) ?_
  intro p e s m below meth c T hx hby hml hown hnm hret hlk hZ hh X0 e0
  have N0 := Fr.nil n0
  refine g_aloadN X0 hx hby d13_0 (pc' := 1) rfl rfl rfl ?_
  refine g_iloadN X0 hx hby d13_1 (pc' := 2) rfl rfl ?_
  refine g_iloadN X0 hx hby d13_2 (pc' := 3) rfl rfl ?_
  refine g_callS X0 hx hZ hown (W := 0) (argsL := [.ref q1, .int (0 : Int32), .int (2 : Int32)]) (rest := []) hby d13_3 (pc' := 6) rfl (by rw [hml]; rfl) (w_71 hw) (w_72 hw) (w_69 hw) (w_73 hw) (by decide) (rmCP2 l Z a0 hw [] q1 h0 n0 x0 x1 _ hx0 hx1 A_v) e0 (by decide) (by decide) (by decide) (by decide) rfl pd__28_5bBII_29I rfl rfl (Nat.le_of_eq rfl) ?_
  rintro _ T1 L1 X1 ⟨rfl, N1q, e1⟩
  have N1 := Fr.app N0 N1q
  show GoE p e below _ (T1.setTop (mkF m 6 #[.val (.ref q1), .val (.int (0 : Int32)), .val (.int (2 : Int32))] [.int (2 : Int32)]))
  refine g_iloadN X1 hx hby d13_6 (pc' := 7) rfl rfl ?_
  refine g_icmp_eq X1 hx hby d13_7 (by decide) (pc' := 14) (by decide) (pn := 10) rfl (fun _ => ?_) (fun z => absurd z (by decide))
  refine g_iconst X1 hx hby d13_14 (pc' := 15) rfl (z := (0 : Int32)) rfl ?_
  exact g_retN (Q := (fun v h L => v = some (.int (0 : Int32)) ∧ Fr n0 L ∧ h = h0)) (w := (0 : Int32)) X1 hx hby d13_15 hret (by simp) (by first | decide | rfl) hlk (by decide) (by decide) ⟨rfl, N1, e1⟩
theorem ef_rmE81 (q1 : Addr) (m : MethodId) : entryFrame m #[.int (0 : Int32), .ref q1, .int (1 : Int32)] 9 = mkF m 0 #[.val (.int (0 : Int32)), .val (.ref q1), .val (.int (1 : Int32)), .unset, .unset, .unset, .unset, .unset, .unset] [] := by
  first | (simp [entryFrame, mkF, argsToLocals, Value.category]; done) | rfl
set_option maxRecDepth 65536 in
set_option maxHeartbeats 40000000 in
theorem rmE81 (l : Launch) (Z : State) (a0 : Array Value) (hw : ∀ d ∈ tables_1, d.before a0 Z = true) (ws : List Jvm.Cond) (q1 : Addr) (h0 : Heap) (n0 : Nat) (x0 : Int32) (kv : ClassId) (hx0 : AS x0) (A_v : Arv Z h0 q1 kv .byte (1 : Int32) [.int (lat x0)] (.int 0)) (E_v : Exa Z h0 q1 "[B") (Z0 : n0 ≤ h0.size)  :
    Ctr l Z ({ cls := "java/lang/String", name := "encodeUTF8", desc := "(B[BZ)[B" } : Jvm.MethodName) jdk_42_method_46_code 9 (some (.array .byte)) ws ({ frames := 2, cells := 1, slots := 2, locals := 30 } : Room) #[.int (0 : Int32), .ref q1, .int (1 : Int32)] h0 (fun v h L => ∃ (b : Addr) (k : ClassId), v = some (.ref b) ∧ Fr n0 L ∧ Keep h0 h [] ∧ h0.size ≤ b ∧ Arv Z h b k .byte (1 : Int32) [.int (lat x0)] (.int 0) ∧ Exa Z h b "[B") := by
  refine Ctr.enter (Ls := #[.val (.int (0 : Int32)), .val (.ref q1), .val (.int (1 : Int32)), .unset, .unset, .unset, .unset, .unset, .unset]) (by decide +kernel) (fun m => ef_rmE81 q1 m) ?_
  intro p e s m below meth c T hx hby hml hown hnm hret hlk hZ hh X0 e0
  have N0 := Fr.nil n0
  refine g_iloadN X0 hx hby d12_0 (pc' := 1) rfl rfl ?_
  refine g_iconst X0 hx hby d12_1 (pc' := 2) rfl (z := (1 : Int32)) rfl ?_
  refine g_icmp_ne X0 hx hby d12_2 (by decide) (pc' := 11) (by decide) (pn := 5) rfl (fun _ => ?_) (fun z => absurd z (by decide))
  refine g_aloadN X0 hx hby d12_11 (pc' := 12) rfl rfl rfl ?_
  refine g_iconst X0 hx hby d12_12 (pc' := 13) rfl (z := (0 : Int32)) rfl ?_
  refine g_aloadN X0 hx hby d12_13 (pc' := 14) rfl rfl rfl ?_
  refine g_alen X0 hx hZ hby d12_14 (pc' := 15) rfl e0 A_v ?_
  refine g_callS X0 hx hZ hown (W := 0) (argsL := [.ref q1, .int (0 : Int32), .int (1 : Int32)]) (rest := []) hby d12_15 (pc' := 18) rfl (by rw [hml]; rfl) (w_67 hw) (w_68 hw) (w_69 hw) (w_70 hw) (by decide) (rmHN1 l Z a0 hw [] q1 h0 n0 x0 _ hx0 A_v) e0 (by decide) (by decide) (by decide) (by decide) rfl pd__28_5bBII_29Z rfl rfl (Nat.le_of_eq rfl) ?_
  rintro _ T1 L1 X1 ⟨rfl, N1q, e1⟩
  have N1 := Fr.app N0 N1q
  show GoE p e below _ (T1.setTop (mkF m 18 #[.val (.int (0 : Int32)), .val (.ref q1), .val (.int (1 : Int32)), .unset, .unset, .unset, .unset, .unset, .unset] [.int (0 : Int32)]))
  refine g_if_ne X1 hx hby d12_18 (by decide) (pc' := 29) (by decide) (pn := 21) rfl (fun z => absurd z (by decide)) (fun _ => ?_)
  refine g_aloadN X1 hx hby d12_21 (pc' := 22) rfl rfl rfl ?_
  refine g_clone X1 hx hZ hown (ad := "[B") (W := 0) 1 hby d12_22 (pc' := 25) rfl (by rw [hml]; rfl) (w_74 hw) (w_75 hw) (w_79 hw) (w_77 hw) (w_78 hw) (w_80 hw) e1 A_v E_v (by decide) (Nat.le_of_eq rfl) (by decide) (by decide) (by decide) (by decide) ?_
  intro T2 b2 hb2 X2 E2 A2 A2x
  have K2 := (Keep.refl h0 []).ext E2
  have Z2 := Nat.le_trans Z0 E2.1
  have A2_q1 := A_v.ext E2
  have ne2_q1 : q1 ≠ b2 := hb2 ▸ Nat.ne_of_lt A_v.lt
  have E2_q1 := E_v.ext E2
  refine g_castY X2 hx hZ hown hby d12_25 (pc' := 28) rfl (w_81 hw) rfl (Ins.self A2x) ?_
  intro T3 X3 e3
  exact g_retA (Q := (fun v h L => ∃ (b : Addr) (k : ClassId), v = some (.ref b) ∧ Fr n0 L ∧ Keep h0 h [] ∧ h0.size ≤ b ∧ Arv Z h b k .byte (1 : Int32) [.int (lat x0)] (.int 0) ∧ Exa Z h b "[B")) X3 hx hby d12_28 rfl hret rfl hlk (by decide) (by decide) (by rw [e3]; exact ⟨b2, kv, rfl, N1, K2, (Nat.le_trans (Keep.refl h0 []).1 (Nat.le_of_eq hb2.symm)), A2, A2x⟩)
theorem ef_rmE82 (q1 : Addr) (m : MethodId) : entryFrame m #[.int (0 : Int32), .ref q1, .int (1 : Int32)] 9 = mkF m 0 #[.val (.int (0 : Int32)), .val (.ref q1), .val (.int (1 : Int32)), .unset, .unset, .unset, .unset, .unset, .unset] [] := by
  first | (simp [entryFrame, mkF, argsToLocals, Value.category]; done) | rfl
set_option maxRecDepth 65536 in
set_option maxHeartbeats 40000000 in
theorem rmE82 (l : Launch) (Z : State) (a0 : Array Value) (hw : ∀ d ∈ tables_1, d.before a0 Z = true) (ws : List Jvm.Cond) (q1 : Addr) (h0 : Heap) (n0 : Nat) (x0 x1 : Int32) (kv : ClassId) (hx0 : AS x0) (hx1 : AS x1) (A_v : Arv Z h0 q1 kv .byte (2 : Int32) [.int (lat x0), .int (lat x1)] (.int 0)) (E_v : Exa Z h0 q1 "[B") (Z0 : n0 ≤ h0.size)  :
    Ctr l Z ({ cls := "java/lang/String", name := "encodeUTF8", desc := "(B[BZ)[B" } : Jvm.MethodName) jdk_42_method_46_code 9 (some (.array .byte)) ws ({ frames := 2, cells := 1, slots := 2, locals := 30 } : Room) #[.int (0 : Int32), .ref q1, .int (1 : Int32)] h0 (fun v h L => ∃ (b : Addr) (k : ClassId), v = some (.ref b) ∧ Fr n0 L ∧ Keep h0 h [] ∧ h0.size ≤ b ∧ Arv Z h b k .byte (2 : Int32) [.int (lat x0), .int (lat x1)] (.int 0) ∧ Exa Z h b "[B") := by
  refine Ctr.enter (Ls := #[.val (.int (0 : Int32)), .val (.ref q1), .val (.int (1 : Int32)), .unset, .unset, .unset, .unset, .unset, .unset]) (by decide +kernel) (fun m => ef_rmE82 q1 m) ?_
  intro p e s m below meth c T hx hby hml hown hnm hret hlk hZ hh X0 e0
  have N0 := Fr.nil n0
  refine g_iloadN X0 hx hby d12_0 (pc' := 1) rfl rfl ?_
  refine g_iconst X0 hx hby d12_1 (pc' := 2) rfl (z := (1 : Int32)) rfl ?_
  refine g_icmp_ne X0 hx hby d12_2 (by decide) (pc' := 11) (by decide) (pn := 5) rfl (fun _ => ?_) (fun z => absurd z (by decide))
  refine g_aloadN X0 hx hby d12_11 (pc' := 12) rfl rfl rfl ?_
  refine g_iconst X0 hx hby d12_12 (pc' := 13) rfl (z := (0 : Int32)) rfl ?_
  refine g_aloadN X0 hx hby d12_13 (pc' := 14) rfl rfl rfl ?_
  refine g_alen X0 hx hZ hby d12_14 (pc' := 15) rfl e0 A_v ?_
  refine g_callS X0 hx hZ hown (W := 0) (argsL := [.ref q1, .int (0 : Int32), .int (2 : Int32)]) (rest := []) hby d12_15 (pc' := 18) rfl (by rw [hml]; rfl) (w_67 hw) (w_68 hw) (w_69 hw) (w_70 hw) (by decide) (rmHN2 l Z a0 hw [] q1 h0 n0 x0 x1 _ hx0 hx1 A_v) e0 (by decide) (by decide) (by decide) (by decide) rfl pd__28_5bBII_29Z rfl rfl (Nat.le_of_eq rfl) ?_
  rintro _ T1 L1 X1 ⟨rfl, N1q, e1⟩
  have N1 := Fr.app N0 N1q
  show GoE p e below _ (T1.setTop (mkF m 18 #[.val (.int (0 : Int32)), .val (.ref q1), .val (.int (1 : Int32)), .unset, .unset, .unset, .unset, .unset, .unset] [.int (0 : Int32)]))
  refine g_if_ne X1 hx hby d12_18 (by decide) (pc' := 29) (by decide) (pn := 21) rfl (fun z => absurd z (by decide)) (fun _ => ?_)
  refine g_aloadN X1 hx hby d12_21 (pc' := 22) rfl rfl rfl ?_
  refine g_clone X1 hx hZ hown (ad := "[B") (W := 0) 2 hby d12_22 (pc' := 25) rfl (by rw [hml]; rfl) (w_74 hw) (w_75 hw) (w_79 hw) (w_77 hw) (w_78 hw) (w_80 hw) e1 A_v E_v (by decide) (Nat.le_of_eq rfl) (by decide) (by decide) (by decide) (by decide) ?_
  intro T2 b2 hb2 X2 E2 A2 A2x
  have K2 := (Keep.refl h0 []).ext E2
  have Z2 := Nat.le_trans Z0 E2.1
  have A2_q1 := A_v.ext E2
  have ne2_q1 : q1 ≠ b2 := hb2 ▸ Nat.ne_of_lt A_v.lt
  have E2_q1 := E_v.ext E2
  refine g_castY X2 hx hZ hown hby d12_25 (pc' := 28) rfl (w_81 hw) rfl (Ins.self A2x) ?_
  intro T3 X3 e3
  exact g_retA (Q := (fun v h L => ∃ (b : Addr) (k : ClassId), v = some (.ref b) ∧ Fr n0 L ∧ Keep h0 h [] ∧ h0.size ≤ b ∧ Arv Z h b k .byte (2 : Int32) [.int (lat x0), .int (lat x1)] (.int 0) ∧ Exa Z h b "[B")) X3 hx hby d12_28 rfl hret rfl hlk (by decide) (by decide) (by rw [e3]; exact ⟨b2, kv, rfl, N1, K2, (Nat.le_trans (Keep.refl h0 []).1 (Nat.le_of_eq hb2.symm)), A2, A2x⟩)
theorem ef_rmEN1 (u8 : Addr) (q1 : Addr) (m : MethodId) : entryFrame m #[.ref u8, .int (0 : Int32), .ref q1] 3 = mkF m 0 #[.val (.ref u8), .val (.int (0 : Int32)), .val (.ref q1)] [] := by
  first | (simp [entryFrame, mkF, argsToLocals, Value.category]; done) | rfl
set_option maxRecDepth 65536 in
set_option maxHeartbeats 40000000 in
theorem rmEN1 (l : Launch) (Z : State) (a0 : Array Value) (hw : ∀ d ∈ tables_1, d.before a0 Z = true) (ws : List Jvm.Cond) (u8 : Addr) (q1 : Addr) (h0 : Heap) (n0 : Nat) (x0 : Int32) (kv : ClassId) (hx0 : AS x0) (A_v : Arv Z h0 q1 kv .byte (1 : Int32) [.int (lat x0)] (.int 0)) (E_v : Exa Z h0 q1 "[B") (Z0 : n0 ≤ h0.size) (cs : Int32) (SS : SSt Z cs u8) (O0 : Old Z n0 h0) :
    Ctr l Z ({ cls := "java/lang/String", name := "encode", desc := "(Ljava/nio/charset/Charset;B[B)[B" } : Jvm.MethodName) jdk_42_method_18_code 3 (some (.array .byte)) ws ({ frames := 3, cells := 1, slots := 2, locals := 50 } : Room) #[.ref u8, .int (0 : Int32), .ref q1] h0 (fun v h L => ∃ (b : Addr) (k : ClassId), v = some (.ref b) ∧ Fr n0 L ∧ Keep h0 h [] ∧ h0.size ≤ b ∧ Arv Z h b k .byte (1 : Int32) [.int (lat x0)] (.int 0) ∧ Exa Z h b "[B") := by
  refine Ctr.enter (Ls := #[.val (.ref u8), .val (.int (0 : Int32)), .val (.ref q1)]) (by decide +kernel) (fun m => ef_rmEN1 u8 q1 m) ?_
  intro p e s m below meth c T hx hby hml hown hnm hret hlk hZ hh X0 e0
  have N0 := Fr.nil n0
  refine g_aloadN X0 hx hby d11_0 (pc' := 1) rfl rfl rfl ?_
  refine g_getS X0 hx hZ hown hby d11_1 (pc' := 4) rfl (w_62 hw) e0 (SS.2.2.2.ext O0.2) ?_
  intro T1 X1 e1
  refine g_acmp_no X1 hx hby d11_4 (pn := 7) rfl rfl rfl (by simp [Jvm.Free.XT.acmp]) ?_
  refine g_iloadN X1 hx hby d11_7 (pc' := 8) rfl rfl ?_
  refine g_aloadN X1 hx hby d11_8 (pc' := 9) rfl rfl rfl ?_
  refine g_iconst X1 hx hby d11_9 (pc' := 10) rfl (z := (1 : Int32)) rfl ?_
  refine g_callS X1 hx hZ hown (W := 0) (argsL := [.int (0 : Int32), .ref q1, .int (1 : Int32)]) (rest := []) hby d11_10 (pc' := 13) rfl (by rw [hml]; rfl) (w_64 hw) (w_65 hw) (w_4 hw) (w_66 hw) (by decide) (rmE81 l Z a0 hw [] q1 h0 n0 x0 _ hx0 A_v E_v Z0) e1 (by decide) (by decide) (by decide) (by decide) rfl pd__28B_5bBZ_29_5bB rfl rfl (Nat.le_of_eq rfl) ?_
  rintro _ T2 L2 X2 (⟨b2, k2, rfl, N2q, K2, G2, A2, Ex2⟩)
  · have N2 := Fr.app N0 N2q
    have nb2_q1 : q1 ≠ b2 := Nat.ne_of_lt (Nat.lt_of_lt_of_le A_v.lt G2)
    have O2 := O0.keep K2 all0
    have K2t := (Keep.refl h0 []).trans K2 all0
    have Z2 := Nat.le_trans Z0 K2.1
    have A2_q1 := A_v.keep K2 nin0
    have E2_q1 := E_v.keep K2
    show GoE p e below _ (T2.setTop (mkF m 13 #[.val (.ref u8), .val (.int (0 : Int32)), .val (.ref q1)] [.ref b2]))
    exact g_retA (Q := (fun v h L => ∃ (b : Addr) (k : ClassId), v = some (.ref b) ∧ Fr n0 L ∧ Keep h0 h [] ∧ h0.size ≤ b ∧ Arv Z h b k .byte (1 : Int32) [.int (lat x0)] (.int 0) ∧ Exa Z h b "[B")) X2 hx hby d11_13 rfl hret rfl hlk (by decide) (by decide) ⟨b2, k2, rfl, N2, K2t, (Nat.le_trans (Keep.refl h0 []).1 G2), A2, Ex2⟩
theorem ef_rmEN2 (u8 : Addr) (q1 : Addr) (m : MethodId) : entryFrame m #[.ref u8, .int (0 : Int32), .ref q1] 3 = mkF m 0 #[.val (.ref u8), .val (.int (0 : Int32)), .val (.ref q1)] [] := by
  first | (simp [entryFrame, mkF, argsToLocals, Value.category]; done) | rfl
set_option maxRecDepth 65536 in
set_option maxHeartbeats 40000000 in
theorem rmEN2 (l : Launch) (Z : State) (a0 : Array Value) (hw : ∀ d ∈ tables_1, d.before a0 Z = true) (ws : List Jvm.Cond) (u8 : Addr) (q1 : Addr) (h0 : Heap) (n0 : Nat) (x0 x1 : Int32) (kv : ClassId) (hx0 : AS x0) (hx1 : AS x1) (A_v : Arv Z h0 q1 kv .byte (2 : Int32) [.int (lat x0), .int (lat x1)] (.int 0)) (E_v : Exa Z h0 q1 "[B") (Z0 : n0 ≤ h0.size) (cs : Int32) (SS : SSt Z cs u8) (O0 : Old Z n0 h0) :
    Ctr l Z ({ cls := "java/lang/String", name := "encode", desc := "(Ljava/nio/charset/Charset;B[B)[B" } : Jvm.MethodName) jdk_42_method_18_code 3 (some (.array .byte)) ws ({ frames := 3, cells := 1, slots := 2, locals := 50 } : Room) #[.ref u8, .int (0 : Int32), .ref q1] h0 (fun v h L => ∃ (b : Addr) (k : ClassId), v = some (.ref b) ∧ Fr n0 L ∧ Keep h0 h [] ∧ h0.size ≤ b ∧ Arv Z h b k .byte (2 : Int32) [.int (lat x0), .int (lat x1)] (.int 0) ∧ Exa Z h b "[B") := by
  refine Ctr.enter (Ls := #[.val (.ref u8), .val (.int (0 : Int32)), .val (.ref q1)]) (by decide +kernel) (fun m => ef_rmEN2 u8 q1 m) ?_
  intro p e s m below meth c T hx hby hml hown hnm hret hlk hZ hh X0 e0
  have N0 := Fr.nil n0
  refine g_aloadN X0 hx hby d11_0 (pc' := 1) rfl rfl rfl ?_
  refine g_getS X0 hx hZ hown hby d11_1 (pc' := 4) rfl (w_62 hw) e0 (SS.2.2.2.ext O0.2) ?_
  intro T1 X1 e1
  refine g_acmp_no X1 hx hby d11_4 (pn := 7) rfl rfl rfl (by simp [Jvm.Free.XT.acmp]) ?_
  refine g_iloadN X1 hx hby d11_7 (pc' := 8) rfl rfl ?_
  refine g_aloadN X1 hx hby d11_8 (pc' := 9) rfl rfl rfl ?_
  refine g_iconst X1 hx hby d11_9 (pc' := 10) rfl (z := (1 : Int32)) rfl ?_
  refine g_callS X1 hx hZ hown (W := 0) (argsL := [.int (0 : Int32), .ref q1, .int (1 : Int32)]) (rest := []) hby d11_10 (pc' := 13) rfl (by rw [hml]; rfl) (w_64 hw) (w_65 hw) (w_4 hw) (w_66 hw) (by decide) (rmE82 l Z a0 hw [] q1 h0 n0 x0 x1 _ hx0 hx1 A_v E_v Z0) e1 (by decide) (by decide) (by decide) (by decide) rfl pd__28B_5bBZ_29_5bB rfl rfl (Nat.le_of_eq rfl) ?_
  rintro _ T2 L2 X2 (⟨b2, k2, rfl, N2q, K2, G2, A2, Ex2⟩)
  · have N2 := Fr.app N0 N2q
    have nb2_q1 : q1 ≠ b2 := Nat.ne_of_lt (Nat.lt_of_lt_of_le A_v.lt G2)
    have O2 := O0.keep K2 all0
    have K2t := (Keep.refl h0 []).trans K2 all0
    have Z2 := Nat.le_trans Z0 K2.1
    have A2_q1 := A_v.keep K2 nin0
    have E2_q1 := E_v.keep K2
    show GoE p e below _ (T2.setTop (mkF m 13 #[.val (.ref u8), .val (.int (0 : Int32)), .val (.ref q1)] [.ref b2]))
    exact g_retA (Q := (fun v h L => ∃ (b : Addr) (k : ClassId), v = some (.ref b) ∧ Fr n0 L ∧ Keep h0 h [] ∧ h0.size ≤ b ∧ Arv Z h b k .byte (2 : Int32) [.int (lat x0), .int (lat x1)] (.int 0) ∧ Exa Z h b "[B")) X2 hx hby d11_13 rfl hret rfl hlk (by decide) (by decide) ⟨b2, k2, rfl, N2, K2t, (Nat.le_trans (Keep.refl h0 []).1 G2), A2, Ex2⟩
theorem ef_rmGB1 (q1 : Addr) (u8 : Addr) (m : MethodId) : entryFrame m #[.ref q1, .ref u8] 2 = mkF m 0 #[.val (.ref q1), .val (.ref u8)] [] := by
  first | (simp [entryFrame, mkF, argsToLocals, Value.category]; done) | rfl
set_option maxRecDepth 65536 in
set_option maxHeartbeats 40000000 in
theorem rmGB1 (l : Launch) (Z : State) (a0 : Array Value) (hw : ∀ d ∈ tables_1, d.before a0 Z = true) (ws : List Jvm.Cond) (q1 : Addr) (u8 : Addr) (h0 : Heap) (n0 : Nat) (bv : Addr) (x0 : Int32) (kv : ClassId) (hx0 : AS x0) (A_v : Arv Z h0 bv kv .byte (1 : Int32) [.int (lat x0)] (.int 0)) (E_v : Exa Z h0 bv "[B") (E_s : Exa Z h0 q1 "java/lang/String") (F_v : Fld Z h0 q1 "java/lang/String" "value" "[B" (.ref bv)) (F_c : Fld Z h0 q1 "java/lang/String" "coder" "B" (.int (0 : Int32)))  (Z0 : n0 ≤ h0.size) (cs : Int32) (SS : SSt Z cs u8) (O0 : Old Z n0 h0) :
    Ctr l Z ({ cls := "java/lang/String", name := "getBytes", desc := "(Ljava/nio/charset/Charset;)[B" } : Jvm.MethodName) jdk_42_method_64_code 2 (some (.array .byte)) ws ({ frames := 4, cells := 1, slots := 2, locals := 64 } : Room) #[.ref q1, .ref u8] h0 (fun v h L => ∃ (b : Addr) (k : ClassId), v = some (.ref b) ∧ Fr n0 L ∧ Keep h0 h [] ∧ h0.size ≤ b ∧ Arv Z h b k .byte (1 : Int32) [.int (lat x0)] (.int 0) ∧ Exa Z h b "[B") := by
  refine Ctr.enter (Ls := #[.val (.ref q1), .val (.ref u8)]) (by decide +kernel) (fun m => ef_rmGB1 q1 u8 m) ?_
  intro p e s m below meth c T hx hby hml hown hnm hret hlk hZ hh X0 e0
  have N0 := Fr.nil n0
  refine g_aloadN X0 hx hby d9_0 (pc' := 1) rfl rfl rfl ?_
  refine g_ifnonnull_yes X0 hx hby d9_1 (by decide) (pc' := 12) (by decide) ?_
  refine g_aloadN X0 hx hby d9_12 (pc' := 13) rfl rfl rfl ?_
  refine g_aloadN X0 hx hby d9_13 (pc' := 14) rfl rfl rfl ?_
  refine g_callV X0 hx hZ hown (W := 1) (argsL := []) (b := q1) (rest := [.ref u8]) hby d9_14 (pc' := 17) rfl (by rw [hml]; rfl) (w_54 hw) (w_55 hw) (w_57 hw) (notFace_of_selects (args := #[]) (mvT hZ (w_57 hw))) (w_56 hw) (w_4 hw) (w_58 hw) (by decide) (rmCD l Z a0 hw [] q1 h0 n0 F_c cs u8 SS O0) e0 E_s (by decide) (by decide) (by decide) (by decide) rfl pd__28_29B rfl rfl (Nat.le_of_eq rfl) ?_
  rintro _ T1 L1 X1 ⟨rfl, N1q, e1⟩
  have N1 := Fr.app N0 N1q
  show GoE p e below _ (T1.setTop (mkF m 17 #[.val (.ref q1), .val (.ref u8)] [.int (0 : Int32), .ref u8]))
  refine g_aloadN X1 hx hby d9_17 (pc' := 18) rfl rfl rfl ?_
  refine g_get X1 hx hZ hown hby d9_18 (pc' := 21) rfl (w_29 hw) e1 F_v ?_
  intro T2 X2 e2
  refine g_callS X2 hx hZ hown (W := 0) (argsL := [.ref u8, .int (0 : Int32), .ref bv]) (rest := []) hby d9_21 (pc' := 24) rfl (by rw [hml]; rfl) (w_59 hw) (w_60 hw) (w_4 hw) (w_61 hw) (by decide) (rmEN1 l Z a0 hw [] u8 bv h0 n0 x0 _ hx0 A_v E_v Z0 cs SS O0) e2 (by decide) (by decide) (by decide) (by decide) rfl pd__28Ljava_2fnio_2fcharset_2fCharset_3bB_5bB_29_5bB rfl rfl (Nat.le_of_eq rfl) ?_
  rintro _ T3 L3 X3 (⟨b3, k3, rfl, N3q, K3, G3, A3, Ex3⟩)
  · have N3 := Fr.app N1 N3q
    have nb3_q1 : q1 ≠ b3 := Nat.ne_of_lt (Nat.lt_of_lt_of_le E_s.lt G3)
    have nb3_bv : bv ≠ b3 := Nat.ne_of_lt (Nat.lt_of_lt_of_le A_v.lt G3)
    have O3 := O0.keep K3 all0
    have K3t := (Keep.refl h0 []).trans K3 all0
    have E3_q1 := E_s.keep K3
    have F3_q1_value := F_v.keep K3 nin0
    have F3_q1_coder := F_c.keep K3 nin0
    have A3_bv := A_v.keep K3 nin0
    have E3_bv := E_v.keep K3
    have Z3 := Nat.le_trans Z0 K3.1
    show GoE p e below _ (T3.setTop (mkF m 24 #[.val (.ref q1), .val (.ref u8)] [.ref b3]))
    exact g_retA (Q := (fun v h L => ∃ (b : Addr) (k : ClassId), v = some (.ref b) ∧ Fr n0 L ∧ Keep h0 h [] ∧ h0.size ≤ b ∧ Arv Z h b k .byte (1 : Int32) [.int (lat x0)] (.int 0) ∧ Exa Z h b "[B")) X3 hx hby d9_24 rfl hret rfl hlk (by decide) (by decide) ⟨b3, k3, rfl, N3, K3t, (Nat.le_trans (Keep.refl h0 []).1 G3), A3, Ex3⟩
theorem ef_rmGB2 (q1 : Addr) (u8 : Addr) (m : MethodId) : entryFrame m #[.ref q1, .ref u8] 2 = mkF m 0 #[.val (.ref q1), .val (.ref u8)] [] := by
  first | (simp [entryFrame, mkF, argsToLocals, Value.category]; done) | rfl
set_option maxRecDepth 65536 in
set_option maxHeartbeats 40000000 in
theorem rmGB2 (l : Launch) (Z : State) (a0 : Array Value) (hw : ∀ d ∈ tables_1, d.before a0 Z = true) (ws : List Jvm.Cond) (q1 : Addr) (u8 : Addr) (h0 : Heap) (n0 : Nat) (bv : Addr) (x0 x1 : Int32) (kv : ClassId) (hx0 : AS x0) (hx1 : AS x1) (A_v : Arv Z h0 bv kv .byte (2 : Int32) [.int (lat x0), .int (lat x1)] (.int 0)) (E_v : Exa Z h0 bv "[B") (E_s : Exa Z h0 q1 "java/lang/String") (F_v : Fld Z h0 q1 "java/lang/String" "value" "[B" (.ref bv)) (F_c : Fld Z h0 q1 "java/lang/String" "coder" "B" (.int (0 : Int32)))  (Z0 : n0 ≤ h0.size) (cs : Int32) (SS : SSt Z cs u8) (O0 : Old Z n0 h0) :
    Ctr l Z ({ cls := "java/lang/String", name := "getBytes", desc := "(Ljava/nio/charset/Charset;)[B" } : Jvm.MethodName) jdk_42_method_64_code 2 (some (.array .byte)) ws ({ frames := 4, cells := 1, slots := 2, locals := 64 } : Room) #[.ref q1, .ref u8] h0 (fun v h L => ∃ (b : Addr) (k : ClassId), v = some (.ref b) ∧ Fr n0 L ∧ Keep h0 h [] ∧ h0.size ≤ b ∧ Arv Z h b k .byte (2 : Int32) [.int (lat x0), .int (lat x1)] (.int 0) ∧ Exa Z h b "[B") := by
  refine Ctr.enter (Ls := #[.val (.ref q1), .val (.ref u8)]) (by decide +kernel) (fun m => ef_rmGB2 q1 u8 m) ?_
  intro p e s m below meth c T hx hby hml hown hnm hret hlk hZ hh X0 e0
  have N0 := Fr.nil n0
  refine g_aloadN X0 hx hby d9_0 (pc' := 1) rfl rfl rfl ?_
  refine g_ifnonnull_yes X0 hx hby d9_1 (by decide) (pc' := 12) (by decide) ?_
  refine g_aloadN X0 hx hby d9_12 (pc' := 13) rfl rfl rfl ?_
  refine g_aloadN X0 hx hby d9_13 (pc' := 14) rfl rfl rfl ?_
  refine g_callV X0 hx hZ hown (W := 1) (argsL := []) (b := q1) (rest := [.ref u8]) hby d9_14 (pc' := 17) rfl (by rw [hml]; rfl) (w_54 hw) (w_55 hw) (w_57 hw) (notFace_of_selects (args := #[]) (mvT hZ (w_57 hw))) (w_56 hw) (w_4 hw) (w_58 hw) (by decide) (rmCD l Z a0 hw [] q1 h0 n0 F_c cs u8 SS O0) e0 E_s (by decide) (by decide) (by decide) (by decide) rfl pd__28_29B rfl rfl (Nat.le_of_eq rfl) ?_
  rintro _ T1 L1 X1 ⟨rfl, N1q, e1⟩
  have N1 := Fr.app N0 N1q
  show GoE p e below _ (T1.setTop (mkF m 17 #[.val (.ref q1), .val (.ref u8)] [.int (0 : Int32), .ref u8]))
  refine g_aloadN X1 hx hby d9_17 (pc' := 18) rfl rfl rfl ?_
  refine g_get X1 hx hZ hown hby d9_18 (pc' := 21) rfl (w_29 hw) e1 F_v ?_
  intro T2 X2 e2
  refine g_callS X2 hx hZ hown (W := 0) (argsL := [.ref u8, .int (0 : Int32), .ref bv]) (rest := []) hby d9_21 (pc' := 24) rfl (by rw [hml]; rfl) (w_59 hw) (w_60 hw) (w_4 hw) (w_61 hw) (by decide) (rmEN2 l Z a0 hw [] u8 bv h0 n0 x0 x1 _ hx0 hx1 A_v E_v Z0 cs SS O0) e2 (by decide) (by decide) (by decide) (by decide) rfl pd__28Ljava_2fnio_2fcharset_2fCharset_3bB_5bB_29_5bB rfl rfl (Nat.le_of_eq rfl) ?_
  rintro _ T3 L3 X3 (⟨b3, k3, rfl, N3q, K3, G3, A3, Ex3⟩)
  · have N3 := Fr.app N1 N3q
    have nb3_q1 : q1 ≠ b3 := Nat.ne_of_lt (Nat.lt_of_lt_of_le E_s.lt G3)
    have nb3_bv : bv ≠ b3 := Nat.ne_of_lt (Nat.lt_of_lt_of_le A_v.lt G3)
    have O3 := O0.keep K3 all0
    have K3t := (Keep.refl h0 []).trans K3 all0
    have E3_q1 := E_s.keep K3
    have F3_q1_value := F_v.keep K3 nin0
    have F3_q1_coder := F_c.keep K3 nin0
    have A3_bv := A_v.keep K3 nin0
    have E3_bv := E_v.keep K3
    have Z3 := Nat.le_trans Z0 K3.1
    show GoE p e below _ (T3.setTop (mkF m 24 #[.val (.ref q1), .val (.ref u8)] [.ref b3]))
    exact g_retA (Q := (fun v h L => ∃ (b : Addr) (k : ClassId), v = some (.ref b) ∧ Fr n0 L ∧ Keep h0 h [] ∧ h0.size ≤ b ∧ Arv Z h b k .byte (2 : Int32) [.int (lat x0), .int (lat x1)] (.int 0) ∧ Exa Z h b "[B")) X3 hx hby d9_24 rfl hret rfl hlk (by decide) (by decide) ⟨b3, k3, rfl, N3, K3t, (Nat.le_trans (Keep.refl h0 []).1 G3), A3, Ex3⟩
theorem ef_rmPI (q1 : Addr) (q2 : Int32) (m : MethodId) : entryFrame m #[.ref q1, .int q2] 2 = mkF m 0 #[.val (.ref q1), .val (.int q2)] [] := by
  first | (simp [entryFrame, mkF, argsToLocals, Value.category]; done) | rfl
theorem pn_rmPI : plainName "com/example/astilla/astilla/PointLabels" = true := by first | (simp [plainName, overriddenIn]; done) | decide +kernel
set_option maxRecDepth 65536 in
set_option maxHeartbeats 40000000 in
theorem rmPI (l : Launch) (Z : State) (a0 : Array Value) (hw : ∀ d ∈ tables_1, d.before a0 Z = true) (ws : List Jvm.Cond) (q1 : Addr) (q2 : Int32) (h0 : Heap) (n0 : Nat) (w0 w1 : Value) (Z0 : n0 ≤ h0.size) (E_a : Exa Z h0 q1 "com/example/astilla/astilla/PointLabels") (F_label : Fld Z h0 q1 "com/example/astilla/astilla/PointLabels" "label" "[B" (w0)) (F_separator : Fld Z h0 q1 "com/example/astilla/astilla/PointLabels" "separator" "B" (w1)) (F_numberAt : Fld Z h0 q1 "com/example/astilla/astilla/PointLabels" "numberAt" "I" (.int (0 : Int32))) (g_a : n0 ≤ q1) :
    Ctr l Z ({ cls := "com/example/astilla/astilla/PointLabels", name := "<init>", desc := "(C)V" } : Jvm.MethodName) prog_15_method_1_code 2 none ws ({ frames := 1, cells := 1, slots := 266, locals := 12 } : Room) #[.ref q1, .int q2] h0 (fun v h L => ∃ (b : Addr) (k : ClassId), v = none ∧ Fr n0 L ∧ Keep h0 h [q1] ∧ Exa Z h q1 "com/example/astilla/astilla/PointLabels" ∧ Fld Z h q1 "com/example/astilla/astilla/PointLabels" "label" "[B" (.ref b) ∧ Fld Z h q1 "com/example/astilla/astilla/PointLabels" "separator" "B" (.int q2.toInt8.toInt32) ∧ Fld Z h q1 "com/example/astilla/astilla/PointLabels" "numberAt" "I" (.int (0 : Int32)) ∧ h0.size ≤ b ∧ Arv Z h b k .byte (266 : Int32) [.int 0, .int 0, .int 0, .int 0, .int 0, .int 0, .int 0, .int 0, .int 0, .int 0, .int 0, .int 0, .int 0] (.int 0)) := by
  refine Ctr.enter (Ls := #[.val (.ref q1), .val (.int q2)]) (plainFor_of_name pn_rmPI) (fun m => ef_rmPI q1 q2 m) ?_
  intro p e s m below meth c T hx hby hml hown hnm hret hlk hZ hh X0 e0
  have N0 := Fr.nil n0
  refine g_aloadN X0 hx hby d7_0 (pc' := 1) rfl rfl rfl ?_
  obtain ⟨T1, X1, e1, st1⟩ := initO X0 hx hZ hown (w_37 hw) (w_13 hw) (w_14 hw) e0 (g := (mkF m 1 #[.val (.ref q1), .val (.int q2)] [.ref q1])) rfl (by rw [hml]; rfl) rfl (hb hby d7_1) (by decide) (W := 0) (by show 2 * 0 + _ ≤ _; exact Nat.le_of_eq rfl) (by decide)
  refine GoE.pull (b := T1.setTop (mkF m 4 #[.val (.ref q1), .val (.int q2)] [])) ?_ st1
  refine g_aloadN X1 hx hby d7_4 (pc' := 5) rfl rfl rfl ?_
  refine g_sipush X1 hx hby d7_5 (pc' := 8) rfl (z := (266 : Int32)) rfl ?_
  refine g_newarrayV X1 hx hZ 266 13 "[B" hby d7_8 (pc' := 10) rfl (w_20 hw) e1 (by decide) (by decide) (by decide) (by decide) (by decide) rfl ?_
  intro T2 b2 c2 hb2 X2 E2 A2v A2x
  have E2_q1 := E_a.ext E2
  have ne2_q1 : q1 ≠ b2 := hb2 ▸ Nat.ne_of_lt E_a.lt
  have Z2 := Nat.le_trans Z0 E2.1
  have K2 := (Keep.refl h0 [q1]).ext E2
  have F2_q1_label := F_label.ext E2
  have F2_q1_separator := F_separator.ext E2
  have F2_q1_numberAt := F_numberAt.ext E2
  have A2 : Arv Z T2.heap b2 c2 .byte (266 : Int32) [.int 0, .int 0, .int 0, .int 0, .int 0, .int 0, .int 0, .int 0, .int 0, .int 0, .int 0, .int 0, .int 0] (.int 0) := A2v
  refine g_put X2 hx hZ hown hby d7_10 (pc' := 13) rfl (w_38 hw) rfl F2_q1_label E2_q1 (Or.inr ⟨(w_39 hw), rfl, hnm⟩) (w_32 hw) (ty := (.array .byte)) (by decide) rfl rfl ?_
  intro T3 X3 W3
  have N3 := Fr.snoc X3 N0 g_a
  have E3_q1 := E2_q1.wr W3
  have Z3 : n0 ≤ T3.heap.size := (W3.size ▸ Z2)
  have K3 := K2.wr W3 (Or.inl (List.mem_of_getElem? (i := 0) rfl))
  have F3_q1_label := F2_q1_label.same W3
  have F3_q1_separator := F2_q1_separator.other W3 (Or.inr (slot_ne (Or.inr (w_41 hw)) (Or.inr (w_39 hw)) (by decide) (t := .byte) (t' := (.array .byte)) (by decide) (by decide)))
  have F3_q1_numberAt := F2_q1_numberAt.other W3 (Or.inr (slot_ne (Or.inl (w_88 hw)) (Or.inr (w_39 hw)) (by decide) (t := .int) (t' := (.array .byte)) (by decide) (by decide)))
  have A3_b2 := A2.other W3 ne2_q1.symm
  have E3_b2 := A2x.wr W3
  refine g_aloadN X3 hx hby d7_13 (pc' := 14) rfl rfl rfl ?_
  refine g_iloadN X3 hx hby d7_14 (pc' := 15) rfl rfl ?_
  refine g_i2b X3 hx hby d7_15 (pc' := 16) rfl ?_
  refine g_put X3 hx hZ hown hby d7_16 (pc' := 19) rfl (w_40 hw) rfl F3_q1_separator E3_q1 (Or.inr ⟨(w_41 hw), rfl, hnm⟩) (w_32 hw) (ty := .byte) (by decide) (own_narB _) (fits_nar_byte _) ?_
  intro T4 X4 W4
  have N4 := Fr.snoc X4 N3 g_a
  have E4_q1 := E3_q1.wr W4
  have Z4 : n0 ≤ T4.heap.size := (W4.size ▸ Z3)
  have K4 := K3.wr W4 (Or.inl (List.mem_of_getElem? (i := 0) rfl))
  have F4_q1_label := F3_q1_label.other W4 (Or.inr (slot_ne (Or.inr (w_39 hw)) (Or.inr (w_41 hw)) (by decide) (t := (.array .byte)) (t' := .byte) (by decide) (by decide)))
  have F4_q1_separator := F3_q1_separator.same W4
  have F4_q1_numberAt := F3_q1_numberAt.other W4 (Or.inr (slot_ne (Or.inl (w_88 hw)) (Or.inr (w_41 hw)) (by decide) (t := .int) (t' := .byte) (by decide) (by decide)))
  have A4_b2 := A3_b2.other W4 ne2_q1.symm
  have E4_b2 := E3_b2.wr W4
  exact g_retV (Q := (fun v h L => ∃ (b : Addr) (k : ClassId), v = none ∧ Fr n0 L ∧ Keep h0 h [q1] ∧ Exa Z h q1 "com/example/astilla/astilla/PointLabels" ∧ Fld Z h q1 "com/example/astilla/astilla/PointLabels" "label" "[B" (.ref b) ∧ Fld Z h q1 "com/example/astilla/astilla/PointLabels" "separator" "B" (.int q2.toInt8.toInt32) ∧ Fld Z h q1 "com/example/astilla/astilla/PointLabels" "numberAt" "I" (.int (0 : Int32)) ∧ h0.size ≤ b ∧ Arv Z h b k .byte (266 : Int32) [.int 0, .int 0, .int 0, .int 0, .int 0, .int 0, .int 0, .int 0, .int 0, .int 0, .int 0, .int 0, .int 0] (.int 0))) X4 hx hby d7_19 hret hlk (by decide) (by decide) ⟨b2, c2, rfl, N4, K4, E4_q1, F4_q1_label, F4_q1_separator, F4_q1_numberAt, (Nat.le_trans (Keep.refl h0 [q1]).1 (Nat.le_of_eq hb2.symm)), A4_b2⟩
theorem ef_rmSN1 (q1 : Addr) (q2 : Addr) (m : MethodId) : entryFrame m #[.ref q1, .ref q2] 3 = mkF m 0 #[.val (.ref q1), .val (.ref q2), .unset] [] := by
  first | (simp [entryFrame, mkF, argsToLocals, Value.category]; done) | rfl
theorem pn_rmSN1 : plainName "com/example/astilla/astilla/PointLabels" = true := by first | (simp [plainName, overriddenIn]; done) | decide +kernel
set_option maxRecDepth 65536 in
set_option maxHeartbeats 40000000 in
theorem rmSN1 (l : Launch) (Z : State) (a0 : Array Value) (hw : ∀ d ∈ tables_1, d.before a0 Z = true) (ws : List Jvm.Cond) (q1 : Addr) (q2 : Addr) (h0 : Heap) (n0 : Nat) (bl : Addr) (kl : ClassId) (sp : Int32) (bv : Addr) (x0 : Int32) (kv : ClassId) (hx0 : AS x0) (A_v : Arv Z h0 bv kv .byte (1 : Int32) [.int (lat x0)] (.int 0)) (E_v : Exa Z h0 bv "[B") (E_s : Exa Z h0 q2 "java/lang/String") (F_v : Fld Z h0 q2 "java/lang/String" "value" "[B" (.ref bv)) (F_c : Fld Z h0 q2 "java/lang/String" "coder" "B" (.int (0 : Int32)))  (Z0 : n0 ≤ h0.size) (E_a : Exa Z h0 q1 "com/example/astilla/astilla/PointLabels") (F_label : Fld Z h0 q1 "com/example/astilla/astilla/PointLabels" "label" "[B" (.ref bl)) (F_separator : Fld Z h0 q1 "com/example/astilla/astilla/PointLabels" "separator" "B" (.int sp)) (F_numberAt : Fld Z h0 q1 "com/example/astilla/astilla/PointLabels" "numberAt" "I" (.int (0 : Int32))) (A_l : Arv Z h0 bl kl .byte (266 : Int32) [.int 0, .int 0, .int 0, .int 0, .int 0, .int 0, .int 0, .int 0, .int 0, .int 0, .int 0, .int 0, .int 0] (.int 0)) (n_l : bl ≠ q1) (g_a : n0 ≤ q1) (g_l : n0 ≤ bl) (cs : Int32) (u8 : Addr) (SS : SSt Z cs u8) (O0 : Old Z n0 h0) :
    Ctr l Z ({ cls := "com/example/astilla/astilla/PointLabels", name := "startNode", desc := "(Ljava/lang/String;)V" } : Jvm.MethodName) prog_15_method_2_code 3 none ws ({ frames := 5, cells := 1, slots := 2, locals := 77 } : Room) #[.ref q1, .ref q2] h0 (fun v h L => v = none ∧ Fr n0 L ∧ Keep h0 h [q1, bl] ∧ Exa Z h q1 "com/example/astilla/astilla/PointLabels" ∧ Fld Z h q1 "com/example/astilla/astilla/PointLabels" "label" "[B" (.ref bl) ∧ Fld Z h q1 "com/example/astilla/astilla/PointLabels" "separator" "B" (.int sp) ∧ Fld Z h q1 "com/example/astilla/astilla/PointLabels" "numberAt" "I" (.int (2 : Int32)) ∧ Arv Z h bl kl .byte (266 : Int32) [.int (lat x0), .int (nar .byte sp), .int 0, .int 0, .int 0, .int 0, .int 0, .int 0, .int 0, .int 0, .int 0, .int 0, .int 0] (.int 0)) := by
  refine Ctr.enter (Ls := #[.val (.ref q1), .val (.ref q2), .unset]) (plainFor_of_name pn_rmSN1) (fun m => ef_rmSN1 q1 q2 m) ?_
  intro p e s m below meth c T hx hby hml hown hnm hret hlk hZ hh X0 e0
  have N0 := Fr.nil n0
  refine g_aloadN X0 hx hby d8_0 (pc' := 1) rfl rfl rfl ?_
  refine g_getS X0 hx hZ hown hby d8_1 (pc' := 4) rfl (w_47 hw) e0 (SS.2.2.1.ext O0.2) ?_
  intro T1 X1 e1
  refine g_callV X1 hx hZ hown (W := 0) (argsL := [.ref u8]) (b := q2) (rest := []) hby d8_4 (pc' := 7) rfl (by rw [hml]; rfl) (w_49 hw) (w_50 hw) (w_52 hw) (notFace_of_selects (args := #[]) (mvT hZ (w_52 hw))) (w_51 hw) (w_4 hw) (w_53 hw) (by decide) (rmGB1 l Z a0 hw [] q2 u8 h0 n0 bv x0 _ hx0 A_v E_v E_s F_v F_c Z0 cs SS O0) e1 E_s (by decide) (by decide) (by decide) (by decide) rfl pd__28Ljava_2fnio_2fcharset_2fCharset_3b_29_5bB rfl rfl (Nat.le_of_eq rfl) ?_
  rintro _ T2 L2 X2 (⟨b2, k2, rfl, N2q, K2, G2, A2, Ex2⟩)
  · have N2 := Fr.app N0 N2q
    have nb2_q2 : q2 ≠ b2 := Nat.ne_of_lt (Nat.lt_of_lt_of_le E_s.lt G2)
    have nb2_bv : bv ≠ b2 := Nat.ne_of_lt (Nat.lt_of_lt_of_le A_v.lt G2)
    have nb2_q1 : q1 ≠ b2 := Nat.ne_of_lt (Nat.lt_of_lt_of_le E_a.lt G2)
    have nb2_bl : bl ≠ b2 := Nat.ne_of_lt (Nat.lt_of_lt_of_le A_l.lt G2)
    have O2 := O0.keep K2 all0
    have E2_q2 := E_s.keep K2
    have F2_q2_value := F_v.keep K2 nin0
    have F2_q2_coder := F_c.keep K2 nin0
    have A2_bv := A_v.keep K2 nin0
    have E2_bv := E_v.keep K2
    have Z2 := Nat.le_trans Z0 K2.1
    have E2_q1 := E_a.keep K2
    have K2t := (Keep.refl h0 [q1, bl]).trans K2 all0
    have A2_bl := A_l.keep K2 nin0
    have F2_q1_label := F_label.keep K2 nin0
    have F2_q1_separator := F_separator.keep K2 nin0
    have F2_q1_numberAt := F_numberAt.keep K2 nin0
    show GoE p e below _ (T2.setTop (mkF m 7 #[.val (.ref q1), .val (.ref q2), .unset] [.ref b2]))
    refine g_astoreN X2 hx hby d8_7 (pc' := 8) rfl rfl (l' := #[.val (.ref q1), .val (.ref q2), .val (.ref b2)]) rfl ?_
    refine g_aloadN X2 hx hby d8_8 (pc' := 9) rfl rfl rfl ?_
    refine g_iconst X2 hx hby d8_9 (pc' := 10) rfl (z := (0 : Int32)) rfl ?_
    refine g_aloadN X2 hx hby d8_10 (pc' := 11) rfl rfl rfl ?_
    refine g_get X2 hx hZ hown hby d8_11 (pc' := 14) rfl (w_38 hw) rfl F2_q1_label ?_
    intro T3 X3 e3
    refine g_iconst X3 hx hby d8_14 (pc' := 15) rfl (z := (0 : Int32)) rfl ?_
    refine g_aloadN X3 hx hby d8_15 (pc' := 16) rfl rfl rfl ?_
    refine g_alen X3 hx hZ hby d8_16 (pc' := 17) rfl e3 A2 ?_
    refine g_arraycopy X3 hx hZ hown (us := [.int (lat x0)]) (W := 0) hby d8_17 (pc' := 20) rfl (by rw [hml]; rfl) (w_83 hw) (w_86 hw) (w_84 hw) (w_85 hw) e3 A2 A2_bl rfl (by decide) (by decide) (by decide) (by decide) (by decide) rfl (by decide) N2 g_l (by decide) (Nat.le_of_eq rfl) (by decide) ?_
    intro T4 L4 X4 N4 K4 A4v
    have O4 := O2.keep K4 (allS g_l all0)
    have Z4 := Nat.le_trans Z2 K4.1
    have E4_q1 := E2_q1.keep K4
    have K4t := K2t.trans K4 (allS (Or.inl (List.mem_of_getElem? (i := 1) rfl)) all0)
    have F4_q1_label := F2_q1_label.keep K4 (ninS n_l.symm nin0)
    have F4_q1_separator := F2_q1_separator.keep K4 (ninS n_l.symm nin0)
    have F4_q1_numberAt := F2_q1_numberAt.keep K4 (ninS n_l.symm nin0)
    have A4_b2 := A2.keep K4 (ninS nb2_bl.symm nin0)
    have E4_b2 := Ex2.keep K4
    have A4 : Arv Z T4.heap bl kl .byte (266 : Int32) [.int (lat x0), .int 0, .int 0, .int 0, .int 0, .int 0, .int 0, .int 0, .int 0, .int 0, .int 0, .int 0, .int 0] (.int 0) := A4v
    refine g_aloadN X4 hx hby d8_20 (pc' := 21) rfl rfl rfl ?_
    refine g_get X4 hx hZ hown hby d8_21 (pc' := 24) rfl (w_38 hw) rfl F4_q1_label ?_
    intro T5 X5 e5
    refine g_aloadN X5 hx hby d8_24 (pc' := 25) rfl rfl rfl ?_
    refine g_alen X5 hx hZ hby d8_25 (pc' := 26) rfl e5 A4_b2 ?_
    refine g_aloadN X5 hx hby d8_26 (pc' := 27) rfl rfl rfl ?_
    refine g_get X5 hx hZ hown hby d8_27 (pc' := 30) rfl (w_40 hw) e5 F4_q1_separator ?_
    intro T6 X6 e6
    refine g_bastore X6 hx hZ 1 hby d8_30 (pc' := 31) rfl e6 A4 (by decide) (by decide) (by first | decide | simp) ?_
    intro T7 X7 W7 A7v
    have N7 := Fr.snoc X7 N4 g_l
    have O7 := O4.wr W7 g_l
    have Z7 : n0 ≤ T7.heap.size := (W7.size ▸ Z4)
    have E7_q1 := E4_q1.wr W7
    have K7 := K4t.wr W7 (Or.inl (List.mem_of_getElem? (i := 1) rfl))
    have F7_q1_label := F4_q1_label.other W7 (Or.inl n_l.symm)
    have F7_q1_separator := F4_q1_separator.other W7 (Or.inl n_l.symm)
    have F7_q1_numberAt := F4_q1_numberAt.other W7 (Or.inl n_l.symm)
    have A7_b2 := A4_b2.other W7 nb2_bl.symm
    have E7_b2 := E4_b2.wr W7
    have A7 : Arv Z T7.heap bl kl .byte (266 : Int32) [.int (lat x0), .int (nar .byte sp), .int 0, .int 0, .int 0, .int 0, .int 0, .int 0, .int 0, .int 0, .int 0, .int 0, .int 0] (.int 0) := A7v
    refine g_aloadN X7 hx hby d8_31 (pc' := 32) rfl rfl rfl ?_
    refine g_aloadN X7 hx hby d8_32 (pc' := 33) rfl rfl rfl ?_
    refine g_alen X7 hx hZ hby d8_33 (pc' := 34) rfl rfl A7_b2 ?_
    refine g_iconst X7 hx hby d8_34 (pc' := 35) rfl (z := (1 : Int32)) rfl ?_
    refine g_iadd X7 hx hby d8_35 (pc' := 36) rfl ?_
    refine g_eqI (b := (2 : Int32)) (by decide +kernel) ?_
    refine g_put X7 hx hZ hown hby d8_36 (pc' := 39) rfl (w_87 hw) rfl F7_q1_numberAt E7_q1 (Or.inl (w_88 hw)) (w_32 hw) (ty := .int) (by decide) rfl rfl ?_
    intro T8 X8 W8
    have N8 := Fr.snoc X8 N7 g_a
    have O8 := O7.wr W8 g_a
    have Z8 : n0 ≤ T8.heap.size := (W8.size ▸ Z7)
    have E8_q1 := E7_q1.wr W8
    have K8 := K7.wr W8 (Or.inl (List.mem_of_getElem? (i := 0) rfl))
    have F8_q1_label := F7_q1_label.other W8 (Or.inr (slot_ne (Or.inr (w_39 hw)) (Or.inl (w_88 hw)) (by decide) (t := (.array .byte)) (t' := .int) (by decide) (by decide)))
    have F8_q1_separator := F7_q1_separator.other W8 (Or.inr (slot_ne (Or.inr (w_41 hw)) (Or.inl (w_88 hw)) (by decide) (t := .byte) (t' := .int) (by decide) (by decide)))
    have F8_q1_numberAt := F7_q1_numberAt.same W8
    have A8_b2 := A7_b2.other W8 nb2_q1.symm
    have E8_b2 := E7_b2.wr W8
    have A8_bl := A7.other W8 n_l
    exact g_retV (Q := (fun v h L => v = none ∧ Fr n0 L ∧ Keep h0 h [q1, bl] ∧ Exa Z h q1 "com/example/astilla/astilla/PointLabels" ∧ Fld Z h q1 "com/example/astilla/astilla/PointLabels" "label" "[B" (.ref bl) ∧ Fld Z h q1 "com/example/astilla/astilla/PointLabels" "separator" "B" (.int sp) ∧ Fld Z h q1 "com/example/astilla/astilla/PointLabels" "numberAt" "I" (.int (2 : Int32)) ∧ Arv Z h bl kl .byte (266 : Int32) [.int (lat x0), .int (nar .byte sp), .int 0, .int 0, .int 0, .int 0, .int 0, .int 0, .int 0, .int 0, .int 0, .int 0, .int 0] (.int 0))) X8 hx hby d8_39 hret hlk (by decide) (by decide) ⟨rfl, N8, K8, E8_q1, F8_q1_label, F8_q1_separator, F8_q1_numberAt, A8_bl⟩
theorem ef_rmSN2 (q1 : Addr) (q2 : Addr) (m : MethodId) : entryFrame m #[.ref q1, .ref q2] 3 = mkF m 0 #[.val (.ref q1), .val (.ref q2), .unset] [] := by
  first | (simp [entryFrame, mkF, argsToLocals, Value.category]; done) | rfl
theorem pn_rmSN2 : plainName "com/example/astilla/astilla/PointLabels" = true := by first | (simp [plainName, overriddenIn]; done) | decide +kernel
set_option maxRecDepth 65536 in
set_option maxHeartbeats 40000000 in
theorem rmSN2 (l : Launch) (Z : State) (a0 : Array Value) (hw : ∀ d ∈ tables_1, d.before a0 Z = true) (ws : List Jvm.Cond) (q1 : Addr) (q2 : Addr) (h0 : Heap) (n0 : Nat) (bl : Addr) (kl : ClassId) (sp : Int32) (bv : Addr) (x0 x1 : Int32) (kv : ClassId) (hx0 : AS x0) (hx1 : AS x1) (A_v : Arv Z h0 bv kv .byte (2 : Int32) [.int (lat x0), .int (lat x1)] (.int 0)) (E_v : Exa Z h0 bv "[B") (E_s : Exa Z h0 q2 "java/lang/String") (F_v : Fld Z h0 q2 "java/lang/String" "value" "[B" (.ref bv)) (F_c : Fld Z h0 q2 "java/lang/String" "coder" "B" (.int (0 : Int32)))  (Z0 : n0 ≤ h0.size) (E_a : Exa Z h0 q1 "com/example/astilla/astilla/PointLabels") (F_label : Fld Z h0 q1 "com/example/astilla/astilla/PointLabels" "label" "[B" (.ref bl)) (F_separator : Fld Z h0 q1 "com/example/astilla/astilla/PointLabels" "separator" "B" (.int sp)) (F_numberAt : Fld Z h0 q1 "com/example/astilla/astilla/PointLabels" "numberAt" "I" (.int (0 : Int32))) (A_l : Arv Z h0 bl kl .byte (266 : Int32) [.int 0, .int 0, .int 0, .int 0, .int 0, .int 0, .int 0, .int 0, .int 0, .int 0, .int 0, .int 0, .int 0] (.int 0)) (n_l : bl ≠ q1) (g_a : n0 ≤ q1) (g_l : n0 ≤ bl) (cs : Int32) (u8 : Addr) (SS : SSt Z cs u8) (O0 : Old Z n0 h0) :
    Ctr l Z ({ cls := "com/example/astilla/astilla/PointLabels", name := "startNode", desc := "(Ljava/lang/String;)V" } : Jvm.MethodName) prog_15_method_2_code 3 none ws ({ frames := 5, cells := 1, slots := 2, locals := 77 } : Room) #[.ref q1, .ref q2] h0 (fun v h L => v = none ∧ Fr n0 L ∧ Keep h0 h [q1, bl] ∧ Exa Z h q1 "com/example/astilla/astilla/PointLabels" ∧ Fld Z h q1 "com/example/astilla/astilla/PointLabels" "label" "[B" (.ref bl) ∧ Fld Z h q1 "com/example/astilla/astilla/PointLabels" "separator" "B" (.int sp) ∧ Fld Z h q1 "com/example/astilla/astilla/PointLabels" "numberAt" "I" (.int (3 : Int32)) ∧ Arv Z h bl kl .byte (266 : Int32) [.int (lat x0), .int (lat x1), .int (nar .byte sp), .int 0, .int 0, .int 0, .int 0, .int 0, .int 0, .int 0, .int 0, .int 0, .int 0] (.int 0)) := by
  refine Ctr.enter (Ls := #[.val (.ref q1), .val (.ref q2), .unset]) (plainFor_of_name pn_rmSN2) (fun m => ef_rmSN2 q1 q2 m) ?_
  intro p e s m below meth c T hx hby hml hown hnm hret hlk hZ hh X0 e0
  have N0 := Fr.nil n0
  refine g_aloadN X0 hx hby d8_0 (pc' := 1) rfl rfl rfl ?_
  refine g_getS X0 hx hZ hown hby d8_1 (pc' := 4) rfl (w_47 hw) e0 (SS.2.2.1.ext O0.2) ?_
  intro T1 X1 e1
  refine g_callV X1 hx hZ hown (W := 0) (argsL := [.ref u8]) (b := q2) (rest := []) hby d8_4 (pc' := 7) rfl (by rw [hml]; rfl) (w_49 hw) (w_50 hw) (w_52 hw) (notFace_of_selects (args := #[]) (mvT hZ (w_52 hw))) (w_51 hw) (w_4 hw) (w_53 hw) (by decide) (rmGB2 l Z a0 hw [] q2 u8 h0 n0 bv x0 x1 _ hx0 hx1 A_v E_v E_s F_v F_c Z0 cs SS O0) e1 E_s (by decide) (by decide) (by decide) (by decide) rfl pd__28Ljava_2fnio_2fcharset_2fCharset_3b_29_5bB rfl rfl (Nat.le_of_eq rfl) ?_
  rintro _ T2 L2 X2 (⟨b2, k2, rfl, N2q, K2, G2, A2, Ex2⟩)
  · have N2 := Fr.app N0 N2q
    have nb2_q2 : q2 ≠ b2 := Nat.ne_of_lt (Nat.lt_of_lt_of_le E_s.lt G2)
    have nb2_bv : bv ≠ b2 := Nat.ne_of_lt (Nat.lt_of_lt_of_le A_v.lt G2)
    have nb2_q1 : q1 ≠ b2 := Nat.ne_of_lt (Nat.lt_of_lt_of_le E_a.lt G2)
    have nb2_bl : bl ≠ b2 := Nat.ne_of_lt (Nat.lt_of_lt_of_le A_l.lt G2)
    have O2 := O0.keep K2 all0
    have E2_q2 := E_s.keep K2
    have F2_q2_value := F_v.keep K2 nin0
    have F2_q2_coder := F_c.keep K2 nin0
    have A2_bv := A_v.keep K2 nin0
    have E2_bv := E_v.keep K2
    have Z2 := Nat.le_trans Z0 K2.1
    have E2_q1 := E_a.keep K2
    have K2t := (Keep.refl h0 [q1, bl]).trans K2 all0
    have A2_bl := A_l.keep K2 nin0
    have F2_q1_label := F_label.keep K2 nin0
    have F2_q1_separator := F_separator.keep K2 nin0
    have F2_q1_numberAt := F_numberAt.keep K2 nin0
    show GoE p e below _ (T2.setTop (mkF m 7 #[.val (.ref q1), .val (.ref q2), .unset] [.ref b2]))
    refine g_astoreN X2 hx hby d8_7 (pc' := 8) rfl rfl (l' := #[.val (.ref q1), .val (.ref q2), .val (.ref b2)]) rfl ?_
    refine g_aloadN X2 hx hby d8_8 (pc' := 9) rfl rfl rfl ?_
    refine g_iconst X2 hx hby d8_9 (pc' := 10) rfl (z := (0 : Int32)) rfl ?_
    refine g_aloadN X2 hx hby d8_10 (pc' := 11) rfl rfl rfl ?_
    refine g_get X2 hx hZ hown hby d8_11 (pc' := 14) rfl (w_38 hw) rfl F2_q1_label ?_
    intro T3 X3 e3
    refine g_iconst X3 hx hby d8_14 (pc' := 15) rfl (z := (0 : Int32)) rfl ?_
    refine g_aloadN X3 hx hby d8_15 (pc' := 16) rfl rfl rfl ?_
    refine g_alen X3 hx hZ hby d8_16 (pc' := 17) rfl e3 A2 ?_
    refine g_arraycopy X3 hx hZ hown (us := [.int (lat x0), .int (lat x1)]) (W := 0) hby d8_17 (pc' := 20) rfl (by rw [hml]; rfl) (w_83 hw) (w_86 hw) (w_84 hw) (w_85 hw) e3 A2 A2_bl rfl (by decide) (by decide) (by decide) (by decide) (by decide) rfl (by decide) N2 g_l (by decide) (Nat.le_of_eq rfl) (by decide) ?_
    intro T4 L4 X4 N4 K4 A4v
    have O4 := O2.keep K4 (allS g_l all0)
    have Z4 := Nat.le_trans Z2 K4.1
    have E4_q1 := E2_q1.keep K4
    have K4t := K2t.trans K4 (allS (Or.inl (List.mem_of_getElem? (i := 1) rfl)) all0)
    have F4_q1_label := F2_q1_label.keep K4 (ninS n_l.symm nin0)
    have F4_q1_separator := F2_q1_separator.keep K4 (ninS n_l.symm nin0)
    have F4_q1_numberAt := F2_q1_numberAt.keep K4 (ninS n_l.symm nin0)
    have A4_b2 := A2.keep K4 (ninS nb2_bl.symm nin0)
    have E4_b2 := Ex2.keep K4
    have A4 : Arv Z T4.heap bl kl .byte (266 : Int32) [.int (lat x0), .int (lat x1), .int 0, .int 0, .int 0, .int 0, .int 0, .int 0, .int 0, .int 0, .int 0, .int 0, .int 0] (.int 0) := A4v
    refine g_aloadN X4 hx hby d8_20 (pc' := 21) rfl rfl rfl ?_
    refine g_get X4 hx hZ hown hby d8_21 (pc' := 24) rfl (w_38 hw) rfl F4_q1_label ?_
    intro T5 X5 e5
    refine g_aloadN X5 hx hby d8_24 (pc' := 25) rfl rfl rfl ?_
    refine g_alen X5 hx hZ hby d8_25 (pc' := 26) rfl e5 A4_b2 ?_
    refine g_aloadN X5 hx hby d8_26 (pc' := 27) rfl rfl rfl ?_
    refine g_get X5 hx hZ hown hby d8_27 (pc' := 30) rfl (w_40 hw) e5 F4_q1_separator ?_
    intro T6 X6 e6
    refine g_bastore X6 hx hZ 2 hby d8_30 (pc' := 31) rfl e6 A4 (by decide) (by decide) (by first | decide | simp) ?_
    intro T7 X7 W7 A7v
    have N7 := Fr.snoc X7 N4 g_l
    have O7 := O4.wr W7 g_l
    have Z7 : n0 ≤ T7.heap.size := (W7.size ▸ Z4)
    have E7_q1 := E4_q1.wr W7
    have K7 := K4t.wr W7 (Or.inl (List.mem_of_getElem? (i := 1) rfl))
    have F7_q1_label := F4_q1_label.other W7 (Or.inl n_l.symm)
    have F7_q1_separator := F4_q1_separator.other W7 (Or.inl n_l.symm)
    have F7_q1_numberAt := F4_q1_numberAt.other W7 (Or.inl n_l.symm)
    have A7_b2 := A4_b2.other W7 nb2_bl.symm
    have E7_b2 := E4_b2.wr W7
    have A7 : Arv Z T7.heap bl kl .byte (266 : Int32) [.int (lat x0), .int (lat x1), .int (nar .byte sp), .int 0, .int 0, .int 0, .int 0, .int 0, .int 0, .int 0, .int 0, .int 0, .int 0] (.int 0) := A7v
    refine g_aloadN X7 hx hby d8_31 (pc' := 32) rfl rfl rfl ?_
    refine g_aloadN X7 hx hby d8_32 (pc' := 33) rfl rfl rfl ?_
    refine g_alen X7 hx hZ hby d8_33 (pc' := 34) rfl rfl A7_b2 ?_
    refine g_iconst X7 hx hby d8_34 (pc' := 35) rfl (z := (1 : Int32)) rfl ?_
    refine g_iadd X7 hx hby d8_35 (pc' := 36) rfl ?_
    refine g_eqI (b := (3 : Int32)) (by decide +kernel) ?_
    refine g_put X7 hx hZ hown hby d8_36 (pc' := 39) rfl (w_87 hw) rfl F7_q1_numberAt E7_q1 (Or.inl (w_88 hw)) (w_32 hw) (ty := .int) (by decide) rfl rfl ?_
    intro T8 X8 W8
    have N8 := Fr.snoc X8 N7 g_a
    have O8 := O7.wr W8 g_a
    have Z8 : n0 ≤ T8.heap.size := (W8.size ▸ Z7)
    have E8_q1 := E7_q1.wr W8
    have K8 := K7.wr W8 (Or.inl (List.mem_of_getElem? (i := 0) rfl))
    have F8_q1_label := F7_q1_label.other W8 (Or.inr (slot_ne (Or.inr (w_39 hw)) (Or.inl (w_88 hw)) (by decide) (t := (.array .byte)) (t' := .int) (by decide) (by decide)))
    have F8_q1_separator := F7_q1_separator.other W8 (Or.inr (slot_ne (Or.inr (w_41 hw)) (Or.inl (w_88 hw)) (by decide) (t := .byte) (t' := .int) (by decide) (by decide)))
    have F8_q1_numberAt := F7_q1_numberAt.same W8
    have A8_b2 := A7_b2.other W8 nb2_q1.symm
    have E8_b2 := E7_b2.wr W8
    have A8_bl := A7.other W8 n_l
    exact g_retV (Q := (fun v h L => v = none ∧ Fr n0 L ∧ Keep h0 h [q1, bl] ∧ Exa Z h q1 "com/example/astilla/astilla/PointLabels" ∧ Fld Z h q1 "com/example/astilla/astilla/PointLabels" "label" "[B" (.ref bl) ∧ Fld Z h q1 "com/example/astilla/astilla/PointLabels" "separator" "B" (.int sp) ∧ Fld Z h q1 "com/example/astilla/astilla/PointLabels" "numberAt" "I" (.int (3 : Int32)) ∧ Arv Z h bl kl .byte (266 : Int32) [.int (lat x0), .int (lat x1), .int (nar .byte sp), .int 0, .int 0, .int 0, .int 0, .int 0, .int 0, .int 0, .int 0, .int 0, .int 0] (.int 0))) X8 hx hby d8_39 hret hlk (by decide) (by decide) ⟨rfl, N8, K8, E8_q1, F8_q1_label, F8_q1_separator, F8_q1_numberAt, A8_bl⟩
theorem ef_rmBY (q1 : Addr) (m : MethodId) : entryFrame m #[.ref q1] 1 = mkF m 0 #[.val (.ref q1)] [] := by
  first | (simp [entryFrame, mkF, argsToLocals, Value.category]; done) | rfl
theorem pn_rmBY : plainName "com/example/astilla/astilla/PointLabels" = true := by first | (simp [plainName, overriddenIn]; done) | decide +kernel
set_option maxRecDepth 65536 in
set_option maxHeartbeats 40000000 in
theorem rmBY (l : Launch) (Z : State) (a0 : Array Value) (hw : ∀ d ∈ tables_1, d.before a0 Z = true) (ws : List Jvm.Cond) (q1 : Addr) (h0 : Heap) (n0 : Nat) (bl : Addr) (F1 : Fld Z h0 q1 "com/example/astilla/astilla/PointLabels" "label" "[B" (.ref bl)) :
    Ctr l Z ({ cls := "com/example/astilla/astilla/PointLabels", name := "bytes", desc := "()[B" } : Jvm.MethodName) prog_15_method_4_code 1 (some (.array .byte)) ws ({ frames := 0, cells := 0, slots := 0, locals := 0 } : Room) #[.ref q1] h0 (fun v h L => v = some (.ref bl) ∧ Fr n0 L ∧ h = h0) := by
  refine Ctr.enter (Ls := #[.val (.ref q1)]) (plainFor_of_name pn_rmBY) (fun m => ef_rmBY q1 m) ?_
  intro p e s m below meth c T hx hby hml hown hnm hret hlk hZ hh X0 e0
  have N0 := Fr.nil n0
  refine g_aloadN X0 hx hby d18_0 (pc' := 1) rfl rfl rfl ?_
  refine g_get X0 hx hZ hown hby d18_1 (pc' := 4) rfl (w_38 hw) e0 F1 ?_
  intro T1 X1 e1
  exact g_retA (Q := (fun v h L => v = some (.ref bl) ∧ Fr n0 L ∧ h = h0)) X1 hx hby d18_4 rfl hret rfl hlk (by decide) (by decide) ⟨rfl, N0, e1⟩
theorem ef_rmPW (q1 : Int32) (m : MethodId) : entryFrame m #[.int q1] 1 = mkF m 0 #[.val (.int q1)] [] := by
  first | (simp [entryFrame, mkF, argsToLocals, Value.category]; done) | rfl
theorem pn_rmPW : plainName "com/example/astilla/astilla/PointLabelsWritePinLaw" = true := by first | (simp [plainName, overriddenIn]; done) | decide +kernel
set_option maxRecDepth 65536 in
set_option maxHeartbeats 40000000 in
theorem rmPW (l : Launch) (Z : State) (a0 : Array Value) (hw : ∀ d ∈ tables_1, d.before a0 Z = true) (ws : List Jvm.Cond) (q1 : Int32) (h0 : Heap) (n0 : Nat)  :
    Ctr l Z ({ cls := "com/example/astilla/astilla/PointLabelsWritePinLaw", name := "pow10", desc := "(I)I" } : Jvm.MethodName) method_2_code 1 (some .int) ws ({ frames := 0, cells := 0, slots := 0, locals := 0 } : Room) #[.int q1] h0 (fun v h L => v = some (.int (pow10V q1)) ∧ Fr n0 L ∧ h = h0) := by
  refine Ctr.enter (Ls := #[.val (.int q1)]) (plainFor_of_name pn_rmPW) (fun m => ef_rmPW q1 m) ?_
  intro p e s m below meth c T hx hby hml hown hnm hret hlk hZ hh X0 e0
  have N0 := Fr.nil n0
  refine g_iloadN X0 hx hby d20_0 (pc' := 1) rfl rfl ?_
  refine g_if_ne X0 hx hby d20_1 (by decide) (pc' := 6) (by decide) (pn := 4) rfl (fun hc1_1 => ?_) (fun hc1_1 => ?_)
  · refine g_iloadN X0 hx hby d20_6 (pc' := 7) rfl rfl ?_
    refine g_iconst X0 hx hby d20_7 (pc' := 8) rfl (z := (1 : Int32)) rfl ?_
    refine g_icmp_ne X0 hx hby d20_8 (by decide) (pc' := 14) (by decide) (pn := 11) rfl (fun hc8_2 => ?_) (fun hc8_2 => ?_)
    · refine g_iloadN X0 hx hby d20_14 (pc' := 15) rfl rfl ?_
      refine g_iconst X0 hx hby d20_15 (pc' := 16) rfl (z := (2 : Int32)) rfl ?_
      refine g_icmp_ne X0 hx hby d20_16 (by decide) (pc' := 22) (by decide) (pn := 19) rfl (fun hc16_3 => ?_) (fun hc16_3 => ?_)
      · refine g_iloadN X0 hx hby d20_22 (pc' := 23) rfl rfl ?_
        refine g_iconst X0 hx hby d20_23 (pc' := 24) rfl (z := (3 : Int32)) rfl ?_
        refine g_icmp_ne X0 hx hby d20_24 (by decide) (pc' := 31) (by decide) (pn := 27) rfl (fun hc24_4 => ?_) (fun hc24_4 => ?_)
        · refine g_iloadN X0 hx hby d20_31 (pc' := 32) rfl rfl ?_
          refine g_iconst X0 hx hby d20_32 (pc' := 33) rfl (z := (4 : Int32)) rfl ?_
          refine g_icmp_ne X0 hx hby d20_33 (by decide) (pc' := 40) (by decide) (pn := 36) rfl (fun hc33_5 => ?_) (fun hc33_5 => ?_)
          · refine g_iloadN X0 hx hby d20_40 (pc' := 41) rfl rfl ?_
            refine g_iconst X0 hx hby d20_41 (pc' := 42) rfl (z := (5 : Int32)) rfl ?_
            refine g_icmp_ne X0 hx hby d20_42 (by decide) (pc' := 48) (by decide) (pn := 45) rfl (fun hc42_6 => ?_) (fun hc42_6 => ?_)
            · refine g_iloadN X0 hx hby d20_48 (pc' := 49) rfl rfl ?_
              refine g_bipush X0 hx hby d20_49 (pc' := 51) rfl (z := (6 : Int32)) rfl ?_
              refine g_icmp_ne X0 hx hby d20_51 (by decide) (pc' := 57) (by decide) (pn := 54) rfl (fun hc51_7 => ?_) (fun hc51_7 => ?_)
              · refine g_iloadN X0 hx hby d20_57 (pc' := 58) rfl rfl ?_
                refine g_bipush X0 hx hby d20_58 (pc' := 60) rfl (z := (7 : Int32)) rfl ?_
                refine g_icmp_ne X0 hx hby d20_60 (by decide) (pc' := 66) (by decide) (pn := 63) rfl (fun hc60_8 => ?_) (fun hc60_8 => ?_)
                · refine g_iloadN X0 hx hby d20_66 (pc' := 67) rfl rfl ?_
                  refine g_bipush X0 hx hby d20_67 (pc' := 69) rfl (z := (8 : Int32)) rfl ?_
                  refine g_icmp_ne X0 hx hby d20_69 (by decide) (pc' := 75) (by decide) (pn := 72) rfl (fun hc69_9 => ?_) (fun hc69_9 => ?_)
                  · refine g_ldcI X0 hx hZ hown hby d20_75 (pc' := 77) rfl (w_116 hw) ?_
                    exact g_retI (Q := (fun v h L => v = some (.int (pow10V q1)) ∧ Fr n0 L ∧ h = h0)) X0 hx hby d20_77 hret hlk (by decide) (by decide) ⟨congrArg (fun z : Int32 => some (Value.int z)) (by unfold pow10V; rw [if_neg hc1_1, if_neg hc8_2, if_neg hc16_3, if_neg hc24_4, if_neg hc33_5, if_neg hc42_6, if_neg hc51_7, if_neg hc60_8, if_neg hc69_9]), N0, e0⟩
                  · refine g_ldcI X0 hx hZ hown hby d20_72 (pc' := 74) rfl (w_115 hw) ?_
                    exact g_retI (Q := (fun v h L => v = some (.int (pow10V q1)) ∧ Fr n0 L ∧ h = h0)) X0 hx hby d20_74 hret hlk (by decide) (by decide) ⟨congrArg (fun z : Int32 => some (Value.int z)) (by unfold pow10V; rw [if_neg hc1_1, if_neg hc8_2, if_neg hc16_3, if_neg hc24_4, if_neg hc33_5, if_neg hc42_6, if_neg hc51_7, if_neg hc60_8, if_pos hc69_9]), N0, e0⟩
                · refine g_ldcI X0 hx hZ hown hby d20_63 (pc' := 65) rfl (w_114 hw) ?_
                  exact g_retI (Q := (fun v h L => v = some (.int (pow10V q1)) ∧ Fr n0 L ∧ h = h0)) X0 hx hby d20_65 hret hlk (by decide) (by decide) ⟨congrArg (fun z : Int32 => some (Value.int z)) (by unfold pow10V; rw [if_neg hc1_1, if_neg hc8_2, if_neg hc16_3, if_neg hc24_4, if_neg hc33_5, if_neg hc42_6, if_neg hc51_7, if_pos hc60_8]), N0, e0⟩
              · refine g_ldcI X0 hx hZ hown hby d20_54 (pc' := 56) rfl (w_113 hw) ?_
                exact g_retI (Q := (fun v h L => v = some (.int (pow10V q1)) ∧ Fr n0 L ∧ h = h0)) X0 hx hby d20_56 hret hlk (by decide) (by decide) ⟨congrArg (fun z : Int32 => some (Value.int z)) (by unfold pow10V; rw [if_neg hc1_1, if_neg hc8_2, if_neg hc16_3, if_neg hc24_4, if_neg hc33_5, if_neg hc42_6, if_pos hc51_7]), N0, e0⟩
            · refine g_ldcI X0 hx hZ hown hby d20_45 (pc' := 47) rfl (w_112 hw) ?_
              exact g_retI (Q := (fun v h L => v = some (.int (pow10V q1)) ∧ Fr n0 L ∧ h = h0)) X0 hx hby d20_47 hret hlk (by decide) (by decide) ⟨congrArg (fun z : Int32 => some (Value.int z)) (by unfold pow10V; rw [if_neg hc1_1, if_neg hc8_2, if_neg hc16_3, if_neg hc24_4, if_neg hc33_5, if_pos hc42_6]), N0, e0⟩
          · refine g_sipush X0 hx hby d20_36 (pc' := 39) rfl (z := (10000 : Int32)) rfl ?_
            exact g_retI (Q := (fun v h L => v = some (.int (pow10V q1)) ∧ Fr n0 L ∧ h = h0)) X0 hx hby d20_39 hret hlk (by decide) (by decide) ⟨congrArg (fun z : Int32 => some (Value.int z)) (by unfold pow10V; rw [if_neg hc1_1, if_neg hc8_2, if_neg hc16_3, if_neg hc24_4, if_pos hc33_5]), N0, e0⟩
        · refine g_sipush X0 hx hby d20_27 (pc' := 30) rfl (z := (1000 : Int32)) rfl ?_
          exact g_retI (Q := (fun v h L => v = some (.int (pow10V q1)) ∧ Fr n0 L ∧ h = h0)) X0 hx hby d20_30 hret hlk (by decide) (by decide) ⟨congrArg (fun z : Int32 => some (Value.int z)) (by unfold pow10V; rw [if_neg hc1_1, if_neg hc8_2, if_neg hc16_3, if_pos hc24_4]), N0, e0⟩
      · refine g_bipush X0 hx hby d20_19 (pc' := 21) rfl (z := (100 : Int32)) rfl ?_
        exact g_retI (Q := (fun v h L => v = some (.int (pow10V q1)) ∧ Fr n0 L ∧ h = h0)) X0 hx hby d20_21 hret hlk (by decide) (by decide) ⟨congrArg (fun z : Int32 => some (Value.int z)) (by unfold pow10V; rw [if_neg hc1_1, if_neg hc8_2, if_pos hc16_3]), N0, e0⟩
    · refine g_bipush X0 hx hby d20_11 (pc' := 13) rfl (z := (10 : Int32)) rfl ?_
      exact g_retI (Q := (fun v h L => v = some (.int (pow10V q1)) ∧ Fr n0 L ∧ h = h0)) X0 hx hby d20_13 hret hlk (by decide) (by decide) ⟨congrArg (fun z : Int32 => some (Value.int z)) (by unfold pow10V; rw [if_neg hc1_1, if_pos hc8_2]), N0, e0⟩
  · refine g_iconst X0 hx hby d20_4 (pc' := 5) rfl (z := (1 : Int32)) rfl ?_
    exact g_retI (Q := (fun v h L => v = some (.int (pow10V q1)) ∧ Fr n0 L ∧ h = h0)) X0 hx hby d20_5 hret hlk (by decide) (by decide) ⟨congrArg (fun z : Int32 => some (Value.int z)) (by unfold pow10V; rw [if_pos hc1_1]), N0, e0⟩
theorem ef_rmDI (q1 : Int32) (m : MethodId) : entryFrame m #[.int q1] 1 = mkF m 0 #[.val (.int q1)] [] := by
  first | (simp [entryFrame, mkF, argsToLocals, Value.category]; done) | rfl
theorem pn_rmDI : plainName "com/example/astilla/astilla/PointLabelsWritePinLaw" = true := by first | (simp [plainName, overriddenIn]; done) | decide +kernel
set_option maxRecDepth 65536 in
set_option maxHeartbeats 40000000 in
theorem rmDI (l : Launch) (Z : State) (a0 : Array Value) (hw : ∀ d ∈ tables_1, d.before a0 Z = true) (ws : List Jvm.Cond) (q1 : Int32) (h0 : Heap) (n0 : Nat)  :
    Ctr l Z ({ cls := "com/example/astilla/astilla/PointLabelsWritePinLaw", name := "digits", desc := "(I)I" } : Jvm.MethodName) method_3_code 1 (some .int) ws ({ frames := 0, cells := 0, slots := 0, locals := 0 } : Room) #[.int q1] h0 (fun v h L => v = some (.int (digV q1)) ∧ Fr n0 L ∧ h = h0) := by
  refine Ctr.enter (Ls := #[.val (.int q1)]) (plainFor_of_name pn_rmDI) (fun m => ef_rmDI q1 m) ?_
  intro p e s m below meth c T hx hby hml hown hnm hret hlk hZ hh X0 e0
  have N0 := Fr.nil n0
  refine g_iloadN X0 hx hby d17_0 (pc' := 1) rfl rfl ?_
  refine g_bipush X0 hx hby d17_1 (pc' := 3) rfl (z := (10 : Int32)) rfl ?_
  refine g_icmp_ge X0 hx hby d17_3 (by decide) (pc' := 8) (by decide) (pn := 6) rfl (fun hc3_1 => ?_) (fun hc3_1 => ?_)
  · refine g_iloadN X0 hx hby d17_8 (pc' := 9) rfl rfl ?_
    refine g_bipush X0 hx hby d17_9 (pc' := 11) rfl (z := (100 : Int32)) rfl ?_
    refine g_icmp_ge X0 hx hby d17_11 (by decide) (pc' := 16) (by decide) (pn := 14) rfl (fun hc11_2 => ?_) (fun hc11_2 => ?_)
    · refine g_iloadN X0 hx hby d17_16 (pc' := 17) rfl rfl ?_
      refine g_sipush X0 hx hby d17_17 (pc' := 20) rfl (z := (1000 : Int32)) rfl ?_
      refine g_icmp_ge X0 hx hby d17_20 (by decide) (pc' := 25) (by decide) (pn := 23) rfl (fun hc20_3 => ?_) (fun hc20_3 => ?_)
      · refine g_iloadN X0 hx hby d17_25 (pc' := 26) rfl rfl ?_
        refine g_sipush X0 hx hby d17_26 (pc' := 29) rfl (z := (10000 : Int32)) rfl ?_
        refine g_icmp_ge X0 hx hby d17_29 (by decide) (pc' := 34) (by decide) (pn := 32) rfl (fun hc29_4 => ?_) (fun hc29_4 => ?_)
        · refine g_iloadN X0 hx hby d17_34 (pc' := 35) rfl rfl ?_
          refine g_ldcI X0 hx hZ hown hby d17_35 (pc' := 37) rfl (w_112 hw) ?_
          refine g_icmp_ge X0 hx hby d17_37 (by decide) (pc' := 42) (by decide) (pn := 40) rfl (fun hc37_5 => ?_) (fun hc37_5 => ?_)
          · refine g_iloadN X0 hx hby d17_42 (pc' := 43) rfl rfl ?_
            refine g_ldcI X0 hx hZ hown hby d17_43 (pc' := 45) rfl (w_113 hw) ?_
            refine g_icmp_ge X0 hx hby d17_45 (by decide) (pc' := 51) (by decide) (pn := 48) rfl (fun hc45_6 => ?_) (fun hc45_6 => ?_)
            · refine g_iloadN X0 hx hby d17_51 (pc' := 52) rfl rfl ?_
              refine g_ldcI X0 hx hZ hown hby d17_52 (pc' := 54) rfl (w_114 hw) ?_
              refine g_icmp_ge X0 hx hby d17_54 (by decide) (pc' := 60) (by decide) (pn := 57) rfl (fun hc54_7 => ?_) (fun hc54_7 => ?_)
              · refine g_iloadN X0 hx hby d17_60 (pc' := 61) rfl rfl ?_
                refine g_ldcI X0 hx hZ hown hby d17_61 (pc' := 63) rfl (w_115 hw) ?_
                refine g_icmp_ge X0 hx hby d17_63 (by decide) (pc' := 69) (by decide) (pn := 66) rfl (fun hc63_8 => ?_) (fun hc63_8 => ?_)
                · refine g_iloadN X0 hx hby d17_69 (pc' := 70) rfl rfl ?_
                  refine g_ldcI X0 hx hZ hown hby d17_70 (pc' := 72) rfl (w_116 hw) ?_
                  refine g_icmp_ge X0 hx hby d17_72 (by decide) (pc' := 78) (by decide) (pn := 75) rfl (fun hc72_9 => ?_) (fun hc72_9 => ?_)
                  · refine g_bipush X0 hx hby d17_78 (pc' := 80) rfl (z := (10 : Int32)) rfl ?_
                    exact g_retI (Q := (fun v h L => v = some (.int (digV q1)) ∧ Fr n0 L ∧ h = h0)) X0 hx hby d17_80 hret hlk (by decide) (by decide) ⟨congrArg (fun z : Int32 => some (Value.int z)) (by unfold digV; rw [if_neg hc3_1, if_neg hc11_2, if_neg hc20_3, if_neg hc29_4, if_neg hc37_5, if_neg hc45_6, if_neg hc54_7, if_neg hc63_8, if_neg hc72_9]), N0, e0⟩
                  · refine g_bipush X0 hx hby d17_75 (pc' := 77) rfl (z := (9 : Int32)) rfl ?_
                    exact g_retI (Q := (fun v h L => v = some (.int (digV q1)) ∧ Fr n0 L ∧ h = h0)) X0 hx hby d17_77 hret hlk (by decide) (by decide) ⟨congrArg (fun z : Int32 => some (Value.int z)) (by unfold digV; rw [if_neg hc3_1, if_neg hc11_2, if_neg hc20_3, if_neg hc29_4, if_neg hc37_5, if_neg hc45_6, if_neg hc54_7, if_neg hc63_8, if_pos hc72_9]), N0, e0⟩
                · refine g_bipush X0 hx hby d17_66 (pc' := 68) rfl (z := (8 : Int32)) rfl ?_
                  exact g_retI (Q := (fun v h L => v = some (.int (digV q1)) ∧ Fr n0 L ∧ h = h0)) X0 hx hby d17_68 hret hlk (by decide) (by decide) ⟨congrArg (fun z : Int32 => some (Value.int z)) (by unfold digV; rw [if_neg hc3_1, if_neg hc11_2, if_neg hc20_3, if_neg hc29_4, if_neg hc37_5, if_neg hc45_6, if_neg hc54_7, if_pos hc63_8]), N0, e0⟩
              · refine g_bipush X0 hx hby d17_57 (pc' := 59) rfl (z := (7 : Int32)) rfl ?_
                exact g_retI (Q := (fun v h L => v = some (.int (digV q1)) ∧ Fr n0 L ∧ h = h0)) X0 hx hby d17_59 hret hlk (by decide) (by decide) ⟨congrArg (fun z : Int32 => some (Value.int z)) (by unfold digV; rw [if_neg hc3_1, if_neg hc11_2, if_neg hc20_3, if_neg hc29_4, if_neg hc37_5, if_neg hc45_6, if_pos hc54_7]), N0, e0⟩
            · refine g_bipush X0 hx hby d17_48 (pc' := 50) rfl (z := (6 : Int32)) rfl ?_
              exact g_retI (Q := (fun v h L => v = some (.int (digV q1)) ∧ Fr n0 L ∧ h = h0)) X0 hx hby d17_50 hret hlk (by decide) (by decide) ⟨congrArg (fun z : Int32 => some (Value.int z)) (by unfold digV; rw [if_neg hc3_1, if_neg hc11_2, if_neg hc20_3, if_neg hc29_4, if_neg hc37_5, if_pos hc45_6]), N0, e0⟩
          · refine g_iconst X0 hx hby d17_40 (pc' := 41) rfl (z := (5 : Int32)) rfl ?_
            exact g_retI (Q := (fun v h L => v = some (.int (digV q1)) ∧ Fr n0 L ∧ h = h0)) X0 hx hby d17_41 hret hlk (by decide) (by decide) ⟨congrArg (fun z : Int32 => some (Value.int z)) (by unfold digV; rw [if_neg hc3_1, if_neg hc11_2, if_neg hc20_3, if_neg hc29_4, if_pos hc37_5]), N0, e0⟩
        · refine g_iconst X0 hx hby d17_32 (pc' := 33) rfl (z := (4 : Int32)) rfl ?_
          exact g_retI (Q := (fun v h L => v = some (.int (digV q1)) ∧ Fr n0 L ∧ h = h0)) X0 hx hby d17_33 hret hlk (by decide) (by decide) ⟨congrArg (fun z : Int32 => some (Value.int z)) (by unfold digV; rw [if_neg hc3_1, if_neg hc11_2, if_neg hc20_3, if_pos hc29_4]), N0, e0⟩
      · refine g_iconst X0 hx hby d17_23 (pc' := 24) rfl (z := (3 : Int32)) rfl ?_
        exact g_retI (Q := (fun v h L => v = some (.int (digV q1)) ∧ Fr n0 L ∧ h = h0)) X0 hx hby d17_24 hret hlk (by decide) (by decide) ⟨congrArg (fun z : Int32 => some (Value.int z)) (by unfold digV; rw [if_neg hc3_1, if_neg hc11_2, if_pos hc20_3]), N0, e0⟩
    · refine g_iconst X0 hx hby d17_14 (pc' := 15) rfl (z := (2 : Int32)) rfl ?_
      exact g_retI (Q := (fun v h L => v = some (.int (digV q1)) ∧ Fr n0 L ∧ h = h0)) X0 hx hby d17_15 hret hlk (by decide) (by decide) ⟨congrArg (fun z : Int32 => some (Value.int z)) (by unfold digV; rw [if_neg hc3_1, if_pos hc11_2]), N0, e0⟩
  · refine g_iconst X0 hx hby d17_6 (pc' := 7) rfl (z := (1 : Int32)) rfl ?_
    exact g_retI (Q := (fun v h L => v = some (.int (digV q1)) ∧ Fr n0 L ∧ h = h0)) X0 hx hby d17_7 hret hlk (by decide) (by decide) ⟨congrArg (fun z : Int32 => some (Value.int z)) (by unfold digV; rw [if_pos hc3_1]), N0, e0⟩
theorem ef_rmOK (q1 : Addr) (q2 : Int32) (q3 : Int32) (q4 : Int32) (q5 : Int32) (m : MethodId) : entryFrame m #[.ref q1, .int q2, .int q3, .int q4, .int q5] 5 = mkF m 0 #[.val (.ref q1), .val (.int q2), .val (.int q3), .val (.int q4), .val (.int q5)] [] := by
  first | (simp [entryFrame, mkF, argsToLocals, Value.category]; done) | rfl
theorem pn_rmOK : plainName "com/example/astilla/astilla/PointLabelsWritePinLaw" = true := by first | (simp [plainName, overriddenIn]; done) | decide +kernel
set_option maxRecDepth 65536 in
set_option maxHeartbeats 40000000 in
theorem rmOK (l : Launch) (Z : State) (a0 : Array Value) (hw : ∀ d ∈ tables_1, d.before a0 Z = true) (ws : List Jvm.Cond) (q1 : Addr) (q2 : Int32) (q3 : Int32) (q4 : Int32) (q5 : Int32) (h0 : Heap) (n0 : Nat) (kb : ClassId) (vs : List Value) (A_b : Arv Z h0 q1 kb .byte (266 : Int32) vs (.int 0)) (H : q5 < q3 → (¬ ((((q2 + q3) - (1 : Int32)) - q5)) < 0 ∧ ((((q2 + q3) - (1 : Int32)) - q5)) < 266) ∧ ∃ w : Int32, vs.getD ((((q2 + q3) - (1 : Int32)) - q5)).toNatClampNeg (.int 0) = .int w ∧ w = dexp q4 q5) :
    Ctr l Z ({ cls := "com/example/astilla/astilla/PointLabelsWritePinLaw", name := "digitOk", desc := "([BIIII)Z" } : Jvm.MethodName) method_4_code 5 (some .boolean) ws ({ frames := 1, cells := 0, slots := 0, locals := 15 } : Room) #[.ref q1, .int q2, .int q3, .int q4, .int q5] h0 (fun v h L => v = some (.int (1 : Int32)) ∧ Fr n0 L ∧ h = h0) := by
  refine Ctr.enter (Ls := #[.val (.ref q1), .val (.int q2), .val (.int q3), .val (.int q4), .val (.int q5)]) (plainFor_of_name pn_rmOK) (fun m => ef_rmOK q1 q2 q3 q4 q5 m) ?_
  intro p e s m below meth c T hx hby hml hown hnm hret hlk hZ hh X0 e0
  have N0 := Fr.nil n0
  refine g_iload X0 hx hby d19_0 (pc' := 2) rfl rfl ?_
  refine g_iloadN X0 hx hby d19_2 (pc' := 3) rfl rfl ?_
  refine g_icmp_lt X0 hx hby d19_3 (by decide) (pc' := 8) (by decide) (pn := 6) rfl (fun hc3_1 => ?_) (fun hc3_1 => ?_)
  · obtain ⟨hj, ww, hu, he⟩ := H hc3_1
    refine g_aloadN X0 hx hby d19_8 (pc' := 9) rfl rfl rfl ?_
    refine g_iloadN X0 hx hby d19_9 (pc' := 10) rfl rfl ?_
    refine g_iloadN X0 hx hby d19_10 (pc' := 11) rfl rfl ?_
    refine g_iadd X0 hx hby d19_11 (pc' := 12) rfl ?_
    refine g_iconst X0 hx hby d19_12 (pc' := 13) rfl (z := (1 : Int32)) rfl ?_
    refine g_isub X0 hx hby d19_13 (pc' := 14) rfl ?_
    refine g_iload X0 hx hby d19_14 (pc' := 16) rfl rfl ?_
    refine g_isub X0 hx hby d19_16 (pc' := 17) rfl ?_
    refine g_baload X0 hx hZ hby d19_17 (pc' := 18) rfl e0 A_b hj (v := .int ww) hu ?_
    refine g_bipush X0 hx hby d19_18 (pc' := 20) rfl (z := (48 : Int32)) rfl ?_
    refine g_iloadN X0 hx hby d19_20 (pc' := 21) rfl rfl ?_
    refine g_iload X0 hx hby d19_21 (pc' := 23) rfl rfl ?_
    refine g_callS X0 hx hZ hown (W := 3) (argsL := [.int q5]) (rest := [.int q4, .int (48 : Int32), .int ww]) hby d19_23 (pc' := 26) rfl (by rw [hml]; rfl) (w_109 hw) (w_110 hw) (w_96 hw) (w_111 hw) (by decide) (rmPW l Z a0 hw [] q5 h0 n0) e0 (by decide) (by decide) (by decide) (by decide) rfl pd__28I_29I rfl rfl (Nat.le_of_eq rfl) ?_
    rintro _ T2 L2 X2 ⟨rfl, N2q, e2⟩
    have N2 := Fr.app N0 N2q
    show GoE p e below _ (T2.setTop (mkF m 26 #[.val (.ref q1), .val (.int q2), .val (.int q3), .val (.int q4), .val (.int q5)] [.int (pow10V q5), .int q4, .int (48 : Int32), .int ww]))
    refine g_idiv X2 hx hby d19_26 (pc' := 27) rfl (own_pnz _) ?_
    refine g_bipush X2 hx hby d19_27 (pc' := 29) rfl (z := (10 : Int32)) rfl ?_
    refine g_irem X2 hx hby d19_29 (pc' := 30) rfl (by decide) ?_
    refine g_iadd X2 hx hby d19_30 (pc' := 31) rfl ?_
    refine g_i2b X2 hx hby d19_31 (pc' := 32) rfl ?_
    refine g_icmp_ne X2 hx hby d19_32 (by decide) (pc' := 39) (by decide) (pn := 35) rfl (fun z => absurd z (fun z => z he)) (fun hc32_3 => ?_)
    refine g_iconst X2 hx hby d19_35 (pc' := 36) rfl (z := (1 : Int32)) rfl ?_
    refine g_goto X2 hx hby d19_36 (by decide) (pc' := 40) (by decide) ?_
    exact g_retN (Q := (fun v h L => v = some (.int (1 : Int32)) ∧ Fr n0 L ∧ h = h0)) (w := (1 : Int32)) X2 hx hby d19_40 hret (by simp) (by first | decide | rfl) hlk (by decide) (by decide) ⟨rfl, N2, e2⟩
  · refine g_iconst X0 hx hby d19_6 (pc' := 7) rfl (z := (1 : Int32)) rfl ?_
    exact g_retN (Q := (fun v h L => v = some (.int (1 : Int32)) ∧ Fr n0 L ∧ h = h0)) (w := (1 : Int32)) X0 hx hby d19_7 hret (by simp) (by first | decide | rfl) hlk (by decide) (by decide) ⟨rfl, N0, e0⟩
theorem ef_rmCK1 (q1 : Addr) (q2 : Int32) (q4 : Int32) (q5 : Int32) (q6 : Int32) (q7 : Int32) (m : MethodId) : entryFrame m #[.ref q1, .int q2, .int (1 : Int32), .int q4, .int q5, .int q6, .int q7] 10 = mkF m 0 #[.val (.ref q1), .val (.int q2), .val (.int (1 : Int32)), .val (.int q4), .val (.int q5), .val (.int q6), .val (.int q7), .unset, .unset, .unset] [] := by
  first | (simp [entryFrame, mkF, argsToLocals, Value.category]; done) | rfl
theorem pn_rmCK1 : plainName "com/example/astilla/astilla/PointLabelsWritePinLaw" = true := by first | (simp [plainName, overriddenIn]; done) | decide +kernel
set_option maxRecDepth 65536 in
set_option maxHeartbeats 40000000 in
theorem rmCK1 (l : Launch) (Z : State) (a0 : Array Value) (hw : ∀ d ∈ tables_1, d.before a0 Z = true) (ws : List Jvm.Cond) (q1 : Addr) (q2 : Int32) (q4 : Int32) (q5 : Int32) (q6 : Int32) (q7 : Int32) (h0 : Heap) (n0 : Nat) (bl : Addr) (kl : ClassId) (p0 p1 p2 p3 p4 p5 p6 p7 p8 p9 p10 p11 p12 : Int32) (E_a : Exa Z h0 q1 "com/example/astilla/astilla/PointLabels") (F1 : Fld Z h0 q1 "com/example/astilla/astilla/PointLabels" "label" "[B" (.ref bl)) (A_l : Arv Z h0 bl kl .byte (266 : Int32) [.int p0, .int p1, .int p2, .int p3, .int p4, .int p5, .int p6, .int p7, .int p8, .int p9, .int p10, .int p11, .int p12] (.int 0)) (hl : q2 = ((2 : Int32) + (digV q7))) (ec0 : p0 = q4.toInt8.toInt32) (ec1 : True) (es : p1 = q6) (hD : DIGS 1 q7 [.int p0, .int p1, .int p2, .int p3, .int p4, .int p5, .int p6, .int p7, .int p8, .int p9, .int p10, .int p11, .int p12]) (hq : 0 ≤ q7.toInt) :
    Ctr l Z ({ cls := "com/example/astilla/astilla/PointLabelsWritePinLaw", name := "check", desc := "(Lcom/example/astilla/astilla/PointLabels;IICCBI)Z" } : Jvm.MethodName) method_5_code 10 (some .boolean) ws ({ frames := 2, cells := 0, slots := 0, locals := 31 } : Room) #[.ref q1, .int q2, .int (1 : Int32), .int q4, .int q5, .int q6, .int q7] h0 (fun v h L => v = some (.int (1 : Int32)) ∧ Fr n0 L ∧ h = h0) := by
  refine Ctr.enter (Ls := #[.val (.ref q1), .val (.int q2), .val (.int (1 : Int32)), .val (.int q4), .val (.int q5), .val (.int q6), .val (.int q7), .unset, .unset, .unset]) (plainFor_of_name pn_rmCK1) (fun m => ef_rmCK1 q1 q2 q4 q5 q6 q7 m) ?_
  intro p e s m below meth c T hx hby hml hown hnm hret hlk hZ hh X0 e0
  have N0 := Fr.nil n0
  refine g_iload X0 hx hby d16_0 (pc' := 2) rfl rfl ?_
  refine g_callS X0 hx hZ hown (W := 0) (argsL := [.int q7]) (rest := []) hby d16_2 (pc' := 5) rfl (by rw [hml]; rfl) (w_98 hw) (w_99 hw) (w_96 hw) (w_100 hw) (by decide) (rmDI l Z a0 hw [] q7 h0 n0) e0 (by decide) (by decide) (by decide) (by decide) rfl pd__28I_29I rfl rfl (Nat.le_of_eq rfl) ?_
  rintro _ T1 L1 X1 ⟨rfl, N1q, e1⟩
  have N1 := Fr.app N0 N1q
  show GoE p e below _ (T1.setTop (mkF m 5 #[.val (.ref q1), .val (.int q2), .val (.int (1 : Int32)), .val (.int q4), .val (.int q5), .val (.int q6), .val (.int q7), .unset, .unset, .unset] [.int (digV q7)]))
  refine g_istore X1 hx hby d16_5 (pc' := 7) rfl (l' := #[.val (.ref q1), .val (.int q2), .val (.int (1 : Int32)), .val (.int q4), .val (.int q5), .val (.int q6), .val (.int q7), .val (.int (digV q7)), .unset, .unset]) rfl ?_
  refine g_iloadN X1 hx hby d16_7 (pc' := 8) rfl rfl ?_
  refine g_iloadN X1 hx hby d16_8 (pc' := 9) rfl rfl ?_
  refine g_iconst X1 hx hby d16_9 (pc' := 10) rfl (z := (1 : Int32)) rfl ?_
  refine g_iadd X1 hx hby d16_10 (pc' := 11) rfl ?_
  refine g_eqI (b := (2 : Int32)) (by decide +kernel) ?_
  refine g_iload X1 hx hby d16_11 (pc' := 13) rfl rfl ?_
  refine g_iadd X1 hx hby d16_13 (pc' := 14) rfl ?_
  refine g_icmp_eq X1 hx hby d16_14 (by decide) (pc' := 19) (by decide) (pn := 17) rfl (fun hc14_2 => ?_) (fun z => absurd z (fun z => z hl))
  refine g_aloadN X1 hx hby d16_19 (pc' := 20) rfl rfl rfl ?_
  refine g_callV X1 hx hZ hown (W := 0) (argsL := []) (b := q1) (rest := []) hby d16_20 (pc' := 23) rfl (by rw [hml]; rfl) (w_101 hw) (w_102 hw) (w_104 hw) (notFace_of_selects (args := #[]) (mvT hZ (w_104 hw))) (w_103 hw) (w_33 hw) (w_105 hw) (by decide) (rmBY l Z a0 hw [] q1 h0 n0 _ F1) e1 E_a (by decide) (by decide) (by decide) (by decide) rfl pd__28_29_5bB rfl rfl (Nat.le_of_eq rfl) ?_
  rintro _ T3 L3 X3 ⟨rfl, N3q, e3⟩
  have N3 := Fr.app N1 N3q
  show GoE p e below _ (T3.setTop (mkF m 23 #[.val (.ref q1), .val (.int q2), .val (.int (1 : Int32)), .val (.int q4), .val (.int q5), .val (.int q6), .val (.int q7), .val (.int (digV q7)), .unset, .unset] [.ref bl]))
  refine g_astore X3 hx hby d16_23 (pc' := 25) rfl rfl (l' := #[.val (.ref q1), .val (.int q2), .val (.int (1 : Int32)), .val (.int q4), .val (.int q5), .val (.int q6), .val (.int q7), .val (.int (digV q7)), .val (.ref bl), .unset]) rfl ?_
  refine g_aload X3 hx hby d16_25 (pc' := 27) rfl rfl rfl ?_
  refine g_ifnull_no X3 hx hby d16_27 (pn := 30) rfl ?_
  refine g_aload X3 hx hby d16_30 (pc' := 32) rfl rfl rfl ?_
  refine g_alen X3 hx hZ hby d16_32 (pc' := 33) rfl e3 A_l ?_
  refine g_iloadN X3 hx hby d16_33 (pc' := 34) rfl rfl ?_
  refine g_icmp_ge X3 hx hby d16_34 (by decide) (pc' := 39) (by decide) (pn := 37) rfl (fun hc34_4 => ?_) (fun z => absurd z (by rw [hl]; exact own_l266 1 (Or.inl rfl) _))
  refine g_aload X3 hx hby d16_39 (pc' := 41) rfl rfl rfl ?_
  refine g_iconst X3 hx hby d16_41 (pc' := 42) rfl (z := (0 : Int32)) rfl ?_
  refine g_baload X3 hx hZ hby d16_42 (pc' := 43) rfl e3 A_l (by decide) (v := .int p0) rfl ?_
  refine g_iloadN X3 hx hby d16_43 (pc' := 44) rfl rfl ?_
  refine g_i2b X3 hx hby d16_44 (pc' := 45) rfl ?_
  refine g_icmp_eq X3 hx hby d16_45 (by decide) (pc' := 50) (by decide) (pn := 48) rfl (fun hc45_5 => ?_) (fun z => absurd z (fun z => z ec0))
  refine g_iloadN X3 hx hby d16_50 (pc' := 51) rfl rfl ?_
  refine g_iconst X3 hx hby d16_51 (pc' := 52) rfl (z := (2 : Int32)) rfl ?_
  refine g_icmp_ne X3 hx hby d16_52 (by decide) (pc' := 67) (by decide) (pn := 55) rfl (fun _ => ?_) (fun z => absurd z (by decide))
  refine g_aload X3 hx hby d16_67 (pc' := 69) rfl rfl rfl ?_
  refine g_iloadN X3 hx hby d16_69 (pc' := 70) rfl rfl ?_
  refine g_baload X3 hx hZ hby d16_70 (pc' := 71) rfl e3 A_l (by decide) (v := .int p1) rfl ?_
  refine g_iload X3 hx hby d16_71 (pc' := 73) rfl rfl ?_
  refine g_icmp_eq X3 hx hby d16_73 (by decide) (pc' := 78) (by decide) (pn := 76) rfl (fun hc73_6 => ?_) (fun z => absurd z (fun z => z es))
  refine g_iloadN X3 hx hby d16_78 (pc' := 79) rfl rfl ?_
  refine g_iconst X3 hx hby d16_79 (pc' := 80) rfl (z := (1 : Int32)) rfl ?_
  refine g_iadd X3 hx hby d16_80 (pc' := 81) rfl ?_
  refine g_eqI (b := (2 : Int32)) (by decide +kernel) ?_
  refine g_istore X3 hx hby d16_81 (pc' := 83) rfl (l' := #[.val (.ref q1), .val (.int q2), .val (.int (1 : Int32)), .val (.int q4), .val (.int q5), .val (.int q6), .val (.int q7), .val (.int (digV q7)), .val (.ref bl), .val (.int (2 : Int32))]) rfl ?_
  refine g_aload X3 hx hby d16_83 (pc' := 85) rfl rfl rfl ?_
  refine g_iload X3 hx hby d16_85 (pc' := 87) rfl rfl ?_
  refine g_iload X3 hx hby d16_87 (pc' := 89) rfl rfl ?_
  refine g_iload X3 hx hby d16_89 (pc' := 91) rfl rfl ?_
  refine g_iconst X3 hx hby d16_91 (pc' := 92) rfl (z := (0 : Int32)) rfl ?_
  refine g_callS X3 hx hZ hown (W := 0) (argsL := [.ref bl, .int (2 : Int32), .int (digV q7), .int q7, .int (0 : Int32)]) (rest := []) hby d16_92 (pc' := 95) rfl (by rw [hml]; rfl) (w_106 hw) (w_107 hw) (w_96 hw) (w_108 hw) (by decide) (rmOK l Z a0 hw [] bl (2 : Int32) (digV q7) q7 (0 : Int32) h0 n0 _ _ A_l (own_ok 1 0 (Or.inl rfl) (by decide) hD hq)) e3 (by decide) (by decide) (by decide) (by decide) rfl pd__28_5bBIIII_29Z rfl rfl (Nat.le_of_eq rfl) ?_
  rintro _ T7 L7 X7 ⟨rfl, N7q, e7⟩
  have N7 := Fr.app N3 N7q
  show GoE p e below _ (T7.setTop (mkF m 95 #[.val (.ref q1), .val (.int q2), .val (.int (1 : Int32)), .val (.int q4), .val (.int q5), .val (.int q6), .val (.int q7), .val (.int (digV q7)), .val (.ref bl), .val (.int (2 : Int32))] [.int (1 : Int32)]))
  refine g_if_eq X7 hx hby d16_95 (by decide) (pc' := 241) (by decide) (pn := 98) rfl (fun z => absurd z (by decide)) (fun _ => ?_)
  refine g_aload X7 hx hby d16_98 (pc' := 100) rfl rfl rfl ?_
  refine g_iload X7 hx hby d16_100 (pc' := 102) rfl rfl ?_
  refine g_iload X7 hx hby d16_102 (pc' := 104) rfl rfl ?_
  refine g_iload X7 hx hby d16_104 (pc' := 106) rfl rfl ?_
  refine g_iconst X7 hx hby d16_106 (pc' := 107) rfl (z := (1 : Int32)) rfl ?_
  refine g_callS X7 hx hZ hown (W := 0) (argsL := [.ref bl, .int (2 : Int32), .int (digV q7), .int q7, .int (1 : Int32)]) (rest := []) hby d16_107 (pc' := 110) rfl (by rw [hml]; rfl) (w_106 hw) (w_107 hw) (w_96 hw) (w_108 hw) (by decide) (rmOK l Z a0 hw [] bl (2 : Int32) (digV q7) q7 (1 : Int32) h0 n0 _ _ A_l (own_ok 1 1 (Or.inl rfl) (by decide) hD hq)) e7 (by decide) (by decide) (by decide) (by decide) rfl pd__28_5bBIIII_29Z rfl rfl (Nat.le_of_eq rfl) ?_
  rintro _ T8 L8 X8 ⟨rfl, N8q, e8⟩
  have N8 := Fr.app N7 N8q
  show GoE p e below _ (T8.setTop (mkF m 110 #[.val (.ref q1), .val (.int q2), .val (.int (1 : Int32)), .val (.int q4), .val (.int q5), .val (.int q6), .val (.int q7), .val (.int (digV q7)), .val (.ref bl), .val (.int (2 : Int32))] [.int (1 : Int32)]))
  refine g_if_eq X8 hx hby d16_110 (by decide) (pc' := 241) (by decide) (pn := 113) rfl (fun z => absurd z (by decide)) (fun _ => ?_)
  refine g_aload X8 hx hby d16_113 (pc' := 115) rfl rfl rfl ?_
  refine g_iload X8 hx hby d16_115 (pc' := 117) rfl rfl ?_
  refine g_iload X8 hx hby d16_117 (pc' := 119) rfl rfl ?_
  refine g_iload X8 hx hby d16_119 (pc' := 121) rfl rfl ?_
  refine g_iconst X8 hx hby d16_121 (pc' := 122) rfl (z := (2 : Int32)) rfl ?_
  refine g_callS X8 hx hZ hown (W := 0) (argsL := [.ref bl, .int (2 : Int32), .int (digV q7), .int q7, .int (2 : Int32)]) (rest := []) hby d16_122 (pc' := 125) rfl (by rw [hml]; rfl) (w_106 hw) (w_107 hw) (w_96 hw) (w_108 hw) (by decide) (rmOK l Z a0 hw [] bl (2 : Int32) (digV q7) q7 (2 : Int32) h0 n0 _ _ A_l (own_ok 1 2 (Or.inl rfl) (by decide) hD hq)) e8 (by decide) (by decide) (by decide) (by decide) rfl pd__28_5bBIIII_29Z rfl rfl (Nat.le_of_eq rfl) ?_
  rintro _ T9 L9 X9 ⟨rfl, N9q, e9⟩
  have N9 := Fr.app N8 N9q
  show GoE p e below _ (T9.setTop (mkF m 125 #[.val (.ref q1), .val (.int q2), .val (.int (1 : Int32)), .val (.int q4), .val (.int q5), .val (.int q6), .val (.int q7), .val (.int (digV q7)), .val (.ref bl), .val (.int (2 : Int32))] [.int (1 : Int32)]))
  refine g_if_eq X9 hx hby d16_125 (by decide) (pc' := 241) (by decide) (pn := 128) rfl (fun z => absurd z (by decide)) (fun _ => ?_)
  refine g_aload X9 hx hby d16_128 (pc' := 130) rfl rfl rfl ?_
  refine g_iload X9 hx hby d16_130 (pc' := 132) rfl rfl ?_
  refine g_iload X9 hx hby d16_132 (pc' := 134) rfl rfl ?_
  refine g_iload X9 hx hby d16_134 (pc' := 136) rfl rfl ?_
  refine g_iconst X9 hx hby d16_136 (pc' := 137) rfl (z := (3 : Int32)) rfl ?_
  refine g_callS X9 hx hZ hown (W := 0) (argsL := [.ref bl, .int (2 : Int32), .int (digV q7), .int q7, .int (3 : Int32)]) (rest := []) hby d16_137 (pc' := 140) rfl (by rw [hml]; rfl) (w_106 hw) (w_107 hw) (w_96 hw) (w_108 hw) (by decide) (rmOK l Z a0 hw [] bl (2 : Int32) (digV q7) q7 (3 : Int32) h0 n0 _ _ A_l (own_ok 1 3 (Or.inl rfl) (by decide) hD hq)) e9 (by decide) (by decide) (by decide) (by decide) rfl pd__28_5bBIIII_29Z rfl rfl (Nat.le_of_eq rfl) ?_
  rintro _ T10 L10 X10 ⟨rfl, N10q, e10⟩
  have N10 := Fr.app N9 N10q
  show GoE p e below _ (T10.setTop (mkF m 140 #[.val (.ref q1), .val (.int q2), .val (.int (1 : Int32)), .val (.int q4), .val (.int q5), .val (.int q6), .val (.int q7), .val (.int (digV q7)), .val (.ref bl), .val (.int (2 : Int32))] [.int (1 : Int32)]))
  refine g_if_eq X10 hx hby d16_140 (by decide) (pc' := 241) (by decide) (pn := 143) rfl (fun z => absurd z (by decide)) (fun _ => ?_)
  refine g_aload X10 hx hby d16_143 (pc' := 145) rfl rfl rfl ?_
  refine g_iload X10 hx hby d16_145 (pc' := 147) rfl rfl ?_
  refine g_iload X10 hx hby d16_147 (pc' := 149) rfl rfl ?_
  refine g_iload X10 hx hby d16_149 (pc' := 151) rfl rfl ?_
  refine g_iconst X10 hx hby d16_151 (pc' := 152) rfl (z := (4 : Int32)) rfl ?_
  refine g_callS X10 hx hZ hown (W := 0) (argsL := [.ref bl, .int (2 : Int32), .int (digV q7), .int q7, .int (4 : Int32)]) (rest := []) hby d16_152 (pc' := 155) rfl (by rw [hml]; rfl) (w_106 hw) (w_107 hw) (w_96 hw) (w_108 hw) (by decide) (rmOK l Z a0 hw [] bl (2 : Int32) (digV q7) q7 (4 : Int32) h0 n0 _ _ A_l (own_ok 1 4 (Or.inl rfl) (by decide) hD hq)) e10 (by decide) (by decide) (by decide) (by decide) rfl pd__28_5bBIIII_29Z rfl rfl (Nat.le_of_eq rfl) ?_
  rintro _ T11 L11 X11 ⟨rfl, N11q, e11⟩
  have N11 := Fr.app N10 N11q
  show GoE p e below _ (T11.setTop (mkF m 155 #[.val (.ref q1), .val (.int q2), .val (.int (1 : Int32)), .val (.int q4), .val (.int q5), .val (.int q6), .val (.int q7), .val (.int (digV q7)), .val (.ref bl), .val (.int (2 : Int32))] [.int (1 : Int32)]))
  refine g_if_eq X11 hx hby d16_155 (by decide) (pc' := 241) (by decide) (pn := 158) rfl (fun z => absurd z (by decide)) (fun _ => ?_)
  refine g_aload X11 hx hby d16_158 (pc' := 160) rfl rfl rfl ?_
  refine g_iload X11 hx hby d16_160 (pc' := 162) rfl rfl ?_
  refine g_iload X11 hx hby d16_162 (pc' := 164) rfl rfl ?_
  refine g_iload X11 hx hby d16_164 (pc' := 166) rfl rfl ?_
  refine g_iconst X11 hx hby d16_166 (pc' := 167) rfl (z := (5 : Int32)) rfl ?_
  refine g_callS X11 hx hZ hown (W := 0) (argsL := [.ref bl, .int (2 : Int32), .int (digV q7), .int q7, .int (5 : Int32)]) (rest := []) hby d16_167 (pc' := 170) rfl (by rw [hml]; rfl) (w_106 hw) (w_107 hw) (w_96 hw) (w_108 hw) (by decide) (rmOK l Z a0 hw [] bl (2 : Int32) (digV q7) q7 (5 : Int32) h0 n0 _ _ A_l (own_ok 1 5 (Or.inl rfl) (by decide) hD hq)) e11 (by decide) (by decide) (by decide) (by decide) rfl pd__28_5bBIIII_29Z rfl rfl (Nat.le_of_eq rfl) ?_
  rintro _ T12 L12 X12 ⟨rfl, N12q, e12⟩
  have N12 := Fr.app N11 N12q
  show GoE p e below _ (T12.setTop (mkF m 170 #[.val (.ref q1), .val (.int q2), .val (.int (1 : Int32)), .val (.int q4), .val (.int q5), .val (.int q6), .val (.int q7), .val (.int (digV q7)), .val (.ref bl), .val (.int (2 : Int32))] [.int (1 : Int32)]))
  refine g_if_eq X12 hx hby d16_170 (by decide) (pc' := 241) (by decide) (pn := 173) rfl (fun z => absurd z (by decide)) (fun _ => ?_)
  refine g_aload X12 hx hby d16_173 (pc' := 175) rfl rfl rfl ?_
  refine g_iload X12 hx hby d16_175 (pc' := 177) rfl rfl ?_
  refine g_iload X12 hx hby d16_177 (pc' := 179) rfl rfl ?_
  refine g_iload X12 hx hby d16_179 (pc' := 181) rfl rfl ?_
  refine g_bipush X12 hx hby d16_181 (pc' := 183) rfl (z := (6 : Int32)) rfl ?_
  refine g_callS X12 hx hZ hown (W := 0) (argsL := [.ref bl, .int (2 : Int32), .int (digV q7), .int q7, .int (6 : Int32)]) (rest := []) hby d16_183 (pc' := 186) rfl (by rw [hml]; rfl) (w_106 hw) (w_107 hw) (w_96 hw) (w_108 hw) (by decide) (rmOK l Z a0 hw [] bl (2 : Int32) (digV q7) q7 (6 : Int32) h0 n0 _ _ A_l (own_ok 1 6 (Or.inl rfl) (by decide) hD hq)) e12 (by decide) (by decide) (by decide) (by decide) rfl pd__28_5bBIIII_29Z rfl rfl (Nat.le_of_eq rfl) ?_
  rintro _ T13 L13 X13 ⟨rfl, N13q, e13⟩
  have N13 := Fr.app N12 N13q
  show GoE p e below _ (T13.setTop (mkF m 186 #[.val (.ref q1), .val (.int q2), .val (.int (1 : Int32)), .val (.int q4), .val (.int q5), .val (.int q6), .val (.int q7), .val (.int (digV q7)), .val (.ref bl), .val (.int (2 : Int32))] [.int (1 : Int32)]))
  refine g_if_eq X13 hx hby d16_186 (by decide) (pc' := 241) (by decide) (pn := 189) rfl (fun z => absurd z (by decide)) (fun _ => ?_)
  refine g_aload X13 hx hby d16_189 (pc' := 191) rfl rfl rfl ?_
  refine g_iload X13 hx hby d16_191 (pc' := 193) rfl rfl ?_
  refine g_iload X13 hx hby d16_193 (pc' := 195) rfl rfl ?_
  refine g_iload X13 hx hby d16_195 (pc' := 197) rfl rfl ?_
  refine g_bipush X13 hx hby d16_197 (pc' := 199) rfl (z := (7 : Int32)) rfl ?_
  refine g_callS X13 hx hZ hown (W := 0) (argsL := [.ref bl, .int (2 : Int32), .int (digV q7), .int q7, .int (7 : Int32)]) (rest := []) hby d16_199 (pc' := 202) rfl (by rw [hml]; rfl) (w_106 hw) (w_107 hw) (w_96 hw) (w_108 hw) (by decide) (rmOK l Z a0 hw [] bl (2 : Int32) (digV q7) q7 (7 : Int32) h0 n0 _ _ A_l (own_ok 1 7 (Or.inl rfl) (by decide) hD hq)) e13 (by decide) (by decide) (by decide) (by decide) rfl pd__28_5bBIIII_29Z rfl rfl (Nat.le_of_eq rfl) ?_
  rintro _ T14 L14 X14 ⟨rfl, N14q, e14⟩
  have N14 := Fr.app N13 N14q
  show GoE p e below _ (T14.setTop (mkF m 202 #[.val (.ref q1), .val (.int q2), .val (.int (1 : Int32)), .val (.int q4), .val (.int q5), .val (.int q6), .val (.int q7), .val (.int (digV q7)), .val (.ref bl), .val (.int (2 : Int32))] [.int (1 : Int32)]))
  refine g_if_eq X14 hx hby d16_202 (by decide) (pc' := 241) (by decide) (pn := 205) rfl (fun z => absurd z (by decide)) (fun _ => ?_)
  refine g_aload X14 hx hby d16_205 (pc' := 207) rfl rfl rfl ?_
  refine g_iload X14 hx hby d16_207 (pc' := 209) rfl rfl ?_
  refine g_iload X14 hx hby d16_209 (pc' := 211) rfl rfl ?_
  refine g_iload X14 hx hby d16_211 (pc' := 213) rfl rfl ?_
  refine g_bipush X14 hx hby d16_213 (pc' := 215) rfl (z := (8 : Int32)) rfl ?_
  refine g_callS X14 hx hZ hown (W := 0) (argsL := [.ref bl, .int (2 : Int32), .int (digV q7), .int q7, .int (8 : Int32)]) (rest := []) hby d16_215 (pc' := 218) rfl (by rw [hml]; rfl) (w_106 hw) (w_107 hw) (w_96 hw) (w_108 hw) (by decide) (rmOK l Z a0 hw [] bl (2 : Int32) (digV q7) q7 (8 : Int32) h0 n0 _ _ A_l (own_ok 1 8 (Or.inl rfl) (by decide) hD hq)) e14 (by decide) (by decide) (by decide) (by decide) rfl pd__28_5bBIIII_29Z rfl rfl (Nat.le_of_eq rfl) ?_
  rintro _ T15 L15 X15 ⟨rfl, N15q, e15⟩
  have N15 := Fr.app N14 N15q
  show GoE p e below _ (T15.setTop (mkF m 218 #[.val (.ref q1), .val (.int q2), .val (.int (1 : Int32)), .val (.int q4), .val (.int q5), .val (.int q6), .val (.int q7), .val (.int (digV q7)), .val (.ref bl), .val (.int (2 : Int32))] [.int (1 : Int32)]))
  refine g_if_eq X15 hx hby d16_218 (by decide) (pc' := 241) (by decide) (pn := 221) rfl (fun z => absurd z (by decide)) (fun _ => ?_)
  refine g_aload X15 hx hby d16_221 (pc' := 223) rfl rfl rfl ?_
  refine g_iload X15 hx hby d16_223 (pc' := 225) rfl rfl ?_
  refine g_iload X15 hx hby d16_225 (pc' := 227) rfl rfl ?_
  refine g_iload X15 hx hby d16_227 (pc' := 229) rfl rfl ?_
  refine g_bipush X15 hx hby d16_229 (pc' := 231) rfl (z := (9 : Int32)) rfl ?_
  refine g_callS X15 hx hZ hown (W := 0) (argsL := [.ref bl, .int (2 : Int32), .int (digV q7), .int q7, .int (9 : Int32)]) (rest := []) hby d16_231 (pc' := 234) rfl (by rw [hml]; rfl) (w_106 hw) (w_107 hw) (w_96 hw) (w_108 hw) (by decide) (rmOK l Z a0 hw [] bl (2 : Int32) (digV q7) q7 (9 : Int32) h0 n0 _ _ A_l (own_ok 1 9 (Or.inl rfl) (by decide) hD hq)) e15 (by decide) (by decide) (by decide) (by decide) rfl pd__28_5bBIIII_29Z rfl rfl (Nat.le_of_eq rfl) ?_
  rintro _ T16 L16 X16 ⟨rfl, N16q, e16⟩
  have N16 := Fr.app N15 N16q
  show GoE p e below _ (T16.setTop (mkF m 234 #[.val (.ref q1), .val (.int q2), .val (.int (1 : Int32)), .val (.int q4), .val (.int q5), .val (.int q6), .val (.int q7), .val (.int (digV q7)), .val (.ref bl), .val (.int (2 : Int32))] [.int (1 : Int32)]))
  refine g_if_eq X16 hx hby d16_234 (by decide) (pc' := 241) (by decide) (pn := 237) rfl (fun z => absurd z (by decide)) (fun _ => ?_)
  refine g_iconst X16 hx hby d16_237 (pc' := 238) rfl (z := (1 : Int32)) rfl ?_
  refine g_goto X16 hx hby d16_238 (by decide) (pc' := 242) (by decide) ?_
  exact g_retN (Q := (fun v h L => v = some (.int (1 : Int32)) ∧ Fr n0 L ∧ h = h0)) (w := (1 : Int32)) X16 hx hby d16_242 hret (by simp) (by first | decide | rfl) hlk (by decide) (by decide) ⟨rfl, N16, e16⟩
theorem ef_rmCK2 (q1 : Addr) (q2 : Int32) (q4 : Int32) (q5 : Int32) (q6 : Int32) (q7 : Int32) (m : MethodId) : entryFrame m #[.ref q1, .int q2, .int (2 : Int32), .int q4, .int q5, .int q6, .int q7] 10 = mkF m 0 #[.val (.ref q1), .val (.int q2), .val (.int (2 : Int32)), .val (.int q4), .val (.int q5), .val (.int q6), .val (.int q7), .unset, .unset, .unset] [] := by
  first | (simp [entryFrame, mkF, argsToLocals, Value.category]; done) | rfl
theorem pn_rmCK2 : plainName "com/example/astilla/astilla/PointLabelsWritePinLaw" = true := by first | (simp [plainName, overriddenIn]; done) | decide +kernel
set_option maxRecDepth 65536 in
set_option maxHeartbeats 40000000 in
theorem rmCK2 (l : Launch) (Z : State) (a0 : Array Value) (hw : ∀ d ∈ tables_1, d.before a0 Z = true) (ws : List Jvm.Cond) (q1 : Addr) (q2 : Int32) (q4 : Int32) (q5 : Int32) (q6 : Int32) (q7 : Int32) (h0 : Heap) (n0 : Nat) (bl : Addr) (kl : ClassId) (p0 p1 p2 p3 p4 p5 p6 p7 p8 p9 p10 p11 p12 : Int32) (E_a : Exa Z h0 q1 "com/example/astilla/astilla/PointLabels") (F1 : Fld Z h0 q1 "com/example/astilla/astilla/PointLabels" "label" "[B" (.ref bl)) (A_l : Arv Z h0 bl kl .byte (266 : Int32) [.int p0, .int p1, .int p2, .int p3, .int p4, .int p5, .int p6, .int p7, .int p8, .int p9, .int p10, .int p11, .int p12] (.int 0)) (hl : q2 = ((3 : Int32) + (digV q7))) (ec0 : p0 = q4.toInt8.toInt32) (ec1 : p1 = q5.toInt8.toInt32) (es : p2 = q6) (hD : DIGS 2 q7 [.int p0, .int p1, .int p2, .int p3, .int p4, .int p5, .int p6, .int p7, .int p8, .int p9, .int p10, .int p11, .int p12]) (hq : 0 ≤ q7.toInt) :
    Ctr l Z ({ cls := "com/example/astilla/astilla/PointLabelsWritePinLaw", name := "check", desc := "(Lcom/example/astilla/astilla/PointLabels;IICCBI)Z" } : Jvm.MethodName) method_5_code 10 (some .boolean) ws ({ frames := 2, cells := 0, slots := 0, locals := 31 } : Room) #[.ref q1, .int q2, .int (2 : Int32), .int q4, .int q5, .int q6, .int q7] h0 (fun v h L => v = some (.int (1 : Int32)) ∧ Fr n0 L ∧ h = h0) := by
  refine Ctr.enter (Ls := #[.val (.ref q1), .val (.int q2), .val (.int (2 : Int32)), .val (.int q4), .val (.int q5), .val (.int q6), .val (.int q7), .unset, .unset, .unset]) (plainFor_of_name pn_rmCK2) (fun m => ef_rmCK2 q1 q2 q4 q5 q6 q7 m) ?_
  intro p e s m below meth c T hx hby hml hown hnm hret hlk hZ hh X0 e0
  have N0 := Fr.nil n0
  refine g_iload X0 hx hby d16_0 (pc' := 2) rfl rfl ?_
  refine g_callS X0 hx hZ hown (W := 0) (argsL := [.int q7]) (rest := []) hby d16_2 (pc' := 5) rfl (by rw [hml]; rfl) (w_98 hw) (w_99 hw) (w_96 hw) (w_100 hw) (by decide) (rmDI l Z a0 hw [] q7 h0 n0) e0 (by decide) (by decide) (by decide) (by decide) rfl pd__28I_29I rfl rfl (Nat.le_of_eq rfl) ?_
  rintro _ T1 L1 X1 ⟨rfl, N1q, e1⟩
  have N1 := Fr.app N0 N1q
  show GoE p e below _ (T1.setTop (mkF m 5 #[.val (.ref q1), .val (.int q2), .val (.int (2 : Int32)), .val (.int q4), .val (.int q5), .val (.int q6), .val (.int q7), .unset, .unset, .unset] [.int (digV q7)]))
  refine g_istore X1 hx hby d16_5 (pc' := 7) rfl (l' := #[.val (.ref q1), .val (.int q2), .val (.int (2 : Int32)), .val (.int q4), .val (.int q5), .val (.int q6), .val (.int q7), .val (.int (digV q7)), .unset, .unset]) rfl ?_
  refine g_iloadN X1 hx hby d16_7 (pc' := 8) rfl rfl ?_
  refine g_iloadN X1 hx hby d16_8 (pc' := 9) rfl rfl ?_
  refine g_iconst X1 hx hby d16_9 (pc' := 10) rfl (z := (1 : Int32)) rfl ?_
  refine g_iadd X1 hx hby d16_10 (pc' := 11) rfl ?_
  refine g_eqI (b := (3 : Int32)) (by decide +kernel) ?_
  refine g_iload X1 hx hby d16_11 (pc' := 13) rfl rfl ?_
  refine g_iadd X1 hx hby d16_13 (pc' := 14) rfl ?_
  refine g_icmp_eq X1 hx hby d16_14 (by decide) (pc' := 19) (by decide) (pn := 17) rfl (fun hc14_2 => ?_) (fun z => absurd z (fun z => z hl))
  refine g_aloadN X1 hx hby d16_19 (pc' := 20) rfl rfl rfl ?_
  refine g_callV X1 hx hZ hown (W := 0) (argsL := []) (b := q1) (rest := []) hby d16_20 (pc' := 23) rfl (by rw [hml]; rfl) (w_101 hw) (w_102 hw) (w_104 hw) (notFace_of_selects (args := #[]) (mvT hZ (w_104 hw))) (w_103 hw) (w_33 hw) (w_105 hw) (by decide) (rmBY l Z a0 hw [] q1 h0 n0 _ F1) e1 E_a (by decide) (by decide) (by decide) (by decide) rfl pd__28_29_5bB rfl rfl (Nat.le_of_eq rfl) ?_
  rintro _ T3 L3 X3 ⟨rfl, N3q, e3⟩
  have N3 := Fr.app N1 N3q
  show GoE p e below _ (T3.setTop (mkF m 23 #[.val (.ref q1), .val (.int q2), .val (.int (2 : Int32)), .val (.int q4), .val (.int q5), .val (.int q6), .val (.int q7), .val (.int (digV q7)), .unset, .unset] [.ref bl]))
  refine g_astore X3 hx hby d16_23 (pc' := 25) rfl rfl (l' := #[.val (.ref q1), .val (.int q2), .val (.int (2 : Int32)), .val (.int q4), .val (.int q5), .val (.int q6), .val (.int q7), .val (.int (digV q7)), .val (.ref bl), .unset]) rfl ?_
  refine g_aload X3 hx hby d16_25 (pc' := 27) rfl rfl rfl ?_
  refine g_ifnull_no X3 hx hby d16_27 (pn := 30) rfl ?_
  refine g_aload X3 hx hby d16_30 (pc' := 32) rfl rfl rfl ?_
  refine g_alen X3 hx hZ hby d16_32 (pc' := 33) rfl e3 A_l ?_
  refine g_iloadN X3 hx hby d16_33 (pc' := 34) rfl rfl ?_
  refine g_icmp_ge X3 hx hby d16_34 (by decide) (pc' := 39) (by decide) (pn := 37) rfl (fun hc34_4 => ?_) (fun z => absurd z (by rw [hl]; exact own_l266 2 (Or.inr rfl) _))
  refine g_aload X3 hx hby d16_39 (pc' := 41) rfl rfl rfl ?_
  refine g_iconst X3 hx hby d16_41 (pc' := 42) rfl (z := (0 : Int32)) rfl ?_
  refine g_baload X3 hx hZ hby d16_42 (pc' := 43) rfl e3 A_l (by decide) (v := .int p0) rfl ?_
  refine g_iloadN X3 hx hby d16_43 (pc' := 44) rfl rfl ?_
  refine g_i2b X3 hx hby d16_44 (pc' := 45) rfl ?_
  refine g_icmp_eq X3 hx hby d16_45 (by decide) (pc' := 50) (by decide) (pn := 48) rfl (fun hc45_5 => ?_) (fun z => absurd z (fun z => z ec0))
  refine g_iloadN X3 hx hby d16_50 (pc' := 51) rfl rfl ?_
  refine g_iconst X3 hx hby d16_51 (pc' := 52) rfl (z := (2 : Int32)) rfl ?_
  refine g_icmp_ne X3 hx hby d16_52 (by decide) (pc' := 67) (by decide) (pn := 55) rfl (fun z => absurd z (by decide)) (fun _ => ?_)
  refine g_aload X3 hx hby d16_55 (pc' := 57) rfl rfl rfl ?_
  refine g_iconst X3 hx hby d16_57 (pc' := 58) rfl (z := (1 : Int32)) rfl ?_
  refine g_baload X3 hx hZ hby d16_58 (pc' := 59) rfl e3 A_l (by decide) (v := .int p1) rfl ?_
  refine g_iload X3 hx hby d16_59 (pc' := 61) rfl rfl ?_
  refine g_i2b X3 hx hby d16_61 (pc' := 62) rfl ?_
  refine g_icmp_eq X3 hx hby d16_62 (by decide) (pc' := 67) (by decide) (pn := 65) rfl (fun hc62_6 => ?_) (fun z => absurd z (fun z => z ec1))
  refine g_aload X3 hx hby d16_67 (pc' := 69) rfl rfl rfl ?_
  refine g_iloadN X3 hx hby d16_69 (pc' := 70) rfl rfl ?_
  refine g_baload X3 hx hZ hby d16_70 (pc' := 71) rfl e3 A_l (by decide) (v := .int p2) rfl ?_
  refine g_iload X3 hx hby d16_71 (pc' := 73) rfl rfl ?_
  refine g_icmp_eq X3 hx hby d16_73 (by decide) (pc' := 78) (by decide) (pn := 76) rfl (fun hc73_7 => ?_) (fun z => absurd z (fun z => z es))
  refine g_iloadN X3 hx hby d16_78 (pc' := 79) rfl rfl ?_
  refine g_iconst X3 hx hby d16_79 (pc' := 80) rfl (z := (1 : Int32)) rfl ?_
  refine g_iadd X3 hx hby d16_80 (pc' := 81) rfl ?_
  refine g_eqI (b := (3 : Int32)) (by decide +kernel) ?_
  refine g_istore X3 hx hby d16_81 (pc' := 83) rfl (l' := #[.val (.ref q1), .val (.int q2), .val (.int (2 : Int32)), .val (.int q4), .val (.int q5), .val (.int q6), .val (.int q7), .val (.int (digV q7)), .val (.ref bl), .val (.int (3 : Int32))]) rfl ?_
  refine g_aload X3 hx hby d16_83 (pc' := 85) rfl rfl rfl ?_
  refine g_iload X3 hx hby d16_85 (pc' := 87) rfl rfl ?_
  refine g_iload X3 hx hby d16_87 (pc' := 89) rfl rfl ?_
  refine g_iload X3 hx hby d16_89 (pc' := 91) rfl rfl ?_
  refine g_iconst X3 hx hby d16_91 (pc' := 92) rfl (z := (0 : Int32)) rfl ?_
  refine g_callS X3 hx hZ hown (W := 0) (argsL := [.ref bl, .int (3 : Int32), .int (digV q7), .int q7, .int (0 : Int32)]) (rest := []) hby d16_92 (pc' := 95) rfl (by rw [hml]; rfl) (w_106 hw) (w_107 hw) (w_96 hw) (w_108 hw) (by decide) (rmOK l Z a0 hw [] bl (3 : Int32) (digV q7) q7 (0 : Int32) h0 n0 _ _ A_l (own_ok 2 0 (Or.inr rfl) (by decide) hD hq)) e3 (by decide) (by decide) (by decide) (by decide) rfl pd__28_5bBIIII_29Z rfl rfl (Nat.le_of_eq rfl) ?_
  rintro _ T8 L8 X8 ⟨rfl, N8q, e8⟩
  have N8 := Fr.app N3 N8q
  show GoE p e below _ (T8.setTop (mkF m 95 #[.val (.ref q1), .val (.int q2), .val (.int (2 : Int32)), .val (.int q4), .val (.int q5), .val (.int q6), .val (.int q7), .val (.int (digV q7)), .val (.ref bl), .val (.int (3 : Int32))] [.int (1 : Int32)]))
  refine g_if_eq X8 hx hby d16_95 (by decide) (pc' := 241) (by decide) (pn := 98) rfl (fun z => absurd z (by decide)) (fun _ => ?_)
  refine g_aload X8 hx hby d16_98 (pc' := 100) rfl rfl rfl ?_
  refine g_iload X8 hx hby d16_100 (pc' := 102) rfl rfl ?_
  refine g_iload X8 hx hby d16_102 (pc' := 104) rfl rfl ?_
  refine g_iload X8 hx hby d16_104 (pc' := 106) rfl rfl ?_
  refine g_iconst X8 hx hby d16_106 (pc' := 107) rfl (z := (1 : Int32)) rfl ?_
  refine g_callS X8 hx hZ hown (W := 0) (argsL := [.ref bl, .int (3 : Int32), .int (digV q7), .int q7, .int (1 : Int32)]) (rest := []) hby d16_107 (pc' := 110) rfl (by rw [hml]; rfl) (w_106 hw) (w_107 hw) (w_96 hw) (w_108 hw) (by decide) (rmOK l Z a0 hw [] bl (3 : Int32) (digV q7) q7 (1 : Int32) h0 n0 _ _ A_l (own_ok 2 1 (Or.inr rfl) (by decide) hD hq)) e8 (by decide) (by decide) (by decide) (by decide) rfl pd__28_5bBIIII_29Z rfl rfl (Nat.le_of_eq rfl) ?_
  rintro _ T9 L9 X9 ⟨rfl, N9q, e9⟩
  have N9 := Fr.app N8 N9q
  show GoE p e below _ (T9.setTop (mkF m 110 #[.val (.ref q1), .val (.int q2), .val (.int (2 : Int32)), .val (.int q4), .val (.int q5), .val (.int q6), .val (.int q7), .val (.int (digV q7)), .val (.ref bl), .val (.int (3 : Int32))] [.int (1 : Int32)]))
  refine g_if_eq X9 hx hby d16_110 (by decide) (pc' := 241) (by decide) (pn := 113) rfl (fun z => absurd z (by decide)) (fun _ => ?_)
  refine g_aload X9 hx hby d16_113 (pc' := 115) rfl rfl rfl ?_
  refine g_iload X9 hx hby d16_115 (pc' := 117) rfl rfl ?_
  refine g_iload X9 hx hby d16_117 (pc' := 119) rfl rfl ?_
  refine g_iload X9 hx hby d16_119 (pc' := 121) rfl rfl ?_
  refine g_iconst X9 hx hby d16_121 (pc' := 122) rfl (z := (2 : Int32)) rfl ?_
  refine g_callS X9 hx hZ hown (W := 0) (argsL := [.ref bl, .int (3 : Int32), .int (digV q7), .int q7, .int (2 : Int32)]) (rest := []) hby d16_122 (pc' := 125) rfl (by rw [hml]; rfl) (w_106 hw) (w_107 hw) (w_96 hw) (w_108 hw) (by decide) (rmOK l Z a0 hw [] bl (3 : Int32) (digV q7) q7 (2 : Int32) h0 n0 _ _ A_l (own_ok 2 2 (Or.inr rfl) (by decide) hD hq)) e9 (by decide) (by decide) (by decide) (by decide) rfl pd__28_5bBIIII_29Z rfl rfl (Nat.le_of_eq rfl) ?_
  rintro _ T10 L10 X10 ⟨rfl, N10q, e10⟩
  have N10 := Fr.app N9 N10q
  show GoE p e below _ (T10.setTop (mkF m 125 #[.val (.ref q1), .val (.int q2), .val (.int (2 : Int32)), .val (.int q4), .val (.int q5), .val (.int q6), .val (.int q7), .val (.int (digV q7)), .val (.ref bl), .val (.int (3 : Int32))] [.int (1 : Int32)]))
  refine g_if_eq X10 hx hby d16_125 (by decide) (pc' := 241) (by decide) (pn := 128) rfl (fun z => absurd z (by decide)) (fun _ => ?_)
  refine g_aload X10 hx hby d16_128 (pc' := 130) rfl rfl rfl ?_
  refine g_iload X10 hx hby d16_130 (pc' := 132) rfl rfl ?_
  refine g_iload X10 hx hby d16_132 (pc' := 134) rfl rfl ?_
  refine g_iload X10 hx hby d16_134 (pc' := 136) rfl rfl ?_
  refine g_iconst X10 hx hby d16_136 (pc' := 137) rfl (z := (3 : Int32)) rfl ?_
  refine g_callS X10 hx hZ hown (W := 0) (argsL := [.ref bl, .int (3 : Int32), .int (digV q7), .int q7, .int (3 : Int32)]) (rest := []) hby d16_137 (pc' := 140) rfl (by rw [hml]; rfl) (w_106 hw) (w_107 hw) (w_96 hw) (w_108 hw) (by decide) (rmOK l Z a0 hw [] bl (3 : Int32) (digV q7) q7 (3 : Int32) h0 n0 _ _ A_l (own_ok 2 3 (Or.inr rfl) (by decide) hD hq)) e10 (by decide) (by decide) (by decide) (by decide) rfl pd__28_5bBIIII_29Z rfl rfl (Nat.le_of_eq rfl) ?_
  rintro _ T11 L11 X11 ⟨rfl, N11q, e11⟩
  have N11 := Fr.app N10 N11q
  show GoE p e below _ (T11.setTop (mkF m 140 #[.val (.ref q1), .val (.int q2), .val (.int (2 : Int32)), .val (.int q4), .val (.int q5), .val (.int q6), .val (.int q7), .val (.int (digV q7)), .val (.ref bl), .val (.int (3 : Int32))] [.int (1 : Int32)]))
  refine g_if_eq X11 hx hby d16_140 (by decide) (pc' := 241) (by decide) (pn := 143) rfl (fun z => absurd z (by decide)) (fun _ => ?_)
  refine g_aload X11 hx hby d16_143 (pc' := 145) rfl rfl rfl ?_
  refine g_iload X11 hx hby d16_145 (pc' := 147) rfl rfl ?_
  refine g_iload X11 hx hby d16_147 (pc' := 149) rfl rfl ?_
  refine g_iload X11 hx hby d16_149 (pc' := 151) rfl rfl ?_
  refine g_iconst X11 hx hby d16_151 (pc' := 152) rfl (z := (4 : Int32)) rfl ?_
  refine g_callS X11 hx hZ hown (W := 0) (argsL := [.ref bl, .int (3 : Int32), .int (digV q7), .int q7, .int (4 : Int32)]) (rest := []) hby d16_152 (pc' := 155) rfl (by rw [hml]; rfl) (w_106 hw) (w_107 hw) (w_96 hw) (w_108 hw) (by decide) (rmOK l Z a0 hw [] bl (3 : Int32) (digV q7) q7 (4 : Int32) h0 n0 _ _ A_l (own_ok 2 4 (Or.inr rfl) (by decide) hD hq)) e11 (by decide) (by decide) (by decide) (by decide) rfl pd__28_5bBIIII_29Z rfl rfl (Nat.le_of_eq rfl) ?_
  rintro _ T12 L12 X12 ⟨rfl, N12q, e12⟩
  have N12 := Fr.app N11 N12q
  show GoE p e below _ (T12.setTop (mkF m 155 #[.val (.ref q1), .val (.int q2), .val (.int (2 : Int32)), .val (.int q4), .val (.int q5), .val (.int q6), .val (.int q7), .val (.int (digV q7)), .val (.ref bl), .val (.int (3 : Int32))] [.int (1 : Int32)]))
  refine g_if_eq X12 hx hby d16_155 (by decide) (pc' := 241) (by decide) (pn := 158) rfl (fun z => absurd z (by decide)) (fun _ => ?_)
  refine g_aload X12 hx hby d16_158 (pc' := 160) rfl rfl rfl ?_
  refine g_iload X12 hx hby d16_160 (pc' := 162) rfl rfl ?_
  refine g_iload X12 hx hby d16_162 (pc' := 164) rfl rfl ?_
  refine g_iload X12 hx hby d16_164 (pc' := 166) rfl rfl ?_
  refine g_iconst X12 hx hby d16_166 (pc' := 167) rfl (z := (5 : Int32)) rfl ?_
  refine g_callS X12 hx hZ hown (W := 0) (argsL := [.ref bl, .int (3 : Int32), .int (digV q7), .int q7, .int (5 : Int32)]) (rest := []) hby d16_167 (pc' := 170) rfl (by rw [hml]; rfl) (w_106 hw) (w_107 hw) (w_96 hw) (w_108 hw) (by decide) (rmOK l Z a0 hw [] bl (3 : Int32) (digV q7) q7 (5 : Int32) h0 n0 _ _ A_l (own_ok 2 5 (Or.inr rfl) (by decide) hD hq)) e12 (by decide) (by decide) (by decide) (by decide) rfl pd__28_5bBIIII_29Z rfl rfl (Nat.le_of_eq rfl) ?_
  rintro _ T13 L13 X13 ⟨rfl, N13q, e13⟩
  have N13 := Fr.app N12 N13q
  show GoE p e below _ (T13.setTop (mkF m 170 #[.val (.ref q1), .val (.int q2), .val (.int (2 : Int32)), .val (.int q4), .val (.int q5), .val (.int q6), .val (.int q7), .val (.int (digV q7)), .val (.ref bl), .val (.int (3 : Int32))] [.int (1 : Int32)]))
  refine g_if_eq X13 hx hby d16_170 (by decide) (pc' := 241) (by decide) (pn := 173) rfl (fun z => absurd z (by decide)) (fun _ => ?_)
  refine g_aload X13 hx hby d16_173 (pc' := 175) rfl rfl rfl ?_
  refine g_iload X13 hx hby d16_175 (pc' := 177) rfl rfl ?_
  refine g_iload X13 hx hby d16_177 (pc' := 179) rfl rfl ?_
  refine g_iload X13 hx hby d16_179 (pc' := 181) rfl rfl ?_
  refine g_bipush X13 hx hby d16_181 (pc' := 183) rfl (z := (6 : Int32)) rfl ?_
  refine g_callS X13 hx hZ hown (W := 0) (argsL := [.ref bl, .int (3 : Int32), .int (digV q7), .int q7, .int (6 : Int32)]) (rest := []) hby d16_183 (pc' := 186) rfl (by rw [hml]; rfl) (w_106 hw) (w_107 hw) (w_96 hw) (w_108 hw) (by decide) (rmOK l Z a0 hw [] bl (3 : Int32) (digV q7) q7 (6 : Int32) h0 n0 _ _ A_l (own_ok 2 6 (Or.inr rfl) (by decide) hD hq)) e13 (by decide) (by decide) (by decide) (by decide) rfl pd__28_5bBIIII_29Z rfl rfl (Nat.le_of_eq rfl) ?_
  rintro _ T14 L14 X14 ⟨rfl, N14q, e14⟩
  have N14 := Fr.app N13 N14q
  show GoE p e below _ (T14.setTop (mkF m 186 #[.val (.ref q1), .val (.int q2), .val (.int (2 : Int32)), .val (.int q4), .val (.int q5), .val (.int q6), .val (.int q7), .val (.int (digV q7)), .val (.ref bl), .val (.int (3 : Int32))] [.int (1 : Int32)]))
  refine g_if_eq X14 hx hby d16_186 (by decide) (pc' := 241) (by decide) (pn := 189) rfl (fun z => absurd z (by decide)) (fun _ => ?_)
  refine g_aload X14 hx hby d16_189 (pc' := 191) rfl rfl rfl ?_
  refine g_iload X14 hx hby d16_191 (pc' := 193) rfl rfl ?_
  refine g_iload X14 hx hby d16_193 (pc' := 195) rfl rfl ?_
  refine g_iload X14 hx hby d16_195 (pc' := 197) rfl rfl ?_
  refine g_bipush X14 hx hby d16_197 (pc' := 199) rfl (z := (7 : Int32)) rfl ?_
  refine g_callS X14 hx hZ hown (W := 0) (argsL := [.ref bl, .int (3 : Int32), .int (digV q7), .int q7, .int (7 : Int32)]) (rest := []) hby d16_199 (pc' := 202) rfl (by rw [hml]; rfl) (w_106 hw) (w_107 hw) (w_96 hw) (w_108 hw) (by decide) (rmOK l Z a0 hw [] bl (3 : Int32) (digV q7) q7 (7 : Int32) h0 n0 _ _ A_l (own_ok 2 7 (Or.inr rfl) (by decide) hD hq)) e14 (by decide) (by decide) (by decide) (by decide) rfl pd__28_5bBIIII_29Z rfl rfl (Nat.le_of_eq rfl) ?_
  rintro _ T15 L15 X15 ⟨rfl, N15q, e15⟩
  have N15 := Fr.app N14 N15q
  show GoE p e below _ (T15.setTop (mkF m 202 #[.val (.ref q1), .val (.int q2), .val (.int (2 : Int32)), .val (.int q4), .val (.int q5), .val (.int q6), .val (.int q7), .val (.int (digV q7)), .val (.ref bl), .val (.int (3 : Int32))] [.int (1 : Int32)]))
  refine g_if_eq X15 hx hby d16_202 (by decide) (pc' := 241) (by decide) (pn := 205) rfl (fun z => absurd z (by decide)) (fun _ => ?_)
  refine g_aload X15 hx hby d16_205 (pc' := 207) rfl rfl rfl ?_
  refine g_iload X15 hx hby d16_207 (pc' := 209) rfl rfl ?_
  refine g_iload X15 hx hby d16_209 (pc' := 211) rfl rfl ?_
  refine g_iload X15 hx hby d16_211 (pc' := 213) rfl rfl ?_
  refine g_bipush X15 hx hby d16_213 (pc' := 215) rfl (z := (8 : Int32)) rfl ?_
  refine g_callS X15 hx hZ hown (W := 0) (argsL := [.ref bl, .int (3 : Int32), .int (digV q7), .int q7, .int (8 : Int32)]) (rest := []) hby d16_215 (pc' := 218) rfl (by rw [hml]; rfl) (w_106 hw) (w_107 hw) (w_96 hw) (w_108 hw) (by decide) (rmOK l Z a0 hw [] bl (3 : Int32) (digV q7) q7 (8 : Int32) h0 n0 _ _ A_l (own_ok 2 8 (Or.inr rfl) (by decide) hD hq)) e15 (by decide) (by decide) (by decide) (by decide) rfl pd__28_5bBIIII_29Z rfl rfl (Nat.le_of_eq rfl) ?_
  rintro _ T16 L16 X16 ⟨rfl, N16q, e16⟩
  have N16 := Fr.app N15 N16q
  show GoE p e below _ (T16.setTop (mkF m 218 #[.val (.ref q1), .val (.int q2), .val (.int (2 : Int32)), .val (.int q4), .val (.int q5), .val (.int q6), .val (.int q7), .val (.int (digV q7)), .val (.ref bl), .val (.int (3 : Int32))] [.int (1 : Int32)]))
  refine g_if_eq X16 hx hby d16_218 (by decide) (pc' := 241) (by decide) (pn := 221) rfl (fun z => absurd z (by decide)) (fun _ => ?_)
  refine g_aload X16 hx hby d16_221 (pc' := 223) rfl rfl rfl ?_
  refine g_iload X16 hx hby d16_223 (pc' := 225) rfl rfl ?_
  refine g_iload X16 hx hby d16_225 (pc' := 227) rfl rfl ?_
  refine g_iload X16 hx hby d16_227 (pc' := 229) rfl rfl ?_
  refine g_bipush X16 hx hby d16_229 (pc' := 231) rfl (z := (9 : Int32)) rfl ?_
  refine g_callS X16 hx hZ hown (W := 0) (argsL := [.ref bl, .int (3 : Int32), .int (digV q7), .int q7, .int (9 : Int32)]) (rest := []) hby d16_231 (pc' := 234) rfl (by rw [hml]; rfl) (w_106 hw) (w_107 hw) (w_96 hw) (w_108 hw) (by decide) (rmOK l Z a0 hw [] bl (3 : Int32) (digV q7) q7 (9 : Int32) h0 n0 _ _ A_l (own_ok 2 9 (Or.inr rfl) (by decide) hD hq)) e16 (by decide) (by decide) (by decide) (by decide) rfl pd__28_5bBIIII_29Z rfl rfl (Nat.le_of_eq rfl) ?_
  rintro _ T17 L17 X17 ⟨rfl, N17q, e17⟩
  have N17 := Fr.app N16 N17q
  show GoE p e below _ (T17.setTop (mkF m 234 #[.val (.ref q1), .val (.int q2), .val (.int (2 : Int32)), .val (.int q4), .val (.int q5), .val (.int q6), .val (.int q7), .val (.int (digV q7)), .val (.ref bl), .val (.int (3 : Int32))] [.int (1 : Int32)]))
  refine g_if_eq X17 hx hby d16_234 (by decide) (pc' := 241) (by decide) (pn := 237) rfl (fun z => absurd z (by decide)) (fun _ => ?_)
  refine g_iconst X17 hx hby d16_237 (pc' := 238) rfl (z := (1 : Int32)) rfl ?_
  refine g_goto X17 hx hby d16_238 (by decide) (pc' := 242) (by decide) ?_
  exact g_retN (Q := (fun v h L => v = some (.int (1 : Int32)) ∧ Fr n0 L ∧ h = h0)) (w := (1 : Int32)) X17 hx hby d16_242 hret (by simp) (by first | decide | rfl) hlk (by decide) (by decide) ⟨rfl, N17, e17⟩
theorem ef_rmW1 (q1 : Addr) (q2 : Int32) (m : MethodId) : entryFrame m #[.ref q1, .int q2] 5 = mkF m 0 #[.val (.ref q1), .val (.int q2), .unset, .unset, .unset] [] := by
  first | (simp [entryFrame, mkF, argsToLocals, Value.category]; done) | rfl
theorem pn_rmW1 : plainName "com/example/astilla/astilla/PointLabels" = true := by first | (simp [plainName, overriddenIn]; done) | decide +kernel
set_option maxRecDepth 65536 in
set_option maxHeartbeats 40000000 in
theorem rmW1 (l : Launch) (Z : State) (a0 : Array Value) (hw : ∀ d ∈ tables_1, d.before a0 Z = true) (ws : List Jvm.Cond) (q1 : Addr) (q2 : Int32) (h0 : Heap) (n0 : Nat) (bl : Addr) (kl : ClassId) (u0 u1 u2 u3 u4 u5 u6 u7 u8 u9 u10 u11 u12 : Int32) (E_a : Exa Z h0 q1 "com/example/astilla/astilla/PointLabels") (F1 : Fld Z h0 q1 "com/example/astilla/astilla/PointLabels" "label" "[B" (.ref bl)) (F2 : Fld Z h0 q1 "com/example/astilla/astilla/PointLabels" "numberAt" "I" (.int (2 : Int32))) (A_l : Arv Z h0 bl kl .byte (266 : Int32) [.int u0, .int u1, .int u2, .int u3, .int u4, .int u5, .int u6, .int u7, .int u8, .int u9, .int u10, .int u11, .int u12] (.int 0)) (n_l : bl ≠ q1) (g_l : n0 ≤ bl) (hq : 0 ≤ q2.toInt) :
    Ctr l Z ({ cls := "com/example/astilla/astilla/PointLabels", name := "write", desc := "(I)I" } : Jvm.MethodName) prog_15_method_3_code 5 (some .int) ws ({ frames := 0, cells := 0, slots := 0, locals := 0 } : Room) #[.ref q1, .int q2] h0 (fun v h L => ∃ (t0 t1 t2 t3 t4 t5 t6 t7 t8 t9 t10 : Int32), v = some (.int ((2 : Int32) + (digV q2))) ∧ Fr n0 L ∧ Keep h0 h [bl] ∧ Arv Z h bl kl .byte (266 : Int32) [.int u0, .int u1, .int t0, .int t1, .int t2, .int t3, .int t4, .int t5, .int t6, .int t7, .int t8, .int t9, .int t10] (.int 0) ∧ DIGS 1 q2 [.int u0, .int u1, .int t0, .int t1, .int t2, .int t3, .int t4, .int t5, .int t6, .int t7, .int t8, .int t9, .int t10]) := by
  refine Ctr.enter (Ls := #[.val (.ref q1), .val (.int q2), .unset, .unset, .unset]) (plainFor_of_name pn_rmW1) (fun m => ef_rmW1 q1 q2 m) ?_
  intro p e s m below meth c T hx hby hml hown hnm hret hlk hZ hh X0 e0
  have N0 := Fr.nil n0
  rcases own_nine q2 hq with hd1 | hd2 | hd3 | hd4 | hd5 | hd6 | hd7 | hd8 | hd9 | hd10
  · refine g_aloadN X0 hx hby d15_0 (pc' := 1) rfl rfl rfl ?_
    refine g_get X0 hx hZ hown hby d15_1 (pc' := 4) rfl (w_87 hw) e0 F2 ?_
    intro T1 X1 e1
    refine g_iconst X1 hx hby d15_4 (pc' := 5) rfl (z := (1 : Int32)) rfl ?_
    refine g_iadd X1 hx hby d15_5 (pc' := 6) rfl ?_
    refine g_eqI (b := (3 : Int32)) (by decide +kernel) ?_
    refine g_istoreN X1 hx hby d15_6 (pc' := 7) rfl (l' := #[.val (.ref q1), .val (.int q2), .val (.int (3 : Int32)), .unset, .unset]) rfl ?_
    refine g_iloadN X1 hx hby d15_7 (pc' := 8) rfl rfl ?_
    refine g_bipush X1 hx hby d15_8 (pc' := 10) rfl (z := (10 : Int32)) rfl ?_
    refine g_idiv X1 hx hby d15_10 (pc' := 11) rfl (by decide) ?_
    refine g_istoreN X1 hx hby d15_11 (pc' := 12) rfl (l' := #[.val (.ref q1), .val (.int q2), .val (.int (3 : Int32)), .val (.int (dv 1 q2)), .unset]) rfl ?_
    refine g_iloadN X1 hx hby d15_12 (pc' := 13) rfl rfl ?_
    refine g_if_le X1 hx hby d15_13 (by decide) (pc' := 27) (by decide) (pn := 16) rfl (fun hc13_2 => ?_) (fun z => absurd z (own_no hd1))
    refine g_iloadN X1 hx hby d15_27 (pc' := 28) rfl rfl ?_
    refine g_istoreN X1 hx hby d15_28 (pc' := 29) rfl (l' := #[.val (.ref q1), .val (.int q2), .val (.int (3 : Int32)), .val (.int (dv 0 q2)), .unset]) rfl ?_
    refine g_iloadN X1 hx hby d15_29 (pc' := 30) rfl rfl ?_
    refine g_iconst X1 hx hby d15_30 (pc' := 31) rfl (z := (1 : Int32)) rfl ?_
    refine g_isub X1 hx hby d15_31 (pc' := 32) rfl ?_
    refine g_eqI (b := (2 : Int32)) (by decide +kernel) ?_
    refine g_istore X1 hx hby d15_32 (pc' := 34) rfl (l' := #[.val (.ref q1), .val (.int q2), .val (.int (3 : Int32)), .val (.int (dv 0 q2)), .val (.int (2 : Int32))]) rfl ?_
    refine g_iload X1 hx hby d15_34 (pc' := 36) rfl rfl ?_
    refine g_aloadN X1 hx hby d15_36 (pc' := 37) rfl rfl rfl ?_
    refine g_get X1 hx hZ hown hby d15_37 (pc' := 40) rfl (w_87 hw) e1 F2 ?_
    intro T3 X3 e3
    refine g_icmp_lt X3 hx hby d15_40 (by decide) (pc' := 69) (by decide) (pn := 43) rfl (fun z => absurd z (by decide)) (fun _ => ?_)
    refine g_aloadN X3 hx hby d15_43 (pc' := 44) rfl rfl rfl ?_
    refine g_get X3 hx hZ hown hby d15_44 (pc' := 47) rfl (w_38 hw) e3 F1 ?_
    intro T4 X4 e4
    refine g_iload X4 hx hby d15_47 (pc' := 49) rfl rfl ?_
    refine g_bipush X4 hx hby d15_49 (pc' := 51) rfl (z := (48 : Int32)) rfl ?_
    refine g_iloadN X4 hx hby d15_51 (pc' := 52) rfl rfl ?_
    refine g_bipush X4 hx hby d15_52 (pc' := 54) rfl (z := (10 : Int32)) rfl ?_
    refine g_irem X4 hx hby d15_54 (pc' := 55) rfl (by decide) ?_
    refine g_iadd X4 hx hby d15_55 (pc' := 56) rfl ?_
    refine g_i2b X4 hx hby d15_56 (pc' := 57) rfl ?_
    refine g_bastore X4 hx hZ 2 hby d15_57 (pc' := 58) rfl e4 A_l (by decide) (by decide) (by first | decide | simp) ?_
    intro T5 X5 W5 A5v
    have N5 := Fr.snoc X5 N0 g_l
    have E5_q1 := E_a.wr W5
    have F5_q1_label := F1.other W5 (Or.inl n_l.symm)
    have F5_q1_numberAt := F2.other W5 (Or.inl n_l.symm)
    have K5 := (Keep.refl h0 [bl]).wr W5 (Or.inl (List.mem_of_getElem? (i := 0) rfl))
    have A5 : Arv Z T5.heap bl kl .byte (266 : Int32) [.int u0, .int u1, .int (nar .byte (dg 0 q2)), .int u3, .int u4, .int u5, .int u6, .int u7, .int u8, .int u9, .int u10, .int u11, .int u12] (.int 0) := A5v
    refine g_iloadN X5 hx hby d15_58 (pc' := 59) rfl rfl ?_
    refine g_bipush X5 hx hby d15_59 (pc' := 61) rfl (z := (10 : Int32)) rfl ?_
    refine g_idiv X5 hx hby d15_61 (pc' := 62) rfl (by decide) ?_
    refine g_istoreN X5 hx hby d15_62 (pc' := 63) rfl (l' := #[.val (.ref q1), .val (.int q2), .val (.int (3 : Int32)), .val (.int (dv 1 q2)), .val (.int (2 : Int32))]) rfl ?_
    refine g_iinc X5 hx hby d15_63 (pc' := 66) rfl rfl (l' := #[.val (.ref q1), .val (.int q2), .val (.int (3 : Int32)), .val (.int (dv 1 q2)), .val (.int (1 : Int32))]) rfl ?_
    refine g_goto X5 hx hby d15_66 (by decide) (pc' := 34) (by decide) ?_
    refine g_iload X5 hx hby d15_34 (pc' := 36) rfl rfl ?_
    refine g_aloadN X5 hx hby d15_36 (pc' := 37) rfl rfl rfl ?_
    refine g_get X5 hx hZ hown hby d15_37 (pc' := 40) rfl (w_87 hw) rfl F5_q1_numberAt ?_
    intro T6 X6 e6
    refine g_icmp_lt X6 hx hby d15_40 (by decide) (pc' := 69) (by decide) (pn := 43) rfl (fun _ => ?_) (fun z => absurd z (by decide))
    refine g_iloadN X6 hx hby d15_69 (pc' := 70) rfl rfl ?_
    exact g_retI (Q := (fun v h L => ∃ (t0 t1 t2 t3 t4 t5 t6 t7 t8 t9 t10 : Int32), v = some (.int ((2 : Int32) + (digV q2))) ∧ Fr n0 L ∧ Keep h0 h [bl] ∧ Arv Z h bl kl .byte (266 : Int32) [.int u0, .int u1, .int t0, .int t1, .int t2, .int t3, .int t4, .int t5, .int t6, .int t7, .int t8, .int t9, .int t10] (.int 0) ∧ DIGS 1 q2 [.int u0, .int u1, .int t0, .int t1, .int t2, .int t3, .int t4, .int t5, .int t6, .int t7, .int t8, .int t9, .int t10])) X6 hx hby d15_70 hret hlk (by decide) (by decide) (by rw [e6]; exact ⟨(nar .byte (dg 0 q2)), u3, u4, u5, u6, u7, u8, u9, u10, u11, u12, congrArg (fun z : Int32 => some (Value.int z)) (by rw [own_dig hd1 (by decide) (by decide)]; rfl), N5, K5, A5, own_digs hd1 (by decide) (by decide) (fun i hi => match i, hi with | 0, _ => rfl | (k + 1), h => absurd h (by omega))⟩)
  · refine g_aloadN X0 hx hby d15_0 (pc' := 1) rfl rfl rfl ?_
    refine g_get X0 hx hZ hown hby d15_1 (pc' := 4) rfl (w_87 hw) e0 F2 ?_
    intro T7 X7 e7
    refine g_iconst X7 hx hby d15_4 (pc' := 5) rfl (z := (1 : Int32)) rfl ?_
    refine g_iadd X7 hx hby d15_5 (pc' := 6) rfl ?_
    refine g_eqI (b := (3 : Int32)) (by decide +kernel) ?_
    refine g_istoreN X7 hx hby d15_6 (pc' := 7) rfl (l' := #[.val (.ref q1), .val (.int q2), .val (.int (3 : Int32)), .unset, .unset]) rfl ?_
    refine g_iloadN X7 hx hby d15_7 (pc' := 8) rfl rfl ?_
    refine g_bipush X7 hx hby d15_8 (pc' := 10) rfl (z := (10 : Int32)) rfl ?_
    refine g_idiv X7 hx hby d15_10 (pc' := 11) rfl (by decide) ?_
    refine g_istoreN X7 hx hby d15_11 (pc' := 12) rfl (l' := #[.val (.ref q1), .val (.int q2), .val (.int (3 : Int32)), .val (.int (dv 1 q2)), .unset]) rfl ?_
    refine g_iloadN X7 hx hby d15_12 (pc' := 13) rfl rfl ?_
    refine g_if_le X7 hx hby d15_13 (by decide) (pc' := 27) (by decide) (pn := 16) rfl (fun z => absurd z (fun z => z (own_yes 1 hd2 (by decide) (by decide)))) (fun hc13_8 => ?_)
    refine g_iinc X7 hx hby d15_16 (pc' := 19) rfl rfl (l' := #[.val (.ref q1), .val (.int q2), .val (.int (4 : Int32)), .val (.int (dv 1 q2)), .unset]) rfl ?_
    refine g_iloadN X7 hx hby d15_19 (pc' := 20) rfl rfl ?_
    refine g_bipush X7 hx hby d15_20 (pc' := 22) rfl (z := (10 : Int32)) rfl ?_
    refine g_idiv X7 hx hby d15_22 (pc' := 23) rfl (by decide) ?_
    refine g_istoreN X7 hx hby d15_23 (pc' := 24) rfl (l' := #[.val (.ref q1), .val (.int q2), .val (.int (4 : Int32)), .val (.int (dv 2 q2)), .unset]) rfl ?_
    refine g_goto X7 hx hby d15_24 (by decide) (pc' := 12) (by decide) ?_
    refine g_iloadN X7 hx hby d15_12 (pc' := 13) rfl rfl ?_
    refine g_if_le X7 hx hby d15_13 (by decide) (pc' := 27) (by decide) (pn := 16) rfl (fun hc13_9 => ?_) (fun z => absurd z (own_no hd2))
    refine g_iloadN X7 hx hby d15_27 (pc' := 28) rfl rfl ?_
    refine g_istoreN X7 hx hby d15_28 (pc' := 29) rfl (l' := #[.val (.ref q1), .val (.int q2), .val (.int (4 : Int32)), .val (.int (dv 0 q2)), .unset]) rfl ?_
    refine g_iloadN X7 hx hby d15_29 (pc' := 30) rfl rfl ?_
    refine g_iconst X7 hx hby d15_30 (pc' := 31) rfl (z := (1 : Int32)) rfl ?_
    refine g_isub X7 hx hby d15_31 (pc' := 32) rfl ?_
    refine g_eqI (b := (3 : Int32)) (by decide +kernel) ?_
    refine g_istore X7 hx hby d15_32 (pc' := 34) rfl (l' := #[.val (.ref q1), .val (.int q2), .val (.int (4 : Int32)), .val (.int (dv 0 q2)), .val (.int (3 : Int32))]) rfl ?_
    refine g_iload X7 hx hby d15_34 (pc' := 36) rfl rfl ?_
    refine g_aloadN X7 hx hby d15_36 (pc' := 37) rfl rfl rfl ?_
    refine g_get X7 hx hZ hown hby d15_37 (pc' := 40) rfl (w_87 hw) e7 F2 ?_
    intro T10 X10 e10
    refine g_icmp_lt X10 hx hby d15_40 (by decide) (pc' := 69) (by decide) (pn := 43) rfl (fun z => absurd z (by decide)) (fun _ => ?_)
    refine g_aloadN X10 hx hby d15_43 (pc' := 44) rfl rfl rfl ?_
    refine g_get X10 hx hZ hown hby d15_44 (pc' := 47) rfl (w_38 hw) e10 F1 ?_
    intro T11 X11 e11
    refine g_iload X11 hx hby d15_47 (pc' := 49) rfl rfl ?_
    refine g_bipush X11 hx hby d15_49 (pc' := 51) rfl (z := (48 : Int32)) rfl ?_
    refine g_iloadN X11 hx hby d15_51 (pc' := 52) rfl rfl ?_
    refine g_bipush X11 hx hby d15_52 (pc' := 54) rfl (z := (10 : Int32)) rfl ?_
    refine g_irem X11 hx hby d15_54 (pc' := 55) rfl (by decide) ?_
    refine g_iadd X11 hx hby d15_55 (pc' := 56) rfl ?_
    refine g_i2b X11 hx hby d15_56 (pc' := 57) rfl ?_
    refine g_bastore X11 hx hZ 3 hby d15_57 (pc' := 58) rfl e11 A_l (by decide) (by decide) (by first | decide | simp) ?_
    intro T12 X12 W12 A12v
    have N12 := Fr.snoc X12 N0 g_l
    have E12_q1 := E_a.wr W12
    have F12_q1_label := F1.other W12 (Or.inl n_l.symm)
    have F12_q1_numberAt := F2.other W12 (Or.inl n_l.symm)
    have K12 := (Keep.refl h0 [bl]).wr W12 (Or.inl (List.mem_of_getElem? (i := 0) rfl))
    have A12 : Arv Z T12.heap bl kl .byte (266 : Int32) [.int u0, .int u1, .int u2, .int (nar .byte (dg 0 q2)), .int u4, .int u5, .int u6, .int u7, .int u8, .int u9, .int u10, .int u11, .int u12] (.int 0) := A12v
    refine g_iloadN X12 hx hby d15_58 (pc' := 59) rfl rfl ?_
    refine g_bipush X12 hx hby d15_59 (pc' := 61) rfl (z := (10 : Int32)) rfl ?_
    refine g_idiv X12 hx hby d15_61 (pc' := 62) rfl (by decide) ?_
    refine g_istoreN X12 hx hby d15_62 (pc' := 63) rfl (l' := #[.val (.ref q1), .val (.int q2), .val (.int (4 : Int32)), .val (.int (dv 1 q2)), .val (.int (3 : Int32))]) rfl ?_
    refine g_iinc X12 hx hby d15_63 (pc' := 66) rfl rfl (l' := #[.val (.ref q1), .val (.int q2), .val (.int (4 : Int32)), .val (.int (dv 1 q2)), .val (.int (2 : Int32))]) rfl ?_
    refine g_goto X12 hx hby d15_66 (by decide) (pc' := 34) (by decide) ?_
    refine g_iload X12 hx hby d15_34 (pc' := 36) rfl rfl ?_
    refine g_aloadN X12 hx hby d15_36 (pc' := 37) rfl rfl rfl ?_
    refine g_get X12 hx hZ hown hby d15_37 (pc' := 40) rfl (w_87 hw) rfl F12_q1_numberAt ?_
    intro T13 X13 e13
    refine g_icmp_lt X13 hx hby d15_40 (by decide) (pc' := 69) (by decide) (pn := 43) rfl (fun z => absurd z (by decide)) (fun _ => ?_)
    refine g_aloadN X13 hx hby d15_43 (pc' := 44) rfl rfl rfl ?_
    refine g_get X13 hx hZ hown hby d15_44 (pc' := 47) rfl (w_38 hw) e13 F12_q1_label ?_
    intro T14 X14 e14
    refine g_iload X14 hx hby d15_47 (pc' := 49) rfl rfl ?_
    refine g_bipush X14 hx hby d15_49 (pc' := 51) rfl (z := (48 : Int32)) rfl ?_
    refine g_iloadN X14 hx hby d15_51 (pc' := 52) rfl rfl ?_
    refine g_bipush X14 hx hby d15_52 (pc' := 54) rfl (z := (10 : Int32)) rfl ?_
    refine g_irem X14 hx hby d15_54 (pc' := 55) rfl (by decide) ?_
    refine g_iadd X14 hx hby d15_55 (pc' := 56) rfl ?_
    refine g_i2b X14 hx hby d15_56 (pc' := 57) rfl ?_
    refine g_bastore X14 hx hZ 2 hby d15_57 (pc' := 58) rfl e14 A12 (by decide) (by decide) (by first | decide | simp) ?_
    intro T15 X15 W15 A15v
    have N15 := Fr.snoc X15 N12 g_l
    have E15_q1 := E12_q1.wr W15
    have F15_q1_label := F12_q1_label.other W15 (Or.inl n_l.symm)
    have F15_q1_numberAt := F12_q1_numberAt.other W15 (Or.inl n_l.symm)
    have K15 := K12.wr W15 (Or.inl (List.mem_of_getElem? (i := 0) rfl))
    have A15 : Arv Z T15.heap bl kl .byte (266 : Int32) [.int u0, .int u1, .int (nar .byte (dg 1 q2)), .int (nar .byte (dg 0 q2)), .int u4, .int u5, .int u6, .int u7, .int u8, .int u9, .int u10, .int u11, .int u12] (.int 0) := A15v
    refine g_iloadN X15 hx hby d15_58 (pc' := 59) rfl rfl ?_
    refine g_bipush X15 hx hby d15_59 (pc' := 61) rfl (z := (10 : Int32)) rfl ?_
    refine g_idiv X15 hx hby d15_61 (pc' := 62) rfl (by decide) ?_
    refine g_istoreN X15 hx hby d15_62 (pc' := 63) rfl (l' := #[.val (.ref q1), .val (.int q2), .val (.int (4 : Int32)), .val (.int (dv 2 q2)), .val (.int (2 : Int32))]) rfl ?_
    refine g_iinc X15 hx hby d15_63 (pc' := 66) rfl rfl (l' := #[.val (.ref q1), .val (.int q2), .val (.int (4 : Int32)), .val (.int (dv 2 q2)), .val (.int (1 : Int32))]) rfl ?_
    refine g_goto X15 hx hby d15_66 (by decide) (pc' := 34) (by decide) ?_
    refine g_iload X15 hx hby d15_34 (pc' := 36) rfl rfl ?_
    refine g_aloadN X15 hx hby d15_36 (pc' := 37) rfl rfl rfl ?_
    refine g_get X15 hx hZ hown hby d15_37 (pc' := 40) rfl (w_87 hw) rfl F15_q1_numberAt ?_
    intro T16 X16 e16
    refine g_icmp_lt X16 hx hby d15_40 (by decide) (pc' := 69) (by decide) (pn := 43) rfl (fun _ => ?_) (fun z => absurd z (by decide))
    refine g_iloadN X16 hx hby d15_69 (pc' := 70) rfl rfl ?_
    exact g_retI (Q := (fun v h L => ∃ (t0 t1 t2 t3 t4 t5 t6 t7 t8 t9 t10 : Int32), v = some (.int ((2 : Int32) + (digV q2))) ∧ Fr n0 L ∧ Keep h0 h [bl] ∧ Arv Z h bl kl .byte (266 : Int32) [.int u0, .int u1, .int t0, .int t1, .int t2, .int t3, .int t4, .int t5, .int t6, .int t7, .int t8, .int t9, .int t10] (.int 0) ∧ DIGS 1 q2 [.int u0, .int u1, .int t0, .int t1, .int t2, .int t3, .int t4, .int t5, .int t6, .int t7, .int t8, .int t9, .int t10])) X16 hx hby d15_70 hret hlk (by decide) (by decide) (by rw [e16]; exact ⟨(nar .byte (dg 1 q2)), (nar .byte (dg 0 q2)), u4, u5, u6, u7, u8, u9, u10, u11, u12, congrArg (fun z : Int32 => some (Value.int z)) (by rw [own_dig hd2 (by decide) (by decide)]; rfl), N15, K15, A15, own_digs hd2 (by decide) (by decide) (fun i hi => match i, hi with | 0, _ => rfl | 1, _ => rfl | (k + 2), h => absurd h (by omega))⟩)
  · refine g_aloadN X0 hx hby d15_0 (pc' := 1) rfl rfl rfl ?_
    refine g_get X0 hx hZ hown hby d15_1 (pc' := 4) rfl (w_87 hw) e0 F2 ?_
    intro T17 X17 e17
    refine g_iconst X17 hx hby d15_4 (pc' := 5) rfl (z := (1 : Int32)) rfl ?_
    refine g_iadd X17 hx hby d15_5 (pc' := 6) rfl ?_
    refine g_eqI (b := (3 : Int32)) (by decide +kernel) ?_
    refine g_istoreN X17 hx hby d15_6 (pc' := 7) rfl (l' := #[.val (.ref q1), .val (.int q2), .val (.int (3 : Int32)), .unset, .unset]) rfl ?_
    refine g_iloadN X17 hx hby d15_7 (pc' := 8) rfl rfl ?_
    refine g_bipush X17 hx hby d15_8 (pc' := 10) rfl (z := (10 : Int32)) rfl ?_
    refine g_idiv X17 hx hby d15_10 (pc' := 11) rfl (by decide) ?_
    refine g_istoreN X17 hx hby d15_11 (pc' := 12) rfl (l' := #[.val (.ref q1), .val (.int q2), .val (.int (3 : Int32)), .val (.int (dv 1 q2)), .unset]) rfl ?_
    refine g_iloadN X17 hx hby d15_12 (pc' := 13) rfl rfl ?_
    refine g_if_le X17 hx hby d15_13 (by decide) (pc' := 27) (by decide) (pn := 16) rfl (fun z => absurd z (fun z => z (own_yes 1 hd3 (by decide) (by decide)))) (fun hc13_18 => ?_)
    refine g_iinc X17 hx hby d15_16 (pc' := 19) rfl rfl (l' := #[.val (.ref q1), .val (.int q2), .val (.int (4 : Int32)), .val (.int (dv 1 q2)), .unset]) rfl ?_
    refine g_iloadN X17 hx hby d15_19 (pc' := 20) rfl rfl ?_
    refine g_bipush X17 hx hby d15_20 (pc' := 22) rfl (z := (10 : Int32)) rfl ?_
    refine g_idiv X17 hx hby d15_22 (pc' := 23) rfl (by decide) ?_
    refine g_istoreN X17 hx hby d15_23 (pc' := 24) rfl (l' := #[.val (.ref q1), .val (.int q2), .val (.int (4 : Int32)), .val (.int (dv 2 q2)), .unset]) rfl ?_
    refine g_goto X17 hx hby d15_24 (by decide) (pc' := 12) (by decide) ?_
    refine g_iloadN X17 hx hby d15_12 (pc' := 13) rfl rfl ?_
    refine g_if_le X17 hx hby d15_13 (by decide) (pc' := 27) (by decide) (pn := 16) rfl (fun z => absurd z (fun z => z (own_yes 2 hd3 (by decide) (by decide)))) (fun hc13_19 => ?_)
    refine g_iinc X17 hx hby d15_16 (pc' := 19) rfl rfl (l' := #[.val (.ref q1), .val (.int q2), .val (.int (5 : Int32)), .val (.int (dv 2 q2)), .unset]) rfl ?_
    refine g_iloadN X17 hx hby d15_19 (pc' := 20) rfl rfl ?_
    refine g_bipush X17 hx hby d15_20 (pc' := 22) rfl (z := (10 : Int32)) rfl ?_
    refine g_idiv X17 hx hby d15_22 (pc' := 23) rfl (by decide) ?_
    refine g_istoreN X17 hx hby d15_23 (pc' := 24) rfl (l' := #[.val (.ref q1), .val (.int q2), .val (.int (5 : Int32)), .val (.int (dv 3 q2)), .unset]) rfl ?_
    refine g_goto X17 hx hby d15_24 (by decide) (pc' := 12) (by decide) ?_
    refine g_iloadN X17 hx hby d15_12 (pc' := 13) rfl rfl ?_
    refine g_if_le X17 hx hby d15_13 (by decide) (pc' := 27) (by decide) (pn := 16) rfl (fun hc13_20 => ?_) (fun z => absurd z (own_no hd3))
    refine g_iloadN X17 hx hby d15_27 (pc' := 28) rfl rfl ?_
    refine g_istoreN X17 hx hby d15_28 (pc' := 29) rfl (l' := #[.val (.ref q1), .val (.int q2), .val (.int (5 : Int32)), .val (.int (dv 0 q2)), .unset]) rfl ?_
    refine g_iloadN X17 hx hby d15_29 (pc' := 30) rfl rfl ?_
    refine g_iconst X17 hx hby d15_30 (pc' := 31) rfl (z := (1 : Int32)) rfl ?_
    refine g_isub X17 hx hby d15_31 (pc' := 32) rfl ?_
    refine g_eqI (b := (4 : Int32)) (by decide +kernel) ?_
    refine g_istore X17 hx hby d15_32 (pc' := 34) rfl (l' := #[.val (.ref q1), .val (.int q2), .val (.int (5 : Int32)), .val (.int (dv 0 q2)), .val (.int (4 : Int32))]) rfl ?_
    refine g_iload X17 hx hby d15_34 (pc' := 36) rfl rfl ?_
    refine g_aloadN X17 hx hby d15_36 (pc' := 37) rfl rfl rfl ?_
    refine g_get X17 hx hZ hown hby d15_37 (pc' := 40) rfl (w_87 hw) e17 F2 ?_
    intro T21 X21 e21
    refine g_icmp_lt X21 hx hby d15_40 (by decide) (pc' := 69) (by decide) (pn := 43) rfl (fun z => absurd z (by decide)) (fun _ => ?_)
    refine g_aloadN X21 hx hby d15_43 (pc' := 44) rfl rfl rfl ?_
    refine g_get X21 hx hZ hown hby d15_44 (pc' := 47) rfl (w_38 hw) e21 F1 ?_
    intro T22 X22 e22
    refine g_iload X22 hx hby d15_47 (pc' := 49) rfl rfl ?_
    refine g_bipush X22 hx hby d15_49 (pc' := 51) rfl (z := (48 : Int32)) rfl ?_
    refine g_iloadN X22 hx hby d15_51 (pc' := 52) rfl rfl ?_
    refine g_bipush X22 hx hby d15_52 (pc' := 54) rfl (z := (10 : Int32)) rfl ?_
    refine g_irem X22 hx hby d15_54 (pc' := 55) rfl (by decide) ?_
    refine g_iadd X22 hx hby d15_55 (pc' := 56) rfl ?_
    refine g_i2b X22 hx hby d15_56 (pc' := 57) rfl ?_
    refine g_bastore X22 hx hZ 4 hby d15_57 (pc' := 58) rfl e22 A_l (by decide) (by decide) (by first | decide | simp) ?_
    intro T23 X23 W23 A23v
    have N23 := Fr.snoc X23 N0 g_l
    have E23_q1 := E_a.wr W23
    have F23_q1_label := F1.other W23 (Or.inl n_l.symm)
    have F23_q1_numberAt := F2.other W23 (Or.inl n_l.symm)
    have K23 := (Keep.refl h0 [bl]).wr W23 (Or.inl (List.mem_of_getElem? (i := 0) rfl))
    have A23 : Arv Z T23.heap bl kl .byte (266 : Int32) [.int u0, .int u1, .int u2, .int u3, .int (nar .byte (dg 0 q2)), .int u5, .int u6, .int u7, .int u8, .int u9, .int u10, .int u11, .int u12] (.int 0) := A23v
    refine g_iloadN X23 hx hby d15_58 (pc' := 59) rfl rfl ?_
    refine g_bipush X23 hx hby d15_59 (pc' := 61) rfl (z := (10 : Int32)) rfl ?_
    refine g_idiv X23 hx hby d15_61 (pc' := 62) rfl (by decide) ?_
    refine g_istoreN X23 hx hby d15_62 (pc' := 63) rfl (l' := #[.val (.ref q1), .val (.int q2), .val (.int (5 : Int32)), .val (.int (dv 1 q2)), .val (.int (4 : Int32))]) rfl ?_
    refine g_iinc X23 hx hby d15_63 (pc' := 66) rfl rfl (l' := #[.val (.ref q1), .val (.int q2), .val (.int (5 : Int32)), .val (.int (dv 1 q2)), .val (.int (3 : Int32))]) rfl ?_
    refine g_goto X23 hx hby d15_66 (by decide) (pc' := 34) (by decide) ?_
    refine g_iload X23 hx hby d15_34 (pc' := 36) rfl rfl ?_
    refine g_aloadN X23 hx hby d15_36 (pc' := 37) rfl rfl rfl ?_
    refine g_get X23 hx hZ hown hby d15_37 (pc' := 40) rfl (w_87 hw) rfl F23_q1_numberAt ?_
    intro T24 X24 e24
    refine g_icmp_lt X24 hx hby d15_40 (by decide) (pc' := 69) (by decide) (pn := 43) rfl (fun z => absurd z (by decide)) (fun _ => ?_)
    refine g_aloadN X24 hx hby d15_43 (pc' := 44) rfl rfl rfl ?_
    refine g_get X24 hx hZ hown hby d15_44 (pc' := 47) rfl (w_38 hw) e24 F23_q1_label ?_
    intro T25 X25 e25
    refine g_iload X25 hx hby d15_47 (pc' := 49) rfl rfl ?_
    refine g_bipush X25 hx hby d15_49 (pc' := 51) rfl (z := (48 : Int32)) rfl ?_
    refine g_iloadN X25 hx hby d15_51 (pc' := 52) rfl rfl ?_
    refine g_bipush X25 hx hby d15_52 (pc' := 54) rfl (z := (10 : Int32)) rfl ?_
    refine g_irem X25 hx hby d15_54 (pc' := 55) rfl (by decide) ?_
    refine g_iadd X25 hx hby d15_55 (pc' := 56) rfl ?_
    refine g_i2b X25 hx hby d15_56 (pc' := 57) rfl ?_
    refine g_bastore X25 hx hZ 3 hby d15_57 (pc' := 58) rfl e25 A23 (by decide) (by decide) (by first | decide | simp) ?_
    intro T26 X26 W26 A26v
    have N26 := Fr.snoc X26 N23 g_l
    have E26_q1 := E23_q1.wr W26
    have F26_q1_label := F23_q1_label.other W26 (Or.inl n_l.symm)
    have F26_q1_numberAt := F23_q1_numberAt.other W26 (Or.inl n_l.symm)
    have K26 := K23.wr W26 (Or.inl (List.mem_of_getElem? (i := 0) rfl))
    have A26 : Arv Z T26.heap bl kl .byte (266 : Int32) [.int u0, .int u1, .int u2, .int (nar .byte (dg 1 q2)), .int (nar .byte (dg 0 q2)), .int u5, .int u6, .int u7, .int u8, .int u9, .int u10, .int u11, .int u12] (.int 0) := A26v
    refine g_iloadN X26 hx hby d15_58 (pc' := 59) rfl rfl ?_
    refine g_bipush X26 hx hby d15_59 (pc' := 61) rfl (z := (10 : Int32)) rfl ?_
    refine g_idiv X26 hx hby d15_61 (pc' := 62) rfl (by decide) ?_
    refine g_istoreN X26 hx hby d15_62 (pc' := 63) rfl (l' := #[.val (.ref q1), .val (.int q2), .val (.int (5 : Int32)), .val (.int (dv 2 q2)), .val (.int (3 : Int32))]) rfl ?_
    refine g_iinc X26 hx hby d15_63 (pc' := 66) rfl rfl (l' := #[.val (.ref q1), .val (.int q2), .val (.int (5 : Int32)), .val (.int (dv 2 q2)), .val (.int (2 : Int32))]) rfl ?_
    refine g_goto X26 hx hby d15_66 (by decide) (pc' := 34) (by decide) ?_
    refine g_iload X26 hx hby d15_34 (pc' := 36) rfl rfl ?_
    refine g_aloadN X26 hx hby d15_36 (pc' := 37) rfl rfl rfl ?_
    refine g_get X26 hx hZ hown hby d15_37 (pc' := 40) rfl (w_87 hw) rfl F26_q1_numberAt ?_
    intro T27 X27 e27
    refine g_icmp_lt X27 hx hby d15_40 (by decide) (pc' := 69) (by decide) (pn := 43) rfl (fun z => absurd z (by decide)) (fun _ => ?_)
    refine g_aloadN X27 hx hby d15_43 (pc' := 44) rfl rfl rfl ?_
    refine g_get X27 hx hZ hown hby d15_44 (pc' := 47) rfl (w_38 hw) e27 F26_q1_label ?_
    intro T28 X28 e28
    refine g_iload X28 hx hby d15_47 (pc' := 49) rfl rfl ?_
    refine g_bipush X28 hx hby d15_49 (pc' := 51) rfl (z := (48 : Int32)) rfl ?_
    refine g_iloadN X28 hx hby d15_51 (pc' := 52) rfl rfl ?_
    refine g_bipush X28 hx hby d15_52 (pc' := 54) rfl (z := (10 : Int32)) rfl ?_
    refine g_irem X28 hx hby d15_54 (pc' := 55) rfl (by decide) ?_
    refine g_iadd X28 hx hby d15_55 (pc' := 56) rfl ?_
    refine g_i2b X28 hx hby d15_56 (pc' := 57) rfl ?_
    refine g_bastore X28 hx hZ 2 hby d15_57 (pc' := 58) rfl e28 A26 (by decide) (by decide) (by first | decide | simp) ?_
    intro T29 X29 W29 A29v
    have N29 := Fr.snoc X29 N26 g_l
    have E29_q1 := E26_q1.wr W29
    have F29_q1_label := F26_q1_label.other W29 (Or.inl n_l.symm)
    have F29_q1_numberAt := F26_q1_numberAt.other W29 (Or.inl n_l.symm)
    have K29 := K26.wr W29 (Or.inl (List.mem_of_getElem? (i := 0) rfl))
    have A29 : Arv Z T29.heap bl kl .byte (266 : Int32) [.int u0, .int u1, .int (nar .byte (dg 2 q2)), .int (nar .byte (dg 1 q2)), .int (nar .byte (dg 0 q2)), .int u5, .int u6, .int u7, .int u8, .int u9, .int u10, .int u11, .int u12] (.int 0) := A29v
    refine g_iloadN X29 hx hby d15_58 (pc' := 59) rfl rfl ?_
    refine g_bipush X29 hx hby d15_59 (pc' := 61) rfl (z := (10 : Int32)) rfl ?_
    refine g_idiv X29 hx hby d15_61 (pc' := 62) rfl (by decide) ?_
    refine g_istoreN X29 hx hby d15_62 (pc' := 63) rfl (l' := #[.val (.ref q1), .val (.int q2), .val (.int (5 : Int32)), .val (.int (dv 3 q2)), .val (.int (2 : Int32))]) rfl ?_
    refine g_iinc X29 hx hby d15_63 (pc' := 66) rfl rfl (l' := #[.val (.ref q1), .val (.int q2), .val (.int (5 : Int32)), .val (.int (dv 3 q2)), .val (.int (1 : Int32))]) rfl ?_
    refine g_goto X29 hx hby d15_66 (by decide) (pc' := 34) (by decide) ?_
    refine g_iload X29 hx hby d15_34 (pc' := 36) rfl rfl ?_
    refine g_aloadN X29 hx hby d15_36 (pc' := 37) rfl rfl rfl ?_
    refine g_get X29 hx hZ hown hby d15_37 (pc' := 40) rfl (w_87 hw) rfl F29_q1_numberAt ?_
    intro T30 X30 e30
    refine g_icmp_lt X30 hx hby d15_40 (by decide) (pc' := 69) (by decide) (pn := 43) rfl (fun _ => ?_) (fun z => absurd z (by decide))
    refine g_iloadN X30 hx hby d15_69 (pc' := 70) rfl rfl ?_
    exact g_retI (Q := (fun v h L => ∃ (t0 t1 t2 t3 t4 t5 t6 t7 t8 t9 t10 : Int32), v = some (.int ((2 : Int32) + (digV q2))) ∧ Fr n0 L ∧ Keep h0 h [bl] ∧ Arv Z h bl kl .byte (266 : Int32) [.int u0, .int u1, .int t0, .int t1, .int t2, .int t3, .int t4, .int t5, .int t6, .int t7, .int t8, .int t9, .int t10] (.int 0) ∧ DIGS 1 q2 [.int u0, .int u1, .int t0, .int t1, .int t2, .int t3, .int t4, .int t5, .int t6, .int t7, .int t8, .int t9, .int t10])) X30 hx hby d15_70 hret hlk (by decide) (by decide) (by rw [e30]; exact ⟨(nar .byte (dg 2 q2)), (nar .byte (dg 1 q2)), (nar .byte (dg 0 q2)), u5, u6, u7, u8, u9, u10, u11, u12, congrArg (fun z : Int32 => some (Value.int z)) (by rw [own_dig hd3 (by decide) (by decide)]; rfl), N29, K29, A29, own_digs hd3 (by decide) (by decide) (fun i hi => match i, hi with | 0, _ => rfl | 1, _ => rfl | 2, _ => rfl | (k + 3), h => absurd h (by omega))⟩)
  · refine g_aloadN X0 hx hby d15_0 (pc' := 1) rfl rfl rfl ?_
    refine g_get X0 hx hZ hown hby d15_1 (pc' := 4) rfl (w_87 hw) e0 F2 ?_
    intro T31 X31 e31
    refine g_iconst X31 hx hby d15_4 (pc' := 5) rfl (z := (1 : Int32)) rfl ?_
    refine g_iadd X31 hx hby d15_5 (pc' := 6) rfl ?_
    refine g_eqI (b := (3 : Int32)) (by decide +kernel) ?_
    refine g_istoreN X31 hx hby d15_6 (pc' := 7) rfl (l' := #[.val (.ref q1), .val (.int q2), .val (.int (3 : Int32)), .unset, .unset]) rfl ?_
    refine g_iloadN X31 hx hby d15_7 (pc' := 8) rfl rfl ?_
    refine g_bipush X31 hx hby d15_8 (pc' := 10) rfl (z := (10 : Int32)) rfl ?_
    refine g_idiv X31 hx hby d15_10 (pc' := 11) rfl (by decide) ?_
    refine g_istoreN X31 hx hby d15_11 (pc' := 12) rfl (l' := #[.val (.ref q1), .val (.int q2), .val (.int (3 : Int32)), .val (.int (dv 1 q2)), .unset]) rfl ?_
    refine g_iloadN X31 hx hby d15_12 (pc' := 13) rfl rfl ?_
    refine g_if_le X31 hx hby d15_13 (by decide) (pc' := 27) (by decide) (pn := 16) rfl (fun z => absurd z (fun z => z (own_yes 1 hd4 (by decide) (by decide)))) (fun hc13_32 => ?_)
    refine g_iinc X31 hx hby d15_16 (pc' := 19) rfl rfl (l' := #[.val (.ref q1), .val (.int q2), .val (.int (4 : Int32)), .val (.int (dv 1 q2)), .unset]) rfl ?_
    refine g_iloadN X31 hx hby d15_19 (pc' := 20) rfl rfl ?_
    refine g_bipush X31 hx hby d15_20 (pc' := 22) rfl (z := (10 : Int32)) rfl ?_
    refine g_idiv X31 hx hby d15_22 (pc' := 23) rfl (by decide) ?_
    refine g_istoreN X31 hx hby d15_23 (pc' := 24) rfl (l' := #[.val (.ref q1), .val (.int q2), .val (.int (4 : Int32)), .val (.int (dv 2 q2)), .unset]) rfl ?_
    refine g_goto X31 hx hby d15_24 (by decide) (pc' := 12) (by decide) ?_
    refine g_iloadN X31 hx hby d15_12 (pc' := 13) rfl rfl ?_
    refine g_if_le X31 hx hby d15_13 (by decide) (pc' := 27) (by decide) (pn := 16) rfl (fun z => absurd z (fun z => z (own_yes 2 hd4 (by decide) (by decide)))) (fun hc13_33 => ?_)
    refine g_iinc X31 hx hby d15_16 (pc' := 19) rfl rfl (l' := #[.val (.ref q1), .val (.int q2), .val (.int (5 : Int32)), .val (.int (dv 2 q2)), .unset]) rfl ?_
    refine g_iloadN X31 hx hby d15_19 (pc' := 20) rfl rfl ?_
    refine g_bipush X31 hx hby d15_20 (pc' := 22) rfl (z := (10 : Int32)) rfl ?_
    refine g_idiv X31 hx hby d15_22 (pc' := 23) rfl (by decide) ?_
    refine g_istoreN X31 hx hby d15_23 (pc' := 24) rfl (l' := #[.val (.ref q1), .val (.int q2), .val (.int (5 : Int32)), .val (.int (dv 3 q2)), .unset]) rfl ?_
    refine g_goto X31 hx hby d15_24 (by decide) (pc' := 12) (by decide) ?_
    refine g_iloadN X31 hx hby d15_12 (pc' := 13) rfl rfl ?_
    refine g_if_le X31 hx hby d15_13 (by decide) (pc' := 27) (by decide) (pn := 16) rfl (fun z => absurd z (fun z => z (own_yes 3 hd4 (by decide) (by decide)))) (fun hc13_34 => ?_)
    refine g_iinc X31 hx hby d15_16 (pc' := 19) rfl rfl (l' := #[.val (.ref q1), .val (.int q2), .val (.int (6 : Int32)), .val (.int (dv 3 q2)), .unset]) rfl ?_
    refine g_iloadN X31 hx hby d15_19 (pc' := 20) rfl rfl ?_
    refine g_bipush X31 hx hby d15_20 (pc' := 22) rfl (z := (10 : Int32)) rfl ?_
    refine g_idiv X31 hx hby d15_22 (pc' := 23) rfl (by decide) ?_
    refine g_istoreN X31 hx hby d15_23 (pc' := 24) rfl (l' := #[.val (.ref q1), .val (.int q2), .val (.int (6 : Int32)), .val (.int (dv 4 q2)), .unset]) rfl ?_
    refine g_goto X31 hx hby d15_24 (by decide) (pc' := 12) (by decide) ?_
    refine g_iloadN X31 hx hby d15_12 (pc' := 13) rfl rfl ?_
    refine g_if_le X31 hx hby d15_13 (by decide) (pc' := 27) (by decide) (pn := 16) rfl (fun hc13_35 => ?_) (fun z => absurd z (own_no hd4))
    refine g_iloadN X31 hx hby d15_27 (pc' := 28) rfl rfl ?_
    refine g_istoreN X31 hx hby d15_28 (pc' := 29) rfl (l' := #[.val (.ref q1), .val (.int q2), .val (.int (6 : Int32)), .val (.int (dv 0 q2)), .unset]) rfl ?_
    refine g_iloadN X31 hx hby d15_29 (pc' := 30) rfl rfl ?_
    refine g_iconst X31 hx hby d15_30 (pc' := 31) rfl (z := (1 : Int32)) rfl ?_
    refine g_isub X31 hx hby d15_31 (pc' := 32) rfl ?_
    refine g_eqI (b := (5 : Int32)) (by decide +kernel) ?_
    refine g_istore X31 hx hby d15_32 (pc' := 34) rfl (l' := #[.val (.ref q1), .val (.int q2), .val (.int (6 : Int32)), .val (.int (dv 0 q2)), .val (.int (5 : Int32))]) rfl ?_
    refine g_iload X31 hx hby d15_34 (pc' := 36) rfl rfl ?_
    refine g_aloadN X31 hx hby d15_36 (pc' := 37) rfl rfl rfl ?_
    refine g_get X31 hx hZ hown hby d15_37 (pc' := 40) rfl (w_87 hw) e31 F2 ?_
    intro T36 X36 e36
    refine g_icmp_lt X36 hx hby d15_40 (by decide) (pc' := 69) (by decide) (pn := 43) rfl (fun z => absurd z (by decide)) (fun _ => ?_)
    refine g_aloadN X36 hx hby d15_43 (pc' := 44) rfl rfl rfl ?_
    refine g_get X36 hx hZ hown hby d15_44 (pc' := 47) rfl (w_38 hw) e36 F1 ?_
    intro T37 X37 e37
    refine g_iload X37 hx hby d15_47 (pc' := 49) rfl rfl ?_
    refine g_bipush X37 hx hby d15_49 (pc' := 51) rfl (z := (48 : Int32)) rfl ?_
    refine g_iloadN X37 hx hby d15_51 (pc' := 52) rfl rfl ?_
    refine g_bipush X37 hx hby d15_52 (pc' := 54) rfl (z := (10 : Int32)) rfl ?_
    refine g_irem X37 hx hby d15_54 (pc' := 55) rfl (by decide) ?_
    refine g_iadd X37 hx hby d15_55 (pc' := 56) rfl ?_
    refine g_i2b X37 hx hby d15_56 (pc' := 57) rfl ?_
    refine g_bastore X37 hx hZ 5 hby d15_57 (pc' := 58) rfl e37 A_l (by decide) (by decide) (by first | decide | simp) ?_
    intro T38 X38 W38 A38v
    have N38 := Fr.snoc X38 N0 g_l
    have E38_q1 := E_a.wr W38
    have F38_q1_label := F1.other W38 (Or.inl n_l.symm)
    have F38_q1_numberAt := F2.other W38 (Or.inl n_l.symm)
    have K38 := (Keep.refl h0 [bl]).wr W38 (Or.inl (List.mem_of_getElem? (i := 0) rfl))
    have A38 : Arv Z T38.heap bl kl .byte (266 : Int32) [.int u0, .int u1, .int u2, .int u3, .int u4, .int (nar .byte (dg 0 q2)), .int u6, .int u7, .int u8, .int u9, .int u10, .int u11, .int u12] (.int 0) := A38v
    refine g_iloadN X38 hx hby d15_58 (pc' := 59) rfl rfl ?_
    refine g_bipush X38 hx hby d15_59 (pc' := 61) rfl (z := (10 : Int32)) rfl ?_
    refine g_idiv X38 hx hby d15_61 (pc' := 62) rfl (by decide) ?_
    refine g_istoreN X38 hx hby d15_62 (pc' := 63) rfl (l' := #[.val (.ref q1), .val (.int q2), .val (.int (6 : Int32)), .val (.int (dv 1 q2)), .val (.int (5 : Int32))]) rfl ?_
    refine g_iinc X38 hx hby d15_63 (pc' := 66) rfl rfl (l' := #[.val (.ref q1), .val (.int q2), .val (.int (6 : Int32)), .val (.int (dv 1 q2)), .val (.int (4 : Int32))]) rfl ?_
    refine g_goto X38 hx hby d15_66 (by decide) (pc' := 34) (by decide) ?_
    refine g_iload X38 hx hby d15_34 (pc' := 36) rfl rfl ?_
    refine g_aloadN X38 hx hby d15_36 (pc' := 37) rfl rfl rfl ?_
    refine g_get X38 hx hZ hown hby d15_37 (pc' := 40) rfl (w_87 hw) rfl F38_q1_numberAt ?_
    intro T39 X39 e39
    refine g_icmp_lt X39 hx hby d15_40 (by decide) (pc' := 69) (by decide) (pn := 43) rfl (fun z => absurd z (by decide)) (fun _ => ?_)
    refine g_aloadN X39 hx hby d15_43 (pc' := 44) rfl rfl rfl ?_
    refine g_get X39 hx hZ hown hby d15_44 (pc' := 47) rfl (w_38 hw) e39 F38_q1_label ?_
    intro T40 X40 e40
    refine g_iload X40 hx hby d15_47 (pc' := 49) rfl rfl ?_
    refine g_bipush X40 hx hby d15_49 (pc' := 51) rfl (z := (48 : Int32)) rfl ?_
    refine g_iloadN X40 hx hby d15_51 (pc' := 52) rfl rfl ?_
    refine g_bipush X40 hx hby d15_52 (pc' := 54) rfl (z := (10 : Int32)) rfl ?_
    refine g_irem X40 hx hby d15_54 (pc' := 55) rfl (by decide) ?_
    refine g_iadd X40 hx hby d15_55 (pc' := 56) rfl ?_
    refine g_i2b X40 hx hby d15_56 (pc' := 57) rfl ?_
    refine g_bastore X40 hx hZ 4 hby d15_57 (pc' := 58) rfl e40 A38 (by decide) (by decide) (by first | decide | simp) ?_
    intro T41 X41 W41 A41v
    have N41 := Fr.snoc X41 N38 g_l
    have E41_q1 := E38_q1.wr W41
    have F41_q1_label := F38_q1_label.other W41 (Or.inl n_l.symm)
    have F41_q1_numberAt := F38_q1_numberAt.other W41 (Or.inl n_l.symm)
    have K41 := K38.wr W41 (Or.inl (List.mem_of_getElem? (i := 0) rfl))
    have A41 : Arv Z T41.heap bl kl .byte (266 : Int32) [.int u0, .int u1, .int u2, .int u3, .int (nar .byte (dg 1 q2)), .int (nar .byte (dg 0 q2)), .int u6, .int u7, .int u8, .int u9, .int u10, .int u11, .int u12] (.int 0) := A41v
    refine g_iloadN X41 hx hby d15_58 (pc' := 59) rfl rfl ?_
    refine g_bipush X41 hx hby d15_59 (pc' := 61) rfl (z := (10 : Int32)) rfl ?_
    refine g_idiv X41 hx hby d15_61 (pc' := 62) rfl (by decide) ?_
    refine g_istoreN X41 hx hby d15_62 (pc' := 63) rfl (l' := #[.val (.ref q1), .val (.int q2), .val (.int (6 : Int32)), .val (.int (dv 2 q2)), .val (.int (4 : Int32))]) rfl ?_
    refine g_iinc X41 hx hby d15_63 (pc' := 66) rfl rfl (l' := #[.val (.ref q1), .val (.int q2), .val (.int (6 : Int32)), .val (.int (dv 2 q2)), .val (.int (3 : Int32))]) rfl ?_
    refine g_goto X41 hx hby d15_66 (by decide) (pc' := 34) (by decide) ?_
    refine g_iload X41 hx hby d15_34 (pc' := 36) rfl rfl ?_
    refine g_aloadN X41 hx hby d15_36 (pc' := 37) rfl rfl rfl ?_
    refine g_get X41 hx hZ hown hby d15_37 (pc' := 40) rfl (w_87 hw) rfl F41_q1_numberAt ?_
    intro T42 X42 e42
    refine g_icmp_lt X42 hx hby d15_40 (by decide) (pc' := 69) (by decide) (pn := 43) rfl (fun z => absurd z (by decide)) (fun _ => ?_)
    refine g_aloadN X42 hx hby d15_43 (pc' := 44) rfl rfl rfl ?_
    refine g_get X42 hx hZ hown hby d15_44 (pc' := 47) rfl (w_38 hw) e42 F41_q1_label ?_
    intro T43 X43 e43
    refine g_iload X43 hx hby d15_47 (pc' := 49) rfl rfl ?_
    refine g_bipush X43 hx hby d15_49 (pc' := 51) rfl (z := (48 : Int32)) rfl ?_
    refine g_iloadN X43 hx hby d15_51 (pc' := 52) rfl rfl ?_
    refine g_bipush X43 hx hby d15_52 (pc' := 54) rfl (z := (10 : Int32)) rfl ?_
    refine g_irem X43 hx hby d15_54 (pc' := 55) rfl (by decide) ?_
    refine g_iadd X43 hx hby d15_55 (pc' := 56) rfl ?_
    refine g_i2b X43 hx hby d15_56 (pc' := 57) rfl ?_
    refine g_bastore X43 hx hZ 3 hby d15_57 (pc' := 58) rfl e43 A41 (by decide) (by decide) (by first | decide | simp) ?_
    intro T44 X44 W44 A44v
    have N44 := Fr.snoc X44 N41 g_l
    have E44_q1 := E41_q1.wr W44
    have F44_q1_label := F41_q1_label.other W44 (Or.inl n_l.symm)
    have F44_q1_numberAt := F41_q1_numberAt.other W44 (Or.inl n_l.symm)
    have K44 := K41.wr W44 (Or.inl (List.mem_of_getElem? (i := 0) rfl))
    have A44 : Arv Z T44.heap bl kl .byte (266 : Int32) [.int u0, .int u1, .int u2, .int (nar .byte (dg 2 q2)), .int (nar .byte (dg 1 q2)), .int (nar .byte (dg 0 q2)), .int u6, .int u7, .int u8, .int u9, .int u10, .int u11, .int u12] (.int 0) := A44v
    refine g_iloadN X44 hx hby d15_58 (pc' := 59) rfl rfl ?_
    refine g_bipush X44 hx hby d15_59 (pc' := 61) rfl (z := (10 : Int32)) rfl ?_
    refine g_idiv X44 hx hby d15_61 (pc' := 62) rfl (by decide) ?_
    refine g_istoreN X44 hx hby d15_62 (pc' := 63) rfl (l' := #[.val (.ref q1), .val (.int q2), .val (.int (6 : Int32)), .val (.int (dv 3 q2)), .val (.int (3 : Int32))]) rfl ?_
    refine g_iinc X44 hx hby d15_63 (pc' := 66) rfl rfl (l' := #[.val (.ref q1), .val (.int q2), .val (.int (6 : Int32)), .val (.int (dv 3 q2)), .val (.int (2 : Int32))]) rfl ?_
    refine g_goto X44 hx hby d15_66 (by decide) (pc' := 34) (by decide) ?_
    refine g_iload X44 hx hby d15_34 (pc' := 36) rfl rfl ?_
    refine g_aloadN X44 hx hby d15_36 (pc' := 37) rfl rfl rfl ?_
    refine g_get X44 hx hZ hown hby d15_37 (pc' := 40) rfl (w_87 hw) rfl F44_q1_numberAt ?_
    intro T45 X45 e45
    refine g_icmp_lt X45 hx hby d15_40 (by decide) (pc' := 69) (by decide) (pn := 43) rfl (fun z => absurd z (by decide)) (fun _ => ?_)
    refine g_aloadN X45 hx hby d15_43 (pc' := 44) rfl rfl rfl ?_
    refine g_get X45 hx hZ hown hby d15_44 (pc' := 47) rfl (w_38 hw) e45 F44_q1_label ?_
    intro T46 X46 e46
    refine g_iload X46 hx hby d15_47 (pc' := 49) rfl rfl ?_
    refine g_bipush X46 hx hby d15_49 (pc' := 51) rfl (z := (48 : Int32)) rfl ?_
    refine g_iloadN X46 hx hby d15_51 (pc' := 52) rfl rfl ?_
    refine g_bipush X46 hx hby d15_52 (pc' := 54) rfl (z := (10 : Int32)) rfl ?_
    refine g_irem X46 hx hby d15_54 (pc' := 55) rfl (by decide) ?_
    refine g_iadd X46 hx hby d15_55 (pc' := 56) rfl ?_
    refine g_i2b X46 hx hby d15_56 (pc' := 57) rfl ?_
    refine g_bastore X46 hx hZ 2 hby d15_57 (pc' := 58) rfl e46 A44 (by decide) (by decide) (by first | decide | simp) ?_
    intro T47 X47 W47 A47v
    have N47 := Fr.snoc X47 N44 g_l
    have E47_q1 := E44_q1.wr W47
    have F47_q1_label := F44_q1_label.other W47 (Or.inl n_l.symm)
    have F47_q1_numberAt := F44_q1_numberAt.other W47 (Or.inl n_l.symm)
    have K47 := K44.wr W47 (Or.inl (List.mem_of_getElem? (i := 0) rfl))
    have A47 : Arv Z T47.heap bl kl .byte (266 : Int32) [.int u0, .int u1, .int (nar .byte (dg 3 q2)), .int (nar .byte (dg 2 q2)), .int (nar .byte (dg 1 q2)), .int (nar .byte (dg 0 q2)), .int u6, .int u7, .int u8, .int u9, .int u10, .int u11, .int u12] (.int 0) := A47v
    refine g_iloadN X47 hx hby d15_58 (pc' := 59) rfl rfl ?_
    refine g_bipush X47 hx hby d15_59 (pc' := 61) rfl (z := (10 : Int32)) rfl ?_
    refine g_idiv X47 hx hby d15_61 (pc' := 62) rfl (by decide) ?_
    refine g_istoreN X47 hx hby d15_62 (pc' := 63) rfl (l' := #[.val (.ref q1), .val (.int q2), .val (.int (6 : Int32)), .val (.int (dv 4 q2)), .val (.int (2 : Int32))]) rfl ?_
    refine g_iinc X47 hx hby d15_63 (pc' := 66) rfl rfl (l' := #[.val (.ref q1), .val (.int q2), .val (.int (6 : Int32)), .val (.int (dv 4 q2)), .val (.int (1 : Int32))]) rfl ?_
    refine g_goto X47 hx hby d15_66 (by decide) (pc' := 34) (by decide) ?_
    refine g_iload X47 hx hby d15_34 (pc' := 36) rfl rfl ?_
    refine g_aloadN X47 hx hby d15_36 (pc' := 37) rfl rfl rfl ?_
    refine g_get X47 hx hZ hown hby d15_37 (pc' := 40) rfl (w_87 hw) rfl F47_q1_numberAt ?_
    intro T48 X48 e48
    refine g_icmp_lt X48 hx hby d15_40 (by decide) (pc' := 69) (by decide) (pn := 43) rfl (fun _ => ?_) (fun z => absurd z (by decide))
    refine g_iloadN X48 hx hby d15_69 (pc' := 70) rfl rfl ?_
    exact g_retI (Q := (fun v h L => ∃ (t0 t1 t2 t3 t4 t5 t6 t7 t8 t9 t10 : Int32), v = some (.int ((2 : Int32) + (digV q2))) ∧ Fr n0 L ∧ Keep h0 h [bl] ∧ Arv Z h bl kl .byte (266 : Int32) [.int u0, .int u1, .int t0, .int t1, .int t2, .int t3, .int t4, .int t5, .int t6, .int t7, .int t8, .int t9, .int t10] (.int 0) ∧ DIGS 1 q2 [.int u0, .int u1, .int t0, .int t1, .int t2, .int t3, .int t4, .int t5, .int t6, .int t7, .int t8, .int t9, .int t10])) X48 hx hby d15_70 hret hlk (by decide) (by decide) (by rw [e48]; exact ⟨(nar .byte (dg 3 q2)), (nar .byte (dg 2 q2)), (nar .byte (dg 1 q2)), (nar .byte (dg 0 q2)), u6, u7, u8, u9, u10, u11, u12, congrArg (fun z : Int32 => some (Value.int z)) (by rw [own_dig hd4 (by decide) (by decide)]; rfl), N47, K47, A47, own_digs hd4 (by decide) (by decide) (fun i hi => match i, hi with | 0, _ => rfl | 1, _ => rfl | 2, _ => rfl | 3, _ => rfl | (k + 4), h => absurd h (by omega))⟩)
  · refine g_aloadN X0 hx hby d15_0 (pc' := 1) rfl rfl rfl ?_
    refine g_get X0 hx hZ hown hby d15_1 (pc' := 4) rfl (w_87 hw) e0 F2 ?_
    intro T49 X49 e49
    refine g_iconst X49 hx hby d15_4 (pc' := 5) rfl (z := (1 : Int32)) rfl ?_
    refine g_iadd X49 hx hby d15_5 (pc' := 6) rfl ?_
    refine g_eqI (b := (3 : Int32)) (by decide +kernel) ?_
    refine g_istoreN X49 hx hby d15_6 (pc' := 7) rfl (l' := #[.val (.ref q1), .val (.int q2), .val (.int (3 : Int32)), .unset, .unset]) rfl ?_
    refine g_iloadN X49 hx hby d15_7 (pc' := 8) rfl rfl ?_
    refine g_bipush X49 hx hby d15_8 (pc' := 10) rfl (z := (10 : Int32)) rfl ?_
    refine g_idiv X49 hx hby d15_10 (pc' := 11) rfl (by decide) ?_
    refine g_istoreN X49 hx hby d15_11 (pc' := 12) rfl (l' := #[.val (.ref q1), .val (.int q2), .val (.int (3 : Int32)), .val (.int (dv 1 q2)), .unset]) rfl ?_
    refine g_iloadN X49 hx hby d15_12 (pc' := 13) rfl rfl ?_
    refine g_if_le X49 hx hby d15_13 (by decide) (pc' := 27) (by decide) (pn := 16) rfl (fun z => absurd z (fun z => z (own_yes 1 hd5 (by decide) (by decide)))) (fun hc13_50 => ?_)
    refine g_iinc X49 hx hby d15_16 (pc' := 19) rfl rfl (l' := #[.val (.ref q1), .val (.int q2), .val (.int (4 : Int32)), .val (.int (dv 1 q2)), .unset]) rfl ?_
    refine g_iloadN X49 hx hby d15_19 (pc' := 20) rfl rfl ?_
    refine g_bipush X49 hx hby d15_20 (pc' := 22) rfl (z := (10 : Int32)) rfl ?_
    refine g_idiv X49 hx hby d15_22 (pc' := 23) rfl (by decide) ?_
    refine g_istoreN X49 hx hby d15_23 (pc' := 24) rfl (l' := #[.val (.ref q1), .val (.int q2), .val (.int (4 : Int32)), .val (.int (dv 2 q2)), .unset]) rfl ?_
    refine g_goto X49 hx hby d15_24 (by decide) (pc' := 12) (by decide) ?_
    refine g_iloadN X49 hx hby d15_12 (pc' := 13) rfl rfl ?_
    refine g_if_le X49 hx hby d15_13 (by decide) (pc' := 27) (by decide) (pn := 16) rfl (fun z => absurd z (fun z => z (own_yes 2 hd5 (by decide) (by decide)))) (fun hc13_51 => ?_)
    refine g_iinc X49 hx hby d15_16 (pc' := 19) rfl rfl (l' := #[.val (.ref q1), .val (.int q2), .val (.int (5 : Int32)), .val (.int (dv 2 q2)), .unset]) rfl ?_
    refine g_iloadN X49 hx hby d15_19 (pc' := 20) rfl rfl ?_
    refine g_bipush X49 hx hby d15_20 (pc' := 22) rfl (z := (10 : Int32)) rfl ?_
    refine g_idiv X49 hx hby d15_22 (pc' := 23) rfl (by decide) ?_
    refine g_istoreN X49 hx hby d15_23 (pc' := 24) rfl (l' := #[.val (.ref q1), .val (.int q2), .val (.int (5 : Int32)), .val (.int (dv 3 q2)), .unset]) rfl ?_
    refine g_goto X49 hx hby d15_24 (by decide) (pc' := 12) (by decide) ?_
    refine g_iloadN X49 hx hby d15_12 (pc' := 13) rfl rfl ?_
    refine g_if_le X49 hx hby d15_13 (by decide) (pc' := 27) (by decide) (pn := 16) rfl (fun z => absurd z (fun z => z (own_yes 3 hd5 (by decide) (by decide)))) (fun hc13_52 => ?_)
    refine g_iinc X49 hx hby d15_16 (pc' := 19) rfl rfl (l' := #[.val (.ref q1), .val (.int q2), .val (.int (6 : Int32)), .val (.int (dv 3 q2)), .unset]) rfl ?_
    refine g_iloadN X49 hx hby d15_19 (pc' := 20) rfl rfl ?_
    refine g_bipush X49 hx hby d15_20 (pc' := 22) rfl (z := (10 : Int32)) rfl ?_
    refine g_idiv X49 hx hby d15_22 (pc' := 23) rfl (by decide) ?_
    refine g_istoreN X49 hx hby d15_23 (pc' := 24) rfl (l' := #[.val (.ref q1), .val (.int q2), .val (.int (6 : Int32)), .val (.int (dv 4 q2)), .unset]) rfl ?_
    refine g_goto X49 hx hby d15_24 (by decide) (pc' := 12) (by decide) ?_
    refine g_iloadN X49 hx hby d15_12 (pc' := 13) rfl rfl ?_
    refine g_if_le X49 hx hby d15_13 (by decide) (pc' := 27) (by decide) (pn := 16) rfl (fun z => absurd z (fun z => z (own_yes 4 hd5 (by decide) (by decide)))) (fun hc13_53 => ?_)
    refine g_iinc X49 hx hby d15_16 (pc' := 19) rfl rfl (l' := #[.val (.ref q1), .val (.int q2), .val (.int (7 : Int32)), .val (.int (dv 4 q2)), .unset]) rfl ?_
    refine g_iloadN X49 hx hby d15_19 (pc' := 20) rfl rfl ?_
    refine g_bipush X49 hx hby d15_20 (pc' := 22) rfl (z := (10 : Int32)) rfl ?_
    refine g_idiv X49 hx hby d15_22 (pc' := 23) rfl (by decide) ?_
    refine g_istoreN X49 hx hby d15_23 (pc' := 24) rfl (l' := #[.val (.ref q1), .val (.int q2), .val (.int (7 : Int32)), .val (.int (dv 5 q2)), .unset]) rfl ?_
    refine g_goto X49 hx hby d15_24 (by decide) (pc' := 12) (by decide) ?_
    refine g_iloadN X49 hx hby d15_12 (pc' := 13) rfl rfl ?_
    refine g_if_le X49 hx hby d15_13 (by decide) (pc' := 27) (by decide) (pn := 16) rfl (fun hc13_54 => ?_) (fun z => absurd z (own_no hd5))
    refine g_iloadN X49 hx hby d15_27 (pc' := 28) rfl rfl ?_
    refine g_istoreN X49 hx hby d15_28 (pc' := 29) rfl (l' := #[.val (.ref q1), .val (.int q2), .val (.int (7 : Int32)), .val (.int (dv 0 q2)), .unset]) rfl ?_
    refine g_iloadN X49 hx hby d15_29 (pc' := 30) rfl rfl ?_
    refine g_iconst X49 hx hby d15_30 (pc' := 31) rfl (z := (1 : Int32)) rfl ?_
    refine g_isub X49 hx hby d15_31 (pc' := 32) rfl ?_
    refine g_eqI (b := (6 : Int32)) (by decide +kernel) ?_
    refine g_istore X49 hx hby d15_32 (pc' := 34) rfl (l' := #[.val (.ref q1), .val (.int q2), .val (.int (7 : Int32)), .val (.int (dv 0 q2)), .val (.int (6 : Int32))]) rfl ?_
    refine g_iload X49 hx hby d15_34 (pc' := 36) rfl rfl ?_
    refine g_aloadN X49 hx hby d15_36 (pc' := 37) rfl rfl rfl ?_
    refine g_get X49 hx hZ hown hby d15_37 (pc' := 40) rfl (w_87 hw) e49 F2 ?_
    intro T55 X55 e55
    refine g_icmp_lt X55 hx hby d15_40 (by decide) (pc' := 69) (by decide) (pn := 43) rfl (fun z => absurd z (by decide)) (fun _ => ?_)
    refine g_aloadN X55 hx hby d15_43 (pc' := 44) rfl rfl rfl ?_
    refine g_get X55 hx hZ hown hby d15_44 (pc' := 47) rfl (w_38 hw) e55 F1 ?_
    intro T56 X56 e56
    refine g_iload X56 hx hby d15_47 (pc' := 49) rfl rfl ?_
    refine g_bipush X56 hx hby d15_49 (pc' := 51) rfl (z := (48 : Int32)) rfl ?_
    refine g_iloadN X56 hx hby d15_51 (pc' := 52) rfl rfl ?_
    refine g_bipush X56 hx hby d15_52 (pc' := 54) rfl (z := (10 : Int32)) rfl ?_
    refine g_irem X56 hx hby d15_54 (pc' := 55) rfl (by decide) ?_
    refine g_iadd X56 hx hby d15_55 (pc' := 56) rfl ?_
    refine g_i2b X56 hx hby d15_56 (pc' := 57) rfl ?_
    refine g_bastore X56 hx hZ 6 hby d15_57 (pc' := 58) rfl e56 A_l (by decide) (by decide) (by first | decide | simp) ?_
    intro T57 X57 W57 A57v
    have N57 := Fr.snoc X57 N0 g_l
    have E57_q1 := E_a.wr W57
    have F57_q1_label := F1.other W57 (Or.inl n_l.symm)
    have F57_q1_numberAt := F2.other W57 (Or.inl n_l.symm)
    have K57 := (Keep.refl h0 [bl]).wr W57 (Or.inl (List.mem_of_getElem? (i := 0) rfl))
    have A57 : Arv Z T57.heap bl kl .byte (266 : Int32) [.int u0, .int u1, .int u2, .int u3, .int u4, .int u5, .int (nar .byte (dg 0 q2)), .int u7, .int u8, .int u9, .int u10, .int u11, .int u12] (.int 0) := A57v
    refine g_iloadN X57 hx hby d15_58 (pc' := 59) rfl rfl ?_
    refine g_bipush X57 hx hby d15_59 (pc' := 61) rfl (z := (10 : Int32)) rfl ?_
    refine g_idiv X57 hx hby d15_61 (pc' := 62) rfl (by decide) ?_
    refine g_istoreN X57 hx hby d15_62 (pc' := 63) rfl (l' := #[.val (.ref q1), .val (.int q2), .val (.int (7 : Int32)), .val (.int (dv 1 q2)), .val (.int (6 : Int32))]) rfl ?_
    refine g_iinc X57 hx hby d15_63 (pc' := 66) rfl rfl (l' := #[.val (.ref q1), .val (.int q2), .val (.int (7 : Int32)), .val (.int (dv 1 q2)), .val (.int (5 : Int32))]) rfl ?_
    refine g_goto X57 hx hby d15_66 (by decide) (pc' := 34) (by decide) ?_
    refine g_iload X57 hx hby d15_34 (pc' := 36) rfl rfl ?_
    refine g_aloadN X57 hx hby d15_36 (pc' := 37) rfl rfl rfl ?_
    refine g_get X57 hx hZ hown hby d15_37 (pc' := 40) rfl (w_87 hw) rfl F57_q1_numberAt ?_
    intro T58 X58 e58
    refine g_icmp_lt X58 hx hby d15_40 (by decide) (pc' := 69) (by decide) (pn := 43) rfl (fun z => absurd z (by decide)) (fun _ => ?_)
    refine g_aloadN X58 hx hby d15_43 (pc' := 44) rfl rfl rfl ?_
    refine g_get X58 hx hZ hown hby d15_44 (pc' := 47) rfl (w_38 hw) e58 F57_q1_label ?_
    intro T59 X59 e59
    refine g_iload X59 hx hby d15_47 (pc' := 49) rfl rfl ?_
    refine g_bipush X59 hx hby d15_49 (pc' := 51) rfl (z := (48 : Int32)) rfl ?_
    refine g_iloadN X59 hx hby d15_51 (pc' := 52) rfl rfl ?_
    refine g_bipush X59 hx hby d15_52 (pc' := 54) rfl (z := (10 : Int32)) rfl ?_
    refine g_irem X59 hx hby d15_54 (pc' := 55) rfl (by decide) ?_
    refine g_iadd X59 hx hby d15_55 (pc' := 56) rfl ?_
    refine g_i2b X59 hx hby d15_56 (pc' := 57) rfl ?_
    refine g_bastore X59 hx hZ 5 hby d15_57 (pc' := 58) rfl e59 A57 (by decide) (by decide) (by first | decide | simp) ?_
    intro T60 X60 W60 A60v
    have N60 := Fr.snoc X60 N57 g_l
    have E60_q1 := E57_q1.wr W60
    have F60_q1_label := F57_q1_label.other W60 (Or.inl n_l.symm)
    have F60_q1_numberAt := F57_q1_numberAt.other W60 (Or.inl n_l.symm)
    have K60 := K57.wr W60 (Or.inl (List.mem_of_getElem? (i := 0) rfl))
    have A60 : Arv Z T60.heap bl kl .byte (266 : Int32) [.int u0, .int u1, .int u2, .int u3, .int u4, .int (nar .byte (dg 1 q2)), .int (nar .byte (dg 0 q2)), .int u7, .int u8, .int u9, .int u10, .int u11, .int u12] (.int 0) := A60v
    refine g_iloadN X60 hx hby d15_58 (pc' := 59) rfl rfl ?_
    refine g_bipush X60 hx hby d15_59 (pc' := 61) rfl (z := (10 : Int32)) rfl ?_
    refine g_idiv X60 hx hby d15_61 (pc' := 62) rfl (by decide) ?_
    refine g_istoreN X60 hx hby d15_62 (pc' := 63) rfl (l' := #[.val (.ref q1), .val (.int q2), .val (.int (7 : Int32)), .val (.int (dv 2 q2)), .val (.int (5 : Int32))]) rfl ?_
    refine g_iinc X60 hx hby d15_63 (pc' := 66) rfl rfl (l' := #[.val (.ref q1), .val (.int q2), .val (.int (7 : Int32)), .val (.int (dv 2 q2)), .val (.int (4 : Int32))]) rfl ?_
    refine g_goto X60 hx hby d15_66 (by decide) (pc' := 34) (by decide) ?_
    refine g_iload X60 hx hby d15_34 (pc' := 36) rfl rfl ?_
    refine g_aloadN X60 hx hby d15_36 (pc' := 37) rfl rfl rfl ?_
    refine g_get X60 hx hZ hown hby d15_37 (pc' := 40) rfl (w_87 hw) rfl F60_q1_numberAt ?_
    intro T61 X61 e61
    refine g_icmp_lt X61 hx hby d15_40 (by decide) (pc' := 69) (by decide) (pn := 43) rfl (fun z => absurd z (by decide)) (fun _ => ?_)
    refine g_aloadN X61 hx hby d15_43 (pc' := 44) rfl rfl rfl ?_
    refine g_get X61 hx hZ hown hby d15_44 (pc' := 47) rfl (w_38 hw) e61 F60_q1_label ?_
    intro T62 X62 e62
    refine g_iload X62 hx hby d15_47 (pc' := 49) rfl rfl ?_
    refine g_bipush X62 hx hby d15_49 (pc' := 51) rfl (z := (48 : Int32)) rfl ?_
    refine g_iloadN X62 hx hby d15_51 (pc' := 52) rfl rfl ?_
    refine g_bipush X62 hx hby d15_52 (pc' := 54) rfl (z := (10 : Int32)) rfl ?_
    refine g_irem X62 hx hby d15_54 (pc' := 55) rfl (by decide) ?_
    refine g_iadd X62 hx hby d15_55 (pc' := 56) rfl ?_
    refine g_i2b X62 hx hby d15_56 (pc' := 57) rfl ?_
    refine g_bastore X62 hx hZ 4 hby d15_57 (pc' := 58) rfl e62 A60 (by decide) (by decide) (by first | decide | simp) ?_
    intro T63 X63 W63 A63v
    have N63 := Fr.snoc X63 N60 g_l
    have E63_q1 := E60_q1.wr W63
    have F63_q1_label := F60_q1_label.other W63 (Or.inl n_l.symm)
    have F63_q1_numberAt := F60_q1_numberAt.other W63 (Or.inl n_l.symm)
    have K63 := K60.wr W63 (Or.inl (List.mem_of_getElem? (i := 0) rfl))
    have A63 : Arv Z T63.heap bl kl .byte (266 : Int32) [.int u0, .int u1, .int u2, .int u3, .int (nar .byte (dg 2 q2)), .int (nar .byte (dg 1 q2)), .int (nar .byte (dg 0 q2)), .int u7, .int u8, .int u9, .int u10, .int u11, .int u12] (.int 0) := A63v
    refine g_iloadN X63 hx hby d15_58 (pc' := 59) rfl rfl ?_
    refine g_bipush X63 hx hby d15_59 (pc' := 61) rfl (z := (10 : Int32)) rfl ?_
    refine g_idiv X63 hx hby d15_61 (pc' := 62) rfl (by decide) ?_
    refine g_istoreN X63 hx hby d15_62 (pc' := 63) rfl (l' := #[.val (.ref q1), .val (.int q2), .val (.int (7 : Int32)), .val (.int (dv 3 q2)), .val (.int (4 : Int32))]) rfl ?_
    refine g_iinc X63 hx hby d15_63 (pc' := 66) rfl rfl (l' := #[.val (.ref q1), .val (.int q2), .val (.int (7 : Int32)), .val (.int (dv 3 q2)), .val (.int (3 : Int32))]) rfl ?_
    refine g_goto X63 hx hby d15_66 (by decide) (pc' := 34) (by decide) ?_
    refine g_iload X63 hx hby d15_34 (pc' := 36) rfl rfl ?_
    refine g_aloadN X63 hx hby d15_36 (pc' := 37) rfl rfl rfl ?_
    refine g_get X63 hx hZ hown hby d15_37 (pc' := 40) rfl (w_87 hw) rfl F63_q1_numberAt ?_
    intro T64 X64 e64
    refine g_icmp_lt X64 hx hby d15_40 (by decide) (pc' := 69) (by decide) (pn := 43) rfl (fun z => absurd z (by decide)) (fun _ => ?_)
    refine g_aloadN X64 hx hby d15_43 (pc' := 44) rfl rfl rfl ?_
    refine g_get X64 hx hZ hown hby d15_44 (pc' := 47) rfl (w_38 hw) e64 F63_q1_label ?_
    intro T65 X65 e65
    refine g_iload X65 hx hby d15_47 (pc' := 49) rfl rfl ?_
    refine g_bipush X65 hx hby d15_49 (pc' := 51) rfl (z := (48 : Int32)) rfl ?_
    refine g_iloadN X65 hx hby d15_51 (pc' := 52) rfl rfl ?_
    refine g_bipush X65 hx hby d15_52 (pc' := 54) rfl (z := (10 : Int32)) rfl ?_
    refine g_irem X65 hx hby d15_54 (pc' := 55) rfl (by decide) ?_
    refine g_iadd X65 hx hby d15_55 (pc' := 56) rfl ?_
    refine g_i2b X65 hx hby d15_56 (pc' := 57) rfl ?_
    refine g_bastore X65 hx hZ 3 hby d15_57 (pc' := 58) rfl e65 A63 (by decide) (by decide) (by first | decide | simp) ?_
    intro T66 X66 W66 A66v
    have N66 := Fr.snoc X66 N63 g_l
    have E66_q1 := E63_q1.wr W66
    have F66_q1_label := F63_q1_label.other W66 (Or.inl n_l.symm)
    have F66_q1_numberAt := F63_q1_numberAt.other W66 (Or.inl n_l.symm)
    have K66 := K63.wr W66 (Or.inl (List.mem_of_getElem? (i := 0) rfl))
    have A66 : Arv Z T66.heap bl kl .byte (266 : Int32) [.int u0, .int u1, .int u2, .int (nar .byte (dg 3 q2)), .int (nar .byte (dg 2 q2)), .int (nar .byte (dg 1 q2)), .int (nar .byte (dg 0 q2)), .int u7, .int u8, .int u9, .int u10, .int u11, .int u12] (.int 0) := A66v
    refine g_iloadN X66 hx hby d15_58 (pc' := 59) rfl rfl ?_
    refine g_bipush X66 hx hby d15_59 (pc' := 61) rfl (z := (10 : Int32)) rfl ?_
    refine g_idiv X66 hx hby d15_61 (pc' := 62) rfl (by decide) ?_
    refine g_istoreN X66 hx hby d15_62 (pc' := 63) rfl (l' := #[.val (.ref q1), .val (.int q2), .val (.int (7 : Int32)), .val (.int (dv 4 q2)), .val (.int (3 : Int32))]) rfl ?_
    refine g_iinc X66 hx hby d15_63 (pc' := 66) rfl rfl (l' := #[.val (.ref q1), .val (.int q2), .val (.int (7 : Int32)), .val (.int (dv 4 q2)), .val (.int (2 : Int32))]) rfl ?_
    refine g_goto X66 hx hby d15_66 (by decide) (pc' := 34) (by decide) ?_
    refine g_iload X66 hx hby d15_34 (pc' := 36) rfl rfl ?_
    refine g_aloadN X66 hx hby d15_36 (pc' := 37) rfl rfl rfl ?_
    refine g_get X66 hx hZ hown hby d15_37 (pc' := 40) rfl (w_87 hw) rfl F66_q1_numberAt ?_
    intro T67 X67 e67
    refine g_icmp_lt X67 hx hby d15_40 (by decide) (pc' := 69) (by decide) (pn := 43) rfl (fun z => absurd z (by decide)) (fun _ => ?_)
    refine g_aloadN X67 hx hby d15_43 (pc' := 44) rfl rfl rfl ?_
    refine g_get X67 hx hZ hown hby d15_44 (pc' := 47) rfl (w_38 hw) e67 F66_q1_label ?_
    intro T68 X68 e68
    refine g_iload X68 hx hby d15_47 (pc' := 49) rfl rfl ?_
    refine g_bipush X68 hx hby d15_49 (pc' := 51) rfl (z := (48 : Int32)) rfl ?_
    refine g_iloadN X68 hx hby d15_51 (pc' := 52) rfl rfl ?_
    refine g_bipush X68 hx hby d15_52 (pc' := 54) rfl (z := (10 : Int32)) rfl ?_
    refine g_irem X68 hx hby d15_54 (pc' := 55) rfl (by decide) ?_
    refine g_iadd X68 hx hby d15_55 (pc' := 56) rfl ?_
    refine g_i2b X68 hx hby d15_56 (pc' := 57) rfl ?_
    refine g_bastore X68 hx hZ 2 hby d15_57 (pc' := 58) rfl e68 A66 (by decide) (by decide) (by first | decide | simp) ?_
    intro T69 X69 W69 A69v
    have N69 := Fr.snoc X69 N66 g_l
    have E69_q1 := E66_q1.wr W69
    have F69_q1_label := F66_q1_label.other W69 (Or.inl n_l.symm)
    have F69_q1_numberAt := F66_q1_numberAt.other W69 (Or.inl n_l.symm)
    have K69 := K66.wr W69 (Or.inl (List.mem_of_getElem? (i := 0) rfl))
    have A69 : Arv Z T69.heap bl kl .byte (266 : Int32) [.int u0, .int u1, .int (nar .byte (dg 4 q2)), .int (nar .byte (dg 3 q2)), .int (nar .byte (dg 2 q2)), .int (nar .byte (dg 1 q2)), .int (nar .byte (dg 0 q2)), .int u7, .int u8, .int u9, .int u10, .int u11, .int u12] (.int 0) := A69v
    refine g_iloadN X69 hx hby d15_58 (pc' := 59) rfl rfl ?_
    refine g_bipush X69 hx hby d15_59 (pc' := 61) rfl (z := (10 : Int32)) rfl ?_
    refine g_idiv X69 hx hby d15_61 (pc' := 62) rfl (by decide) ?_
    refine g_istoreN X69 hx hby d15_62 (pc' := 63) rfl (l' := #[.val (.ref q1), .val (.int q2), .val (.int (7 : Int32)), .val (.int (dv 5 q2)), .val (.int (2 : Int32))]) rfl ?_
    refine g_iinc X69 hx hby d15_63 (pc' := 66) rfl rfl (l' := #[.val (.ref q1), .val (.int q2), .val (.int (7 : Int32)), .val (.int (dv 5 q2)), .val (.int (1 : Int32))]) rfl ?_
    refine g_goto X69 hx hby d15_66 (by decide) (pc' := 34) (by decide) ?_
    refine g_iload X69 hx hby d15_34 (pc' := 36) rfl rfl ?_
    refine g_aloadN X69 hx hby d15_36 (pc' := 37) rfl rfl rfl ?_
    refine g_get X69 hx hZ hown hby d15_37 (pc' := 40) rfl (w_87 hw) rfl F69_q1_numberAt ?_
    intro T70 X70 e70
    refine g_icmp_lt X70 hx hby d15_40 (by decide) (pc' := 69) (by decide) (pn := 43) rfl (fun _ => ?_) (fun z => absurd z (by decide))
    refine g_iloadN X70 hx hby d15_69 (pc' := 70) rfl rfl ?_
    exact g_retI (Q := (fun v h L => ∃ (t0 t1 t2 t3 t4 t5 t6 t7 t8 t9 t10 : Int32), v = some (.int ((2 : Int32) + (digV q2))) ∧ Fr n0 L ∧ Keep h0 h [bl] ∧ Arv Z h bl kl .byte (266 : Int32) [.int u0, .int u1, .int t0, .int t1, .int t2, .int t3, .int t4, .int t5, .int t6, .int t7, .int t8, .int t9, .int t10] (.int 0) ∧ DIGS 1 q2 [.int u0, .int u1, .int t0, .int t1, .int t2, .int t3, .int t4, .int t5, .int t6, .int t7, .int t8, .int t9, .int t10])) X70 hx hby d15_70 hret hlk (by decide) (by decide) (by rw [e70]; exact ⟨(nar .byte (dg 4 q2)), (nar .byte (dg 3 q2)), (nar .byte (dg 2 q2)), (nar .byte (dg 1 q2)), (nar .byte (dg 0 q2)), u7, u8, u9, u10, u11, u12, congrArg (fun z : Int32 => some (Value.int z)) (by rw [own_dig hd5 (by decide) (by decide)]; rfl), N69, K69, A69, own_digs hd5 (by decide) (by decide) (fun i hi => match i, hi with | 0, _ => rfl | 1, _ => rfl | 2, _ => rfl | 3, _ => rfl | 4, _ => rfl | (k + 5), h => absurd h (by omega))⟩)
  · refine g_aloadN X0 hx hby d15_0 (pc' := 1) rfl rfl rfl ?_
    refine g_get X0 hx hZ hown hby d15_1 (pc' := 4) rfl (w_87 hw) e0 F2 ?_
    intro T71 X71 e71
    refine g_iconst X71 hx hby d15_4 (pc' := 5) rfl (z := (1 : Int32)) rfl ?_
    refine g_iadd X71 hx hby d15_5 (pc' := 6) rfl ?_
    refine g_eqI (b := (3 : Int32)) (by decide +kernel) ?_
    refine g_istoreN X71 hx hby d15_6 (pc' := 7) rfl (l' := #[.val (.ref q1), .val (.int q2), .val (.int (3 : Int32)), .unset, .unset]) rfl ?_
    refine g_iloadN X71 hx hby d15_7 (pc' := 8) rfl rfl ?_
    refine g_bipush X71 hx hby d15_8 (pc' := 10) rfl (z := (10 : Int32)) rfl ?_
    refine g_idiv X71 hx hby d15_10 (pc' := 11) rfl (by decide) ?_
    refine g_istoreN X71 hx hby d15_11 (pc' := 12) rfl (l' := #[.val (.ref q1), .val (.int q2), .val (.int (3 : Int32)), .val (.int (dv 1 q2)), .unset]) rfl ?_
    refine g_iloadN X71 hx hby d15_12 (pc' := 13) rfl rfl ?_
    refine g_if_le X71 hx hby d15_13 (by decide) (pc' := 27) (by decide) (pn := 16) rfl (fun z => absurd z (fun z => z (own_yes 1 hd6 (by decide) (by decide)))) (fun hc13_72 => ?_)
    refine g_iinc X71 hx hby d15_16 (pc' := 19) rfl rfl (l' := #[.val (.ref q1), .val (.int q2), .val (.int (4 : Int32)), .val (.int (dv 1 q2)), .unset]) rfl ?_
    refine g_iloadN X71 hx hby d15_19 (pc' := 20) rfl rfl ?_
    refine g_bipush X71 hx hby d15_20 (pc' := 22) rfl (z := (10 : Int32)) rfl ?_
    refine g_idiv X71 hx hby d15_22 (pc' := 23) rfl (by decide) ?_
    refine g_istoreN X71 hx hby d15_23 (pc' := 24) rfl (l' := #[.val (.ref q1), .val (.int q2), .val (.int (4 : Int32)), .val (.int (dv 2 q2)), .unset]) rfl ?_
    refine g_goto X71 hx hby d15_24 (by decide) (pc' := 12) (by decide) ?_
    refine g_iloadN X71 hx hby d15_12 (pc' := 13) rfl rfl ?_
    refine g_if_le X71 hx hby d15_13 (by decide) (pc' := 27) (by decide) (pn := 16) rfl (fun z => absurd z (fun z => z (own_yes 2 hd6 (by decide) (by decide)))) (fun hc13_73 => ?_)
    refine g_iinc X71 hx hby d15_16 (pc' := 19) rfl rfl (l' := #[.val (.ref q1), .val (.int q2), .val (.int (5 : Int32)), .val (.int (dv 2 q2)), .unset]) rfl ?_
    refine g_iloadN X71 hx hby d15_19 (pc' := 20) rfl rfl ?_
    refine g_bipush X71 hx hby d15_20 (pc' := 22) rfl (z := (10 : Int32)) rfl ?_
    refine g_idiv X71 hx hby d15_22 (pc' := 23) rfl (by decide) ?_
    refine g_istoreN X71 hx hby d15_23 (pc' := 24) rfl (l' := #[.val (.ref q1), .val (.int q2), .val (.int (5 : Int32)), .val (.int (dv 3 q2)), .unset]) rfl ?_
    refine g_goto X71 hx hby d15_24 (by decide) (pc' := 12) (by decide) ?_
    refine g_iloadN X71 hx hby d15_12 (pc' := 13) rfl rfl ?_
    refine g_if_le X71 hx hby d15_13 (by decide) (pc' := 27) (by decide) (pn := 16) rfl (fun z => absurd z (fun z => z (own_yes 3 hd6 (by decide) (by decide)))) (fun hc13_74 => ?_)
    refine g_iinc X71 hx hby d15_16 (pc' := 19) rfl rfl (l' := #[.val (.ref q1), .val (.int q2), .val (.int (6 : Int32)), .val (.int (dv 3 q2)), .unset]) rfl ?_
    refine g_iloadN X71 hx hby d15_19 (pc' := 20) rfl rfl ?_
    refine g_bipush X71 hx hby d15_20 (pc' := 22) rfl (z := (10 : Int32)) rfl ?_
    refine g_idiv X71 hx hby d15_22 (pc' := 23) rfl (by decide) ?_
    refine g_istoreN X71 hx hby d15_23 (pc' := 24) rfl (l' := #[.val (.ref q1), .val (.int q2), .val (.int (6 : Int32)), .val (.int (dv 4 q2)), .unset]) rfl ?_
    refine g_goto X71 hx hby d15_24 (by decide) (pc' := 12) (by decide) ?_
    refine g_iloadN X71 hx hby d15_12 (pc' := 13) rfl rfl ?_
    refine g_if_le X71 hx hby d15_13 (by decide) (pc' := 27) (by decide) (pn := 16) rfl (fun z => absurd z (fun z => z (own_yes 4 hd6 (by decide) (by decide)))) (fun hc13_75 => ?_)
    refine g_iinc X71 hx hby d15_16 (pc' := 19) rfl rfl (l' := #[.val (.ref q1), .val (.int q2), .val (.int (7 : Int32)), .val (.int (dv 4 q2)), .unset]) rfl ?_
    refine g_iloadN X71 hx hby d15_19 (pc' := 20) rfl rfl ?_
    refine g_bipush X71 hx hby d15_20 (pc' := 22) rfl (z := (10 : Int32)) rfl ?_
    refine g_idiv X71 hx hby d15_22 (pc' := 23) rfl (by decide) ?_
    refine g_istoreN X71 hx hby d15_23 (pc' := 24) rfl (l' := #[.val (.ref q1), .val (.int q2), .val (.int (7 : Int32)), .val (.int (dv 5 q2)), .unset]) rfl ?_
    refine g_goto X71 hx hby d15_24 (by decide) (pc' := 12) (by decide) ?_
    refine g_iloadN X71 hx hby d15_12 (pc' := 13) rfl rfl ?_
    refine g_if_le X71 hx hby d15_13 (by decide) (pc' := 27) (by decide) (pn := 16) rfl (fun z => absurd z (fun z => z (own_yes 5 hd6 (by decide) (by decide)))) (fun hc13_76 => ?_)
    refine g_iinc X71 hx hby d15_16 (pc' := 19) rfl rfl (l' := #[.val (.ref q1), .val (.int q2), .val (.int (8 : Int32)), .val (.int (dv 5 q2)), .unset]) rfl ?_
    refine g_iloadN X71 hx hby d15_19 (pc' := 20) rfl rfl ?_
    refine g_bipush X71 hx hby d15_20 (pc' := 22) rfl (z := (10 : Int32)) rfl ?_
    refine g_idiv X71 hx hby d15_22 (pc' := 23) rfl (by decide) ?_
    refine g_istoreN X71 hx hby d15_23 (pc' := 24) rfl (l' := #[.val (.ref q1), .val (.int q2), .val (.int (8 : Int32)), .val (.int (dv 6 q2)), .unset]) rfl ?_
    refine g_goto X71 hx hby d15_24 (by decide) (pc' := 12) (by decide) ?_
    refine g_iloadN X71 hx hby d15_12 (pc' := 13) rfl rfl ?_
    refine g_if_le X71 hx hby d15_13 (by decide) (pc' := 27) (by decide) (pn := 16) rfl (fun hc13_77 => ?_) (fun z => absurd z (own_no hd6))
    refine g_iloadN X71 hx hby d15_27 (pc' := 28) rfl rfl ?_
    refine g_istoreN X71 hx hby d15_28 (pc' := 29) rfl (l' := #[.val (.ref q1), .val (.int q2), .val (.int (8 : Int32)), .val (.int (dv 0 q2)), .unset]) rfl ?_
    refine g_iloadN X71 hx hby d15_29 (pc' := 30) rfl rfl ?_
    refine g_iconst X71 hx hby d15_30 (pc' := 31) rfl (z := (1 : Int32)) rfl ?_
    refine g_isub X71 hx hby d15_31 (pc' := 32) rfl ?_
    refine g_eqI (b := (7 : Int32)) (by decide +kernel) ?_
    refine g_istore X71 hx hby d15_32 (pc' := 34) rfl (l' := #[.val (.ref q1), .val (.int q2), .val (.int (8 : Int32)), .val (.int (dv 0 q2)), .val (.int (7 : Int32))]) rfl ?_
    refine g_iload X71 hx hby d15_34 (pc' := 36) rfl rfl ?_
    refine g_aloadN X71 hx hby d15_36 (pc' := 37) rfl rfl rfl ?_
    refine g_get X71 hx hZ hown hby d15_37 (pc' := 40) rfl (w_87 hw) e71 F2 ?_
    intro T78 X78 e78
    refine g_icmp_lt X78 hx hby d15_40 (by decide) (pc' := 69) (by decide) (pn := 43) rfl (fun z => absurd z (by decide)) (fun _ => ?_)
    refine g_aloadN X78 hx hby d15_43 (pc' := 44) rfl rfl rfl ?_
    refine g_get X78 hx hZ hown hby d15_44 (pc' := 47) rfl (w_38 hw) e78 F1 ?_
    intro T79 X79 e79
    refine g_iload X79 hx hby d15_47 (pc' := 49) rfl rfl ?_
    refine g_bipush X79 hx hby d15_49 (pc' := 51) rfl (z := (48 : Int32)) rfl ?_
    refine g_iloadN X79 hx hby d15_51 (pc' := 52) rfl rfl ?_
    refine g_bipush X79 hx hby d15_52 (pc' := 54) rfl (z := (10 : Int32)) rfl ?_
    refine g_irem X79 hx hby d15_54 (pc' := 55) rfl (by decide) ?_
    refine g_iadd X79 hx hby d15_55 (pc' := 56) rfl ?_
    refine g_i2b X79 hx hby d15_56 (pc' := 57) rfl ?_
    refine g_bastore X79 hx hZ 7 hby d15_57 (pc' := 58) rfl e79 A_l (by decide) (by decide) (by first | decide | simp) ?_
    intro T80 X80 W80 A80v
    have N80 := Fr.snoc X80 N0 g_l
    have E80_q1 := E_a.wr W80
    have F80_q1_label := F1.other W80 (Or.inl n_l.symm)
    have F80_q1_numberAt := F2.other W80 (Or.inl n_l.symm)
    have K80 := (Keep.refl h0 [bl]).wr W80 (Or.inl (List.mem_of_getElem? (i := 0) rfl))
    have A80 : Arv Z T80.heap bl kl .byte (266 : Int32) [.int u0, .int u1, .int u2, .int u3, .int u4, .int u5, .int u6, .int (nar .byte (dg 0 q2)), .int u8, .int u9, .int u10, .int u11, .int u12] (.int 0) := A80v
    refine g_iloadN X80 hx hby d15_58 (pc' := 59) rfl rfl ?_
    refine g_bipush X80 hx hby d15_59 (pc' := 61) rfl (z := (10 : Int32)) rfl ?_
    refine g_idiv X80 hx hby d15_61 (pc' := 62) rfl (by decide) ?_
    refine g_istoreN X80 hx hby d15_62 (pc' := 63) rfl (l' := #[.val (.ref q1), .val (.int q2), .val (.int (8 : Int32)), .val (.int (dv 1 q2)), .val (.int (7 : Int32))]) rfl ?_
    refine g_iinc X80 hx hby d15_63 (pc' := 66) rfl rfl (l' := #[.val (.ref q1), .val (.int q2), .val (.int (8 : Int32)), .val (.int (dv 1 q2)), .val (.int (6 : Int32))]) rfl ?_
    refine g_goto X80 hx hby d15_66 (by decide) (pc' := 34) (by decide) ?_
    refine g_iload X80 hx hby d15_34 (pc' := 36) rfl rfl ?_
    refine g_aloadN X80 hx hby d15_36 (pc' := 37) rfl rfl rfl ?_
    refine g_get X80 hx hZ hown hby d15_37 (pc' := 40) rfl (w_87 hw) rfl F80_q1_numberAt ?_
    intro T81 X81 e81
    refine g_icmp_lt X81 hx hby d15_40 (by decide) (pc' := 69) (by decide) (pn := 43) rfl (fun z => absurd z (by decide)) (fun _ => ?_)
    refine g_aloadN X81 hx hby d15_43 (pc' := 44) rfl rfl rfl ?_
    refine g_get X81 hx hZ hown hby d15_44 (pc' := 47) rfl (w_38 hw) e81 F80_q1_label ?_
    intro T82 X82 e82
    refine g_iload X82 hx hby d15_47 (pc' := 49) rfl rfl ?_
    refine g_bipush X82 hx hby d15_49 (pc' := 51) rfl (z := (48 : Int32)) rfl ?_
    refine g_iloadN X82 hx hby d15_51 (pc' := 52) rfl rfl ?_
    refine g_bipush X82 hx hby d15_52 (pc' := 54) rfl (z := (10 : Int32)) rfl ?_
    refine g_irem X82 hx hby d15_54 (pc' := 55) rfl (by decide) ?_
    refine g_iadd X82 hx hby d15_55 (pc' := 56) rfl ?_
    refine g_i2b X82 hx hby d15_56 (pc' := 57) rfl ?_
    refine g_bastore X82 hx hZ 6 hby d15_57 (pc' := 58) rfl e82 A80 (by decide) (by decide) (by first | decide | simp) ?_
    intro T83 X83 W83 A83v
    have N83 := Fr.snoc X83 N80 g_l
    have E83_q1 := E80_q1.wr W83
    have F83_q1_label := F80_q1_label.other W83 (Or.inl n_l.symm)
    have F83_q1_numberAt := F80_q1_numberAt.other W83 (Or.inl n_l.symm)
    have K83 := K80.wr W83 (Or.inl (List.mem_of_getElem? (i := 0) rfl))
    have A83 : Arv Z T83.heap bl kl .byte (266 : Int32) [.int u0, .int u1, .int u2, .int u3, .int u4, .int u5, .int (nar .byte (dg 1 q2)), .int (nar .byte (dg 0 q2)), .int u8, .int u9, .int u10, .int u11, .int u12] (.int 0) := A83v
    refine g_iloadN X83 hx hby d15_58 (pc' := 59) rfl rfl ?_
    refine g_bipush X83 hx hby d15_59 (pc' := 61) rfl (z := (10 : Int32)) rfl ?_
    refine g_idiv X83 hx hby d15_61 (pc' := 62) rfl (by decide) ?_
    refine g_istoreN X83 hx hby d15_62 (pc' := 63) rfl (l' := #[.val (.ref q1), .val (.int q2), .val (.int (8 : Int32)), .val (.int (dv 2 q2)), .val (.int (6 : Int32))]) rfl ?_
    refine g_iinc X83 hx hby d15_63 (pc' := 66) rfl rfl (l' := #[.val (.ref q1), .val (.int q2), .val (.int (8 : Int32)), .val (.int (dv 2 q2)), .val (.int (5 : Int32))]) rfl ?_
    refine g_goto X83 hx hby d15_66 (by decide) (pc' := 34) (by decide) ?_
    refine g_iload X83 hx hby d15_34 (pc' := 36) rfl rfl ?_
    refine g_aloadN X83 hx hby d15_36 (pc' := 37) rfl rfl rfl ?_
    refine g_get X83 hx hZ hown hby d15_37 (pc' := 40) rfl (w_87 hw) rfl F83_q1_numberAt ?_
    intro T84 X84 e84
    refine g_icmp_lt X84 hx hby d15_40 (by decide) (pc' := 69) (by decide) (pn := 43) rfl (fun z => absurd z (by decide)) (fun _ => ?_)
    refine g_aloadN X84 hx hby d15_43 (pc' := 44) rfl rfl rfl ?_
    refine g_get X84 hx hZ hown hby d15_44 (pc' := 47) rfl (w_38 hw) e84 F83_q1_label ?_
    intro T85 X85 e85
    refine g_iload X85 hx hby d15_47 (pc' := 49) rfl rfl ?_
    refine g_bipush X85 hx hby d15_49 (pc' := 51) rfl (z := (48 : Int32)) rfl ?_
    refine g_iloadN X85 hx hby d15_51 (pc' := 52) rfl rfl ?_
    refine g_bipush X85 hx hby d15_52 (pc' := 54) rfl (z := (10 : Int32)) rfl ?_
    refine g_irem X85 hx hby d15_54 (pc' := 55) rfl (by decide) ?_
    refine g_iadd X85 hx hby d15_55 (pc' := 56) rfl ?_
    refine g_i2b X85 hx hby d15_56 (pc' := 57) rfl ?_
    refine g_bastore X85 hx hZ 5 hby d15_57 (pc' := 58) rfl e85 A83 (by decide) (by decide) (by first | decide | simp) ?_
    intro T86 X86 W86 A86v
    have N86 := Fr.snoc X86 N83 g_l
    have E86_q1 := E83_q1.wr W86
    have F86_q1_label := F83_q1_label.other W86 (Or.inl n_l.symm)
    have F86_q1_numberAt := F83_q1_numberAt.other W86 (Or.inl n_l.symm)
    have K86 := K83.wr W86 (Or.inl (List.mem_of_getElem? (i := 0) rfl))
    have A86 : Arv Z T86.heap bl kl .byte (266 : Int32) [.int u0, .int u1, .int u2, .int u3, .int u4, .int (nar .byte (dg 2 q2)), .int (nar .byte (dg 1 q2)), .int (nar .byte (dg 0 q2)), .int u8, .int u9, .int u10, .int u11, .int u12] (.int 0) := A86v
    refine g_iloadN X86 hx hby d15_58 (pc' := 59) rfl rfl ?_
    refine g_bipush X86 hx hby d15_59 (pc' := 61) rfl (z := (10 : Int32)) rfl ?_
    refine g_idiv X86 hx hby d15_61 (pc' := 62) rfl (by decide) ?_
    refine g_istoreN X86 hx hby d15_62 (pc' := 63) rfl (l' := #[.val (.ref q1), .val (.int q2), .val (.int (8 : Int32)), .val (.int (dv 3 q2)), .val (.int (5 : Int32))]) rfl ?_
    refine g_iinc X86 hx hby d15_63 (pc' := 66) rfl rfl (l' := #[.val (.ref q1), .val (.int q2), .val (.int (8 : Int32)), .val (.int (dv 3 q2)), .val (.int (4 : Int32))]) rfl ?_
    refine g_goto X86 hx hby d15_66 (by decide) (pc' := 34) (by decide) ?_
    refine g_iload X86 hx hby d15_34 (pc' := 36) rfl rfl ?_
    refine g_aloadN X86 hx hby d15_36 (pc' := 37) rfl rfl rfl ?_
    refine g_get X86 hx hZ hown hby d15_37 (pc' := 40) rfl (w_87 hw) rfl F86_q1_numberAt ?_
    intro T87 X87 e87
    refine g_icmp_lt X87 hx hby d15_40 (by decide) (pc' := 69) (by decide) (pn := 43) rfl (fun z => absurd z (by decide)) (fun _ => ?_)
    refine g_aloadN X87 hx hby d15_43 (pc' := 44) rfl rfl rfl ?_
    refine g_get X87 hx hZ hown hby d15_44 (pc' := 47) rfl (w_38 hw) e87 F86_q1_label ?_
    intro T88 X88 e88
    refine g_iload X88 hx hby d15_47 (pc' := 49) rfl rfl ?_
    refine g_bipush X88 hx hby d15_49 (pc' := 51) rfl (z := (48 : Int32)) rfl ?_
    refine g_iloadN X88 hx hby d15_51 (pc' := 52) rfl rfl ?_
    refine g_bipush X88 hx hby d15_52 (pc' := 54) rfl (z := (10 : Int32)) rfl ?_
    refine g_irem X88 hx hby d15_54 (pc' := 55) rfl (by decide) ?_
    refine g_iadd X88 hx hby d15_55 (pc' := 56) rfl ?_
    refine g_i2b X88 hx hby d15_56 (pc' := 57) rfl ?_
    refine g_bastore X88 hx hZ 4 hby d15_57 (pc' := 58) rfl e88 A86 (by decide) (by decide) (by first | decide | simp) ?_
    intro T89 X89 W89 A89v
    have N89 := Fr.snoc X89 N86 g_l
    have E89_q1 := E86_q1.wr W89
    have F89_q1_label := F86_q1_label.other W89 (Or.inl n_l.symm)
    have F89_q1_numberAt := F86_q1_numberAt.other W89 (Or.inl n_l.symm)
    have K89 := K86.wr W89 (Or.inl (List.mem_of_getElem? (i := 0) rfl))
    have A89 : Arv Z T89.heap bl kl .byte (266 : Int32) [.int u0, .int u1, .int u2, .int u3, .int (nar .byte (dg 3 q2)), .int (nar .byte (dg 2 q2)), .int (nar .byte (dg 1 q2)), .int (nar .byte (dg 0 q2)), .int u8, .int u9, .int u10, .int u11, .int u12] (.int 0) := A89v
    refine g_iloadN X89 hx hby d15_58 (pc' := 59) rfl rfl ?_
    refine g_bipush X89 hx hby d15_59 (pc' := 61) rfl (z := (10 : Int32)) rfl ?_
    refine g_idiv X89 hx hby d15_61 (pc' := 62) rfl (by decide) ?_
    refine g_istoreN X89 hx hby d15_62 (pc' := 63) rfl (l' := #[.val (.ref q1), .val (.int q2), .val (.int (8 : Int32)), .val (.int (dv 4 q2)), .val (.int (4 : Int32))]) rfl ?_
    refine g_iinc X89 hx hby d15_63 (pc' := 66) rfl rfl (l' := #[.val (.ref q1), .val (.int q2), .val (.int (8 : Int32)), .val (.int (dv 4 q2)), .val (.int (3 : Int32))]) rfl ?_
    refine g_goto X89 hx hby d15_66 (by decide) (pc' := 34) (by decide) ?_
    refine g_iload X89 hx hby d15_34 (pc' := 36) rfl rfl ?_
    refine g_aloadN X89 hx hby d15_36 (pc' := 37) rfl rfl rfl ?_
    refine g_get X89 hx hZ hown hby d15_37 (pc' := 40) rfl (w_87 hw) rfl F89_q1_numberAt ?_
    intro T90 X90 e90
    refine g_icmp_lt X90 hx hby d15_40 (by decide) (pc' := 69) (by decide) (pn := 43) rfl (fun z => absurd z (by decide)) (fun _ => ?_)
    refine g_aloadN X90 hx hby d15_43 (pc' := 44) rfl rfl rfl ?_
    refine g_get X90 hx hZ hown hby d15_44 (pc' := 47) rfl (w_38 hw) e90 F89_q1_label ?_
    intro T91 X91 e91
    refine g_iload X91 hx hby d15_47 (pc' := 49) rfl rfl ?_
    refine g_bipush X91 hx hby d15_49 (pc' := 51) rfl (z := (48 : Int32)) rfl ?_
    refine g_iloadN X91 hx hby d15_51 (pc' := 52) rfl rfl ?_
    refine g_bipush X91 hx hby d15_52 (pc' := 54) rfl (z := (10 : Int32)) rfl ?_
    refine g_irem X91 hx hby d15_54 (pc' := 55) rfl (by decide) ?_
    refine g_iadd X91 hx hby d15_55 (pc' := 56) rfl ?_
    refine g_i2b X91 hx hby d15_56 (pc' := 57) rfl ?_
    refine g_bastore X91 hx hZ 3 hby d15_57 (pc' := 58) rfl e91 A89 (by decide) (by decide) (by first | decide | simp) ?_
    intro T92 X92 W92 A92v
    have N92 := Fr.snoc X92 N89 g_l
    have E92_q1 := E89_q1.wr W92
    have F92_q1_label := F89_q1_label.other W92 (Or.inl n_l.symm)
    have F92_q1_numberAt := F89_q1_numberAt.other W92 (Or.inl n_l.symm)
    have K92 := K89.wr W92 (Or.inl (List.mem_of_getElem? (i := 0) rfl))
    have A92 : Arv Z T92.heap bl kl .byte (266 : Int32) [.int u0, .int u1, .int u2, .int (nar .byte (dg 4 q2)), .int (nar .byte (dg 3 q2)), .int (nar .byte (dg 2 q2)), .int (nar .byte (dg 1 q2)), .int (nar .byte (dg 0 q2)), .int u8, .int u9, .int u10, .int u11, .int u12] (.int 0) := A92v
    refine g_iloadN X92 hx hby d15_58 (pc' := 59) rfl rfl ?_
    refine g_bipush X92 hx hby d15_59 (pc' := 61) rfl (z := (10 : Int32)) rfl ?_
    refine g_idiv X92 hx hby d15_61 (pc' := 62) rfl (by decide) ?_
    refine g_istoreN X92 hx hby d15_62 (pc' := 63) rfl (l' := #[.val (.ref q1), .val (.int q2), .val (.int (8 : Int32)), .val (.int (dv 5 q2)), .val (.int (3 : Int32))]) rfl ?_
    refine g_iinc X92 hx hby d15_63 (pc' := 66) rfl rfl (l' := #[.val (.ref q1), .val (.int q2), .val (.int (8 : Int32)), .val (.int (dv 5 q2)), .val (.int (2 : Int32))]) rfl ?_
    refine g_goto X92 hx hby d15_66 (by decide) (pc' := 34) (by decide) ?_
    refine g_iload X92 hx hby d15_34 (pc' := 36) rfl rfl ?_
    refine g_aloadN X92 hx hby d15_36 (pc' := 37) rfl rfl rfl ?_
    refine g_get X92 hx hZ hown hby d15_37 (pc' := 40) rfl (w_87 hw) rfl F92_q1_numberAt ?_
    intro T93 X93 e93
    refine g_icmp_lt X93 hx hby d15_40 (by decide) (pc' := 69) (by decide) (pn := 43) rfl (fun z => absurd z (by decide)) (fun _ => ?_)
    refine g_aloadN X93 hx hby d15_43 (pc' := 44) rfl rfl rfl ?_
    refine g_get X93 hx hZ hown hby d15_44 (pc' := 47) rfl (w_38 hw) e93 F92_q1_label ?_
    intro T94 X94 e94
    refine g_iload X94 hx hby d15_47 (pc' := 49) rfl rfl ?_
    refine g_bipush X94 hx hby d15_49 (pc' := 51) rfl (z := (48 : Int32)) rfl ?_
    refine g_iloadN X94 hx hby d15_51 (pc' := 52) rfl rfl ?_
    refine g_bipush X94 hx hby d15_52 (pc' := 54) rfl (z := (10 : Int32)) rfl ?_
    refine g_irem X94 hx hby d15_54 (pc' := 55) rfl (by decide) ?_
    refine g_iadd X94 hx hby d15_55 (pc' := 56) rfl ?_
    refine g_i2b X94 hx hby d15_56 (pc' := 57) rfl ?_
    refine g_bastore X94 hx hZ 2 hby d15_57 (pc' := 58) rfl e94 A92 (by decide) (by decide) (by first | decide | simp) ?_
    intro T95 X95 W95 A95v
    have N95 := Fr.snoc X95 N92 g_l
    have E95_q1 := E92_q1.wr W95
    have F95_q1_label := F92_q1_label.other W95 (Or.inl n_l.symm)
    have F95_q1_numberAt := F92_q1_numberAt.other W95 (Or.inl n_l.symm)
    have K95 := K92.wr W95 (Or.inl (List.mem_of_getElem? (i := 0) rfl))
    have A95 : Arv Z T95.heap bl kl .byte (266 : Int32) [.int u0, .int u1, .int (nar .byte (dg 5 q2)), .int (nar .byte (dg 4 q2)), .int (nar .byte (dg 3 q2)), .int (nar .byte (dg 2 q2)), .int (nar .byte (dg 1 q2)), .int (nar .byte (dg 0 q2)), .int u8, .int u9, .int u10, .int u11, .int u12] (.int 0) := A95v
    refine g_iloadN X95 hx hby d15_58 (pc' := 59) rfl rfl ?_
    refine g_bipush X95 hx hby d15_59 (pc' := 61) rfl (z := (10 : Int32)) rfl ?_
    refine g_idiv X95 hx hby d15_61 (pc' := 62) rfl (by decide) ?_
    refine g_istoreN X95 hx hby d15_62 (pc' := 63) rfl (l' := #[.val (.ref q1), .val (.int q2), .val (.int (8 : Int32)), .val (.int (dv 6 q2)), .val (.int (2 : Int32))]) rfl ?_
    refine g_iinc X95 hx hby d15_63 (pc' := 66) rfl rfl (l' := #[.val (.ref q1), .val (.int q2), .val (.int (8 : Int32)), .val (.int (dv 6 q2)), .val (.int (1 : Int32))]) rfl ?_
    refine g_goto X95 hx hby d15_66 (by decide) (pc' := 34) (by decide) ?_
    refine g_iload X95 hx hby d15_34 (pc' := 36) rfl rfl ?_
    refine g_aloadN X95 hx hby d15_36 (pc' := 37) rfl rfl rfl ?_
    refine g_get X95 hx hZ hown hby d15_37 (pc' := 40) rfl (w_87 hw) rfl F95_q1_numberAt ?_
    intro T96 X96 e96
    refine g_icmp_lt X96 hx hby d15_40 (by decide) (pc' := 69) (by decide) (pn := 43) rfl (fun _ => ?_) (fun z => absurd z (by decide))
    refine g_iloadN X96 hx hby d15_69 (pc' := 70) rfl rfl ?_
    exact g_retI (Q := (fun v h L => ∃ (t0 t1 t2 t3 t4 t5 t6 t7 t8 t9 t10 : Int32), v = some (.int ((2 : Int32) + (digV q2))) ∧ Fr n0 L ∧ Keep h0 h [bl] ∧ Arv Z h bl kl .byte (266 : Int32) [.int u0, .int u1, .int t0, .int t1, .int t2, .int t3, .int t4, .int t5, .int t6, .int t7, .int t8, .int t9, .int t10] (.int 0) ∧ DIGS 1 q2 [.int u0, .int u1, .int t0, .int t1, .int t2, .int t3, .int t4, .int t5, .int t6, .int t7, .int t8, .int t9, .int t10])) X96 hx hby d15_70 hret hlk (by decide) (by decide) (by rw [e96]; exact ⟨(nar .byte (dg 5 q2)), (nar .byte (dg 4 q2)), (nar .byte (dg 3 q2)), (nar .byte (dg 2 q2)), (nar .byte (dg 1 q2)), (nar .byte (dg 0 q2)), u8, u9, u10, u11, u12, congrArg (fun z : Int32 => some (Value.int z)) (by rw [own_dig hd6 (by decide) (by decide)]; rfl), N95, K95, A95, own_digs hd6 (by decide) (by decide) (fun i hi => match i, hi with | 0, _ => rfl | 1, _ => rfl | 2, _ => rfl | 3, _ => rfl | 4, _ => rfl | 5, _ => rfl | (k + 6), h => absurd h (by omega))⟩)
  · refine g_aloadN X0 hx hby d15_0 (pc' := 1) rfl rfl rfl ?_
    refine g_get X0 hx hZ hown hby d15_1 (pc' := 4) rfl (w_87 hw) e0 F2 ?_
    intro T97 X97 e97
    refine g_iconst X97 hx hby d15_4 (pc' := 5) rfl (z := (1 : Int32)) rfl ?_
    refine g_iadd X97 hx hby d15_5 (pc' := 6) rfl ?_
    refine g_eqI (b := (3 : Int32)) (by decide +kernel) ?_
    refine g_istoreN X97 hx hby d15_6 (pc' := 7) rfl (l' := #[.val (.ref q1), .val (.int q2), .val (.int (3 : Int32)), .unset, .unset]) rfl ?_
    refine g_iloadN X97 hx hby d15_7 (pc' := 8) rfl rfl ?_
    refine g_bipush X97 hx hby d15_8 (pc' := 10) rfl (z := (10 : Int32)) rfl ?_
    refine g_idiv X97 hx hby d15_10 (pc' := 11) rfl (by decide) ?_
    refine g_istoreN X97 hx hby d15_11 (pc' := 12) rfl (l' := #[.val (.ref q1), .val (.int q2), .val (.int (3 : Int32)), .val (.int (dv 1 q2)), .unset]) rfl ?_
    refine g_iloadN X97 hx hby d15_12 (pc' := 13) rfl rfl ?_
    refine g_if_le X97 hx hby d15_13 (by decide) (pc' := 27) (by decide) (pn := 16) rfl (fun z => absurd z (fun z => z (own_yes 1 hd7 (by decide) (by decide)))) (fun hc13_98 => ?_)
    refine g_iinc X97 hx hby d15_16 (pc' := 19) rfl rfl (l' := #[.val (.ref q1), .val (.int q2), .val (.int (4 : Int32)), .val (.int (dv 1 q2)), .unset]) rfl ?_
    refine g_iloadN X97 hx hby d15_19 (pc' := 20) rfl rfl ?_
    refine g_bipush X97 hx hby d15_20 (pc' := 22) rfl (z := (10 : Int32)) rfl ?_
    refine g_idiv X97 hx hby d15_22 (pc' := 23) rfl (by decide) ?_
    refine g_istoreN X97 hx hby d15_23 (pc' := 24) rfl (l' := #[.val (.ref q1), .val (.int q2), .val (.int (4 : Int32)), .val (.int (dv 2 q2)), .unset]) rfl ?_
    refine g_goto X97 hx hby d15_24 (by decide) (pc' := 12) (by decide) ?_
    refine g_iloadN X97 hx hby d15_12 (pc' := 13) rfl rfl ?_
    refine g_if_le X97 hx hby d15_13 (by decide) (pc' := 27) (by decide) (pn := 16) rfl (fun z => absurd z (fun z => z (own_yes 2 hd7 (by decide) (by decide)))) (fun hc13_99 => ?_)
    refine g_iinc X97 hx hby d15_16 (pc' := 19) rfl rfl (l' := #[.val (.ref q1), .val (.int q2), .val (.int (5 : Int32)), .val (.int (dv 2 q2)), .unset]) rfl ?_
    refine g_iloadN X97 hx hby d15_19 (pc' := 20) rfl rfl ?_
    refine g_bipush X97 hx hby d15_20 (pc' := 22) rfl (z := (10 : Int32)) rfl ?_
    refine g_idiv X97 hx hby d15_22 (pc' := 23) rfl (by decide) ?_
    refine g_istoreN X97 hx hby d15_23 (pc' := 24) rfl (l' := #[.val (.ref q1), .val (.int q2), .val (.int (5 : Int32)), .val (.int (dv 3 q2)), .unset]) rfl ?_
    refine g_goto X97 hx hby d15_24 (by decide) (pc' := 12) (by decide) ?_
    refine g_iloadN X97 hx hby d15_12 (pc' := 13) rfl rfl ?_
    refine g_if_le X97 hx hby d15_13 (by decide) (pc' := 27) (by decide) (pn := 16) rfl (fun z => absurd z (fun z => z (own_yes 3 hd7 (by decide) (by decide)))) (fun hc13_100 => ?_)
    refine g_iinc X97 hx hby d15_16 (pc' := 19) rfl rfl (l' := #[.val (.ref q1), .val (.int q2), .val (.int (6 : Int32)), .val (.int (dv 3 q2)), .unset]) rfl ?_
    refine g_iloadN X97 hx hby d15_19 (pc' := 20) rfl rfl ?_
    refine g_bipush X97 hx hby d15_20 (pc' := 22) rfl (z := (10 : Int32)) rfl ?_
    refine g_idiv X97 hx hby d15_22 (pc' := 23) rfl (by decide) ?_
    refine g_istoreN X97 hx hby d15_23 (pc' := 24) rfl (l' := #[.val (.ref q1), .val (.int q2), .val (.int (6 : Int32)), .val (.int (dv 4 q2)), .unset]) rfl ?_
    refine g_goto X97 hx hby d15_24 (by decide) (pc' := 12) (by decide) ?_
    refine g_iloadN X97 hx hby d15_12 (pc' := 13) rfl rfl ?_
    refine g_if_le X97 hx hby d15_13 (by decide) (pc' := 27) (by decide) (pn := 16) rfl (fun z => absurd z (fun z => z (own_yes 4 hd7 (by decide) (by decide)))) (fun hc13_101 => ?_)
    refine g_iinc X97 hx hby d15_16 (pc' := 19) rfl rfl (l' := #[.val (.ref q1), .val (.int q2), .val (.int (7 : Int32)), .val (.int (dv 4 q2)), .unset]) rfl ?_
    refine g_iloadN X97 hx hby d15_19 (pc' := 20) rfl rfl ?_
    refine g_bipush X97 hx hby d15_20 (pc' := 22) rfl (z := (10 : Int32)) rfl ?_
    refine g_idiv X97 hx hby d15_22 (pc' := 23) rfl (by decide) ?_
    refine g_istoreN X97 hx hby d15_23 (pc' := 24) rfl (l' := #[.val (.ref q1), .val (.int q2), .val (.int (7 : Int32)), .val (.int (dv 5 q2)), .unset]) rfl ?_
    refine g_goto X97 hx hby d15_24 (by decide) (pc' := 12) (by decide) ?_
    refine g_iloadN X97 hx hby d15_12 (pc' := 13) rfl rfl ?_
    refine g_if_le X97 hx hby d15_13 (by decide) (pc' := 27) (by decide) (pn := 16) rfl (fun z => absurd z (fun z => z (own_yes 5 hd7 (by decide) (by decide)))) (fun hc13_102 => ?_)
    refine g_iinc X97 hx hby d15_16 (pc' := 19) rfl rfl (l' := #[.val (.ref q1), .val (.int q2), .val (.int (8 : Int32)), .val (.int (dv 5 q2)), .unset]) rfl ?_
    refine g_iloadN X97 hx hby d15_19 (pc' := 20) rfl rfl ?_
    refine g_bipush X97 hx hby d15_20 (pc' := 22) rfl (z := (10 : Int32)) rfl ?_
    refine g_idiv X97 hx hby d15_22 (pc' := 23) rfl (by decide) ?_
    refine g_istoreN X97 hx hby d15_23 (pc' := 24) rfl (l' := #[.val (.ref q1), .val (.int q2), .val (.int (8 : Int32)), .val (.int (dv 6 q2)), .unset]) rfl ?_
    refine g_goto X97 hx hby d15_24 (by decide) (pc' := 12) (by decide) ?_
    refine g_iloadN X97 hx hby d15_12 (pc' := 13) rfl rfl ?_
    refine g_if_le X97 hx hby d15_13 (by decide) (pc' := 27) (by decide) (pn := 16) rfl (fun z => absurd z (fun z => z (own_yes 6 hd7 (by decide) (by decide)))) (fun hc13_103 => ?_)
    refine g_iinc X97 hx hby d15_16 (pc' := 19) rfl rfl (l' := #[.val (.ref q1), .val (.int q2), .val (.int (9 : Int32)), .val (.int (dv 6 q2)), .unset]) rfl ?_
    refine g_iloadN X97 hx hby d15_19 (pc' := 20) rfl rfl ?_
    refine g_bipush X97 hx hby d15_20 (pc' := 22) rfl (z := (10 : Int32)) rfl ?_
    refine g_idiv X97 hx hby d15_22 (pc' := 23) rfl (by decide) ?_
    refine g_istoreN X97 hx hby d15_23 (pc' := 24) rfl (l' := #[.val (.ref q1), .val (.int q2), .val (.int (9 : Int32)), .val (.int (dv 7 q2)), .unset]) rfl ?_
    refine g_goto X97 hx hby d15_24 (by decide) (pc' := 12) (by decide) ?_
    refine g_iloadN X97 hx hby d15_12 (pc' := 13) rfl rfl ?_
    refine g_if_le X97 hx hby d15_13 (by decide) (pc' := 27) (by decide) (pn := 16) rfl (fun hc13_104 => ?_) (fun z => absurd z (own_no hd7))
    refine g_iloadN X97 hx hby d15_27 (pc' := 28) rfl rfl ?_
    refine g_istoreN X97 hx hby d15_28 (pc' := 29) rfl (l' := #[.val (.ref q1), .val (.int q2), .val (.int (9 : Int32)), .val (.int (dv 0 q2)), .unset]) rfl ?_
    refine g_iloadN X97 hx hby d15_29 (pc' := 30) rfl rfl ?_
    refine g_iconst X97 hx hby d15_30 (pc' := 31) rfl (z := (1 : Int32)) rfl ?_
    refine g_isub X97 hx hby d15_31 (pc' := 32) rfl ?_
    refine g_eqI (b := (8 : Int32)) (by decide +kernel) ?_
    refine g_istore X97 hx hby d15_32 (pc' := 34) rfl (l' := #[.val (.ref q1), .val (.int q2), .val (.int (9 : Int32)), .val (.int (dv 0 q2)), .val (.int (8 : Int32))]) rfl ?_
    refine g_iload X97 hx hby d15_34 (pc' := 36) rfl rfl ?_
    refine g_aloadN X97 hx hby d15_36 (pc' := 37) rfl rfl rfl ?_
    refine g_get X97 hx hZ hown hby d15_37 (pc' := 40) rfl (w_87 hw) e97 F2 ?_
    intro T105 X105 e105
    refine g_icmp_lt X105 hx hby d15_40 (by decide) (pc' := 69) (by decide) (pn := 43) rfl (fun z => absurd z (by decide)) (fun _ => ?_)
    refine g_aloadN X105 hx hby d15_43 (pc' := 44) rfl rfl rfl ?_
    refine g_get X105 hx hZ hown hby d15_44 (pc' := 47) rfl (w_38 hw) e105 F1 ?_
    intro T106 X106 e106
    refine g_iload X106 hx hby d15_47 (pc' := 49) rfl rfl ?_
    refine g_bipush X106 hx hby d15_49 (pc' := 51) rfl (z := (48 : Int32)) rfl ?_
    refine g_iloadN X106 hx hby d15_51 (pc' := 52) rfl rfl ?_
    refine g_bipush X106 hx hby d15_52 (pc' := 54) rfl (z := (10 : Int32)) rfl ?_
    refine g_irem X106 hx hby d15_54 (pc' := 55) rfl (by decide) ?_
    refine g_iadd X106 hx hby d15_55 (pc' := 56) rfl ?_
    refine g_i2b X106 hx hby d15_56 (pc' := 57) rfl ?_
    refine g_bastore X106 hx hZ 8 hby d15_57 (pc' := 58) rfl e106 A_l (by decide) (by decide) (by first | decide | simp) ?_
    intro T107 X107 W107 A107v
    have N107 := Fr.snoc X107 N0 g_l
    have E107_q1 := E_a.wr W107
    have F107_q1_label := F1.other W107 (Or.inl n_l.symm)
    have F107_q1_numberAt := F2.other W107 (Or.inl n_l.symm)
    have K107 := (Keep.refl h0 [bl]).wr W107 (Or.inl (List.mem_of_getElem? (i := 0) rfl))
    have A107 : Arv Z T107.heap bl kl .byte (266 : Int32) [.int u0, .int u1, .int u2, .int u3, .int u4, .int u5, .int u6, .int u7, .int (nar .byte (dg 0 q2)), .int u9, .int u10, .int u11, .int u12] (.int 0) := A107v
    refine g_iloadN X107 hx hby d15_58 (pc' := 59) rfl rfl ?_
    refine g_bipush X107 hx hby d15_59 (pc' := 61) rfl (z := (10 : Int32)) rfl ?_
    refine g_idiv X107 hx hby d15_61 (pc' := 62) rfl (by decide) ?_
    refine g_istoreN X107 hx hby d15_62 (pc' := 63) rfl (l' := #[.val (.ref q1), .val (.int q2), .val (.int (9 : Int32)), .val (.int (dv 1 q2)), .val (.int (8 : Int32))]) rfl ?_
    refine g_iinc X107 hx hby d15_63 (pc' := 66) rfl rfl (l' := #[.val (.ref q1), .val (.int q2), .val (.int (9 : Int32)), .val (.int (dv 1 q2)), .val (.int (7 : Int32))]) rfl ?_
    refine g_goto X107 hx hby d15_66 (by decide) (pc' := 34) (by decide) ?_
    refine g_iload X107 hx hby d15_34 (pc' := 36) rfl rfl ?_
    refine g_aloadN X107 hx hby d15_36 (pc' := 37) rfl rfl rfl ?_
    refine g_get X107 hx hZ hown hby d15_37 (pc' := 40) rfl (w_87 hw) rfl F107_q1_numberAt ?_
    intro T108 X108 e108
    refine g_icmp_lt X108 hx hby d15_40 (by decide) (pc' := 69) (by decide) (pn := 43) rfl (fun z => absurd z (by decide)) (fun _ => ?_)
    refine g_aloadN X108 hx hby d15_43 (pc' := 44) rfl rfl rfl ?_
    refine g_get X108 hx hZ hown hby d15_44 (pc' := 47) rfl (w_38 hw) e108 F107_q1_label ?_
    intro T109 X109 e109
    refine g_iload X109 hx hby d15_47 (pc' := 49) rfl rfl ?_
    refine g_bipush X109 hx hby d15_49 (pc' := 51) rfl (z := (48 : Int32)) rfl ?_
    refine g_iloadN X109 hx hby d15_51 (pc' := 52) rfl rfl ?_
    refine g_bipush X109 hx hby d15_52 (pc' := 54) rfl (z := (10 : Int32)) rfl ?_
    refine g_irem X109 hx hby d15_54 (pc' := 55) rfl (by decide) ?_
    refine g_iadd X109 hx hby d15_55 (pc' := 56) rfl ?_
    refine g_i2b X109 hx hby d15_56 (pc' := 57) rfl ?_
    refine g_bastore X109 hx hZ 7 hby d15_57 (pc' := 58) rfl e109 A107 (by decide) (by decide) (by first | decide | simp) ?_
    intro T110 X110 W110 A110v
    have N110 := Fr.snoc X110 N107 g_l
    have E110_q1 := E107_q1.wr W110
    have F110_q1_label := F107_q1_label.other W110 (Or.inl n_l.symm)
    have F110_q1_numberAt := F107_q1_numberAt.other W110 (Or.inl n_l.symm)
    have K110 := K107.wr W110 (Or.inl (List.mem_of_getElem? (i := 0) rfl))
    have A110 : Arv Z T110.heap bl kl .byte (266 : Int32) [.int u0, .int u1, .int u2, .int u3, .int u4, .int u5, .int u6, .int (nar .byte (dg 1 q2)), .int (nar .byte (dg 0 q2)), .int u9, .int u10, .int u11, .int u12] (.int 0) := A110v
    refine g_iloadN X110 hx hby d15_58 (pc' := 59) rfl rfl ?_
    refine g_bipush X110 hx hby d15_59 (pc' := 61) rfl (z := (10 : Int32)) rfl ?_
    refine g_idiv X110 hx hby d15_61 (pc' := 62) rfl (by decide) ?_
    refine g_istoreN X110 hx hby d15_62 (pc' := 63) rfl (l' := #[.val (.ref q1), .val (.int q2), .val (.int (9 : Int32)), .val (.int (dv 2 q2)), .val (.int (7 : Int32))]) rfl ?_
    refine g_iinc X110 hx hby d15_63 (pc' := 66) rfl rfl (l' := #[.val (.ref q1), .val (.int q2), .val (.int (9 : Int32)), .val (.int (dv 2 q2)), .val (.int (6 : Int32))]) rfl ?_
    refine g_goto X110 hx hby d15_66 (by decide) (pc' := 34) (by decide) ?_
    refine g_iload X110 hx hby d15_34 (pc' := 36) rfl rfl ?_
    refine g_aloadN X110 hx hby d15_36 (pc' := 37) rfl rfl rfl ?_
    refine g_get X110 hx hZ hown hby d15_37 (pc' := 40) rfl (w_87 hw) rfl F110_q1_numberAt ?_
    intro T111 X111 e111
    refine g_icmp_lt X111 hx hby d15_40 (by decide) (pc' := 69) (by decide) (pn := 43) rfl (fun z => absurd z (by decide)) (fun _ => ?_)
    refine g_aloadN X111 hx hby d15_43 (pc' := 44) rfl rfl rfl ?_
    refine g_get X111 hx hZ hown hby d15_44 (pc' := 47) rfl (w_38 hw) e111 F110_q1_label ?_
    intro T112 X112 e112
    refine g_iload X112 hx hby d15_47 (pc' := 49) rfl rfl ?_
    refine g_bipush X112 hx hby d15_49 (pc' := 51) rfl (z := (48 : Int32)) rfl ?_
    refine g_iloadN X112 hx hby d15_51 (pc' := 52) rfl rfl ?_
    refine g_bipush X112 hx hby d15_52 (pc' := 54) rfl (z := (10 : Int32)) rfl ?_
    refine g_irem X112 hx hby d15_54 (pc' := 55) rfl (by decide) ?_
    refine g_iadd X112 hx hby d15_55 (pc' := 56) rfl ?_
    refine g_i2b X112 hx hby d15_56 (pc' := 57) rfl ?_
    refine g_bastore X112 hx hZ 6 hby d15_57 (pc' := 58) rfl e112 A110 (by decide) (by decide) (by first | decide | simp) ?_
    intro T113 X113 W113 A113v
    have N113 := Fr.snoc X113 N110 g_l
    have E113_q1 := E110_q1.wr W113
    have F113_q1_label := F110_q1_label.other W113 (Or.inl n_l.symm)
    have F113_q1_numberAt := F110_q1_numberAt.other W113 (Or.inl n_l.symm)
    have K113 := K110.wr W113 (Or.inl (List.mem_of_getElem? (i := 0) rfl))
    have A113 : Arv Z T113.heap bl kl .byte (266 : Int32) [.int u0, .int u1, .int u2, .int u3, .int u4, .int u5, .int (nar .byte (dg 2 q2)), .int (nar .byte (dg 1 q2)), .int (nar .byte (dg 0 q2)), .int u9, .int u10, .int u11, .int u12] (.int 0) := A113v
    refine g_iloadN X113 hx hby d15_58 (pc' := 59) rfl rfl ?_
    refine g_bipush X113 hx hby d15_59 (pc' := 61) rfl (z := (10 : Int32)) rfl ?_
    refine g_idiv X113 hx hby d15_61 (pc' := 62) rfl (by decide) ?_
    refine g_istoreN X113 hx hby d15_62 (pc' := 63) rfl (l' := #[.val (.ref q1), .val (.int q2), .val (.int (9 : Int32)), .val (.int (dv 3 q2)), .val (.int (6 : Int32))]) rfl ?_
    refine g_iinc X113 hx hby d15_63 (pc' := 66) rfl rfl (l' := #[.val (.ref q1), .val (.int q2), .val (.int (9 : Int32)), .val (.int (dv 3 q2)), .val (.int (5 : Int32))]) rfl ?_
    refine g_goto X113 hx hby d15_66 (by decide) (pc' := 34) (by decide) ?_
    refine g_iload X113 hx hby d15_34 (pc' := 36) rfl rfl ?_
    refine g_aloadN X113 hx hby d15_36 (pc' := 37) rfl rfl rfl ?_
    refine g_get X113 hx hZ hown hby d15_37 (pc' := 40) rfl (w_87 hw) rfl F113_q1_numberAt ?_
    intro T114 X114 e114
    refine g_icmp_lt X114 hx hby d15_40 (by decide) (pc' := 69) (by decide) (pn := 43) rfl (fun z => absurd z (by decide)) (fun _ => ?_)
    refine g_aloadN X114 hx hby d15_43 (pc' := 44) rfl rfl rfl ?_
    refine g_get X114 hx hZ hown hby d15_44 (pc' := 47) rfl (w_38 hw) e114 F113_q1_label ?_
    intro T115 X115 e115
    refine g_iload X115 hx hby d15_47 (pc' := 49) rfl rfl ?_
    refine g_bipush X115 hx hby d15_49 (pc' := 51) rfl (z := (48 : Int32)) rfl ?_
    refine g_iloadN X115 hx hby d15_51 (pc' := 52) rfl rfl ?_
    refine g_bipush X115 hx hby d15_52 (pc' := 54) rfl (z := (10 : Int32)) rfl ?_
    refine g_irem X115 hx hby d15_54 (pc' := 55) rfl (by decide) ?_
    refine g_iadd X115 hx hby d15_55 (pc' := 56) rfl ?_
    refine g_i2b X115 hx hby d15_56 (pc' := 57) rfl ?_
    refine g_bastore X115 hx hZ 5 hby d15_57 (pc' := 58) rfl e115 A113 (by decide) (by decide) (by first | decide | simp) ?_
    intro T116 X116 W116 A116v
    have N116 := Fr.snoc X116 N113 g_l
    have E116_q1 := E113_q1.wr W116
    have F116_q1_label := F113_q1_label.other W116 (Or.inl n_l.symm)
    have F116_q1_numberAt := F113_q1_numberAt.other W116 (Or.inl n_l.symm)
    have K116 := K113.wr W116 (Or.inl (List.mem_of_getElem? (i := 0) rfl))
    have A116 : Arv Z T116.heap bl kl .byte (266 : Int32) [.int u0, .int u1, .int u2, .int u3, .int u4, .int (nar .byte (dg 3 q2)), .int (nar .byte (dg 2 q2)), .int (nar .byte (dg 1 q2)), .int (nar .byte (dg 0 q2)), .int u9, .int u10, .int u11, .int u12] (.int 0) := A116v
    refine g_iloadN X116 hx hby d15_58 (pc' := 59) rfl rfl ?_
    refine g_bipush X116 hx hby d15_59 (pc' := 61) rfl (z := (10 : Int32)) rfl ?_
    refine g_idiv X116 hx hby d15_61 (pc' := 62) rfl (by decide) ?_
    refine g_istoreN X116 hx hby d15_62 (pc' := 63) rfl (l' := #[.val (.ref q1), .val (.int q2), .val (.int (9 : Int32)), .val (.int (dv 4 q2)), .val (.int (5 : Int32))]) rfl ?_
    refine g_iinc X116 hx hby d15_63 (pc' := 66) rfl rfl (l' := #[.val (.ref q1), .val (.int q2), .val (.int (9 : Int32)), .val (.int (dv 4 q2)), .val (.int (4 : Int32))]) rfl ?_
    refine g_goto X116 hx hby d15_66 (by decide) (pc' := 34) (by decide) ?_
    refine g_iload X116 hx hby d15_34 (pc' := 36) rfl rfl ?_
    refine g_aloadN X116 hx hby d15_36 (pc' := 37) rfl rfl rfl ?_
    refine g_get X116 hx hZ hown hby d15_37 (pc' := 40) rfl (w_87 hw) rfl F116_q1_numberAt ?_
    intro T117 X117 e117
    refine g_icmp_lt X117 hx hby d15_40 (by decide) (pc' := 69) (by decide) (pn := 43) rfl (fun z => absurd z (by decide)) (fun _ => ?_)
    refine g_aloadN X117 hx hby d15_43 (pc' := 44) rfl rfl rfl ?_
    refine g_get X117 hx hZ hown hby d15_44 (pc' := 47) rfl (w_38 hw) e117 F116_q1_label ?_
    intro T118 X118 e118
    refine g_iload X118 hx hby d15_47 (pc' := 49) rfl rfl ?_
    refine g_bipush X118 hx hby d15_49 (pc' := 51) rfl (z := (48 : Int32)) rfl ?_
    refine g_iloadN X118 hx hby d15_51 (pc' := 52) rfl rfl ?_
    refine g_bipush X118 hx hby d15_52 (pc' := 54) rfl (z := (10 : Int32)) rfl ?_
    refine g_irem X118 hx hby d15_54 (pc' := 55) rfl (by decide) ?_
    refine g_iadd X118 hx hby d15_55 (pc' := 56) rfl ?_
    refine g_i2b X118 hx hby d15_56 (pc' := 57) rfl ?_
    refine g_bastore X118 hx hZ 4 hby d15_57 (pc' := 58) rfl e118 A116 (by decide) (by decide) (by first | decide | simp) ?_
    intro T119 X119 W119 A119v
    have N119 := Fr.snoc X119 N116 g_l
    have E119_q1 := E116_q1.wr W119
    have F119_q1_label := F116_q1_label.other W119 (Or.inl n_l.symm)
    have F119_q1_numberAt := F116_q1_numberAt.other W119 (Or.inl n_l.symm)
    have K119 := K116.wr W119 (Or.inl (List.mem_of_getElem? (i := 0) rfl))
    have A119 : Arv Z T119.heap bl kl .byte (266 : Int32) [.int u0, .int u1, .int u2, .int u3, .int (nar .byte (dg 4 q2)), .int (nar .byte (dg 3 q2)), .int (nar .byte (dg 2 q2)), .int (nar .byte (dg 1 q2)), .int (nar .byte (dg 0 q2)), .int u9, .int u10, .int u11, .int u12] (.int 0) := A119v
    refine g_iloadN X119 hx hby d15_58 (pc' := 59) rfl rfl ?_
    refine g_bipush X119 hx hby d15_59 (pc' := 61) rfl (z := (10 : Int32)) rfl ?_
    refine g_idiv X119 hx hby d15_61 (pc' := 62) rfl (by decide) ?_
    refine g_istoreN X119 hx hby d15_62 (pc' := 63) rfl (l' := #[.val (.ref q1), .val (.int q2), .val (.int (9 : Int32)), .val (.int (dv 5 q2)), .val (.int (4 : Int32))]) rfl ?_
    refine g_iinc X119 hx hby d15_63 (pc' := 66) rfl rfl (l' := #[.val (.ref q1), .val (.int q2), .val (.int (9 : Int32)), .val (.int (dv 5 q2)), .val (.int (3 : Int32))]) rfl ?_
    refine g_goto X119 hx hby d15_66 (by decide) (pc' := 34) (by decide) ?_
    refine g_iload X119 hx hby d15_34 (pc' := 36) rfl rfl ?_
    refine g_aloadN X119 hx hby d15_36 (pc' := 37) rfl rfl rfl ?_
    refine g_get X119 hx hZ hown hby d15_37 (pc' := 40) rfl (w_87 hw) rfl F119_q1_numberAt ?_
    intro T120 X120 e120
    refine g_icmp_lt X120 hx hby d15_40 (by decide) (pc' := 69) (by decide) (pn := 43) rfl (fun z => absurd z (by decide)) (fun _ => ?_)
    refine g_aloadN X120 hx hby d15_43 (pc' := 44) rfl rfl rfl ?_
    refine g_get X120 hx hZ hown hby d15_44 (pc' := 47) rfl (w_38 hw) e120 F119_q1_label ?_
    intro T121 X121 e121
    refine g_iload X121 hx hby d15_47 (pc' := 49) rfl rfl ?_
    refine g_bipush X121 hx hby d15_49 (pc' := 51) rfl (z := (48 : Int32)) rfl ?_
    refine g_iloadN X121 hx hby d15_51 (pc' := 52) rfl rfl ?_
    refine g_bipush X121 hx hby d15_52 (pc' := 54) rfl (z := (10 : Int32)) rfl ?_
    refine g_irem X121 hx hby d15_54 (pc' := 55) rfl (by decide) ?_
    refine g_iadd X121 hx hby d15_55 (pc' := 56) rfl ?_
    refine g_i2b X121 hx hby d15_56 (pc' := 57) rfl ?_
    refine g_bastore X121 hx hZ 3 hby d15_57 (pc' := 58) rfl e121 A119 (by decide) (by decide) (by first | decide | simp) ?_
    intro T122 X122 W122 A122v
    have N122 := Fr.snoc X122 N119 g_l
    have E122_q1 := E119_q1.wr W122
    have F122_q1_label := F119_q1_label.other W122 (Or.inl n_l.symm)
    have F122_q1_numberAt := F119_q1_numberAt.other W122 (Or.inl n_l.symm)
    have K122 := K119.wr W122 (Or.inl (List.mem_of_getElem? (i := 0) rfl))
    have A122 : Arv Z T122.heap bl kl .byte (266 : Int32) [.int u0, .int u1, .int u2, .int (nar .byte (dg 5 q2)), .int (nar .byte (dg 4 q2)), .int (nar .byte (dg 3 q2)), .int (nar .byte (dg 2 q2)), .int (nar .byte (dg 1 q2)), .int (nar .byte (dg 0 q2)), .int u9, .int u10, .int u11, .int u12] (.int 0) := A122v
    refine g_iloadN X122 hx hby d15_58 (pc' := 59) rfl rfl ?_
    refine g_bipush X122 hx hby d15_59 (pc' := 61) rfl (z := (10 : Int32)) rfl ?_
    refine g_idiv X122 hx hby d15_61 (pc' := 62) rfl (by decide) ?_
    refine g_istoreN X122 hx hby d15_62 (pc' := 63) rfl (l' := #[.val (.ref q1), .val (.int q2), .val (.int (9 : Int32)), .val (.int (dv 6 q2)), .val (.int (3 : Int32))]) rfl ?_
    refine g_iinc X122 hx hby d15_63 (pc' := 66) rfl rfl (l' := #[.val (.ref q1), .val (.int q2), .val (.int (9 : Int32)), .val (.int (dv 6 q2)), .val (.int (2 : Int32))]) rfl ?_
    refine g_goto X122 hx hby d15_66 (by decide) (pc' := 34) (by decide) ?_
    refine g_iload X122 hx hby d15_34 (pc' := 36) rfl rfl ?_
    refine g_aloadN X122 hx hby d15_36 (pc' := 37) rfl rfl rfl ?_
    refine g_get X122 hx hZ hown hby d15_37 (pc' := 40) rfl (w_87 hw) rfl F122_q1_numberAt ?_
    intro T123 X123 e123
    refine g_icmp_lt X123 hx hby d15_40 (by decide) (pc' := 69) (by decide) (pn := 43) rfl (fun z => absurd z (by decide)) (fun _ => ?_)
    refine g_aloadN X123 hx hby d15_43 (pc' := 44) rfl rfl rfl ?_
    refine g_get X123 hx hZ hown hby d15_44 (pc' := 47) rfl (w_38 hw) e123 F122_q1_label ?_
    intro T124 X124 e124
    refine g_iload X124 hx hby d15_47 (pc' := 49) rfl rfl ?_
    refine g_bipush X124 hx hby d15_49 (pc' := 51) rfl (z := (48 : Int32)) rfl ?_
    refine g_iloadN X124 hx hby d15_51 (pc' := 52) rfl rfl ?_
    refine g_bipush X124 hx hby d15_52 (pc' := 54) rfl (z := (10 : Int32)) rfl ?_
    refine g_irem X124 hx hby d15_54 (pc' := 55) rfl (by decide) ?_
    refine g_iadd X124 hx hby d15_55 (pc' := 56) rfl ?_
    refine g_i2b X124 hx hby d15_56 (pc' := 57) rfl ?_
    refine g_bastore X124 hx hZ 2 hby d15_57 (pc' := 58) rfl e124 A122 (by decide) (by decide) (by first | decide | simp) ?_
    intro T125 X125 W125 A125v
    have N125 := Fr.snoc X125 N122 g_l
    have E125_q1 := E122_q1.wr W125
    have F125_q1_label := F122_q1_label.other W125 (Or.inl n_l.symm)
    have F125_q1_numberAt := F122_q1_numberAt.other W125 (Or.inl n_l.symm)
    have K125 := K122.wr W125 (Or.inl (List.mem_of_getElem? (i := 0) rfl))
    have A125 : Arv Z T125.heap bl kl .byte (266 : Int32) [.int u0, .int u1, .int (nar .byte (dg 6 q2)), .int (nar .byte (dg 5 q2)), .int (nar .byte (dg 4 q2)), .int (nar .byte (dg 3 q2)), .int (nar .byte (dg 2 q2)), .int (nar .byte (dg 1 q2)), .int (nar .byte (dg 0 q2)), .int u9, .int u10, .int u11, .int u12] (.int 0) := A125v
    refine g_iloadN X125 hx hby d15_58 (pc' := 59) rfl rfl ?_
    refine g_bipush X125 hx hby d15_59 (pc' := 61) rfl (z := (10 : Int32)) rfl ?_
    refine g_idiv X125 hx hby d15_61 (pc' := 62) rfl (by decide) ?_
    refine g_istoreN X125 hx hby d15_62 (pc' := 63) rfl (l' := #[.val (.ref q1), .val (.int q2), .val (.int (9 : Int32)), .val (.int (dv 7 q2)), .val (.int (2 : Int32))]) rfl ?_
    refine g_iinc X125 hx hby d15_63 (pc' := 66) rfl rfl (l' := #[.val (.ref q1), .val (.int q2), .val (.int (9 : Int32)), .val (.int (dv 7 q2)), .val (.int (1 : Int32))]) rfl ?_
    refine g_goto X125 hx hby d15_66 (by decide) (pc' := 34) (by decide) ?_
    refine g_iload X125 hx hby d15_34 (pc' := 36) rfl rfl ?_
    refine g_aloadN X125 hx hby d15_36 (pc' := 37) rfl rfl rfl ?_
    refine g_get X125 hx hZ hown hby d15_37 (pc' := 40) rfl (w_87 hw) rfl F125_q1_numberAt ?_
    intro T126 X126 e126
    refine g_icmp_lt X126 hx hby d15_40 (by decide) (pc' := 69) (by decide) (pn := 43) rfl (fun _ => ?_) (fun z => absurd z (by decide))
    refine g_iloadN X126 hx hby d15_69 (pc' := 70) rfl rfl ?_
    exact g_retI (Q := (fun v h L => ∃ (t0 t1 t2 t3 t4 t5 t6 t7 t8 t9 t10 : Int32), v = some (.int ((2 : Int32) + (digV q2))) ∧ Fr n0 L ∧ Keep h0 h [bl] ∧ Arv Z h bl kl .byte (266 : Int32) [.int u0, .int u1, .int t0, .int t1, .int t2, .int t3, .int t4, .int t5, .int t6, .int t7, .int t8, .int t9, .int t10] (.int 0) ∧ DIGS 1 q2 [.int u0, .int u1, .int t0, .int t1, .int t2, .int t3, .int t4, .int t5, .int t6, .int t7, .int t8, .int t9, .int t10])) X126 hx hby d15_70 hret hlk (by decide) (by decide) (by rw [e126]; exact ⟨(nar .byte (dg 6 q2)), (nar .byte (dg 5 q2)), (nar .byte (dg 4 q2)), (nar .byte (dg 3 q2)), (nar .byte (dg 2 q2)), (nar .byte (dg 1 q2)), (nar .byte (dg 0 q2)), u9, u10, u11, u12, congrArg (fun z : Int32 => some (Value.int z)) (by rw [own_dig hd7 (by decide) (by decide)]; rfl), N125, K125, A125, own_digs hd7 (by decide) (by decide) (fun i hi => match i, hi with | 0, _ => rfl | 1, _ => rfl | 2, _ => rfl | 3, _ => rfl | 4, _ => rfl | 5, _ => rfl | 6, _ => rfl | (k + 7), h => absurd h (by omega))⟩)
  · refine g_aloadN X0 hx hby d15_0 (pc' := 1) rfl rfl rfl ?_
    refine g_get X0 hx hZ hown hby d15_1 (pc' := 4) rfl (w_87 hw) e0 F2 ?_
    intro T127 X127 e127
    refine g_iconst X127 hx hby d15_4 (pc' := 5) rfl (z := (1 : Int32)) rfl ?_
    refine g_iadd X127 hx hby d15_5 (pc' := 6) rfl ?_
    refine g_eqI (b := (3 : Int32)) (by decide +kernel) ?_
    refine g_istoreN X127 hx hby d15_6 (pc' := 7) rfl (l' := #[.val (.ref q1), .val (.int q2), .val (.int (3 : Int32)), .unset, .unset]) rfl ?_
    refine g_iloadN X127 hx hby d15_7 (pc' := 8) rfl rfl ?_
    refine g_bipush X127 hx hby d15_8 (pc' := 10) rfl (z := (10 : Int32)) rfl ?_
    refine g_idiv X127 hx hby d15_10 (pc' := 11) rfl (by decide) ?_
    refine g_istoreN X127 hx hby d15_11 (pc' := 12) rfl (l' := #[.val (.ref q1), .val (.int q2), .val (.int (3 : Int32)), .val (.int (dv 1 q2)), .unset]) rfl ?_
    refine g_iloadN X127 hx hby d15_12 (pc' := 13) rfl rfl ?_
    refine g_if_le X127 hx hby d15_13 (by decide) (pc' := 27) (by decide) (pn := 16) rfl (fun z => absurd z (fun z => z (own_yes 1 hd8 (by decide) (by decide)))) (fun hc13_128 => ?_)
    refine g_iinc X127 hx hby d15_16 (pc' := 19) rfl rfl (l' := #[.val (.ref q1), .val (.int q2), .val (.int (4 : Int32)), .val (.int (dv 1 q2)), .unset]) rfl ?_
    refine g_iloadN X127 hx hby d15_19 (pc' := 20) rfl rfl ?_
    refine g_bipush X127 hx hby d15_20 (pc' := 22) rfl (z := (10 : Int32)) rfl ?_
    refine g_idiv X127 hx hby d15_22 (pc' := 23) rfl (by decide) ?_
    refine g_istoreN X127 hx hby d15_23 (pc' := 24) rfl (l' := #[.val (.ref q1), .val (.int q2), .val (.int (4 : Int32)), .val (.int (dv 2 q2)), .unset]) rfl ?_
    refine g_goto X127 hx hby d15_24 (by decide) (pc' := 12) (by decide) ?_
    refine g_iloadN X127 hx hby d15_12 (pc' := 13) rfl rfl ?_
    refine g_if_le X127 hx hby d15_13 (by decide) (pc' := 27) (by decide) (pn := 16) rfl (fun z => absurd z (fun z => z (own_yes 2 hd8 (by decide) (by decide)))) (fun hc13_129 => ?_)
    refine g_iinc X127 hx hby d15_16 (pc' := 19) rfl rfl (l' := #[.val (.ref q1), .val (.int q2), .val (.int (5 : Int32)), .val (.int (dv 2 q2)), .unset]) rfl ?_
    refine g_iloadN X127 hx hby d15_19 (pc' := 20) rfl rfl ?_
    refine g_bipush X127 hx hby d15_20 (pc' := 22) rfl (z := (10 : Int32)) rfl ?_
    refine g_idiv X127 hx hby d15_22 (pc' := 23) rfl (by decide) ?_
    refine g_istoreN X127 hx hby d15_23 (pc' := 24) rfl (l' := #[.val (.ref q1), .val (.int q2), .val (.int (5 : Int32)), .val (.int (dv 3 q2)), .unset]) rfl ?_
    refine g_goto X127 hx hby d15_24 (by decide) (pc' := 12) (by decide) ?_
    refine g_iloadN X127 hx hby d15_12 (pc' := 13) rfl rfl ?_
    refine g_if_le X127 hx hby d15_13 (by decide) (pc' := 27) (by decide) (pn := 16) rfl (fun z => absurd z (fun z => z (own_yes 3 hd8 (by decide) (by decide)))) (fun hc13_130 => ?_)
    refine g_iinc X127 hx hby d15_16 (pc' := 19) rfl rfl (l' := #[.val (.ref q1), .val (.int q2), .val (.int (6 : Int32)), .val (.int (dv 3 q2)), .unset]) rfl ?_
    refine g_iloadN X127 hx hby d15_19 (pc' := 20) rfl rfl ?_
    refine g_bipush X127 hx hby d15_20 (pc' := 22) rfl (z := (10 : Int32)) rfl ?_
    refine g_idiv X127 hx hby d15_22 (pc' := 23) rfl (by decide) ?_
    refine g_istoreN X127 hx hby d15_23 (pc' := 24) rfl (l' := #[.val (.ref q1), .val (.int q2), .val (.int (6 : Int32)), .val (.int (dv 4 q2)), .unset]) rfl ?_
    refine g_goto X127 hx hby d15_24 (by decide) (pc' := 12) (by decide) ?_
    refine g_iloadN X127 hx hby d15_12 (pc' := 13) rfl rfl ?_
    refine g_if_le X127 hx hby d15_13 (by decide) (pc' := 27) (by decide) (pn := 16) rfl (fun z => absurd z (fun z => z (own_yes 4 hd8 (by decide) (by decide)))) (fun hc13_131 => ?_)
    refine g_iinc X127 hx hby d15_16 (pc' := 19) rfl rfl (l' := #[.val (.ref q1), .val (.int q2), .val (.int (7 : Int32)), .val (.int (dv 4 q2)), .unset]) rfl ?_
    refine g_iloadN X127 hx hby d15_19 (pc' := 20) rfl rfl ?_
    refine g_bipush X127 hx hby d15_20 (pc' := 22) rfl (z := (10 : Int32)) rfl ?_
    refine g_idiv X127 hx hby d15_22 (pc' := 23) rfl (by decide) ?_
    refine g_istoreN X127 hx hby d15_23 (pc' := 24) rfl (l' := #[.val (.ref q1), .val (.int q2), .val (.int (7 : Int32)), .val (.int (dv 5 q2)), .unset]) rfl ?_
    refine g_goto X127 hx hby d15_24 (by decide) (pc' := 12) (by decide) ?_
    refine g_iloadN X127 hx hby d15_12 (pc' := 13) rfl rfl ?_
    refine g_if_le X127 hx hby d15_13 (by decide) (pc' := 27) (by decide) (pn := 16) rfl (fun z => absurd z (fun z => z (own_yes 5 hd8 (by decide) (by decide)))) (fun hc13_132 => ?_)
    refine g_iinc X127 hx hby d15_16 (pc' := 19) rfl rfl (l' := #[.val (.ref q1), .val (.int q2), .val (.int (8 : Int32)), .val (.int (dv 5 q2)), .unset]) rfl ?_
    refine g_iloadN X127 hx hby d15_19 (pc' := 20) rfl rfl ?_
    refine g_bipush X127 hx hby d15_20 (pc' := 22) rfl (z := (10 : Int32)) rfl ?_
    refine g_idiv X127 hx hby d15_22 (pc' := 23) rfl (by decide) ?_
    refine g_istoreN X127 hx hby d15_23 (pc' := 24) rfl (l' := #[.val (.ref q1), .val (.int q2), .val (.int (8 : Int32)), .val (.int (dv 6 q2)), .unset]) rfl ?_
    refine g_goto X127 hx hby d15_24 (by decide) (pc' := 12) (by decide) ?_
    refine g_iloadN X127 hx hby d15_12 (pc' := 13) rfl rfl ?_
    refine g_if_le X127 hx hby d15_13 (by decide) (pc' := 27) (by decide) (pn := 16) rfl (fun z => absurd z (fun z => z (own_yes 6 hd8 (by decide) (by decide)))) (fun hc13_133 => ?_)
    refine g_iinc X127 hx hby d15_16 (pc' := 19) rfl rfl (l' := #[.val (.ref q1), .val (.int q2), .val (.int (9 : Int32)), .val (.int (dv 6 q2)), .unset]) rfl ?_
    refine g_iloadN X127 hx hby d15_19 (pc' := 20) rfl rfl ?_
    refine g_bipush X127 hx hby d15_20 (pc' := 22) rfl (z := (10 : Int32)) rfl ?_
    refine g_idiv X127 hx hby d15_22 (pc' := 23) rfl (by decide) ?_
    refine g_istoreN X127 hx hby d15_23 (pc' := 24) rfl (l' := #[.val (.ref q1), .val (.int q2), .val (.int (9 : Int32)), .val (.int (dv 7 q2)), .unset]) rfl ?_
    refine g_goto X127 hx hby d15_24 (by decide) (pc' := 12) (by decide) ?_
    refine g_iloadN X127 hx hby d15_12 (pc' := 13) rfl rfl ?_
    refine g_if_le X127 hx hby d15_13 (by decide) (pc' := 27) (by decide) (pn := 16) rfl (fun z => absurd z (fun z => z (own_yes 7 hd8 (by decide) (by decide)))) (fun hc13_134 => ?_)
    refine g_iinc X127 hx hby d15_16 (pc' := 19) rfl rfl (l' := #[.val (.ref q1), .val (.int q2), .val (.int (10 : Int32)), .val (.int (dv 7 q2)), .unset]) rfl ?_
    refine g_iloadN X127 hx hby d15_19 (pc' := 20) rfl rfl ?_
    refine g_bipush X127 hx hby d15_20 (pc' := 22) rfl (z := (10 : Int32)) rfl ?_
    refine g_idiv X127 hx hby d15_22 (pc' := 23) rfl (by decide) ?_
    refine g_istoreN X127 hx hby d15_23 (pc' := 24) rfl (l' := #[.val (.ref q1), .val (.int q2), .val (.int (10 : Int32)), .val (.int (dv 8 q2)), .unset]) rfl ?_
    refine g_goto X127 hx hby d15_24 (by decide) (pc' := 12) (by decide) ?_
    refine g_iloadN X127 hx hby d15_12 (pc' := 13) rfl rfl ?_
    refine g_if_le X127 hx hby d15_13 (by decide) (pc' := 27) (by decide) (pn := 16) rfl (fun hc13_135 => ?_) (fun z => absurd z (own_no hd8))
    refine g_iloadN X127 hx hby d15_27 (pc' := 28) rfl rfl ?_
    refine g_istoreN X127 hx hby d15_28 (pc' := 29) rfl (l' := #[.val (.ref q1), .val (.int q2), .val (.int (10 : Int32)), .val (.int (dv 0 q2)), .unset]) rfl ?_
    refine g_iloadN X127 hx hby d15_29 (pc' := 30) rfl rfl ?_
    refine g_iconst X127 hx hby d15_30 (pc' := 31) rfl (z := (1 : Int32)) rfl ?_
    refine g_isub X127 hx hby d15_31 (pc' := 32) rfl ?_
    refine g_eqI (b := (9 : Int32)) (by decide +kernel) ?_
    refine g_istore X127 hx hby d15_32 (pc' := 34) rfl (l' := #[.val (.ref q1), .val (.int q2), .val (.int (10 : Int32)), .val (.int (dv 0 q2)), .val (.int (9 : Int32))]) rfl ?_
    refine g_iload X127 hx hby d15_34 (pc' := 36) rfl rfl ?_
    refine g_aloadN X127 hx hby d15_36 (pc' := 37) rfl rfl rfl ?_
    refine g_get X127 hx hZ hown hby d15_37 (pc' := 40) rfl (w_87 hw) e127 F2 ?_
    intro T136 X136 e136
    refine g_icmp_lt X136 hx hby d15_40 (by decide) (pc' := 69) (by decide) (pn := 43) rfl (fun z => absurd z (by decide)) (fun _ => ?_)
    refine g_aloadN X136 hx hby d15_43 (pc' := 44) rfl rfl rfl ?_
    refine g_get X136 hx hZ hown hby d15_44 (pc' := 47) rfl (w_38 hw) e136 F1 ?_
    intro T137 X137 e137
    refine g_iload X137 hx hby d15_47 (pc' := 49) rfl rfl ?_
    refine g_bipush X137 hx hby d15_49 (pc' := 51) rfl (z := (48 : Int32)) rfl ?_
    refine g_iloadN X137 hx hby d15_51 (pc' := 52) rfl rfl ?_
    refine g_bipush X137 hx hby d15_52 (pc' := 54) rfl (z := (10 : Int32)) rfl ?_
    refine g_irem X137 hx hby d15_54 (pc' := 55) rfl (by decide) ?_
    refine g_iadd X137 hx hby d15_55 (pc' := 56) rfl ?_
    refine g_i2b X137 hx hby d15_56 (pc' := 57) rfl ?_
    refine g_bastore X137 hx hZ 9 hby d15_57 (pc' := 58) rfl e137 A_l (by decide) (by decide) (by first | decide | simp) ?_
    intro T138 X138 W138 A138v
    have N138 := Fr.snoc X138 N0 g_l
    have E138_q1 := E_a.wr W138
    have F138_q1_label := F1.other W138 (Or.inl n_l.symm)
    have F138_q1_numberAt := F2.other W138 (Or.inl n_l.symm)
    have K138 := (Keep.refl h0 [bl]).wr W138 (Or.inl (List.mem_of_getElem? (i := 0) rfl))
    have A138 : Arv Z T138.heap bl kl .byte (266 : Int32) [.int u0, .int u1, .int u2, .int u3, .int u4, .int u5, .int u6, .int u7, .int u8, .int (nar .byte (dg 0 q2)), .int u10, .int u11, .int u12] (.int 0) := A138v
    refine g_iloadN X138 hx hby d15_58 (pc' := 59) rfl rfl ?_
    refine g_bipush X138 hx hby d15_59 (pc' := 61) rfl (z := (10 : Int32)) rfl ?_
    refine g_idiv X138 hx hby d15_61 (pc' := 62) rfl (by decide) ?_
    refine g_istoreN X138 hx hby d15_62 (pc' := 63) rfl (l' := #[.val (.ref q1), .val (.int q2), .val (.int (10 : Int32)), .val (.int (dv 1 q2)), .val (.int (9 : Int32))]) rfl ?_
    refine g_iinc X138 hx hby d15_63 (pc' := 66) rfl rfl (l' := #[.val (.ref q1), .val (.int q2), .val (.int (10 : Int32)), .val (.int (dv 1 q2)), .val (.int (8 : Int32))]) rfl ?_
    refine g_goto X138 hx hby d15_66 (by decide) (pc' := 34) (by decide) ?_
    refine g_iload X138 hx hby d15_34 (pc' := 36) rfl rfl ?_
    refine g_aloadN X138 hx hby d15_36 (pc' := 37) rfl rfl rfl ?_
    refine g_get X138 hx hZ hown hby d15_37 (pc' := 40) rfl (w_87 hw) rfl F138_q1_numberAt ?_
    intro T139 X139 e139
    refine g_icmp_lt X139 hx hby d15_40 (by decide) (pc' := 69) (by decide) (pn := 43) rfl (fun z => absurd z (by decide)) (fun _ => ?_)
    refine g_aloadN X139 hx hby d15_43 (pc' := 44) rfl rfl rfl ?_
    refine g_get X139 hx hZ hown hby d15_44 (pc' := 47) rfl (w_38 hw) e139 F138_q1_label ?_
    intro T140 X140 e140
    refine g_iload X140 hx hby d15_47 (pc' := 49) rfl rfl ?_
    refine g_bipush X140 hx hby d15_49 (pc' := 51) rfl (z := (48 : Int32)) rfl ?_
    refine g_iloadN X140 hx hby d15_51 (pc' := 52) rfl rfl ?_
    refine g_bipush X140 hx hby d15_52 (pc' := 54) rfl (z := (10 : Int32)) rfl ?_
    refine g_irem X140 hx hby d15_54 (pc' := 55) rfl (by decide) ?_
    refine g_iadd X140 hx hby d15_55 (pc' := 56) rfl ?_
    refine g_i2b X140 hx hby d15_56 (pc' := 57) rfl ?_
    refine g_bastore X140 hx hZ 8 hby d15_57 (pc' := 58) rfl e140 A138 (by decide) (by decide) (by first | decide | simp) ?_
    intro T141 X141 W141 A141v
    have N141 := Fr.snoc X141 N138 g_l
    have E141_q1 := E138_q1.wr W141
    have F141_q1_label := F138_q1_label.other W141 (Or.inl n_l.symm)
    have F141_q1_numberAt := F138_q1_numberAt.other W141 (Or.inl n_l.symm)
    have K141 := K138.wr W141 (Or.inl (List.mem_of_getElem? (i := 0) rfl))
    have A141 : Arv Z T141.heap bl kl .byte (266 : Int32) [.int u0, .int u1, .int u2, .int u3, .int u4, .int u5, .int u6, .int u7, .int (nar .byte (dg 1 q2)), .int (nar .byte (dg 0 q2)), .int u10, .int u11, .int u12] (.int 0) := A141v
    refine g_iloadN X141 hx hby d15_58 (pc' := 59) rfl rfl ?_
    refine g_bipush X141 hx hby d15_59 (pc' := 61) rfl (z := (10 : Int32)) rfl ?_
    refine g_idiv X141 hx hby d15_61 (pc' := 62) rfl (by decide) ?_
    refine g_istoreN X141 hx hby d15_62 (pc' := 63) rfl (l' := #[.val (.ref q1), .val (.int q2), .val (.int (10 : Int32)), .val (.int (dv 2 q2)), .val (.int (8 : Int32))]) rfl ?_
    refine g_iinc X141 hx hby d15_63 (pc' := 66) rfl rfl (l' := #[.val (.ref q1), .val (.int q2), .val (.int (10 : Int32)), .val (.int (dv 2 q2)), .val (.int (7 : Int32))]) rfl ?_
    refine g_goto X141 hx hby d15_66 (by decide) (pc' := 34) (by decide) ?_
    refine g_iload X141 hx hby d15_34 (pc' := 36) rfl rfl ?_
    refine g_aloadN X141 hx hby d15_36 (pc' := 37) rfl rfl rfl ?_
    refine g_get X141 hx hZ hown hby d15_37 (pc' := 40) rfl (w_87 hw) rfl F141_q1_numberAt ?_
    intro T142 X142 e142
    refine g_icmp_lt X142 hx hby d15_40 (by decide) (pc' := 69) (by decide) (pn := 43) rfl (fun z => absurd z (by decide)) (fun _ => ?_)
    refine g_aloadN X142 hx hby d15_43 (pc' := 44) rfl rfl rfl ?_
    refine g_get X142 hx hZ hown hby d15_44 (pc' := 47) rfl (w_38 hw) e142 F141_q1_label ?_
    intro T143 X143 e143
    refine g_iload X143 hx hby d15_47 (pc' := 49) rfl rfl ?_
    refine g_bipush X143 hx hby d15_49 (pc' := 51) rfl (z := (48 : Int32)) rfl ?_
    refine g_iloadN X143 hx hby d15_51 (pc' := 52) rfl rfl ?_
    refine g_bipush X143 hx hby d15_52 (pc' := 54) rfl (z := (10 : Int32)) rfl ?_
    refine g_irem X143 hx hby d15_54 (pc' := 55) rfl (by decide) ?_
    refine g_iadd X143 hx hby d15_55 (pc' := 56) rfl ?_
    refine g_i2b X143 hx hby d15_56 (pc' := 57) rfl ?_
    refine g_bastore X143 hx hZ 7 hby d15_57 (pc' := 58) rfl e143 A141 (by decide) (by decide) (by first | decide | simp) ?_
    intro T144 X144 W144 A144v
    have N144 := Fr.snoc X144 N141 g_l
    have E144_q1 := E141_q1.wr W144
    have F144_q1_label := F141_q1_label.other W144 (Or.inl n_l.symm)
    have F144_q1_numberAt := F141_q1_numberAt.other W144 (Or.inl n_l.symm)
    have K144 := K141.wr W144 (Or.inl (List.mem_of_getElem? (i := 0) rfl))
    have A144 : Arv Z T144.heap bl kl .byte (266 : Int32) [.int u0, .int u1, .int u2, .int u3, .int u4, .int u5, .int u6, .int (nar .byte (dg 2 q2)), .int (nar .byte (dg 1 q2)), .int (nar .byte (dg 0 q2)), .int u10, .int u11, .int u12] (.int 0) := A144v
    refine g_iloadN X144 hx hby d15_58 (pc' := 59) rfl rfl ?_
    refine g_bipush X144 hx hby d15_59 (pc' := 61) rfl (z := (10 : Int32)) rfl ?_
    refine g_idiv X144 hx hby d15_61 (pc' := 62) rfl (by decide) ?_
    refine g_istoreN X144 hx hby d15_62 (pc' := 63) rfl (l' := #[.val (.ref q1), .val (.int q2), .val (.int (10 : Int32)), .val (.int (dv 3 q2)), .val (.int (7 : Int32))]) rfl ?_
    refine g_iinc X144 hx hby d15_63 (pc' := 66) rfl rfl (l' := #[.val (.ref q1), .val (.int q2), .val (.int (10 : Int32)), .val (.int (dv 3 q2)), .val (.int (6 : Int32))]) rfl ?_
    refine g_goto X144 hx hby d15_66 (by decide) (pc' := 34) (by decide) ?_
    refine g_iload X144 hx hby d15_34 (pc' := 36) rfl rfl ?_
    refine g_aloadN X144 hx hby d15_36 (pc' := 37) rfl rfl rfl ?_
    refine g_get X144 hx hZ hown hby d15_37 (pc' := 40) rfl (w_87 hw) rfl F144_q1_numberAt ?_
    intro T145 X145 e145
    refine g_icmp_lt X145 hx hby d15_40 (by decide) (pc' := 69) (by decide) (pn := 43) rfl (fun z => absurd z (by decide)) (fun _ => ?_)
    refine g_aloadN X145 hx hby d15_43 (pc' := 44) rfl rfl rfl ?_
    refine g_get X145 hx hZ hown hby d15_44 (pc' := 47) rfl (w_38 hw) e145 F144_q1_label ?_
    intro T146 X146 e146
    refine g_iload X146 hx hby d15_47 (pc' := 49) rfl rfl ?_
    refine g_bipush X146 hx hby d15_49 (pc' := 51) rfl (z := (48 : Int32)) rfl ?_
    refine g_iloadN X146 hx hby d15_51 (pc' := 52) rfl rfl ?_
    refine g_bipush X146 hx hby d15_52 (pc' := 54) rfl (z := (10 : Int32)) rfl ?_
    refine g_irem X146 hx hby d15_54 (pc' := 55) rfl (by decide) ?_
    refine g_iadd X146 hx hby d15_55 (pc' := 56) rfl ?_
    refine g_i2b X146 hx hby d15_56 (pc' := 57) rfl ?_
    refine g_bastore X146 hx hZ 6 hby d15_57 (pc' := 58) rfl e146 A144 (by decide) (by decide) (by first | decide | simp) ?_
    intro T147 X147 W147 A147v
    have N147 := Fr.snoc X147 N144 g_l
    have E147_q1 := E144_q1.wr W147
    have F147_q1_label := F144_q1_label.other W147 (Or.inl n_l.symm)
    have F147_q1_numberAt := F144_q1_numberAt.other W147 (Or.inl n_l.symm)
    have K147 := K144.wr W147 (Or.inl (List.mem_of_getElem? (i := 0) rfl))
    have A147 : Arv Z T147.heap bl kl .byte (266 : Int32) [.int u0, .int u1, .int u2, .int u3, .int u4, .int u5, .int (nar .byte (dg 3 q2)), .int (nar .byte (dg 2 q2)), .int (nar .byte (dg 1 q2)), .int (nar .byte (dg 0 q2)), .int u10, .int u11, .int u12] (.int 0) := A147v
    refine g_iloadN X147 hx hby d15_58 (pc' := 59) rfl rfl ?_
    refine g_bipush X147 hx hby d15_59 (pc' := 61) rfl (z := (10 : Int32)) rfl ?_
    refine g_idiv X147 hx hby d15_61 (pc' := 62) rfl (by decide) ?_
    refine g_istoreN X147 hx hby d15_62 (pc' := 63) rfl (l' := #[.val (.ref q1), .val (.int q2), .val (.int (10 : Int32)), .val (.int (dv 4 q2)), .val (.int (6 : Int32))]) rfl ?_
    refine g_iinc X147 hx hby d15_63 (pc' := 66) rfl rfl (l' := #[.val (.ref q1), .val (.int q2), .val (.int (10 : Int32)), .val (.int (dv 4 q2)), .val (.int (5 : Int32))]) rfl ?_
    refine g_goto X147 hx hby d15_66 (by decide) (pc' := 34) (by decide) ?_
    refine g_iload X147 hx hby d15_34 (pc' := 36) rfl rfl ?_
    refine g_aloadN X147 hx hby d15_36 (pc' := 37) rfl rfl rfl ?_
    refine g_get X147 hx hZ hown hby d15_37 (pc' := 40) rfl (w_87 hw) rfl F147_q1_numberAt ?_
    intro T148 X148 e148
    refine g_icmp_lt X148 hx hby d15_40 (by decide) (pc' := 69) (by decide) (pn := 43) rfl (fun z => absurd z (by decide)) (fun _ => ?_)
    refine g_aloadN X148 hx hby d15_43 (pc' := 44) rfl rfl rfl ?_
    refine g_get X148 hx hZ hown hby d15_44 (pc' := 47) rfl (w_38 hw) e148 F147_q1_label ?_
    intro T149 X149 e149
    refine g_iload X149 hx hby d15_47 (pc' := 49) rfl rfl ?_
    refine g_bipush X149 hx hby d15_49 (pc' := 51) rfl (z := (48 : Int32)) rfl ?_
    refine g_iloadN X149 hx hby d15_51 (pc' := 52) rfl rfl ?_
    refine g_bipush X149 hx hby d15_52 (pc' := 54) rfl (z := (10 : Int32)) rfl ?_
    refine g_irem X149 hx hby d15_54 (pc' := 55) rfl (by decide) ?_
    refine g_iadd X149 hx hby d15_55 (pc' := 56) rfl ?_
    refine g_i2b X149 hx hby d15_56 (pc' := 57) rfl ?_
    refine g_bastore X149 hx hZ 5 hby d15_57 (pc' := 58) rfl e149 A147 (by decide) (by decide) (by first | decide | simp) ?_
    intro T150 X150 W150 A150v
    have N150 := Fr.snoc X150 N147 g_l
    have E150_q1 := E147_q1.wr W150
    have F150_q1_label := F147_q1_label.other W150 (Or.inl n_l.symm)
    have F150_q1_numberAt := F147_q1_numberAt.other W150 (Or.inl n_l.symm)
    have K150 := K147.wr W150 (Or.inl (List.mem_of_getElem? (i := 0) rfl))
    have A150 : Arv Z T150.heap bl kl .byte (266 : Int32) [.int u0, .int u1, .int u2, .int u3, .int u4, .int (nar .byte (dg 4 q2)), .int (nar .byte (dg 3 q2)), .int (nar .byte (dg 2 q2)), .int (nar .byte (dg 1 q2)), .int (nar .byte (dg 0 q2)), .int u10, .int u11, .int u12] (.int 0) := A150v
    refine g_iloadN X150 hx hby d15_58 (pc' := 59) rfl rfl ?_
    refine g_bipush X150 hx hby d15_59 (pc' := 61) rfl (z := (10 : Int32)) rfl ?_
    refine g_idiv X150 hx hby d15_61 (pc' := 62) rfl (by decide) ?_
    refine g_istoreN X150 hx hby d15_62 (pc' := 63) rfl (l' := #[.val (.ref q1), .val (.int q2), .val (.int (10 : Int32)), .val (.int (dv 5 q2)), .val (.int (5 : Int32))]) rfl ?_
    refine g_iinc X150 hx hby d15_63 (pc' := 66) rfl rfl (l' := #[.val (.ref q1), .val (.int q2), .val (.int (10 : Int32)), .val (.int (dv 5 q2)), .val (.int (4 : Int32))]) rfl ?_
    refine g_goto X150 hx hby d15_66 (by decide) (pc' := 34) (by decide) ?_
    refine g_iload X150 hx hby d15_34 (pc' := 36) rfl rfl ?_
    refine g_aloadN X150 hx hby d15_36 (pc' := 37) rfl rfl rfl ?_
    refine g_get X150 hx hZ hown hby d15_37 (pc' := 40) rfl (w_87 hw) rfl F150_q1_numberAt ?_
    intro T151 X151 e151
    refine g_icmp_lt X151 hx hby d15_40 (by decide) (pc' := 69) (by decide) (pn := 43) rfl (fun z => absurd z (by decide)) (fun _ => ?_)
    refine g_aloadN X151 hx hby d15_43 (pc' := 44) rfl rfl rfl ?_
    refine g_get X151 hx hZ hown hby d15_44 (pc' := 47) rfl (w_38 hw) e151 F150_q1_label ?_
    intro T152 X152 e152
    refine g_iload X152 hx hby d15_47 (pc' := 49) rfl rfl ?_
    refine g_bipush X152 hx hby d15_49 (pc' := 51) rfl (z := (48 : Int32)) rfl ?_
    refine g_iloadN X152 hx hby d15_51 (pc' := 52) rfl rfl ?_
    refine g_bipush X152 hx hby d15_52 (pc' := 54) rfl (z := (10 : Int32)) rfl ?_
    refine g_irem X152 hx hby d15_54 (pc' := 55) rfl (by decide) ?_
    refine g_iadd X152 hx hby d15_55 (pc' := 56) rfl ?_
    refine g_i2b X152 hx hby d15_56 (pc' := 57) rfl ?_
    refine g_bastore X152 hx hZ 4 hby d15_57 (pc' := 58) rfl e152 A150 (by decide) (by decide) (by first | decide | simp) ?_
    intro T153 X153 W153 A153v
    have N153 := Fr.snoc X153 N150 g_l
    have E153_q1 := E150_q1.wr W153
    have F153_q1_label := F150_q1_label.other W153 (Or.inl n_l.symm)
    have F153_q1_numberAt := F150_q1_numberAt.other W153 (Or.inl n_l.symm)
    have K153 := K150.wr W153 (Or.inl (List.mem_of_getElem? (i := 0) rfl))
    have A153 : Arv Z T153.heap bl kl .byte (266 : Int32) [.int u0, .int u1, .int u2, .int u3, .int (nar .byte (dg 5 q2)), .int (nar .byte (dg 4 q2)), .int (nar .byte (dg 3 q2)), .int (nar .byte (dg 2 q2)), .int (nar .byte (dg 1 q2)), .int (nar .byte (dg 0 q2)), .int u10, .int u11, .int u12] (.int 0) := A153v
    refine g_iloadN X153 hx hby d15_58 (pc' := 59) rfl rfl ?_
    refine g_bipush X153 hx hby d15_59 (pc' := 61) rfl (z := (10 : Int32)) rfl ?_
    refine g_idiv X153 hx hby d15_61 (pc' := 62) rfl (by decide) ?_
    refine g_istoreN X153 hx hby d15_62 (pc' := 63) rfl (l' := #[.val (.ref q1), .val (.int q2), .val (.int (10 : Int32)), .val (.int (dv 6 q2)), .val (.int (4 : Int32))]) rfl ?_
    refine g_iinc X153 hx hby d15_63 (pc' := 66) rfl rfl (l' := #[.val (.ref q1), .val (.int q2), .val (.int (10 : Int32)), .val (.int (dv 6 q2)), .val (.int (3 : Int32))]) rfl ?_
    refine g_goto X153 hx hby d15_66 (by decide) (pc' := 34) (by decide) ?_
    refine g_iload X153 hx hby d15_34 (pc' := 36) rfl rfl ?_
    refine g_aloadN X153 hx hby d15_36 (pc' := 37) rfl rfl rfl ?_
    refine g_get X153 hx hZ hown hby d15_37 (pc' := 40) rfl (w_87 hw) rfl F153_q1_numberAt ?_
    intro T154 X154 e154
    refine g_icmp_lt X154 hx hby d15_40 (by decide) (pc' := 69) (by decide) (pn := 43) rfl (fun z => absurd z (by decide)) (fun _ => ?_)
    refine g_aloadN X154 hx hby d15_43 (pc' := 44) rfl rfl rfl ?_
    refine g_get X154 hx hZ hown hby d15_44 (pc' := 47) rfl (w_38 hw) e154 F153_q1_label ?_
    intro T155 X155 e155
    refine g_iload X155 hx hby d15_47 (pc' := 49) rfl rfl ?_
    refine g_bipush X155 hx hby d15_49 (pc' := 51) rfl (z := (48 : Int32)) rfl ?_
    refine g_iloadN X155 hx hby d15_51 (pc' := 52) rfl rfl ?_
    refine g_bipush X155 hx hby d15_52 (pc' := 54) rfl (z := (10 : Int32)) rfl ?_
    refine g_irem X155 hx hby d15_54 (pc' := 55) rfl (by decide) ?_
    refine g_iadd X155 hx hby d15_55 (pc' := 56) rfl ?_
    refine g_i2b X155 hx hby d15_56 (pc' := 57) rfl ?_
    refine g_bastore X155 hx hZ 3 hby d15_57 (pc' := 58) rfl e155 A153 (by decide) (by decide) (by first | decide | simp) ?_
    intro T156 X156 W156 A156v
    have N156 := Fr.snoc X156 N153 g_l
    have E156_q1 := E153_q1.wr W156
    have F156_q1_label := F153_q1_label.other W156 (Or.inl n_l.symm)
    have F156_q1_numberAt := F153_q1_numberAt.other W156 (Or.inl n_l.symm)
    have K156 := K153.wr W156 (Or.inl (List.mem_of_getElem? (i := 0) rfl))
    have A156 : Arv Z T156.heap bl kl .byte (266 : Int32) [.int u0, .int u1, .int u2, .int (nar .byte (dg 6 q2)), .int (nar .byte (dg 5 q2)), .int (nar .byte (dg 4 q2)), .int (nar .byte (dg 3 q2)), .int (nar .byte (dg 2 q2)), .int (nar .byte (dg 1 q2)), .int (nar .byte (dg 0 q2)), .int u10, .int u11, .int u12] (.int 0) := A156v
    refine g_iloadN X156 hx hby d15_58 (pc' := 59) rfl rfl ?_
    refine g_bipush X156 hx hby d15_59 (pc' := 61) rfl (z := (10 : Int32)) rfl ?_
    refine g_idiv X156 hx hby d15_61 (pc' := 62) rfl (by decide) ?_
    refine g_istoreN X156 hx hby d15_62 (pc' := 63) rfl (l' := #[.val (.ref q1), .val (.int q2), .val (.int (10 : Int32)), .val (.int (dv 7 q2)), .val (.int (3 : Int32))]) rfl ?_
    refine g_iinc X156 hx hby d15_63 (pc' := 66) rfl rfl (l' := #[.val (.ref q1), .val (.int q2), .val (.int (10 : Int32)), .val (.int (dv 7 q2)), .val (.int (2 : Int32))]) rfl ?_
    refine g_goto X156 hx hby d15_66 (by decide) (pc' := 34) (by decide) ?_
    refine g_iload X156 hx hby d15_34 (pc' := 36) rfl rfl ?_
    refine g_aloadN X156 hx hby d15_36 (pc' := 37) rfl rfl rfl ?_
    refine g_get X156 hx hZ hown hby d15_37 (pc' := 40) rfl (w_87 hw) rfl F156_q1_numberAt ?_
    intro T157 X157 e157
    refine g_icmp_lt X157 hx hby d15_40 (by decide) (pc' := 69) (by decide) (pn := 43) rfl (fun z => absurd z (by decide)) (fun _ => ?_)
    refine g_aloadN X157 hx hby d15_43 (pc' := 44) rfl rfl rfl ?_
    refine g_get X157 hx hZ hown hby d15_44 (pc' := 47) rfl (w_38 hw) e157 F156_q1_label ?_
    intro T158 X158 e158
    refine g_iload X158 hx hby d15_47 (pc' := 49) rfl rfl ?_
    refine g_bipush X158 hx hby d15_49 (pc' := 51) rfl (z := (48 : Int32)) rfl ?_
    refine g_iloadN X158 hx hby d15_51 (pc' := 52) rfl rfl ?_
    refine g_bipush X158 hx hby d15_52 (pc' := 54) rfl (z := (10 : Int32)) rfl ?_
    refine g_irem X158 hx hby d15_54 (pc' := 55) rfl (by decide) ?_
    refine g_iadd X158 hx hby d15_55 (pc' := 56) rfl ?_
    refine g_i2b X158 hx hby d15_56 (pc' := 57) rfl ?_
    refine g_bastore X158 hx hZ 2 hby d15_57 (pc' := 58) rfl e158 A156 (by decide) (by decide) (by first | decide | simp) ?_
    intro T159 X159 W159 A159v
    have N159 := Fr.snoc X159 N156 g_l
    have E159_q1 := E156_q1.wr W159
    have F159_q1_label := F156_q1_label.other W159 (Or.inl n_l.symm)
    have F159_q1_numberAt := F156_q1_numberAt.other W159 (Or.inl n_l.symm)
    have K159 := K156.wr W159 (Or.inl (List.mem_of_getElem? (i := 0) rfl))
    have A159 : Arv Z T159.heap bl kl .byte (266 : Int32) [.int u0, .int u1, .int (nar .byte (dg 7 q2)), .int (nar .byte (dg 6 q2)), .int (nar .byte (dg 5 q2)), .int (nar .byte (dg 4 q2)), .int (nar .byte (dg 3 q2)), .int (nar .byte (dg 2 q2)), .int (nar .byte (dg 1 q2)), .int (nar .byte (dg 0 q2)), .int u10, .int u11, .int u12] (.int 0) := A159v
    refine g_iloadN X159 hx hby d15_58 (pc' := 59) rfl rfl ?_
    refine g_bipush X159 hx hby d15_59 (pc' := 61) rfl (z := (10 : Int32)) rfl ?_
    refine g_idiv X159 hx hby d15_61 (pc' := 62) rfl (by decide) ?_
    refine g_istoreN X159 hx hby d15_62 (pc' := 63) rfl (l' := #[.val (.ref q1), .val (.int q2), .val (.int (10 : Int32)), .val (.int (dv 8 q2)), .val (.int (2 : Int32))]) rfl ?_
    refine g_iinc X159 hx hby d15_63 (pc' := 66) rfl rfl (l' := #[.val (.ref q1), .val (.int q2), .val (.int (10 : Int32)), .val (.int (dv 8 q2)), .val (.int (1 : Int32))]) rfl ?_
    refine g_goto X159 hx hby d15_66 (by decide) (pc' := 34) (by decide) ?_
    refine g_iload X159 hx hby d15_34 (pc' := 36) rfl rfl ?_
    refine g_aloadN X159 hx hby d15_36 (pc' := 37) rfl rfl rfl ?_
    refine g_get X159 hx hZ hown hby d15_37 (pc' := 40) rfl (w_87 hw) rfl F159_q1_numberAt ?_
    intro T160 X160 e160
    refine g_icmp_lt X160 hx hby d15_40 (by decide) (pc' := 69) (by decide) (pn := 43) rfl (fun _ => ?_) (fun z => absurd z (by decide))
    refine g_iloadN X160 hx hby d15_69 (pc' := 70) rfl rfl ?_
    exact g_retI (Q := (fun v h L => ∃ (t0 t1 t2 t3 t4 t5 t6 t7 t8 t9 t10 : Int32), v = some (.int ((2 : Int32) + (digV q2))) ∧ Fr n0 L ∧ Keep h0 h [bl] ∧ Arv Z h bl kl .byte (266 : Int32) [.int u0, .int u1, .int t0, .int t1, .int t2, .int t3, .int t4, .int t5, .int t6, .int t7, .int t8, .int t9, .int t10] (.int 0) ∧ DIGS 1 q2 [.int u0, .int u1, .int t0, .int t1, .int t2, .int t3, .int t4, .int t5, .int t6, .int t7, .int t8, .int t9, .int t10])) X160 hx hby d15_70 hret hlk (by decide) (by decide) (by rw [e160]; exact ⟨(nar .byte (dg 7 q2)), (nar .byte (dg 6 q2)), (nar .byte (dg 5 q2)), (nar .byte (dg 4 q2)), (nar .byte (dg 3 q2)), (nar .byte (dg 2 q2)), (nar .byte (dg 1 q2)), (nar .byte (dg 0 q2)), u10, u11, u12, congrArg (fun z : Int32 => some (Value.int z)) (by rw [own_dig hd8 (by decide) (by decide)]; rfl), N159, K159, A159, own_digs hd8 (by decide) (by decide) (fun i hi => match i, hi with | 0, _ => rfl | 1, _ => rfl | 2, _ => rfl | 3, _ => rfl | 4, _ => rfl | 5, _ => rfl | 6, _ => rfl | 7, _ => rfl | (k + 8), h => absurd h (by omega))⟩)
  · refine g_aloadN X0 hx hby d15_0 (pc' := 1) rfl rfl rfl ?_
    refine g_get X0 hx hZ hown hby d15_1 (pc' := 4) rfl (w_87 hw) e0 F2 ?_
    intro T161 X161 e161
    refine g_iconst X161 hx hby d15_4 (pc' := 5) rfl (z := (1 : Int32)) rfl ?_
    refine g_iadd X161 hx hby d15_5 (pc' := 6) rfl ?_
    refine g_eqI (b := (3 : Int32)) (by decide +kernel) ?_
    refine g_istoreN X161 hx hby d15_6 (pc' := 7) rfl (l' := #[.val (.ref q1), .val (.int q2), .val (.int (3 : Int32)), .unset, .unset]) rfl ?_
    refine g_iloadN X161 hx hby d15_7 (pc' := 8) rfl rfl ?_
    refine g_bipush X161 hx hby d15_8 (pc' := 10) rfl (z := (10 : Int32)) rfl ?_
    refine g_idiv X161 hx hby d15_10 (pc' := 11) rfl (by decide) ?_
    refine g_istoreN X161 hx hby d15_11 (pc' := 12) rfl (l' := #[.val (.ref q1), .val (.int q2), .val (.int (3 : Int32)), .val (.int (dv 1 q2)), .unset]) rfl ?_
    refine g_iloadN X161 hx hby d15_12 (pc' := 13) rfl rfl ?_
    refine g_if_le X161 hx hby d15_13 (by decide) (pc' := 27) (by decide) (pn := 16) rfl (fun z => absurd z (fun z => z (own_yes 1 hd9 (by decide) (by decide)))) (fun hc13_162 => ?_)
    refine g_iinc X161 hx hby d15_16 (pc' := 19) rfl rfl (l' := #[.val (.ref q1), .val (.int q2), .val (.int (4 : Int32)), .val (.int (dv 1 q2)), .unset]) rfl ?_
    refine g_iloadN X161 hx hby d15_19 (pc' := 20) rfl rfl ?_
    refine g_bipush X161 hx hby d15_20 (pc' := 22) rfl (z := (10 : Int32)) rfl ?_
    refine g_idiv X161 hx hby d15_22 (pc' := 23) rfl (by decide) ?_
    refine g_istoreN X161 hx hby d15_23 (pc' := 24) rfl (l' := #[.val (.ref q1), .val (.int q2), .val (.int (4 : Int32)), .val (.int (dv 2 q2)), .unset]) rfl ?_
    refine g_goto X161 hx hby d15_24 (by decide) (pc' := 12) (by decide) ?_
    refine g_iloadN X161 hx hby d15_12 (pc' := 13) rfl rfl ?_
    refine g_if_le X161 hx hby d15_13 (by decide) (pc' := 27) (by decide) (pn := 16) rfl (fun z => absurd z (fun z => z (own_yes 2 hd9 (by decide) (by decide)))) (fun hc13_163 => ?_)
    refine g_iinc X161 hx hby d15_16 (pc' := 19) rfl rfl (l' := #[.val (.ref q1), .val (.int q2), .val (.int (5 : Int32)), .val (.int (dv 2 q2)), .unset]) rfl ?_
    refine g_iloadN X161 hx hby d15_19 (pc' := 20) rfl rfl ?_
    refine g_bipush X161 hx hby d15_20 (pc' := 22) rfl (z := (10 : Int32)) rfl ?_
    refine g_idiv X161 hx hby d15_22 (pc' := 23) rfl (by decide) ?_
    refine g_istoreN X161 hx hby d15_23 (pc' := 24) rfl (l' := #[.val (.ref q1), .val (.int q2), .val (.int (5 : Int32)), .val (.int (dv 3 q2)), .unset]) rfl ?_
    refine g_goto X161 hx hby d15_24 (by decide) (pc' := 12) (by decide) ?_
    refine g_iloadN X161 hx hby d15_12 (pc' := 13) rfl rfl ?_
    refine g_if_le X161 hx hby d15_13 (by decide) (pc' := 27) (by decide) (pn := 16) rfl (fun z => absurd z (fun z => z (own_yes 3 hd9 (by decide) (by decide)))) (fun hc13_164 => ?_)
    refine g_iinc X161 hx hby d15_16 (pc' := 19) rfl rfl (l' := #[.val (.ref q1), .val (.int q2), .val (.int (6 : Int32)), .val (.int (dv 3 q2)), .unset]) rfl ?_
    refine g_iloadN X161 hx hby d15_19 (pc' := 20) rfl rfl ?_
    refine g_bipush X161 hx hby d15_20 (pc' := 22) rfl (z := (10 : Int32)) rfl ?_
    refine g_idiv X161 hx hby d15_22 (pc' := 23) rfl (by decide) ?_
    refine g_istoreN X161 hx hby d15_23 (pc' := 24) rfl (l' := #[.val (.ref q1), .val (.int q2), .val (.int (6 : Int32)), .val (.int (dv 4 q2)), .unset]) rfl ?_
    refine g_goto X161 hx hby d15_24 (by decide) (pc' := 12) (by decide) ?_
    refine g_iloadN X161 hx hby d15_12 (pc' := 13) rfl rfl ?_
    refine g_if_le X161 hx hby d15_13 (by decide) (pc' := 27) (by decide) (pn := 16) rfl (fun z => absurd z (fun z => z (own_yes 4 hd9 (by decide) (by decide)))) (fun hc13_165 => ?_)
    refine g_iinc X161 hx hby d15_16 (pc' := 19) rfl rfl (l' := #[.val (.ref q1), .val (.int q2), .val (.int (7 : Int32)), .val (.int (dv 4 q2)), .unset]) rfl ?_
    refine g_iloadN X161 hx hby d15_19 (pc' := 20) rfl rfl ?_
    refine g_bipush X161 hx hby d15_20 (pc' := 22) rfl (z := (10 : Int32)) rfl ?_
    refine g_idiv X161 hx hby d15_22 (pc' := 23) rfl (by decide) ?_
    refine g_istoreN X161 hx hby d15_23 (pc' := 24) rfl (l' := #[.val (.ref q1), .val (.int q2), .val (.int (7 : Int32)), .val (.int (dv 5 q2)), .unset]) rfl ?_
    refine g_goto X161 hx hby d15_24 (by decide) (pc' := 12) (by decide) ?_
    refine g_iloadN X161 hx hby d15_12 (pc' := 13) rfl rfl ?_
    refine g_if_le X161 hx hby d15_13 (by decide) (pc' := 27) (by decide) (pn := 16) rfl (fun z => absurd z (fun z => z (own_yes 5 hd9 (by decide) (by decide)))) (fun hc13_166 => ?_)
    refine g_iinc X161 hx hby d15_16 (pc' := 19) rfl rfl (l' := #[.val (.ref q1), .val (.int q2), .val (.int (8 : Int32)), .val (.int (dv 5 q2)), .unset]) rfl ?_
    refine g_iloadN X161 hx hby d15_19 (pc' := 20) rfl rfl ?_
    refine g_bipush X161 hx hby d15_20 (pc' := 22) rfl (z := (10 : Int32)) rfl ?_
    refine g_idiv X161 hx hby d15_22 (pc' := 23) rfl (by decide) ?_
    refine g_istoreN X161 hx hby d15_23 (pc' := 24) rfl (l' := #[.val (.ref q1), .val (.int q2), .val (.int (8 : Int32)), .val (.int (dv 6 q2)), .unset]) rfl ?_
    refine g_goto X161 hx hby d15_24 (by decide) (pc' := 12) (by decide) ?_
    refine g_iloadN X161 hx hby d15_12 (pc' := 13) rfl rfl ?_
    refine g_if_le X161 hx hby d15_13 (by decide) (pc' := 27) (by decide) (pn := 16) rfl (fun z => absurd z (fun z => z (own_yes 6 hd9 (by decide) (by decide)))) (fun hc13_167 => ?_)
    refine g_iinc X161 hx hby d15_16 (pc' := 19) rfl rfl (l' := #[.val (.ref q1), .val (.int q2), .val (.int (9 : Int32)), .val (.int (dv 6 q2)), .unset]) rfl ?_
    refine g_iloadN X161 hx hby d15_19 (pc' := 20) rfl rfl ?_
    refine g_bipush X161 hx hby d15_20 (pc' := 22) rfl (z := (10 : Int32)) rfl ?_
    refine g_idiv X161 hx hby d15_22 (pc' := 23) rfl (by decide) ?_
    refine g_istoreN X161 hx hby d15_23 (pc' := 24) rfl (l' := #[.val (.ref q1), .val (.int q2), .val (.int (9 : Int32)), .val (.int (dv 7 q2)), .unset]) rfl ?_
    refine g_goto X161 hx hby d15_24 (by decide) (pc' := 12) (by decide) ?_
    refine g_iloadN X161 hx hby d15_12 (pc' := 13) rfl rfl ?_
    refine g_if_le X161 hx hby d15_13 (by decide) (pc' := 27) (by decide) (pn := 16) rfl (fun z => absurd z (fun z => z (own_yes 7 hd9 (by decide) (by decide)))) (fun hc13_168 => ?_)
    refine g_iinc X161 hx hby d15_16 (pc' := 19) rfl rfl (l' := #[.val (.ref q1), .val (.int q2), .val (.int (10 : Int32)), .val (.int (dv 7 q2)), .unset]) rfl ?_
    refine g_iloadN X161 hx hby d15_19 (pc' := 20) rfl rfl ?_
    refine g_bipush X161 hx hby d15_20 (pc' := 22) rfl (z := (10 : Int32)) rfl ?_
    refine g_idiv X161 hx hby d15_22 (pc' := 23) rfl (by decide) ?_
    refine g_istoreN X161 hx hby d15_23 (pc' := 24) rfl (l' := #[.val (.ref q1), .val (.int q2), .val (.int (10 : Int32)), .val (.int (dv 8 q2)), .unset]) rfl ?_
    refine g_goto X161 hx hby d15_24 (by decide) (pc' := 12) (by decide) ?_
    refine g_iloadN X161 hx hby d15_12 (pc' := 13) rfl rfl ?_
    refine g_if_le X161 hx hby d15_13 (by decide) (pc' := 27) (by decide) (pn := 16) rfl (fun z => absurd z (fun z => z (own_yes 8 hd9 (by decide) (by decide)))) (fun hc13_169 => ?_)
    refine g_iinc X161 hx hby d15_16 (pc' := 19) rfl rfl (l' := #[.val (.ref q1), .val (.int q2), .val (.int (11 : Int32)), .val (.int (dv 8 q2)), .unset]) rfl ?_
    refine g_iloadN X161 hx hby d15_19 (pc' := 20) rfl rfl ?_
    refine g_bipush X161 hx hby d15_20 (pc' := 22) rfl (z := (10 : Int32)) rfl ?_
    refine g_idiv X161 hx hby d15_22 (pc' := 23) rfl (by decide) ?_
    refine g_istoreN X161 hx hby d15_23 (pc' := 24) rfl (l' := #[.val (.ref q1), .val (.int q2), .val (.int (11 : Int32)), .val (.int (dv 9 q2)), .unset]) rfl ?_
    refine g_goto X161 hx hby d15_24 (by decide) (pc' := 12) (by decide) ?_
    refine g_iloadN X161 hx hby d15_12 (pc' := 13) rfl rfl ?_
    refine g_if_le X161 hx hby d15_13 (by decide) (pc' := 27) (by decide) (pn := 16) rfl (fun hc13_170 => ?_) (fun z => absurd z (own_no hd9))
    refine g_iloadN X161 hx hby d15_27 (pc' := 28) rfl rfl ?_
    refine g_istoreN X161 hx hby d15_28 (pc' := 29) rfl (l' := #[.val (.ref q1), .val (.int q2), .val (.int (11 : Int32)), .val (.int (dv 0 q2)), .unset]) rfl ?_
    refine g_iloadN X161 hx hby d15_29 (pc' := 30) rfl rfl ?_
    refine g_iconst X161 hx hby d15_30 (pc' := 31) rfl (z := (1 : Int32)) rfl ?_
    refine g_isub X161 hx hby d15_31 (pc' := 32) rfl ?_
    refine g_eqI (b := (10 : Int32)) (by decide +kernel) ?_
    refine g_istore X161 hx hby d15_32 (pc' := 34) rfl (l' := #[.val (.ref q1), .val (.int q2), .val (.int (11 : Int32)), .val (.int (dv 0 q2)), .val (.int (10 : Int32))]) rfl ?_
    refine g_iload X161 hx hby d15_34 (pc' := 36) rfl rfl ?_
    refine g_aloadN X161 hx hby d15_36 (pc' := 37) rfl rfl rfl ?_
    refine g_get X161 hx hZ hown hby d15_37 (pc' := 40) rfl (w_87 hw) e161 F2 ?_
    intro T171 X171 e171
    refine g_icmp_lt X171 hx hby d15_40 (by decide) (pc' := 69) (by decide) (pn := 43) rfl (fun z => absurd z (by decide)) (fun _ => ?_)
    refine g_aloadN X171 hx hby d15_43 (pc' := 44) rfl rfl rfl ?_
    refine g_get X171 hx hZ hown hby d15_44 (pc' := 47) rfl (w_38 hw) e171 F1 ?_
    intro T172 X172 e172
    refine g_iload X172 hx hby d15_47 (pc' := 49) rfl rfl ?_
    refine g_bipush X172 hx hby d15_49 (pc' := 51) rfl (z := (48 : Int32)) rfl ?_
    refine g_iloadN X172 hx hby d15_51 (pc' := 52) rfl rfl ?_
    refine g_bipush X172 hx hby d15_52 (pc' := 54) rfl (z := (10 : Int32)) rfl ?_
    refine g_irem X172 hx hby d15_54 (pc' := 55) rfl (by decide) ?_
    refine g_iadd X172 hx hby d15_55 (pc' := 56) rfl ?_
    refine g_i2b X172 hx hby d15_56 (pc' := 57) rfl ?_
    refine g_bastore X172 hx hZ 10 hby d15_57 (pc' := 58) rfl e172 A_l (by decide) (by decide) (by first | decide | simp) ?_
    intro T173 X173 W173 A173v
    have N173 := Fr.snoc X173 N0 g_l
    have E173_q1 := E_a.wr W173
    have F173_q1_label := F1.other W173 (Or.inl n_l.symm)
    have F173_q1_numberAt := F2.other W173 (Or.inl n_l.symm)
    have K173 := (Keep.refl h0 [bl]).wr W173 (Or.inl (List.mem_of_getElem? (i := 0) rfl))
    have A173 : Arv Z T173.heap bl kl .byte (266 : Int32) [.int u0, .int u1, .int u2, .int u3, .int u4, .int u5, .int u6, .int u7, .int u8, .int u9, .int (nar .byte (dg 0 q2)), .int u11, .int u12] (.int 0) := A173v
    refine g_iloadN X173 hx hby d15_58 (pc' := 59) rfl rfl ?_
    refine g_bipush X173 hx hby d15_59 (pc' := 61) rfl (z := (10 : Int32)) rfl ?_
    refine g_idiv X173 hx hby d15_61 (pc' := 62) rfl (by decide) ?_
    refine g_istoreN X173 hx hby d15_62 (pc' := 63) rfl (l' := #[.val (.ref q1), .val (.int q2), .val (.int (11 : Int32)), .val (.int (dv 1 q2)), .val (.int (10 : Int32))]) rfl ?_
    refine g_iinc X173 hx hby d15_63 (pc' := 66) rfl rfl (l' := #[.val (.ref q1), .val (.int q2), .val (.int (11 : Int32)), .val (.int (dv 1 q2)), .val (.int (9 : Int32))]) rfl ?_
    refine g_goto X173 hx hby d15_66 (by decide) (pc' := 34) (by decide) ?_
    refine g_iload X173 hx hby d15_34 (pc' := 36) rfl rfl ?_
    refine g_aloadN X173 hx hby d15_36 (pc' := 37) rfl rfl rfl ?_
    refine g_get X173 hx hZ hown hby d15_37 (pc' := 40) rfl (w_87 hw) rfl F173_q1_numberAt ?_
    intro T174 X174 e174
    refine g_icmp_lt X174 hx hby d15_40 (by decide) (pc' := 69) (by decide) (pn := 43) rfl (fun z => absurd z (by decide)) (fun _ => ?_)
    refine g_aloadN X174 hx hby d15_43 (pc' := 44) rfl rfl rfl ?_
    refine g_get X174 hx hZ hown hby d15_44 (pc' := 47) rfl (w_38 hw) e174 F173_q1_label ?_
    intro T175 X175 e175
    refine g_iload X175 hx hby d15_47 (pc' := 49) rfl rfl ?_
    refine g_bipush X175 hx hby d15_49 (pc' := 51) rfl (z := (48 : Int32)) rfl ?_
    refine g_iloadN X175 hx hby d15_51 (pc' := 52) rfl rfl ?_
    refine g_bipush X175 hx hby d15_52 (pc' := 54) rfl (z := (10 : Int32)) rfl ?_
    refine g_irem X175 hx hby d15_54 (pc' := 55) rfl (by decide) ?_
    refine g_iadd X175 hx hby d15_55 (pc' := 56) rfl ?_
    refine g_i2b X175 hx hby d15_56 (pc' := 57) rfl ?_
    refine g_bastore X175 hx hZ 9 hby d15_57 (pc' := 58) rfl e175 A173 (by decide) (by decide) (by first | decide | simp) ?_
    intro T176 X176 W176 A176v
    have N176 := Fr.snoc X176 N173 g_l
    have E176_q1 := E173_q1.wr W176
    have F176_q1_label := F173_q1_label.other W176 (Or.inl n_l.symm)
    have F176_q1_numberAt := F173_q1_numberAt.other W176 (Or.inl n_l.symm)
    have K176 := K173.wr W176 (Or.inl (List.mem_of_getElem? (i := 0) rfl))
    have A176 : Arv Z T176.heap bl kl .byte (266 : Int32) [.int u0, .int u1, .int u2, .int u3, .int u4, .int u5, .int u6, .int u7, .int u8, .int (nar .byte (dg 1 q2)), .int (nar .byte (dg 0 q2)), .int u11, .int u12] (.int 0) := A176v
    refine g_iloadN X176 hx hby d15_58 (pc' := 59) rfl rfl ?_
    refine g_bipush X176 hx hby d15_59 (pc' := 61) rfl (z := (10 : Int32)) rfl ?_
    refine g_idiv X176 hx hby d15_61 (pc' := 62) rfl (by decide) ?_
    refine g_istoreN X176 hx hby d15_62 (pc' := 63) rfl (l' := #[.val (.ref q1), .val (.int q2), .val (.int (11 : Int32)), .val (.int (dv 2 q2)), .val (.int (9 : Int32))]) rfl ?_
    refine g_iinc X176 hx hby d15_63 (pc' := 66) rfl rfl (l' := #[.val (.ref q1), .val (.int q2), .val (.int (11 : Int32)), .val (.int (dv 2 q2)), .val (.int (8 : Int32))]) rfl ?_
    refine g_goto X176 hx hby d15_66 (by decide) (pc' := 34) (by decide) ?_
    refine g_iload X176 hx hby d15_34 (pc' := 36) rfl rfl ?_
    refine g_aloadN X176 hx hby d15_36 (pc' := 37) rfl rfl rfl ?_
    refine g_get X176 hx hZ hown hby d15_37 (pc' := 40) rfl (w_87 hw) rfl F176_q1_numberAt ?_
    intro T177 X177 e177
    refine g_icmp_lt X177 hx hby d15_40 (by decide) (pc' := 69) (by decide) (pn := 43) rfl (fun z => absurd z (by decide)) (fun _ => ?_)
    refine g_aloadN X177 hx hby d15_43 (pc' := 44) rfl rfl rfl ?_
    refine g_get X177 hx hZ hown hby d15_44 (pc' := 47) rfl (w_38 hw) e177 F176_q1_label ?_
    intro T178 X178 e178
    refine g_iload X178 hx hby d15_47 (pc' := 49) rfl rfl ?_
    refine g_bipush X178 hx hby d15_49 (pc' := 51) rfl (z := (48 : Int32)) rfl ?_
    refine g_iloadN X178 hx hby d15_51 (pc' := 52) rfl rfl ?_
    refine g_bipush X178 hx hby d15_52 (pc' := 54) rfl (z := (10 : Int32)) rfl ?_
    refine g_irem X178 hx hby d15_54 (pc' := 55) rfl (by decide) ?_
    refine g_iadd X178 hx hby d15_55 (pc' := 56) rfl ?_
    refine g_i2b X178 hx hby d15_56 (pc' := 57) rfl ?_
    refine g_bastore X178 hx hZ 8 hby d15_57 (pc' := 58) rfl e178 A176 (by decide) (by decide) (by first | decide | simp) ?_
    intro T179 X179 W179 A179v
    have N179 := Fr.snoc X179 N176 g_l
    have E179_q1 := E176_q1.wr W179
    have F179_q1_label := F176_q1_label.other W179 (Or.inl n_l.symm)
    have F179_q1_numberAt := F176_q1_numberAt.other W179 (Or.inl n_l.symm)
    have K179 := K176.wr W179 (Or.inl (List.mem_of_getElem? (i := 0) rfl))
    have A179 : Arv Z T179.heap bl kl .byte (266 : Int32) [.int u0, .int u1, .int u2, .int u3, .int u4, .int u5, .int u6, .int u7, .int (nar .byte (dg 2 q2)), .int (nar .byte (dg 1 q2)), .int (nar .byte (dg 0 q2)), .int u11, .int u12] (.int 0) := A179v
    refine g_iloadN X179 hx hby d15_58 (pc' := 59) rfl rfl ?_
    refine g_bipush X179 hx hby d15_59 (pc' := 61) rfl (z := (10 : Int32)) rfl ?_
    refine g_idiv X179 hx hby d15_61 (pc' := 62) rfl (by decide) ?_
    refine g_istoreN X179 hx hby d15_62 (pc' := 63) rfl (l' := #[.val (.ref q1), .val (.int q2), .val (.int (11 : Int32)), .val (.int (dv 3 q2)), .val (.int (8 : Int32))]) rfl ?_
    refine g_iinc X179 hx hby d15_63 (pc' := 66) rfl rfl (l' := #[.val (.ref q1), .val (.int q2), .val (.int (11 : Int32)), .val (.int (dv 3 q2)), .val (.int (7 : Int32))]) rfl ?_
    refine g_goto X179 hx hby d15_66 (by decide) (pc' := 34) (by decide) ?_
    refine g_iload X179 hx hby d15_34 (pc' := 36) rfl rfl ?_
    refine g_aloadN X179 hx hby d15_36 (pc' := 37) rfl rfl rfl ?_
    refine g_get X179 hx hZ hown hby d15_37 (pc' := 40) rfl (w_87 hw) rfl F179_q1_numberAt ?_
    intro T180 X180 e180
    refine g_icmp_lt X180 hx hby d15_40 (by decide) (pc' := 69) (by decide) (pn := 43) rfl (fun z => absurd z (by decide)) (fun _ => ?_)
    refine g_aloadN X180 hx hby d15_43 (pc' := 44) rfl rfl rfl ?_
    refine g_get X180 hx hZ hown hby d15_44 (pc' := 47) rfl (w_38 hw) e180 F179_q1_label ?_
    intro T181 X181 e181
    refine g_iload X181 hx hby d15_47 (pc' := 49) rfl rfl ?_
    refine g_bipush X181 hx hby d15_49 (pc' := 51) rfl (z := (48 : Int32)) rfl ?_
    refine g_iloadN X181 hx hby d15_51 (pc' := 52) rfl rfl ?_
    refine g_bipush X181 hx hby d15_52 (pc' := 54) rfl (z := (10 : Int32)) rfl ?_
    refine g_irem X181 hx hby d15_54 (pc' := 55) rfl (by decide) ?_
    refine g_iadd X181 hx hby d15_55 (pc' := 56) rfl ?_
    refine g_i2b X181 hx hby d15_56 (pc' := 57) rfl ?_
    refine g_bastore X181 hx hZ 7 hby d15_57 (pc' := 58) rfl e181 A179 (by decide) (by decide) (by first | decide | simp) ?_
    intro T182 X182 W182 A182v
    have N182 := Fr.snoc X182 N179 g_l
    have E182_q1 := E179_q1.wr W182
    have F182_q1_label := F179_q1_label.other W182 (Or.inl n_l.symm)
    have F182_q1_numberAt := F179_q1_numberAt.other W182 (Or.inl n_l.symm)
    have K182 := K179.wr W182 (Or.inl (List.mem_of_getElem? (i := 0) rfl))
    have A182 : Arv Z T182.heap bl kl .byte (266 : Int32) [.int u0, .int u1, .int u2, .int u3, .int u4, .int u5, .int u6, .int (nar .byte (dg 3 q2)), .int (nar .byte (dg 2 q2)), .int (nar .byte (dg 1 q2)), .int (nar .byte (dg 0 q2)), .int u11, .int u12] (.int 0) := A182v
    refine g_iloadN X182 hx hby d15_58 (pc' := 59) rfl rfl ?_
    refine g_bipush X182 hx hby d15_59 (pc' := 61) rfl (z := (10 : Int32)) rfl ?_
    refine g_idiv X182 hx hby d15_61 (pc' := 62) rfl (by decide) ?_
    refine g_istoreN X182 hx hby d15_62 (pc' := 63) rfl (l' := #[.val (.ref q1), .val (.int q2), .val (.int (11 : Int32)), .val (.int (dv 4 q2)), .val (.int (7 : Int32))]) rfl ?_
    refine g_iinc X182 hx hby d15_63 (pc' := 66) rfl rfl (l' := #[.val (.ref q1), .val (.int q2), .val (.int (11 : Int32)), .val (.int (dv 4 q2)), .val (.int (6 : Int32))]) rfl ?_
    refine g_goto X182 hx hby d15_66 (by decide) (pc' := 34) (by decide) ?_
    refine g_iload X182 hx hby d15_34 (pc' := 36) rfl rfl ?_
    refine g_aloadN X182 hx hby d15_36 (pc' := 37) rfl rfl rfl ?_
    refine g_get X182 hx hZ hown hby d15_37 (pc' := 40) rfl (w_87 hw) rfl F182_q1_numberAt ?_
    intro T183 X183 e183
    refine g_icmp_lt X183 hx hby d15_40 (by decide) (pc' := 69) (by decide) (pn := 43) rfl (fun z => absurd z (by decide)) (fun _ => ?_)
    refine g_aloadN X183 hx hby d15_43 (pc' := 44) rfl rfl rfl ?_
    refine g_get X183 hx hZ hown hby d15_44 (pc' := 47) rfl (w_38 hw) e183 F182_q1_label ?_
    intro T184 X184 e184
    refine g_iload X184 hx hby d15_47 (pc' := 49) rfl rfl ?_
    refine g_bipush X184 hx hby d15_49 (pc' := 51) rfl (z := (48 : Int32)) rfl ?_
    refine g_iloadN X184 hx hby d15_51 (pc' := 52) rfl rfl ?_
    refine g_bipush X184 hx hby d15_52 (pc' := 54) rfl (z := (10 : Int32)) rfl ?_
    refine g_irem X184 hx hby d15_54 (pc' := 55) rfl (by decide) ?_
    refine g_iadd X184 hx hby d15_55 (pc' := 56) rfl ?_
    refine g_i2b X184 hx hby d15_56 (pc' := 57) rfl ?_
    refine g_bastore X184 hx hZ 6 hby d15_57 (pc' := 58) rfl e184 A182 (by decide) (by decide) (by first | decide | simp) ?_
    intro T185 X185 W185 A185v
    have N185 := Fr.snoc X185 N182 g_l
    have E185_q1 := E182_q1.wr W185
    have F185_q1_label := F182_q1_label.other W185 (Or.inl n_l.symm)
    have F185_q1_numberAt := F182_q1_numberAt.other W185 (Or.inl n_l.symm)
    have K185 := K182.wr W185 (Or.inl (List.mem_of_getElem? (i := 0) rfl))
    have A185 : Arv Z T185.heap bl kl .byte (266 : Int32) [.int u0, .int u1, .int u2, .int u3, .int u4, .int u5, .int (nar .byte (dg 4 q2)), .int (nar .byte (dg 3 q2)), .int (nar .byte (dg 2 q2)), .int (nar .byte (dg 1 q2)), .int (nar .byte (dg 0 q2)), .int u11, .int u12] (.int 0) := A185v
    refine g_iloadN X185 hx hby d15_58 (pc' := 59) rfl rfl ?_
    refine g_bipush X185 hx hby d15_59 (pc' := 61) rfl (z := (10 : Int32)) rfl ?_
    refine g_idiv X185 hx hby d15_61 (pc' := 62) rfl (by decide) ?_
    refine g_istoreN X185 hx hby d15_62 (pc' := 63) rfl (l' := #[.val (.ref q1), .val (.int q2), .val (.int (11 : Int32)), .val (.int (dv 5 q2)), .val (.int (6 : Int32))]) rfl ?_
    refine g_iinc X185 hx hby d15_63 (pc' := 66) rfl rfl (l' := #[.val (.ref q1), .val (.int q2), .val (.int (11 : Int32)), .val (.int (dv 5 q2)), .val (.int (5 : Int32))]) rfl ?_
    refine g_goto X185 hx hby d15_66 (by decide) (pc' := 34) (by decide) ?_
    refine g_iload X185 hx hby d15_34 (pc' := 36) rfl rfl ?_
    refine g_aloadN X185 hx hby d15_36 (pc' := 37) rfl rfl rfl ?_
    refine g_get X185 hx hZ hown hby d15_37 (pc' := 40) rfl (w_87 hw) rfl F185_q1_numberAt ?_
    intro T186 X186 e186
    refine g_icmp_lt X186 hx hby d15_40 (by decide) (pc' := 69) (by decide) (pn := 43) rfl (fun z => absurd z (by decide)) (fun _ => ?_)
    refine g_aloadN X186 hx hby d15_43 (pc' := 44) rfl rfl rfl ?_
    refine g_get X186 hx hZ hown hby d15_44 (pc' := 47) rfl (w_38 hw) e186 F185_q1_label ?_
    intro T187 X187 e187
    refine g_iload X187 hx hby d15_47 (pc' := 49) rfl rfl ?_
    refine g_bipush X187 hx hby d15_49 (pc' := 51) rfl (z := (48 : Int32)) rfl ?_
    refine g_iloadN X187 hx hby d15_51 (pc' := 52) rfl rfl ?_
    refine g_bipush X187 hx hby d15_52 (pc' := 54) rfl (z := (10 : Int32)) rfl ?_
    refine g_irem X187 hx hby d15_54 (pc' := 55) rfl (by decide) ?_
    refine g_iadd X187 hx hby d15_55 (pc' := 56) rfl ?_
    refine g_i2b X187 hx hby d15_56 (pc' := 57) rfl ?_
    refine g_bastore X187 hx hZ 5 hby d15_57 (pc' := 58) rfl e187 A185 (by decide) (by decide) (by first | decide | simp) ?_
    intro T188 X188 W188 A188v
    have N188 := Fr.snoc X188 N185 g_l
    have E188_q1 := E185_q1.wr W188
    have F188_q1_label := F185_q1_label.other W188 (Or.inl n_l.symm)
    have F188_q1_numberAt := F185_q1_numberAt.other W188 (Or.inl n_l.symm)
    have K188 := K185.wr W188 (Or.inl (List.mem_of_getElem? (i := 0) rfl))
    have A188 : Arv Z T188.heap bl kl .byte (266 : Int32) [.int u0, .int u1, .int u2, .int u3, .int u4, .int (nar .byte (dg 5 q2)), .int (nar .byte (dg 4 q2)), .int (nar .byte (dg 3 q2)), .int (nar .byte (dg 2 q2)), .int (nar .byte (dg 1 q2)), .int (nar .byte (dg 0 q2)), .int u11, .int u12] (.int 0) := A188v
    refine g_iloadN X188 hx hby d15_58 (pc' := 59) rfl rfl ?_
    refine g_bipush X188 hx hby d15_59 (pc' := 61) rfl (z := (10 : Int32)) rfl ?_
    refine g_idiv X188 hx hby d15_61 (pc' := 62) rfl (by decide) ?_
    refine g_istoreN X188 hx hby d15_62 (pc' := 63) rfl (l' := #[.val (.ref q1), .val (.int q2), .val (.int (11 : Int32)), .val (.int (dv 6 q2)), .val (.int (5 : Int32))]) rfl ?_
    refine g_iinc X188 hx hby d15_63 (pc' := 66) rfl rfl (l' := #[.val (.ref q1), .val (.int q2), .val (.int (11 : Int32)), .val (.int (dv 6 q2)), .val (.int (4 : Int32))]) rfl ?_
    refine g_goto X188 hx hby d15_66 (by decide) (pc' := 34) (by decide) ?_
    refine g_iload X188 hx hby d15_34 (pc' := 36) rfl rfl ?_
    refine g_aloadN X188 hx hby d15_36 (pc' := 37) rfl rfl rfl ?_
    refine g_get X188 hx hZ hown hby d15_37 (pc' := 40) rfl (w_87 hw) rfl F188_q1_numberAt ?_
    intro T189 X189 e189
    refine g_icmp_lt X189 hx hby d15_40 (by decide) (pc' := 69) (by decide) (pn := 43) rfl (fun z => absurd z (by decide)) (fun _ => ?_)
    refine g_aloadN X189 hx hby d15_43 (pc' := 44) rfl rfl rfl ?_
    refine g_get X189 hx hZ hown hby d15_44 (pc' := 47) rfl (w_38 hw) e189 F188_q1_label ?_
    intro T190 X190 e190
    refine g_iload X190 hx hby d15_47 (pc' := 49) rfl rfl ?_
    refine g_bipush X190 hx hby d15_49 (pc' := 51) rfl (z := (48 : Int32)) rfl ?_
    refine g_iloadN X190 hx hby d15_51 (pc' := 52) rfl rfl ?_
    refine g_bipush X190 hx hby d15_52 (pc' := 54) rfl (z := (10 : Int32)) rfl ?_
    refine g_irem X190 hx hby d15_54 (pc' := 55) rfl (by decide) ?_
    refine g_iadd X190 hx hby d15_55 (pc' := 56) rfl ?_
    refine g_i2b X190 hx hby d15_56 (pc' := 57) rfl ?_
    refine g_bastore X190 hx hZ 4 hby d15_57 (pc' := 58) rfl e190 A188 (by decide) (by decide) (by first | decide | simp) ?_
    intro T191 X191 W191 A191v
    have N191 := Fr.snoc X191 N188 g_l
    have E191_q1 := E188_q1.wr W191
    have F191_q1_label := F188_q1_label.other W191 (Or.inl n_l.symm)
    have F191_q1_numberAt := F188_q1_numberAt.other W191 (Or.inl n_l.symm)
    have K191 := K188.wr W191 (Or.inl (List.mem_of_getElem? (i := 0) rfl))
    have A191 : Arv Z T191.heap bl kl .byte (266 : Int32) [.int u0, .int u1, .int u2, .int u3, .int (nar .byte (dg 6 q2)), .int (nar .byte (dg 5 q2)), .int (nar .byte (dg 4 q2)), .int (nar .byte (dg 3 q2)), .int (nar .byte (dg 2 q2)), .int (nar .byte (dg 1 q2)), .int (nar .byte (dg 0 q2)), .int u11, .int u12] (.int 0) := A191v
    refine g_iloadN X191 hx hby d15_58 (pc' := 59) rfl rfl ?_
    refine g_bipush X191 hx hby d15_59 (pc' := 61) rfl (z := (10 : Int32)) rfl ?_
    refine g_idiv X191 hx hby d15_61 (pc' := 62) rfl (by decide) ?_
    refine g_istoreN X191 hx hby d15_62 (pc' := 63) rfl (l' := #[.val (.ref q1), .val (.int q2), .val (.int (11 : Int32)), .val (.int (dv 7 q2)), .val (.int (4 : Int32))]) rfl ?_
    refine g_iinc X191 hx hby d15_63 (pc' := 66) rfl rfl (l' := #[.val (.ref q1), .val (.int q2), .val (.int (11 : Int32)), .val (.int (dv 7 q2)), .val (.int (3 : Int32))]) rfl ?_
    refine g_goto X191 hx hby d15_66 (by decide) (pc' := 34) (by decide) ?_
    refine g_iload X191 hx hby d15_34 (pc' := 36) rfl rfl ?_
    refine g_aloadN X191 hx hby d15_36 (pc' := 37) rfl rfl rfl ?_
    refine g_get X191 hx hZ hown hby d15_37 (pc' := 40) rfl (w_87 hw) rfl F191_q1_numberAt ?_
    intro T192 X192 e192
    refine g_icmp_lt X192 hx hby d15_40 (by decide) (pc' := 69) (by decide) (pn := 43) rfl (fun z => absurd z (by decide)) (fun _ => ?_)
    refine g_aloadN X192 hx hby d15_43 (pc' := 44) rfl rfl rfl ?_
    refine g_get X192 hx hZ hown hby d15_44 (pc' := 47) rfl (w_38 hw) e192 F191_q1_label ?_
    intro T193 X193 e193
    refine g_iload X193 hx hby d15_47 (pc' := 49) rfl rfl ?_
    refine g_bipush X193 hx hby d15_49 (pc' := 51) rfl (z := (48 : Int32)) rfl ?_
    refine g_iloadN X193 hx hby d15_51 (pc' := 52) rfl rfl ?_
    refine g_bipush X193 hx hby d15_52 (pc' := 54) rfl (z := (10 : Int32)) rfl ?_
    refine g_irem X193 hx hby d15_54 (pc' := 55) rfl (by decide) ?_
    refine g_iadd X193 hx hby d15_55 (pc' := 56) rfl ?_
    refine g_i2b X193 hx hby d15_56 (pc' := 57) rfl ?_
    refine g_bastore X193 hx hZ 3 hby d15_57 (pc' := 58) rfl e193 A191 (by decide) (by decide) (by first | decide | simp) ?_
    intro T194 X194 W194 A194v
    have N194 := Fr.snoc X194 N191 g_l
    have E194_q1 := E191_q1.wr W194
    have F194_q1_label := F191_q1_label.other W194 (Or.inl n_l.symm)
    have F194_q1_numberAt := F191_q1_numberAt.other W194 (Or.inl n_l.symm)
    have K194 := K191.wr W194 (Or.inl (List.mem_of_getElem? (i := 0) rfl))
    have A194 : Arv Z T194.heap bl kl .byte (266 : Int32) [.int u0, .int u1, .int u2, .int (nar .byte (dg 7 q2)), .int (nar .byte (dg 6 q2)), .int (nar .byte (dg 5 q2)), .int (nar .byte (dg 4 q2)), .int (nar .byte (dg 3 q2)), .int (nar .byte (dg 2 q2)), .int (nar .byte (dg 1 q2)), .int (nar .byte (dg 0 q2)), .int u11, .int u12] (.int 0) := A194v
    refine g_iloadN X194 hx hby d15_58 (pc' := 59) rfl rfl ?_
    refine g_bipush X194 hx hby d15_59 (pc' := 61) rfl (z := (10 : Int32)) rfl ?_
    refine g_idiv X194 hx hby d15_61 (pc' := 62) rfl (by decide) ?_
    refine g_istoreN X194 hx hby d15_62 (pc' := 63) rfl (l' := #[.val (.ref q1), .val (.int q2), .val (.int (11 : Int32)), .val (.int (dv 8 q2)), .val (.int (3 : Int32))]) rfl ?_
    refine g_iinc X194 hx hby d15_63 (pc' := 66) rfl rfl (l' := #[.val (.ref q1), .val (.int q2), .val (.int (11 : Int32)), .val (.int (dv 8 q2)), .val (.int (2 : Int32))]) rfl ?_
    refine g_goto X194 hx hby d15_66 (by decide) (pc' := 34) (by decide) ?_
    refine g_iload X194 hx hby d15_34 (pc' := 36) rfl rfl ?_
    refine g_aloadN X194 hx hby d15_36 (pc' := 37) rfl rfl rfl ?_
    refine g_get X194 hx hZ hown hby d15_37 (pc' := 40) rfl (w_87 hw) rfl F194_q1_numberAt ?_
    intro T195 X195 e195
    refine g_icmp_lt X195 hx hby d15_40 (by decide) (pc' := 69) (by decide) (pn := 43) rfl (fun z => absurd z (by decide)) (fun _ => ?_)
    refine g_aloadN X195 hx hby d15_43 (pc' := 44) rfl rfl rfl ?_
    refine g_get X195 hx hZ hown hby d15_44 (pc' := 47) rfl (w_38 hw) e195 F194_q1_label ?_
    intro T196 X196 e196
    refine g_iload X196 hx hby d15_47 (pc' := 49) rfl rfl ?_
    refine g_bipush X196 hx hby d15_49 (pc' := 51) rfl (z := (48 : Int32)) rfl ?_
    refine g_iloadN X196 hx hby d15_51 (pc' := 52) rfl rfl ?_
    refine g_bipush X196 hx hby d15_52 (pc' := 54) rfl (z := (10 : Int32)) rfl ?_
    refine g_irem X196 hx hby d15_54 (pc' := 55) rfl (by decide) ?_
    refine g_iadd X196 hx hby d15_55 (pc' := 56) rfl ?_
    refine g_i2b X196 hx hby d15_56 (pc' := 57) rfl ?_
    refine g_bastore X196 hx hZ 2 hby d15_57 (pc' := 58) rfl e196 A194 (by decide) (by decide) (by first | decide | simp) ?_
    intro T197 X197 W197 A197v
    have N197 := Fr.snoc X197 N194 g_l
    have E197_q1 := E194_q1.wr W197
    have F197_q1_label := F194_q1_label.other W197 (Or.inl n_l.symm)
    have F197_q1_numberAt := F194_q1_numberAt.other W197 (Or.inl n_l.symm)
    have K197 := K194.wr W197 (Or.inl (List.mem_of_getElem? (i := 0) rfl))
    have A197 : Arv Z T197.heap bl kl .byte (266 : Int32) [.int u0, .int u1, .int (nar .byte (dg 8 q2)), .int (nar .byte (dg 7 q2)), .int (nar .byte (dg 6 q2)), .int (nar .byte (dg 5 q2)), .int (nar .byte (dg 4 q2)), .int (nar .byte (dg 3 q2)), .int (nar .byte (dg 2 q2)), .int (nar .byte (dg 1 q2)), .int (nar .byte (dg 0 q2)), .int u11, .int u12] (.int 0) := A197v
    refine g_iloadN X197 hx hby d15_58 (pc' := 59) rfl rfl ?_
    refine g_bipush X197 hx hby d15_59 (pc' := 61) rfl (z := (10 : Int32)) rfl ?_
    refine g_idiv X197 hx hby d15_61 (pc' := 62) rfl (by decide) ?_
    refine g_istoreN X197 hx hby d15_62 (pc' := 63) rfl (l' := #[.val (.ref q1), .val (.int q2), .val (.int (11 : Int32)), .val (.int (dv 9 q2)), .val (.int (2 : Int32))]) rfl ?_
    refine g_iinc X197 hx hby d15_63 (pc' := 66) rfl rfl (l' := #[.val (.ref q1), .val (.int q2), .val (.int (11 : Int32)), .val (.int (dv 9 q2)), .val (.int (1 : Int32))]) rfl ?_
    refine g_goto X197 hx hby d15_66 (by decide) (pc' := 34) (by decide) ?_
    refine g_iload X197 hx hby d15_34 (pc' := 36) rfl rfl ?_
    refine g_aloadN X197 hx hby d15_36 (pc' := 37) rfl rfl rfl ?_
    refine g_get X197 hx hZ hown hby d15_37 (pc' := 40) rfl (w_87 hw) rfl F197_q1_numberAt ?_
    intro T198 X198 e198
    refine g_icmp_lt X198 hx hby d15_40 (by decide) (pc' := 69) (by decide) (pn := 43) rfl (fun _ => ?_) (fun z => absurd z (by decide))
    refine g_iloadN X198 hx hby d15_69 (pc' := 70) rfl rfl ?_
    exact g_retI (Q := (fun v h L => ∃ (t0 t1 t2 t3 t4 t5 t6 t7 t8 t9 t10 : Int32), v = some (.int ((2 : Int32) + (digV q2))) ∧ Fr n0 L ∧ Keep h0 h [bl] ∧ Arv Z h bl kl .byte (266 : Int32) [.int u0, .int u1, .int t0, .int t1, .int t2, .int t3, .int t4, .int t5, .int t6, .int t7, .int t8, .int t9, .int t10] (.int 0) ∧ DIGS 1 q2 [.int u0, .int u1, .int t0, .int t1, .int t2, .int t3, .int t4, .int t5, .int t6, .int t7, .int t8, .int t9, .int t10])) X198 hx hby d15_70 hret hlk (by decide) (by decide) (by rw [e198]; exact ⟨(nar .byte (dg 8 q2)), (nar .byte (dg 7 q2)), (nar .byte (dg 6 q2)), (nar .byte (dg 5 q2)), (nar .byte (dg 4 q2)), (nar .byte (dg 3 q2)), (nar .byte (dg 2 q2)), (nar .byte (dg 1 q2)), (nar .byte (dg 0 q2)), u11, u12, congrArg (fun z : Int32 => some (Value.int z)) (by rw [own_dig hd9 (by decide) (by decide)]; rfl), N197, K197, A197, own_digs hd9 (by decide) (by decide) (fun i hi => match i, hi with | 0, _ => rfl | 1, _ => rfl | 2, _ => rfl | 3, _ => rfl | 4, _ => rfl | 5, _ => rfl | 6, _ => rfl | 7, _ => rfl | 8, _ => rfl | (k + 9), h => absurd h (by omega))⟩)
  · refine g_aloadN X0 hx hby d15_0 (pc' := 1) rfl rfl rfl ?_
    refine g_get X0 hx hZ hown hby d15_1 (pc' := 4) rfl (w_87 hw) e0 F2 ?_
    intro T199 X199 e199
    refine g_iconst X199 hx hby d15_4 (pc' := 5) rfl (z := (1 : Int32)) rfl ?_
    refine g_iadd X199 hx hby d15_5 (pc' := 6) rfl ?_
    refine g_eqI (b := (3 : Int32)) (by decide +kernel) ?_
    refine g_istoreN X199 hx hby d15_6 (pc' := 7) rfl (l' := #[.val (.ref q1), .val (.int q2), .val (.int (3 : Int32)), .unset, .unset]) rfl ?_
    refine g_iloadN X199 hx hby d15_7 (pc' := 8) rfl rfl ?_
    refine g_bipush X199 hx hby d15_8 (pc' := 10) rfl (z := (10 : Int32)) rfl ?_
    refine g_idiv X199 hx hby d15_10 (pc' := 11) rfl (by decide) ?_
    refine g_istoreN X199 hx hby d15_11 (pc' := 12) rfl (l' := #[.val (.ref q1), .val (.int q2), .val (.int (3 : Int32)), .val (.int (dv 1 q2)), .unset]) rfl ?_
    refine g_iloadN X199 hx hby d15_12 (pc' := 13) rfl rfl ?_
    refine g_if_le X199 hx hby d15_13 (by decide) (pc' := 27) (by decide) (pn := 16) rfl (fun z => absurd z (fun z => z (own_yes 1 hd10 (by decide) (by decide)))) (fun hc13_200 => ?_)
    refine g_iinc X199 hx hby d15_16 (pc' := 19) rfl rfl (l' := #[.val (.ref q1), .val (.int q2), .val (.int (4 : Int32)), .val (.int (dv 1 q2)), .unset]) rfl ?_
    refine g_iloadN X199 hx hby d15_19 (pc' := 20) rfl rfl ?_
    refine g_bipush X199 hx hby d15_20 (pc' := 22) rfl (z := (10 : Int32)) rfl ?_
    refine g_idiv X199 hx hby d15_22 (pc' := 23) rfl (by decide) ?_
    refine g_istoreN X199 hx hby d15_23 (pc' := 24) rfl (l' := #[.val (.ref q1), .val (.int q2), .val (.int (4 : Int32)), .val (.int (dv 2 q2)), .unset]) rfl ?_
    refine g_goto X199 hx hby d15_24 (by decide) (pc' := 12) (by decide) ?_
    refine g_iloadN X199 hx hby d15_12 (pc' := 13) rfl rfl ?_
    refine g_if_le X199 hx hby d15_13 (by decide) (pc' := 27) (by decide) (pn := 16) rfl (fun z => absurd z (fun z => z (own_yes 2 hd10 (by decide) (by decide)))) (fun hc13_201 => ?_)
    refine g_iinc X199 hx hby d15_16 (pc' := 19) rfl rfl (l' := #[.val (.ref q1), .val (.int q2), .val (.int (5 : Int32)), .val (.int (dv 2 q2)), .unset]) rfl ?_
    refine g_iloadN X199 hx hby d15_19 (pc' := 20) rfl rfl ?_
    refine g_bipush X199 hx hby d15_20 (pc' := 22) rfl (z := (10 : Int32)) rfl ?_
    refine g_idiv X199 hx hby d15_22 (pc' := 23) rfl (by decide) ?_
    refine g_istoreN X199 hx hby d15_23 (pc' := 24) rfl (l' := #[.val (.ref q1), .val (.int q2), .val (.int (5 : Int32)), .val (.int (dv 3 q2)), .unset]) rfl ?_
    refine g_goto X199 hx hby d15_24 (by decide) (pc' := 12) (by decide) ?_
    refine g_iloadN X199 hx hby d15_12 (pc' := 13) rfl rfl ?_
    refine g_if_le X199 hx hby d15_13 (by decide) (pc' := 27) (by decide) (pn := 16) rfl (fun z => absurd z (fun z => z (own_yes 3 hd10 (by decide) (by decide)))) (fun hc13_202 => ?_)
    refine g_iinc X199 hx hby d15_16 (pc' := 19) rfl rfl (l' := #[.val (.ref q1), .val (.int q2), .val (.int (6 : Int32)), .val (.int (dv 3 q2)), .unset]) rfl ?_
    refine g_iloadN X199 hx hby d15_19 (pc' := 20) rfl rfl ?_
    refine g_bipush X199 hx hby d15_20 (pc' := 22) rfl (z := (10 : Int32)) rfl ?_
    refine g_idiv X199 hx hby d15_22 (pc' := 23) rfl (by decide) ?_
    refine g_istoreN X199 hx hby d15_23 (pc' := 24) rfl (l' := #[.val (.ref q1), .val (.int q2), .val (.int (6 : Int32)), .val (.int (dv 4 q2)), .unset]) rfl ?_
    refine g_goto X199 hx hby d15_24 (by decide) (pc' := 12) (by decide) ?_
    refine g_iloadN X199 hx hby d15_12 (pc' := 13) rfl rfl ?_
    refine g_if_le X199 hx hby d15_13 (by decide) (pc' := 27) (by decide) (pn := 16) rfl (fun z => absurd z (fun z => z (own_yes 4 hd10 (by decide) (by decide)))) (fun hc13_203 => ?_)
    refine g_iinc X199 hx hby d15_16 (pc' := 19) rfl rfl (l' := #[.val (.ref q1), .val (.int q2), .val (.int (7 : Int32)), .val (.int (dv 4 q2)), .unset]) rfl ?_
    refine g_iloadN X199 hx hby d15_19 (pc' := 20) rfl rfl ?_
    refine g_bipush X199 hx hby d15_20 (pc' := 22) rfl (z := (10 : Int32)) rfl ?_
    refine g_idiv X199 hx hby d15_22 (pc' := 23) rfl (by decide) ?_
    refine g_istoreN X199 hx hby d15_23 (pc' := 24) rfl (l' := #[.val (.ref q1), .val (.int q2), .val (.int (7 : Int32)), .val (.int (dv 5 q2)), .unset]) rfl ?_
    refine g_goto X199 hx hby d15_24 (by decide) (pc' := 12) (by decide) ?_
    refine g_iloadN X199 hx hby d15_12 (pc' := 13) rfl rfl ?_
    refine g_if_le X199 hx hby d15_13 (by decide) (pc' := 27) (by decide) (pn := 16) rfl (fun z => absurd z (fun z => z (own_yes 5 hd10 (by decide) (by decide)))) (fun hc13_204 => ?_)
    refine g_iinc X199 hx hby d15_16 (pc' := 19) rfl rfl (l' := #[.val (.ref q1), .val (.int q2), .val (.int (8 : Int32)), .val (.int (dv 5 q2)), .unset]) rfl ?_
    refine g_iloadN X199 hx hby d15_19 (pc' := 20) rfl rfl ?_
    refine g_bipush X199 hx hby d15_20 (pc' := 22) rfl (z := (10 : Int32)) rfl ?_
    refine g_idiv X199 hx hby d15_22 (pc' := 23) rfl (by decide) ?_
    refine g_istoreN X199 hx hby d15_23 (pc' := 24) rfl (l' := #[.val (.ref q1), .val (.int q2), .val (.int (8 : Int32)), .val (.int (dv 6 q2)), .unset]) rfl ?_
    refine g_goto X199 hx hby d15_24 (by decide) (pc' := 12) (by decide) ?_
    refine g_iloadN X199 hx hby d15_12 (pc' := 13) rfl rfl ?_
    refine g_if_le X199 hx hby d15_13 (by decide) (pc' := 27) (by decide) (pn := 16) rfl (fun z => absurd z (fun z => z (own_yes 6 hd10 (by decide) (by decide)))) (fun hc13_205 => ?_)
    refine g_iinc X199 hx hby d15_16 (pc' := 19) rfl rfl (l' := #[.val (.ref q1), .val (.int q2), .val (.int (9 : Int32)), .val (.int (dv 6 q2)), .unset]) rfl ?_
    refine g_iloadN X199 hx hby d15_19 (pc' := 20) rfl rfl ?_
    refine g_bipush X199 hx hby d15_20 (pc' := 22) rfl (z := (10 : Int32)) rfl ?_
    refine g_idiv X199 hx hby d15_22 (pc' := 23) rfl (by decide) ?_
    refine g_istoreN X199 hx hby d15_23 (pc' := 24) rfl (l' := #[.val (.ref q1), .val (.int q2), .val (.int (9 : Int32)), .val (.int (dv 7 q2)), .unset]) rfl ?_
    refine g_goto X199 hx hby d15_24 (by decide) (pc' := 12) (by decide) ?_
    refine g_iloadN X199 hx hby d15_12 (pc' := 13) rfl rfl ?_
    refine g_if_le X199 hx hby d15_13 (by decide) (pc' := 27) (by decide) (pn := 16) rfl (fun z => absurd z (fun z => z (own_yes 7 hd10 (by decide) (by decide)))) (fun hc13_206 => ?_)
    refine g_iinc X199 hx hby d15_16 (pc' := 19) rfl rfl (l' := #[.val (.ref q1), .val (.int q2), .val (.int (10 : Int32)), .val (.int (dv 7 q2)), .unset]) rfl ?_
    refine g_iloadN X199 hx hby d15_19 (pc' := 20) rfl rfl ?_
    refine g_bipush X199 hx hby d15_20 (pc' := 22) rfl (z := (10 : Int32)) rfl ?_
    refine g_idiv X199 hx hby d15_22 (pc' := 23) rfl (by decide) ?_
    refine g_istoreN X199 hx hby d15_23 (pc' := 24) rfl (l' := #[.val (.ref q1), .val (.int q2), .val (.int (10 : Int32)), .val (.int (dv 8 q2)), .unset]) rfl ?_
    refine g_goto X199 hx hby d15_24 (by decide) (pc' := 12) (by decide) ?_
    refine g_iloadN X199 hx hby d15_12 (pc' := 13) rfl rfl ?_
    refine g_if_le X199 hx hby d15_13 (by decide) (pc' := 27) (by decide) (pn := 16) rfl (fun z => absurd z (fun z => z (own_yes 8 hd10 (by decide) (by decide)))) (fun hc13_207 => ?_)
    refine g_iinc X199 hx hby d15_16 (pc' := 19) rfl rfl (l' := #[.val (.ref q1), .val (.int q2), .val (.int (11 : Int32)), .val (.int (dv 8 q2)), .unset]) rfl ?_
    refine g_iloadN X199 hx hby d15_19 (pc' := 20) rfl rfl ?_
    refine g_bipush X199 hx hby d15_20 (pc' := 22) rfl (z := (10 : Int32)) rfl ?_
    refine g_idiv X199 hx hby d15_22 (pc' := 23) rfl (by decide) ?_
    refine g_istoreN X199 hx hby d15_23 (pc' := 24) rfl (l' := #[.val (.ref q1), .val (.int q2), .val (.int (11 : Int32)), .val (.int (dv 9 q2)), .unset]) rfl ?_
    refine g_goto X199 hx hby d15_24 (by decide) (pc' := 12) (by decide) ?_
    refine g_iloadN X199 hx hby d15_12 (pc' := 13) rfl rfl ?_
    refine g_if_le X199 hx hby d15_13 (by decide) (pc' := 27) (by decide) (pn := 16) rfl (fun z => absurd z (fun z => z (own_yes 9 hd10 (by decide) (by decide)))) (fun hc13_208 => ?_)
    refine g_iinc X199 hx hby d15_16 (pc' := 19) rfl rfl (l' := #[.val (.ref q1), .val (.int q2), .val (.int (12 : Int32)), .val (.int (dv 9 q2)), .unset]) rfl ?_
    refine g_iloadN X199 hx hby d15_19 (pc' := 20) rfl rfl ?_
    refine g_bipush X199 hx hby d15_20 (pc' := 22) rfl (z := (10 : Int32)) rfl ?_
    refine g_idiv X199 hx hby d15_22 (pc' := 23) rfl (by decide) ?_
    refine g_istoreN X199 hx hby d15_23 (pc' := 24) rfl (l' := #[.val (.ref q1), .val (.int q2), .val (.int (12 : Int32)), .val (.int (dv 10 q2)), .unset]) rfl ?_
    refine g_goto X199 hx hby d15_24 (by decide) (pc' := 12) (by decide) ?_
    refine g_iloadN X199 hx hby d15_12 (pc' := 13) rfl rfl ?_
    refine g_if_le X199 hx hby d15_13 (by decide) (pc' := 27) (by decide) (pn := 16) rfl (fun hc13_209 => ?_) (fun z => absurd z (own_no hd10))
    refine g_iloadN X199 hx hby d15_27 (pc' := 28) rfl rfl ?_
    refine g_istoreN X199 hx hby d15_28 (pc' := 29) rfl (l' := #[.val (.ref q1), .val (.int q2), .val (.int (12 : Int32)), .val (.int (dv 0 q2)), .unset]) rfl ?_
    refine g_iloadN X199 hx hby d15_29 (pc' := 30) rfl rfl ?_
    refine g_iconst X199 hx hby d15_30 (pc' := 31) rfl (z := (1 : Int32)) rfl ?_
    refine g_isub X199 hx hby d15_31 (pc' := 32) rfl ?_
    refine g_eqI (b := (11 : Int32)) (by decide +kernel) ?_
    refine g_istore X199 hx hby d15_32 (pc' := 34) rfl (l' := #[.val (.ref q1), .val (.int q2), .val (.int (12 : Int32)), .val (.int (dv 0 q2)), .val (.int (11 : Int32))]) rfl ?_
    refine g_iload X199 hx hby d15_34 (pc' := 36) rfl rfl ?_
    refine g_aloadN X199 hx hby d15_36 (pc' := 37) rfl rfl rfl ?_
    refine g_get X199 hx hZ hown hby d15_37 (pc' := 40) rfl (w_87 hw) e199 F2 ?_
    intro T210 X210 e210
    refine g_icmp_lt X210 hx hby d15_40 (by decide) (pc' := 69) (by decide) (pn := 43) rfl (fun z => absurd z (by decide)) (fun _ => ?_)
    refine g_aloadN X210 hx hby d15_43 (pc' := 44) rfl rfl rfl ?_
    refine g_get X210 hx hZ hown hby d15_44 (pc' := 47) rfl (w_38 hw) e210 F1 ?_
    intro T211 X211 e211
    refine g_iload X211 hx hby d15_47 (pc' := 49) rfl rfl ?_
    refine g_bipush X211 hx hby d15_49 (pc' := 51) rfl (z := (48 : Int32)) rfl ?_
    refine g_iloadN X211 hx hby d15_51 (pc' := 52) rfl rfl ?_
    refine g_bipush X211 hx hby d15_52 (pc' := 54) rfl (z := (10 : Int32)) rfl ?_
    refine g_irem X211 hx hby d15_54 (pc' := 55) rfl (by decide) ?_
    refine g_iadd X211 hx hby d15_55 (pc' := 56) rfl ?_
    refine g_i2b X211 hx hby d15_56 (pc' := 57) rfl ?_
    refine g_bastore X211 hx hZ 11 hby d15_57 (pc' := 58) rfl e211 A_l (by decide) (by decide) (by first | decide | simp) ?_
    intro T212 X212 W212 A212v
    have N212 := Fr.snoc X212 N0 g_l
    have E212_q1 := E_a.wr W212
    have F212_q1_label := F1.other W212 (Or.inl n_l.symm)
    have F212_q1_numberAt := F2.other W212 (Or.inl n_l.symm)
    have K212 := (Keep.refl h0 [bl]).wr W212 (Or.inl (List.mem_of_getElem? (i := 0) rfl))
    have A212 : Arv Z T212.heap bl kl .byte (266 : Int32) [.int u0, .int u1, .int u2, .int u3, .int u4, .int u5, .int u6, .int u7, .int u8, .int u9, .int u10, .int (nar .byte (dg 0 q2)), .int u12] (.int 0) := A212v
    refine g_iloadN X212 hx hby d15_58 (pc' := 59) rfl rfl ?_
    refine g_bipush X212 hx hby d15_59 (pc' := 61) rfl (z := (10 : Int32)) rfl ?_
    refine g_idiv X212 hx hby d15_61 (pc' := 62) rfl (by decide) ?_
    refine g_istoreN X212 hx hby d15_62 (pc' := 63) rfl (l' := #[.val (.ref q1), .val (.int q2), .val (.int (12 : Int32)), .val (.int (dv 1 q2)), .val (.int (11 : Int32))]) rfl ?_
    refine g_iinc X212 hx hby d15_63 (pc' := 66) rfl rfl (l' := #[.val (.ref q1), .val (.int q2), .val (.int (12 : Int32)), .val (.int (dv 1 q2)), .val (.int (10 : Int32))]) rfl ?_
    refine g_goto X212 hx hby d15_66 (by decide) (pc' := 34) (by decide) ?_
    refine g_iload X212 hx hby d15_34 (pc' := 36) rfl rfl ?_
    refine g_aloadN X212 hx hby d15_36 (pc' := 37) rfl rfl rfl ?_
    refine g_get X212 hx hZ hown hby d15_37 (pc' := 40) rfl (w_87 hw) rfl F212_q1_numberAt ?_
    intro T213 X213 e213
    refine g_icmp_lt X213 hx hby d15_40 (by decide) (pc' := 69) (by decide) (pn := 43) rfl (fun z => absurd z (by decide)) (fun _ => ?_)
    refine g_aloadN X213 hx hby d15_43 (pc' := 44) rfl rfl rfl ?_
    refine g_get X213 hx hZ hown hby d15_44 (pc' := 47) rfl (w_38 hw) e213 F212_q1_label ?_
    intro T214 X214 e214
    refine g_iload X214 hx hby d15_47 (pc' := 49) rfl rfl ?_
    refine g_bipush X214 hx hby d15_49 (pc' := 51) rfl (z := (48 : Int32)) rfl ?_
    refine g_iloadN X214 hx hby d15_51 (pc' := 52) rfl rfl ?_
    refine g_bipush X214 hx hby d15_52 (pc' := 54) rfl (z := (10 : Int32)) rfl ?_
    refine g_irem X214 hx hby d15_54 (pc' := 55) rfl (by decide) ?_
    refine g_iadd X214 hx hby d15_55 (pc' := 56) rfl ?_
    refine g_i2b X214 hx hby d15_56 (pc' := 57) rfl ?_
    refine g_bastore X214 hx hZ 10 hby d15_57 (pc' := 58) rfl e214 A212 (by decide) (by decide) (by first | decide | simp) ?_
    intro T215 X215 W215 A215v
    have N215 := Fr.snoc X215 N212 g_l
    have E215_q1 := E212_q1.wr W215
    have F215_q1_label := F212_q1_label.other W215 (Or.inl n_l.symm)
    have F215_q1_numberAt := F212_q1_numberAt.other W215 (Or.inl n_l.symm)
    have K215 := K212.wr W215 (Or.inl (List.mem_of_getElem? (i := 0) rfl))
    have A215 : Arv Z T215.heap bl kl .byte (266 : Int32) [.int u0, .int u1, .int u2, .int u3, .int u4, .int u5, .int u6, .int u7, .int u8, .int u9, .int (nar .byte (dg 1 q2)), .int (nar .byte (dg 0 q2)), .int u12] (.int 0) := A215v
    refine g_iloadN X215 hx hby d15_58 (pc' := 59) rfl rfl ?_
    refine g_bipush X215 hx hby d15_59 (pc' := 61) rfl (z := (10 : Int32)) rfl ?_
    refine g_idiv X215 hx hby d15_61 (pc' := 62) rfl (by decide) ?_
    refine g_istoreN X215 hx hby d15_62 (pc' := 63) rfl (l' := #[.val (.ref q1), .val (.int q2), .val (.int (12 : Int32)), .val (.int (dv 2 q2)), .val (.int (10 : Int32))]) rfl ?_
    refine g_iinc X215 hx hby d15_63 (pc' := 66) rfl rfl (l' := #[.val (.ref q1), .val (.int q2), .val (.int (12 : Int32)), .val (.int (dv 2 q2)), .val (.int (9 : Int32))]) rfl ?_
    refine g_goto X215 hx hby d15_66 (by decide) (pc' := 34) (by decide) ?_
    refine g_iload X215 hx hby d15_34 (pc' := 36) rfl rfl ?_
    refine g_aloadN X215 hx hby d15_36 (pc' := 37) rfl rfl rfl ?_
    refine g_get X215 hx hZ hown hby d15_37 (pc' := 40) rfl (w_87 hw) rfl F215_q1_numberAt ?_
    intro T216 X216 e216
    refine g_icmp_lt X216 hx hby d15_40 (by decide) (pc' := 69) (by decide) (pn := 43) rfl (fun z => absurd z (by decide)) (fun _ => ?_)
    refine g_aloadN X216 hx hby d15_43 (pc' := 44) rfl rfl rfl ?_
    refine g_get X216 hx hZ hown hby d15_44 (pc' := 47) rfl (w_38 hw) e216 F215_q1_label ?_
    intro T217 X217 e217
    refine g_iload X217 hx hby d15_47 (pc' := 49) rfl rfl ?_
    refine g_bipush X217 hx hby d15_49 (pc' := 51) rfl (z := (48 : Int32)) rfl ?_
    refine g_iloadN X217 hx hby d15_51 (pc' := 52) rfl rfl ?_
    refine g_bipush X217 hx hby d15_52 (pc' := 54) rfl (z := (10 : Int32)) rfl ?_
    refine g_irem X217 hx hby d15_54 (pc' := 55) rfl (by decide) ?_
    refine g_iadd X217 hx hby d15_55 (pc' := 56) rfl ?_
    refine g_i2b X217 hx hby d15_56 (pc' := 57) rfl ?_
    refine g_bastore X217 hx hZ 9 hby d15_57 (pc' := 58) rfl e217 A215 (by decide) (by decide) (by first | decide | simp) ?_
    intro T218 X218 W218 A218v
    have N218 := Fr.snoc X218 N215 g_l
    have E218_q1 := E215_q1.wr W218
    have F218_q1_label := F215_q1_label.other W218 (Or.inl n_l.symm)
    have F218_q1_numberAt := F215_q1_numberAt.other W218 (Or.inl n_l.symm)
    have K218 := K215.wr W218 (Or.inl (List.mem_of_getElem? (i := 0) rfl))
    have A218 : Arv Z T218.heap bl kl .byte (266 : Int32) [.int u0, .int u1, .int u2, .int u3, .int u4, .int u5, .int u6, .int u7, .int u8, .int (nar .byte (dg 2 q2)), .int (nar .byte (dg 1 q2)), .int (nar .byte (dg 0 q2)), .int u12] (.int 0) := A218v
    refine g_iloadN X218 hx hby d15_58 (pc' := 59) rfl rfl ?_
    refine g_bipush X218 hx hby d15_59 (pc' := 61) rfl (z := (10 : Int32)) rfl ?_
    refine g_idiv X218 hx hby d15_61 (pc' := 62) rfl (by decide) ?_
    refine g_istoreN X218 hx hby d15_62 (pc' := 63) rfl (l' := #[.val (.ref q1), .val (.int q2), .val (.int (12 : Int32)), .val (.int (dv 3 q2)), .val (.int (9 : Int32))]) rfl ?_
    refine g_iinc X218 hx hby d15_63 (pc' := 66) rfl rfl (l' := #[.val (.ref q1), .val (.int q2), .val (.int (12 : Int32)), .val (.int (dv 3 q2)), .val (.int (8 : Int32))]) rfl ?_
    refine g_goto X218 hx hby d15_66 (by decide) (pc' := 34) (by decide) ?_
    refine g_iload X218 hx hby d15_34 (pc' := 36) rfl rfl ?_
    refine g_aloadN X218 hx hby d15_36 (pc' := 37) rfl rfl rfl ?_
    refine g_get X218 hx hZ hown hby d15_37 (pc' := 40) rfl (w_87 hw) rfl F218_q1_numberAt ?_
    intro T219 X219 e219
    refine g_icmp_lt X219 hx hby d15_40 (by decide) (pc' := 69) (by decide) (pn := 43) rfl (fun z => absurd z (by decide)) (fun _ => ?_)
    refine g_aloadN X219 hx hby d15_43 (pc' := 44) rfl rfl rfl ?_
    refine g_get X219 hx hZ hown hby d15_44 (pc' := 47) rfl (w_38 hw) e219 F218_q1_label ?_
    intro T220 X220 e220
    refine g_iload X220 hx hby d15_47 (pc' := 49) rfl rfl ?_
    refine g_bipush X220 hx hby d15_49 (pc' := 51) rfl (z := (48 : Int32)) rfl ?_
    refine g_iloadN X220 hx hby d15_51 (pc' := 52) rfl rfl ?_
    refine g_bipush X220 hx hby d15_52 (pc' := 54) rfl (z := (10 : Int32)) rfl ?_
    refine g_irem X220 hx hby d15_54 (pc' := 55) rfl (by decide) ?_
    refine g_iadd X220 hx hby d15_55 (pc' := 56) rfl ?_
    refine g_i2b X220 hx hby d15_56 (pc' := 57) rfl ?_
    refine g_bastore X220 hx hZ 8 hby d15_57 (pc' := 58) rfl e220 A218 (by decide) (by decide) (by first | decide | simp) ?_
    intro T221 X221 W221 A221v
    have N221 := Fr.snoc X221 N218 g_l
    have E221_q1 := E218_q1.wr W221
    have F221_q1_label := F218_q1_label.other W221 (Or.inl n_l.symm)
    have F221_q1_numberAt := F218_q1_numberAt.other W221 (Or.inl n_l.symm)
    have K221 := K218.wr W221 (Or.inl (List.mem_of_getElem? (i := 0) rfl))
    have A221 : Arv Z T221.heap bl kl .byte (266 : Int32) [.int u0, .int u1, .int u2, .int u3, .int u4, .int u5, .int u6, .int u7, .int (nar .byte (dg 3 q2)), .int (nar .byte (dg 2 q2)), .int (nar .byte (dg 1 q2)), .int (nar .byte (dg 0 q2)), .int u12] (.int 0) := A221v
    refine g_iloadN X221 hx hby d15_58 (pc' := 59) rfl rfl ?_
    refine g_bipush X221 hx hby d15_59 (pc' := 61) rfl (z := (10 : Int32)) rfl ?_
    refine g_idiv X221 hx hby d15_61 (pc' := 62) rfl (by decide) ?_
    refine g_istoreN X221 hx hby d15_62 (pc' := 63) rfl (l' := #[.val (.ref q1), .val (.int q2), .val (.int (12 : Int32)), .val (.int (dv 4 q2)), .val (.int (8 : Int32))]) rfl ?_
    refine g_iinc X221 hx hby d15_63 (pc' := 66) rfl rfl (l' := #[.val (.ref q1), .val (.int q2), .val (.int (12 : Int32)), .val (.int (dv 4 q2)), .val (.int (7 : Int32))]) rfl ?_
    refine g_goto X221 hx hby d15_66 (by decide) (pc' := 34) (by decide) ?_
    refine g_iload X221 hx hby d15_34 (pc' := 36) rfl rfl ?_
    refine g_aloadN X221 hx hby d15_36 (pc' := 37) rfl rfl rfl ?_
    refine g_get X221 hx hZ hown hby d15_37 (pc' := 40) rfl (w_87 hw) rfl F221_q1_numberAt ?_
    intro T222 X222 e222
    refine g_icmp_lt X222 hx hby d15_40 (by decide) (pc' := 69) (by decide) (pn := 43) rfl (fun z => absurd z (by decide)) (fun _ => ?_)
    refine g_aloadN X222 hx hby d15_43 (pc' := 44) rfl rfl rfl ?_
    refine g_get X222 hx hZ hown hby d15_44 (pc' := 47) rfl (w_38 hw) e222 F221_q1_label ?_
    intro T223 X223 e223
    refine g_iload X223 hx hby d15_47 (pc' := 49) rfl rfl ?_
    refine g_bipush X223 hx hby d15_49 (pc' := 51) rfl (z := (48 : Int32)) rfl ?_
    refine g_iloadN X223 hx hby d15_51 (pc' := 52) rfl rfl ?_
    refine g_bipush X223 hx hby d15_52 (pc' := 54) rfl (z := (10 : Int32)) rfl ?_
    refine g_irem X223 hx hby d15_54 (pc' := 55) rfl (by decide) ?_
    refine g_iadd X223 hx hby d15_55 (pc' := 56) rfl ?_
    refine g_i2b X223 hx hby d15_56 (pc' := 57) rfl ?_
    refine g_bastore X223 hx hZ 7 hby d15_57 (pc' := 58) rfl e223 A221 (by decide) (by decide) (by first | decide | simp) ?_
    intro T224 X224 W224 A224v
    have N224 := Fr.snoc X224 N221 g_l
    have E224_q1 := E221_q1.wr W224
    have F224_q1_label := F221_q1_label.other W224 (Or.inl n_l.symm)
    have F224_q1_numberAt := F221_q1_numberAt.other W224 (Or.inl n_l.symm)
    have K224 := K221.wr W224 (Or.inl (List.mem_of_getElem? (i := 0) rfl))
    have A224 : Arv Z T224.heap bl kl .byte (266 : Int32) [.int u0, .int u1, .int u2, .int u3, .int u4, .int u5, .int u6, .int (nar .byte (dg 4 q2)), .int (nar .byte (dg 3 q2)), .int (nar .byte (dg 2 q2)), .int (nar .byte (dg 1 q2)), .int (nar .byte (dg 0 q2)), .int u12] (.int 0) := A224v
    refine g_iloadN X224 hx hby d15_58 (pc' := 59) rfl rfl ?_
    refine g_bipush X224 hx hby d15_59 (pc' := 61) rfl (z := (10 : Int32)) rfl ?_
    refine g_idiv X224 hx hby d15_61 (pc' := 62) rfl (by decide) ?_
    refine g_istoreN X224 hx hby d15_62 (pc' := 63) rfl (l' := #[.val (.ref q1), .val (.int q2), .val (.int (12 : Int32)), .val (.int (dv 5 q2)), .val (.int (7 : Int32))]) rfl ?_
    refine g_iinc X224 hx hby d15_63 (pc' := 66) rfl rfl (l' := #[.val (.ref q1), .val (.int q2), .val (.int (12 : Int32)), .val (.int (dv 5 q2)), .val (.int (6 : Int32))]) rfl ?_
    refine g_goto X224 hx hby d15_66 (by decide) (pc' := 34) (by decide) ?_
    refine g_iload X224 hx hby d15_34 (pc' := 36) rfl rfl ?_
    refine g_aloadN X224 hx hby d15_36 (pc' := 37) rfl rfl rfl ?_
    refine g_get X224 hx hZ hown hby d15_37 (pc' := 40) rfl (w_87 hw) rfl F224_q1_numberAt ?_
    intro T225 X225 e225
    refine g_icmp_lt X225 hx hby d15_40 (by decide) (pc' := 69) (by decide) (pn := 43) rfl (fun z => absurd z (by decide)) (fun _ => ?_)
    refine g_aloadN X225 hx hby d15_43 (pc' := 44) rfl rfl rfl ?_
    refine g_get X225 hx hZ hown hby d15_44 (pc' := 47) rfl (w_38 hw) e225 F224_q1_label ?_
    intro T226 X226 e226
    refine g_iload X226 hx hby d15_47 (pc' := 49) rfl rfl ?_
    refine g_bipush X226 hx hby d15_49 (pc' := 51) rfl (z := (48 : Int32)) rfl ?_
    refine g_iloadN X226 hx hby d15_51 (pc' := 52) rfl rfl ?_
    refine g_bipush X226 hx hby d15_52 (pc' := 54) rfl (z := (10 : Int32)) rfl ?_
    refine g_irem X226 hx hby d15_54 (pc' := 55) rfl (by decide) ?_
    refine g_iadd X226 hx hby d15_55 (pc' := 56) rfl ?_
    refine g_i2b X226 hx hby d15_56 (pc' := 57) rfl ?_
    refine g_bastore X226 hx hZ 6 hby d15_57 (pc' := 58) rfl e226 A224 (by decide) (by decide) (by first | decide | simp) ?_
    intro T227 X227 W227 A227v
    have N227 := Fr.snoc X227 N224 g_l
    have E227_q1 := E224_q1.wr W227
    have F227_q1_label := F224_q1_label.other W227 (Or.inl n_l.symm)
    have F227_q1_numberAt := F224_q1_numberAt.other W227 (Or.inl n_l.symm)
    have K227 := K224.wr W227 (Or.inl (List.mem_of_getElem? (i := 0) rfl))
    have A227 : Arv Z T227.heap bl kl .byte (266 : Int32) [.int u0, .int u1, .int u2, .int u3, .int u4, .int u5, .int (nar .byte (dg 5 q2)), .int (nar .byte (dg 4 q2)), .int (nar .byte (dg 3 q2)), .int (nar .byte (dg 2 q2)), .int (nar .byte (dg 1 q2)), .int (nar .byte (dg 0 q2)), .int u12] (.int 0) := A227v
    refine g_iloadN X227 hx hby d15_58 (pc' := 59) rfl rfl ?_
    refine g_bipush X227 hx hby d15_59 (pc' := 61) rfl (z := (10 : Int32)) rfl ?_
    refine g_idiv X227 hx hby d15_61 (pc' := 62) rfl (by decide) ?_
    refine g_istoreN X227 hx hby d15_62 (pc' := 63) rfl (l' := #[.val (.ref q1), .val (.int q2), .val (.int (12 : Int32)), .val (.int (dv 6 q2)), .val (.int (6 : Int32))]) rfl ?_
    refine g_iinc X227 hx hby d15_63 (pc' := 66) rfl rfl (l' := #[.val (.ref q1), .val (.int q2), .val (.int (12 : Int32)), .val (.int (dv 6 q2)), .val (.int (5 : Int32))]) rfl ?_
    refine g_goto X227 hx hby d15_66 (by decide) (pc' := 34) (by decide) ?_
    refine g_iload X227 hx hby d15_34 (pc' := 36) rfl rfl ?_
    refine g_aloadN X227 hx hby d15_36 (pc' := 37) rfl rfl rfl ?_
    refine g_get X227 hx hZ hown hby d15_37 (pc' := 40) rfl (w_87 hw) rfl F227_q1_numberAt ?_
    intro T228 X228 e228
    refine g_icmp_lt X228 hx hby d15_40 (by decide) (pc' := 69) (by decide) (pn := 43) rfl (fun z => absurd z (by decide)) (fun _ => ?_)
    refine g_aloadN X228 hx hby d15_43 (pc' := 44) rfl rfl rfl ?_
    refine g_get X228 hx hZ hown hby d15_44 (pc' := 47) rfl (w_38 hw) e228 F227_q1_label ?_
    intro T229 X229 e229
    refine g_iload X229 hx hby d15_47 (pc' := 49) rfl rfl ?_
    refine g_bipush X229 hx hby d15_49 (pc' := 51) rfl (z := (48 : Int32)) rfl ?_
    refine g_iloadN X229 hx hby d15_51 (pc' := 52) rfl rfl ?_
    refine g_bipush X229 hx hby d15_52 (pc' := 54) rfl (z := (10 : Int32)) rfl ?_
    refine g_irem X229 hx hby d15_54 (pc' := 55) rfl (by decide) ?_
    refine g_iadd X229 hx hby d15_55 (pc' := 56) rfl ?_
    refine g_i2b X229 hx hby d15_56 (pc' := 57) rfl ?_
    refine g_bastore X229 hx hZ 5 hby d15_57 (pc' := 58) rfl e229 A227 (by decide) (by decide) (by first | decide | simp) ?_
    intro T230 X230 W230 A230v
    have N230 := Fr.snoc X230 N227 g_l
    have E230_q1 := E227_q1.wr W230
    have F230_q1_label := F227_q1_label.other W230 (Or.inl n_l.symm)
    have F230_q1_numberAt := F227_q1_numberAt.other W230 (Or.inl n_l.symm)
    have K230 := K227.wr W230 (Or.inl (List.mem_of_getElem? (i := 0) rfl))
    have A230 : Arv Z T230.heap bl kl .byte (266 : Int32) [.int u0, .int u1, .int u2, .int u3, .int u4, .int (nar .byte (dg 6 q2)), .int (nar .byte (dg 5 q2)), .int (nar .byte (dg 4 q2)), .int (nar .byte (dg 3 q2)), .int (nar .byte (dg 2 q2)), .int (nar .byte (dg 1 q2)), .int (nar .byte (dg 0 q2)), .int u12] (.int 0) := A230v
    refine g_iloadN X230 hx hby d15_58 (pc' := 59) rfl rfl ?_
    refine g_bipush X230 hx hby d15_59 (pc' := 61) rfl (z := (10 : Int32)) rfl ?_
    refine g_idiv X230 hx hby d15_61 (pc' := 62) rfl (by decide) ?_
    refine g_istoreN X230 hx hby d15_62 (pc' := 63) rfl (l' := #[.val (.ref q1), .val (.int q2), .val (.int (12 : Int32)), .val (.int (dv 7 q2)), .val (.int (5 : Int32))]) rfl ?_
    refine g_iinc X230 hx hby d15_63 (pc' := 66) rfl rfl (l' := #[.val (.ref q1), .val (.int q2), .val (.int (12 : Int32)), .val (.int (dv 7 q2)), .val (.int (4 : Int32))]) rfl ?_
    refine g_goto X230 hx hby d15_66 (by decide) (pc' := 34) (by decide) ?_
    refine g_iload X230 hx hby d15_34 (pc' := 36) rfl rfl ?_
    refine g_aloadN X230 hx hby d15_36 (pc' := 37) rfl rfl rfl ?_
    refine g_get X230 hx hZ hown hby d15_37 (pc' := 40) rfl (w_87 hw) rfl F230_q1_numberAt ?_
    intro T231 X231 e231
    refine g_icmp_lt X231 hx hby d15_40 (by decide) (pc' := 69) (by decide) (pn := 43) rfl (fun z => absurd z (by decide)) (fun _ => ?_)
    refine g_aloadN X231 hx hby d15_43 (pc' := 44) rfl rfl rfl ?_
    refine g_get X231 hx hZ hown hby d15_44 (pc' := 47) rfl (w_38 hw) e231 F230_q1_label ?_
    intro T232 X232 e232
    refine g_iload X232 hx hby d15_47 (pc' := 49) rfl rfl ?_
    refine g_bipush X232 hx hby d15_49 (pc' := 51) rfl (z := (48 : Int32)) rfl ?_
    refine g_iloadN X232 hx hby d15_51 (pc' := 52) rfl rfl ?_
    refine g_bipush X232 hx hby d15_52 (pc' := 54) rfl (z := (10 : Int32)) rfl ?_
    refine g_irem X232 hx hby d15_54 (pc' := 55) rfl (by decide) ?_
    refine g_iadd X232 hx hby d15_55 (pc' := 56) rfl ?_
    refine g_i2b X232 hx hby d15_56 (pc' := 57) rfl ?_
    refine g_bastore X232 hx hZ 4 hby d15_57 (pc' := 58) rfl e232 A230 (by decide) (by decide) (by first | decide | simp) ?_
    intro T233 X233 W233 A233v
    have N233 := Fr.snoc X233 N230 g_l
    have E233_q1 := E230_q1.wr W233
    have F233_q1_label := F230_q1_label.other W233 (Or.inl n_l.symm)
    have F233_q1_numberAt := F230_q1_numberAt.other W233 (Or.inl n_l.symm)
    have K233 := K230.wr W233 (Or.inl (List.mem_of_getElem? (i := 0) rfl))
    have A233 : Arv Z T233.heap bl kl .byte (266 : Int32) [.int u0, .int u1, .int u2, .int u3, .int (nar .byte (dg 7 q2)), .int (nar .byte (dg 6 q2)), .int (nar .byte (dg 5 q2)), .int (nar .byte (dg 4 q2)), .int (nar .byte (dg 3 q2)), .int (nar .byte (dg 2 q2)), .int (nar .byte (dg 1 q2)), .int (nar .byte (dg 0 q2)), .int u12] (.int 0) := A233v
    refine g_iloadN X233 hx hby d15_58 (pc' := 59) rfl rfl ?_
    refine g_bipush X233 hx hby d15_59 (pc' := 61) rfl (z := (10 : Int32)) rfl ?_
    refine g_idiv X233 hx hby d15_61 (pc' := 62) rfl (by decide) ?_
    refine g_istoreN X233 hx hby d15_62 (pc' := 63) rfl (l' := #[.val (.ref q1), .val (.int q2), .val (.int (12 : Int32)), .val (.int (dv 8 q2)), .val (.int (4 : Int32))]) rfl ?_
    refine g_iinc X233 hx hby d15_63 (pc' := 66) rfl rfl (l' := #[.val (.ref q1), .val (.int q2), .val (.int (12 : Int32)), .val (.int (dv 8 q2)), .val (.int (3 : Int32))]) rfl ?_
    refine g_goto X233 hx hby d15_66 (by decide) (pc' := 34) (by decide) ?_
    refine g_iload X233 hx hby d15_34 (pc' := 36) rfl rfl ?_
    refine g_aloadN X233 hx hby d15_36 (pc' := 37) rfl rfl rfl ?_
    refine g_get X233 hx hZ hown hby d15_37 (pc' := 40) rfl (w_87 hw) rfl F233_q1_numberAt ?_
    intro T234 X234 e234
    refine g_icmp_lt X234 hx hby d15_40 (by decide) (pc' := 69) (by decide) (pn := 43) rfl (fun z => absurd z (by decide)) (fun _ => ?_)
    refine g_aloadN X234 hx hby d15_43 (pc' := 44) rfl rfl rfl ?_
    refine g_get X234 hx hZ hown hby d15_44 (pc' := 47) rfl (w_38 hw) e234 F233_q1_label ?_
    intro T235 X235 e235
    refine g_iload X235 hx hby d15_47 (pc' := 49) rfl rfl ?_
    refine g_bipush X235 hx hby d15_49 (pc' := 51) rfl (z := (48 : Int32)) rfl ?_
    refine g_iloadN X235 hx hby d15_51 (pc' := 52) rfl rfl ?_
    refine g_bipush X235 hx hby d15_52 (pc' := 54) rfl (z := (10 : Int32)) rfl ?_
    refine g_irem X235 hx hby d15_54 (pc' := 55) rfl (by decide) ?_
    refine g_iadd X235 hx hby d15_55 (pc' := 56) rfl ?_
    refine g_i2b X235 hx hby d15_56 (pc' := 57) rfl ?_
    refine g_bastore X235 hx hZ 3 hby d15_57 (pc' := 58) rfl e235 A233 (by decide) (by decide) (by first | decide | simp) ?_
    intro T236 X236 W236 A236v
    have N236 := Fr.snoc X236 N233 g_l
    have E236_q1 := E233_q1.wr W236
    have F236_q1_label := F233_q1_label.other W236 (Or.inl n_l.symm)
    have F236_q1_numberAt := F233_q1_numberAt.other W236 (Or.inl n_l.symm)
    have K236 := K233.wr W236 (Or.inl (List.mem_of_getElem? (i := 0) rfl))
    have A236 : Arv Z T236.heap bl kl .byte (266 : Int32) [.int u0, .int u1, .int u2, .int (nar .byte (dg 8 q2)), .int (nar .byte (dg 7 q2)), .int (nar .byte (dg 6 q2)), .int (nar .byte (dg 5 q2)), .int (nar .byte (dg 4 q2)), .int (nar .byte (dg 3 q2)), .int (nar .byte (dg 2 q2)), .int (nar .byte (dg 1 q2)), .int (nar .byte (dg 0 q2)), .int u12] (.int 0) := A236v
    refine g_iloadN X236 hx hby d15_58 (pc' := 59) rfl rfl ?_
    refine g_bipush X236 hx hby d15_59 (pc' := 61) rfl (z := (10 : Int32)) rfl ?_
    refine g_idiv X236 hx hby d15_61 (pc' := 62) rfl (by decide) ?_
    refine g_istoreN X236 hx hby d15_62 (pc' := 63) rfl (l' := #[.val (.ref q1), .val (.int q2), .val (.int (12 : Int32)), .val (.int (dv 9 q2)), .val (.int (3 : Int32))]) rfl ?_
    refine g_iinc X236 hx hby d15_63 (pc' := 66) rfl rfl (l' := #[.val (.ref q1), .val (.int q2), .val (.int (12 : Int32)), .val (.int (dv 9 q2)), .val (.int (2 : Int32))]) rfl ?_
    refine g_goto X236 hx hby d15_66 (by decide) (pc' := 34) (by decide) ?_
    refine g_iload X236 hx hby d15_34 (pc' := 36) rfl rfl ?_
    refine g_aloadN X236 hx hby d15_36 (pc' := 37) rfl rfl rfl ?_
    refine g_get X236 hx hZ hown hby d15_37 (pc' := 40) rfl (w_87 hw) rfl F236_q1_numberAt ?_
    intro T237 X237 e237
    refine g_icmp_lt X237 hx hby d15_40 (by decide) (pc' := 69) (by decide) (pn := 43) rfl (fun z => absurd z (by decide)) (fun _ => ?_)
    refine g_aloadN X237 hx hby d15_43 (pc' := 44) rfl rfl rfl ?_
    refine g_get X237 hx hZ hown hby d15_44 (pc' := 47) rfl (w_38 hw) e237 F236_q1_label ?_
    intro T238 X238 e238
    refine g_iload X238 hx hby d15_47 (pc' := 49) rfl rfl ?_
    refine g_bipush X238 hx hby d15_49 (pc' := 51) rfl (z := (48 : Int32)) rfl ?_
    refine g_iloadN X238 hx hby d15_51 (pc' := 52) rfl rfl ?_
    refine g_bipush X238 hx hby d15_52 (pc' := 54) rfl (z := (10 : Int32)) rfl ?_
    refine g_irem X238 hx hby d15_54 (pc' := 55) rfl (by decide) ?_
    refine g_iadd X238 hx hby d15_55 (pc' := 56) rfl ?_
    refine g_i2b X238 hx hby d15_56 (pc' := 57) rfl ?_
    refine g_bastore X238 hx hZ 2 hby d15_57 (pc' := 58) rfl e238 A236 (by decide) (by decide) (by first | decide | simp) ?_
    intro T239 X239 W239 A239v
    have N239 := Fr.snoc X239 N236 g_l
    have E239_q1 := E236_q1.wr W239
    have F239_q1_label := F236_q1_label.other W239 (Or.inl n_l.symm)
    have F239_q1_numberAt := F236_q1_numberAt.other W239 (Or.inl n_l.symm)
    have K239 := K236.wr W239 (Or.inl (List.mem_of_getElem? (i := 0) rfl))
    have A239 : Arv Z T239.heap bl kl .byte (266 : Int32) [.int u0, .int u1, .int (nar .byte (dg 9 q2)), .int (nar .byte (dg 8 q2)), .int (nar .byte (dg 7 q2)), .int (nar .byte (dg 6 q2)), .int (nar .byte (dg 5 q2)), .int (nar .byte (dg 4 q2)), .int (nar .byte (dg 3 q2)), .int (nar .byte (dg 2 q2)), .int (nar .byte (dg 1 q2)), .int (nar .byte (dg 0 q2)), .int u12] (.int 0) := A239v
    refine g_iloadN X239 hx hby d15_58 (pc' := 59) rfl rfl ?_
    refine g_bipush X239 hx hby d15_59 (pc' := 61) rfl (z := (10 : Int32)) rfl ?_
    refine g_idiv X239 hx hby d15_61 (pc' := 62) rfl (by decide) ?_
    refine g_istoreN X239 hx hby d15_62 (pc' := 63) rfl (l' := #[.val (.ref q1), .val (.int q2), .val (.int (12 : Int32)), .val (.int (dv 10 q2)), .val (.int (2 : Int32))]) rfl ?_
    refine g_iinc X239 hx hby d15_63 (pc' := 66) rfl rfl (l' := #[.val (.ref q1), .val (.int q2), .val (.int (12 : Int32)), .val (.int (dv 10 q2)), .val (.int (1 : Int32))]) rfl ?_
    refine g_goto X239 hx hby d15_66 (by decide) (pc' := 34) (by decide) ?_
    refine g_iload X239 hx hby d15_34 (pc' := 36) rfl rfl ?_
    refine g_aloadN X239 hx hby d15_36 (pc' := 37) rfl rfl rfl ?_
    refine g_get X239 hx hZ hown hby d15_37 (pc' := 40) rfl (w_87 hw) rfl F239_q1_numberAt ?_
    intro T240 X240 e240
    refine g_icmp_lt X240 hx hby d15_40 (by decide) (pc' := 69) (by decide) (pn := 43) rfl (fun _ => ?_) (fun z => absurd z (by decide))
    refine g_iloadN X240 hx hby d15_69 (pc' := 70) rfl rfl ?_
    exact g_retI (Q := (fun v h L => ∃ (t0 t1 t2 t3 t4 t5 t6 t7 t8 t9 t10 : Int32), v = some (.int ((2 : Int32) + (digV q2))) ∧ Fr n0 L ∧ Keep h0 h [bl] ∧ Arv Z h bl kl .byte (266 : Int32) [.int u0, .int u1, .int t0, .int t1, .int t2, .int t3, .int t4, .int t5, .int t6, .int t7, .int t8, .int t9, .int t10] (.int 0) ∧ DIGS 1 q2 [.int u0, .int u1, .int t0, .int t1, .int t2, .int t3, .int t4, .int t5, .int t6, .int t7, .int t8, .int t9, .int t10])) X240 hx hby d15_70 hret hlk (by decide) (by decide) (by rw [e240]; exact ⟨(nar .byte (dg 9 q2)), (nar .byte (dg 8 q2)), (nar .byte (dg 7 q2)), (nar .byte (dg 6 q2)), (nar .byte (dg 5 q2)), (nar .byte (dg 4 q2)), (nar .byte (dg 3 q2)), (nar .byte (dg 2 q2)), (nar .byte (dg 1 q2)), (nar .byte (dg 0 q2)), u12, congrArg (fun z : Int32 => some (Value.int z)) (by rw [own_dig hd10 (by decide) (by decide)]; rfl), N239, K239, A239, own_digs hd10 (by decide) (by decide) (fun i hi => match i, hi with | 0, _ => rfl | 1, _ => rfl | 2, _ => rfl | 3, _ => rfl | 4, _ => rfl | 5, _ => rfl | 6, _ => rfl | 7, _ => rfl | 8, _ => rfl | 9, _ => rfl | (k + 10), h => absurd h (by omega))⟩)
theorem ef_rmW2 (q1 : Addr) (q2 : Int32) (m : MethodId) : entryFrame m #[.ref q1, .int q2] 5 = mkF m 0 #[.val (.ref q1), .val (.int q2), .unset, .unset, .unset] [] := by
  first | (simp [entryFrame, mkF, argsToLocals, Value.category]; done) | rfl
theorem pn_rmW2 : plainName "com/example/astilla/astilla/PointLabels" = true := by first | (simp [plainName, overriddenIn]; done) | decide +kernel
set_option maxRecDepth 65536 in
set_option maxHeartbeats 40000000 in
theorem rmW2 (l : Launch) (Z : State) (a0 : Array Value) (hw : ∀ d ∈ tables_1, d.before a0 Z = true) (ws : List Jvm.Cond) (q1 : Addr) (q2 : Int32) (h0 : Heap) (n0 : Nat) (bl : Addr) (kl : ClassId) (u0 u1 u2 u3 u4 u5 u6 u7 u8 u9 u10 u11 u12 : Int32) (E_a : Exa Z h0 q1 "com/example/astilla/astilla/PointLabels") (F1 : Fld Z h0 q1 "com/example/astilla/astilla/PointLabels" "label" "[B" (.ref bl)) (F2 : Fld Z h0 q1 "com/example/astilla/astilla/PointLabels" "numberAt" "I" (.int (3 : Int32))) (A_l : Arv Z h0 bl kl .byte (266 : Int32) [.int u0, .int u1, .int u2, .int u3, .int u4, .int u5, .int u6, .int u7, .int u8, .int u9, .int u10, .int u11, .int u12] (.int 0)) (n_l : bl ≠ q1) (g_l : n0 ≤ bl) (hq : 0 ≤ q2.toInt) :
    Ctr l Z ({ cls := "com/example/astilla/astilla/PointLabels", name := "write", desc := "(I)I" } : Jvm.MethodName) prog_15_method_3_code 5 (some .int) ws ({ frames := 0, cells := 0, slots := 0, locals := 0 } : Room) #[.ref q1, .int q2] h0 (fun v h L => ∃ (t0 t1 t2 t3 t4 t5 t6 t7 t8 t9 : Int32), v = some (.int ((3 : Int32) + (digV q2))) ∧ Fr n0 L ∧ Keep h0 h [bl] ∧ Arv Z h bl kl .byte (266 : Int32) [.int u0, .int u1, .int u2, .int t0, .int t1, .int t2, .int t3, .int t4, .int t5, .int t6, .int t7, .int t8, .int t9] (.int 0) ∧ DIGS 2 q2 [.int u0, .int u1, .int u2, .int t0, .int t1, .int t2, .int t3, .int t4, .int t5, .int t6, .int t7, .int t8, .int t9]) := by
  refine Ctr.enter (Ls := #[.val (.ref q1), .val (.int q2), .unset, .unset, .unset]) (plainFor_of_name pn_rmW2) (fun m => ef_rmW2 q1 q2 m) ?_
  intro p e s m below meth c T hx hby hml hown hnm hret hlk hZ hh X0 e0
  have N0 := Fr.nil n0
  rcases own_nine q2 hq with hd1 | hd2 | hd3 | hd4 | hd5 | hd6 | hd7 | hd8 | hd9 | hd10
  · refine g_aloadN X0 hx hby d15_0 (pc' := 1) rfl rfl rfl ?_
    refine g_get X0 hx hZ hown hby d15_1 (pc' := 4) rfl (w_87 hw) e0 F2 ?_
    intro T1 X1 e1
    refine g_iconst X1 hx hby d15_4 (pc' := 5) rfl (z := (1 : Int32)) rfl ?_
    refine g_iadd X1 hx hby d15_5 (pc' := 6) rfl ?_
    refine g_eqI (b := (4 : Int32)) (by decide +kernel) ?_
    refine g_istoreN X1 hx hby d15_6 (pc' := 7) rfl (l' := #[.val (.ref q1), .val (.int q2), .val (.int (4 : Int32)), .unset, .unset]) rfl ?_
    refine g_iloadN X1 hx hby d15_7 (pc' := 8) rfl rfl ?_
    refine g_bipush X1 hx hby d15_8 (pc' := 10) rfl (z := (10 : Int32)) rfl ?_
    refine g_idiv X1 hx hby d15_10 (pc' := 11) rfl (by decide) ?_
    refine g_istoreN X1 hx hby d15_11 (pc' := 12) rfl (l' := #[.val (.ref q1), .val (.int q2), .val (.int (4 : Int32)), .val (.int (dv 1 q2)), .unset]) rfl ?_
    refine g_iloadN X1 hx hby d15_12 (pc' := 13) rfl rfl ?_
    refine g_if_le X1 hx hby d15_13 (by decide) (pc' := 27) (by decide) (pn := 16) rfl (fun hc13_2 => ?_) (fun z => absurd z (own_no hd1))
    refine g_iloadN X1 hx hby d15_27 (pc' := 28) rfl rfl ?_
    refine g_istoreN X1 hx hby d15_28 (pc' := 29) rfl (l' := #[.val (.ref q1), .val (.int q2), .val (.int (4 : Int32)), .val (.int (dv 0 q2)), .unset]) rfl ?_
    refine g_iloadN X1 hx hby d15_29 (pc' := 30) rfl rfl ?_
    refine g_iconst X1 hx hby d15_30 (pc' := 31) rfl (z := (1 : Int32)) rfl ?_
    refine g_isub X1 hx hby d15_31 (pc' := 32) rfl ?_
    refine g_eqI (b := (3 : Int32)) (by decide +kernel) ?_
    refine g_istore X1 hx hby d15_32 (pc' := 34) rfl (l' := #[.val (.ref q1), .val (.int q2), .val (.int (4 : Int32)), .val (.int (dv 0 q2)), .val (.int (3 : Int32))]) rfl ?_
    refine g_iload X1 hx hby d15_34 (pc' := 36) rfl rfl ?_
    refine g_aloadN X1 hx hby d15_36 (pc' := 37) rfl rfl rfl ?_
    refine g_get X1 hx hZ hown hby d15_37 (pc' := 40) rfl (w_87 hw) e1 F2 ?_
    intro T3 X3 e3
    refine g_icmp_lt X3 hx hby d15_40 (by decide) (pc' := 69) (by decide) (pn := 43) rfl (fun z => absurd z (by decide)) (fun _ => ?_)
    refine g_aloadN X3 hx hby d15_43 (pc' := 44) rfl rfl rfl ?_
    refine g_get X3 hx hZ hown hby d15_44 (pc' := 47) rfl (w_38 hw) e3 F1 ?_
    intro T4 X4 e4
    refine g_iload X4 hx hby d15_47 (pc' := 49) rfl rfl ?_
    refine g_bipush X4 hx hby d15_49 (pc' := 51) rfl (z := (48 : Int32)) rfl ?_
    refine g_iloadN X4 hx hby d15_51 (pc' := 52) rfl rfl ?_
    refine g_bipush X4 hx hby d15_52 (pc' := 54) rfl (z := (10 : Int32)) rfl ?_
    refine g_irem X4 hx hby d15_54 (pc' := 55) rfl (by decide) ?_
    refine g_iadd X4 hx hby d15_55 (pc' := 56) rfl ?_
    refine g_i2b X4 hx hby d15_56 (pc' := 57) rfl ?_
    refine g_bastore X4 hx hZ 3 hby d15_57 (pc' := 58) rfl e4 A_l (by decide) (by decide) (by first | decide | simp) ?_
    intro T5 X5 W5 A5v
    have N5 := Fr.snoc X5 N0 g_l
    have E5_q1 := E_a.wr W5
    have F5_q1_label := F1.other W5 (Or.inl n_l.symm)
    have F5_q1_numberAt := F2.other W5 (Or.inl n_l.symm)
    have K5 := (Keep.refl h0 [bl]).wr W5 (Or.inl (List.mem_of_getElem? (i := 0) rfl))
    have A5 : Arv Z T5.heap bl kl .byte (266 : Int32) [.int u0, .int u1, .int u2, .int (nar .byte (dg 0 q2)), .int u4, .int u5, .int u6, .int u7, .int u8, .int u9, .int u10, .int u11, .int u12] (.int 0) := A5v
    refine g_iloadN X5 hx hby d15_58 (pc' := 59) rfl rfl ?_
    refine g_bipush X5 hx hby d15_59 (pc' := 61) rfl (z := (10 : Int32)) rfl ?_
    refine g_idiv X5 hx hby d15_61 (pc' := 62) rfl (by decide) ?_
    refine g_istoreN X5 hx hby d15_62 (pc' := 63) rfl (l' := #[.val (.ref q1), .val (.int q2), .val (.int (4 : Int32)), .val (.int (dv 1 q2)), .val (.int (3 : Int32))]) rfl ?_
    refine g_iinc X5 hx hby d15_63 (pc' := 66) rfl rfl (l' := #[.val (.ref q1), .val (.int q2), .val (.int (4 : Int32)), .val (.int (dv 1 q2)), .val (.int (2 : Int32))]) rfl ?_
    refine g_goto X5 hx hby d15_66 (by decide) (pc' := 34) (by decide) ?_
    refine g_iload X5 hx hby d15_34 (pc' := 36) rfl rfl ?_
    refine g_aloadN X5 hx hby d15_36 (pc' := 37) rfl rfl rfl ?_
    refine g_get X5 hx hZ hown hby d15_37 (pc' := 40) rfl (w_87 hw) rfl F5_q1_numberAt ?_
    intro T6 X6 e6
    refine g_icmp_lt X6 hx hby d15_40 (by decide) (pc' := 69) (by decide) (pn := 43) rfl (fun _ => ?_) (fun z => absurd z (by decide))
    refine g_iloadN X6 hx hby d15_69 (pc' := 70) rfl rfl ?_
    exact g_retI (Q := (fun v h L => ∃ (t0 t1 t2 t3 t4 t5 t6 t7 t8 t9 : Int32), v = some (.int ((3 : Int32) + (digV q2))) ∧ Fr n0 L ∧ Keep h0 h [bl] ∧ Arv Z h bl kl .byte (266 : Int32) [.int u0, .int u1, .int u2, .int t0, .int t1, .int t2, .int t3, .int t4, .int t5, .int t6, .int t7, .int t8, .int t9] (.int 0) ∧ DIGS 2 q2 [.int u0, .int u1, .int u2, .int t0, .int t1, .int t2, .int t3, .int t4, .int t5, .int t6, .int t7, .int t8, .int t9])) X6 hx hby d15_70 hret hlk (by decide) (by decide) (by rw [e6]; exact ⟨(nar .byte (dg 0 q2)), u4, u5, u6, u7, u8, u9, u10, u11, u12, congrArg (fun z : Int32 => some (Value.int z)) (by rw [own_dig hd1 (by decide) (by decide)]; rfl), N5, K5, A5, own_digs hd1 (by decide) (by decide) (fun i hi => match i, hi with | 0, _ => rfl | (k + 1), h => absurd h (by omega))⟩)
  · refine g_aloadN X0 hx hby d15_0 (pc' := 1) rfl rfl rfl ?_
    refine g_get X0 hx hZ hown hby d15_1 (pc' := 4) rfl (w_87 hw) e0 F2 ?_
    intro T7 X7 e7
    refine g_iconst X7 hx hby d15_4 (pc' := 5) rfl (z := (1 : Int32)) rfl ?_
    refine g_iadd X7 hx hby d15_5 (pc' := 6) rfl ?_
    refine g_eqI (b := (4 : Int32)) (by decide +kernel) ?_
    refine g_istoreN X7 hx hby d15_6 (pc' := 7) rfl (l' := #[.val (.ref q1), .val (.int q2), .val (.int (4 : Int32)), .unset, .unset]) rfl ?_
    refine g_iloadN X7 hx hby d15_7 (pc' := 8) rfl rfl ?_
    refine g_bipush X7 hx hby d15_8 (pc' := 10) rfl (z := (10 : Int32)) rfl ?_
    refine g_idiv X7 hx hby d15_10 (pc' := 11) rfl (by decide) ?_
    refine g_istoreN X7 hx hby d15_11 (pc' := 12) rfl (l' := #[.val (.ref q1), .val (.int q2), .val (.int (4 : Int32)), .val (.int (dv 1 q2)), .unset]) rfl ?_
    refine g_iloadN X7 hx hby d15_12 (pc' := 13) rfl rfl ?_
    refine g_if_le X7 hx hby d15_13 (by decide) (pc' := 27) (by decide) (pn := 16) rfl (fun z => absurd z (fun z => z (own_yes 1 hd2 (by decide) (by decide)))) (fun hc13_8 => ?_)
    refine g_iinc X7 hx hby d15_16 (pc' := 19) rfl rfl (l' := #[.val (.ref q1), .val (.int q2), .val (.int (5 : Int32)), .val (.int (dv 1 q2)), .unset]) rfl ?_
    refine g_iloadN X7 hx hby d15_19 (pc' := 20) rfl rfl ?_
    refine g_bipush X7 hx hby d15_20 (pc' := 22) rfl (z := (10 : Int32)) rfl ?_
    refine g_idiv X7 hx hby d15_22 (pc' := 23) rfl (by decide) ?_
    refine g_istoreN X7 hx hby d15_23 (pc' := 24) rfl (l' := #[.val (.ref q1), .val (.int q2), .val (.int (5 : Int32)), .val (.int (dv 2 q2)), .unset]) rfl ?_
    refine g_goto X7 hx hby d15_24 (by decide) (pc' := 12) (by decide) ?_
    refine g_iloadN X7 hx hby d15_12 (pc' := 13) rfl rfl ?_
    refine g_if_le X7 hx hby d15_13 (by decide) (pc' := 27) (by decide) (pn := 16) rfl (fun hc13_9 => ?_) (fun z => absurd z (own_no hd2))
    refine g_iloadN X7 hx hby d15_27 (pc' := 28) rfl rfl ?_
    refine g_istoreN X7 hx hby d15_28 (pc' := 29) rfl (l' := #[.val (.ref q1), .val (.int q2), .val (.int (5 : Int32)), .val (.int (dv 0 q2)), .unset]) rfl ?_
    refine g_iloadN X7 hx hby d15_29 (pc' := 30) rfl rfl ?_
    refine g_iconst X7 hx hby d15_30 (pc' := 31) rfl (z := (1 : Int32)) rfl ?_
    refine g_isub X7 hx hby d15_31 (pc' := 32) rfl ?_
    refine g_eqI (b := (4 : Int32)) (by decide +kernel) ?_
    refine g_istore X7 hx hby d15_32 (pc' := 34) rfl (l' := #[.val (.ref q1), .val (.int q2), .val (.int (5 : Int32)), .val (.int (dv 0 q2)), .val (.int (4 : Int32))]) rfl ?_
    refine g_iload X7 hx hby d15_34 (pc' := 36) rfl rfl ?_
    refine g_aloadN X7 hx hby d15_36 (pc' := 37) rfl rfl rfl ?_
    refine g_get X7 hx hZ hown hby d15_37 (pc' := 40) rfl (w_87 hw) e7 F2 ?_
    intro T10 X10 e10
    refine g_icmp_lt X10 hx hby d15_40 (by decide) (pc' := 69) (by decide) (pn := 43) rfl (fun z => absurd z (by decide)) (fun _ => ?_)
    refine g_aloadN X10 hx hby d15_43 (pc' := 44) rfl rfl rfl ?_
    refine g_get X10 hx hZ hown hby d15_44 (pc' := 47) rfl (w_38 hw) e10 F1 ?_
    intro T11 X11 e11
    refine g_iload X11 hx hby d15_47 (pc' := 49) rfl rfl ?_
    refine g_bipush X11 hx hby d15_49 (pc' := 51) rfl (z := (48 : Int32)) rfl ?_
    refine g_iloadN X11 hx hby d15_51 (pc' := 52) rfl rfl ?_
    refine g_bipush X11 hx hby d15_52 (pc' := 54) rfl (z := (10 : Int32)) rfl ?_
    refine g_irem X11 hx hby d15_54 (pc' := 55) rfl (by decide) ?_
    refine g_iadd X11 hx hby d15_55 (pc' := 56) rfl ?_
    refine g_i2b X11 hx hby d15_56 (pc' := 57) rfl ?_
    refine g_bastore X11 hx hZ 4 hby d15_57 (pc' := 58) rfl e11 A_l (by decide) (by decide) (by first | decide | simp) ?_
    intro T12 X12 W12 A12v
    have N12 := Fr.snoc X12 N0 g_l
    have E12_q1 := E_a.wr W12
    have F12_q1_label := F1.other W12 (Or.inl n_l.symm)
    have F12_q1_numberAt := F2.other W12 (Or.inl n_l.symm)
    have K12 := (Keep.refl h0 [bl]).wr W12 (Or.inl (List.mem_of_getElem? (i := 0) rfl))
    have A12 : Arv Z T12.heap bl kl .byte (266 : Int32) [.int u0, .int u1, .int u2, .int u3, .int (nar .byte (dg 0 q2)), .int u5, .int u6, .int u7, .int u8, .int u9, .int u10, .int u11, .int u12] (.int 0) := A12v
    refine g_iloadN X12 hx hby d15_58 (pc' := 59) rfl rfl ?_
    refine g_bipush X12 hx hby d15_59 (pc' := 61) rfl (z := (10 : Int32)) rfl ?_
    refine g_idiv X12 hx hby d15_61 (pc' := 62) rfl (by decide) ?_
    refine g_istoreN X12 hx hby d15_62 (pc' := 63) rfl (l' := #[.val (.ref q1), .val (.int q2), .val (.int (5 : Int32)), .val (.int (dv 1 q2)), .val (.int (4 : Int32))]) rfl ?_
    refine g_iinc X12 hx hby d15_63 (pc' := 66) rfl rfl (l' := #[.val (.ref q1), .val (.int q2), .val (.int (5 : Int32)), .val (.int (dv 1 q2)), .val (.int (3 : Int32))]) rfl ?_
    refine g_goto X12 hx hby d15_66 (by decide) (pc' := 34) (by decide) ?_
    refine g_iload X12 hx hby d15_34 (pc' := 36) rfl rfl ?_
    refine g_aloadN X12 hx hby d15_36 (pc' := 37) rfl rfl rfl ?_
    refine g_get X12 hx hZ hown hby d15_37 (pc' := 40) rfl (w_87 hw) rfl F12_q1_numberAt ?_
    intro T13 X13 e13
    refine g_icmp_lt X13 hx hby d15_40 (by decide) (pc' := 69) (by decide) (pn := 43) rfl (fun z => absurd z (by decide)) (fun _ => ?_)
    refine g_aloadN X13 hx hby d15_43 (pc' := 44) rfl rfl rfl ?_
    refine g_get X13 hx hZ hown hby d15_44 (pc' := 47) rfl (w_38 hw) e13 F12_q1_label ?_
    intro T14 X14 e14
    refine g_iload X14 hx hby d15_47 (pc' := 49) rfl rfl ?_
    refine g_bipush X14 hx hby d15_49 (pc' := 51) rfl (z := (48 : Int32)) rfl ?_
    refine g_iloadN X14 hx hby d15_51 (pc' := 52) rfl rfl ?_
    refine g_bipush X14 hx hby d15_52 (pc' := 54) rfl (z := (10 : Int32)) rfl ?_
    refine g_irem X14 hx hby d15_54 (pc' := 55) rfl (by decide) ?_
    refine g_iadd X14 hx hby d15_55 (pc' := 56) rfl ?_
    refine g_i2b X14 hx hby d15_56 (pc' := 57) rfl ?_
    refine g_bastore X14 hx hZ 3 hby d15_57 (pc' := 58) rfl e14 A12 (by decide) (by decide) (by first | decide | simp) ?_
    intro T15 X15 W15 A15v
    have N15 := Fr.snoc X15 N12 g_l
    have E15_q1 := E12_q1.wr W15
    have F15_q1_label := F12_q1_label.other W15 (Or.inl n_l.symm)
    have F15_q1_numberAt := F12_q1_numberAt.other W15 (Or.inl n_l.symm)
    have K15 := K12.wr W15 (Or.inl (List.mem_of_getElem? (i := 0) rfl))
    have A15 : Arv Z T15.heap bl kl .byte (266 : Int32) [.int u0, .int u1, .int u2, .int (nar .byte (dg 1 q2)), .int (nar .byte (dg 0 q2)), .int u5, .int u6, .int u7, .int u8, .int u9, .int u10, .int u11, .int u12] (.int 0) := A15v
    refine g_iloadN X15 hx hby d15_58 (pc' := 59) rfl rfl ?_
    refine g_bipush X15 hx hby d15_59 (pc' := 61) rfl (z := (10 : Int32)) rfl ?_
    refine g_idiv X15 hx hby d15_61 (pc' := 62) rfl (by decide) ?_
    refine g_istoreN X15 hx hby d15_62 (pc' := 63) rfl (l' := #[.val (.ref q1), .val (.int q2), .val (.int (5 : Int32)), .val (.int (dv 2 q2)), .val (.int (3 : Int32))]) rfl ?_
    refine g_iinc X15 hx hby d15_63 (pc' := 66) rfl rfl (l' := #[.val (.ref q1), .val (.int q2), .val (.int (5 : Int32)), .val (.int (dv 2 q2)), .val (.int (2 : Int32))]) rfl ?_
    refine g_goto X15 hx hby d15_66 (by decide) (pc' := 34) (by decide) ?_
    refine g_iload X15 hx hby d15_34 (pc' := 36) rfl rfl ?_
    refine g_aloadN X15 hx hby d15_36 (pc' := 37) rfl rfl rfl ?_
    refine g_get X15 hx hZ hown hby d15_37 (pc' := 40) rfl (w_87 hw) rfl F15_q1_numberAt ?_
    intro T16 X16 e16
    refine g_icmp_lt X16 hx hby d15_40 (by decide) (pc' := 69) (by decide) (pn := 43) rfl (fun _ => ?_) (fun z => absurd z (by decide))
    refine g_iloadN X16 hx hby d15_69 (pc' := 70) rfl rfl ?_
    exact g_retI (Q := (fun v h L => ∃ (t0 t1 t2 t3 t4 t5 t6 t7 t8 t9 : Int32), v = some (.int ((3 : Int32) + (digV q2))) ∧ Fr n0 L ∧ Keep h0 h [bl] ∧ Arv Z h bl kl .byte (266 : Int32) [.int u0, .int u1, .int u2, .int t0, .int t1, .int t2, .int t3, .int t4, .int t5, .int t6, .int t7, .int t8, .int t9] (.int 0) ∧ DIGS 2 q2 [.int u0, .int u1, .int u2, .int t0, .int t1, .int t2, .int t3, .int t4, .int t5, .int t6, .int t7, .int t8, .int t9])) X16 hx hby d15_70 hret hlk (by decide) (by decide) (by rw [e16]; exact ⟨(nar .byte (dg 1 q2)), (nar .byte (dg 0 q2)), u5, u6, u7, u8, u9, u10, u11, u12, congrArg (fun z : Int32 => some (Value.int z)) (by rw [own_dig hd2 (by decide) (by decide)]; rfl), N15, K15, A15, own_digs hd2 (by decide) (by decide) (fun i hi => match i, hi with | 0, _ => rfl | 1, _ => rfl | (k + 2), h => absurd h (by omega))⟩)
  · refine g_aloadN X0 hx hby d15_0 (pc' := 1) rfl rfl rfl ?_
    refine g_get X0 hx hZ hown hby d15_1 (pc' := 4) rfl (w_87 hw) e0 F2 ?_
    intro T17 X17 e17
    refine g_iconst X17 hx hby d15_4 (pc' := 5) rfl (z := (1 : Int32)) rfl ?_
    refine g_iadd X17 hx hby d15_5 (pc' := 6) rfl ?_
    refine g_eqI (b := (4 : Int32)) (by decide +kernel) ?_
    refine g_istoreN X17 hx hby d15_6 (pc' := 7) rfl (l' := #[.val (.ref q1), .val (.int q2), .val (.int (4 : Int32)), .unset, .unset]) rfl ?_
    refine g_iloadN X17 hx hby d15_7 (pc' := 8) rfl rfl ?_
    refine g_bipush X17 hx hby d15_8 (pc' := 10) rfl (z := (10 : Int32)) rfl ?_
    refine g_idiv X17 hx hby d15_10 (pc' := 11) rfl (by decide) ?_
    refine g_istoreN X17 hx hby d15_11 (pc' := 12) rfl (l' := #[.val (.ref q1), .val (.int q2), .val (.int (4 : Int32)), .val (.int (dv 1 q2)), .unset]) rfl ?_
    refine g_iloadN X17 hx hby d15_12 (pc' := 13) rfl rfl ?_
    refine g_if_le X17 hx hby d15_13 (by decide) (pc' := 27) (by decide) (pn := 16) rfl (fun z => absurd z (fun z => z (own_yes 1 hd3 (by decide) (by decide)))) (fun hc13_18 => ?_)
    refine g_iinc X17 hx hby d15_16 (pc' := 19) rfl rfl (l' := #[.val (.ref q1), .val (.int q2), .val (.int (5 : Int32)), .val (.int (dv 1 q2)), .unset]) rfl ?_
    refine g_iloadN X17 hx hby d15_19 (pc' := 20) rfl rfl ?_
    refine g_bipush X17 hx hby d15_20 (pc' := 22) rfl (z := (10 : Int32)) rfl ?_
    refine g_idiv X17 hx hby d15_22 (pc' := 23) rfl (by decide) ?_
    refine g_istoreN X17 hx hby d15_23 (pc' := 24) rfl (l' := #[.val (.ref q1), .val (.int q2), .val (.int (5 : Int32)), .val (.int (dv 2 q2)), .unset]) rfl ?_
    refine g_goto X17 hx hby d15_24 (by decide) (pc' := 12) (by decide) ?_
    refine g_iloadN X17 hx hby d15_12 (pc' := 13) rfl rfl ?_
    refine g_if_le X17 hx hby d15_13 (by decide) (pc' := 27) (by decide) (pn := 16) rfl (fun z => absurd z (fun z => z (own_yes 2 hd3 (by decide) (by decide)))) (fun hc13_19 => ?_)
    refine g_iinc X17 hx hby d15_16 (pc' := 19) rfl rfl (l' := #[.val (.ref q1), .val (.int q2), .val (.int (6 : Int32)), .val (.int (dv 2 q2)), .unset]) rfl ?_
    refine g_iloadN X17 hx hby d15_19 (pc' := 20) rfl rfl ?_
    refine g_bipush X17 hx hby d15_20 (pc' := 22) rfl (z := (10 : Int32)) rfl ?_
    refine g_idiv X17 hx hby d15_22 (pc' := 23) rfl (by decide) ?_
    refine g_istoreN X17 hx hby d15_23 (pc' := 24) rfl (l' := #[.val (.ref q1), .val (.int q2), .val (.int (6 : Int32)), .val (.int (dv 3 q2)), .unset]) rfl ?_
    refine g_goto X17 hx hby d15_24 (by decide) (pc' := 12) (by decide) ?_
    refine g_iloadN X17 hx hby d15_12 (pc' := 13) rfl rfl ?_
    refine g_if_le X17 hx hby d15_13 (by decide) (pc' := 27) (by decide) (pn := 16) rfl (fun hc13_20 => ?_) (fun z => absurd z (own_no hd3))
    refine g_iloadN X17 hx hby d15_27 (pc' := 28) rfl rfl ?_
    refine g_istoreN X17 hx hby d15_28 (pc' := 29) rfl (l' := #[.val (.ref q1), .val (.int q2), .val (.int (6 : Int32)), .val (.int (dv 0 q2)), .unset]) rfl ?_
    refine g_iloadN X17 hx hby d15_29 (pc' := 30) rfl rfl ?_
    refine g_iconst X17 hx hby d15_30 (pc' := 31) rfl (z := (1 : Int32)) rfl ?_
    refine g_isub X17 hx hby d15_31 (pc' := 32) rfl ?_
    refine g_eqI (b := (5 : Int32)) (by decide +kernel) ?_
    refine g_istore X17 hx hby d15_32 (pc' := 34) rfl (l' := #[.val (.ref q1), .val (.int q2), .val (.int (6 : Int32)), .val (.int (dv 0 q2)), .val (.int (5 : Int32))]) rfl ?_
    refine g_iload X17 hx hby d15_34 (pc' := 36) rfl rfl ?_
    refine g_aloadN X17 hx hby d15_36 (pc' := 37) rfl rfl rfl ?_
    refine g_get X17 hx hZ hown hby d15_37 (pc' := 40) rfl (w_87 hw) e17 F2 ?_
    intro T21 X21 e21
    refine g_icmp_lt X21 hx hby d15_40 (by decide) (pc' := 69) (by decide) (pn := 43) rfl (fun z => absurd z (by decide)) (fun _ => ?_)
    refine g_aloadN X21 hx hby d15_43 (pc' := 44) rfl rfl rfl ?_
    refine g_get X21 hx hZ hown hby d15_44 (pc' := 47) rfl (w_38 hw) e21 F1 ?_
    intro T22 X22 e22
    refine g_iload X22 hx hby d15_47 (pc' := 49) rfl rfl ?_
    refine g_bipush X22 hx hby d15_49 (pc' := 51) rfl (z := (48 : Int32)) rfl ?_
    refine g_iloadN X22 hx hby d15_51 (pc' := 52) rfl rfl ?_
    refine g_bipush X22 hx hby d15_52 (pc' := 54) rfl (z := (10 : Int32)) rfl ?_
    refine g_irem X22 hx hby d15_54 (pc' := 55) rfl (by decide) ?_
    refine g_iadd X22 hx hby d15_55 (pc' := 56) rfl ?_
    refine g_i2b X22 hx hby d15_56 (pc' := 57) rfl ?_
    refine g_bastore X22 hx hZ 5 hby d15_57 (pc' := 58) rfl e22 A_l (by decide) (by decide) (by first | decide | simp) ?_
    intro T23 X23 W23 A23v
    have N23 := Fr.snoc X23 N0 g_l
    have E23_q1 := E_a.wr W23
    have F23_q1_label := F1.other W23 (Or.inl n_l.symm)
    have F23_q1_numberAt := F2.other W23 (Or.inl n_l.symm)
    have K23 := (Keep.refl h0 [bl]).wr W23 (Or.inl (List.mem_of_getElem? (i := 0) rfl))
    have A23 : Arv Z T23.heap bl kl .byte (266 : Int32) [.int u0, .int u1, .int u2, .int u3, .int u4, .int (nar .byte (dg 0 q2)), .int u6, .int u7, .int u8, .int u9, .int u10, .int u11, .int u12] (.int 0) := A23v
    refine g_iloadN X23 hx hby d15_58 (pc' := 59) rfl rfl ?_
    refine g_bipush X23 hx hby d15_59 (pc' := 61) rfl (z := (10 : Int32)) rfl ?_
    refine g_idiv X23 hx hby d15_61 (pc' := 62) rfl (by decide) ?_
    refine g_istoreN X23 hx hby d15_62 (pc' := 63) rfl (l' := #[.val (.ref q1), .val (.int q2), .val (.int (6 : Int32)), .val (.int (dv 1 q2)), .val (.int (5 : Int32))]) rfl ?_
    refine g_iinc X23 hx hby d15_63 (pc' := 66) rfl rfl (l' := #[.val (.ref q1), .val (.int q2), .val (.int (6 : Int32)), .val (.int (dv 1 q2)), .val (.int (4 : Int32))]) rfl ?_
    refine g_goto X23 hx hby d15_66 (by decide) (pc' := 34) (by decide) ?_
    refine g_iload X23 hx hby d15_34 (pc' := 36) rfl rfl ?_
    refine g_aloadN X23 hx hby d15_36 (pc' := 37) rfl rfl rfl ?_
    refine g_get X23 hx hZ hown hby d15_37 (pc' := 40) rfl (w_87 hw) rfl F23_q1_numberAt ?_
    intro T24 X24 e24
    refine g_icmp_lt X24 hx hby d15_40 (by decide) (pc' := 69) (by decide) (pn := 43) rfl (fun z => absurd z (by decide)) (fun _ => ?_)
    refine g_aloadN X24 hx hby d15_43 (pc' := 44) rfl rfl rfl ?_
    refine g_get X24 hx hZ hown hby d15_44 (pc' := 47) rfl (w_38 hw) e24 F23_q1_label ?_
    intro T25 X25 e25
    refine g_iload X25 hx hby d15_47 (pc' := 49) rfl rfl ?_
    refine g_bipush X25 hx hby d15_49 (pc' := 51) rfl (z := (48 : Int32)) rfl ?_
    refine g_iloadN X25 hx hby d15_51 (pc' := 52) rfl rfl ?_
    refine g_bipush X25 hx hby d15_52 (pc' := 54) rfl (z := (10 : Int32)) rfl ?_
    refine g_irem X25 hx hby d15_54 (pc' := 55) rfl (by decide) ?_
    refine g_iadd X25 hx hby d15_55 (pc' := 56) rfl ?_
    refine g_i2b X25 hx hby d15_56 (pc' := 57) rfl ?_
    refine g_bastore X25 hx hZ 4 hby d15_57 (pc' := 58) rfl e25 A23 (by decide) (by decide) (by first | decide | simp) ?_
    intro T26 X26 W26 A26v
    have N26 := Fr.snoc X26 N23 g_l
    have E26_q1 := E23_q1.wr W26
    have F26_q1_label := F23_q1_label.other W26 (Or.inl n_l.symm)
    have F26_q1_numberAt := F23_q1_numberAt.other W26 (Or.inl n_l.symm)
    have K26 := K23.wr W26 (Or.inl (List.mem_of_getElem? (i := 0) rfl))
    have A26 : Arv Z T26.heap bl kl .byte (266 : Int32) [.int u0, .int u1, .int u2, .int u3, .int (nar .byte (dg 1 q2)), .int (nar .byte (dg 0 q2)), .int u6, .int u7, .int u8, .int u9, .int u10, .int u11, .int u12] (.int 0) := A26v
    refine g_iloadN X26 hx hby d15_58 (pc' := 59) rfl rfl ?_
    refine g_bipush X26 hx hby d15_59 (pc' := 61) rfl (z := (10 : Int32)) rfl ?_
    refine g_idiv X26 hx hby d15_61 (pc' := 62) rfl (by decide) ?_
    refine g_istoreN X26 hx hby d15_62 (pc' := 63) rfl (l' := #[.val (.ref q1), .val (.int q2), .val (.int (6 : Int32)), .val (.int (dv 2 q2)), .val (.int (4 : Int32))]) rfl ?_
    refine g_iinc X26 hx hby d15_63 (pc' := 66) rfl rfl (l' := #[.val (.ref q1), .val (.int q2), .val (.int (6 : Int32)), .val (.int (dv 2 q2)), .val (.int (3 : Int32))]) rfl ?_
    refine g_goto X26 hx hby d15_66 (by decide) (pc' := 34) (by decide) ?_
    refine g_iload X26 hx hby d15_34 (pc' := 36) rfl rfl ?_
    refine g_aloadN X26 hx hby d15_36 (pc' := 37) rfl rfl rfl ?_
    refine g_get X26 hx hZ hown hby d15_37 (pc' := 40) rfl (w_87 hw) rfl F26_q1_numberAt ?_
    intro T27 X27 e27
    refine g_icmp_lt X27 hx hby d15_40 (by decide) (pc' := 69) (by decide) (pn := 43) rfl (fun z => absurd z (by decide)) (fun _ => ?_)
    refine g_aloadN X27 hx hby d15_43 (pc' := 44) rfl rfl rfl ?_
    refine g_get X27 hx hZ hown hby d15_44 (pc' := 47) rfl (w_38 hw) e27 F26_q1_label ?_
    intro T28 X28 e28
    refine g_iload X28 hx hby d15_47 (pc' := 49) rfl rfl ?_
    refine g_bipush X28 hx hby d15_49 (pc' := 51) rfl (z := (48 : Int32)) rfl ?_
    refine g_iloadN X28 hx hby d15_51 (pc' := 52) rfl rfl ?_
    refine g_bipush X28 hx hby d15_52 (pc' := 54) rfl (z := (10 : Int32)) rfl ?_
    refine g_irem X28 hx hby d15_54 (pc' := 55) rfl (by decide) ?_
    refine g_iadd X28 hx hby d15_55 (pc' := 56) rfl ?_
    refine g_i2b X28 hx hby d15_56 (pc' := 57) rfl ?_
    refine g_bastore X28 hx hZ 3 hby d15_57 (pc' := 58) rfl e28 A26 (by decide) (by decide) (by first | decide | simp) ?_
    intro T29 X29 W29 A29v
    have N29 := Fr.snoc X29 N26 g_l
    have E29_q1 := E26_q1.wr W29
    have F29_q1_label := F26_q1_label.other W29 (Or.inl n_l.symm)
    have F29_q1_numberAt := F26_q1_numberAt.other W29 (Or.inl n_l.symm)
    have K29 := K26.wr W29 (Or.inl (List.mem_of_getElem? (i := 0) rfl))
    have A29 : Arv Z T29.heap bl kl .byte (266 : Int32) [.int u0, .int u1, .int u2, .int (nar .byte (dg 2 q2)), .int (nar .byte (dg 1 q2)), .int (nar .byte (dg 0 q2)), .int u6, .int u7, .int u8, .int u9, .int u10, .int u11, .int u12] (.int 0) := A29v
    refine g_iloadN X29 hx hby d15_58 (pc' := 59) rfl rfl ?_
    refine g_bipush X29 hx hby d15_59 (pc' := 61) rfl (z := (10 : Int32)) rfl ?_
    refine g_idiv X29 hx hby d15_61 (pc' := 62) rfl (by decide) ?_
    refine g_istoreN X29 hx hby d15_62 (pc' := 63) rfl (l' := #[.val (.ref q1), .val (.int q2), .val (.int (6 : Int32)), .val (.int (dv 3 q2)), .val (.int (3 : Int32))]) rfl ?_
    refine g_iinc X29 hx hby d15_63 (pc' := 66) rfl rfl (l' := #[.val (.ref q1), .val (.int q2), .val (.int (6 : Int32)), .val (.int (dv 3 q2)), .val (.int (2 : Int32))]) rfl ?_
    refine g_goto X29 hx hby d15_66 (by decide) (pc' := 34) (by decide) ?_
    refine g_iload X29 hx hby d15_34 (pc' := 36) rfl rfl ?_
    refine g_aloadN X29 hx hby d15_36 (pc' := 37) rfl rfl rfl ?_
    refine g_get X29 hx hZ hown hby d15_37 (pc' := 40) rfl (w_87 hw) rfl F29_q1_numberAt ?_
    intro T30 X30 e30
    refine g_icmp_lt X30 hx hby d15_40 (by decide) (pc' := 69) (by decide) (pn := 43) rfl (fun _ => ?_) (fun z => absurd z (by decide))
    refine g_iloadN X30 hx hby d15_69 (pc' := 70) rfl rfl ?_
    exact g_retI (Q := (fun v h L => ∃ (t0 t1 t2 t3 t4 t5 t6 t7 t8 t9 : Int32), v = some (.int ((3 : Int32) + (digV q2))) ∧ Fr n0 L ∧ Keep h0 h [bl] ∧ Arv Z h bl kl .byte (266 : Int32) [.int u0, .int u1, .int u2, .int t0, .int t1, .int t2, .int t3, .int t4, .int t5, .int t6, .int t7, .int t8, .int t9] (.int 0) ∧ DIGS 2 q2 [.int u0, .int u1, .int u2, .int t0, .int t1, .int t2, .int t3, .int t4, .int t5, .int t6, .int t7, .int t8, .int t9])) X30 hx hby d15_70 hret hlk (by decide) (by decide) (by rw [e30]; exact ⟨(nar .byte (dg 2 q2)), (nar .byte (dg 1 q2)), (nar .byte (dg 0 q2)), u6, u7, u8, u9, u10, u11, u12, congrArg (fun z : Int32 => some (Value.int z)) (by rw [own_dig hd3 (by decide) (by decide)]; rfl), N29, K29, A29, own_digs hd3 (by decide) (by decide) (fun i hi => match i, hi with | 0, _ => rfl | 1, _ => rfl | 2, _ => rfl | (k + 3), h => absurd h (by omega))⟩)
  · refine g_aloadN X0 hx hby d15_0 (pc' := 1) rfl rfl rfl ?_
    refine g_get X0 hx hZ hown hby d15_1 (pc' := 4) rfl (w_87 hw) e0 F2 ?_
    intro T31 X31 e31
    refine g_iconst X31 hx hby d15_4 (pc' := 5) rfl (z := (1 : Int32)) rfl ?_
    refine g_iadd X31 hx hby d15_5 (pc' := 6) rfl ?_
    refine g_eqI (b := (4 : Int32)) (by decide +kernel) ?_
    refine g_istoreN X31 hx hby d15_6 (pc' := 7) rfl (l' := #[.val (.ref q1), .val (.int q2), .val (.int (4 : Int32)), .unset, .unset]) rfl ?_
    refine g_iloadN X31 hx hby d15_7 (pc' := 8) rfl rfl ?_
    refine g_bipush X31 hx hby d15_8 (pc' := 10) rfl (z := (10 : Int32)) rfl ?_
    refine g_idiv X31 hx hby d15_10 (pc' := 11) rfl (by decide) ?_
    refine g_istoreN X31 hx hby d15_11 (pc' := 12) rfl (l' := #[.val (.ref q1), .val (.int q2), .val (.int (4 : Int32)), .val (.int (dv 1 q2)), .unset]) rfl ?_
    refine g_iloadN X31 hx hby d15_12 (pc' := 13) rfl rfl ?_
    refine g_if_le X31 hx hby d15_13 (by decide) (pc' := 27) (by decide) (pn := 16) rfl (fun z => absurd z (fun z => z (own_yes 1 hd4 (by decide) (by decide)))) (fun hc13_32 => ?_)
    refine g_iinc X31 hx hby d15_16 (pc' := 19) rfl rfl (l' := #[.val (.ref q1), .val (.int q2), .val (.int (5 : Int32)), .val (.int (dv 1 q2)), .unset]) rfl ?_
    refine g_iloadN X31 hx hby d15_19 (pc' := 20) rfl rfl ?_
    refine g_bipush X31 hx hby d15_20 (pc' := 22) rfl (z := (10 : Int32)) rfl ?_
    refine g_idiv X31 hx hby d15_22 (pc' := 23) rfl (by decide) ?_
    refine g_istoreN X31 hx hby d15_23 (pc' := 24) rfl (l' := #[.val (.ref q1), .val (.int q2), .val (.int (5 : Int32)), .val (.int (dv 2 q2)), .unset]) rfl ?_
    refine g_goto X31 hx hby d15_24 (by decide) (pc' := 12) (by decide) ?_
    refine g_iloadN X31 hx hby d15_12 (pc' := 13) rfl rfl ?_
    refine g_if_le X31 hx hby d15_13 (by decide) (pc' := 27) (by decide) (pn := 16) rfl (fun z => absurd z (fun z => z (own_yes 2 hd4 (by decide) (by decide)))) (fun hc13_33 => ?_)
    refine g_iinc X31 hx hby d15_16 (pc' := 19) rfl rfl (l' := #[.val (.ref q1), .val (.int q2), .val (.int (6 : Int32)), .val (.int (dv 2 q2)), .unset]) rfl ?_
    refine g_iloadN X31 hx hby d15_19 (pc' := 20) rfl rfl ?_
    refine g_bipush X31 hx hby d15_20 (pc' := 22) rfl (z := (10 : Int32)) rfl ?_
    refine g_idiv X31 hx hby d15_22 (pc' := 23) rfl (by decide) ?_
    refine g_istoreN X31 hx hby d15_23 (pc' := 24) rfl (l' := #[.val (.ref q1), .val (.int q2), .val (.int (6 : Int32)), .val (.int (dv 3 q2)), .unset]) rfl ?_
    refine g_goto X31 hx hby d15_24 (by decide) (pc' := 12) (by decide) ?_
    refine g_iloadN X31 hx hby d15_12 (pc' := 13) rfl rfl ?_
    refine g_if_le X31 hx hby d15_13 (by decide) (pc' := 27) (by decide) (pn := 16) rfl (fun z => absurd z (fun z => z (own_yes 3 hd4 (by decide) (by decide)))) (fun hc13_34 => ?_)
    refine g_iinc X31 hx hby d15_16 (pc' := 19) rfl rfl (l' := #[.val (.ref q1), .val (.int q2), .val (.int (7 : Int32)), .val (.int (dv 3 q2)), .unset]) rfl ?_
    refine g_iloadN X31 hx hby d15_19 (pc' := 20) rfl rfl ?_
    refine g_bipush X31 hx hby d15_20 (pc' := 22) rfl (z := (10 : Int32)) rfl ?_
    refine g_idiv X31 hx hby d15_22 (pc' := 23) rfl (by decide) ?_
    refine g_istoreN X31 hx hby d15_23 (pc' := 24) rfl (l' := #[.val (.ref q1), .val (.int q2), .val (.int (7 : Int32)), .val (.int (dv 4 q2)), .unset]) rfl ?_
    refine g_goto X31 hx hby d15_24 (by decide) (pc' := 12) (by decide) ?_
    refine g_iloadN X31 hx hby d15_12 (pc' := 13) rfl rfl ?_
    refine g_if_le X31 hx hby d15_13 (by decide) (pc' := 27) (by decide) (pn := 16) rfl (fun hc13_35 => ?_) (fun z => absurd z (own_no hd4))
    refine g_iloadN X31 hx hby d15_27 (pc' := 28) rfl rfl ?_
    refine g_istoreN X31 hx hby d15_28 (pc' := 29) rfl (l' := #[.val (.ref q1), .val (.int q2), .val (.int (7 : Int32)), .val (.int (dv 0 q2)), .unset]) rfl ?_
    refine g_iloadN X31 hx hby d15_29 (pc' := 30) rfl rfl ?_
    refine g_iconst X31 hx hby d15_30 (pc' := 31) rfl (z := (1 : Int32)) rfl ?_
    refine g_isub X31 hx hby d15_31 (pc' := 32) rfl ?_
    refine g_eqI (b := (6 : Int32)) (by decide +kernel) ?_
    refine g_istore X31 hx hby d15_32 (pc' := 34) rfl (l' := #[.val (.ref q1), .val (.int q2), .val (.int (7 : Int32)), .val (.int (dv 0 q2)), .val (.int (6 : Int32))]) rfl ?_
    refine g_iload X31 hx hby d15_34 (pc' := 36) rfl rfl ?_
    refine g_aloadN X31 hx hby d15_36 (pc' := 37) rfl rfl rfl ?_
    refine g_get X31 hx hZ hown hby d15_37 (pc' := 40) rfl (w_87 hw) e31 F2 ?_
    intro T36 X36 e36
    refine g_icmp_lt X36 hx hby d15_40 (by decide) (pc' := 69) (by decide) (pn := 43) rfl (fun z => absurd z (by decide)) (fun _ => ?_)
    refine g_aloadN X36 hx hby d15_43 (pc' := 44) rfl rfl rfl ?_
    refine g_get X36 hx hZ hown hby d15_44 (pc' := 47) rfl (w_38 hw) e36 F1 ?_
    intro T37 X37 e37
    refine g_iload X37 hx hby d15_47 (pc' := 49) rfl rfl ?_
    refine g_bipush X37 hx hby d15_49 (pc' := 51) rfl (z := (48 : Int32)) rfl ?_
    refine g_iloadN X37 hx hby d15_51 (pc' := 52) rfl rfl ?_
    refine g_bipush X37 hx hby d15_52 (pc' := 54) rfl (z := (10 : Int32)) rfl ?_
    refine g_irem X37 hx hby d15_54 (pc' := 55) rfl (by decide) ?_
    refine g_iadd X37 hx hby d15_55 (pc' := 56) rfl ?_
    refine g_i2b X37 hx hby d15_56 (pc' := 57) rfl ?_
    refine g_bastore X37 hx hZ 6 hby d15_57 (pc' := 58) rfl e37 A_l (by decide) (by decide) (by first | decide | simp) ?_
    intro T38 X38 W38 A38v
    have N38 := Fr.snoc X38 N0 g_l
    have E38_q1 := E_a.wr W38
    have F38_q1_label := F1.other W38 (Or.inl n_l.symm)
    have F38_q1_numberAt := F2.other W38 (Or.inl n_l.symm)
    have K38 := (Keep.refl h0 [bl]).wr W38 (Or.inl (List.mem_of_getElem? (i := 0) rfl))
    have A38 : Arv Z T38.heap bl kl .byte (266 : Int32) [.int u0, .int u1, .int u2, .int u3, .int u4, .int u5, .int (nar .byte (dg 0 q2)), .int u7, .int u8, .int u9, .int u10, .int u11, .int u12] (.int 0) := A38v
    refine g_iloadN X38 hx hby d15_58 (pc' := 59) rfl rfl ?_
    refine g_bipush X38 hx hby d15_59 (pc' := 61) rfl (z := (10 : Int32)) rfl ?_
    refine g_idiv X38 hx hby d15_61 (pc' := 62) rfl (by decide) ?_
    refine g_istoreN X38 hx hby d15_62 (pc' := 63) rfl (l' := #[.val (.ref q1), .val (.int q2), .val (.int (7 : Int32)), .val (.int (dv 1 q2)), .val (.int (6 : Int32))]) rfl ?_
    refine g_iinc X38 hx hby d15_63 (pc' := 66) rfl rfl (l' := #[.val (.ref q1), .val (.int q2), .val (.int (7 : Int32)), .val (.int (dv 1 q2)), .val (.int (5 : Int32))]) rfl ?_
    refine g_goto X38 hx hby d15_66 (by decide) (pc' := 34) (by decide) ?_
    refine g_iload X38 hx hby d15_34 (pc' := 36) rfl rfl ?_
    refine g_aloadN X38 hx hby d15_36 (pc' := 37) rfl rfl rfl ?_
    refine g_get X38 hx hZ hown hby d15_37 (pc' := 40) rfl (w_87 hw) rfl F38_q1_numberAt ?_
    intro T39 X39 e39
    refine g_icmp_lt X39 hx hby d15_40 (by decide) (pc' := 69) (by decide) (pn := 43) rfl (fun z => absurd z (by decide)) (fun _ => ?_)
    refine g_aloadN X39 hx hby d15_43 (pc' := 44) rfl rfl rfl ?_
    refine g_get X39 hx hZ hown hby d15_44 (pc' := 47) rfl (w_38 hw) e39 F38_q1_label ?_
    intro T40 X40 e40
    refine g_iload X40 hx hby d15_47 (pc' := 49) rfl rfl ?_
    refine g_bipush X40 hx hby d15_49 (pc' := 51) rfl (z := (48 : Int32)) rfl ?_
    refine g_iloadN X40 hx hby d15_51 (pc' := 52) rfl rfl ?_
    refine g_bipush X40 hx hby d15_52 (pc' := 54) rfl (z := (10 : Int32)) rfl ?_
    refine g_irem X40 hx hby d15_54 (pc' := 55) rfl (by decide) ?_
    refine g_iadd X40 hx hby d15_55 (pc' := 56) rfl ?_
    refine g_i2b X40 hx hby d15_56 (pc' := 57) rfl ?_
    refine g_bastore X40 hx hZ 5 hby d15_57 (pc' := 58) rfl e40 A38 (by decide) (by decide) (by first | decide | simp) ?_
    intro T41 X41 W41 A41v
    have N41 := Fr.snoc X41 N38 g_l
    have E41_q1 := E38_q1.wr W41
    have F41_q1_label := F38_q1_label.other W41 (Or.inl n_l.symm)
    have F41_q1_numberAt := F38_q1_numberAt.other W41 (Or.inl n_l.symm)
    have K41 := K38.wr W41 (Or.inl (List.mem_of_getElem? (i := 0) rfl))
    have A41 : Arv Z T41.heap bl kl .byte (266 : Int32) [.int u0, .int u1, .int u2, .int u3, .int u4, .int (nar .byte (dg 1 q2)), .int (nar .byte (dg 0 q2)), .int u7, .int u8, .int u9, .int u10, .int u11, .int u12] (.int 0) := A41v
    refine g_iloadN X41 hx hby d15_58 (pc' := 59) rfl rfl ?_
    refine g_bipush X41 hx hby d15_59 (pc' := 61) rfl (z := (10 : Int32)) rfl ?_
    refine g_idiv X41 hx hby d15_61 (pc' := 62) rfl (by decide) ?_
    refine g_istoreN X41 hx hby d15_62 (pc' := 63) rfl (l' := #[.val (.ref q1), .val (.int q2), .val (.int (7 : Int32)), .val (.int (dv 2 q2)), .val (.int (5 : Int32))]) rfl ?_
    refine g_iinc X41 hx hby d15_63 (pc' := 66) rfl rfl (l' := #[.val (.ref q1), .val (.int q2), .val (.int (7 : Int32)), .val (.int (dv 2 q2)), .val (.int (4 : Int32))]) rfl ?_
    refine g_goto X41 hx hby d15_66 (by decide) (pc' := 34) (by decide) ?_
    refine g_iload X41 hx hby d15_34 (pc' := 36) rfl rfl ?_
    refine g_aloadN X41 hx hby d15_36 (pc' := 37) rfl rfl rfl ?_
    refine g_get X41 hx hZ hown hby d15_37 (pc' := 40) rfl (w_87 hw) rfl F41_q1_numberAt ?_
    intro T42 X42 e42
    refine g_icmp_lt X42 hx hby d15_40 (by decide) (pc' := 69) (by decide) (pn := 43) rfl (fun z => absurd z (by decide)) (fun _ => ?_)
    refine g_aloadN X42 hx hby d15_43 (pc' := 44) rfl rfl rfl ?_
    refine g_get X42 hx hZ hown hby d15_44 (pc' := 47) rfl (w_38 hw) e42 F41_q1_label ?_
    intro T43 X43 e43
    refine g_iload X43 hx hby d15_47 (pc' := 49) rfl rfl ?_
    refine g_bipush X43 hx hby d15_49 (pc' := 51) rfl (z := (48 : Int32)) rfl ?_
    refine g_iloadN X43 hx hby d15_51 (pc' := 52) rfl rfl ?_
    refine g_bipush X43 hx hby d15_52 (pc' := 54) rfl (z := (10 : Int32)) rfl ?_
    refine g_irem X43 hx hby d15_54 (pc' := 55) rfl (by decide) ?_
    refine g_iadd X43 hx hby d15_55 (pc' := 56) rfl ?_
    refine g_i2b X43 hx hby d15_56 (pc' := 57) rfl ?_
    refine g_bastore X43 hx hZ 4 hby d15_57 (pc' := 58) rfl e43 A41 (by decide) (by decide) (by first | decide | simp) ?_
    intro T44 X44 W44 A44v
    have N44 := Fr.snoc X44 N41 g_l
    have E44_q1 := E41_q1.wr W44
    have F44_q1_label := F41_q1_label.other W44 (Or.inl n_l.symm)
    have F44_q1_numberAt := F41_q1_numberAt.other W44 (Or.inl n_l.symm)
    have K44 := K41.wr W44 (Or.inl (List.mem_of_getElem? (i := 0) rfl))
    have A44 : Arv Z T44.heap bl kl .byte (266 : Int32) [.int u0, .int u1, .int u2, .int u3, .int (nar .byte (dg 2 q2)), .int (nar .byte (dg 1 q2)), .int (nar .byte (dg 0 q2)), .int u7, .int u8, .int u9, .int u10, .int u11, .int u12] (.int 0) := A44v
    refine g_iloadN X44 hx hby d15_58 (pc' := 59) rfl rfl ?_
    refine g_bipush X44 hx hby d15_59 (pc' := 61) rfl (z := (10 : Int32)) rfl ?_
    refine g_idiv X44 hx hby d15_61 (pc' := 62) rfl (by decide) ?_
    refine g_istoreN X44 hx hby d15_62 (pc' := 63) rfl (l' := #[.val (.ref q1), .val (.int q2), .val (.int (7 : Int32)), .val (.int (dv 3 q2)), .val (.int (4 : Int32))]) rfl ?_
    refine g_iinc X44 hx hby d15_63 (pc' := 66) rfl rfl (l' := #[.val (.ref q1), .val (.int q2), .val (.int (7 : Int32)), .val (.int (dv 3 q2)), .val (.int (3 : Int32))]) rfl ?_
    refine g_goto X44 hx hby d15_66 (by decide) (pc' := 34) (by decide) ?_
    refine g_iload X44 hx hby d15_34 (pc' := 36) rfl rfl ?_
    refine g_aloadN X44 hx hby d15_36 (pc' := 37) rfl rfl rfl ?_
    refine g_get X44 hx hZ hown hby d15_37 (pc' := 40) rfl (w_87 hw) rfl F44_q1_numberAt ?_
    intro T45 X45 e45
    refine g_icmp_lt X45 hx hby d15_40 (by decide) (pc' := 69) (by decide) (pn := 43) rfl (fun z => absurd z (by decide)) (fun _ => ?_)
    refine g_aloadN X45 hx hby d15_43 (pc' := 44) rfl rfl rfl ?_
    refine g_get X45 hx hZ hown hby d15_44 (pc' := 47) rfl (w_38 hw) e45 F44_q1_label ?_
    intro T46 X46 e46
    refine g_iload X46 hx hby d15_47 (pc' := 49) rfl rfl ?_
    refine g_bipush X46 hx hby d15_49 (pc' := 51) rfl (z := (48 : Int32)) rfl ?_
    refine g_iloadN X46 hx hby d15_51 (pc' := 52) rfl rfl ?_
    refine g_bipush X46 hx hby d15_52 (pc' := 54) rfl (z := (10 : Int32)) rfl ?_
    refine g_irem X46 hx hby d15_54 (pc' := 55) rfl (by decide) ?_
    refine g_iadd X46 hx hby d15_55 (pc' := 56) rfl ?_
    refine g_i2b X46 hx hby d15_56 (pc' := 57) rfl ?_
    refine g_bastore X46 hx hZ 3 hby d15_57 (pc' := 58) rfl e46 A44 (by decide) (by decide) (by first | decide | simp) ?_
    intro T47 X47 W47 A47v
    have N47 := Fr.snoc X47 N44 g_l
    have E47_q1 := E44_q1.wr W47
    have F47_q1_label := F44_q1_label.other W47 (Or.inl n_l.symm)
    have F47_q1_numberAt := F44_q1_numberAt.other W47 (Or.inl n_l.symm)
    have K47 := K44.wr W47 (Or.inl (List.mem_of_getElem? (i := 0) rfl))
    have A47 : Arv Z T47.heap bl kl .byte (266 : Int32) [.int u0, .int u1, .int u2, .int (nar .byte (dg 3 q2)), .int (nar .byte (dg 2 q2)), .int (nar .byte (dg 1 q2)), .int (nar .byte (dg 0 q2)), .int u7, .int u8, .int u9, .int u10, .int u11, .int u12] (.int 0) := A47v
    refine g_iloadN X47 hx hby d15_58 (pc' := 59) rfl rfl ?_
    refine g_bipush X47 hx hby d15_59 (pc' := 61) rfl (z := (10 : Int32)) rfl ?_
    refine g_idiv X47 hx hby d15_61 (pc' := 62) rfl (by decide) ?_
    refine g_istoreN X47 hx hby d15_62 (pc' := 63) rfl (l' := #[.val (.ref q1), .val (.int q2), .val (.int (7 : Int32)), .val (.int (dv 4 q2)), .val (.int (3 : Int32))]) rfl ?_
    refine g_iinc X47 hx hby d15_63 (pc' := 66) rfl rfl (l' := #[.val (.ref q1), .val (.int q2), .val (.int (7 : Int32)), .val (.int (dv 4 q2)), .val (.int (2 : Int32))]) rfl ?_
    refine g_goto X47 hx hby d15_66 (by decide) (pc' := 34) (by decide) ?_
    refine g_iload X47 hx hby d15_34 (pc' := 36) rfl rfl ?_
    refine g_aloadN X47 hx hby d15_36 (pc' := 37) rfl rfl rfl ?_
    refine g_get X47 hx hZ hown hby d15_37 (pc' := 40) rfl (w_87 hw) rfl F47_q1_numberAt ?_
    intro T48 X48 e48
    refine g_icmp_lt X48 hx hby d15_40 (by decide) (pc' := 69) (by decide) (pn := 43) rfl (fun _ => ?_) (fun z => absurd z (by decide))
    refine g_iloadN X48 hx hby d15_69 (pc' := 70) rfl rfl ?_
    exact g_retI (Q := (fun v h L => ∃ (t0 t1 t2 t3 t4 t5 t6 t7 t8 t9 : Int32), v = some (.int ((3 : Int32) + (digV q2))) ∧ Fr n0 L ∧ Keep h0 h [bl] ∧ Arv Z h bl kl .byte (266 : Int32) [.int u0, .int u1, .int u2, .int t0, .int t1, .int t2, .int t3, .int t4, .int t5, .int t6, .int t7, .int t8, .int t9] (.int 0) ∧ DIGS 2 q2 [.int u0, .int u1, .int u2, .int t0, .int t1, .int t2, .int t3, .int t4, .int t5, .int t6, .int t7, .int t8, .int t9])) X48 hx hby d15_70 hret hlk (by decide) (by decide) (by rw [e48]; exact ⟨(nar .byte (dg 3 q2)), (nar .byte (dg 2 q2)), (nar .byte (dg 1 q2)), (nar .byte (dg 0 q2)), u7, u8, u9, u10, u11, u12, congrArg (fun z : Int32 => some (Value.int z)) (by rw [own_dig hd4 (by decide) (by decide)]; rfl), N47, K47, A47, own_digs hd4 (by decide) (by decide) (fun i hi => match i, hi with | 0, _ => rfl | 1, _ => rfl | 2, _ => rfl | 3, _ => rfl | (k + 4), h => absurd h (by omega))⟩)
  · refine g_aloadN X0 hx hby d15_0 (pc' := 1) rfl rfl rfl ?_
    refine g_get X0 hx hZ hown hby d15_1 (pc' := 4) rfl (w_87 hw) e0 F2 ?_
    intro T49 X49 e49
    refine g_iconst X49 hx hby d15_4 (pc' := 5) rfl (z := (1 : Int32)) rfl ?_
    refine g_iadd X49 hx hby d15_5 (pc' := 6) rfl ?_
    refine g_eqI (b := (4 : Int32)) (by decide +kernel) ?_
    refine g_istoreN X49 hx hby d15_6 (pc' := 7) rfl (l' := #[.val (.ref q1), .val (.int q2), .val (.int (4 : Int32)), .unset, .unset]) rfl ?_
    refine g_iloadN X49 hx hby d15_7 (pc' := 8) rfl rfl ?_
    refine g_bipush X49 hx hby d15_8 (pc' := 10) rfl (z := (10 : Int32)) rfl ?_
    refine g_idiv X49 hx hby d15_10 (pc' := 11) rfl (by decide) ?_
    refine g_istoreN X49 hx hby d15_11 (pc' := 12) rfl (l' := #[.val (.ref q1), .val (.int q2), .val (.int (4 : Int32)), .val (.int (dv 1 q2)), .unset]) rfl ?_
    refine g_iloadN X49 hx hby d15_12 (pc' := 13) rfl rfl ?_
    refine g_if_le X49 hx hby d15_13 (by decide) (pc' := 27) (by decide) (pn := 16) rfl (fun z => absurd z (fun z => z (own_yes 1 hd5 (by decide) (by decide)))) (fun hc13_50 => ?_)
    refine g_iinc X49 hx hby d15_16 (pc' := 19) rfl rfl (l' := #[.val (.ref q1), .val (.int q2), .val (.int (5 : Int32)), .val (.int (dv 1 q2)), .unset]) rfl ?_
    refine g_iloadN X49 hx hby d15_19 (pc' := 20) rfl rfl ?_
    refine g_bipush X49 hx hby d15_20 (pc' := 22) rfl (z := (10 : Int32)) rfl ?_
    refine g_idiv X49 hx hby d15_22 (pc' := 23) rfl (by decide) ?_
    refine g_istoreN X49 hx hby d15_23 (pc' := 24) rfl (l' := #[.val (.ref q1), .val (.int q2), .val (.int (5 : Int32)), .val (.int (dv 2 q2)), .unset]) rfl ?_
    refine g_goto X49 hx hby d15_24 (by decide) (pc' := 12) (by decide) ?_
    refine g_iloadN X49 hx hby d15_12 (pc' := 13) rfl rfl ?_
    refine g_if_le X49 hx hby d15_13 (by decide) (pc' := 27) (by decide) (pn := 16) rfl (fun z => absurd z (fun z => z (own_yes 2 hd5 (by decide) (by decide)))) (fun hc13_51 => ?_)
    refine g_iinc X49 hx hby d15_16 (pc' := 19) rfl rfl (l' := #[.val (.ref q1), .val (.int q2), .val (.int (6 : Int32)), .val (.int (dv 2 q2)), .unset]) rfl ?_
    refine g_iloadN X49 hx hby d15_19 (pc' := 20) rfl rfl ?_
    refine g_bipush X49 hx hby d15_20 (pc' := 22) rfl (z := (10 : Int32)) rfl ?_
    refine g_idiv X49 hx hby d15_22 (pc' := 23) rfl (by decide) ?_
    refine g_istoreN X49 hx hby d15_23 (pc' := 24) rfl (l' := #[.val (.ref q1), .val (.int q2), .val (.int (6 : Int32)), .val (.int (dv 3 q2)), .unset]) rfl ?_
    refine g_goto X49 hx hby d15_24 (by decide) (pc' := 12) (by decide) ?_
    refine g_iloadN X49 hx hby d15_12 (pc' := 13) rfl rfl ?_
    refine g_if_le X49 hx hby d15_13 (by decide) (pc' := 27) (by decide) (pn := 16) rfl (fun z => absurd z (fun z => z (own_yes 3 hd5 (by decide) (by decide)))) (fun hc13_52 => ?_)
    refine g_iinc X49 hx hby d15_16 (pc' := 19) rfl rfl (l' := #[.val (.ref q1), .val (.int q2), .val (.int (7 : Int32)), .val (.int (dv 3 q2)), .unset]) rfl ?_
    refine g_iloadN X49 hx hby d15_19 (pc' := 20) rfl rfl ?_
    refine g_bipush X49 hx hby d15_20 (pc' := 22) rfl (z := (10 : Int32)) rfl ?_
    refine g_idiv X49 hx hby d15_22 (pc' := 23) rfl (by decide) ?_
    refine g_istoreN X49 hx hby d15_23 (pc' := 24) rfl (l' := #[.val (.ref q1), .val (.int q2), .val (.int (7 : Int32)), .val (.int (dv 4 q2)), .unset]) rfl ?_
    refine g_goto X49 hx hby d15_24 (by decide) (pc' := 12) (by decide) ?_
    refine g_iloadN X49 hx hby d15_12 (pc' := 13) rfl rfl ?_
    refine g_if_le X49 hx hby d15_13 (by decide) (pc' := 27) (by decide) (pn := 16) rfl (fun z => absurd z (fun z => z (own_yes 4 hd5 (by decide) (by decide)))) (fun hc13_53 => ?_)
    refine g_iinc X49 hx hby d15_16 (pc' := 19) rfl rfl (l' := #[.val (.ref q1), .val (.int q2), .val (.int (8 : Int32)), .val (.int (dv 4 q2)), .unset]) rfl ?_
    refine g_iloadN X49 hx hby d15_19 (pc' := 20) rfl rfl ?_
    refine g_bipush X49 hx hby d15_20 (pc' := 22) rfl (z := (10 : Int32)) rfl ?_
    refine g_idiv X49 hx hby d15_22 (pc' := 23) rfl (by decide) ?_
    refine g_istoreN X49 hx hby d15_23 (pc' := 24) rfl (l' := #[.val (.ref q1), .val (.int q2), .val (.int (8 : Int32)), .val (.int (dv 5 q2)), .unset]) rfl ?_
    refine g_goto X49 hx hby d15_24 (by decide) (pc' := 12) (by decide) ?_
    refine g_iloadN X49 hx hby d15_12 (pc' := 13) rfl rfl ?_
    refine g_if_le X49 hx hby d15_13 (by decide) (pc' := 27) (by decide) (pn := 16) rfl (fun hc13_54 => ?_) (fun z => absurd z (own_no hd5))
    refine g_iloadN X49 hx hby d15_27 (pc' := 28) rfl rfl ?_
    refine g_istoreN X49 hx hby d15_28 (pc' := 29) rfl (l' := #[.val (.ref q1), .val (.int q2), .val (.int (8 : Int32)), .val (.int (dv 0 q2)), .unset]) rfl ?_
    refine g_iloadN X49 hx hby d15_29 (pc' := 30) rfl rfl ?_
    refine g_iconst X49 hx hby d15_30 (pc' := 31) rfl (z := (1 : Int32)) rfl ?_
    refine g_isub X49 hx hby d15_31 (pc' := 32) rfl ?_
    refine g_eqI (b := (7 : Int32)) (by decide +kernel) ?_
    refine g_istore X49 hx hby d15_32 (pc' := 34) rfl (l' := #[.val (.ref q1), .val (.int q2), .val (.int (8 : Int32)), .val (.int (dv 0 q2)), .val (.int (7 : Int32))]) rfl ?_
    refine g_iload X49 hx hby d15_34 (pc' := 36) rfl rfl ?_
    refine g_aloadN X49 hx hby d15_36 (pc' := 37) rfl rfl rfl ?_
    refine g_get X49 hx hZ hown hby d15_37 (pc' := 40) rfl (w_87 hw) e49 F2 ?_
    intro T55 X55 e55
    refine g_icmp_lt X55 hx hby d15_40 (by decide) (pc' := 69) (by decide) (pn := 43) rfl (fun z => absurd z (by decide)) (fun _ => ?_)
    refine g_aloadN X55 hx hby d15_43 (pc' := 44) rfl rfl rfl ?_
    refine g_get X55 hx hZ hown hby d15_44 (pc' := 47) rfl (w_38 hw) e55 F1 ?_
    intro T56 X56 e56
    refine g_iload X56 hx hby d15_47 (pc' := 49) rfl rfl ?_
    refine g_bipush X56 hx hby d15_49 (pc' := 51) rfl (z := (48 : Int32)) rfl ?_
    refine g_iloadN X56 hx hby d15_51 (pc' := 52) rfl rfl ?_
    refine g_bipush X56 hx hby d15_52 (pc' := 54) rfl (z := (10 : Int32)) rfl ?_
    refine g_irem X56 hx hby d15_54 (pc' := 55) rfl (by decide) ?_
    refine g_iadd X56 hx hby d15_55 (pc' := 56) rfl ?_
    refine g_i2b X56 hx hby d15_56 (pc' := 57) rfl ?_
    refine g_bastore X56 hx hZ 7 hby d15_57 (pc' := 58) rfl e56 A_l (by decide) (by decide) (by first | decide | simp) ?_
    intro T57 X57 W57 A57v
    have N57 := Fr.snoc X57 N0 g_l
    have E57_q1 := E_a.wr W57
    have F57_q1_label := F1.other W57 (Or.inl n_l.symm)
    have F57_q1_numberAt := F2.other W57 (Or.inl n_l.symm)
    have K57 := (Keep.refl h0 [bl]).wr W57 (Or.inl (List.mem_of_getElem? (i := 0) rfl))
    have A57 : Arv Z T57.heap bl kl .byte (266 : Int32) [.int u0, .int u1, .int u2, .int u3, .int u4, .int u5, .int u6, .int (nar .byte (dg 0 q2)), .int u8, .int u9, .int u10, .int u11, .int u12] (.int 0) := A57v
    refine g_iloadN X57 hx hby d15_58 (pc' := 59) rfl rfl ?_
    refine g_bipush X57 hx hby d15_59 (pc' := 61) rfl (z := (10 : Int32)) rfl ?_
    refine g_idiv X57 hx hby d15_61 (pc' := 62) rfl (by decide) ?_
    refine g_istoreN X57 hx hby d15_62 (pc' := 63) rfl (l' := #[.val (.ref q1), .val (.int q2), .val (.int (8 : Int32)), .val (.int (dv 1 q2)), .val (.int (7 : Int32))]) rfl ?_
    refine g_iinc X57 hx hby d15_63 (pc' := 66) rfl rfl (l' := #[.val (.ref q1), .val (.int q2), .val (.int (8 : Int32)), .val (.int (dv 1 q2)), .val (.int (6 : Int32))]) rfl ?_
    refine g_goto X57 hx hby d15_66 (by decide) (pc' := 34) (by decide) ?_
    refine g_iload X57 hx hby d15_34 (pc' := 36) rfl rfl ?_
    refine g_aloadN X57 hx hby d15_36 (pc' := 37) rfl rfl rfl ?_
    refine g_get X57 hx hZ hown hby d15_37 (pc' := 40) rfl (w_87 hw) rfl F57_q1_numberAt ?_
    intro T58 X58 e58
    refine g_icmp_lt X58 hx hby d15_40 (by decide) (pc' := 69) (by decide) (pn := 43) rfl (fun z => absurd z (by decide)) (fun _ => ?_)
    refine g_aloadN X58 hx hby d15_43 (pc' := 44) rfl rfl rfl ?_
    refine g_get X58 hx hZ hown hby d15_44 (pc' := 47) rfl (w_38 hw) e58 F57_q1_label ?_
    intro T59 X59 e59
    refine g_iload X59 hx hby d15_47 (pc' := 49) rfl rfl ?_
    refine g_bipush X59 hx hby d15_49 (pc' := 51) rfl (z := (48 : Int32)) rfl ?_
    refine g_iloadN X59 hx hby d15_51 (pc' := 52) rfl rfl ?_
    refine g_bipush X59 hx hby d15_52 (pc' := 54) rfl (z := (10 : Int32)) rfl ?_
    refine g_irem X59 hx hby d15_54 (pc' := 55) rfl (by decide) ?_
    refine g_iadd X59 hx hby d15_55 (pc' := 56) rfl ?_
    refine g_i2b X59 hx hby d15_56 (pc' := 57) rfl ?_
    refine g_bastore X59 hx hZ 6 hby d15_57 (pc' := 58) rfl e59 A57 (by decide) (by decide) (by first | decide | simp) ?_
    intro T60 X60 W60 A60v
    have N60 := Fr.snoc X60 N57 g_l
    have E60_q1 := E57_q1.wr W60
    have F60_q1_label := F57_q1_label.other W60 (Or.inl n_l.symm)
    have F60_q1_numberAt := F57_q1_numberAt.other W60 (Or.inl n_l.symm)
    have K60 := K57.wr W60 (Or.inl (List.mem_of_getElem? (i := 0) rfl))
    have A60 : Arv Z T60.heap bl kl .byte (266 : Int32) [.int u0, .int u1, .int u2, .int u3, .int u4, .int u5, .int (nar .byte (dg 1 q2)), .int (nar .byte (dg 0 q2)), .int u8, .int u9, .int u10, .int u11, .int u12] (.int 0) := A60v
    refine g_iloadN X60 hx hby d15_58 (pc' := 59) rfl rfl ?_
    refine g_bipush X60 hx hby d15_59 (pc' := 61) rfl (z := (10 : Int32)) rfl ?_
    refine g_idiv X60 hx hby d15_61 (pc' := 62) rfl (by decide) ?_
    refine g_istoreN X60 hx hby d15_62 (pc' := 63) rfl (l' := #[.val (.ref q1), .val (.int q2), .val (.int (8 : Int32)), .val (.int (dv 2 q2)), .val (.int (6 : Int32))]) rfl ?_
    refine g_iinc X60 hx hby d15_63 (pc' := 66) rfl rfl (l' := #[.val (.ref q1), .val (.int q2), .val (.int (8 : Int32)), .val (.int (dv 2 q2)), .val (.int (5 : Int32))]) rfl ?_
    refine g_goto X60 hx hby d15_66 (by decide) (pc' := 34) (by decide) ?_
    refine g_iload X60 hx hby d15_34 (pc' := 36) rfl rfl ?_
    refine g_aloadN X60 hx hby d15_36 (pc' := 37) rfl rfl rfl ?_
    refine g_get X60 hx hZ hown hby d15_37 (pc' := 40) rfl (w_87 hw) rfl F60_q1_numberAt ?_
    intro T61 X61 e61
    refine g_icmp_lt X61 hx hby d15_40 (by decide) (pc' := 69) (by decide) (pn := 43) rfl (fun z => absurd z (by decide)) (fun _ => ?_)
    refine g_aloadN X61 hx hby d15_43 (pc' := 44) rfl rfl rfl ?_
    refine g_get X61 hx hZ hown hby d15_44 (pc' := 47) rfl (w_38 hw) e61 F60_q1_label ?_
    intro T62 X62 e62
    refine g_iload X62 hx hby d15_47 (pc' := 49) rfl rfl ?_
    refine g_bipush X62 hx hby d15_49 (pc' := 51) rfl (z := (48 : Int32)) rfl ?_
    refine g_iloadN X62 hx hby d15_51 (pc' := 52) rfl rfl ?_
    refine g_bipush X62 hx hby d15_52 (pc' := 54) rfl (z := (10 : Int32)) rfl ?_
    refine g_irem X62 hx hby d15_54 (pc' := 55) rfl (by decide) ?_
    refine g_iadd X62 hx hby d15_55 (pc' := 56) rfl ?_
    refine g_i2b X62 hx hby d15_56 (pc' := 57) rfl ?_
    refine g_bastore X62 hx hZ 5 hby d15_57 (pc' := 58) rfl e62 A60 (by decide) (by decide) (by first | decide | simp) ?_
    intro T63 X63 W63 A63v
    have N63 := Fr.snoc X63 N60 g_l
    have E63_q1 := E60_q1.wr W63
    have F63_q1_label := F60_q1_label.other W63 (Or.inl n_l.symm)
    have F63_q1_numberAt := F60_q1_numberAt.other W63 (Or.inl n_l.symm)
    have K63 := K60.wr W63 (Or.inl (List.mem_of_getElem? (i := 0) rfl))
    have A63 : Arv Z T63.heap bl kl .byte (266 : Int32) [.int u0, .int u1, .int u2, .int u3, .int u4, .int (nar .byte (dg 2 q2)), .int (nar .byte (dg 1 q2)), .int (nar .byte (dg 0 q2)), .int u8, .int u9, .int u10, .int u11, .int u12] (.int 0) := A63v
    refine g_iloadN X63 hx hby d15_58 (pc' := 59) rfl rfl ?_
    refine g_bipush X63 hx hby d15_59 (pc' := 61) rfl (z := (10 : Int32)) rfl ?_
    refine g_idiv X63 hx hby d15_61 (pc' := 62) rfl (by decide) ?_
    refine g_istoreN X63 hx hby d15_62 (pc' := 63) rfl (l' := #[.val (.ref q1), .val (.int q2), .val (.int (8 : Int32)), .val (.int (dv 3 q2)), .val (.int (5 : Int32))]) rfl ?_
    refine g_iinc X63 hx hby d15_63 (pc' := 66) rfl rfl (l' := #[.val (.ref q1), .val (.int q2), .val (.int (8 : Int32)), .val (.int (dv 3 q2)), .val (.int (4 : Int32))]) rfl ?_
    refine g_goto X63 hx hby d15_66 (by decide) (pc' := 34) (by decide) ?_
    refine g_iload X63 hx hby d15_34 (pc' := 36) rfl rfl ?_
    refine g_aloadN X63 hx hby d15_36 (pc' := 37) rfl rfl rfl ?_
    refine g_get X63 hx hZ hown hby d15_37 (pc' := 40) rfl (w_87 hw) rfl F63_q1_numberAt ?_
    intro T64 X64 e64
    refine g_icmp_lt X64 hx hby d15_40 (by decide) (pc' := 69) (by decide) (pn := 43) rfl (fun z => absurd z (by decide)) (fun _ => ?_)
    refine g_aloadN X64 hx hby d15_43 (pc' := 44) rfl rfl rfl ?_
    refine g_get X64 hx hZ hown hby d15_44 (pc' := 47) rfl (w_38 hw) e64 F63_q1_label ?_
    intro T65 X65 e65
    refine g_iload X65 hx hby d15_47 (pc' := 49) rfl rfl ?_
    refine g_bipush X65 hx hby d15_49 (pc' := 51) rfl (z := (48 : Int32)) rfl ?_
    refine g_iloadN X65 hx hby d15_51 (pc' := 52) rfl rfl ?_
    refine g_bipush X65 hx hby d15_52 (pc' := 54) rfl (z := (10 : Int32)) rfl ?_
    refine g_irem X65 hx hby d15_54 (pc' := 55) rfl (by decide) ?_
    refine g_iadd X65 hx hby d15_55 (pc' := 56) rfl ?_
    refine g_i2b X65 hx hby d15_56 (pc' := 57) rfl ?_
    refine g_bastore X65 hx hZ 4 hby d15_57 (pc' := 58) rfl e65 A63 (by decide) (by decide) (by first | decide | simp) ?_
    intro T66 X66 W66 A66v
    have N66 := Fr.snoc X66 N63 g_l
    have E66_q1 := E63_q1.wr W66
    have F66_q1_label := F63_q1_label.other W66 (Or.inl n_l.symm)
    have F66_q1_numberAt := F63_q1_numberAt.other W66 (Or.inl n_l.symm)
    have K66 := K63.wr W66 (Or.inl (List.mem_of_getElem? (i := 0) rfl))
    have A66 : Arv Z T66.heap bl kl .byte (266 : Int32) [.int u0, .int u1, .int u2, .int u3, .int (nar .byte (dg 3 q2)), .int (nar .byte (dg 2 q2)), .int (nar .byte (dg 1 q2)), .int (nar .byte (dg 0 q2)), .int u8, .int u9, .int u10, .int u11, .int u12] (.int 0) := A66v
    refine g_iloadN X66 hx hby d15_58 (pc' := 59) rfl rfl ?_
    refine g_bipush X66 hx hby d15_59 (pc' := 61) rfl (z := (10 : Int32)) rfl ?_
    refine g_idiv X66 hx hby d15_61 (pc' := 62) rfl (by decide) ?_
    refine g_istoreN X66 hx hby d15_62 (pc' := 63) rfl (l' := #[.val (.ref q1), .val (.int q2), .val (.int (8 : Int32)), .val (.int (dv 4 q2)), .val (.int (4 : Int32))]) rfl ?_
    refine g_iinc X66 hx hby d15_63 (pc' := 66) rfl rfl (l' := #[.val (.ref q1), .val (.int q2), .val (.int (8 : Int32)), .val (.int (dv 4 q2)), .val (.int (3 : Int32))]) rfl ?_
    refine g_goto X66 hx hby d15_66 (by decide) (pc' := 34) (by decide) ?_
    refine g_iload X66 hx hby d15_34 (pc' := 36) rfl rfl ?_
    refine g_aloadN X66 hx hby d15_36 (pc' := 37) rfl rfl rfl ?_
    refine g_get X66 hx hZ hown hby d15_37 (pc' := 40) rfl (w_87 hw) rfl F66_q1_numberAt ?_
    intro T67 X67 e67
    refine g_icmp_lt X67 hx hby d15_40 (by decide) (pc' := 69) (by decide) (pn := 43) rfl (fun z => absurd z (by decide)) (fun _ => ?_)
    refine g_aloadN X67 hx hby d15_43 (pc' := 44) rfl rfl rfl ?_
    refine g_get X67 hx hZ hown hby d15_44 (pc' := 47) rfl (w_38 hw) e67 F66_q1_label ?_
    intro T68 X68 e68
    refine g_iload X68 hx hby d15_47 (pc' := 49) rfl rfl ?_
    refine g_bipush X68 hx hby d15_49 (pc' := 51) rfl (z := (48 : Int32)) rfl ?_
    refine g_iloadN X68 hx hby d15_51 (pc' := 52) rfl rfl ?_
    refine g_bipush X68 hx hby d15_52 (pc' := 54) rfl (z := (10 : Int32)) rfl ?_
    refine g_irem X68 hx hby d15_54 (pc' := 55) rfl (by decide) ?_
    refine g_iadd X68 hx hby d15_55 (pc' := 56) rfl ?_
    refine g_i2b X68 hx hby d15_56 (pc' := 57) rfl ?_
    refine g_bastore X68 hx hZ 3 hby d15_57 (pc' := 58) rfl e68 A66 (by decide) (by decide) (by first | decide | simp) ?_
    intro T69 X69 W69 A69v
    have N69 := Fr.snoc X69 N66 g_l
    have E69_q1 := E66_q1.wr W69
    have F69_q1_label := F66_q1_label.other W69 (Or.inl n_l.symm)
    have F69_q1_numberAt := F66_q1_numberAt.other W69 (Or.inl n_l.symm)
    have K69 := K66.wr W69 (Or.inl (List.mem_of_getElem? (i := 0) rfl))
    have A69 : Arv Z T69.heap bl kl .byte (266 : Int32) [.int u0, .int u1, .int u2, .int (nar .byte (dg 4 q2)), .int (nar .byte (dg 3 q2)), .int (nar .byte (dg 2 q2)), .int (nar .byte (dg 1 q2)), .int (nar .byte (dg 0 q2)), .int u8, .int u9, .int u10, .int u11, .int u12] (.int 0) := A69v
    refine g_iloadN X69 hx hby d15_58 (pc' := 59) rfl rfl ?_
    refine g_bipush X69 hx hby d15_59 (pc' := 61) rfl (z := (10 : Int32)) rfl ?_
    refine g_idiv X69 hx hby d15_61 (pc' := 62) rfl (by decide) ?_
    refine g_istoreN X69 hx hby d15_62 (pc' := 63) rfl (l' := #[.val (.ref q1), .val (.int q2), .val (.int (8 : Int32)), .val (.int (dv 5 q2)), .val (.int (3 : Int32))]) rfl ?_
    refine g_iinc X69 hx hby d15_63 (pc' := 66) rfl rfl (l' := #[.val (.ref q1), .val (.int q2), .val (.int (8 : Int32)), .val (.int (dv 5 q2)), .val (.int (2 : Int32))]) rfl ?_
    refine g_goto X69 hx hby d15_66 (by decide) (pc' := 34) (by decide) ?_
    refine g_iload X69 hx hby d15_34 (pc' := 36) rfl rfl ?_
    refine g_aloadN X69 hx hby d15_36 (pc' := 37) rfl rfl rfl ?_
    refine g_get X69 hx hZ hown hby d15_37 (pc' := 40) rfl (w_87 hw) rfl F69_q1_numberAt ?_
    intro T70 X70 e70
    refine g_icmp_lt X70 hx hby d15_40 (by decide) (pc' := 69) (by decide) (pn := 43) rfl (fun _ => ?_) (fun z => absurd z (by decide))
    refine g_iloadN X70 hx hby d15_69 (pc' := 70) rfl rfl ?_
    exact g_retI (Q := (fun v h L => ∃ (t0 t1 t2 t3 t4 t5 t6 t7 t8 t9 : Int32), v = some (.int ((3 : Int32) + (digV q2))) ∧ Fr n0 L ∧ Keep h0 h [bl] ∧ Arv Z h bl kl .byte (266 : Int32) [.int u0, .int u1, .int u2, .int t0, .int t1, .int t2, .int t3, .int t4, .int t5, .int t6, .int t7, .int t8, .int t9] (.int 0) ∧ DIGS 2 q2 [.int u0, .int u1, .int u2, .int t0, .int t1, .int t2, .int t3, .int t4, .int t5, .int t6, .int t7, .int t8, .int t9])) X70 hx hby d15_70 hret hlk (by decide) (by decide) (by rw [e70]; exact ⟨(nar .byte (dg 4 q2)), (nar .byte (dg 3 q2)), (nar .byte (dg 2 q2)), (nar .byte (dg 1 q2)), (nar .byte (dg 0 q2)), u8, u9, u10, u11, u12, congrArg (fun z : Int32 => some (Value.int z)) (by rw [own_dig hd5 (by decide) (by decide)]; rfl), N69, K69, A69, own_digs hd5 (by decide) (by decide) (fun i hi => match i, hi with | 0, _ => rfl | 1, _ => rfl | 2, _ => rfl | 3, _ => rfl | 4, _ => rfl | (k + 5), h => absurd h (by omega))⟩)
  · refine g_aloadN X0 hx hby d15_0 (pc' := 1) rfl rfl rfl ?_
    refine g_get X0 hx hZ hown hby d15_1 (pc' := 4) rfl (w_87 hw) e0 F2 ?_
    intro T71 X71 e71
    refine g_iconst X71 hx hby d15_4 (pc' := 5) rfl (z := (1 : Int32)) rfl ?_
    refine g_iadd X71 hx hby d15_5 (pc' := 6) rfl ?_
    refine g_eqI (b := (4 : Int32)) (by decide +kernel) ?_
    refine g_istoreN X71 hx hby d15_6 (pc' := 7) rfl (l' := #[.val (.ref q1), .val (.int q2), .val (.int (4 : Int32)), .unset, .unset]) rfl ?_
    refine g_iloadN X71 hx hby d15_7 (pc' := 8) rfl rfl ?_
    refine g_bipush X71 hx hby d15_8 (pc' := 10) rfl (z := (10 : Int32)) rfl ?_
    refine g_idiv X71 hx hby d15_10 (pc' := 11) rfl (by decide) ?_
    refine g_istoreN X71 hx hby d15_11 (pc' := 12) rfl (l' := #[.val (.ref q1), .val (.int q2), .val (.int (4 : Int32)), .val (.int (dv 1 q2)), .unset]) rfl ?_
    refine g_iloadN X71 hx hby d15_12 (pc' := 13) rfl rfl ?_
    refine g_if_le X71 hx hby d15_13 (by decide) (pc' := 27) (by decide) (pn := 16) rfl (fun z => absurd z (fun z => z (own_yes 1 hd6 (by decide) (by decide)))) (fun hc13_72 => ?_)
    refine g_iinc X71 hx hby d15_16 (pc' := 19) rfl rfl (l' := #[.val (.ref q1), .val (.int q2), .val (.int (5 : Int32)), .val (.int (dv 1 q2)), .unset]) rfl ?_
    refine g_iloadN X71 hx hby d15_19 (pc' := 20) rfl rfl ?_
    refine g_bipush X71 hx hby d15_20 (pc' := 22) rfl (z := (10 : Int32)) rfl ?_
    refine g_idiv X71 hx hby d15_22 (pc' := 23) rfl (by decide) ?_
    refine g_istoreN X71 hx hby d15_23 (pc' := 24) rfl (l' := #[.val (.ref q1), .val (.int q2), .val (.int (5 : Int32)), .val (.int (dv 2 q2)), .unset]) rfl ?_
    refine g_goto X71 hx hby d15_24 (by decide) (pc' := 12) (by decide) ?_
    refine g_iloadN X71 hx hby d15_12 (pc' := 13) rfl rfl ?_
    refine g_if_le X71 hx hby d15_13 (by decide) (pc' := 27) (by decide) (pn := 16) rfl (fun z => absurd z (fun z => z (own_yes 2 hd6 (by decide) (by decide)))) (fun hc13_73 => ?_)
    refine g_iinc X71 hx hby d15_16 (pc' := 19) rfl rfl (l' := #[.val (.ref q1), .val (.int q2), .val (.int (6 : Int32)), .val (.int (dv 2 q2)), .unset]) rfl ?_
    refine g_iloadN X71 hx hby d15_19 (pc' := 20) rfl rfl ?_
    refine g_bipush X71 hx hby d15_20 (pc' := 22) rfl (z := (10 : Int32)) rfl ?_
    refine g_idiv X71 hx hby d15_22 (pc' := 23) rfl (by decide) ?_
    refine g_istoreN X71 hx hby d15_23 (pc' := 24) rfl (l' := #[.val (.ref q1), .val (.int q2), .val (.int (6 : Int32)), .val (.int (dv 3 q2)), .unset]) rfl ?_
    refine g_goto X71 hx hby d15_24 (by decide) (pc' := 12) (by decide) ?_
    refine g_iloadN X71 hx hby d15_12 (pc' := 13) rfl rfl ?_
    refine g_if_le X71 hx hby d15_13 (by decide) (pc' := 27) (by decide) (pn := 16) rfl (fun z => absurd z (fun z => z (own_yes 3 hd6 (by decide) (by decide)))) (fun hc13_74 => ?_)
    refine g_iinc X71 hx hby d15_16 (pc' := 19) rfl rfl (l' := #[.val (.ref q1), .val (.int q2), .val (.int (7 : Int32)), .val (.int (dv 3 q2)), .unset]) rfl ?_
    refine g_iloadN X71 hx hby d15_19 (pc' := 20) rfl rfl ?_
    refine g_bipush X71 hx hby d15_20 (pc' := 22) rfl (z := (10 : Int32)) rfl ?_
    refine g_idiv X71 hx hby d15_22 (pc' := 23) rfl (by decide) ?_
    refine g_istoreN X71 hx hby d15_23 (pc' := 24) rfl (l' := #[.val (.ref q1), .val (.int q2), .val (.int (7 : Int32)), .val (.int (dv 4 q2)), .unset]) rfl ?_
    refine g_goto X71 hx hby d15_24 (by decide) (pc' := 12) (by decide) ?_
    refine g_iloadN X71 hx hby d15_12 (pc' := 13) rfl rfl ?_
    refine g_if_le X71 hx hby d15_13 (by decide) (pc' := 27) (by decide) (pn := 16) rfl (fun z => absurd z (fun z => z (own_yes 4 hd6 (by decide) (by decide)))) (fun hc13_75 => ?_)
    refine g_iinc X71 hx hby d15_16 (pc' := 19) rfl rfl (l' := #[.val (.ref q1), .val (.int q2), .val (.int (8 : Int32)), .val (.int (dv 4 q2)), .unset]) rfl ?_
    refine g_iloadN X71 hx hby d15_19 (pc' := 20) rfl rfl ?_
    refine g_bipush X71 hx hby d15_20 (pc' := 22) rfl (z := (10 : Int32)) rfl ?_
    refine g_idiv X71 hx hby d15_22 (pc' := 23) rfl (by decide) ?_
    refine g_istoreN X71 hx hby d15_23 (pc' := 24) rfl (l' := #[.val (.ref q1), .val (.int q2), .val (.int (8 : Int32)), .val (.int (dv 5 q2)), .unset]) rfl ?_
    refine g_goto X71 hx hby d15_24 (by decide) (pc' := 12) (by decide) ?_
    refine g_iloadN X71 hx hby d15_12 (pc' := 13) rfl rfl ?_
    refine g_if_le X71 hx hby d15_13 (by decide) (pc' := 27) (by decide) (pn := 16) rfl (fun z => absurd z (fun z => z (own_yes 5 hd6 (by decide) (by decide)))) (fun hc13_76 => ?_)
    refine g_iinc X71 hx hby d15_16 (pc' := 19) rfl rfl (l' := #[.val (.ref q1), .val (.int q2), .val (.int (9 : Int32)), .val (.int (dv 5 q2)), .unset]) rfl ?_
    refine g_iloadN X71 hx hby d15_19 (pc' := 20) rfl rfl ?_
    refine g_bipush X71 hx hby d15_20 (pc' := 22) rfl (z := (10 : Int32)) rfl ?_
    refine g_idiv X71 hx hby d15_22 (pc' := 23) rfl (by decide) ?_
    refine g_istoreN X71 hx hby d15_23 (pc' := 24) rfl (l' := #[.val (.ref q1), .val (.int q2), .val (.int (9 : Int32)), .val (.int (dv 6 q2)), .unset]) rfl ?_
    refine g_goto X71 hx hby d15_24 (by decide) (pc' := 12) (by decide) ?_
    refine g_iloadN X71 hx hby d15_12 (pc' := 13) rfl rfl ?_
    refine g_if_le X71 hx hby d15_13 (by decide) (pc' := 27) (by decide) (pn := 16) rfl (fun hc13_77 => ?_) (fun z => absurd z (own_no hd6))
    refine g_iloadN X71 hx hby d15_27 (pc' := 28) rfl rfl ?_
    refine g_istoreN X71 hx hby d15_28 (pc' := 29) rfl (l' := #[.val (.ref q1), .val (.int q2), .val (.int (9 : Int32)), .val (.int (dv 0 q2)), .unset]) rfl ?_
    refine g_iloadN X71 hx hby d15_29 (pc' := 30) rfl rfl ?_
    refine g_iconst X71 hx hby d15_30 (pc' := 31) rfl (z := (1 : Int32)) rfl ?_
    refine g_isub X71 hx hby d15_31 (pc' := 32) rfl ?_
    refine g_eqI (b := (8 : Int32)) (by decide +kernel) ?_
    refine g_istore X71 hx hby d15_32 (pc' := 34) rfl (l' := #[.val (.ref q1), .val (.int q2), .val (.int (9 : Int32)), .val (.int (dv 0 q2)), .val (.int (8 : Int32))]) rfl ?_
    refine g_iload X71 hx hby d15_34 (pc' := 36) rfl rfl ?_
    refine g_aloadN X71 hx hby d15_36 (pc' := 37) rfl rfl rfl ?_
    refine g_get X71 hx hZ hown hby d15_37 (pc' := 40) rfl (w_87 hw) e71 F2 ?_
    intro T78 X78 e78
    refine g_icmp_lt X78 hx hby d15_40 (by decide) (pc' := 69) (by decide) (pn := 43) rfl (fun z => absurd z (by decide)) (fun _ => ?_)
    refine g_aloadN X78 hx hby d15_43 (pc' := 44) rfl rfl rfl ?_
    refine g_get X78 hx hZ hown hby d15_44 (pc' := 47) rfl (w_38 hw) e78 F1 ?_
    intro T79 X79 e79
    refine g_iload X79 hx hby d15_47 (pc' := 49) rfl rfl ?_
    refine g_bipush X79 hx hby d15_49 (pc' := 51) rfl (z := (48 : Int32)) rfl ?_
    refine g_iloadN X79 hx hby d15_51 (pc' := 52) rfl rfl ?_
    refine g_bipush X79 hx hby d15_52 (pc' := 54) rfl (z := (10 : Int32)) rfl ?_
    refine g_irem X79 hx hby d15_54 (pc' := 55) rfl (by decide) ?_
    refine g_iadd X79 hx hby d15_55 (pc' := 56) rfl ?_
    refine g_i2b X79 hx hby d15_56 (pc' := 57) rfl ?_
    refine g_bastore X79 hx hZ 8 hby d15_57 (pc' := 58) rfl e79 A_l (by decide) (by decide) (by first | decide | simp) ?_
    intro T80 X80 W80 A80v
    have N80 := Fr.snoc X80 N0 g_l
    have E80_q1 := E_a.wr W80
    have F80_q1_label := F1.other W80 (Or.inl n_l.symm)
    have F80_q1_numberAt := F2.other W80 (Or.inl n_l.symm)
    have K80 := (Keep.refl h0 [bl]).wr W80 (Or.inl (List.mem_of_getElem? (i := 0) rfl))
    have A80 : Arv Z T80.heap bl kl .byte (266 : Int32) [.int u0, .int u1, .int u2, .int u3, .int u4, .int u5, .int u6, .int u7, .int (nar .byte (dg 0 q2)), .int u9, .int u10, .int u11, .int u12] (.int 0) := A80v
    refine g_iloadN X80 hx hby d15_58 (pc' := 59) rfl rfl ?_
    refine g_bipush X80 hx hby d15_59 (pc' := 61) rfl (z := (10 : Int32)) rfl ?_
    refine g_idiv X80 hx hby d15_61 (pc' := 62) rfl (by decide) ?_
    refine g_istoreN X80 hx hby d15_62 (pc' := 63) rfl (l' := #[.val (.ref q1), .val (.int q2), .val (.int (9 : Int32)), .val (.int (dv 1 q2)), .val (.int (8 : Int32))]) rfl ?_
    refine g_iinc X80 hx hby d15_63 (pc' := 66) rfl rfl (l' := #[.val (.ref q1), .val (.int q2), .val (.int (9 : Int32)), .val (.int (dv 1 q2)), .val (.int (7 : Int32))]) rfl ?_
    refine g_goto X80 hx hby d15_66 (by decide) (pc' := 34) (by decide) ?_
    refine g_iload X80 hx hby d15_34 (pc' := 36) rfl rfl ?_
    refine g_aloadN X80 hx hby d15_36 (pc' := 37) rfl rfl rfl ?_
    refine g_get X80 hx hZ hown hby d15_37 (pc' := 40) rfl (w_87 hw) rfl F80_q1_numberAt ?_
    intro T81 X81 e81
    refine g_icmp_lt X81 hx hby d15_40 (by decide) (pc' := 69) (by decide) (pn := 43) rfl (fun z => absurd z (by decide)) (fun _ => ?_)
    refine g_aloadN X81 hx hby d15_43 (pc' := 44) rfl rfl rfl ?_
    refine g_get X81 hx hZ hown hby d15_44 (pc' := 47) rfl (w_38 hw) e81 F80_q1_label ?_
    intro T82 X82 e82
    refine g_iload X82 hx hby d15_47 (pc' := 49) rfl rfl ?_
    refine g_bipush X82 hx hby d15_49 (pc' := 51) rfl (z := (48 : Int32)) rfl ?_
    refine g_iloadN X82 hx hby d15_51 (pc' := 52) rfl rfl ?_
    refine g_bipush X82 hx hby d15_52 (pc' := 54) rfl (z := (10 : Int32)) rfl ?_
    refine g_irem X82 hx hby d15_54 (pc' := 55) rfl (by decide) ?_
    refine g_iadd X82 hx hby d15_55 (pc' := 56) rfl ?_
    refine g_i2b X82 hx hby d15_56 (pc' := 57) rfl ?_
    refine g_bastore X82 hx hZ 7 hby d15_57 (pc' := 58) rfl e82 A80 (by decide) (by decide) (by first | decide | simp) ?_
    intro T83 X83 W83 A83v
    have N83 := Fr.snoc X83 N80 g_l
    have E83_q1 := E80_q1.wr W83
    have F83_q1_label := F80_q1_label.other W83 (Or.inl n_l.symm)
    have F83_q1_numberAt := F80_q1_numberAt.other W83 (Or.inl n_l.symm)
    have K83 := K80.wr W83 (Or.inl (List.mem_of_getElem? (i := 0) rfl))
    have A83 : Arv Z T83.heap bl kl .byte (266 : Int32) [.int u0, .int u1, .int u2, .int u3, .int u4, .int u5, .int u6, .int (nar .byte (dg 1 q2)), .int (nar .byte (dg 0 q2)), .int u9, .int u10, .int u11, .int u12] (.int 0) := A83v
    refine g_iloadN X83 hx hby d15_58 (pc' := 59) rfl rfl ?_
    refine g_bipush X83 hx hby d15_59 (pc' := 61) rfl (z := (10 : Int32)) rfl ?_
    refine g_idiv X83 hx hby d15_61 (pc' := 62) rfl (by decide) ?_
    refine g_istoreN X83 hx hby d15_62 (pc' := 63) rfl (l' := #[.val (.ref q1), .val (.int q2), .val (.int (9 : Int32)), .val (.int (dv 2 q2)), .val (.int (7 : Int32))]) rfl ?_
    refine g_iinc X83 hx hby d15_63 (pc' := 66) rfl rfl (l' := #[.val (.ref q1), .val (.int q2), .val (.int (9 : Int32)), .val (.int (dv 2 q2)), .val (.int (6 : Int32))]) rfl ?_
    refine g_goto X83 hx hby d15_66 (by decide) (pc' := 34) (by decide) ?_
    refine g_iload X83 hx hby d15_34 (pc' := 36) rfl rfl ?_
    refine g_aloadN X83 hx hby d15_36 (pc' := 37) rfl rfl rfl ?_
    refine g_get X83 hx hZ hown hby d15_37 (pc' := 40) rfl (w_87 hw) rfl F83_q1_numberAt ?_
    intro T84 X84 e84
    refine g_icmp_lt X84 hx hby d15_40 (by decide) (pc' := 69) (by decide) (pn := 43) rfl (fun z => absurd z (by decide)) (fun _ => ?_)
    refine g_aloadN X84 hx hby d15_43 (pc' := 44) rfl rfl rfl ?_
    refine g_get X84 hx hZ hown hby d15_44 (pc' := 47) rfl (w_38 hw) e84 F83_q1_label ?_
    intro T85 X85 e85
    refine g_iload X85 hx hby d15_47 (pc' := 49) rfl rfl ?_
    refine g_bipush X85 hx hby d15_49 (pc' := 51) rfl (z := (48 : Int32)) rfl ?_
    refine g_iloadN X85 hx hby d15_51 (pc' := 52) rfl rfl ?_
    refine g_bipush X85 hx hby d15_52 (pc' := 54) rfl (z := (10 : Int32)) rfl ?_
    refine g_irem X85 hx hby d15_54 (pc' := 55) rfl (by decide) ?_
    refine g_iadd X85 hx hby d15_55 (pc' := 56) rfl ?_
    refine g_i2b X85 hx hby d15_56 (pc' := 57) rfl ?_
    refine g_bastore X85 hx hZ 6 hby d15_57 (pc' := 58) rfl e85 A83 (by decide) (by decide) (by first | decide | simp) ?_
    intro T86 X86 W86 A86v
    have N86 := Fr.snoc X86 N83 g_l
    have E86_q1 := E83_q1.wr W86
    have F86_q1_label := F83_q1_label.other W86 (Or.inl n_l.symm)
    have F86_q1_numberAt := F83_q1_numberAt.other W86 (Or.inl n_l.symm)
    have K86 := K83.wr W86 (Or.inl (List.mem_of_getElem? (i := 0) rfl))
    have A86 : Arv Z T86.heap bl kl .byte (266 : Int32) [.int u0, .int u1, .int u2, .int u3, .int u4, .int u5, .int (nar .byte (dg 2 q2)), .int (nar .byte (dg 1 q2)), .int (nar .byte (dg 0 q2)), .int u9, .int u10, .int u11, .int u12] (.int 0) := A86v
    refine g_iloadN X86 hx hby d15_58 (pc' := 59) rfl rfl ?_
    refine g_bipush X86 hx hby d15_59 (pc' := 61) rfl (z := (10 : Int32)) rfl ?_
    refine g_idiv X86 hx hby d15_61 (pc' := 62) rfl (by decide) ?_
    refine g_istoreN X86 hx hby d15_62 (pc' := 63) rfl (l' := #[.val (.ref q1), .val (.int q2), .val (.int (9 : Int32)), .val (.int (dv 3 q2)), .val (.int (6 : Int32))]) rfl ?_
    refine g_iinc X86 hx hby d15_63 (pc' := 66) rfl rfl (l' := #[.val (.ref q1), .val (.int q2), .val (.int (9 : Int32)), .val (.int (dv 3 q2)), .val (.int (5 : Int32))]) rfl ?_
    refine g_goto X86 hx hby d15_66 (by decide) (pc' := 34) (by decide) ?_
    refine g_iload X86 hx hby d15_34 (pc' := 36) rfl rfl ?_
    refine g_aloadN X86 hx hby d15_36 (pc' := 37) rfl rfl rfl ?_
    refine g_get X86 hx hZ hown hby d15_37 (pc' := 40) rfl (w_87 hw) rfl F86_q1_numberAt ?_
    intro T87 X87 e87
    refine g_icmp_lt X87 hx hby d15_40 (by decide) (pc' := 69) (by decide) (pn := 43) rfl (fun z => absurd z (by decide)) (fun _ => ?_)
    refine g_aloadN X87 hx hby d15_43 (pc' := 44) rfl rfl rfl ?_
    refine g_get X87 hx hZ hown hby d15_44 (pc' := 47) rfl (w_38 hw) e87 F86_q1_label ?_
    intro T88 X88 e88
    refine g_iload X88 hx hby d15_47 (pc' := 49) rfl rfl ?_
    refine g_bipush X88 hx hby d15_49 (pc' := 51) rfl (z := (48 : Int32)) rfl ?_
    refine g_iloadN X88 hx hby d15_51 (pc' := 52) rfl rfl ?_
    refine g_bipush X88 hx hby d15_52 (pc' := 54) rfl (z := (10 : Int32)) rfl ?_
    refine g_irem X88 hx hby d15_54 (pc' := 55) rfl (by decide) ?_
    refine g_iadd X88 hx hby d15_55 (pc' := 56) rfl ?_
    refine g_i2b X88 hx hby d15_56 (pc' := 57) rfl ?_
    refine g_bastore X88 hx hZ 5 hby d15_57 (pc' := 58) rfl e88 A86 (by decide) (by decide) (by first | decide | simp) ?_
    intro T89 X89 W89 A89v
    have N89 := Fr.snoc X89 N86 g_l
    have E89_q1 := E86_q1.wr W89
    have F89_q1_label := F86_q1_label.other W89 (Or.inl n_l.symm)
    have F89_q1_numberAt := F86_q1_numberAt.other W89 (Or.inl n_l.symm)
    have K89 := K86.wr W89 (Or.inl (List.mem_of_getElem? (i := 0) rfl))
    have A89 : Arv Z T89.heap bl kl .byte (266 : Int32) [.int u0, .int u1, .int u2, .int u3, .int u4, .int (nar .byte (dg 3 q2)), .int (nar .byte (dg 2 q2)), .int (nar .byte (dg 1 q2)), .int (nar .byte (dg 0 q2)), .int u9, .int u10, .int u11, .int u12] (.int 0) := A89v
    refine g_iloadN X89 hx hby d15_58 (pc' := 59) rfl rfl ?_
    refine g_bipush X89 hx hby d15_59 (pc' := 61) rfl (z := (10 : Int32)) rfl ?_
    refine g_idiv X89 hx hby d15_61 (pc' := 62) rfl (by decide) ?_
    refine g_istoreN X89 hx hby d15_62 (pc' := 63) rfl (l' := #[.val (.ref q1), .val (.int q2), .val (.int (9 : Int32)), .val (.int (dv 4 q2)), .val (.int (5 : Int32))]) rfl ?_
    refine g_iinc X89 hx hby d15_63 (pc' := 66) rfl rfl (l' := #[.val (.ref q1), .val (.int q2), .val (.int (9 : Int32)), .val (.int (dv 4 q2)), .val (.int (4 : Int32))]) rfl ?_
    refine g_goto X89 hx hby d15_66 (by decide) (pc' := 34) (by decide) ?_
    refine g_iload X89 hx hby d15_34 (pc' := 36) rfl rfl ?_
    refine g_aloadN X89 hx hby d15_36 (pc' := 37) rfl rfl rfl ?_
    refine g_get X89 hx hZ hown hby d15_37 (pc' := 40) rfl (w_87 hw) rfl F89_q1_numberAt ?_
    intro T90 X90 e90
    refine g_icmp_lt X90 hx hby d15_40 (by decide) (pc' := 69) (by decide) (pn := 43) rfl (fun z => absurd z (by decide)) (fun _ => ?_)
    refine g_aloadN X90 hx hby d15_43 (pc' := 44) rfl rfl rfl ?_
    refine g_get X90 hx hZ hown hby d15_44 (pc' := 47) rfl (w_38 hw) e90 F89_q1_label ?_
    intro T91 X91 e91
    refine g_iload X91 hx hby d15_47 (pc' := 49) rfl rfl ?_
    refine g_bipush X91 hx hby d15_49 (pc' := 51) rfl (z := (48 : Int32)) rfl ?_
    refine g_iloadN X91 hx hby d15_51 (pc' := 52) rfl rfl ?_
    refine g_bipush X91 hx hby d15_52 (pc' := 54) rfl (z := (10 : Int32)) rfl ?_
    refine g_irem X91 hx hby d15_54 (pc' := 55) rfl (by decide) ?_
    refine g_iadd X91 hx hby d15_55 (pc' := 56) rfl ?_
    refine g_i2b X91 hx hby d15_56 (pc' := 57) rfl ?_
    refine g_bastore X91 hx hZ 4 hby d15_57 (pc' := 58) rfl e91 A89 (by decide) (by decide) (by first | decide | simp) ?_
    intro T92 X92 W92 A92v
    have N92 := Fr.snoc X92 N89 g_l
    have E92_q1 := E89_q1.wr W92
    have F92_q1_label := F89_q1_label.other W92 (Or.inl n_l.symm)
    have F92_q1_numberAt := F89_q1_numberAt.other W92 (Or.inl n_l.symm)
    have K92 := K89.wr W92 (Or.inl (List.mem_of_getElem? (i := 0) rfl))
    have A92 : Arv Z T92.heap bl kl .byte (266 : Int32) [.int u0, .int u1, .int u2, .int u3, .int (nar .byte (dg 4 q2)), .int (nar .byte (dg 3 q2)), .int (nar .byte (dg 2 q2)), .int (nar .byte (dg 1 q2)), .int (nar .byte (dg 0 q2)), .int u9, .int u10, .int u11, .int u12] (.int 0) := A92v
    refine g_iloadN X92 hx hby d15_58 (pc' := 59) rfl rfl ?_
    refine g_bipush X92 hx hby d15_59 (pc' := 61) rfl (z := (10 : Int32)) rfl ?_
    refine g_idiv X92 hx hby d15_61 (pc' := 62) rfl (by decide) ?_
    refine g_istoreN X92 hx hby d15_62 (pc' := 63) rfl (l' := #[.val (.ref q1), .val (.int q2), .val (.int (9 : Int32)), .val (.int (dv 5 q2)), .val (.int (4 : Int32))]) rfl ?_
    refine g_iinc X92 hx hby d15_63 (pc' := 66) rfl rfl (l' := #[.val (.ref q1), .val (.int q2), .val (.int (9 : Int32)), .val (.int (dv 5 q2)), .val (.int (3 : Int32))]) rfl ?_
    refine g_goto X92 hx hby d15_66 (by decide) (pc' := 34) (by decide) ?_
    refine g_iload X92 hx hby d15_34 (pc' := 36) rfl rfl ?_
    refine g_aloadN X92 hx hby d15_36 (pc' := 37) rfl rfl rfl ?_
    refine g_get X92 hx hZ hown hby d15_37 (pc' := 40) rfl (w_87 hw) rfl F92_q1_numberAt ?_
    intro T93 X93 e93
    refine g_icmp_lt X93 hx hby d15_40 (by decide) (pc' := 69) (by decide) (pn := 43) rfl (fun z => absurd z (by decide)) (fun _ => ?_)
    refine g_aloadN X93 hx hby d15_43 (pc' := 44) rfl rfl rfl ?_
    refine g_get X93 hx hZ hown hby d15_44 (pc' := 47) rfl (w_38 hw) e93 F92_q1_label ?_
    intro T94 X94 e94
    refine g_iload X94 hx hby d15_47 (pc' := 49) rfl rfl ?_
    refine g_bipush X94 hx hby d15_49 (pc' := 51) rfl (z := (48 : Int32)) rfl ?_
    refine g_iloadN X94 hx hby d15_51 (pc' := 52) rfl rfl ?_
    refine g_bipush X94 hx hby d15_52 (pc' := 54) rfl (z := (10 : Int32)) rfl ?_
    refine g_irem X94 hx hby d15_54 (pc' := 55) rfl (by decide) ?_
    refine g_iadd X94 hx hby d15_55 (pc' := 56) rfl ?_
    refine g_i2b X94 hx hby d15_56 (pc' := 57) rfl ?_
    refine g_bastore X94 hx hZ 3 hby d15_57 (pc' := 58) rfl e94 A92 (by decide) (by decide) (by first | decide | simp) ?_
    intro T95 X95 W95 A95v
    have N95 := Fr.snoc X95 N92 g_l
    have E95_q1 := E92_q1.wr W95
    have F95_q1_label := F92_q1_label.other W95 (Or.inl n_l.symm)
    have F95_q1_numberAt := F92_q1_numberAt.other W95 (Or.inl n_l.symm)
    have K95 := K92.wr W95 (Or.inl (List.mem_of_getElem? (i := 0) rfl))
    have A95 : Arv Z T95.heap bl kl .byte (266 : Int32) [.int u0, .int u1, .int u2, .int (nar .byte (dg 5 q2)), .int (nar .byte (dg 4 q2)), .int (nar .byte (dg 3 q2)), .int (nar .byte (dg 2 q2)), .int (nar .byte (dg 1 q2)), .int (nar .byte (dg 0 q2)), .int u9, .int u10, .int u11, .int u12] (.int 0) := A95v
    refine g_iloadN X95 hx hby d15_58 (pc' := 59) rfl rfl ?_
    refine g_bipush X95 hx hby d15_59 (pc' := 61) rfl (z := (10 : Int32)) rfl ?_
    refine g_idiv X95 hx hby d15_61 (pc' := 62) rfl (by decide) ?_
    refine g_istoreN X95 hx hby d15_62 (pc' := 63) rfl (l' := #[.val (.ref q1), .val (.int q2), .val (.int (9 : Int32)), .val (.int (dv 6 q2)), .val (.int (3 : Int32))]) rfl ?_
    refine g_iinc X95 hx hby d15_63 (pc' := 66) rfl rfl (l' := #[.val (.ref q1), .val (.int q2), .val (.int (9 : Int32)), .val (.int (dv 6 q2)), .val (.int (2 : Int32))]) rfl ?_
    refine g_goto X95 hx hby d15_66 (by decide) (pc' := 34) (by decide) ?_
    refine g_iload X95 hx hby d15_34 (pc' := 36) rfl rfl ?_
    refine g_aloadN X95 hx hby d15_36 (pc' := 37) rfl rfl rfl ?_
    refine g_get X95 hx hZ hown hby d15_37 (pc' := 40) rfl (w_87 hw) rfl F95_q1_numberAt ?_
    intro T96 X96 e96
    refine g_icmp_lt X96 hx hby d15_40 (by decide) (pc' := 69) (by decide) (pn := 43) rfl (fun _ => ?_) (fun z => absurd z (by decide))
    refine g_iloadN X96 hx hby d15_69 (pc' := 70) rfl rfl ?_
    exact g_retI (Q := (fun v h L => ∃ (t0 t1 t2 t3 t4 t5 t6 t7 t8 t9 : Int32), v = some (.int ((3 : Int32) + (digV q2))) ∧ Fr n0 L ∧ Keep h0 h [bl] ∧ Arv Z h bl kl .byte (266 : Int32) [.int u0, .int u1, .int u2, .int t0, .int t1, .int t2, .int t3, .int t4, .int t5, .int t6, .int t7, .int t8, .int t9] (.int 0) ∧ DIGS 2 q2 [.int u0, .int u1, .int u2, .int t0, .int t1, .int t2, .int t3, .int t4, .int t5, .int t6, .int t7, .int t8, .int t9])) X96 hx hby d15_70 hret hlk (by decide) (by decide) (by rw [e96]; exact ⟨(nar .byte (dg 5 q2)), (nar .byte (dg 4 q2)), (nar .byte (dg 3 q2)), (nar .byte (dg 2 q2)), (nar .byte (dg 1 q2)), (nar .byte (dg 0 q2)), u9, u10, u11, u12, congrArg (fun z : Int32 => some (Value.int z)) (by rw [own_dig hd6 (by decide) (by decide)]; rfl), N95, K95, A95, own_digs hd6 (by decide) (by decide) (fun i hi => match i, hi with | 0, _ => rfl | 1, _ => rfl | 2, _ => rfl | 3, _ => rfl | 4, _ => rfl | 5, _ => rfl | (k + 6), h => absurd h (by omega))⟩)
  · refine g_aloadN X0 hx hby d15_0 (pc' := 1) rfl rfl rfl ?_
    refine g_get X0 hx hZ hown hby d15_1 (pc' := 4) rfl (w_87 hw) e0 F2 ?_
    intro T97 X97 e97
    refine g_iconst X97 hx hby d15_4 (pc' := 5) rfl (z := (1 : Int32)) rfl ?_
    refine g_iadd X97 hx hby d15_5 (pc' := 6) rfl ?_
    refine g_eqI (b := (4 : Int32)) (by decide +kernel) ?_
    refine g_istoreN X97 hx hby d15_6 (pc' := 7) rfl (l' := #[.val (.ref q1), .val (.int q2), .val (.int (4 : Int32)), .unset, .unset]) rfl ?_
    refine g_iloadN X97 hx hby d15_7 (pc' := 8) rfl rfl ?_
    refine g_bipush X97 hx hby d15_8 (pc' := 10) rfl (z := (10 : Int32)) rfl ?_
    refine g_idiv X97 hx hby d15_10 (pc' := 11) rfl (by decide) ?_
    refine g_istoreN X97 hx hby d15_11 (pc' := 12) rfl (l' := #[.val (.ref q1), .val (.int q2), .val (.int (4 : Int32)), .val (.int (dv 1 q2)), .unset]) rfl ?_
    refine g_iloadN X97 hx hby d15_12 (pc' := 13) rfl rfl ?_
    refine g_if_le X97 hx hby d15_13 (by decide) (pc' := 27) (by decide) (pn := 16) rfl (fun z => absurd z (fun z => z (own_yes 1 hd7 (by decide) (by decide)))) (fun hc13_98 => ?_)
    refine g_iinc X97 hx hby d15_16 (pc' := 19) rfl rfl (l' := #[.val (.ref q1), .val (.int q2), .val (.int (5 : Int32)), .val (.int (dv 1 q2)), .unset]) rfl ?_
    refine g_iloadN X97 hx hby d15_19 (pc' := 20) rfl rfl ?_
    refine g_bipush X97 hx hby d15_20 (pc' := 22) rfl (z := (10 : Int32)) rfl ?_
    refine g_idiv X97 hx hby d15_22 (pc' := 23) rfl (by decide) ?_
    refine g_istoreN X97 hx hby d15_23 (pc' := 24) rfl (l' := #[.val (.ref q1), .val (.int q2), .val (.int (5 : Int32)), .val (.int (dv 2 q2)), .unset]) rfl ?_
    refine g_goto X97 hx hby d15_24 (by decide) (pc' := 12) (by decide) ?_
    refine g_iloadN X97 hx hby d15_12 (pc' := 13) rfl rfl ?_
    refine g_if_le X97 hx hby d15_13 (by decide) (pc' := 27) (by decide) (pn := 16) rfl (fun z => absurd z (fun z => z (own_yes 2 hd7 (by decide) (by decide)))) (fun hc13_99 => ?_)
    refine g_iinc X97 hx hby d15_16 (pc' := 19) rfl rfl (l' := #[.val (.ref q1), .val (.int q2), .val (.int (6 : Int32)), .val (.int (dv 2 q2)), .unset]) rfl ?_
    refine g_iloadN X97 hx hby d15_19 (pc' := 20) rfl rfl ?_
    refine g_bipush X97 hx hby d15_20 (pc' := 22) rfl (z := (10 : Int32)) rfl ?_
    refine g_idiv X97 hx hby d15_22 (pc' := 23) rfl (by decide) ?_
    refine g_istoreN X97 hx hby d15_23 (pc' := 24) rfl (l' := #[.val (.ref q1), .val (.int q2), .val (.int (6 : Int32)), .val (.int (dv 3 q2)), .unset]) rfl ?_
    refine g_goto X97 hx hby d15_24 (by decide) (pc' := 12) (by decide) ?_
    refine g_iloadN X97 hx hby d15_12 (pc' := 13) rfl rfl ?_
    refine g_if_le X97 hx hby d15_13 (by decide) (pc' := 27) (by decide) (pn := 16) rfl (fun z => absurd z (fun z => z (own_yes 3 hd7 (by decide) (by decide)))) (fun hc13_100 => ?_)
    refine g_iinc X97 hx hby d15_16 (pc' := 19) rfl rfl (l' := #[.val (.ref q1), .val (.int q2), .val (.int (7 : Int32)), .val (.int (dv 3 q2)), .unset]) rfl ?_
    refine g_iloadN X97 hx hby d15_19 (pc' := 20) rfl rfl ?_
    refine g_bipush X97 hx hby d15_20 (pc' := 22) rfl (z := (10 : Int32)) rfl ?_
    refine g_idiv X97 hx hby d15_22 (pc' := 23) rfl (by decide) ?_
    refine g_istoreN X97 hx hby d15_23 (pc' := 24) rfl (l' := #[.val (.ref q1), .val (.int q2), .val (.int (7 : Int32)), .val (.int (dv 4 q2)), .unset]) rfl ?_
    refine g_goto X97 hx hby d15_24 (by decide) (pc' := 12) (by decide) ?_
    refine g_iloadN X97 hx hby d15_12 (pc' := 13) rfl rfl ?_
    refine g_if_le X97 hx hby d15_13 (by decide) (pc' := 27) (by decide) (pn := 16) rfl (fun z => absurd z (fun z => z (own_yes 4 hd7 (by decide) (by decide)))) (fun hc13_101 => ?_)
    refine g_iinc X97 hx hby d15_16 (pc' := 19) rfl rfl (l' := #[.val (.ref q1), .val (.int q2), .val (.int (8 : Int32)), .val (.int (dv 4 q2)), .unset]) rfl ?_
    refine g_iloadN X97 hx hby d15_19 (pc' := 20) rfl rfl ?_
    refine g_bipush X97 hx hby d15_20 (pc' := 22) rfl (z := (10 : Int32)) rfl ?_
    refine g_idiv X97 hx hby d15_22 (pc' := 23) rfl (by decide) ?_
    refine g_istoreN X97 hx hby d15_23 (pc' := 24) rfl (l' := #[.val (.ref q1), .val (.int q2), .val (.int (8 : Int32)), .val (.int (dv 5 q2)), .unset]) rfl ?_
    refine g_goto X97 hx hby d15_24 (by decide) (pc' := 12) (by decide) ?_
    refine g_iloadN X97 hx hby d15_12 (pc' := 13) rfl rfl ?_
    refine g_if_le X97 hx hby d15_13 (by decide) (pc' := 27) (by decide) (pn := 16) rfl (fun z => absurd z (fun z => z (own_yes 5 hd7 (by decide) (by decide)))) (fun hc13_102 => ?_)
    refine g_iinc X97 hx hby d15_16 (pc' := 19) rfl rfl (l' := #[.val (.ref q1), .val (.int q2), .val (.int (9 : Int32)), .val (.int (dv 5 q2)), .unset]) rfl ?_
    refine g_iloadN X97 hx hby d15_19 (pc' := 20) rfl rfl ?_
    refine g_bipush X97 hx hby d15_20 (pc' := 22) rfl (z := (10 : Int32)) rfl ?_
    refine g_idiv X97 hx hby d15_22 (pc' := 23) rfl (by decide) ?_
    refine g_istoreN X97 hx hby d15_23 (pc' := 24) rfl (l' := #[.val (.ref q1), .val (.int q2), .val (.int (9 : Int32)), .val (.int (dv 6 q2)), .unset]) rfl ?_
    refine g_goto X97 hx hby d15_24 (by decide) (pc' := 12) (by decide) ?_
    refine g_iloadN X97 hx hby d15_12 (pc' := 13) rfl rfl ?_
    refine g_if_le X97 hx hby d15_13 (by decide) (pc' := 27) (by decide) (pn := 16) rfl (fun z => absurd z (fun z => z (own_yes 6 hd7 (by decide) (by decide)))) (fun hc13_103 => ?_)
    refine g_iinc X97 hx hby d15_16 (pc' := 19) rfl rfl (l' := #[.val (.ref q1), .val (.int q2), .val (.int (10 : Int32)), .val (.int (dv 6 q2)), .unset]) rfl ?_
    refine g_iloadN X97 hx hby d15_19 (pc' := 20) rfl rfl ?_
    refine g_bipush X97 hx hby d15_20 (pc' := 22) rfl (z := (10 : Int32)) rfl ?_
    refine g_idiv X97 hx hby d15_22 (pc' := 23) rfl (by decide) ?_
    refine g_istoreN X97 hx hby d15_23 (pc' := 24) rfl (l' := #[.val (.ref q1), .val (.int q2), .val (.int (10 : Int32)), .val (.int (dv 7 q2)), .unset]) rfl ?_
    refine g_goto X97 hx hby d15_24 (by decide) (pc' := 12) (by decide) ?_
    refine g_iloadN X97 hx hby d15_12 (pc' := 13) rfl rfl ?_
    refine g_if_le X97 hx hby d15_13 (by decide) (pc' := 27) (by decide) (pn := 16) rfl (fun hc13_104 => ?_) (fun z => absurd z (own_no hd7))
    refine g_iloadN X97 hx hby d15_27 (pc' := 28) rfl rfl ?_
    refine g_istoreN X97 hx hby d15_28 (pc' := 29) rfl (l' := #[.val (.ref q1), .val (.int q2), .val (.int (10 : Int32)), .val (.int (dv 0 q2)), .unset]) rfl ?_
    refine g_iloadN X97 hx hby d15_29 (pc' := 30) rfl rfl ?_
    refine g_iconst X97 hx hby d15_30 (pc' := 31) rfl (z := (1 : Int32)) rfl ?_
    refine g_isub X97 hx hby d15_31 (pc' := 32) rfl ?_
    refine g_eqI (b := (9 : Int32)) (by decide +kernel) ?_
    refine g_istore X97 hx hby d15_32 (pc' := 34) rfl (l' := #[.val (.ref q1), .val (.int q2), .val (.int (10 : Int32)), .val (.int (dv 0 q2)), .val (.int (9 : Int32))]) rfl ?_
    refine g_iload X97 hx hby d15_34 (pc' := 36) rfl rfl ?_
    refine g_aloadN X97 hx hby d15_36 (pc' := 37) rfl rfl rfl ?_
    refine g_get X97 hx hZ hown hby d15_37 (pc' := 40) rfl (w_87 hw) e97 F2 ?_
    intro T105 X105 e105
    refine g_icmp_lt X105 hx hby d15_40 (by decide) (pc' := 69) (by decide) (pn := 43) rfl (fun z => absurd z (by decide)) (fun _ => ?_)
    refine g_aloadN X105 hx hby d15_43 (pc' := 44) rfl rfl rfl ?_
    refine g_get X105 hx hZ hown hby d15_44 (pc' := 47) rfl (w_38 hw) e105 F1 ?_
    intro T106 X106 e106
    refine g_iload X106 hx hby d15_47 (pc' := 49) rfl rfl ?_
    refine g_bipush X106 hx hby d15_49 (pc' := 51) rfl (z := (48 : Int32)) rfl ?_
    refine g_iloadN X106 hx hby d15_51 (pc' := 52) rfl rfl ?_
    refine g_bipush X106 hx hby d15_52 (pc' := 54) rfl (z := (10 : Int32)) rfl ?_
    refine g_irem X106 hx hby d15_54 (pc' := 55) rfl (by decide) ?_
    refine g_iadd X106 hx hby d15_55 (pc' := 56) rfl ?_
    refine g_i2b X106 hx hby d15_56 (pc' := 57) rfl ?_
    refine g_bastore X106 hx hZ 9 hby d15_57 (pc' := 58) rfl e106 A_l (by decide) (by decide) (by first | decide | simp) ?_
    intro T107 X107 W107 A107v
    have N107 := Fr.snoc X107 N0 g_l
    have E107_q1 := E_a.wr W107
    have F107_q1_label := F1.other W107 (Or.inl n_l.symm)
    have F107_q1_numberAt := F2.other W107 (Or.inl n_l.symm)
    have K107 := (Keep.refl h0 [bl]).wr W107 (Or.inl (List.mem_of_getElem? (i := 0) rfl))
    have A107 : Arv Z T107.heap bl kl .byte (266 : Int32) [.int u0, .int u1, .int u2, .int u3, .int u4, .int u5, .int u6, .int u7, .int u8, .int (nar .byte (dg 0 q2)), .int u10, .int u11, .int u12] (.int 0) := A107v
    refine g_iloadN X107 hx hby d15_58 (pc' := 59) rfl rfl ?_
    refine g_bipush X107 hx hby d15_59 (pc' := 61) rfl (z := (10 : Int32)) rfl ?_
    refine g_idiv X107 hx hby d15_61 (pc' := 62) rfl (by decide) ?_
    refine g_istoreN X107 hx hby d15_62 (pc' := 63) rfl (l' := #[.val (.ref q1), .val (.int q2), .val (.int (10 : Int32)), .val (.int (dv 1 q2)), .val (.int (9 : Int32))]) rfl ?_
    refine g_iinc X107 hx hby d15_63 (pc' := 66) rfl rfl (l' := #[.val (.ref q1), .val (.int q2), .val (.int (10 : Int32)), .val (.int (dv 1 q2)), .val (.int (8 : Int32))]) rfl ?_
    refine g_goto X107 hx hby d15_66 (by decide) (pc' := 34) (by decide) ?_
    refine g_iload X107 hx hby d15_34 (pc' := 36) rfl rfl ?_
    refine g_aloadN X107 hx hby d15_36 (pc' := 37) rfl rfl rfl ?_
    refine g_get X107 hx hZ hown hby d15_37 (pc' := 40) rfl (w_87 hw) rfl F107_q1_numberAt ?_
    intro T108 X108 e108
    refine g_icmp_lt X108 hx hby d15_40 (by decide) (pc' := 69) (by decide) (pn := 43) rfl (fun z => absurd z (by decide)) (fun _ => ?_)
    refine g_aloadN X108 hx hby d15_43 (pc' := 44) rfl rfl rfl ?_
    refine g_get X108 hx hZ hown hby d15_44 (pc' := 47) rfl (w_38 hw) e108 F107_q1_label ?_
    intro T109 X109 e109
    refine g_iload X109 hx hby d15_47 (pc' := 49) rfl rfl ?_
    refine g_bipush X109 hx hby d15_49 (pc' := 51) rfl (z := (48 : Int32)) rfl ?_
    refine g_iloadN X109 hx hby d15_51 (pc' := 52) rfl rfl ?_
    refine g_bipush X109 hx hby d15_52 (pc' := 54) rfl (z := (10 : Int32)) rfl ?_
    refine g_irem X109 hx hby d15_54 (pc' := 55) rfl (by decide) ?_
    refine g_iadd X109 hx hby d15_55 (pc' := 56) rfl ?_
    refine g_i2b X109 hx hby d15_56 (pc' := 57) rfl ?_
    refine g_bastore X109 hx hZ 8 hby d15_57 (pc' := 58) rfl e109 A107 (by decide) (by decide) (by first | decide | simp) ?_
    intro T110 X110 W110 A110v
    have N110 := Fr.snoc X110 N107 g_l
    have E110_q1 := E107_q1.wr W110
    have F110_q1_label := F107_q1_label.other W110 (Or.inl n_l.symm)
    have F110_q1_numberAt := F107_q1_numberAt.other W110 (Or.inl n_l.symm)
    have K110 := K107.wr W110 (Or.inl (List.mem_of_getElem? (i := 0) rfl))
    have A110 : Arv Z T110.heap bl kl .byte (266 : Int32) [.int u0, .int u1, .int u2, .int u3, .int u4, .int u5, .int u6, .int u7, .int (nar .byte (dg 1 q2)), .int (nar .byte (dg 0 q2)), .int u10, .int u11, .int u12] (.int 0) := A110v
    refine g_iloadN X110 hx hby d15_58 (pc' := 59) rfl rfl ?_
    refine g_bipush X110 hx hby d15_59 (pc' := 61) rfl (z := (10 : Int32)) rfl ?_
    refine g_idiv X110 hx hby d15_61 (pc' := 62) rfl (by decide) ?_
    refine g_istoreN X110 hx hby d15_62 (pc' := 63) rfl (l' := #[.val (.ref q1), .val (.int q2), .val (.int (10 : Int32)), .val (.int (dv 2 q2)), .val (.int (8 : Int32))]) rfl ?_
    refine g_iinc X110 hx hby d15_63 (pc' := 66) rfl rfl (l' := #[.val (.ref q1), .val (.int q2), .val (.int (10 : Int32)), .val (.int (dv 2 q2)), .val (.int (7 : Int32))]) rfl ?_
    refine g_goto X110 hx hby d15_66 (by decide) (pc' := 34) (by decide) ?_
    refine g_iload X110 hx hby d15_34 (pc' := 36) rfl rfl ?_
    refine g_aloadN X110 hx hby d15_36 (pc' := 37) rfl rfl rfl ?_
    refine g_get X110 hx hZ hown hby d15_37 (pc' := 40) rfl (w_87 hw) rfl F110_q1_numberAt ?_
    intro T111 X111 e111
    refine g_icmp_lt X111 hx hby d15_40 (by decide) (pc' := 69) (by decide) (pn := 43) rfl (fun z => absurd z (by decide)) (fun _ => ?_)
    refine g_aloadN X111 hx hby d15_43 (pc' := 44) rfl rfl rfl ?_
    refine g_get X111 hx hZ hown hby d15_44 (pc' := 47) rfl (w_38 hw) e111 F110_q1_label ?_
    intro T112 X112 e112
    refine g_iload X112 hx hby d15_47 (pc' := 49) rfl rfl ?_
    refine g_bipush X112 hx hby d15_49 (pc' := 51) rfl (z := (48 : Int32)) rfl ?_
    refine g_iloadN X112 hx hby d15_51 (pc' := 52) rfl rfl ?_
    refine g_bipush X112 hx hby d15_52 (pc' := 54) rfl (z := (10 : Int32)) rfl ?_
    refine g_irem X112 hx hby d15_54 (pc' := 55) rfl (by decide) ?_
    refine g_iadd X112 hx hby d15_55 (pc' := 56) rfl ?_
    refine g_i2b X112 hx hby d15_56 (pc' := 57) rfl ?_
    refine g_bastore X112 hx hZ 7 hby d15_57 (pc' := 58) rfl e112 A110 (by decide) (by decide) (by first | decide | simp) ?_
    intro T113 X113 W113 A113v
    have N113 := Fr.snoc X113 N110 g_l
    have E113_q1 := E110_q1.wr W113
    have F113_q1_label := F110_q1_label.other W113 (Or.inl n_l.symm)
    have F113_q1_numberAt := F110_q1_numberAt.other W113 (Or.inl n_l.symm)
    have K113 := K110.wr W113 (Or.inl (List.mem_of_getElem? (i := 0) rfl))
    have A113 : Arv Z T113.heap bl kl .byte (266 : Int32) [.int u0, .int u1, .int u2, .int u3, .int u4, .int u5, .int u6, .int (nar .byte (dg 2 q2)), .int (nar .byte (dg 1 q2)), .int (nar .byte (dg 0 q2)), .int u10, .int u11, .int u12] (.int 0) := A113v
    refine g_iloadN X113 hx hby d15_58 (pc' := 59) rfl rfl ?_
    refine g_bipush X113 hx hby d15_59 (pc' := 61) rfl (z := (10 : Int32)) rfl ?_
    refine g_idiv X113 hx hby d15_61 (pc' := 62) rfl (by decide) ?_
    refine g_istoreN X113 hx hby d15_62 (pc' := 63) rfl (l' := #[.val (.ref q1), .val (.int q2), .val (.int (10 : Int32)), .val (.int (dv 3 q2)), .val (.int (7 : Int32))]) rfl ?_
    refine g_iinc X113 hx hby d15_63 (pc' := 66) rfl rfl (l' := #[.val (.ref q1), .val (.int q2), .val (.int (10 : Int32)), .val (.int (dv 3 q2)), .val (.int (6 : Int32))]) rfl ?_
    refine g_goto X113 hx hby d15_66 (by decide) (pc' := 34) (by decide) ?_
    refine g_iload X113 hx hby d15_34 (pc' := 36) rfl rfl ?_
    refine g_aloadN X113 hx hby d15_36 (pc' := 37) rfl rfl rfl ?_
    refine g_get X113 hx hZ hown hby d15_37 (pc' := 40) rfl (w_87 hw) rfl F113_q1_numberAt ?_
    intro T114 X114 e114
    refine g_icmp_lt X114 hx hby d15_40 (by decide) (pc' := 69) (by decide) (pn := 43) rfl (fun z => absurd z (by decide)) (fun _ => ?_)
    refine g_aloadN X114 hx hby d15_43 (pc' := 44) rfl rfl rfl ?_
    refine g_get X114 hx hZ hown hby d15_44 (pc' := 47) rfl (w_38 hw) e114 F113_q1_label ?_
    intro T115 X115 e115
    refine g_iload X115 hx hby d15_47 (pc' := 49) rfl rfl ?_
    refine g_bipush X115 hx hby d15_49 (pc' := 51) rfl (z := (48 : Int32)) rfl ?_
    refine g_iloadN X115 hx hby d15_51 (pc' := 52) rfl rfl ?_
    refine g_bipush X115 hx hby d15_52 (pc' := 54) rfl (z := (10 : Int32)) rfl ?_
    refine g_irem X115 hx hby d15_54 (pc' := 55) rfl (by decide) ?_
    refine g_iadd X115 hx hby d15_55 (pc' := 56) rfl ?_
    refine g_i2b X115 hx hby d15_56 (pc' := 57) rfl ?_
    refine g_bastore X115 hx hZ 6 hby d15_57 (pc' := 58) rfl e115 A113 (by decide) (by decide) (by first | decide | simp) ?_
    intro T116 X116 W116 A116v
    have N116 := Fr.snoc X116 N113 g_l
    have E116_q1 := E113_q1.wr W116
    have F116_q1_label := F113_q1_label.other W116 (Or.inl n_l.symm)
    have F116_q1_numberAt := F113_q1_numberAt.other W116 (Or.inl n_l.symm)
    have K116 := K113.wr W116 (Or.inl (List.mem_of_getElem? (i := 0) rfl))
    have A116 : Arv Z T116.heap bl kl .byte (266 : Int32) [.int u0, .int u1, .int u2, .int u3, .int u4, .int u5, .int (nar .byte (dg 3 q2)), .int (nar .byte (dg 2 q2)), .int (nar .byte (dg 1 q2)), .int (nar .byte (dg 0 q2)), .int u10, .int u11, .int u12] (.int 0) := A116v
    refine g_iloadN X116 hx hby d15_58 (pc' := 59) rfl rfl ?_
    refine g_bipush X116 hx hby d15_59 (pc' := 61) rfl (z := (10 : Int32)) rfl ?_
    refine g_idiv X116 hx hby d15_61 (pc' := 62) rfl (by decide) ?_
    refine g_istoreN X116 hx hby d15_62 (pc' := 63) rfl (l' := #[.val (.ref q1), .val (.int q2), .val (.int (10 : Int32)), .val (.int (dv 4 q2)), .val (.int (6 : Int32))]) rfl ?_
    refine g_iinc X116 hx hby d15_63 (pc' := 66) rfl rfl (l' := #[.val (.ref q1), .val (.int q2), .val (.int (10 : Int32)), .val (.int (dv 4 q2)), .val (.int (5 : Int32))]) rfl ?_
    refine g_goto X116 hx hby d15_66 (by decide) (pc' := 34) (by decide) ?_
    refine g_iload X116 hx hby d15_34 (pc' := 36) rfl rfl ?_
    refine g_aloadN X116 hx hby d15_36 (pc' := 37) rfl rfl rfl ?_
    refine g_get X116 hx hZ hown hby d15_37 (pc' := 40) rfl (w_87 hw) rfl F116_q1_numberAt ?_
    intro T117 X117 e117
    refine g_icmp_lt X117 hx hby d15_40 (by decide) (pc' := 69) (by decide) (pn := 43) rfl (fun z => absurd z (by decide)) (fun _ => ?_)
    refine g_aloadN X117 hx hby d15_43 (pc' := 44) rfl rfl rfl ?_
    refine g_get X117 hx hZ hown hby d15_44 (pc' := 47) rfl (w_38 hw) e117 F116_q1_label ?_
    intro T118 X118 e118
    refine g_iload X118 hx hby d15_47 (pc' := 49) rfl rfl ?_
    refine g_bipush X118 hx hby d15_49 (pc' := 51) rfl (z := (48 : Int32)) rfl ?_
    refine g_iloadN X118 hx hby d15_51 (pc' := 52) rfl rfl ?_
    refine g_bipush X118 hx hby d15_52 (pc' := 54) rfl (z := (10 : Int32)) rfl ?_
    refine g_irem X118 hx hby d15_54 (pc' := 55) rfl (by decide) ?_
    refine g_iadd X118 hx hby d15_55 (pc' := 56) rfl ?_
    refine g_i2b X118 hx hby d15_56 (pc' := 57) rfl ?_
    refine g_bastore X118 hx hZ 5 hby d15_57 (pc' := 58) rfl e118 A116 (by decide) (by decide) (by first | decide | simp) ?_
    intro T119 X119 W119 A119v
    have N119 := Fr.snoc X119 N116 g_l
    have E119_q1 := E116_q1.wr W119
    have F119_q1_label := F116_q1_label.other W119 (Or.inl n_l.symm)
    have F119_q1_numberAt := F116_q1_numberAt.other W119 (Or.inl n_l.symm)
    have K119 := K116.wr W119 (Or.inl (List.mem_of_getElem? (i := 0) rfl))
    have A119 : Arv Z T119.heap bl kl .byte (266 : Int32) [.int u0, .int u1, .int u2, .int u3, .int u4, .int (nar .byte (dg 4 q2)), .int (nar .byte (dg 3 q2)), .int (nar .byte (dg 2 q2)), .int (nar .byte (dg 1 q2)), .int (nar .byte (dg 0 q2)), .int u10, .int u11, .int u12] (.int 0) := A119v
    refine g_iloadN X119 hx hby d15_58 (pc' := 59) rfl rfl ?_
    refine g_bipush X119 hx hby d15_59 (pc' := 61) rfl (z := (10 : Int32)) rfl ?_
    refine g_idiv X119 hx hby d15_61 (pc' := 62) rfl (by decide) ?_
    refine g_istoreN X119 hx hby d15_62 (pc' := 63) rfl (l' := #[.val (.ref q1), .val (.int q2), .val (.int (10 : Int32)), .val (.int (dv 5 q2)), .val (.int (5 : Int32))]) rfl ?_
    refine g_iinc X119 hx hby d15_63 (pc' := 66) rfl rfl (l' := #[.val (.ref q1), .val (.int q2), .val (.int (10 : Int32)), .val (.int (dv 5 q2)), .val (.int (4 : Int32))]) rfl ?_
    refine g_goto X119 hx hby d15_66 (by decide) (pc' := 34) (by decide) ?_
    refine g_iload X119 hx hby d15_34 (pc' := 36) rfl rfl ?_
    refine g_aloadN X119 hx hby d15_36 (pc' := 37) rfl rfl rfl ?_
    refine g_get X119 hx hZ hown hby d15_37 (pc' := 40) rfl (w_87 hw) rfl F119_q1_numberAt ?_
    intro T120 X120 e120
    refine g_icmp_lt X120 hx hby d15_40 (by decide) (pc' := 69) (by decide) (pn := 43) rfl (fun z => absurd z (by decide)) (fun _ => ?_)
    refine g_aloadN X120 hx hby d15_43 (pc' := 44) rfl rfl rfl ?_
    refine g_get X120 hx hZ hown hby d15_44 (pc' := 47) rfl (w_38 hw) e120 F119_q1_label ?_
    intro T121 X121 e121
    refine g_iload X121 hx hby d15_47 (pc' := 49) rfl rfl ?_
    refine g_bipush X121 hx hby d15_49 (pc' := 51) rfl (z := (48 : Int32)) rfl ?_
    refine g_iloadN X121 hx hby d15_51 (pc' := 52) rfl rfl ?_
    refine g_bipush X121 hx hby d15_52 (pc' := 54) rfl (z := (10 : Int32)) rfl ?_
    refine g_irem X121 hx hby d15_54 (pc' := 55) rfl (by decide) ?_
    refine g_iadd X121 hx hby d15_55 (pc' := 56) rfl ?_
    refine g_i2b X121 hx hby d15_56 (pc' := 57) rfl ?_
    refine g_bastore X121 hx hZ 4 hby d15_57 (pc' := 58) rfl e121 A119 (by decide) (by decide) (by first | decide | simp) ?_
    intro T122 X122 W122 A122v
    have N122 := Fr.snoc X122 N119 g_l
    have E122_q1 := E119_q1.wr W122
    have F122_q1_label := F119_q1_label.other W122 (Or.inl n_l.symm)
    have F122_q1_numberAt := F119_q1_numberAt.other W122 (Or.inl n_l.symm)
    have K122 := K119.wr W122 (Or.inl (List.mem_of_getElem? (i := 0) rfl))
    have A122 : Arv Z T122.heap bl kl .byte (266 : Int32) [.int u0, .int u1, .int u2, .int u3, .int (nar .byte (dg 5 q2)), .int (nar .byte (dg 4 q2)), .int (nar .byte (dg 3 q2)), .int (nar .byte (dg 2 q2)), .int (nar .byte (dg 1 q2)), .int (nar .byte (dg 0 q2)), .int u10, .int u11, .int u12] (.int 0) := A122v
    refine g_iloadN X122 hx hby d15_58 (pc' := 59) rfl rfl ?_
    refine g_bipush X122 hx hby d15_59 (pc' := 61) rfl (z := (10 : Int32)) rfl ?_
    refine g_idiv X122 hx hby d15_61 (pc' := 62) rfl (by decide) ?_
    refine g_istoreN X122 hx hby d15_62 (pc' := 63) rfl (l' := #[.val (.ref q1), .val (.int q2), .val (.int (10 : Int32)), .val (.int (dv 6 q2)), .val (.int (4 : Int32))]) rfl ?_
    refine g_iinc X122 hx hby d15_63 (pc' := 66) rfl rfl (l' := #[.val (.ref q1), .val (.int q2), .val (.int (10 : Int32)), .val (.int (dv 6 q2)), .val (.int (3 : Int32))]) rfl ?_
    refine g_goto X122 hx hby d15_66 (by decide) (pc' := 34) (by decide) ?_
    refine g_iload X122 hx hby d15_34 (pc' := 36) rfl rfl ?_
    refine g_aloadN X122 hx hby d15_36 (pc' := 37) rfl rfl rfl ?_
    refine g_get X122 hx hZ hown hby d15_37 (pc' := 40) rfl (w_87 hw) rfl F122_q1_numberAt ?_
    intro T123 X123 e123
    refine g_icmp_lt X123 hx hby d15_40 (by decide) (pc' := 69) (by decide) (pn := 43) rfl (fun z => absurd z (by decide)) (fun _ => ?_)
    refine g_aloadN X123 hx hby d15_43 (pc' := 44) rfl rfl rfl ?_
    refine g_get X123 hx hZ hown hby d15_44 (pc' := 47) rfl (w_38 hw) e123 F122_q1_label ?_
    intro T124 X124 e124
    refine g_iload X124 hx hby d15_47 (pc' := 49) rfl rfl ?_
    refine g_bipush X124 hx hby d15_49 (pc' := 51) rfl (z := (48 : Int32)) rfl ?_
    refine g_iloadN X124 hx hby d15_51 (pc' := 52) rfl rfl ?_
    refine g_bipush X124 hx hby d15_52 (pc' := 54) rfl (z := (10 : Int32)) rfl ?_
    refine g_irem X124 hx hby d15_54 (pc' := 55) rfl (by decide) ?_
    refine g_iadd X124 hx hby d15_55 (pc' := 56) rfl ?_
    refine g_i2b X124 hx hby d15_56 (pc' := 57) rfl ?_
    refine g_bastore X124 hx hZ 3 hby d15_57 (pc' := 58) rfl e124 A122 (by decide) (by decide) (by first | decide | simp) ?_
    intro T125 X125 W125 A125v
    have N125 := Fr.snoc X125 N122 g_l
    have E125_q1 := E122_q1.wr W125
    have F125_q1_label := F122_q1_label.other W125 (Or.inl n_l.symm)
    have F125_q1_numberAt := F122_q1_numberAt.other W125 (Or.inl n_l.symm)
    have K125 := K122.wr W125 (Or.inl (List.mem_of_getElem? (i := 0) rfl))
    have A125 : Arv Z T125.heap bl kl .byte (266 : Int32) [.int u0, .int u1, .int u2, .int (nar .byte (dg 6 q2)), .int (nar .byte (dg 5 q2)), .int (nar .byte (dg 4 q2)), .int (nar .byte (dg 3 q2)), .int (nar .byte (dg 2 q2)), .int (nar .byte (dg 1 q2)), .int (nar .byte (dg 0 q2)), .int u10, .int u11, .int u12] (.int 0) := A125v
    refine g_iloadN X125 hx hby d15_58 (pc' := 59) rfl rfl ?_
    refine g_bipush X125 hx hby d15_59 (pc' := 61) rfl (z := (10 : Int32)) rfl ?_
    refine g_idiv X125 hx hby d15_61 (pc' := 62) rfl (by decide) ?_
    refine g_istoreN X125 hx hby d15_62 (pc' := 63) rfl (l' := #[.val (.ref q1), .val (.int q2), .val (.int (10 : Int32)), .val (.int (dv 7 q2)), .val (.int (3 : Int32))]) rfl ?_
    refine g_iinc X125 hx hby d15_63 (pc' := 66) rfl rfl (l' := #[.val (.ref q1), .val (.int q2), .val (.int (10 : Int32)), .val (.int (dv 7 q2)), .val (.int (2 : Int32))]) rfl ?_
    refine g_goto X125 hx hby d15_66 (by decide) (pc' := 34) (by decide) ?_
    refine g_iload X125 hx hby d15_34 (pc' := 36) rfl rfl ?_
    refine g_aloadN X125 hx hby d15_36 (pc' := 37) rfl rfl rfl ?_
    refine g_get X125 hx hZ hown hby d15_37 (pc' := 40) rfl (w_87 hw) rfl F125_q1_numberAt ?_
    intro T126 X126 e126
    refine g_icmp_lt X126 hx hby d15_40 (by decide) (pc' := 69) (by decide) (pn := 43) rfl (fun _ => ?_) (fun z => absurd z (by decide))
    refine g_iloadN X126 hx hby d15_69 (pc' := 70) rfl rfl ?_
    exact g_retI (Q := (fun v h L => ∃ (t0 t1 t2 t3 t4 t5 t6 t7 t8 t9 : Int32), v = some (.int ((3 : Int32) + (digV q2))) ∧ Fr n0 L ∧ Keep h0 h [bl] ∧ Arv Z h bl kl .byte (266 : Int32) [.int u0, .int u1, .int u2, .int t0, .int t1, .int t2, .int t3, .int t4, .int t5, .int t6, .int t7, .int t8, .int t9] (.int 0) ∧ DIGS 2 q2 [.int u0, .int u1, .int u2, .int t0, .int t1, .int t2, .int t3, .int t4, .int t5, .int t6, .int t7, .int t8, .int t9])) X126 hx hby d15_70 hret hlk (by decide) (by decide) (by rw [e126]; exact ⟨(nar .byte (dg 6 q2)), (nar .byte (dg 5 q2)), (nar .byte (dg 4 q2)), (nar .byte (dg 3 q2)), (nar .byte (dg 2 q2)), (nar .byte (dg 1 q2)), (nar .byte (dg 0 q2)), u10, u11, u12, congrArg (fun z : Int32 => some (Value.int z)) (by rw [own_dig hd7 (by decide) (by decide)]; rfl), N125, K125, A125, own_digs hd7 (by decide) (by decide) (fun i hi => match i, hi with | 0, _ => rfl | 1, _ => rfl | 2, _ => rfl | 3, _ => rfl | 4, _ => rfl | 5, _ => rfl | 6, _ => rfl | (k + 7), h => absurd h (by omega))⟩)
  · refine g_aloadN X0 hx hby d15_0 (pc' := 1) rfl rfl rfl ?_
    refine g_get X0 hx hZ hown hby d15_1 (pc' := 4) rfl (w_87 hw) e0 F2 ?_
    intro T127 X127 e127
    refine g_iconst X127 hx hby d15_4 (pc' := 5) rfl (z := (1 : Int32)) rfl ?_
    refine g_iadd X127 hx hby d15_5 (pc' := 6) rfl ?_
    refine g_eqI (b := (4 : Int32)) (by decide +kernel) ?_
    refine g_istoreN X127 hx hby d15_6 (pc' := 7) rfl (l' := #[.val (.ref q1), .val (.int q2), .val (.int (4 : Int32)), .unset, .unset]) rfl ?_
    refine g_iloadN X127 hx hby d15_7 (pc' := 8) rfl rfl ?_
    refine g_bipush X127 hx hby d15_8 (pc' := 10) rfl (z := (10 : Int32)) rfl ?_
    refine g_idiv X127 hx hby d15_10 (pc' := 11) rfl (by decide) ?_
    refine g_istoreN X127 hx hby d15_11 (pc' := 12) rfl (l' := #[.val (.ref q1), .val (.int q2), .val (.int (4 : Int32)), .val (.int (dv 1 q2)), .unset]) rfl ?_
    refine g_iloadN X127 hx hby d15_12 (pc' := 13) rfl rfl ?_
    refine g_if_le X127 hx hby d15_13 (by decide) (pc' := 27) (by decide) (pn := 16) rfl (fun z => absurd z (fun z => z (own_yes 1 hd8 (by decide) (by decide)))) (fun hc13_128 => ?_)
    refine g_iinc X127 hx hby d15_16 (pc' := 19) rfl rfl (l' := #[.val (.ref q1), .val (.int q2), .val (.int (5 : Int32)), .val (.int (dv 1 q2)), .unset]) rfl ?_
    refine g_iloadN X127 hx hby d15_19 (pc' := 20) rfl rfl ?_
    refine g_bipush X127 hx hby d15_20 (pc' := 22) rfl (z := (10 : Int32)) rfl ?_
    refine g_idiv X127 hx hby d15_22 (pc' := 23) rfl (by decide) ?_
    refine g_istoreN X127 hx hby d15_23 (pc' := 24) rfl (l' := #[.val (.ref q1), .val (.int q2), .val (.int (5 : Int32)), .val (.int (dv 2 q2)), .unset]) rfl ?_
    refine g_goto X127 hx hby d15_24 (by decide) (pc' := 12) (by decide) ?_
    refine g_iloadN X127 hx hby d15_12 (pc' := 13) rfl rfl ?_
    refine g_if_le X127 hx hby d15_13 (by decide) (pc' := 27) (by decide) (pn := 16) rfl (fun z => absurd z (fun z => z (own_yes 2 hd8 (by decide) (by decide)))) (fun hc13_129 => ?_)
    refine g_iinc X127 hx hby d15_16 (pc' := 19) rfl rfl (l' := #[.val (.ref q1), .val (.int q2), .val (.int (6 : Int32)), .val (.int (dv 2 q2)), .unset]) rfl ?_
    refine g_iloadN X127 hx hby d15_19 (pc' := 20) rfl rfl ?_
    refine g_bipush X127 hx hby d15_20 (pc' := 22) rfl (z := (10 : Int32)) rfl ?_
    refine g_idiv X127 hx hby d15_22 (pc' := 23) rfl (by decide) ?_
    refine g_istoreN X127 hx hby d15_23 (pc' := 24) rfl (l' := #[.val (.ref q1), .val (.int q2), .val (.int (6 : Int32)), .val (.int (dv 3 q2)), .unset]) rfl ?_
    refine g_goto X127 hx hby d15_24 (by decide) (pc' := 12) (by decide) ?_
    refine g_iloadN X127 hx hby d15_12 (pc' := 13) rfl rfl ?_
    refine g_if_le X127 hx hby d15_13 (by decide) (pc' := 27) (by decide) (pn := 16) rfl (fun z => absurd z (fun z => z (own_yes 3 hd8 (by decide) (by decide)))) (fun hc13_130 => ?_)
    refine g_iinc X127 hx hby d15_16 (pc' := 19) rfl rfl (l' := #[.val (.ref q1), .val (.int q2), .val (.int (7 : Int32)), .val (.int (dv 3 q2)), .unset]) rfl ?_
    refine g_iloadN X127 hx hby d15_19 (pc' := 20) rfl rfl ?_
    refine g_bipush X127 hx hby d15_20 (pc' := 22) rfl (z := (10 : Int32)) rfl ?_
    refine g_idiv X127 hx hby d15_22 (pc' := 23) rfl (by decide) ?_
    refine g_istoreN X127 hx hby d15_23 (pc' := 24) rfl (l' := #[.val (.ref q1), .val (.int q2), .val (.int (7 : Int32)), .val (.int (dv 4 q2)), .unset]) rfl ?_
    refine g_goto X127 hx hby d15_24 (by decide) (pc' := 12) (by decide) ?_
    refine g_iloadN X127 hx hby d15_12 (pc' := 13) rfl rfl ?_
    refine g_if_le X127 hx hby d15_13 (by decide) (pc' := 27) (by decide) (pn := 16) rfl (fun z => absurd z (fun z => z (own_yes 4 hd8 (by decide) (by decide)))) (fun hc13_131 => ?_)
    refine g_iinc X127 hx hby d15_16 (pc' := 19) rfl rfl (l' := #[.val (.ref q1), .val (.int q2), .val (.int (8 : Int32)), .val (.int (dv 4 q2)), .unset]) rfl ?_
    refine g_iloadN X127 hx hby d15_19 (pc' := 20) rfl rfl ?_
    refine g_bipush X127 hx hby d15_20 (pc' := 22) rfl (z := (10 : Int32)) rfl ?_
    refine g_idiv X127 hx hby d15_22 (pc' := 23) rfl (by decide) ?_
    refine g_istoreN X127 hx hby d15_23 (pc' := 24) rfl (l' := #[.val (.ref q1), .val (.int q2), .val (.int (8 : Int32)), .val (.int (dv 5 q2)), .unset]) rfl ?_
    refine g_goto X127 hx hby d15_24 (by decide) (pc' := 12) (by decide) ?_
    refine g_iloadN X127 hx hby d15_12 (pc' := 13) rfl rfl ?_
    refine g_if_le X127 hx hby d15_13 (by decide) (pc' := 27) (by decide) (pn := 16) rfl (fun z => absurd z (fun z => z (own_yes 5 hd8 (by decide) (by decide)))) (fun hc13_132 => ?_)
    refine g_iinc X127 hx hby d15_16 (pc' := 19) rfl rfl (l' := #[.val (.ref q1), .val (.int q2), .val (.int (9 : Int32)), .val (.int (dv 5 q2)), .unset]) rfl ?_
    refine g_iloadN X127 hx hby d15_19 (pc' := 20) rfl rfl ?_
    refine g_bipush X127 hx hby d15_20 (pc' := 22) rfl (z := (10 : Int32)) rfl ?_
    refine g_idiv X127 hx hby d15_22 (pc' := 23) rfl (by decide) ?_
    refine g_istoreN X127 hx hby d15_23 (pc' := 24) rfl (l' := #[.val (.ref q1), .val (.int q2), .val (.int (9 : Int32)), .val (.int (dv 6 q2)), .unset]) rfl ?_
    refine g_goto X127 hx hby d15_24 (by decide) (pc' := 12) (by decide) ?_
    refine g_iloadN X127 hx hby d15_12 (pc' := 13) rfl rfl ?_
    refine g_if_le X127 hx hby d15_13 (by decide) (pc' := 27) (by decide) (pn := 16) rfl (fun z => absurd z (fun z => z (own_yes 6 hd8 (by decide) (by decide)))) (fun hc13_133 => ?_)
    refine g_iinc X127 hx hby d15_16 (pc' := 19) rfl rfl (l' := #[.val (.ref q1), .val (.int q2), .val (.int (10 : Int32)), .val (.int (dv 6 q2)), .unset]) rfl ?_
    refine g_iloadN X127 hx hby d15_19 (pc' := 20) rfl rfl ?_
    refine g_bipush X127 hx hby d15_20 (pc' := 22) rfl (z := (10 : Int32)) rfl ?_
    refine g_idiv X127 hx hby d15_22 (pc' := 23) rfl (by decide) ?_
    refine g_istoreN X127 hx hby d15_23 (pc' := 24) rfl (l' := #[.val (.ref q1), .val (.int q2), .val (.int (10 : Int32)), .val (.int (dv 7 q2)), .unset]) rfl ?_
    refine g_goto X127 hx hby d15_24 (by decide) (pc' := 12) (by decide) ?_
    refine g_iloadN X127 hx hby d15_12 (pc' := 13) rfl rfl ?_
    refine g_if_le X127 hx hby d15_13 (by decide) (pc' := 27) (by decide) (pn := 16) rfl (fun z => absurd z (fun z => z (own_yes 7 hd8 (by decide) (by decide)))) (fun hc13_134 => ?_)
    refine g_iinc X127 hx hby d15_16 (pc' := 19) rfl rfl (l' := #[.val (.ref q1), .val (.int q2), .val (.int (11 : Int32)), .val (.int (dv 7 q2)), .unset]) rfl ?_
    refine g_iloadN X127 hx hby d15_19 (pc' := 20) rfl rfl ?_
    refine g_bipush X127 hx hby d15_20 (pc' := 22) rfl (z := (10 : Int32)) rfl ?_
    refine g_idiv X127 hx hby d15_22 (pc' := 23) rfl (by decide) ?_
    refine g_istoreN X127 hx hby d15_23 (pc' := 24) rfl (l' := #[.val (.ref q1), .val (.int q2), .val (.int (11 : Int32)), .val (.int (dv 8 q2)), .unset]) rfl ?_
    refine g_goto X127 hx hby d15_24 (by decide) (pc' := 12) (by decide) ?_
    refine g_iloadN X127 hx hby d15_12 (pc' := 13) rfl rfl ?_
    refine g_if_le X127 hx hby d15_13 (by decide) (pc' := 27) (by decide) (pn := 16) rfl (fun hc13_135 => ?_) (fun z => absurd z (own_no hd8))
    refine g_iloadN X127 hx hby d15_27 (pc' := 28) rfl rfl ?_
    refine g_istoreN X127 hx hby d15_28 (pc' := 29) rfl (l' := #[.val (.ref q1), .val (.int q2), .val (.int (11 : Int32)), .val (.int (dv 0 q2)), .unset]) rfl ?_
    refine g_iloadN X127 hx hby d15_29 (pc' := 30) rfl rfl ?_
    refine g_iconst X127 hx hby d15_30 (pc' := 31) rfl (z := (1 : Int32)) rfl ?_
    refine g_isub X127 hx hby d15_31 (pc' := 32) rfl ?_
    refine g_eqI (b := (10 : Int32)) (by decide +kernel) ?_
    refine g_istore X127 hx hby d15_32 (pc' := 34) rfl (l' := #[.val (.ref q1), .val (.int q2), .val (.int (11 : Int32)), .val (.int (dv 0 q2)), .val (.int (10 : Int32))]) rfl ?_
    refine g_iload X127 hx hby d15_34 (pc' := 36) rfl rfl ?_
    refine g_aloadN X127 hx hby d15_36 (pc' := 37) rfl rfl rfl ?_
    refine g_get X127 hx hZ hown hby d15_37 (pc' := 40) rfl (w_87 hw) e127 F2 ?_
    intro T136 X136 e136
    refine g_icmp_lt X136 hx hby d15_40 (by decide) (pc' := 69) (by decide) (pn := 43) rfl (fun z => absurd z (by decide)) (fun _ => ?_)
    refine g_aloadN X136 hx hby d15_43 (pc' := 44) rfl rfl rfl ?_
    refine g_get X136 hx hZ hown hby d15_44 (pc' := 47) rfl (w_38 hw) e136 F1 ?_
    intro T137 X137 e137
    refine g_iload X137 hx hby d15_47 (pc' := 49) rfl rfl ?_
    refine g_bipush X137 hx hby d15_49 (pc' := 51) rfl (z := (48 : Int32)) rfl ?_
    refine g_iloadN X137 hx hby d15_51 (pc' := 52) rfl rfl ?_
    refine g_bipush X137 hx hby d15_52 (pc' := 54) rfl (z := (10 : Int32)) rfl ?_
    refine g_irem X137 hx hby d15_54 (pc' := 55) rfl (by decide) ?_
    refine g_iadd X137 hx hby d15_55 (pc' := 56) rfl ?_
    refine g_i2b X137 hx hby d15_56 (pc' := 57) rfl ?_
    refine g_bastore X137 hx hZ 10 hby d15_57 (pc' := 58) rfl e137 A_l (by decide) (by decide) (by first | decide | simp) ?_
    intro T138 X138 W138 A138v
    have N138 := Fr.snoc X138 N0 g_l
    have E138_q1 := E_a.wr W138
    have F138_q1_label := F1.other W138 (Or.inl n_l.symm)
    have F138_q1_numberAt := F2.other W138 (Or.inl n_l.symm)
    have K138 := (Keep.refl h0 [bl]).wr W138 (Or.inl (List.mem_of_getElem? (i := 0) rfl))
    have A138 : Arv Z T138.heap bl kl .byte (266 : Int32) [.int u0, .int u1, .int u2, .int u3, .int u4, .int u5, .int u6, .int u7, .int u8, .int u9, .int (nar .byte (dg 0 q2)), .int u11, .int u12] (.int 0) := A138v
    refine g_iloadN X138 hx hby d15_58 (pc' := 59) rfl rfl ?_
    refine g_bipush X138 hx hby d15_59 (pc' := 61) rfl (z := (10 : Int32)) rfl ?_
    refine g_idiv X138 hx hby d15_61 (pc' := 62) rfl (by decide) ?_
    refine g_istoreN X138 hx hby d15_62 (pc' := 63) rfl (l' := #[.val (.ref q1), .val (.int q2), .val (.int (11 : Int32)), .val (.int (dv 1 q2)), .val (.int (10 : Int32))]) rfl ?_
    refine g_iinc X138 hx hby d15_63 (pc' := 66) rfl rfl (l' := #[.val (.ref q1), .val (.int q2), .val (.int (11 : Int32)), .val (.int (dv 1 q2)), .val (.int (9 : Int32))]) rfl ?_
    refine g_goto X138 hx hby d15_66 (by decide) (pc' := 34) (by decide) ?_
    refine g_iload X138 hx hby d15_34 (pc' := 36) rfl rfl ?_
    refine g_aloadN X138 hx hby d15_36 (pc' := 37) rfl rfl rfl ?_
    refine g_get X138 hx hZ hown hby d15_37 (pc' := 40) rfl (w_87 hw) rfl F138_q1_numberAt ?_
    intro T139 X139 e139
    refine g_icmp_lt X139 hx hby d15_40 (by decide) (pc' := 69) (by decide) (pn := 43) rfl (fun z => absurd z (by decide)) (fun _ => ?_)
    refine g_aloadN X139 hx hby d15_43 (pc' := 44) rfl rfl rfl ?_
    refine g_get X139 hx hZ hown hby d15_44 (pc' := 47) rfl (w_38 hw) e139 F138_q1_label ?_
    intro T140 X140 e140
    refine g_iload X140 hx hby d15_47 (pc' := 49) rfl rfl ?_
    refine g_bipush X140 hx hby d15_49 (pc' := 51) rfl (z := (48 : Int32)) rfl ?_
    refine g_iloadN X140 hx hby d15_51 (pc' := 52) rfl rfl ?_
    refine g_bipush X140 hx hby d15_52 (pc' := 54) rfl (z := (10 : Int32)) rfl ?_
    refine g_irem X140 hx hby d15_54 (pc' := 55) rfl (by decide) ?_
    refine g_iadd X140 hx hby d15_55 (pc' := 56) rfl ?_
    refine g_i2b X140 hx hby d15_56 (pc' := 57) rfl ?_
    refine g_bastore X140 hx hZ 9 hby d15_57 (pc' := 58) rfl e140 A138 (by decide) (by decide) (by first | decide | simp) ?_
    intro T141 X141 W141 A141v
    have N141 := Fr.snoc X141 N138 g_l
    have E141_q1 := E138_q1.wr W141
    have F141_q1_label := F138_q1_label.other W141 (Or.inl n_l.symm)
    have F141_q1_numberAt := F138_q1_numberAt.other W141 (Or.inl n_l.symm)
    have K141 := K138.wr W141 (Or.inl (List.mem_of_getElem? (i := 0) rfl))
    have A141 : Arv Z T141.heap bl kl .byte (266 : Int32) [.int u0, .int u1, .int u2, .int u3, .int u4, .int u5, .int u6, .int u7, .int u8, .int (nar .byte (dg 1 q2)), .int (nar .byte (dg 0 q2)), .int u11, .int u12] (.int 0) := A141v
    refine g_iloadN X141 hx hby d15_58 (pc' := 59) rfl rfl ?_
    refine g_bipush X141 hx hby d15_59 (pc' := 61) rfl (z := (10 : Int32)) rfl ?_
    refine g_idiv X141 hx hby d15_61 (pc' := 62) rfl (by decide) ?_
    refine g_istoreN X141 hx hby d15_62 (pc' := 63) rfl (l' := #[.val (.ref q1), .val (.int q2), .val (.int (11 : Int32)), .val (.int (dv 2 q2)), .val (.int (9 : Int32))]) rfl ?_
    refine g_iinc X141 hx hby d15_63 (pc' := 66) rfl rfl (l' := #[.val (.ref q1), .val (.int q2), .val (.int (11 : Int32)), .val (.int (dv 2 q2)), .val (.int (8 : Int32))]) rfl ?_
    refine g_goto X141 hx hby d15_66 (by decide) (pc' := 34) (by decide) ?_
    refine g_iload X141 hx hby d15_34 (pc' := 36) rfl rfl ?_
    refine g_aloadN X141 hx hby d15_36 (pc' := 37) rfl rfl rfl ?_
    refine g_get X141 hx hZ hown hby d15_37 (pc' := 40) rfl (w_87 hw) rfl F141_q1_numberAt ?_
    intro T142 X142 e142
    refine g_icmp_lt X142 hx hby d15_40 (by decide) (pc' := 69) (by decide) (pn := 43) rfl (fun z => absurd z (by decide)) (fun _ => ?_)
    refine g_aloadN X142 hx hby d15_43 (pc' := 44) rfl rfl rfl ?_
    refine g_get X142 hx hZ hown hby d15_44 (pc' := 47) rfl (w_38 hw) e142 F141_q1_label ?_
    intro T143 X143 e143
    refine g_iload X143 hx hby d15_47 (pc' := 49) rfl rfl ?_
    refine g_bipush X143 hx hby d15_49 (pc' := 51) rfl (z := (48 : Int32)) rfl ?_
    refine g_iloadN X143 hx hby d15_51 (pc' := 52) rfl rfl ?_
    refine g_bipush X143 hx hby d15_52 (pc' := 54) rfl (z := (10 : Int32)) rfl ?_
    refine g_irem X143 hx hby d15_54 (pc' := 55) rfl (by decide) ?_
    refine g_iadd X143 hx hby d15_55 (pc' := 56) rfl ?_
    refine g_i2b X143 hx hby d15_56 (pc' := 57) rfl ?_
    refine g_bastore X143 hx hZ 8 hby d15_57 (pc' := 58) rfl e143 A141 (by decide) (by decide) (by first | decide | simp) ?_
    intro T144 X144 W144 A144v
    have N144 := Fr.snoc X144 N141 g_l
    have E144_q1 := E141_q1.wr W144
    have F144_q1_label := F141_q1_label.other W144 (Or.inl n_l.symm)
    have F144_q1_numberAt := F141_q1_numberAt.other W144 (Or.inl n_l.symm)
    have K144 := K141.wr W144 (Or.inl (List.mem_of_getElem? (i := 0) rfl))
    have A144 : Arv Z T144.heap bl kl .byte (266 : Int32) [.int u0, .int u1, .int u2, .int u3, .int u4, .int u5, .int u6, .int u7, .int (nar .byte (dg 2 q2)), .int (nar .byte (dg 1 q2)), .int (nar .byte (dg 0 q2)), .int u11, .int u12] (.int 0) := A144v
    refine g_iloadN X144 hx hby d15_58 (pc' := 59) rfl rfl ?_
    refine g_bipush X144 hx hby d15_59 (pc' := 61) rfl (z := (10 : Int32)) rfl ?_
    refine g_idiv X144 hx hby d15_61 (pc' := 62) rfl (by decide) ?_
    refine g_istoreN X144 hx hby d15_62 (pc' := 63) rfl (l' := #[.val (.ref q1), .val (.int q2), .val (.int (11 : Int32)), .val (.int (dv 3 q2)), .val (.int (8 : Int32))]) rfl ?_
    refine g_iinc X144 hx hby d15_63 (pc' := 66) rfl rfl (l' := #[.val (.ref q1), .val (.int q2), .val (.int (11 : Int32)), .val (.int (dv 3 q2)), .val (.int (7 : Int32))]) rfl ?_
    refine g_goto X144 hx hby d15_66 (by decide) (pc' := 34) (by decide) ?_
    refine g_iload X144 hx hby d15_34 (pc' := 36) rfl rfl ?_
    refine g_aloadN X144 hx hby d15_36 (pc' := 37) rfl rfl rfl ?_
    refine g_get X144 hx hZ hown hby d15_37 (pc' := 40) rfl (w_87 hw) rfl F144_q1_numberAt ?_
    intro T145 X145 e145
    refine g_icmp_lt X145 hx hby d15_40 (by decide) (pc' := 69) (by decide) (pn := 43) rfl (fun z => absurd z (by decide)) (fun _ => ?_)
    refine g_aloadN X145 hx hby d15_43 (pc' := 44) rfl rfl rfl ?_
    refine g_get X145 hx hZ hown hby d15_44 (pc' := 47) rfl (w_38 hw) e145 F144_q1_label ?_
    intro T146 X146 e146
    refine g_iload X146 hx hby d15_47 (pc' := 49) rfl rfl ?_
    refine g_bipush X146 hx hby d15_49 (pc' := 51) rfl (z := (48 : Int32)) rfl ?_
    refine g_iloadN X146 hx hby d15_51 (pc' := 52) rfl rfl ?_
    refine g_bipush X146 hx hby d15_52 (pc' := 54) rfl (z := (10 : Int32)) rfl ?_
    refine g_irem X146 hx hby d15_54 (pc' := 55) rfl (by decide) ?_
    refine g_iadd X146 hx hby d15_55 (pc' := 56) rfl ?_
    refine g_i2b X146 hx hby d15_56 (pc' := 57) rfl ?_
    refine g_bastore X146 hx hZ 7 hby d15_57 (pc' := 58) rfl e146 A144 (by decide) (by decide) (by first | decide | simp) ?_
    intro T147 X147 W147 A147v
    have N147 := Fr.snoc X147 N144 g_l
    have E147_q1 := E144_q1.wr W147
    have F147_q1_label := F144_q1_label.other W147 (Or.inl n_l.symm)
    have F147_q1_numberAt := F144_q1_numberAt.other W147 (Or.inl n_l.symm)
    have K147 := K144.wr W147 (Or.inl (List.mem_of_getElem? (i := 0) rfl))
    have A147 : Arv Z T147.heap bl kl .byte (266 : Int32) [.int u0, .int u1, .int u2, .int u3, .int u4, .int u5, .int u6, .int (nar .byte (dg 3 q2)), .int (nar .byte (dg 2 q2)), .int (nar .byte (dg 1 q2)), .int (nar .byte (dg 0 q2)), .int u11, .int u12] (.int 0) := A147v
    refine g_iloadN X147 hx hby d15_58 (pc' := 59) rfl rfl ?_
    refine g_bipush X147 hx hby d15_59 (pc' := 61) rfl (z := (10 : Int32)) rfl ?_
    refine g_idiv X147 hx hby d15_61 (pc' := 62) rfl (by decide) ?_
    refine g_istoreN X147 hx hby d15_62 (pc' := 63) rfl (l' := #[.val (.ref q1), .val (.int q2), .val (.int (11 : Int32)), .val (.int (dv 4 q2)), .val (.int (7 : Int32))]) rfl ?_
    refine g_iinc X147 hx hby d15_63 (pc' := 66) rfl rfl (l' := #[.val (.ref q1), .val (.int q2), .val (.int (11 : Int32)), .val (.int (dv 4 q2)), .val (.int (6 : Int32))]) rfl ?_
    refine g_goto X147 hx hby d15_66 (by decide) (pc' := 34) (by decide) ?_
    refine g_iload X147 hx hby d15_34 (pc' := 36) rfl rfl ?_
    refine g_aloadN X147 hx hby d15_36 (pc' := 37) rfl rfl rfl ?_
    refine g_get X147 hx hZ hown hby d15_37 (pc' := 40) rfl (w_87 hw) rfl F147_q1_numberAt ?_
    intro T148 X148 e148
    refine g_icmp_lt X148 hx hby d15_40 (by decide) (pc' := 69) (by decide) (pn := 43) rfl (fun z => absurd z (by decide)) (fun _ => ?_)
    refine g_aloadN X148 hx hby d15_43 (pc' := 44) rfl rfl rfl ?_
    refine g_get X148 hx hZ hown hby d15_44 (pc' := 47) rfl (w_38 hw) e148 F147_q1_label ?_
    intro T149 X149 e149
    refine g_iload X149 hx hby d15_47 (pc' := 49) rfl rfl ?_
    refine g_bipush X149 hx hby d15_49 (pc' := 51) rfl (z := (48 : Int32)) rfl ?_
    refine g_iloadN X149 hx hby d15_51 (pc' := 52) rfl rfl ?_
    refine g_bipush X149 hx hby d15_52 (pc' := 54) rfl (z := (10 : Int32)) rfl ?_
    refine g_irem X149 hx hby d15_54 (pc' := 55) rfl (by decide) ?_
    refine g_iadd X149 hx hby d15_55 (pc' := 56) rfl ?_
    refine g_i2b X149 hx hby d15_56 (pc' := 57) rfl ?_
    refine g_bastore X149 hx hZ 6 hby d15_57 (pc' := 58) rfl e149 A147 (by decide) (by decide) (by first | decide | simp) ?_
    intro T150 X150 W150 A150v
    have N150 := Fr.snoc X150 N147 g_l
    have E150_q1 := E147_q1.wr W150
    have F150_q1_label := F147_q1_label.other W150 (Or.inl n_l.symm)
    have F150_q1_numberAt := F147_q1_numberAt.other W150 (Or.inl n_l.symm)
    have K150 := K147.wr W150 (Or.inl (List.mem_of_getElem? (i := 0) rfl))
    have A150 : Arv Z T150.heap bl kl .byte (266 : Int32) [.int u0, .int u1, .int u2, .int u3, .int u4, .int u5, .int (nar .byte (dg 4 q2)), .int (nar .byte (dg 3 q2)), .int (nar .byte (dg 2 q2)), .int (nar .byte (dg 1 q2)), .int (nar .byte (dg 0 q2)), .int u11, .int u12] (.int 0) := A150v
    refine g_iloadN X150 hx hby d15_58 (pc' := 59) rfl rfl ?_
    refine g_bipush X150 hx hby d15_59 (pc' := 61) rfl (z := (10 : Int32)) rfl ?_
    refine g_idiv X150 hx hby d15_61 (pc' := 62) rfl (by decide) ?_
    refine g_istoreN X150 hx hby d15_62 (pc' := 63) rfl (l' := #[.val (.ref q1), .val (.int q2), .val (.int (11 : Int32)), .val (.int (dv 5 q2)), .val (.int (6 : Int32))]) rfl ?_
    refine g_iinc X150 hx hby d15_63 (pc' := 66) rfl rfl (l' := #[.val (.ref q1), .val (.int q2), .val (.int (11 : Int32)), .val (.int (dv 5 q2)), .val (.int (5 : Int32))]) rfl ?_
    refine g_goto X150 hx hby d15_66 (by decide) (pc' := 34) (by decide) ?_
    refine g_iload X150 hx hby d15_34 (pc' := 36) rfl rfl ?_
    refine g_aloadN X150 hx hby d15_36 (pc' := 37) rfl rfl rfl ?_
    refine g_get X150 hx hZ hown hby d15_37 (pc' := 40) rfl (w_87 hw) rfl F150_q1_numberAt ?_
    intro T151 X151 e151
    refine g_icmp_lt X151 hx hby d15_40 (by decide) (pc' := 69) (by decide) (pn := 43) rfl (fun z => absurd z (by decide)) (fun _ => ?_)
    refine g_aloadN X151 hx hby d15_43 (pc' := 44) rfl rfl rfl ?_
    refine g_get X151 hx hZ hown hby d15_44 (pc' := 47) rfl (w_38 hw) e151 F150_q1_label ?_
    intro T152 X152 e152
    refine g_iload X152 hx hby d15_47 (pc' := 49) rfl rfl ?_
    refine g_bipush X152 hx hby d15_49 (pc' := 51) rfl (z := (48 : Int32)) rfl ?_
    refine g_iloadN X152 hx hby d15_51 (pc' := 52) rfl rfl ?_
    refine g_bipush X152 hx hby d15_52 (pc' := 54) rfl (z := (10 : Int32)) rfl ?_
    refine g_irem X152 hx hby d15_54 (pc' := 55) rfl (by decide) ?_
    refine g_iadd X152 hx hby d15_55 (pc' := 56) rfl ?_
    refine g_i2b X152 hx hby d15_56 (pc' := 57) rfl ?_
    refine g_bastore X152 hx hZ 5 hby d15_57 (pc' := 58) rfl e152 A150 (by decide) (by decide) (by first | decide | simp) ?_
    intro T153 X153 W153 A153v
    have N153 := Fr.snoc X153 N150 g_l
    have E153_q1 := E150_q1.wr W153
    have F153_q1_label := F150_q1_label.other W153 (Or.inl n_l.symm)
    have F153_q1_numberAt := F150_q1_numberAt.other W153 (Or.inl n_l.symm)
    have K153 := K150.wr W153 (Or.inl (List.mem_of_getElem? (i := 0) rfl))
    have A153 : Arv Z T153.heap bl kl .byte (266 : Int32) [.int u0, .int u1, .int u2, .int u3, .int u4, .int (nar .byte (dg 5 q2)), .int (nar .byte (dg 4 q2)), .int (nar .byte (dg 3 q2)), .int (nar .byte (dg 2 q2)), .int (nar .byte (dg 1 q2)), .int (nar .byte (dg 0 q2)), .int u11, .int u12] (.int 0) := A153v
    refine g_iloadN X153 hx hby d15_58 (pc' := 59) rfl rfl ?_
    refine g_bipush X153 hx hby d15_59 (pc' := 61) rfl (z := (10 : Int32)) rfl ?_
    refine g_idiv X153 hx hby d15_61 (pc' := 62) rfl (by decide) ?_
    refine g_istoreN X153 hx hby d15_62 (pc' := 63) rfl (l' := #[.val (.ref q1), .val (.int q2), .val (.int (11 : Int32)), .val (.int (dv 6 q2)), .val (.int (5 : Int32))]) rfl ?_
    refine g_iinc X153 hx hby d15_63 (pc' := 66) rfl rfl (l' := #[.val (.ref q1), .val (.int q2), .val (.int (11 : Int32)), .val (.int (dv 6 q2)), .val (.int (4 : Int32))]) rfl ?_
    refine g_goto X153 hx hby d15_66 (by decide) (pc' := 34) (by decide) ?_
    refine g_iload X153 hx hby d15_34 (pc' := 36) rfl rfl ?_
    refine g_aloadN X153 hx hby d15_36 (pc' := 37) rfl rfl rfl ?_
    refine g_get X153 hx hZ hown hby d15_37 (pc' := 40) rfl (w_87 hw) rfl F153_q1_numberAt ?_
    intro T154 X154 e154
    refine g_icmp_lt X154 hx hby d15_40 (by decide) (pc' := 69) (by decide) (pn := 43) rfl (fun z => absurd z (by decide)) (fun _ => ?_)
    refine g_aloadN X154 hx hby d15_43 (pc' := 44) rfl rfl rfl ?_
    refine g_get X154 hx hZ hown hby d15_44 (pc' := 47) rfl (w_38 hw) e154 F153_q1_label ?_
    intro T155 X155 e155
    refine g_iload X155 hx hby d15_47 (pc' := 49) rfl rfl ?_
    refine g_bipush X155 hx hby d15_49 (pc' := 51) rfl (z := (48 : Int32)) rfl ?_
    refine g_iloadN X155 hx hby d15_51 (pc' := 52) rfl rfl ?_
    refine g_bipush X155 hx hby d15_52 (pc' := 54) rfl (z := (10 : Int32)) rfl ?_
    refine g_irem X155 hx hby d15_54 (pc' := 55) rfl (by decide) ?_
    refine g_iadd X155 hx hby d15_55 (pc' := 56) rfl ?_
    refine g_i2b X155 hx hby d15_56 (pc' := 57) rfl ?_
    refine g_bastore X155 hx hZ 4 hby d15_57 (pc' := 58) rfl e155 A153 (by decide) (by decide) (by first | decide | simp) ?_
    intro T156 X156 W156 A156v
    have N156 := Fr.snoc X156 N153 g_l
    have E156_q1 := E153_q1.wr W156
    have F156_q1_label := F153_q1_label.other W156 (Or.inl n_l.symm)
    have F156_q1_numberAt := F153_q1_numberAt.other W156 (Or.inl n_l.symm)
    have K156 := K153.wr W156 (Or.inl (List.mem_of_getElem? (i := 0) rfl))
    have A156 : Arv Z T156.heap bl kl .byte (266 : Int32) [.int u0, .int u1, .int u2, .int u3, .int (nar .byte (dg 6 q2)), .int (nar .byte (dg 5 q2)), .int (nar .byte (dg 4 q2)), .int (nar .byte (dg 3 q2)), .int (nar .byte (dg 2 q2)), .int (nar .byte (dg 1 q2)), .int (nar .byte (dg 0 q2)), .int u11, .int u12] (.int 0) := A156v
    refine g_iloadN X156 hx hby d15_58 (pc' := 59) rfl rfl ?_
    refine g_bipush X156 hx hby d15_59 (pc' := 61) rfl (z := (10 : Int32)) rfl ?_
    refine g_idiv X156 hx hby d15_61 (pc' := 62) rfl (by decide) ?_
    refine g_istoreN X156 hx hby d15_62 (pc' := 63) rfl (l' := #[.val (.ref q1), .val (.int q2), .val (.int (11 : Int32)), .val (.int (dv 7 q2)), .val (.int (4 : Int32))]) rfl ?_
    refine g_iinc X156 hx hby d15_63 (pc' := 66) rfl rfl (l' := #[.val (.ref q1), .val (.int q2), .val (.int (11 : Int32)), .val (.int (dv 7 q2)), .val (.int (3 : Int32))]) rfl ?_
    refine g_goto X156 hx hby d15_66 (by decide) (pc' := 34) (by decide) ?_
    refine g_iload X156 hx hby d15_34 (pc' := 36) rfl rfl ?_
    refine g_aloadN X156 hx hby d15_36 (pc' := 37) rfl rfl rfl ?_
    refine g_get X156 hx hZ hown hby d15_37 (pc' := 40) rfl (w_87 hw) rfl F156_q1_numberAt ?_
    intro T157 X157 e157
    refine g_icmp_lt X157 hx hby d15_40 (by decide) (pc' := 69) (by decide) (pn := 43) rfl (fun z => absurd z (by decide)) (fun _ => ?_)
    refine g_aloadN X157 hx hby d15_43 (pc' := 44) rfl rfl rfl ?_
    refine g_get X157 hx hZ hown hby d15_44 (pc' := 47) rfl (w_38 hw) e157 F156_q1_label ?_
    intro T158 X158 e158
    refine g_iload X158 hx hby d15_47 (pc' := 49) rfl rfl ?_
    refine g_bipush X158 hx hby d15_49 (pc' := 51) rfl (z := (48 : Int32)) rfl ?_
    refine g_iloadN X158 hx hby d15_51 (pc' := 52) rfl rfl ?_
    refine g_bipush X158 hx hby d15_52 (pc' := 54) rfl (z := (10 : Int32)) rfl ?_
    refine g_irem X158 hx hby d15_54 (pc' := 55) rfl (by decide) ?_
    refine g_iadd X158 hx hby d15_55 (pc' := 56) rfl ?_
    refine g_i2b X158 hx hby d15_56 (pc' := 57) rfl ?_
    refine g_bastore X158 hx hZ 3 hby d15_57 (pc' := 58) rfl e158 A156 (by decide) (by decide) (by first | decide | simp) ?_
    intro T159 X159 W159 A159v
    have N159 := Fr.snoc X159 N156 g_l
    have E159_q1 := E156_q1.wr W159
    have F159_q1_label := F156_q1_label.other W159 (Or.inl n_l.symm)
    have F159_q1_numberAt := F156_q1_numberAt.other W159 (Or.inl n_l.symm)
    have K159 := K156.wr W159 (Or.inl (List.mem_of_getElem? (i := 0) rfl))
    have A159 : Arv Z T159.heap bl kl .byte (266 : Int32) [.int u0, .int u1, .int u2, .int (nar .byte (dg 7 q2)), .int (nar .byte (dg 6 q2)), .int (nar .byte (dg 5 q2)), .int (nar .byte (dg 4 q2)), .int (nar .byte (dg 3 q2)), .int (nar .byte (dg 2 q2)), .int (nar .byte (dg 1 q2)), .int (nar .byte (dg 0 q2)), .int u11, .int u12] (.int 0) := A159v
    refine g_iloadN X159 hx hby d15_58 (pc' := 59) rfl rfl ?_
    refine g_bipush X159 hx hby d15_59 (pc' := 61) rfl (z := (10 : Int32)) rfl ?_
    refine g_idiv X159 hx hby d15_61 (pc' := 62) rfl (by decide) ?_
    refine g_istoreN X159 hx hby d15_62 (pc' := 63) rfl (l' := #[.val (.ref q1), .val (.int q2), .val (.int (11 : Int32)), .val (.int (dv 8 q2)), .val (.int (3 : Int32))]) rfl ?_
    refine g_iinc X159 hx hby d15_63 (pc' := 66) rfl rfl (l' := #[.val (.ref q1), .val (.int q2), .val (.int (11 : Int32)), .val (.int (dv 8 q2)), .val (.int (2 : Int32))]) rfl ?_
    refine g_goto X159 hx hby d15_66 (by decide) (pc' := 34) (by decide) ?_
    refine g_iload X159 hx hby d15_34 (pc' := 36) rfl rfl ?_
    refine g_aloadN X159 hx hby d15_36 (pc' := 37) rfl rfl rfl ?_
    refine g_get X159 hx hZ hown hby d15_37 (pc' := 40) rfl (w_87 hw) rfl F159_q1_numberAt ?_
    intro T160 X160 e160
    refine g_icmp_lt X160 hx hby d15_40 (by decide) (pc' := 69) (by decide) (pn := 43) rfl (fun _ => ?_) (fun z => absurd z (by decide))
    refine g_iloadN X160 hx hby d15_69 (pc' := 70) rfl rfl ?_
    exact g_retI (Q := (fun v h L => ∃ (t0 t1 t2 t3 t4 t5 t6 t7 t8 t9 : Int32), v = some (.int ((3 : Int32) + (digV q2))) ∧ Fr n0 L ∧ Keep h0 h [bl] ∧ Arv Z h bl kl .byte (266 : Int32) [.int u0, .int u1, .int u2, .int t0, .int t1, .int t2, .int t3, .int t4, .int t5, .int t6, .int t7, .int t8, .int t9] (.int 0) ∧ DIGS 2 q2 [.int u0, .int u1, .int u2, .int t0, .int t1, .int t2, .int t3, .int t4, .int t5, .int t6, .int t7, .int t8, .int t9])) X160 hx hby d15_70 hret hlk (by decide) (by decide) (by rw [e160]; exact ⟨(nar .byte (dg 7 q2)), (nar .byte (dg 6 q2)), (nar .byte (dg 5 q2)), (nar .byte (dg 4 q2)), (nar .byte (dg 3 q2)), (nar .byte (dg 2 q2)), (nar .byte (dg 1 q2)), (nar .byte (dg 0 q2)), u11, u12, congrArg (fun z : Int32 => some (Value.int z)) (by rw [own_dig hd8 (by decide) (by decide)]; rfl), N159, K159, A159, own_digs hd8 (by decide) (by decide) (fun i hi => match i, hi with | 0, _ => rfl | 1, _ => rfl | 2, _ => rfl | 3, _ => rfl | 4, _ => rfl | 5, _ => rfl | 6, _ => rfl | 7, _ => rfl | (k + 8), h => absurd h (by omega))⟩)
  · refine g_aloadN X0 hx hby d15_0 (pc' := 1) rfl rfl rfl ?_
    refine g_get X0 hx hZ hown hby d15_1 (pc' := 4) rfl (w_87 hw) e0 F2 ?_
    intro T161 X161 e161
    refine g_iconst X161 hx hby d15_4 (pc' := 5) rfl (z := (1 : Int32)) rfl ?_
    refine g_iadd X161 hx hby d15_5 (pc' := 6) rfl ?_
    refine g_eqI (b := (4 : Int32)) (by decide +kernel) ?_
    refine g_istoreN X161 hx hby d15_6 (pc' := 7) rfl (l' := #[.val (.ref q1), .val (.int q2), .val (.int (4 : Int32)), .unset, .unset]) rfl ?_
    refine g_iloadN X161 hx hby d15_7 (pc' := 8) rfl rfl ?_
    refine g_bipush X161 hx hby d15_8 (pc' := 10) rfl (z := (10 : Int32)) rfl ?_
    refine g_idiv X161 hx hby d15_10 (pc' := 11) rfl (by decide) ?_
    refine g_istoreN X161 hx hby d15_11 (pc' := 12) rfl (l' := #[.val (.ref q1), .val (.int q2), .val (.int (4 : Int32)), .val (.int (dv 1 q2)), .unset]) rfl ?_
    refine g_iloadN X161 hx hby d15_12 (pc' := 13) rfl rfl ?_
    refine g_if_le X161 hx hby d15_13 (by decide) (pc' := 27) (by decide) (pn := 16) rfl (fun z => absurd z (fun z => z (own_yes 1 hd9 (by decide) (by decide)))) (fun hc13_162 => ?_)
    refine g_iinc X161 hx hby d15_16 (pc' := 19) rfl rfl (l' := #[.val (.ref q1), .val (.int q2), .val (.int (5 : Int32)), .val (.int (dv 1 q2)), .unset]) rfl ?_
    refine g_iloadN X161 hx hby d15_19 (pc' := 20) rfl rfl ?_
    refine g_bipush X161 hx hby d15_20 (pc' := 22) rfl (z := (10 : Int32)) rfl ?_
    refine g_idiv X161 hx hby d15_22 (pc' := 23) rfl (by decide) ?_
    refine g_istoreN X161 hx hby d15_23 (pc' := 24) rfl (l' := #[.val (.ref q1), .val (.int q2), .val (.int (5 : Int32)), .val (.int (dv 2 q2)), .unset]) rfl ?_
    refine g_goto X161 hx hby d15_24 (by decide) (pc' := 12) (by decide) ?_
    refine g_iloadN X161 hx hby d15_12 (pc' := 13) rfl rfl ?_
    refine g_if_le X161 hx hby d15_13 (by decide) (pc' := 27) (by decide) (pn := 16) rfl (fun z => absurd z (fun z => z (own_yes 2 hd9 (by decide) (by decide)))) (fun hc13_163 => ?_)
    refine g_iinc X161 hx hby d15_16 (pc' := 19) rfl rfl (l' := #[.val (.ref q1), .val (.int q2), .val (.int (6 : Int32)), .val (.int (dv 2 q2)), .unset]) rfl ?_
    refine g_iloadN X161 hx hby d15_19 (pc' := 20) rfl rfl ?_
    refine g_bipush X161 hx hby d15_20 (pc' := 22) rfl (z := (10 : Int32)) rfl ?_
    refine g_idiv X161 hx hby d15_22 (pc' := 23) rfl (by decide) ?_
    refine g_istoreN X161 hx hby d15_23 (pc' := 24) rfl (l' := #[.val (.ref q1), .val (.int q2), .val (.int (6 : Int32)), .val (.int (dv 3 q2)), .unset]) rfl ?_
    refine g_goto X161 hx hby d15_24 (by decide) (pc' := 12) (by decide) ?_
    refine g_iloadN X161 hx hby d15_12 (pc' := 13) rfl rfl ?_
    refine g_if_le X161 hx hby d15_13 (by decide) (pc' := 27) (by decide) (pn := 16) rfl (fun z => absurd z (fun z => z (own_yes 3 hd9 (by decide) (by decide)))) (fun hc13_164 => ?_)
    refine g_iinc X161 hx hby d15_16 (pc' := 19) rfl rfl (l' := #[.val (.ref q1), .val (.int q2), .val (.int (7 : Int32)), .val (.int (dv 3 q2)), .unset]) rfl ?_
    refine g_iloadN X161 hx hby d15_19 (pc' := 20) rfl rfl ?_
    refine g_bipush X161 hx hby d15_20 (pc' := 22) rfl (z := (10 : Int32)) rfl ?_
    refine g_idiv X161 hx hby d15_22 (pc' := 23) rfl (by decide) ?_
    refine g_istoreN X161 hx hby d15_23 (pc' := 24) rfl (l' := #[.val (.ref q1), .val (.int q2), .val (.int (7 : Int32)), .val (.int (dv 4 q2)), .unset]) rfl ?_
    refine g_goto X161 hx hby d15_24 (by decide) (pc' := 12) (by decide) ?_
    refine g_iloadN X161 hx hby d15_12 (pc' := 13) rfl rfl ?_
    refine g_if_le X161 hx hby d15_13 (by decide) (pc' := 27) (by decide) (pn := 16) rfl (fun z => absurd z (fun z => z (own_yes 4 hd9 (by decide) (by decide)))) (fun hc13_165 => ?_)
    refine g_iinc X161 hx hby d15_16 (pc' := 19) rfl rfl (l' := #[.val (.ref q1), .val (.int q2), .val (.int (8 : Int32)), .val (.int (dv 4 q2)), .unset]) rfl ?_
    refine g_iloadN X161 hx hby d15_19 (pc' := 20) rfl rfl ?_
    refine g_bipush X161 hx hby d15_20 (pc' := 22) rfl (z := (10 : Int32)) rfl ?_
    refine g_idiv X161 hx hby d15_22 (pc' := 23) rfl (by decide) ?_
    refine g_istoreN X161 hx hby d15_23 (pc' := 24) rfl (l' := #[.val (.ref q1), .val (.int q2), .val (.int (8 : Int32)), .val (.int (dv 5 q2)), .unset]) rfl ?_
    refine g_goto X161 hx hby d15_24 (by decide) (pc' := 12) (by decide) ?_
    refine g_iloadN X161 hx hby d15_12 (pc' := 13) rfl rfl ?_
    refine g_if_le X161 hx hby d15_13 (by decide) (pc' := 27) (by decide) (pn := 16) rfl (fun z => absurd z (fun z => z (own_yes 5 hd9 (by decide) (by decide)))) (fun hc13_166 => ?_)
    refine g_iinc X161 hx hby d15_16 (pc' := 19) rfl rfl (l' := #[.val (.ref q1), .val (.int q2), .val (.int (9 : Int32)), .val (.int (dv 5 q2)), .unset]) rfl ?_
    refine g_iloadN X161 hx hby d15_19 (pc' := 20) rfl rfl ?_
    refine g_bipush X161 hx hby d15_20 (pc' := 22) rfl (z := (10 : Int32)) rfl ?_
    refine g_idiv X161 hx hby d15_22 (pc' := 23) rfl (by decide) ?_
    refine g_istoreN X161 hx hby d15_23 (pc' := 24) rfl (l' := #[.val (.ref q1), .val (.int q2), .val (.int (9 : Int32)), .val (.int (dv 6 q2)), .unset]) rfl ?_
    refine g_goto X161 hx hby d15_24 (by decide) (pc' := 12) (by decide) ?_
    refine g_iloadN X161 hx hby d15_12 (pc' := 13) rfl rfl ?_
    refine g_if_le X161 hx hby d15_13 (by decide) (pc' := 27) (by decide) (pn := 16) rfl (fun z => absurd z (fun z => z (own_yes 6 hd9 (by decide) (by decide)))) (fun hc13_167 => ?_)
    refine g_iinc X161 hx hby d15_16 (pc' := 19) rfl rfl (l' := #[.val (.ref q1), .val (.int q2), .val (.int (10 : Int32)), .val (.int (dv 6 q2)), .unset]) rfl ?_
    refine g_iloadN X161 hx hby d15_19 (pc' := 20) rfl rfl ?_
    refine g_bipush X161 hx hby d15_20 (pc' := 22) rfl (z := (10 : Int32)) rfl ?_
    refine g_idiv X161 hx hby d15_22 (pc' := 23) rfl (by decide) ?_
    refine g_istoreN X161 hx hby d15_23 (pc' := 24) rfl (l' := #[.val (.ref q1), .val (.int q2), .val (.int (10 : Int32)), .val (.int (dv 7 q2)), .unset]) rfl ?_
    refine g_goto X161 hx hby d15_24 (by decide) (pc' := 12) (by decide) ?_
    refine g_iloadN X161 hx hby d15_12 (pc' := 13) rfl rfl ?_
    refine g_if_le X161 hx hby d15_13 (by decide) (pc' := 27) (by decide) (pn := 16) rfl (fun z => absurd z (fun z => z (own_yes 7 hd9 (by decide) (by decide)))) (fun hc13_168 => ?_)
    refine g_iinc X161 hx hby d15_16 (pc' := 19) rfl rfl (l' := #[.val (.ref q1), .val (.int q2), .val (.int (11 : Int32)), .val (.int (dv 7 q2)), .unset]) rfl ?_
    refine g_iloadN X161 hx hby d15_19 (pc' := 20) rfl rfl ?_
    refine g_bipush X161 hx hby d15_20 (pc' := 22) rfl (z := (10 : Int32)) rfl ?_
    refine g_idiv X161 hx hby d15_22 (pc' := 23) rfl (by decide) ?_
    refine g_istoreN X161 hx hby d15_23 (pc' := 24) rfl (l' := #[.val (.ref q1), .val (.int q2), .val (.int (11 : Int32)), .val (.int (dv 8 q2)), .unset]) rfl ?_
    refine g_goto X161 hx hby d15_24 (by decide) (pc' := 12) (by decide) ?_
    refine g_iloadN X161 hx hby d15_12 (pc' := 13) rfl rfl ?_
    refine g_if_le X161 hx hby d15_13 (by decide) (pc' := 27) (by decide) (pn := 16) rfl (fun z => absurd z (fun z => z (own_yes 8 hd9 (by decide) (by decide)))) (fun hc13_169 => ?_)
    refine g_iinc X161 hx hby d15_16 (pc' := 19) rfl rfl (l' := #[.val (.ref q1), .val (.int q2), .val (.int (12 : Int32)), .val (.int (dv 8 q2)), .unset]) rfl ?_
    refine g_iloadN X161 hx hby d15_19 (pc' := 20) rfl rfl ?_
    refine g_bipush X161 hx hby d15_20 (pc' := 22) rfl (z := (10 : Int32)) rfl ?_
    refine g_idiv X161 hx hby d15_22 (pc' := 23) rfl (by decide) ?_
    refine g_istoreN X161 hx hby d15_23 (pc' := 24) rfl (l' := #[.val (.ref q1), .val (.int q2), .val (.int (12 : Int32)), .val (.int (dv 9 q2)), .unset]) rfl ?_
    refine g_goto X161 hx hby d15_24 (by decide) (pc' := 12) (by decide) ?_
    refine g_iloadN X161 hx hby d15_12 (pc' := 13) rfl rfl ?_
    refine g_if_le X161 hx hby d15_13 (by decide) (pc' := 27) (by decide) (pn := 16) rfl (fun hc13_170 => ?_) (fun z => absurd z (own_no hd9))
    refine g_iloadN X161 hx hby d15_27 (pc' := 28) rfl rfl ?_
    refine g_istoreN X161 hx hby d15_28 (pc' := 29) rfl (l' := #[.val (.ref q1), .val (.int q2), .val (.int (12 : Int32)), .val (.int (dv 0 q2)), .unset]) rfl ?_
    refine g_iloadN X161 hx hby d15_29 (pc' := 30) rfl rfl ?_
    refine g_iconst X161 hx hby d15_30 (pc' := 31) rfl (z := (1 : Int32)) rfl ?_
    refine g_isub X161 hx hby d15_31 (pc' := 32) rfl ?_
    refine g_eqI (b := (11 : Int32)) (by decide +kernel) ?_
    refine g_istore X161 hx hby d15_32 (pc' := 34) rfl (l' := #[.val (.ref q1), .val (.int q2), .val (.int (12 : Int32)), .val (.int (dv 0 q2)), .val (.int (11 : Int32))]) rfl ?_
    refine g_iload X161 hx hby d15_34 (pc' := 36) rfl rfl ?_
    refine g_aloadN X161 hx hby d15_36 (pc' := 37) rfl rfl rfl ?_
    refine g_get X161 hx hZ hown hby d15_37 (pc' := 40) rfl (w_87 hw) e161 F2 ?_
    intro T171 X171 e171
    refine g_icmp_lt X171 hx hby d15_40 (by decide) (pc' := 69) (by decide) (pn := 43) rfl (fun z => absurd z (by decide)) (fun _ => ?_)
    refine g_aloadN X171 hx hby d15_43 (pc' := 44) rfl rfl rfl ?_
    refine g_get X171 hx hZ hown hby d15_44 (pc' := 47) rfl (w_38 hw) e171 F1 ?_
    intro T172 X172 e172
    refine g_iload X172 hx hby d15_47 (pc' := 49) rfl rfl ?_
    refine g_bipush X172 hx hby d15_49 (pc' := 51) rfl (z := (48 : Int32)) rfl ?_
    refine g_iloadN X172 hx hby d15_51 (pc' := 52) rfl rfl ?_
    refine g_bipush X172 hx hby d15_52 (pc' := 54) rfl (z := (10 : Int32)) rfl ?_
    refine g_irem X172 hx hby d15_54 (pc' := 55) rfl (by decide) ?_
    refine g_iadd X172 hx hby d15_55 (pc' := 56) rfl ?_
    refine g_i2b X172 hx hby d15_56 (pc' := 57) rfl ?_
    refine g_bastore X172 hx hZ 11 hby d15_57 (pc' := 58) rfl e172 A_l (by decide) (by decide) (by first | decide | simp) ?_
    intro T173 X173 W173 A173v
    have N173 := Fr.snoc X173 N0 g_l
    have E173_q1 := E_a.wr W173
    have F173_q1_label := F1.other W173 (Or.inl n_l.symm)
    have F173_q1_numberAt := F2.other W173 (Or.inl n_l.symm)
    have K173 := (Keep.refl h0 [bl]).wr W173 (Or.inl (List.mem_of_getElem? (i := 0) rfl))
    have A173 : Arv Z T173.heap bl kl .byte (266 : Int32) [.int u0, .int u1, .int u2, .int u3, .int u4, .int u5, .int u6, .int u7, .int u8, .int u9, .int u10, .int (nar .byte (dg 0 q2)), .int u12] (.int 0) := A173v
    refine g_iloadN X173 hx hby d15_58 (pc' := 59) rfl rfl ?_
    refine g_bipush X173 hx hby d15_59 (pc' := 61) rfl (z := (10 : Int32)) rfl ?_
    refine g_idiv X173 hx hby d15_61 (pc' := 62) rfl (by decide) ?_
    refine g_istoreN X173 hx hby d15_62 (pc' := 63) rfl (l' := #[.val (.ref q1), .val (.int q2), .val (.int (12 : Int32)), .val (.int (dv 1 q2)), .val (.int (11 : Int32))]) rfl ?_
    refine g_iinc X173 hx hby d15_63 (pc' := 66) rfl rfl (l' := #[.val (.ref q1), .val (.int q2), .val (.int (12 : Int32)), .val (.int (dv 1 q2)), .val (.int (10 : Int32))]) rfl ?_
    refine g_goto X173 hx hby d15_66 (by decide) (pc' := 34) (by decide) ?_
    refine g_iload X173 hx hby d15_34 (pc' := 36) rfl rfl ?_
    refine g_aloadN X173 hx hby d15_36 (pc' := 37) rfl rfl rfl ?_
    refine g_get X173 hx hZ hown hby d15_37 (pc' := 40) rfl (w_87 hw) rfl F173_q1_numberAt ?_
    intro T174 X174 e174
    refine g_icmp_lt X174 hx hby d15_40 (by decide) (pc' := 69) (by decide) (pn := 43) rfl (fun z => absurd z (by decide)) (fun _ => ?_)
    refine g_aloadN X174 hx hby d15_43 (pc' := 44) rfl rfl rfl ?_
    refine g_get X174 hx hZ hown hby d15_44 (pc' := 47) rfl (w_38 hw) e174 F173_q1_label ?_
    intro T175 X175 e175
    refine g_iload X175 hx hby d15_47 (pc' := 49) rfl rfl ?_
    refine g_bipush X175 hx hby d15_49 (pc' := 51) rfl (z := (48 : Int32)) rfl ?_
    refine g_iloadN X175 hx hby d15_51 (pc' := 52) rfl rfl ?_
    refine g_bipush X175 hx hby d15_52 (pc' := 54) rfl (z := (10 : Int32)) rfl ?_
    refine g_irem X175 hx hby d15_54 (pc' := 55) rfl (by decide) ?_
    refine g_iadd X175 hx hby d15_55 (pc' := 56) rfl ?_
    refine g_i2b X175 hx hby d15_56 (pc' := 57) rfl ?_
    refine g_bastore X175 hx hZ 10 hby d15_57 (pc' := 58) rfl e175 A173 (by decide) (by decide) (by first | decide | simp) ?_
    intro T176 X176 W176 A176v
    have N176 := Fr.snoc X176 N173 g_l
    have E176_q1 := E173_q1.wr W176
    have F176_q1_label := F173_q1_label.other W176 (Or.inl n_l.symm)
    have F176_q1_numberAt := F173_q1_numberAt.other W176 (Or.inl n_l.symm)
    have K176 := K173.wr W176 (Or.inl (List.mem_of_getElem? (i := 0) rfl))
    have A176 : Arv Z T176.heap bl kl .byte (266 : Int32) [.int u0, .int u1, .int u2, .int u3, .int u4, .int u5, .int u6, .int u7, .int u8, .int u9, .int (nar .byte (dg 1 q2)), .int (nar .byte (dg 0 q2)), .int u12] (.int 0) := A176v
    refine g_iloadN X176 hx hby d15_58 (pc' := 59) rfl rfl ?_
    refine g_bipush X176 hx hby d15_59 (pc' := 61) rfl (z := (10 : Int32)) rfl ?_
    refine g_idiv X176 hx hby d15_61 (pc' := 62) rfl (by decide) ?_
    refine g_istoreN X176 hx hby d15_62 (pc' := 63) rfl (l' := #[.val (.ref q1), .val (.int q2), .val (.int (12 : Int32)), .val (.int (dv 2 q2)), .val (.int (10 : Int32))]) rfl ?_
    refine g_iinc X176 hx hby d15_63 (pc' := 66) rfl rfl (l' := #[.val (.ref q1), .val (.int q2), .val (.int (12 : Int32)), .val (.int (dv 2 q2)), .val (.int (9 : Int32))]) rfl ?_
    refine g_goto X176 hx hby d15_66 (by decide) (pc' := 34) (by decide) ?_
    refine g_iload X176 hx hby d15_34 (pc' := 36) rfl rfl ?_
    refine g_aloadN X176 hx hby d15_36 (pc' := 37) rfl rfl rfl ?_
    refine g_get X176 hx hZ hown hby d15_37 (pc' := 40) rfl (w_87 hw) rfl F176_q1_numberAt ?_
    intro T177 X177 e177
    refine g_icmp_lt X177 hx hby d15_40 (by decide) (pc' := 69) (by decide) (pn := 43) rfl (fun z => absurd z (by decide)) (fun _ => ?_)
    refine g_aloadN X177 hx hby d15_43 (pc' := 44) rfl rfl rfl ?_
    refine g_get X177 hx hZ hown hby d15_44 (pc' := 47) rfl (w_38 hw) e177 F176_q1_label ?_
    intro T178 X178 e178
    refine g_iload X178 hx hby d15_47 (pc' := 49) rfl rfl ?_
    refine g_bipush X178 hx hby d15_49 (pc' := 51) rfl (z := (48 : Int32)) rfl ?_
    refine g_iloadN X178 hx hby d15_51 (pc' := 52) rfl rfl ?_
    refine g_bipush X178 hx hby d15_52 (pc' := 54) rfl (z := (10 : Int32)) rfl ?_
    refine g_irem X178 hx hby d15_54 (pc' := 55) rfl (by decide) ?_
    refine g_iadd X178 hx hby d15_55 (pc' := 56) rfl ?_
    refine g_i2b X178 hx hby d15_56 (pc' := 57) rfl ?_
    refine g_bastore X178 hx hZ 9 hby d15_57 (pc' := 58) rfl e178 A176 (by decide) (by decide) (by first | decide | simp) ?_
    intro T179 X179 W179 A179v
    have N179 := Fr.snoc X179 N176 g_l
    have E179_q1 := E176_q1.wr W179
    have F179_q1_label := F176_q1_label.other W179 (Or.inl n_l.symm)
    have F179_q1_numberAt := F176_q1_numberAt.other W179 (Or.inl n_l.symm)
    have K179 := K176.wr W179 (Or.inl (List.mem_of_getElem? (i := 0) rfl))
    have A179 : Arv Z T179.heap bl kl .byte (266 : Int32) [.int u0, .int u1, .int u2, .int u3, .int u4, .int u5, .int u6, .int u7, .int u8, .int (nar .byte (dg 2 q2)), .int (nar .byte (dg 1 q2)), .int (nar .byte (dg 0 q2)), .int u12] (.int 0) := A179v
    refine g_iloadN X179 hx hby d15_58 (pc' := 59) rfl rfl ?_
    refine g_bipush X179 hx hby d15_59 (pc' := 61) rfl (z := (10 : Int32)) rfl ?_
    refine g_idiv X179 hx hby d15_61 (pc' := 62) rfl (by decide) ?_
    refine g_istoreN X179 hx hby d15_62 (pc' := 63) rfl (l' := #[.val (.ref q1), .val (.int q2), .val (.int (12 : Int32)), .val (.int (dv 3 q2)), .val (.int (9 : Int32))]) rfl ?_
    refine g_iinc X179 hx hby d15_63 (pc' := 66) rfl rfl (l' := #[.val (.ref q1), .val (.int q2), .val (.int (12 : Int32)), .val (.int (dv 3 q2)), .val (.int (8 : Int32))]) rfl ?_
    refine g_goto X179 hx hby d15_66 (by decide) (pc' := 34) (by decide) ?_
    refine g_iload X179 hx hby d15_34 (pc' := 36) rfl rfl ?_
    refine g_aloadN X179 hx hby d15_36 (pc' := 37) rfl rfl rfl ?_
    refine g_get X179 hx hZ hown hby d15_37 (pc' := 40) rfl (w_87 hw) rfl F179_q1_numberAt ?_
    intro T180 X180 e180
    refine g_icmp_lt X180 hx hby d15_40 (by decide) (pc' := 69) (by decide) (pn := 43) rfl (fun z => absurd z (by decide)) (fun _ => ?_)
    refine g_aloadN X180 hx hby d15_43 (pc' := 44) rfl rfl rfl ?_
    refine g_get X180 hx hZ hown hby d15_44 (pc' := 47) rfl (w_38 hw) e180 F179_q1_label ?_
    intro T181 X181 e181
    refine g_iload X181 hx hby d15_47 (pc' := 49) rfl rfl ?_
    refine g_bipush X181 hx hby d15_49 (pc' := 51) rfl (z := (48 : Int32)) rfl ?_
    refine g_iloadN X181 hx hby d15_51 (pc' := 52) rfl rfl ?_
    refine g_bipush X181 hx hby d15_52 (pc' := 54) rfl (z := (10 : Int32)) rfl ?_
    refine g_irem X181 hx hby d15_54 (pc' := 55) rfl (by decide) ?_
    refine g_iadd X181 hx hby d15_55 (pc' := 56) rfl ?_
    refine g_i2b X181 hx hby d15_56 (pc' := 57) rfl ?_
    refine g_bastore X181 hx hZ 8 hby d15_57 (pc' := 58) rfl e181 A179 (by decide) (by decide) (by first | decide | simp) ?_
    intro T182 X182 W182 A182v
    have N182 := Fr.snoc X182 N179 g_l
    have E182_q1 := E179_q1.wr W182
    have F182_q1_label := F179_q1_label.other W182 (Or.inl n_l.symm)
    have F182_q1_numberAt := F179_q1_numberAt.other W182 (Or.inl n_l.symm)
    have K182 := K179.wr W182 (Or.inl (List.mem_of_getElem? (i := 0) rfl))
    have A182 : Arv Z T182.heap bl kl .byte (266 : Int32) [.int u0, .int u1, .int u2, .int u3, .int u4, .int u5, .int u6, .int u7, .int (nar .byte (dg 3 q2)), .int (nar .byte (dg 2 q2)), .int (nar .byte (dg 1 q2)), .int (nar .byte (dg 0 q2)), .int u12] (.int 0) := A182v
    refine g_iloadN X182 hx hby d15_58 (pc' := 59) rfl rfl ?_
    refine g_bipush X182 hx hby d15_59 (pc' := 61) rfl (z := (10 : Int32)) rfl ?_
    refine g_idiv X182 hx hby d15_61 (pc' := 62) rfl (by decide) ?_
    refine g_istoreN X182 hx hby d15_62 (pc' := 63) rfl (l' := #[.val (.ref q1), .val (.int q2), .val (.int (12 : Int32)), .val (.int (dv 4 q2)), .val (.int (8 : Int32))]) rfl ?_
    refine g_iinc X182 hx hby d15_63 (pc' := 66) rfl rfl (l' := #[.val (.ref q1), .val (.int q2), .val (.int (12 : Int32)), .val (.int (dv 4 q2)), .val (.int (7 : Int32))]) rfl ?_
    refine g_goto X182 hx hby d15_66 (by decide) (pc' := 34) (by decide) ?_
    refine g_iload X182 hx hby d15_34 (pc' := 36) rfl rfl ?_
    refine g_aloadN X182 hx hby d15_36 (pc' := 37) rfl rfl rfl ?_
    refine g_get X182 hx hZ hown hby d15_37 (pc' := 40) rfl (w_87 hw) rfl F182_q1_numberAt ?_
    intro T183 X183 e183
    refine g_icmp_lt X183 hx hby d15_40 (by decide) (pc' := 69) (by decide) (pn := 43) rfl (fun z => absurd z (by decide)) (fun _ => ?_)
    refine g_aloadN X183 hx hby d15_43 (pc' := 44) rfl rfl rfl ?_
    refine g_get X183 hx hZ hown hby d15_44 (pc' := 47) rfl (w_38 hw) e183 F182_q1_label ?_
    intro T184 X184 e184
    refine g_iload X184 hx hby d15_47 (pc' := 49) rfl rfl ?_
    refine g_bipush X184 hx hby d15_49 (pc' := 51) rfl (z := (48 : Int32)) rfl ?_
    refine g_iloadN X184 hx hby d15_51 (pc' := 52) rfl rfl ?_
    refine g_bipush X184 hx hby d15_52 (pc' := 54) rfl (z := (10 : Int32)) rfl ?_
    refine g_irem X184 hx hby d15_54 (pc' := 55) rfl (by decide) ?_
    refine g_iadd X184 hx hby d15_55 (pc' := 56) rfl ?_
    refine g_i2b X184 hx hby d15_56 (pc' := 57) rfl ?_
    refine g_bastore X184 hx hZ 7 hby d15_57 (pc' := 58) rfl e184 A182 (by decide) (by decide) (by first | decide | simp) ?_
    intro T185 X185 W185 A185v
    have N185 := Fr.snoc X185 N182 g_l
    have E185_q1 := E182_q1.wr W185
    have F185_q1_label := F182_q1_label.other W185 (Or.inl n_l.symm)
    have F185_q1_numberAt := F182_q1_numberAt.other W185 (Or.inl n_l.symm)
    have K185 := K182.wr W185 (Or.inl (List.mem_of_getElem? (i := 0) rfl))
    have A185 : Arv Z T185.heap bl kl .byte (266 : Int32) [.int u0, .int u1, .int u2, .int u3, .int u4, .int u5, .int u6, .int (nar .byte (dg 4 q2)), .int (nar .byte (dg 3 q2)), .int (nar .byte (dg 2 q2)), .int (nar .byte (dg 1 q2)), .int (nar .byte (dg 0 q2)), .int u12] (.int 0) := A185v
    refine g_iloadN X185 hx hby d15_58 (pc' := 59) rfl rfl ?_
    refine g_bipush X185 hx hby d15_59 (pc' := 61) rfl (z := (10 : Int32)) rfl ?_
    refine g_idiv X185 hx hby d15_61 (pc' := 62) rfl (by decide) ?_
    refine g_istoreN X185 hx hby d15_62 (pc' := 63) rfl (l' := #[.val (.ref q1), .val (.int q2), .val (.int (12 : Int32)), .val (.int (dv 5 q2)), .val (.int (7 : Int32))]) rfl ?_
    refine g_iinc X185 hx hby d15_63 (pc' := 66) rfl rfl (l' := #[.val (.ref q1), .val (.int q2), .val (.int (12 : Int32)), .val (.int (dv 5 q2)), .val (.int (6 : Int32))]) rfl ?_
    refine g_goto X185 hx hby d15_66 (by decide) (pc' := 34) (by decide) ?_
    refine g_iload X185 hx hby d15_34 (pc' := 36) rfl rfl ?_
    refine g_aloadN X185 hx hby d15_36 (pc' := 37) rfl rfl rfl ?_
    refine g_get X185 hx hZ hown hby d15_37 (pc' := 40) rfl (w_87 hw) rfl F185_q1_numberAt ?_
    intro T186 X186 e186
    refine g_icmp_lt X186 hx hby d15_40 (by decide) (pc' := 69) (by decide) (pn := 43) rfl (fun z => absurd z (by decide)) (fun _ => ?_)
    refine g_aloadN X186 hx hby d15_43 (pc' := 44) rfl rfl rfl ?_
    refine g_get X186 hx hZ hown hby d15_44 (pc' := 47) rfl (w_38 hw) e186 F185_q1_label ?_
    intro T187 X187 e187
    refine g_iload X187 hx hby d15_47 (pc' := 49) rfl rfl ?_
    refine g_bipush X187 hx hby d15_49 (pc' := 51) rfl (z := (48 : Int32)) rfl ?_
    refine g_iloadN X187 hx hby d15_51 (pc' := 52) rfl rfl ?_
    refine g_bipush X187 hx hby d15_52 (pc' := 54) rfl (z := (10 : Int32)) rfl ?_
    refine g_irem X187 hx hby d15_54 (pc' := 55) rfl (by decide) ?_
    refine g_iadd X187 hx hby d15_55 (pc' := 56) rfl ?_
    refine g_i2b X187 hx hby d15_56 (pc' := 57) rfl ?_
    refine g_bastore X187 hx hZ 6 hby d15_57 (pc' := 58) rfl e187 A185 (by decide) (by decide) (by first | decide | simp) ?_
    intro T188 X188 W188 A188v
    have N188 := Fr.snoc X188 N185 g_l
    have E188_q1 := E185_q1.wr W188
    have F188_q1_label := F185_q1_label.other W188 (Or.inl n_l.symm)
    have F188_q1_numberAt := F185_q1_numberAt.other W188 (Or.inl n_l.symm)
    have K188 := K185.wr W188 (Or.inl (List.mem_of_getElem? (i := 0) rfl))
    have A188 : Arv Z T188.heap bl kl .byte (266 : Int32) [.int u0, .int u1, .int u2, .int u3, .int u4, .int u5, .int (nar .byte (dg 5 q2)), .int (nar .byte (dg 4 q2)), .int (nar .byte (dg 3 q2)), .int (nar .byte (dg 2 q2)), .int (nar .byte (dg 1 q2)), .int (nar .byte (dg 0 q2)), .int u12] (.int 0) := A188v
    refine g_iloadN X188 hx hby d15_58 (pc' := 59) rfl rfl ?_
    refine g_bipush X188 hx hby d15_59 (pc' := 61) rfl (z := (10 : Int32)) rfl ?_
    refine g_idiv X188 hx hby d15_61 (pc' := 62) rfl (by decide) ?_
    refine g_istoreN X188 hx hby d15_62 (pc' := 63) rfl (l' := #[.val (.ref q1), .val (.int q2), .val (.int (12 : Int32)), .val (.int (dv 6 q2)), .val (.int (6 : Int32))]) rfl ?_
    refine g_iinc X188 hx hby d15_63 (pc' := 66) rfl rfl (l' := #[.val (.ref q1), .val (.int q2), .val (.int (12 : Int32)), .val (.int (dv 6 q2)), .val (.int (5 : Int32))]) rfl ?_
    refine g_goto X188 hx hby d15_66 (by decide) (pc' := 34) (by decide) ?_
    refine g_iload X188 hx hby d15_34 (pc' := 36) rfl rfl ?_
    refine g_aloadN X188 hx hby d15_36 (pc' := 37) rfl rfl rfl ?_
    refine g_get X188 hx hZ hown hby d15_37 (pc' := 40) rfl (w_87 hw) rfl F188_q1_numberAt ?_
    intro T189 X189 e189
    refine g_icmp_lt X189 hx hby d15_40 (by decide) (pc' := 69) (by decide) (pn := 43) rfl (fun z => absurd z (by decide)) (fun _ => ?_)
    refine g_aloadN X189 hx hby d15_43 (pc' := 44) rfl rfl rfl ?_
    refine g_get X189 hx hZ hown hby d15_44 (pc' := 47) rfl (w_38 hw) e189 F188_q1_label ?_
    intro T190 X190 e190
    refine g_iload X190 hx hby d15_47 (pc' := 49) rfl rfl ?_
    refine g_bipush X190 hx hby d15_49 (pc' := 51) rfl (z := (48 : Int32)) rfl ?_
    refine g_iloadN X190 hx hby d15_51 (pc' := 52) rfl rfl ?_
    refine g_bipush X190 hx hby d15_52 (pc' := 54) rfl (z := (10 : Int32)) rfl ?_
    refine g_irem X190 hx hby d15_54 (pc' := 55) rfl (by decide) ?_
    refine g_iadd X190 hx hby d15_55 (pc' := 56) rfl ?_
    refine g_i2b X190 hx hby d15_56 (pc' := 57) rfl ?_
    refine g_bastore X190 hx hZ 5 hby d15_57 (pc' := 58) rfl e190 A188 (by decide) (by decide) (by first | decide | simp) ?_
    intro T191 X191 W191 A191v
    have N191 := Fr.snoc X191 N188 g_l
    have E191_q1 := E188_q1.wr W191
    have F191_q1_label := F188_q1_label.other W191 (Or.inl n_l.symm)
    have F191_q1_numberAt := F188_q1_numberAt.other W191 (Or.inl n_l.symm)
    have K191 := K188.wr W191 (Or.inl (List.mem_of_getElem? (i := 0) rfl))
    have A191 : Arv Z T191.heap bl kl .byte (266 : Int32) [.int u0, .int u1, .int u2, .int u3, .int u4, .int (nar .byte (dg 6 q2)), .int (nar .byte (dg 5 q2)), .int (nar .byte (dg 4 q2)), .int (nar .byte (dg 3 q2)), .int (nar .byte (dg 2 q2)), .int (nar .byte (dg 1 q2)), .int (nar .byte (dg 0 q2)), .int u12] (.int 0) := A191v
    refine g_iloadN X191 hx hby d15_58 (pc' := 59) rfl rfl ?_
    refine g_bipush X191 hx hby d15_59 (pc' := 61) rfl (z := (10 : Int32)) rfl ?_
    refine g_idiv X191 hx hby d15_61 (pc' := 62) rfl (by decide) ?_
    refine g_istoreN X191 hx hby d15_62 (pc' := 63) rfl (l' := #[.val (.ref q1), .val (.int q2), .val (.int (12 : Int32)), .val (.int (dv 7 q2)), .val (.int (5 : Int32))]) rfl ?_
    refine g_iinc X191 hx hby d15_63 (pc' := 66) rfl rfl (l' := #[.val (.ref q1), .val (.int q2), .val (.int (12 : Int32)), .val (.int (dv 7 q2)), .val (.int (4 : Int32))]) rfl ?_
    refine g_goto X191 hx hby d15_66 (by decide) (pc' := 34) (by decide) ?_
    refine g_iload X191 hx hby d15_34 (pc' := 36) rfl rfl ?_
    refine g_aloadN X191 hx hby d15_36 (pc' := 37) rfl rfl rfl ?_
    refine g_get X191 hx hZ hown hby d15_37 (pc' := 40) rfl (w_87 hw) rfl F191_q1_numberAt ?_
    intro T192 X192 e192
    refine g_icmp_lt X192 hx hby d15_40 (by decide) (pc' := 69) (by decide) (pn := 43) rfl (fun z => absurd z (by decide)) (fun _ => ?_)
    refine g_aloadN X192 hx hby d15_43 (pc' := 44) rfl rfl rfl ?_
    refine g_get X192 hx hZ hown hby d15_44 (pc' := 47) rfl (w_38 hw) e192 F191_q1_label ?_
    intro T193 X193 e193
    refine g_iload X193 hx hby d15_47 (pc' := 49) rfl rfl ?_
    refine g_bipush X193 hx hby d15_49 (pc' := 51) rfl (z := (48 : Int32)) rfl ?_
    refine g_iloadN X193 hx hby d15_51 (pc' := 52) rfl rfl ?_
    refine g_bipush X193 hx hby d15_52 (pc' := 54) rfl (z := (10 : Int32)) rfl ?_
    refine g_irem X193 hx hby d15_54 (pc' := 55) rfl (by decide) ?_
    refine g_iadd X193 hx hby d15_55 (pc' := 56) rfl ?_
    refine g_i2b X193 hx hby d15_56 (pc' := 57) rfl ?_
    refine g_bastore X193 hx hZ 4 hby d15_57 (pc' := 58) rfl e193 A191 (by decide) (by decide) (by first | decide | simp) ?_
    intro T194 X194 W194 A194v
    have N194 := Fr.snoc X194 N191 g_l
    have E194_q1 := E191_q1.wr W194
    have F194_q1_label := F191_q1_label.other W194 (Or.inl n_l.symm)
    have F194_q1_numberAt := F191_q1_numberAt.other W194 (Or.inl n_l.symm)
    have K194 := K191.wr W194 (Or.inl (List.mem_of_getElem? (i := 0) rfl))
    have A194 : Arv Z T194.heap bl kl .byte (266 : Int32) [.int u0, .int u1, .int u2, .int u3, .int (nar .byte (dg 7 q2)), .int (nar .byte (dg 6 q2)), .int (nar .byte (dg 5 q2)), .int (nar .byte (dg 4 q2)), .int (nar .byte (dg 3 q2)), .int (nar .byte (dg 2 q2)), .int (nar .byte (dg 1 q2)), .int (nar .byte (dg 0 q2)), .int u12] (.int 0) := A194v
    refine g_iloadN X194 hx hby d15_58 (pc' := 59) rfl rfl ?_
    refine g_bipush X194 hx hby d15_59 (pc' := 61) rfl (z := (10 : Int32)) rfl ?_
    refine g_idiv X194 hx hby d15_61 (pc' := 62) rfl (by decide) ?_
    refine g_istoreN X194 hx hby d15_62 (pc' := 63) rfl (l' := #[.val (.ref q1), .val (.int q2), .val (.int (12 : Int32)), .val (.int (dv 8 q2)), .val (.int (4 : Int32))]) rfl ?_
    refine g_iinc X194 hx hby d15_63 (pc' := 66) rfl rfl (l' := #[.val (.ref q1), .val (.int q2), .val (.int (12 : Int32)), .val (.int (dv 8 q2)), .val (.int (3 : Int32))]) rfl ?_
    refine g_goto X194 hx hby d15_66 (by decide) (pc' := 34) (by decide) ?_
    refine g_iload X194 hx hby d15_34 (pc' := 36) rfl rfl ?_
    refine g_aloadN X194 hx hby d15_36 (pc' := 37) rfl rfl rfl ?_
    refine g_get X194 hx hZ hown hby d15_37 (pc' := 40) rfl (w_87 hw) rfl F194_q1_numberAt ?_
    intro T195 X195 e195
    refine g_icmp_lt X195 hx hby d15_40 (by decide) (pc' := 69) (by decide) (pn := 43) rfl (fun z => absurd z (by decide)) (fun _ => ?_)
    refine g_aloadN X195 hx hby d15_43 (pc' := 44) rfl rfl rfl ?_
    refine g_get X195 hx hZ hown hby d15_44 (pc' := 47) rfl (w_38 hw) e195 F194_q1_label ?_
    intro T196 X196 e196
    refine g_iload X196 hx hby d15_47 (pc' := 49) rfl rfl ?_
    refine g_bipush X196 hx hby d15_49 (pc' := 51) rfl (z := (48 : Int32)) rfl ?_
    refine g_iloadN X196 hx hby d15_51 (pc' := 52) rfl rfl ?_
    refine g_bipush X196 hx hby d15_52 (pc' := 54) rfl (z := (10 : Int32)) rfl ?_
    refine g_irem X196 hx hby d15_54 (pc' := 55) rfl (by decide) ?_
    refine g_iadd X196 hx hby d15_55 (pc' := 56) rfl ?_
    refine g_i2b X196 hx hby d15_56 (pc' := 57) rfl ?_
    refine g_bastore X196 hx hZ 3 hby d15_57 (pc' := 58) rfl e196 A194 (by decide) (by decide) (by first | decide | simp) ?_
    intro T197 X197 W197 A197v
    have N197 := Fr.snoc X197 N194 g_l
    have E197_q1 := E194_q1.wr W197
    have F197_q1_label := F194_q1_label.other W197 (Or.inl n_l.symm)
    have F197_q1_numberAt := F194_q1_numberAt.other W197 (Or.inl n_l.symm)
    have K197 := K194.wr W197 (Or.inl (List.mem_of_getElem? (i := 0) rfl))
    have A197 : Arv Z T197.heap bl kl .byte (266 : Int32) [.int u0, .int u1, .int u2, .int (nar .byte (dg 8 q2)), .int (nar .byte (dg 7 q2)), .int (nar .byte (dg 6 q2)), .int (nar .byte (dg 5 q2)), .int (nar .byte (dg 4 q2)), .int (nar .byte (dg 3 q2)), .int (nar .byte (dg 2 q2)), .int (nar .byte (dg 1 q2)), .int (nar .byte (dg 0 q2)), .int u12] (.int 0) := A197v
    refine g_iloadN X197 hx hby d15_58 (pc' := 59) rfl rfl ?_
    refine g_bipush X197 hx hby d15_59 (pc' := 61) rfl (z := (10 : Int32)) rfl ?_
    refine g_idiv X197 hx hby d15_61 (pc' := 62) rfl (by decide) ?_
    refine g_istoreN X197 hx hby d15_62 (pc' := 63) rfl (l' := #[.val (.ref q1), .val (.int q2), .val (.int (12 : Int32)), .val (.int (dv 9 q2)), .val (.int (3 : Int32))]) rfl ?_
    refine g_iinc X197 hx hby d15_63 (pc' := 66) rfl rfl (l' := #[.val (.ref q1), .val (.int q2), .val (.int (12 : Int32)), .val (.int (dv 9 q2)), .val (.int (2 : Int32))]) rfl ?_
    refine g_goto X197 hx hby d15_66 (by decide) (pc' := 34) (by decide) ?_
    refine g_iload X197 hx hby d15_34 (pc' := 36) rfl rfl ?_
    refine g_aloadN X197 hx hby d15_36 (pc' := 37) rfl rfl rfl ?_
    refine g_get X197 hx hZ hown hby d15_37 (pc' := 40) rfl (w_87 hw) rfl F197_q1_numberAt ?_
    intro T198 X198 e198
    refine g_icmp_lt X198 hx hby d15_40 (by decide) (pc' := 69) (by decide) (pn := 43) rfl (fun _ => ?_) (fun z => absurd z (by decide))
    refine g_iloadN X198 hx hby d15_69 (pc' := 70) rfl rfl ?_
    exact g_retI (Q := (fun v h L => ∃ (t0 t1 t2 t3 t4 t5 t6 t7 t8 t9 : Int32), v = some (.int ((3 : Int32) + (digV q2))) ∧ Fr n0 L ∧ Keep h0 h [bl] ∧ Arv Z h bl kl .byte (266 : Int32) [.int u0, .int u1, .int u2, .int t0, .int t1, .int t2, .int t3, .int t4, .int t5, .int t6, .int t7, .int t8, .int t9] (.int 0) ∧ DIGS 2 q2 [.int u0, .int u1, .int u2, .int t0, .int t1, .int t2, .int t3, .int t4, .int t5, .int t6, .int t7, .int t8, .int t9])) X198 hx hby d15_70 hret hlk (by decide) (by decide) (by rw [e198]; exact ⟨(nar .byte (dg 8 q2)), (nar .byte (dg 7 q2)), (nar .byte (dg 6 q2)), (nar .byte (dg 5 q2)), (nar .byte (dg 4 q2)), (nar .byte (dg 3 q2)), (nar .byte (dg 2 q2)), (nar .byte (dg 1 q2)), (nar .byte (dg 0 q2)), u12, congrArg (fun z : Int32 => some (Value.int z)) (by rw [own_dig hd9 (by decide) (by decide)]; rfl), N197, K197, A197, own_digs hd9 (by decide) (by decide) (fun i hi => match i, hi with | 0, _ => rfl | 1, _ => rfl | 2, _ => rfl | 3, _ => rfl | 4, _ => rfl | 5, _ => rfl | 6, _ => rfl | 7, _ => rfl | 8, _ => rfl | (k + 9), h => absurd h (by omega))⟩)
  · refine g_aloadN X0 hx hby d15_0 (pc' := 1) rfl rfl rfl ?_
    refine g_get X0 hx hZ hown hby d15_1 (pc' := 4) rfl (w_87 hw) e0 F2 ?_
    intro T199 X199 e199
    refine g_iconst X199 hx hby d15_4 (pc' := 5) rfl (z := (1 : Int32)) rfl ?_
    refine g_iadd X199 hx hby d15_5 (pc' := 6) rfl ?_
    refine g_eqI (b := (4 : Int32)) (by decide +kernel) ?_
    refine g_istoreN X199 hx hby d15_6 (pc' := 7) rfl (l' := #[.val (.ref q1), .val (.int q2), .val (.int (4 : Int32)), .unset, .unset]) rfl ?_
    refine g_iloadN X199 hx hby d15_7 (pc' := 8) rfl rfl ?_
    refine g_bipush X199 hx hby d15_8 (pc' := 10) rfl (z := (10 : Int32)) rfl ?_
    refine g_idiv X199 hx hby d15_10 (pc' := 11) rfl (by decide) ?_
    refine g_istoreN X199 hx hby d15_11 (pc' := 12) rfl (l' := #[.val (.ref q1), .val (.int q2), .val (.int (4 : Int32)), .val (.int (dv 1 q2)), .unset]) rfl ?_
    refine g_iloadN X199 hx hby d15_12 (pc' := 13) rfl rfl ?_
    refine g_if_le X199 hx hby d15_13 (by decide) (pc' := 27) (by decide) (pn := 16) rfl (fun z => absurd z (fun z => z (own_yes 1 hd10 (by decide) (by decide)))) (fun hc13_200 => ?_)
    refine g_iinc X199 hx hby d15_16 (pc' := 19) rfl rfl (l' := #[.val (.ref q1), .val (.int q2), .val (.int (5 : Int32)), .val (.int (dv 1 q2)), .unset]) rfl ?_
    refine g_iloadN X199 hx hby d15_19 (pc' := 20) rfl rfl ?_
    refine g_bipush X199 hx hby d15_20 (pc' := 22) rfl (z := (10 : Int32)) rfl ?_
    refine g_idiv X199 hx hby d15_22 (pc' := 23) rfl (by decide) ?_
    refine g_istoreN X199 hx hby d15_23 (pc' := 24) rfl (l' := #[.val (.ref q1), .val (.int q2), .val (.int (5 : Int32)), .val (.int (dv 2 q2)), .unset]) rfl ?_
    refine g_goto X199 hx hby d15_24 (by decide) (pc' := 12) (by decide) ?_
    refine g_iloadN X199 hx hby d15_12 (pc' := 13) rfl rfl ?_
    refine g_if_le X199 hx hby d15_13 (by decide) (pc' := 27) (by decide) (pn := 16) rfl (fun z => absurd z (fun z => z (own_yes 2 hd10 (by decide) (by decide)))) (fun hc13_201 => ?_)
    refine g_iinc X199 hx hby d15_16 (pc' := 19) rfl rfl (l' := #[.val (.ref q1), .val (.int q2), .val (.int (6 : Int32)), .val (.int (dv 2 q2)), .unset]) rfl ?_
    refine g_iloadN X199 hx hby d15_19 (pc' := 20) rfl rfl ?_
    refine g_bipush X199 hx hby d15_20 (pc' := 22) rfl (z := (10 : Int32)) rfl ?_
    refine g_idiv X199 hx hby d15_22 (pc' := 23) rfl (by decide) ?_
    refine g_istoreN X199 hx hby d15_23 (pc' := 24) rfl (l' := #[.val (.ref q1), .val (.int q2), .val (.int (6 : Int32)), .val (.int (dv 3 q2)), .unset]) rfl ?_
    refine g_goto X199 hx hby d15_24 (by decide) (pc' := 12) (by decide) ?_
    refine g_iloadN X199 hx hby d15_12 (pc' := 13) rfl rfl ?_
    refine g_if_le X199 hx hby d15_13 (by decide) (pc' := 27) (by decide) (pn := 16) rfl (fun z => absurd z (fun z => z (own_yes 3 hd10 (by decide) (by decide)))) (fun hc13_202 => ?_)
    refine g_iinc X199 hx hby d15_16 (pc' := 19) rfl rfl (l' := #[.val (.ref q1), .val (.int q2), .val (.int (7 : Int32)), .val (.int (dv 3 q2)), .unset]) rfl ?_
    refine g_iloadN X199 hx hby d15_19 (pc' := 20) rfl rfl ?_
    refine g_bipush X199 hx hby d15_20 (pc' := 22) rfl (z := (10 : Int32)) rfl ?_
    refine g_idiv X199 hx hby d15_22 (pc' := 23) rfl (by decide) ?_
    refine g_istoreN X199 hx hby d15_23 (pc' := 24) rfl (l' := #[.val (.ref q1), .val (.int q2), .val (.int (7 : Int32)), .val (.int (dv 4 q2)), .unset]) rfl ?_
    refine g_goto X199 hx hby d15_24 (by decide) (pc' := 12) (by decide) ?_
    refine g_iloadN X199 hx hby d15_12 (pc' := 13) rfl rfl ?_
    refine g_if_le X199 hx hby d15_13 (by decide) (pc' := 27) (by decide) (pn := 16) rfl (fun z => absurd z (fun z => z (own_yes 4 hd10 (by decide) (by decide)))) (fun hc13_203 => ?_)
    refine g_iinc X199 hx hby d15_16 (pc' := 19) rfl rfl (l' := #[.val (.ref q1), .val (.int q2), .val (.int (8 : Int32)), .val (.int (dv 4 q2)), .unset]) rfl ?_
    refine g_iloadN X199 hx hby d15_19 (pc' := 20) rfl rfl ?_
    refine g_bipush X199 hx hby d15_20 (pc' := 22) rfl (z := (10 : Int32)) rfl ?_
    refine g_idiv X199 hx hby d15_22 (pc' := 23) rfl (by decide) ?_
    refine g_istoreN X199 hx hby d15_23 (pc' := 24) rfl (l' := #[.val (.ref q1), .val (.int q2), .val (.int (8 : Int32)), .val (.int (dv 5 q2)), .unset]) rfl ?_
    refine g_goto X199 hx hby d15_24 (by decide) (pc' := 12) (by decide) ?_
    refine g_iloadN X199 hx hby d15_12 (pc' := 13) rfl rfl ?_
    refine g_if_le X199 hx hby d15_13 (by decide) (pc' := 27) (by decide) (pn := 16) rfl (fun z => absurd z (fun z => z (own_yes 5 hd10 (by decide) (by decide)))) (fun hc13_204 => ?_)
    refine g_iinc X199 hx hby d15_16 (pc' := 19) rfl rfl (l' := #[.val (.ref q1), .val (.int q2), .val (.int (9 : Int32)), .val (.int (dv 5 q2)), .unset]) rfl ?_
    refine g_iloadN X199 hx hby d15_19 (pc' := 20) rfl rfl ?_
    refine g_bipush X199 hx hby d15_20 (pc' := 22) rfl (z := (10 : Int32)) rfl ?_
    refine g_idiv X199 hx hby d15_22 (pc' := 23) rfl (by decide) ?_
    refine g_istoreN X199 hx hby d15_23 (pc' := 24) rfl (l' := #[.val (.ref q1), .val (.int q2), .val (.int (9 : Int32)), .val (.int (dv 6 q2)), .unset]) rfl ?_
    refine g_goto X199 hx hby d15_24 (by decide) (pc' := 12) (by decide) ?_
    refine g_iloadN X199 hx hby d15_12 (pc' := 13) rfl rfl ?_
    refine g_if_le X199 hx hby d15_13 (by decide) (pc' := 27) (by decide) (pn := 16) rfl (fun z => absurd z (fun z => z (own_yes 6 hd10 (by decide) (by decide)))) (fun hc13_205 => ?_)
    refine g_iinc X199 hx hby d15_16 (pc' := 19) rfl rfl (l' := #[.val (.ref q1), .val (.int q2), .val (.int (10 : Int32)), .val (.int (dv 6 q2)), .unset]) rfl ?_
    refine g_iloadN X199 hx hby d15_19 (pc' := 20) rfl rfl ?_
    refine g_bipush X199 hx hby d15_20 (pc' := 22) rfl (z := (10 : Int32)) rfl ?_
    refine g_idiv X199 hx hby d15_22 (pc' := 23) rfl (by decide) ?_
    refine g_istoreN X199 hx hby d15_23 (pc' := 24) rfl (l' := #[.val (.ref q1), .val (.int q2), .val (.int (10 : Int32)), .val (.int (dv 7 q2)), .unset]) rfl ?_
    refine g_goto X199 hx hby d15_24 (by decide) (pc' := 12) (by decide) ?_
    refine g_iloadN X199 hx hby d15_12 (pc' := 13) rfl rfl ?_
    refine g_if_le X199 hx hby d15_13 (by decide) (pc' := 27) (by decide) (pn := 16) rfl (fun z => absurd z (fun z => z (own_yes 7 hd10 (by decide) (by decide)))) (fun hc13_206 => ?_)
    refine g_iinc X199 hx hby d15_16 (pc' := 19) rfl rfl (l' := #[.val (.ref q1), .val (.int q2), .val (.int (11 : Int32)), .val (.int (dv 7 q2)), .unset]) rfl ?_
    refine g_iloadN X199 hx hby d15_19 (pc' := 20) rfl rfl ?_
    refine g_bipush X199 hx hby d15_20 (pc' := 22) rfl (z := (10 : Int32)) rfl ?_
    refine g_idiv X199 hx hby d15_22 (pc' := 23) rfl (by decide) ?_
    refine g_istoreN X199 hx hby d15_23 (pc' := 24) rfl (l' := #[.val (.ref q1), .val (.int q2), .val (.int (11 : Int32)), .val (.int (dv 8 q2)), .unset]) rfl ?_
    refine g_goto X199 hx hby d15_24 (by decide) (pc' := 12) (by decide) ?_
    refine g_iloadN X199 hx hby d15_12 (pc' := 13) rfl rfl ?_
    refine g_if_le X199 hx hby d15_13 (by decide) (pc' := 27) (by decide) (pn := 16) rfl (fun z => absurd z (fun z => z (own_yes 8 hd10 (by decide) (by decide)))) (fun hc13_207 => ?_)
    refine g_iinc X199 hx hby d15_16 (pc' := 19) rfl rfl (l' := #[.val (.ref q1), .val (.int q2), .val (.int (12 : Int32)), .val (.int (dv 8 q2)), .unset]) rfl ?_
    refine g_iloadN X199 hx hby d15_19 (pc' := 20) rfl rfl ?_
    refine g_bipush X199 hx hby d15_20 (pc' := 22) rfl (z := (10 : Int32)) rfl ?_
    refine g_idiv X199 hx hby d15_22 (pc' := 23) rfl (by decide) ?_
    refine g_istoreN X199 hx hby d15_23 (pc' := 24) rfl (l' := #[.val (.ref q1), .val (.int q2), .val (.int (12 : Int32)), .val (.int (dv 9 q2)), .unset]) rfl ?_
    refine g_goto X199 hx hby d15_24 (by decide) (pc' := 12) (by decide) ?_
    refine g_iloadN X199 hx hby d15_12 (pc' := 13) rfl rfl ?_
    refine g_if_le X199 hx hby d15_13 (by decide) (pc' := 27) (by decide) (pn := 16) rfl (fun z => absurd z (fun z => z (own_yes 9 hd10 (by decide) (by decide)))) (fun hc13_208 => ?_)
    refine g_iinc X199 hx hby d15_16 (pc' := 19) rfl rfl (l' := #[.val (.ref q1), .val (.int q2), .val (.int (13 : Int32)), .val (.int (dv 9 q2)), .unset]) rfl ?_
    refine g_iloadN X199 hx hby d15_19 (pc' := 20) rfl rfl ?_
    refine g_bipush X199 hx hby d15_20 (pc' := 22) rfl (z := (10 : Int32)) rfl ?_
    refine g_idiv X199 hx hby d15_22 (pc' := 23) rfl (by decide) ?_
    refine g_istoreN X199 hx hby d15_23 (pc' := 24) rfl (l' := #[.val (.ref q1), .val (.int q2), .val (.int (13 : Int32)), .val (.int (dv 10 q2)), .unset]) rfl ?_
    refine g_goto X199 hx hby d15_24 (by decide) (pc' := 12) (by decide) ?_
    refine g_iloadN X199 hx hby d15_12 (pc' := 13) rfl rfl ?_
    refine g_if_le X199 hx hby d15_13 (by decide) (pc' := 27) (by decide) (pn := 16) rfl (fun hc13_209 => ?_) (fun z => absurd z (own_no hd10))
    refine g_iloadN X199 hx hby d15_27 (pc' := 28) rfl rfl ?_
    refine g_istoreN X199 hx hby d15_28 (pc' := 29) rfl (l' := #[.val (.ref q1), .val (.int q2), .val (.int (13 : Int32)), .val (.int (dv 0 q2)), .unset]) rfl ?_
    refine g_iloadN X199 hx hby d15_29 (pc' := 30) rfl rfl ?_
    refine g_iconst X199 hx hby d15_30 (pc' := 31) rfl (z := (1 : Int32)) rfl ?_
    refine g_isub X199 hx hby d15_31 (pc' := 32) rfl ?_
    refine g_eqI (b := (12 : Int32)) (by decide +kernel) ?_
    refine g_istore X199 hx hby d15_32 (pc' := 34) rfl (l' := #[.val (.ref q1), .val (.int q2), .val (.int (13 : Int32)), .val (.int (dv 0 q2)), .val (.int (12 : Int32))]) rfl ?_
    refine g_iload X199 hx hby d15_34 (pc' := 36) rfl rfl ?_
    refine g_aloadN X199 hx hby d15_36 (pc' := 37) rfl rfl rfl ?_
    refine g_get X199 hx hZ hown hby d15_37 (pc' := 40) rfl (w_87 hw) e199 F2 ?_
    intro T210 X210 e210
    refine g_icmp_lt X210 hx hby d15_40 (by decide) (pc' := 69) (by decide) (pn := 43) rfl (fun z => absurd z (by decide)) (fun _ => ?_)
    refine g_aloadN X210 hx hby d15_43 (pc' := 44) rfl rfl rfl ?_
    refine g_get X210 hx hZ hown hby d15_44 (pc' := 47) rfl (w_38 hw) e210 F1 ?_
    intro T211 X211 e211
    refine g_iload X211 hx hby d15_47 (pc' := 49) rfl rfl ?_
    refine g_bipush X211 hx hby d15_49 (pc' := 51) rfl (z := (48 : Int32)) rfl ?_
    refine g_iloadN X211 hx hby d15_51 (pc' := 52) rfl rfl ?_
    refine g_bipush X211 hx hby d15_52 (pc' := 54) rfl (z := (10 : Int32)) rfl ?_
    refine g_irem X211 hx hby d15_54 (pc' := 55) rfl (by decide) ?_
    refine g_iadd X211 hx hby d15_55 (pc' := 56) rfl ?_
    refine g_i2b X211 hx hby d15_56 (pc' := 57) rfl ?_
    refine g_bastore X211 hx hZ 12 hby d15_57 (pc' := 58) rfl e211 A_l (by decide) (by decide) (by first | decide | simp) ?_
    intro T212 X212 W212 A212v
    have N212 := Fr.snoc X212 N0 g_l
    have E212_q1 := E_a.wr W212
    have F212_q1_label := F1.other W212 (Or.inl n_l.symm)
    have F212_q1_numberAt := F2.other W212 (Or.inl n_l.symm)
    have K212 := (Keep.refl h0 [bl]).wr W212 (Or.inl (List.mem_of_getElem? (i := 0) rfl))
    have A212 : Arv Z T212.heap bl kl .byte (266 : Int32) [.int u0, .int u1, .int u2, .int u3, .int u4, .int u5, .int u6, .int u7, .int u8, .int u9, .int u10, .int u11, .int (nar .byte (dg 0 q2))] (.int 0) := A212v
    refine g_iloadN X212 hx hby d15_58 (pc' := 59) rfl rfl ?_
    refine g_bipush X212 hx hby d15_59 (pc' := 61) rfl (z := (10 : Int32)) rfl ?_
    refine g_idiv X212 hx hby d15_61 (pc' := 62) rfl (by decide) ?_
    refine g_istoreN X212 hx hby d15_62 (pc' := 63) rfl (l' := #[.val (.ref q1), .val (.int q2), .val (.int (13 : Int32)), .val (.int (dv 1 q2)), .val (.int (12 : Int32))]) rfl ?_
    refine g_iinc X212 hx hby d15_63 (pc' := 66) rfl rfl (l' := #[.val (.ref q1), .val (.int q2), .val (.int (13 : Int32)), .val (.int (dv 1 q2)), .val (.int (11 : Int32))]) rfl ?_
    refine g_goto X212 hx hby d15_66 (by decide) (pc' := 34) (by decide) ?_
    refine g_iload X212 hx hby d15_34 (pc' := 36) rfl rfl ?_
    refine g_aloadN X212 hx hby d15_36 (pc' := 37) rfl rfl rfl ?_
    refine g_get X212 hx hZ hown hby d15_37 (pc' := 40) rfl (w_87 hw) rfl F212_q1_numberAt ?_
    intro T213 X213 e213
    refine g_icmp_lt X213 hx hby d15_40 (by decide) (pc' := 69) (by decide) (pn := 43) rfl (fun z => absurd z (by decide)) (fun _ => ?_)
    refine g_aloadN X213 hx hby d15_43 (pc' := 44) rfl rfl rfl ?_
    refine g_get X213 hx hZ hown hby d15_44 (pc' := 47) rfl (w_38 hw) e213 F212_q1_label ?_
    intro T214 X214 e214
    refine g_iload X214 hx hby d15_47 (pc' := 49) rfl rfl ?_
    refine g_bipush X214 hx hby d15_49 (pc' := 51) rfl (z := (48 : Int32)) rfl ?_
    refine g_iloadN X214 hx hby d15_51 (pc' := 52) rfl rfl ?_
    refine g_bipush X214 hx hby d15_52 (pc' := 54) rfl (z := (10 : Int32)) rfl ?_
    refine g_irem X214 hx hby d15_54 (pc' := 55) rfl (by decide) ?_
    refine g_iadd X214 hx hby d15_55 (pc' := 56) rfl ?_
    refine g_i2b X214 hx hby d15_56 (pc' := 57) rfl ?_
    refine g_bastore X214 hx hZ 11 hby d15_57 (pc' := 58) rfl e214 A212 (by decide) (by decide) (by first | decide | simp) ?_
    intro T215 X215 W215 A215v
    have N215 := Fr.snoc X215 N212 g_l
    have E215_q1 := E212_q1.wr W215
    have F215_q1_label := F212_q1_label.other W215 (Or.inl n_l.symm)
    have F215_q1_numberAt := F212_q1_numberAt.other W215 (Or.inl n_l.symm)
    have K215 := K212.wr W215 (Or.inl (List.mem_of_getElem? (i := 0) rfl))
    have A215 : Arv Z T215.heap bl kl .byte (266 : Int32) [.int u0, .int u1, .int u2, .int u3, .int u4, .int u5, .int u6, .int u7, .int u8, .int u9, .int u10, .int (nar .byte (dg 1 q2)), .int (nar .byte (dg 0 q2))] (.int 0) := A215v
    refine g_iloadN X215 hx hby d15_58 (pc' := 59) rfl rfl ?_
    refine g_bipush X215 hx hby d15_59 (pc' := 61) rfl (z := (10 : Int32)) rfl ?_
    refine g_idiv X215 hx hby d15_61 (pc' := 62) rfl (by decide) ?_
    refine g_istoreN X215 hx hby d15_62 (pc' := 63) rfl (l' := #[.val (.ref q1), .val (.int q2), .val (.int (13 : Int32)), .val (.int (dv 2 q2)), .val (.int (11 : Int32))]) rfl ?_
    refine g_iinc X215 hx hby d15_63 (pc' := 66) rfl rfl (l' := #[.val (.ref q1), .val (.int q2), .val (.int (13 : Int32)), .val (.int (dv 2 q2)), .val (.int (10 : Int32))]) rfl ?_
    refine g_goto X215 hx hby d15_66 (by decide) (pc' := 34) (by decide) ?_
    refine g_iload X215 hx hby d15_34 (pc' := 36) rfl rfl ?_
    refine g_aloadN X215 hx hby d15_36 (pc' := 37) rfl rfl rfl ?_
    refine g_get X215 hx hZ hown hby d15_37 (pc' := 40) rfl (w_87 hw) rfl F215_q1_numberAt ?_
    intro T216 X216 e216
    refine g_icmp_lt X216 hx hby d15_40 (by decide) (pc' := 69) (by decide) (pn := 43) rfl (fun z => absurd z (by decide)) (fun _ => ?_)
    refine g_aloadN X216 hx hby d15_43 (pc' := 44) rfl rfl rfl ?_
    refine g_get X216 hx hZ hown hby d15_44 (pc' := 47) rfl (w_38 hw) e216 F215_q1_label ?_
    intro T217 X217 e217
    refine g_iload X217 hx hby d15_47 (pc' := 49) rfl rfl ?_
    refine g_bipush X217 hx hby d15_49 (pc' := 51) rfl (z := (48 : Int32)) rfl ?_
    refine g_iloadN X217 hx hby d15_51 (pc' := 52) rfl rfl ?_
    refine g_bipush X217 hx hby d15_52 (pc' := 54) rfl (z := (10 : Int32)) rfl ?_
    refine g_irem X217 hx hby d15_54 (pc' := 55) rfl (by decide) ?_
    refine g_iadd X217 hx hby d15_55 (pc' := 56) rfl ?_
    refine g_i2b X217 hx hby d15_56 (pc' := 57) rfl ?_
    refine g_bastore X217 hx hZ 10 hby d15_57 (pc' := 58) rfl e217 A215 (by decide) (by decide) (by first | decide | simp) ?_
    intro T218 X218 W218 A218v
    have N218 := Fr.snoc X218 N215 g_l
    have E218_q1 := E215_q1.wr W218
    have F218_q1_label := F215_q1_label.other W218 (Or.inl n_l.symm)
    have F218_q1_numberAt := F215_q1_numberAt.other W218 (Or.inl n_l.symm)
    have K218 := K215.wr W218 (Or.inl (List.mem_of_getElem? (i := 0) rfl))
    have A218 : Arv Z T218.heap bl kl .byte (266 : Int32) [.int u0, .int u1, .int u2, .int u3, .int u4, .int u5, .int u6, .int u7, .int u8, .int u9, .int (nar .byte (dg 2 q2)), .int (nar .byte (dg 1 q2)), .int (nar .byte (dg 0 q2))] (.int 0) := A218v
    refine g_iloadN X218 hx hby d15_58 (pc' := 59) rfl rfl ?_
    refine g_bipush X218 hx hby d15_59 (pc' := 61) rfl (z := (10 : Int32)) rfl ?_
    refine g_idiv X218 hx hby d15_61 (pc' := 62) rfl (by decide) ?_
    refine g_istoreN X218 hx hby d15_62 (pc' := 63) rfl (l' := #[.val (.ref q1), .val (.int q2), .val (.int (13 : Int32)), .val (.int (dv 3 q2)), .val (.int (10 : Int32))]) rfl ?_
    refine g_iinc X218 hx hby d15_63 (pc' := 66) rfl rfl (l' := #[.val (.ref q1), .val (.int q2), .val (.int (13 : Int32)), .val (.int (dv 3 q2)), .val (.int (9 : Int32))]) rfl ?_
    refine g_goto X218 hx hby d15_66 (by decide) (pc' := 34) (by decide) ?_
    refine g_iload X218 hx hby d15_34 (pc' := 36) rfl rfl ?_
    refine g_aloadN X218 hx hby d15_36 (pc' := 37) rfl rfl rfl ?_
    refine g_get X218 hx hZ hown hby d15_37 (pc' := 40) rfl (w_87 hw) rfl F218_q1_numberAt ?_
    intro T219 X219 e219
    refine g_icmp_lt X219 hx hby d15_40 (by decide) (pc' := 69) (by decide) (pn := 43) rfl (fun z => absurd z (by decide)) (fun _ => ?_)
    refine g_aloadN X219 hx hby d15_43 (pc' := 44) rfl rfl rfl ?_
    refine g_get X219 hx hZ hown hby d15_44 (pc' := 47) rfl (w_38 hw) e219 F218_q1_label ?_
    intro T220 X220 e220
    refine g_iload X220 hx hby d15_47 (pc' := 49) rfl rfl ?_
    refine g_bipush X220 hx hby d15_49 (pc' := 51) rfl (z := (48 : Int32)) rfl ?_
    refine g_iloadN X220 hx hby d15_51 (pc' := 52) rfl rfl ?_
    refine g_bipush X220 hx hby d15_52 (pc' := 54) rfl (z := (10 : Int32)) rfl ?_
    refine g_irem X220 hx hby d15_54 (pc' := 55) rfl (by decide) ?_
    refine g_iadd X220 hx hby d15_55 (pc' := 56) rfl ?_
    refine g_i2b X220 hx hby d15_56 (pc' := 57) rfl ?_
    refine g_bastore X220 hx hZ 9 hby d15_57 (pc' := 58) rfl e220 A218 (by decide) (by decide) (by first | decide | simp) ?_
    intro T221 X221 W221 A221v
    have N221 := Fr.snoc X221 N218 g_l
    have E221_q1 := E218_q1.wr W221
    have F221_q1_label := F218_q1_label.other W221 (Or.inl n_l.symm)
    have F221_q1_numberAt := F218_q1_numberAt.other W221 (Or.inl n_l.symm)
    have K221 := K218.wr W221 (Or.inl (List.mem_of_getElem? (i := 0) rfl))
    have A221 : Arv Z T221.heap bl kl .byte (266 : Int32) [.int u0, .int u1, .int u2, .int u3, .int u4, .int u5, .int u6, .int u7, .int u8, .int (nar .byte (dg 3 q2)), .int (nar .byte (dg 2 q2)), .int (nar .byte (dg 1 q2)), .int (nar .byte (dg 0 q2))] (.int 0) := A221v
    refine g_iloadN X221 hx hby d15_58 (pc' := 59) rfl rfl ?_
    refine g_bipush X221 hx hby d15_59 (pc' := 61) rfl (z := (10 : Int32)) rfl ?_
    refine g_idiv X221 hx hby d15_61 (pc' := 62) rfl (by decide) ?_
    refine g_istoreN X221 hx hby d15_62 (pc' := 63) rfl (l' := #[.val (.ref q1), .val (.int q2), .val (.int (13 : Int32)), .val (.int (dv 4 q2)), .val (.int (9 : Int32))]) rfl ?_
    refine g_iinc X221 hx hby d15_63 (pc' := 66) rfl rfl (l' := #[.val (.ref q1), .val (.int q2), .val (.int (13 : Int32)), .val (.int (dv 4 q2)), .val (.int (8 : Int32))]) rfl ?_
    refine g_goto X221 hx hby d15_66 (by decide) (pc' := 34) (by decide) ?_
    refine g_iload X221 hx hby d15_34 (pc' := 36) rfl rfl ?_
    refine g_aloadN X221 hx hby d15_36 (pc' := 37) rfl rfl rfl ?_
    refine g_get X221 hx hZ hown hby d15_37 (pc' := 40) rfl (w_87 hw) rfl F221_q1_numberAt ?_
    intro T222 X222 e222
    refine g_icmp_lt X222 hx hby d15_40 (by decide) (pc' := 69) (by decide) (pn := 43) rfl (fun z => absurd z (by decide)) (fun _ => ?_)
    refine g_aloadN X222 hx hby d15_43 (pc' := 44) rfl rfl rfl ?_
    refine g_get X222 hx hZ hown hby d15_44 (pc' := 47) rfl (w_38 hw) e222 F221_q1_label ?_
    intro T223 X223 e223
    refine g_iload X223 hx hby d15_47 (pc' := 49) rfl rfl ?_
    refine g_bipush X223 hx hby d15_49 (pc' := 51) rfl (z := (48 : Int32)) rfl ?_
    refine g_iloadN X223 hx hby d15_51 (pc' := 52) rfl rfl ?_
    refine g_bipush X223 hx hby d15_52 (pc' := 54) rfl (z := (10 : Int32)) rfl ?_
    refine g_irem X223 hx hby d15_54 (pc' := 55) rfl (by decide) ?_
    refine g_iadd X223 hx hby d15_55 (pc' := 56) rfl ?_
    refine g_i2b X223 hx hby d15_56 (pc' := 57) rfl ?_
    refine g_bastore X223 hx hZ 8 hby d15_57 (pc' := 58) rfl e223 A221 (by decide) (by decide) (by first | decide | simp) ?_
    intro T224 X224 W224 A224v
    have N224 := Fr.snoc X224 N221 g_l
    have E224_q1 := E221_q1.wr W224
    have F224_q1_label := F221_q1_label.other W224 (Or.inl n_l.symm)
    have F224_q1_numberAt := F221_q1_numberAt.other W224 (Or.inl n_l.symm)
    have K224 := K221.wr W224 (Or.inl (List.mem_of_getElem? (i := 0) rfl))
    have A224 : Arv Z T224.heap bl kl .byte (266 : Int32) [.int u0, .int u1, .int u2, .int u3, .int u4, .int u5, .int u6, .int u7, .int (nar .byte (dg 4 q2)), .int (nar .byte (dg 3 q2)), .int (nar .byte (dg 2 q2)), .int (nar .byte (dg 1 q2)), .int (nar .byte (dg 0 q2))] (.int 0) := A224v
    refine g_iloadN X224 hx hby d15_58 (pc' := 59) rfl rfl ?_
    refine g_bipush X224 hx hby d15_59 (pc' := 61) rfl (z := (10 : Int32)) rfl ?_
    refine g_idiv X224 hx hby d15_61 (pc' := 62) rfl (by decide) ?_
    refine g_istoreN X224 hx hby d15_62 (pc' := 63) rfl (l' := #[.val (.ref q1), .val (.int q2), .val (.int (13 : Int32)), .val (.int (dv 5 q2)), .val (.int (8 : Int32))]) rfl ?_
    refine g_iinc X224 hx hby d15_63 (pc' := 66) rfl rfl (l' := #[.val (.ref q1), .val (.int q2), .val (.int (13 : Int32)), .val (.int (dv 5 q2)), .val (.int (7 : Int32))]) rfl ?_
    refine g_goto X224 hx hby d15_66 (by decide) (pc' := 34) (by decide) ?_
    refine g_iload X224 hx hby d15_34 (pc' := 36) rfl rfl ?_
    refine g_aloadN X224 hx hby d15_36 (pc' := 37) rfl rfl rfl ?_
    refine g_get X224 hx hZ hown hby d15_37 (pc' := 40) rfl (w_87 hw) rfl F224_q1_numberAt ?_
    intro T225 X225 e225
    refine g_icmp_lt X225 hx hby d15_40 (by decide) (pc' := 69) (by decide) (pn := 43) rfl (fun z => absurd z (by decide)) (fun _ => ?_)
    refine g_aloadN X225 hx hby d15_43 (pc' := 44) rfl rfl rfl ?_
    refine g_get X225 hx hZ hown hby d15_44 (pc' := 47) rfl (w_38 hw) e225 F224_q1_label ?_
    intro T226 X226 e226
    refine g_iload X226 hx hby d15_47 (pc' := 49) rfl rfl ?_
    refine g_bipush X226 hx hby d15_49 (pc' := 51) rfl (z := (48 : Int32)) rfl ?_
    refine g_iloadN X226 hx hby d15_51 (pc' := 52) rfl rfl ?_
    refine g_bipush X226 hx hby d15_52 (pc' := 54) rfl (z := (10 : Int32)) rfl ?_
    refine g_irem X226 hx hby d15_54 (pc' := 55) rfl (by decide) ?_
    refine g_iadd X226 hx hby d15_55 (pc' := 56) rfl ?_
    refine g_i2b X226 hx hby d15_56 (pc' := 57) rfl ?_
    refine g_bastore X226 hx hZ 7 hby d15_57 (pc' := 58) rfl e226 A224 (by decide) (by decide) (by first | decide | simp) ?_
    intro T227 X227 W227 A227v
    have N227 := Fr.snoc X227 N224 g_l
    have E227_q1 := E224_q1.wr W227
    have F227_q1_label := F224_q1_label.other W227 (Or.inl n_l.symm)
    have F227_q1_numberAt := F224_q1_numberAt.other W227 (Or.inl n_l.symm)
    have K227 := K224.wr W227 (Or.inl (List.mem_of_getElem? (i := 0) rfl))
    have A227 : Arv Z T227.heap bl kl .byte (266 : Int32) [.int u0, .int u1, .int u2, .int u3, .int u4, .int u5, .int u6, .int (nar .byte (dg 5 q2)), .int (nar .byte (dg 4 q2)), .int (nar .byte (dg 3 q2)), .int (nar .byte (dg 2 q2)), .int (nar .byte (dg 1 q2)), .int (nar .byte (dg 0 q2))] (.int 0) := A227v
    refine g_iloadN X227 hx hby d15_58 (pc' := 59) rfl rfl ?_
    refine g_bipush X227 hx hby d15_59 (pc' := 61) rfl (z := (10 : Int32)) rfl ?_
    refine g_idiv X227 hx hby d15_61 (pc' := 62) rfl (by decide) ?_
    refine g_istoreN X227 hx hby d15_62 (pc' := 63) rfl (l' := #[.val (.ref q1), .val (.int q2), .val (.int (13 : Int32)), .val (.int (dv 6 q2)), .val (.int (7 : Int32))]) rfl ?_
    refine g_iinc X227 hx hby d15_63 (pc' := 66) rfl rfl (l' := #[.val (.ref q1), .val (.int q2), .val (.int (13 : Int32)), .val (.int (dv 6 q2)), .val (.int (6 : Int32))]) rfl ?_
    refine g_goto X227 hx hby d15_66 (by decide) (pc' := 34) (by decide) ?_
    refine g_iload X227 hx hby d15_34 (pc' := 36) rfl rfl ?_
    refine g_aloadN X227 hx hby d15_36 (pc' := 37) rfl rfl rfl ?_
    refine g_get X227 hx hZ hown hby d15_37 (pc' := 40) rfl (w_87 hw) rfl F227_q1_numberAt ?_
    intro T228 X228 e228
    refine g_icmp_lt X228 hx hby d15_40 (by decide) (pc' := 69) (by decide) (pn := 43) rfl (fun z => absurd z (by decide)) (fun _ => ?_)
    refine g_aloadN X228 hx hby d15_43 (pc' := 44) rfl rfl rfl ?_
    refine g_get X228 hx hZ hown hby d15_44 (pc' := 47) rfl (w_38 hw) e228 F227_q1_label ?_
    intro T229 X229 e229
    refine g_iload X229 hx hby d15_47 (pc' := 49) rfl rfl ?_
    refine g_bipush X229 hx hby d15_49 (pc' := 51) rfl (z := (48 : Int32)) rfl ?_
    refine g_iloadN X229 hx hby d15_51 (pc' := 52) rfl rfl ?_
    refine g_bipush X229 hx hby d15_52 (pc' := 54) rfl (z := (10 : Int32)) rfl ?_
    refine g_irem X229 hx hby d15_54 (pc' := 55) rfl (by decide) ?_
    refine g_iadd X229 hx hby d15_55 (pc' := 56) rfl ?_
    refine g_i2b X229 hx hby d15_56 (pc' := 57) rfl ?_
    refine g_bastore X229 hx hZ 6 hby d15_57 (pc' := 58) rfl e229 A227 (by decide) (by decide) (by first | decide | simp) ?_
    intro T230 X230 W230 A230v
    have N230 := Fr.snoc X230 N227 g_l
    have E230_q1 := E227_q1.wr W230
    have F230_q1_label := F227_q1_label.other W230 (Or.inl n_l.symm)
    have F230_q1_numberAt := F227_q1_numberAt.other W230 (Or.inl n_l.symm)
    have K230 := K227.wr W230 (Or.inl (List.mem_of_getElem? (i := 0) rfl))
    have A230 : Arv Z T230.heap bl kl .byte (266 : Int32) [.int u0, .int u1, .int u2, .int u3, .int u4, .int u5, .int (nar .byte (dg 6 q2)), .int (nar .byte (dg 5 q2)), .int (nar .byte (dg 4 q2)), .int (nar .byte (dg 3 q2)), .int (nar .byte (dg 2 q2)), .int (nar .byte (dg 1 q2)), .int (nar .byte (dg 0 q2))] (.int 0) := A230v
    refine g_iloadN X230 hx hby d15_58 (pc' := 59) rfl rfl ?_
    refine g_bipush X230 hx hby d15_59 (pc' := 61) rfl (z := (10 : Int32)) rfl ?_
    refine g_idiv X230 hx hby d15_61 (pc' := 62) rfl (by decide) ?_
    refine g_istoreN X230 hx hby d15_62 (pc' := 63) rfl (l' := #[.val (.ref q1), .val (.int q2), .val (.int (13 : Int32)), .val (.int (dv 7 q2)), .val (.int (6 : Int32))]) rfl ?_
    refine g_iinc X230 hx hby d15_63 (pc' := 66) rfl rfl (l' := #[.val (.ref q1), .val (.int q2), .val (.int (13 : Int32)), .val (.int (dv 7 q2)), .val (.int (5 : Int32))]) rfl ?_
    refine g_goto X230 hx hby d15_66 (by decide) (pc' := 34) (by decide) ?_
    refine g_iload X230 hx hby d15_34 (pc' := 36) rfl rfl ?_
    refine g_aloadN X230 hx hby d15_36 (pc' := 37) rfl rfl rfl ?_
    refine g_get X230 hx hZ hown hby d15_37 (pc' := 40) rfl (w_87 hw) rfl F230_q1_numberAt ?_
    intro T231 X231 e231
    refine g_icmp_lt X231 hx hby d15_40 (by decide) (pc' := 69) (by decide) (pn := 43) rfl (fun z => absurd z (by decide)) (fun _ => ?_)
    refine g_aloadN X231 hx hby d15_43 (pc' := 44) rfl rfl rfl ?_
    refine g_get X231 hx hZ hown hby d15_44 (pc' := 47) rfl (w_38 hw) e231 F230_q1_label ?_
    intro T232 X232 e232
    refine g_iload X232 hx hby d15_47 (pc' := 49) rfl rfl ?_
    refine g_bipush X232 hx hby d15_49 (pc' := 51) rfl (z := (48 : Int32)) rfl ?_
    refine g_iloadN X232 hx hby d15_51 (pc' := 52) rfl rfl ?_
    refine g_bipush X232 hx hby d15_52 (pc' := 54) rfl (z := (10 : Int32)) rfl ?_
    refine g_irem X232 hx hby d15_54 (pc' := 55) rfl (by decide) ?_
    refine g_iadd X232 hx hby d15_55 (pc' := 56) rfl ?_
    refine g_i2b X232 hx hby d15_56 (pc' := 57) rfl ?_
    refine g_bastore X232 hx hZ 5 hby d15_57 (pc' := 58) rfl e232 A230 (by decide) (by decide) (by first | decide | simp) ?_
    intro T233 X233 W233 A233v
    have N233 := Fr.snoc X233 N230 g_l
    have E233_q1 := E230_q1.wr W233
    have F233_q1_label := F230_q1_label.other W233 (Or.inl n_l.symm)
    have F233_q1_numberAt := F230_q1_numberAt.other W233 (Or.inl n_l.symm)
    have K233 := K230.wr W233 (Or.inl (List.mem_of_getElem? (i := 0) rfl))
    have A233 : Arv Z T233.heap bl kl .byte (266 : Int32) [.int u0, .int u1, .int u2, .int u3, .int u4, .int (nar .byte (dg 7 q2)), .int (nar .byte (dg 6 q2)), .int (nar .byte (dg 5 q2)), .int (nar .byte (dg 4 q2)), .int (nar .byte (dg 3 q2)), .int (nar .byte (dg 2 q2)), .int (nar .byte (dg 1 q2)), .int (nar .byte (dg 0 q2))] (.int 0) := A233v
    refine g_iloadN X233 hx hby d15_58 (pc' := 59) rfl rfl ?_
    refine g_bipush X233 hx hby d15_59 (pc' := 61) rfl (z := (10 : Int32)) rfl ?_
    refine g_idiv X233 hx hby d15_61 (pc' := 62) rfl (by decide) ?_
    refine g_istoreN X233 hx hby d15_62 (pc' := 63) rfl (l' := #[.val (.ref q1), .val (.int q2), .val (.int (13 : Int32)), .val (.int (dv 8 q2)), .val (.int (5 : Int32))]) rfl ?_
    refine g_iinc X233 hx hby d15_63 (pc' := 66) rfl rfl (l' := #[.val (.ref q1), .val (.int q2), .val (.int (13 : Int32)), .val (.int (dv 8 q2)), .val (.int (4 : Int32))]) rfl ?_
    refine g_goto X233 hx hby d15_66 (by decide) (pc' := 34) (by decide) ?_
    refine g_iload X233 hx hby d15_34 (pc' := 36) rfl rfl ?_
    refine g_aloadN X233 hx hby d15_36 (pc' := 37) rfl rfl rfl ?_
    refine g_get X233 hx hZ hown hby d15_37 (pc' := 40) rfl (w_87 hw) rfl F233_q1_numberAt ?_
    intro T234 X234 e234
    refine g_icmp_lt X234 hx hby d15_40 (by decide) (pc' := 69) (by decide) (pn := 43) rfl (fun z => absurd z (by decide)) (fun _ => ?_)
    refine g_aloadN X234 hx hby d15_43 (pc' := 44) rfl rfl rfl ?_
    refine g_get X234 hx hZ hown hby d15_44 (pc' := 47) rfl (w_38 hw) e234 F233_q1_label ?_
    intro T235 X235 e235
    refine g_iload X235 hx hby d15_47 (pc' := 49) rfl rfl ?_
    refine g_bipush X235 hx hby d15_49 (pc' := 51) rfl (z := (48 : Int32)) rfl ?_
    refine g_iloadN X235 hx hby d15_51 (pc' := 52) rfl rfl ?_
    refine g_bipush X235 hx hby d15_52 (pc' := 54) rfl (z := (10 : Int32)) rfl ?_
    refine g_irem X235 hx hby d15_54 (pc' := 55) rfl (by decide) ?_
    refine g_iadd X235 hx hby d15_55 (pc' := 56) rfl ?_
    refine g_i2b X235 hx hby d15_56 (pc' := 57) rfl ?_
    refine g_bastore X235 hx hZ 4 hby d15_57 (pc' := 58) rfl e235 A233 (by decide) (by decide) (by first | decide | simp) ?_
    intro T236 X236 W236 A236v
    have N236 := Fr.snoc X236 N233 g_l
    have E236_q1 := E233_q1.wr W236
    have F236_q1_label := F233_q1_label.other W236 (Or.inl n_l.symm)
    have F236_q1_numberAt := F233_q1_numberAt.other W236 (Or.inl n_l.symm)
    have K236 := K233.wr W236 (Or.inl (List.mem_of_getElem? (i := 0) rfl))
    have A236 : Arv Z T236.heap bl kl .byte (266 : Int32) [.int u0, .int u1, .int u2, .int u3, .int (nar .byte (dg 8 q2)), .int (nar .byte (dg 7 q2)), .int (nar .byte (dg 6 q2)), .int (nar .byte (dg 5 q2)), .int (nar .byte (dg 4 q2)), .int (nar .byte (dg 3 q2)), .int (nar .byte (dg 2 q2)), .int (nar .byte (dg 1 q2)), .int (nar .byte (dg 0 q2))] (.int 0) := A236v
    refine g_iloadN X236 hx hby d15_58 (pc' := 59) rfl rfl ?_
    refine g_bipush X236 hx hby d15_59 (pc' := 61) rfl (z := (10 : Int32)) rfl ?_
    refine g_idiv X236 hx hby d15_61 (pc' := 62) rfl (by decide) ?_
    refine g_istoreN X236 hx hby d15_62 (pc' := 63) rfl (l' := #[.val (.ref q1), .val (.int q2), .val (.int (13 : Int32)), .val (.int (dv 9 q2)), .val (.int (4 : Int32))]) rfl ?_
    refine g_iinc X236 hx hby d15_63 (pc' := 66) rfl rfl (l' := #[.val (.ref q1), .val (.int q2), .val (.int (13 : Int32)), .val (.int (dv 9 q2)), .val (.int (3 : Int32))]) rfl ?_
    refine g_goto X236 hx hby d15_66 (by decide) (pc' := 34) (by decide) ?_
    refine g_iload X236 hx hby d15_34 (pc' := 36) rfl rfl ?_
    refine g_aloadN X236 hx hby d15_36 (pc' := 37) rfl rfl rfl ?_
    refine g_get X236 hx hZ hown hby d15_37 (pc' := 40) rfl (w_87 hw) rfl F236_q1_numberAt ?_
    intro T237 X237 e237
    refine g_icmp_lt X237 hx hby d15_40 (by decide) (pc' := 69) (by decide) (pn := 43) rfl (fun z => absurd z (by decide)) (fun _ => ?_)
    refine g_aloadN X237 hx hby d15_43 (pc' := 44) rfl rfl rfl ?_
    refine g_get X237 hx hZ hown hby d15_44 (pc' := 47) rfl (w_38 hw) e237 F236_q1_label ?_
    intro T238 X238 e238
    refine g_iload X238 hx hby d15_47 (pc' := 49) rfl rfl ?_
    refine g_bipush X238 hx hby d15_49 (pc' := 51) rfl (z := (48 : Int32)) rfl ?_
    refine g_iloadN X238 hx hby d15_51 (pc' := 52) rfl rfl ?_
    refine g_bipush X238 hx hby d15_52 (pc' := 54) rfl (z := (10 : Int32)) rfl ?_
    refine g_irem X238 hx hby d15_54 (pc' := 55) rfl (by decide) ?_
    refine g_iadd X238 hx hby d15_55 (pc' := 56) rfl ?_
    refine g_i2b X238 hx hby d15_56 (pc' := 57) rfl ?_
    refine g_bastore X238 hx hZ 3 hby d15_57 (pc' := 58) rfl e238 A236 (by decide) (by decide) (by first | decide | simp) ?_
    intro T239 X239 W239 A239v
    have N239 := Fr.snoc X239 N236 g_l
    have E239_q1 := E236_q1.wr W239
    have F239_q1_label := F236_q1_label.other W239 (Or.inl n_l.symm)
    have F239_q1_numberAt := F236_q1_numberAt.other W239 (Or.inl n_l.symm)
    have K239 := K236.wr W239 (Or.inl (List.mem_of_getElem? (i := 0) rfl))
    have A239 : Arv Z T239.heap bl kl .byte (266 : Int32) [.int u0, .int u1, .int u2, .int (nar .byte (dg 9 q2)), .int (nar .byte (dg 8 q2)), .int (nar .byte (dg 7 q2)), .int (nar .byte (dg 6 q2)), .int (nar .byte (dg 5 q2)), .int (nar .byte (dg 4 q2)), .int (nar .byte (dg 3 q2)), .int (nar .byte (dg 2 q2)), .int (nar .byte (dg 1 q2)), .int (nar .byte (dg 0 q2))] (.int 0) := A239v
    refine g_iloadN X239 hx hby d15_58 (pc' := 59) rfl rfl ?_
    refine g_bipush X239 hx hby d15_59 (pc' := 61) rfl (z := (10 : Int32)) rfl ?_
    refine g_idiv X239 hx hby d15_61 (pc' := 62) rfl (by decide) ?_
    refine g_istoreN X239 hx hby d15_62 (pc' := 63) rfl (l' := #[.val (.ref q1), .val (.int q2), .val (.int (13 : Int32)), .val (.int (dv 10 q2)), .val (.int (3 : Int32))]) rfl ?_
    refine g_iinc X239 hx hby d15_63 (pc' := 66) rfl rfl (l' := #[.val (.ref q1), .val (.int q2), .val (.int (13 : Int32)), .val (.int (dv 10 q2)), .val (.int (2 : Int32))]) rfl ?_
    refine g_goto X239 hx hby d15_66 (by decide) (pc' := 34) (by decide) ?_
    refine g_iload X239 hx hby d15_34 (pc' := 36) rfl rfl ?_
    refine g_aloadN X239 hx hby d15_36 (pc' := 37) rfl rfl rfl ?_
    refine g_get X239 hx hZ hown hby d15_37 (pc' := 40) rfl (w_87 hw) rfl F239_q1_numberAt ?_
    intro T240 X240 e240
    refine g_icmp_lt X240 hx hby d15_40 (by decide) (pc' := 69) (by decide) (pn := 43) rfl (fun _ => ?_) (fun z => absurd z (by decide))
    refine g_iloadN X240 hx hby d15_69 (pc' := 70) rfl rfl ?_
    exact g_retI (Q := (fun v h L => ∃ (t0 t1 t2 t3 t4 t5 t6 t7 t8 t9 : Int32), v = some (.int ((3 : Int32) + (digV q2))) ∧ Fr n0 L ∧ Keep h0 h [bl] ∧ Arv Z h bl kl .byte (266 : Int32) [.int u0, .int u1, .int u2, .int t0, .int t1, .int t2, .int t3, .int t4, .int t5, .int t6, .int t7, .int t8, .int t9] (.int 0) ∧ DIGS 2 q2 [.int u0, .int u1, .int u2, .int t0, .int t1, .int t2, .int t3, .int t4, .int t5, .int t6, .int t7, .int t8, .int t9])) X240 hx hby d15_70 hret hlk (by decide) (by decide) (by rw [e240]; exact ⟨(nar .byte (dg 9 q2)), (nar .byte (dg 8 q2)), (nar .byte (dg 7 q2)), (nar .byte (dg 6 q2)), (nar .byte (dg 5 q2)), (nar .byte (dg 4 q2)), (nar .byte (dg 3 q2)), (nar .byte (dg 2 q2)), (nar .byte (dg 1 q2)), (nar .byte (dg 0 q2)), congrArg (fun z : Int32 => some (Value.int z)) (by rw [own_dig hd10 (by decide) (by decide)]; rfl), N239, K239, A239, own_digs hd10 (by decide) (by decide) (fun i hi => match i, hi with | 0, _ => rfl | 1, _ => rfl | 2, _ => rfl | 3, _ => rfl | 4, _ => rfl | 5, _ => rfl | 6, _ => rfl | 7, _ => rfl | 8, _ => rfl | 9, _ => rfl | (k + 10), h => absurd h (by omega))⟩)
theorem ef_rm0 (q1 : Int32) (q2 : Int32) (q3 : Int32) (q4 : Int32) (q5 : Int32) (q6 : Int32) (m : MethodId) : entryFrame m #[.int q1, .int q2, .int q3, .int q4, .int q5, .int q6] maxLocals = mkF m 0 #[.val (.int q1), .val (.int q2), .val (.int q3), .val (.int q4), .val (.int q5), .val (.int q6), .unset, .unset, .unset, .unset, .unset, .unset, .unset, .unset, .unset, .unset, .unset, .unset] [] := by
  first | (simp [entryFrame, mkF, argsToLocals, Value.category, maxLocals]; done) | rfl
theorem pn_rm0 : plainName "com/example/astilla/astilla/PointLabelsWritePinLaw" = true := by first | (simp [plainName, overriddenIn]; done) | decide +kernel
set_option maxRecDepth 65536 in
set_option maxHeartbeats 40000000 in
theorem rm0 (l : Launch) (Z : State) (a0 : Array Value) (hw : ∀ d ∈ tables_1, d.before a0 Z = true) (ws : List Jvm.Cond) (q1 : Int32) (q2 : Int32) (q3 : Int32) (q4 : Int32) (q5 : Int32) (q6 : Int32) (h0 : Heap) (n0 : Nat) (Z0 : n0 ≤ h0.size) (cs : Int32) (u8 : Addr) (SS : SSt Z cs u8) (O0 : Old Z n0 h0) :
    Ctr l Z x code maxLocals ret ws room_1 #[.int q1, .int q2, .int q3, .int q4, .int q5, .int q6] h0 (fun v h L => v = some (.int 1) ∧ Fr n0 L) := by
  refine Ctr.enter (Ls := #[.val (.int q1), .val (.int q2), .val (.int q3), .val (.int q4), .val (.int q5), .val (.int q6), .unset, .unset, .unset, .unset, .unset, .unset, .unset, .unset, .unset, .unset, .unset, .unset]) (plainFor_of_name pn_rm0) (fun m => ef_rm0 q1 q2 q3 q4 q5 q6 m) ?_
  intro p e s m below meth c T hx hby hml hown hnm hret hlk hZ hh X0 e0
  have N0 := Fr.nil n0
  refine g_iloadN X0 hx hby at_0 (pc' := 1) rfl rfl ?_
  refine g_bipush X0 hx hby at_1 (pc' := 3) rfl (z := (127 : Int32)) rfl ?_
  refine g_iand X0 hx hby at_3 (pc' := 4) rfl ?_
  refine g_i2c X0 hx hby at_4 (pc' := 5) rfl ?_
  refine g_istore X0 hx hby at_5 (pc' := 7) rfl (l' := #[.val (.int q1), .val (.int q2), .val (.int q3), .val (.int q4), .val (.int q5), .val (.int q6), .val (.int (spV q1)), .unset, .unset, .unset, .unset, .unset, .unset, .unset, .unset, .unset, .unset, .unset]) rfl ?_
  refine g_iloadN X0 hx hby at_7 (pc' := 8) rfl rfl ?_
  refine g_bipush X0 hx hby at_8 (pc' := 10) rfl (z := (127 : Int32)) rfl ?_
  refine g_iand X0 hx hby at_10 (pc' := 11) rfl ?_
  refine g_i2b X0 hx hby at_11 (pc' := 12) rfl ?_
  refine g_istore X0 hx hby at_12 (pc' := 14) rfl (l' := #[.val (.int q1), .val (.int q2), .val (.int q3), .val (.int q4), .val (.int q5), .val (.int q6), .val (.int (spV q1)), .val (.int (q1 &&& (127 : Int32)).toInt8.toInt32), .unset, .unset, .unset, .unset, .unset, .unset, .unset, .unset, .unset, .unset]) rfl ?_
  refine g_bipush X0 hx hby at_14 (pc' := 16) rfl (z := (32 : Int32)) rfl ?_
  refine g_iloadN X0 hx hby at_16 (pc' := 17) rfl rfl ?_
  refine g_ldcI X0 hx hZ hown hby at_17 (pc' := 19) rfl (w_0 hw) ?_
  refine g_iand X0 hx hby at_19 (pc' := 20) rfl ?_
  refine g_bipush X0 hx hby at_20 (pc' := 22) rfl (z := (95 : Int32)) rfl ?_
  refine g_irem X0 hx hby at_22 (pc' := 23) rfl (by decide) ?_
  refine g_iadd X0 hx hby at_23 (pc' := 24) rfl ?_
  refine g_i2c X0 hx hby at_24 (pc' := 25) rfl ?_
  refine g_istore X0 hx hby at_25 (pc' := 27) rfl (l' := #[.val (.int q1), .val (.int q2), .val (.int q3), .val (.int q4), .val (.int q5), .val (.int q6), .val (.int (spV q1)), .val (.int (q1 &&& (127 : Int32)).toInt8.toInt32), .val (.int (chV q2)), .unset, .unset, .unset, .unset, .unset, .unset, .unset, .unset, .unset]) rfl ?_
  refine g_bipush X0 hx hby at_27 (pc' := 29) rfl (z := (32 : Int32)) rfl ?_
  refine g_iloadN X0 hx hby at_29 (pc' := 30) rfl rfl ?_
  refine g_ldcI X0 hx hZ hown hby at_30 (pc' := 32) rfl (w_0 hw) ?_
  refine g_iand X0 hx hby at_32 (pc' := 33) rfl ?_
  refine g_bipush X0 hx hby at_33 (pc' := 35) rfl (z := (95 : Int32)) rfl ?_
  refine g_irem X0 hx hby at_35 (pc' := 36) rfl (by decide) ?_
  refine g_iadd X0 hx hby at_36 (pc' := 37) rfl ?_
  refine g_i2c X0 hx hby at_37 (pc' := 38) rfl ?_
  refine g_istore X0 hx hby at_38 (pc' := 40) rfl (l' := #[.val (.int q1), .val (.int q2), .val (.int q3), .val (.int q4), .val (.int q5), .val (.int q6), .val (.int (spV q1)), .val (.int (q1 &&& (127 : Int32)).toInt8.toInt32), .val (.int (chV q2)), .val (.int (chV q3)), .unset, .unset, .unset, .unset, .unset, .unset, .unset, .unset]) rfl ?_
  refine g_iloadN X0 hx hby at_40 (pc' := 41) rfl rfl ?_
  refine g_iconst X0 hx hby at_41 (pc' := 42) rfl (z := (1 : Int32)) rfl ?_
  refine g_iand X0 hx hby at_42 (pc' := 43) rfl ?_
  refine g_if_eq X0 hx hby at_43 (by decide) (pc' := 50) (by decide) (pn := 46) rfl (fun hc43_1 => ?_) (fun hc43_1 => ?_)
  · refine g_iconst X0 hx hby at_50 (pc' := 51) rfl (z := (0 : Int32)) rfl ?_
    refine g_istore X0 hx hby at_51 (pc' := 53) rfl (l' := #[.val (.int q1), .val (.int q2), .val (.int q3), .val (.int q4), .val (.int q5), .val (.int q6), .val (.int (spV q1)), .val (.int (q1 &&& (127 : Int32)).toInt8.toInt32), .val (.int (chV q2)), .val (.int (chV q3)), .val (.int (0 : Int32)), .unset, .unset, .unset, .unset, .unset, .unset, .unset]) rfl ?_
    refine g_iload X0 hx hby at_53 (pc' := 55) rfl rfl ?_
    refine g_if_eq X0 hx hby at_55 (by decide) (pc' := 62) (by decide) (pn := 58) rfl (fun _ => ?_) (fun z => absurd z (by decide))
    refine g_iconst X0 hx hby at_62 (pc' := 63) rfl (z := (1 : Int32)) rfl ?_
    refine g_istore X0 hx hby at_63 (pc' := 65) rfl (l' := #[.val (.int q1), .val (.int q2), .val (.int q3), .val (.int q4), .val (.int q5), .val (.int q6), .val (.int (spV q1)), .val (.int (q1 &&& (127 : Int32)).toInt8.toInt32), .val (.int (chV q2)), .val (.int (chV q3)), .val (.int (0 : Int32)), .val (.int (1 : Int32)), .unset, .unset, .unset, .unset, .unset, .unset]) rfl ?_
    refine g_iload X0 hx hby at_65 (pc' := 67) rfl rfl ?_
    refine g_if_eq X0 hx hby at_67 (by decide) (pc' := 101) (by decide) (pn := 70) rfl (fun _ => ?_) (fun z => absurd z (by decide))
    refine g_iconst X0 hx hby at_101 (pc' := 102) rfl (z := (1 : Int32)) rfl ?_
    refine g_newarray X0 hx hZ 1  "[C" hby at_102 (pc' := 104) rfl (w_1 hw) e0 (by decide) (by decide) (by decide) (by decide) (by decide) rfl ?_
    intro T2 b2 c2 hb2 X2 E2 A2v A2x
    have O2o := O0.ext E2
    have Z2 := Nat.le_trans Z0 E2.1
    have A2 : Arv Z T2.heap b2 c2 .char (1 : Int32) [.int 0] (.int 0) := A2v
    refine g_astore X2 hx hby at_104 (pc' := 106) rfl rfl (l' := #[.val (.int q1), .val (.int q2), .val (.int q3), .val (.int q4), .val (.int q5), .val (.int q6), .val (.int (spV q1)), .val (.int (q1 &&& (127 : Int32)).toInt8.toInt32), .val (.int (chV q2)), .val (.int (chV q3)), .val (.int (0 : Int32)), .val (.int (1 : Int32)), .unset, .val (.ref b2), .unset, .unset, .unset, .unset]) rfl ?_
    refine g_aload X2 hx hby at_106 (pc' := 108) rfl rfl rfl ?_
    refine g_iconst X2 hx hby at_108 (pc' := 109) rfl (z := (0 : Int32)) rfl ?_
    refine g_iload X2 hx hby at_109 (pc' := 111) rfl rfl ?_
    refine g_castore X2 hx hZ 0 hby at_111 (pc' := 112) rfl rfl A2 (by decide) (by decide) (by first | decide | simp) ?_
    intro T3 X3 W3 A3v
    have N3 := Fr.snoc X3 N0 (Nat.le_trans Z0 (Nat.le_of_eq hb2.symm))
    have O3 := O2o.wr W3 (Nat.le_trans Z0 (Nat.le_of_eq hb2.symm))
    have Z3 : n0 ≤ T3.heap.size := (W3.size ▸ Z2)
    have E3_b2 := A2x.wr W3
    have A3 : Arv Z T3.heap b2 c2 .char (1 : Int32) [.int (nar .char (chV q2))] (.int 0) := A3v
    have A4 : Arv Z T3.heap b2 c2 .char (1 : Int32) [.int (chV q2)] (.int 0) := by
      have z := A3
      rw [own_narc (own_as q2)] at z
      exact z
    refine g_new X3 hx hZ hown hby at_112 (pc' := 115) rfl (w_2 hw) (w_3 hw) (w_4 hw) rfl (by decide) (by decide) ?_
    intro T5 b5 hb5 X5 E5 A5 D5
    have O5o := O3.ext E5
    have Z5 := Nat.le_trans Z3 E5.1
    have E5_b2 := E3_b2.ext E5
    have ne5_b2 : b2 ≠ b5 := hb5 ▸ Nat.ne_of_lt E3_b2.lt
    have A5_b2 := A4.ext E5
    have F5_coder : Fld Z T5.heap b5 "java/lang/String" "coder" "B" (.int (0 : Int32)) := D5 (Or.inr (w_28 hw)) (ty := .byte) (by decide)
    have F5_value : Fld Z T5.heap b5 "java/lang/String" "value" "[B" (.null) := D5 (Or.inr (w_30 hw)) (ty := (.array .byte)) (by decide)
    refine g_dup X5 hx hby at_115 (pc' := 116) rfl rfl ?_
    refine g_aload X5 hx hby at_116 (pc' := 118) rfl rfl rfl ?_
    refine g_callI X5 hx hZ hown (W := 1) (argsL := [.ref b2]) (b := b5) (rest := [.ref b5]) hby at_118 (pc' := 121) rfl (by rw [hml]; rfl) (w_5 hw) (w_6 hw) (w_4 hw) (w_7 hw) rfl (by decide) (rmS11 l Z a0 hw [] b5 b2 T5.heap n0 (chV q2) _ A5_b2 (own_as q2) _ _ Z5 A5 F5_value F5_coder ne5_b2 (Nat.le_trans Z3 (Nat.le_of_eq hb5.symm)) cs u8 SS O5o) rfl (by decide) (by decide) (by decide) (by decide) rfl pd__28_5bC_29V rfl rfl (Nat.le_of_eq rfl) ?_
    rintro _ T6 L6 X6 (⟨b6, k6, rfl, N6q, K6, Ei6, Fv6, Fc6, G6, A6, Ex6⟩)
    · have N6 := Fr.app N3 N6q
      have nb6_b2 : b2 ≠ b6 := Nat.ne_of_lt (Nat.lt_of_lt_of_le E5_b2.lt G6)
      have nb6_b5 : b5 ≠ b6 := Nat.ne_of_lt (Nat.lt_of_lt_of_le A5.lt G6)
      have O6 := O5o.keep K6 (allS (Nat.le_trans Z3 (Nat.le_of_eq hb5.symm)) all0)
      have Z6 := Nat.le_trans Z5 K6.1
      have E6_b2 := E5_b2.keep K6
      have A6_b2 := A5_b2.keep K6 (ninS ne5_b2 nin0)
      have E6_b5 := A5.keep K6
      show GoE p e below _ (T6.setTop (mkF m 121 #[.val (.int q1), .val (.int q2), .val (.int q3), .val (.int q4), .val (.int q5), .val (.int q6), .val (.int (spV q1)), .val (.int (q1 &&& (127 : Int32)).toInt8.toInt32), .val (.int (chV q2)), .val (.int (chV q3)), .val (.int (0 : Int32)), .val (.int (1 : Int32)), .unset, .val (.ref b2), .unset, .unset, .unset, .unset] [.ref b5]))
      refine g_astore X6 hx hby at_121 (pc' := 123) rfl rfl (l' := #[.val (.int q1), .val (.int q2), .val (.int q3), .val (.int q4), .val (.int q5), .val (.int q6), .val (.int (spV q1)), .val (.int (q1 &&& (127 : Int32)).toInt8.toInt32), .val (.int (chV q2)), .val (.int (chV q3)), .val (.int (0 : Int32)), .val (.int (1 : Int32)), .val (.ref b5), .val (.ref b2), .unset, .unset, .unset, .unset]) rfl ?_
      refine g_iload X6 hx hby at_123 (pc' := 125) rfl rfl ?_
      refine g_ldcI X6 hx hZ hown hby at_125 (pc' := 127) rfl (w_0 hw) ?_
      refine g_iand X6 hx hby at_127 (pc' := 128) rfl ?_
      refine g_istore X6 hx hby at_128 (pc' := 130) rfl (l' := #[.val (.int q1), .val (.int q2), .val (.int q3), .val (.int q4), .val (.int q5), .val (.int q6), .val (.int (spV q1)), .val (.int (q1 &&& (127 : Int32)).toInt8.toInt32), .val (.int (chV q2)), .val (.int (chV q3)), .val (.int (0 : Int32)), .val (.int (1 : Int32)), .val (.ref b5), .val (.int (q5 &&& (2147483647 : Int32))), .unset, .unset, .unset, .unset]) rfl ?_
      refine g_iload X6 hx hby at_130 (pc' := 132) rfl rfl ?_
      refine g_ldcI X6 hx hZ hown hby at_132 (pc' := 134) rfl (w_0 hw) ?_
      refine g_iand X6 hx hby at_134 (pc' := 135) rfl ?_
      refine g_istore X6 hx hby at_135 (pc' := 137) rfl (l' := #[.val (.int q1), .val (.int q2), .val (.int q3), .val (.int q4), .val (.int q5), .val (.int q6), .val (.int (spV q1)), .val (.int (q1 &&& (127 : Int32)).toInt8.toInt32), .val (.int (chV q2)), .val (.int (chV q3)), .val (.int (0 : Int32)), .val (.int (1 : Int32)), .val (.ref b5), .val (.int (q5 &&& (2147483647 : Int32))), .val (.int (q6 &&& (2147483647 : Int32))), .unset, .unset, .unset]) rfl ?_
      refine g_new X6 hx hZ hown hby at_137 (pc' := 140) rfl (w_31 hw) (w_32 hw) (w_33 hw) rfl (by decide) (by decide) ?_
      intro T7 b7 hb7 X7 E7 A7 D7
      have O7o := O6.ext E7
      have Z7 := Nat.le_trans Z6 E7.1
      have E7_b2 := E6_b2.ext E7
      have ne7_b2 : b2 ≠ b7 := hb7 ▸ Nat.ne_of_lt E6_b2.lt
      have A7_b2 := A6_b2.ext E7
      have E7_b5 := Ei6.ext E7
      have ne7_b5 : b5 ≠ b7 := hb7 ▸ Nat.ne_of_lt Ei6.lt
      have F7_b5_value := Fv6.ext E7
      have F7_b5_coder := Fc6.ext E7
      have A7_b6 := A6.ext E7
      have ne7_b6 : b6 ≠ b7 := hb7 ▸ Nat.ne_of_lt A6.lt
      have E7_b6 := Ex6.ext E7
      have F7_numberAt : Fld Z T7.heap b7 "com/example/astilla/astilla/PointLabels" "numberAt" "I" (.int (0 : Int32)) := D7 (Or.inl (w_88 hw)) (ty := .int) (by decide)
      have F7_label : Fld Z T7.heap b7 "com/example/astilla/astilla/PointLabels" "label" "[B" (.null) := D7 (Or.inr (w_39 hw)) (ty := (.array .byte)) (by decide)
      have F7_separator : Fld Z T7.heap b7 "com/example/astilla/astilla/PointLabels" "separator" "B" (.int (0 : Int32)) := D7 (Or.inr (w_41 hw)) (ty := .byte) (by decide)
      refine g_dup X7 hx hby at_140 (pc' := 141) rfl rfl ?_
      refine g_iload X7 hx hby at_141 (pc' := 143) rfl rfl ?_
      refine g_callI X7 hx hZ hown (W := 1) (argsL := [.int (spV q1)]) (b := b7) (rest := [.ref b7]) hby at_143 (pc' := 146) rfl (by rw [hml]; rfl) (w_34 hw) (w_35 hw) (w_33 hw) (w_36 hw) rfl (by decide) (rmPI l Z a0 hw [] b7 (spV q1) T7.heap n0 _ _ Z7 A7 F7_label F7_separator F7_numberAt (Nat.le_trans Z6 (Nat.le_of_eq hb7.symm))) rfl (by decide) (by decide) (by decide) (by decide) rfl pd__28C_29V rfl rfl (Nat.le_of_eq rfl) ?_
      rintro _ T8 L8 X8 (⟨b8, k8, rfl, N8q, K8, Ei8, Fi8_label, Fi8_separator, Fi8_numberAt, G8, A8⟩)
      · have N8 := Fr.app N6 N8q
        have nb8_b2 : b2 ≠ b8 := Nat.ne_of_lt (Nat.lt_of_lt_of_le E7_b2.lt G8)
        have nb8_b5 : b5 ≠ b8 := Nat.ne_of_lt (Nat.lt_of_lt_of_le E7_b5.lt G8)
        have nb8_b6 : b6 ≠ b8 := Nat.ne_of_lt (Nat.lt_of_lt_of_le A7_b6.lt G8)
        have nb8_b7 : b7 ≠ b8 := Nat.ne_of_lt (Nat.lt_of_lt_of_le A7.lt G8)
        have O8 := O7o.keep K8 (allS (Nat.le_trans Z6 (Nat.le_of_eq hb7.symm)) all0)
        have Z8 := Nat.le_trans Z7 K8.1
        have E8_b2 := E7_b2.keep K8
        have A8_b2 := A7_b2.keep K8 (ninS ne7_b2 nin0)
        have E8_b5 := E7_b5.keep K8
        have F8_b5_value := F7_b5_value.keep K8 (ninS ne7_b5 nin0)
        have F8_b5_coder := F7_b5_coder.keep K8 (ninS ne7_b5 nin0)
        have A8_b6 := A7_b6.keep K8 (ninS ne7_b6 nin0)
        have E8_b6 := E7_b6.keep K8
        have E8_b7 := A7.keep K8
        show GoE p e below _ (T8.setTop (mkF m 146 #[.val (.int q1), .val (.int q2), .val (.int q3), .val (.int q4), .val (.int q5), .val (.int q6), .val (.int (spV q1)), .val (.int (q1 &&& (127 : Int32)).toInt8.toInt32), .val (.int (chV q2)), .val (.int (chV q3)), .val (.int (0 : Int32)), .val (.int (1 : Int32)), .val (.ref b5), .val (.int (q5 &&& (2147483647 : Int32))), .val (.int (q6 &&& (2147483647 : Int32))), .unset, .unset, .unset] [.ref b7]))
        refine g_astore X8 hx hby at_146 (pc' := 148) rfl rfl (l' := #[.val (.int q1), .val (.int q2), .val (.int q3), .val (.int q4), .val (.int q5), .val (.int q6), .val (.int (spV q1)), .val (.int (q1 &&& (127 : Int32)).toInt8.toInt32), .val (.int (chV q2)), .val (.int (chV q3)), .val (.int (0 : Int32)), .val (.int (1 : Int32)), .val (.ref b5), .val (.int (q5 &&& (2147483647 : Int32))), .val (.int (q6 &&& (2147483647 : Int32))), .val (.ref b7), .unset, .unset]) rfl ?_
        refine g_aload X8 hx hby at_148 (pc' := 150) rfl rfl rfl ?_
        refine g_aload X8 hx hby at_150 (pc' := 152) rfl rfl rfl ?_
        refine g_callV X8 hx hZ hown (W := 0) (argsL := [.ref b5]) (b := b7) (rest := []) hby at_152 (pc' := 155) rfl (by rw [hml]; rfl) (w_42 hw) (w_43 hw) (w_45 hw) (notFace_of_selects (args := #[]) (mvT hZ (w_45 hw))) (w_44 hw) (w_33 hw) (w_46 hw) (by decide) (rmSN1 l Z a0 hw [] b7 b5 T8.heap n0 b8 _ _ b6 (chV q2) _ (own_as q2) A8_b6 E8_b6 E8_b5 F8_b5_value F8_b5_coder Z8 Ei8 Fi8_label Fi8_separator Fi8_numberAt A8 nb8_b7.symm (Nat.le_trans Z6 (Nat.le_of_eq hb7.symm)) (Nat.le_trans Z7 G8) cs u8 SS O8) rfl Ei8 (by decide) (by decide) (by decide) (by decide) rfl pd__28Ljava_2flang_2fString_3b_29V rfl rfl (Nat.le_of_eq rfl) ?_
        rintro _ T9 L9 X9 ⟨rfl, N9q, K9, Ei9, Fi9_label, Fi9_separator, Fi9_numberAt, A9⟩
        have N9 := Fr.app N8 N9q
        have O9 := O8.keep K9 (allS (Nat.le_trans Z6 (Nat.le_of_eq hb7.symm)) (allS (Nat.le_trans Z7 G8) all0))
        have Z9 := Nat.le_trans Z8 K9.1
        have E9_b2 := E8_b2.keep K9
        have A9_b2 := A8_b2.keep K9 (ninS ne7_b2 (ninS nb8_b2 nin0))
        have E9_b5 := E8_b5.keep K9
        have F9_b5_value := F8_b5_value.keep K9 (ninS ne7_b5 (ninS nb8_b5 nin0))
        have F9_b5_coder := F8_b5_coder.keep K9 (ninS ne7_b5 (ninS nb8_b5 nin0))
        have A9_b6 := A8_b6.keep K9 (ninS ne7_b6 (ninS nb8_b6 nin0))
        have E9_b6 := E8_b6.keep K9
        have E9_b7 := Ei8.keep K9
        show GoE p e below _ (T9.setTop (mkF m 155 #[.val (.int q1), .val (.int q2), .val (.int q3), .val (.int q4), .val (.int q5), .val (.int q6), .val (.int (spV q1)), .val (.int (q1 &&& (127 : Int32)).toInt8.toInt32), .val (.int (chV q2)), .val (.int (chV q3)), .val (.int (0 : Int32)), .val (.int (1 : Int32)), .val (.ref b5), .val (.int (q5 &&& (2147483647 : Int32))), .val (.int (q6 &&& (2147483647 : Int32))), .val (.ref b7), .unset, .unset] []))
        refine g_aload X9 hx hby at_155 (pc' := 157) rfl rfl rfl ?_
        refine g_iload X9 hx hby at_157 (pc' := 159) rfl rfl ?_
        refine g_callV X9 hx hZ hown (W := 0) (argsL := [.int (q5 &&& (2147483647 : Int32))]) (b := b7) (rest := []) hby at_159 (pc' := 162) rfl (by rw [hml]; rfl) (w_89 hw) (w_90 hw) (w_92 hw) (notFace_of_selects (args := #[]) (mvT hZ (w_92 hw))) (w_91 hw) (w_33 hw) (w_93 hw) (by decide) (rmW1 l Z a0 hw [] b7 (q5 &&& (2147483647 : Int32)) T9.heap n0 b8 _ (lat (chV q2)) (nar .byte (spV q1).toInt8.toInt32) (0 : Int32) (0 : Int32) (0 : Int32) (0 : Int32) (0 : Int32) (0 : Int32) (0 : Int32) (0 : Int32) (0 : Int32) (0 : Int32) (0 : Int32) Ei9 Fi9_label Fi9_numberAt A9 nb8_b7.symm (Nat.le_trans Z7 G8) (own_nn _)) rfl Ei9 (by decide) (by decide) (by decide) (by decide) rfl pd__28I_29I rfl rfl (Nat.le_of_eq rfl) ?_
        rintro _ T10 L10 X10 (⟨t10_0, t10_1, t10_2, t10_3, t10_4, t10_5, t10_6, t10_7, t10_8, t10_9, t10_10, rfl, N10q, K10, A10, D10⟩)
        · have N10 := Fr.app N9 N10q
          have O10 := O9.keep K10 (allS (Nat.le_trans Z7 G8) all0)
          have Z10 := Nat.le_trans Z9 K10.1
          have E10_b2 := E9_b2.keep K10
          have A10_b2 := A9_b2.keep K10 (ninS nb8_b2 nin0)
          have E10_b5 := E9_b5.keep K10
          have F10_b5_value := F9_b5_value.keep K10 (ninS nb8_b5 nin0)
          have F10_b5_coder := F9_b5_coder.keep K10 (ninS nb8_b5 nin0)
          have A10_b6 := A9_b6.keep K10 (ninS nb8_b6 nin0)
          have E10_b6 := E9_b6.keep K10
          have E10_b7 := Ei9.keep K10
          have F10_b7_label := Fi9_label.keep K10 (ninS nb8_b7 nin0)
          have F10_b7_separator := Fi9_separator.keep K10 (ninS nb8_b7 nin0)
          have F10_b7_numberAt := Fi9_numberAt.keep K10 (ninS nb8_b7 nin0)
          show GoE p e below _ (T10.setTop (mkF m 162 #[.val (.int q1), .val (.int q2), .val (.int q3), .val (.int q4), .val (.int q5), .val (.int q6), .val (.int (spV q1)), .val (.int (q1 &&& (127 : Int32)).toInt8.toInt32), .val (.int (chV q2)), .val (.int (chV q3)), .val (.int (0 : Int32)), .val (.int (1 : Int32)), .val (.ref b5), .val (.int (q5 &&& (2147483647 : Int32))), .val (.int (q6 &&& (2147483647 : Int32))), .val (.ref b7), .unset, .unset] [.int ((2 : Int32) + (digV (q5 &&& (2147483647 : Int32))))]))
          refine g_istore X10 hx hby at_162 (pc' := 164) rfl (l' := #[.val (.int q1), .val (.int q2), .val (.int q3), .val (.int q4), .val (.int q5), .val (.int q6), .val (.int (spV q1)), .val (.int (q1 &&& (127 : Int32)).toInt8.toInt32), .val (.int (chV q2)), .val (.int (chV q3)), .val (.int (0 : Int32)), .val (.int (1 : Int32)), .val (.ref b5), .val (.int (q5 &&& (2147483647 : Int32))), .val (.int (q6 &&& (2147483647 : Int32))), .val (.ref b7), .val (.int ((2 : Int32) + (digV (q5 &&& (2147483647 : Int32))))), .unset]) rfl ?_
          refine g_aload X10 hx hby at_164 (pc' := 166) rfl rfl rfl ?_
          refine g_iload X10 hx hby at_166 (pc' := 168) rfl rfl ?_
          refine g_iload X10 hx hby at_168 (pc' := 170) rfl rfl ?_
          refine g_iload X10 hx hby at_170 (pc' := 172) rfl rfl ?_
          refine g_iload X10 hx hby at_172 (pc' := 174) rfl rfl ?_
          refine g_iload X10 hx hby at_174 (pc' := 176) rfl rfl ?_
          refine g_iload X10 hx hby at_176 (pc' := 178) rfl rfl ?_
          refine g_callS X10 hx hZ hown (W := 0) (argsL := [.ref b7, .int ((2 : Int32) + (digV (q5 &&& (2147483647 : Int32)))), .int (1 : Int32), .int (chV q2), .int (chV q3), .int (q1 &&& (127 : Int32)).toInt8.toInt32, .int (q5 &&& (2147483647 : Int32))]) (rest := []) hby at_178 (pc' := 181) rfl (by rw [hml]; rfl) (w_94 hw) (w_95 hw) (w_96 hw) (w_97 hw) (by decide) (rmCK1 l Z a0 hw [] b7 ((2 : Int32) + (digV (q5 &&& (2147483647 : Int32)))) (chV q2) (chV q3) (q1 &&& (127 : Int32)).toInt8.toInt32 (q5 &&& (2147483647 : Int32)) T10.heap n0 b8 _ (lat (chV q2)) (nar .byte (spV q1).toInt8.toInt32) t10_0 t10_1 t10_2 t10_3 t10_4 t10_5 t10_6 t10_7 t10_8 t10_9 t10_10 E10_b7 F10_b7_label A10 rfl (own_nb _) trivial (own_sep _) D10 (own_nn _)) rfl (by decide) (by decide) (by decide) (by decide) rfl pd__28Lcom_2fexample_2fastilla_2fastilla_2fPointLabels_3bIICCBI_29Z rfl rfl (Nat.le_of_eq rfl) ?_
          rintro _ T11 L11 X11 ⟨rfl, N11q, e11⟩
          have N11 := Fr.app N10 N11q
          show GoE p e below _ (T11.setTop (mkF m 181 #[.val (.int q1), .val (.int q2), .val (.int q3), .val (.int q4), .val (.int q5), .val (.int q6), .val (.int (spV q1)), .val (.int (q1 &&& (127 : Int32)).toInt8.toInt32), .val (.int (chV q2)), .val (.int (chV q3)), .val (.int (0 : Int32)), .val (.int (1 : Int32)), .val (.ref b5), .val (.int (q5 &&& (2147483647 : Int32))), .val (.int (q6 &&& (2147483647 : Int32))), .val (.ref b7), .val (.int ((2 : Int32) + (digV (q5 &&& (2147483647 : Int32))))), .unset] [.int (1 : Int32)]))
          refine g_if_ne X11 hx hby at_181 (by decide) (pc' := 186) (by decide) (pn := 184) rfl (fun _ => ?_) (fun z => absurd z (by decide))
          refine g_aload X11 hx hby at_186 (pc' := 188) rfl rfl rfl ?_
          refine g_iload X11 hx hby at_188 (pc' := 190) rfl rfl ?_
          refine g_callV X11 hx hZ hown (W := 0) (argsL := [.int (q6 &&& (2147483647 : Int32))]) (b := b7) (rest := []) hby at_190 (pc' := 193) rfl (by rw [hml]; rfl) (w_89 hw) (w_90 hw) (w_92 hw) (notFace_of_selects (args := #[]) (mvT hZ (w_92 hw))) (w_91 hw) (w_33 hw) (w_93 hw) (by decide) (rmW1 l Z a0 hw [] b7 (q6 &&& (2147483647 : Int32)) T10.heap n0 b8 _ (lat (chV q2)) (nar .byte (spV q1).toInt8.toInt32) t10_0 t10_1 t10_2 t10_3 t10_4 t10_5 t10_6 t10_7 t10_8 t10_9 t10_10 E10_b7 F10_b7_label F10_b7_numberAt A10 nb8_b7.symm (Nat.le_trans Z7 G8) (own_nn _)) e11 E10_b7 (by decide) (by decide) (by decide) (by decide) rfl pd__28I_29I rfl rfl (Nat.le_of_eq rfl) ?_
          rintro _ T12 L12 X12 (⟨t12_0, t12_1, t12_2, t12_3, t12_4, t12_5, t12_6, t12_7, t12_8, t12_9, t12_10, rfl, N12q, K12, A12, D12⟩)
          · have N12 := Fr.app N11 N12q
            have O12 := O10.keep K12 (allS (Nat.le_trans Z7 G8) all0)
            have Z12 := Nat.le_trans Z10 K12.1
            have E12_b2 := E10_b2.keep K12
            have A12_b2 := A10_b2.keep K12 (ninS nb8_b2 nin0)
            have E12_b5 := E10_b5.keep K12
            have F12_b5_value := F10_b5_value.keep K12 (ninS nb8_b5 nin0)
            have F12_b5_coder := F10_b5_coder.keep K12 (ninS nb8_b5 nin0)
            have A12_b6 := A10_b6.keep K12 (ninS nb8_b6 nin0)
            have E12_b6 := E10_b6.keep K12
            have E12_b7 := E10_b7.keep K12
            have F12_b7_label := F10_b7_label.keep K12 (ninS nb8_b7 nin0)
            have F12_b7_separator := F10_b7_separator.keep K12 (ninS nb8_b7 nin0)
            have F12_b7_numberAt := F10_b7_numberAt.keep K12 (ninS nb8_b7 nin0)
            show GoE p e below _ (T12.setTop (mkF m 193 #[.val (.int q1), .val (.int q2), .val (.int q3), .val (.int q4), .val (.int q5), .val (.int q6), .val (.int (spV q1)), .val (.int (q1 &&& (127 : Int32)).toInt8.toInt32), .val (.int (chV q2)), .val (.int (chV q3)), .val (.int (0 : Int32)), .val (.int (1 : Int32)), .val (.ref b5), .val (.int (q5 &&& (2147483647 : Int32))), .val (.int (q6 &&& (2147483647 : Int32))), .val (.ref b7), .val (.int ((2 : Int32) + (digV (q5 &&& (2147483647 : Int32))))), .unset] [.int ((2 : Int32) + (digV (q6 &&& (2147483647 : Int32))))]))
            refine g_istore X12 hx hby at_193 (pc' := 195) rfl (l' := #[.val (.int q1), .val (.int q2), .val (.int q3), .val (.int q4), .val (.int q5), .val (.int q6), .val (.int (spV q1)), .val (.int (q1 &&& (127 : Int32)).toInt8.toInt32), .val (.int (chV q2)), .val (.int (chV q3)), .val (.int (0 : Int32)), .val (.int (1 : Int32)), .val (.ref b5), .val (.int (q5 &&& (2147483647 : Int32))), .val (.int (q6 &&& (2147483647 : Int32))), .val (.ref b7), .val (.int ((2 : Int32) + (digV (q5 &&& (2147483647 : Int32))))), .val (.int ((2 : Int32) + (digV (q6 &&& (2147483647 : Int32)))))]) rfl ?_
            refine g_aload X12 hx hby at_195 (pc' := 197) rfl rfl rfl ?_
            refine g_iload X12 hx hby at_197 (pc' := 199) rfl rfl ?_
            refine g_iload X12 hx hby at_199 (pc' := 201) rfl rfl ?_
            refine g_iload X12 hx hby at_201 (pc' := 203) rfl rfl ?_
            refine g_iload X12 hx hby at_203 (pc' := 205) rfl rfl ?_
            refine g_iload X12 hx hby at_205 (pc' := 207) rfl rfl ?_
            refine g_iload X12 hx hby at_207 (pc' := 209) rfl rfl ?_
            refine g_callS X12 hx hZ hown (W := 0) (argsL := [.ref b7, .int ((2 : Int32) + (digV (q6 &&& (2147483647 : Int32)))), .int (1 : Int32), .int (chV q2), .int (chV q3), .int (q1 &&& (127 : Int32)).toInt8.toInt32, .int (q6 &&& (2147483647 : Int32))]) (rest := []) hby at_209 (pc' := 212) rfl (by rw [hml]; rfl) (w_94 hw) (w_95 hw) (w_96 hw) (w_97 hw) (by decide) (rmCK1 l Z a0 hw [] b7 ((2 : Int32) + (digV (q6 &&& (2147483647 : Int32)))) (chV q2) (chV q3) (q1 &&& (127 : Int32)).toInt8.toInt32 (q6 &&& (2147483647 : Int32)) T12.heap n0 b8 _ (lat (chV q2)) (nar .byte (spV q1).toInt8.toInt32) t12_0 t12_1 t12_2 t12_3 t12_4 t12_5 t12_6 t12_7 t12_8 t12_9 t12_10 E12_b7 F12_b7_label A12 rfl (own_nb _) trivial (own_sep _) D12 (own_nn _)) rfl (by decide) (by decide) (by decide) (by decide) rfl pd__28Lcom_2fexample_2fastilla_2fastilla_2fPointLabels_3bIICCBI_29Z rfl rfl (Nat.le_of_eq rfl) ?_
            rintro _ T13 L13 X13 ⟨rfl, N13q, e13⟩
            have N13 := Fr.app N12 N13q
            show GoE p e below _ (T13.setTop (mkF m 212 #[.val (.int q1), .val (.int q2), .val (.int q3), .val (.int q4), .val (.int q5), .val (.int q6), .val (.int (spV q1)), .val (.int (q1 &&& (127 : Int32)).toInt8.toInt32), .val (.int (chV q2)), .val (.int (chV q3)), .val (.int (0 : Int32)), .val (.int (1 : Int32)), .val (.ref b5), .val (.int (q5 &&& (2147483647 : Int32))), .val (.int (q6 &&& (2147483647 : Int32))), .val (.ref b7), .val (.int ((2 : Int32) + (digV (q5 &&& (2147483647 : Int32))))), .val (.int ((2 : Int32) + (digV (q6 &&& (2147483647 : Int32)))))] [.int (1 : Int32)]))
            exact g_retN (Q := (fun v h L => v = some (.int 1) ∧ Fr n0 L)) (w := (1 : Int32)) X13 hx hby at_212 hret (by simp) (by first | decide | rfl) hlk (by decide) (by decide) ⟨rfl, N13⟩
  · refine g_iconst X0 hx hby at_46 (pc' := 47) rfl (z := (1 : Int32)) rfl ?_
    refine g_goto X0 hx hby at_47 (by decide) (pc' := 51) (by decide) ?_
    refine g_istore X0 hx hby at_51 (pc' := 53) rfl (l' := #[.val (.int q1), .val (.int q2), .val (.int q3), .val (.int q4), .val (.int q5), .val (.int q6), .val (.int (spV q1)), .val (.int (q1 &&& (127 : Int32)).toInt8.toInt32), .val (.int (chV q2)), .val (.int (chV q3)), .val (.int (1 : Int32)), .unset, .unset, .unset, .unset, .unset, .unset, .unset]) rfl ?_
    refine g_iload X0 hx hby at_53 (pc' := 55) rfl rfl ?_
    refine g_if_eq X0 hx hby at_55 (by decide) (pc' := 62) (by decide) (pn := 58) rfl (fun z => absurd z (by decide)) (fun _ => ?_)
    refine g_iconst X0 hx hby at_58 (pc' := 59) rfl (z := (2 : Int32)) rfl ?_
    refine g_goto X0 hx hby at_59 (by decide) (pc' := 63) (by decide) ?_
    refine g_istore X0 hx hby at_63 (pc' := 65) rfl (l' := #[.val (.int q1), .val (.int q2), .val (.int q3), .val (.int q4), .val (.int q5), .val (.int q6), .val (.int (spV q1)), .val (.int (q1 &&& (127 : Int32)).toInt8.toInt32), .val (.int (chV q2)), .val (.int (chV q3)), .val (.int (1 : Int32)), .val (.int (2 : Int32)), .unset, .unset, .unset, .unset, .unset, .unset]) rfl ?_
    refine g_iload X0 hx hby at_65 (pc' := 67) rfl rfl ?_
    refine g_if_eq X0 hx hby at_67 (by decide) (pc' := 101) (by decide) (pn := 70) rfl (fun z => absurd z (by decide)) (fun _ => ?_)
    refine g_iconst X0 hx hby at_70 (pc' := 71) rfl (z := (2 : Int32)) rfl ?_
    refine g_newarray X0 hx hZ 2  "[C" hby at_71 (pc' := 73) rfl (w_1 hw) e0 (by decide) (by decide) (by decide) (by decide) (by decide) rfl ?_
    intro T14 b14 c14 hb14 X14 E14 A14v A14x
    have O14o := O0.ext E14
    have Z14 := Nat.le_trans Z0 E14.1
    have A14 : Arv Z T14.heap b14 c14 .char (2 : Int32) [.int 0, .int 0] (.int 0) := A14v
    refine g_astore X14 hx hby at_73 (pc' := 75) rfl rfl (l' := #[.val (.int q1), .val (.int q2), .val (.int q3), .val (.int q4), .val (.int q5), .val (.int q6), .val (.int (spV q1)), .val (.int (q1 &&& (127 : Int32)).toInt8.toInt32), .val (.int (chV q2)), .val (.int (chV q3)), .val (.int (1 : Int32)), .val (.int (2 : Int32)), .unset, .val (.ref b14), .unset, .unset, .unset, .unset]) rfl ?_
    refine g_aload X14 hx hby at_75 (pc' := 77) rfl rfl rfl ?_
    refine g_iconst X14 hx hby at_77 (pc' := 78) rfl (z := (0 : Int32)) rfl ?_
    refine g_iload X14 hx hby at_78 (pc' := 80) rfl rfl ?_
    refine g_castore X14 hx hZ 0 hby at_80 (pc' := 81) rfl rfl A14 (by decide) (by decide) (by first | decide | simp) ?_
    intro T15 X15 W15 A15v
    have N15 := Fr.snoc X15 N0 (Nat.le_trans Z0 (Nat.le_of_eq hb14.symm))
    have O15 := O14o.wr W15 (Nat.le_trans Z0 (Nat.le_of_eq hb14.symm))
    have Z15 : n0 ≤ T15.heap.size := (W15.size ▸ Z14)
    have E15_b14 := A14x.wr W15
    have A15 : Arv Z T15.heap b14 c14 .char (2 : Int32) [.int (nar .char (chV q2)), .int 0] (.int 0) := A15v
    refine g_aload X15 hx hby at_81 (pc' := 83) rfl rfl rfl ?_
    refine g_iconst X15 hx hby at_83 (pc' := 84) rfl (z := (1 : Int32)) rfl ?_
    refine g_iload X15 hx hby at_84 (pc' := 86) rfl rfl ?_
    refine g_castore X15 hx hZ 1 hby at_86 (pc' := 87) rfl rfl A15 (by decide) (by decide) (by first | decide | simp) ?_
    intro T16 X16 W16 A16v
    have N16 := Fr.snoc X16 N15 (Nat.le_trans Z0 (Nat.le_of_eq hb14.symm))
    have O16 := O15.wr W16 (Nat.le_trans Z0 (Nat.le_of_eq hb14.symm))
    have Z16 : n0 ≤ T16.heap.size := (W16.size ▸ Z15)
    have E16_b14 := E15_b14.wr W16
    have A16 : Arv Z T16.heap b14 c14 .char (2 : Int32) [.int (nar .char (chV q2)), .int (nar .char (chV q3))] (.int 0) := A16v
    have A17 : Arv Z T16.heap b14 c14 .char (2 : Int32) [.int (chV q2), .int (chV q3)] (.int 0) := by
      have z := A16
      rw [own_narc (own_as q2), own_narc (own_as q3)] at z
      exact z
    refine g_new X16 hx hZ hown hby at_87 (pc' := 90) rfl (w_2 hw) (w_3 hw) (w_4 hw) rfl (by decide) (by decide) ?_
    intro T18 b18 hb18 X18 E18 A18 D18
    have O18o := O16.ext E18
    have Z18 := Nat.le_trans Z16 E18.1
    have E18_b14 := E16_b14.ext E18
    have ne18_b14 : b14 ≠ b18 := hb18 ▸ Nat.ne_of_lt E16_b14.lt
    have A18_b14 := A17.ext E18
    have F18_coder : Fld Z T18.heap b18 "java/lang/String" "coder" "B" (.int (0 : Int32)) := D18 (Or.inr (w_28 hw)) (ty := .byte) (by decide)
    have F18_value : Fld Z T18.heap b18 "java/lang/String" "value" "[B" (.null) := D18 (Or.inr (w_30 hw)) (ty := (.array .byte)) (by decide)
    refine g_dup X18 hx hby at_90 (pc' := 91) rfl rfl ?_
    refine g_aload X18 hx hby at_91 (pc' := 93) rfl rfl rfl ?_
    refine g_callI X18 hx hZ hown (W := 1) (argsL := [.ref b14]) (b := b18) (rest := [.ref b18]) hby at_93 (pc' := 96) rfl (by rw [hml]; rfl) (w_5 hw) (w_6 hw) (w_4 hw) (w_7 hw) rfl (by decide) (rmS12 l Z a0 hw [] b18 b14 T18.heap n0 (chV q2) (chV q3) _ A18_b14 (own_as q2) (own_as q3) _ _ Z18 A18 F18_value F18_coder ne18_b14 (Nat.le_trans Z16 (Nat.le_of_eq hb18.symm)) cs u8 SS O18o) rfl (by decide) (by decide) (by decide) (by decide) rfl pd__28_5bC_29V rfl rfl (Nat.le_of_eq rfl) ?_
    rintro _ T19 L19 X19 (⟨b19, k19, rfl, N19q, K19, Ei19, Fv19, Fc19, G19, A19, Ex19⟩)
    · have N19 := Fr.app N16 N19q
      have nb19_b14 : b14 ≠ b19 := Nat.ne_of_lt (Nat.lt_of_lt_of_le E18_b14.lt G19)
      have nb19_b18 : b18 ≠ b19 := Nat.ne_of_lt (Nat.lt_of_lt_of_le A18.lt G19)
      have O19 := O18o.keep K19 (allS (Nat.le_trans Z16 (Nat.le_of_eq hb18.symm)) all0)
      have Z19 := Nat.le_trans Z18 K19.1
      have E19_b14 := E18_b14.keep K19
      have A19_b14 := A18_b14.keep K19 (ninS ne18_b14 nin0)
      have E19_b18 := A18.keep K19
      show GoE p e below _ (T19.setTop (mkF m 96 #[.val (.int q1), .val (.int q2), .val (.int q3), .val (.int q4), .val (.int q5), .val (.int q6), .val (.int (spV q1)), .val (.int (q1 &&& (127 : Int32)).toInt8.toInt32), .val (.int (chV q2)), .val (.int (chV q3)), .val (.int (1 : Int32)), .val (.int (2 : Int32)), .unset, .val (.ref b14), .unset, .unset, .unset, .unset] [.ref b18]))
      refine g_astore X19 hx hby at_96 (pc' := 98) rfl rfl (l' := #[.val (.int q1), .val (.int q2), .val (.int q3), .val (.int q4), .val (.int q5), .val (.int q6), .val (.int (spV q1)), .val (.int (q1 &&& (127 : Int32)).toInt8.toInt32), .val (.int (chV q2)), .val (.int (chV q3)), .val (.int (1 : Int32)), .val (.int (2 : Int32)), .val (.ref b18), .val (.ref b14), .unset, .unset, .unset, .unset]) rfl ?_
      refine g_goto X19 hx hby at_98 (by decide) (pc' := 123) (by decide) ?_
      refine g_iload X19 hx hby at_123 (pc' := 125) rfl rfl ?_
      refine g_ldcI X19 hx hZ hown hby at_125 (pc' := 127) rfl (w_0 hw) ?_
      refine g_iand X19 hx hby at_127 (pc' := 128) rfl ?_
      refine g_istore X19 hx hby at_128 (pc' := 130) rfl (l' := #[.val (.int q1), .val (.int q2), .val (.int q3), .val (.int q4), .val (.int q5), .val (.int q6), .val (.int (spV q1)), .val (.int (q1 &&& (127 : Int32)).toInt8.toInt32), .val (.int (chV q2)), .val (.int (chV q3)), .val (.int (1 : Int32)), .val (.int (2 : Int32)), .val (.ref b18), .val (.int (q5 &&& (2147483647 : Int32))), .unset, .unset, .unset, .unset]) rfl ?_
      refine g_iload X19 hx hby at_130 (pc' := 132) rfl rfl ?_
      refine g_ldcI X19 hx hZ hown hby at_132 (pc' := 134) rfl (w_0 hw) ?_
      refine g_iand X19 hx hby at_134 (pc' := 135) rfl ?_
      refine g_istore X19 hx hby at_135 (pc' := 137) rfl (l' := #[.val (.int q1), .val (.int q2), .val (.int q3), .val (.int q4), .val (.int q5), .val (.int q6), .val (.int (spV q1)), .val (.int (q1 &&& (127 : Int32)).toInt8.toInt32), .val (.int (chV q2)), .val (.int (chV q3)), .val (.int (1 : Int32)), .val (.int (2 : Int32)), .val (.ref b18), .val (.int (q5 &&& (2147483647 : Int32))), .val (.int (q6 &&& (2147483647 : Int32))), .unset, .unset, .unset]) rfl ?_
      refine g_new X19 hx hZ hown hby at_137 (pc' := 140) rfl (w_31 hw) (w_32 hw) (w_33 hw) rfl (by decide) (by decide) ?_
      intro T20 b20 hb20 X20 E20 A20 D20
      have O20o := O19.ext E20
      have Z20 := Nat.le_trans Z19 E20.1
      have E20_b14 := E19_b14.ext E20
      have ne20_b14 : b14 ≠ b20 := hb20 ▸ Nat.ne_of_lt E19_b14.lt
      have A20_b14 := A19_b14.ext E20
      have E20_b18 := Ei19.ext E20
      have ne20_b18 : b18 ≠ b20 := hb20 ▸ Nat.ne_of_lt Ei19.lt
      have F20_b18_value := Fv19.ext E20
      have F20_b18_coder := Fc19.ext E20
      have A20_b19 := A19.ext E20
      have ne20_b19 : b19 ≠ b20 := hb20 ▸ Nat.ne_of_lt A19.lt
      have E20_b19 := Ex19.ext E20
      have F20_numberAt : Fld Z T20.heap b20 "com/example/astilla/astilla/PointLabels" "numberAt" "I" (.int (0 : Int32)) := D20 (Or.inl (w_88 hw)) (ty := .int) (by decide)
      have F20_label : Fld Z T20.heap b20 "com/example/astilla/astilla/PointLabels" "label" "[B" (.null) := D20 (Or.inr (w_39 hw)) (ty := (.array .byte)) (by decide)
      have F20_separator : Fld Z T20.heap b20 "com/example/astilla/astilla/PointLabels" "separator" "B" (.int (0 : Int32)) := D20 (Or.inr (w_41 hw)) (ty := .byte) (by decide)
      refine g_dup X20 hx hby at_140 (pc' := 141) rfl rfl ?_
      refine g_iload X20 hx hby at_141 (pc' := 143) rfl rfl ?_
      refine g_callI X20 hx hZ hown (W := 1) (argsL := [.int (spV q1)]) (b := b20) (rest := [.ref b20]) hby at_143 (pc' := 146) rfl (by rw [hml]; rfl) (w_34 hw) (w_35 hw) (w_33 hw) (w_36 hw) rfl (by decide) (rmPI l Z a0 hw [] b20 (spV q1) T20.heap n0 _ _ Z20 A20 F20_label F20_separator F20_numberAt (Nat.le_trans Z19 (Nat.le_of_eq hb20.symm))) rfl (by decide) (by decide) (by decide) (by decide) rfl pd__28C_29V rfl rfl (Nat.le_of_eq rfl) ?_
      rintro _ T21 L21 X21 (⟨b21, k21, rfl, N21q, K21, Ei21, Fi21_label, Fi21_separator, Fi21_numberAt, G21, A21⟩)
      · have N21 := Fr.app N19 N21q
        have nb21_b14 : b14 ≠ b21 := Nat.ne_of_lt (Nat.lt_of_lt_of_le E20_b14.lt G21)
        have nb21_b18 : b18 ≠ b21 := Nat.ne_of_lt (Nat.lt_of_lt_of_le E20_b18.lt G21)
        have nb21_b19 : b19 ≠ b21 := Nat.ne_of_lt (Nat.lt_of_lt_of_le A20_b19.lt G21)
        have nb21_b20 : b20 ≠ b21 := Nat.ne_of_lt (Nat.lt_of_lt_of_le A20.lt G21)
        have O21 := O20o.keep K21 (allS (Nat.le_trans Z19 (Nat.le_of_eq hb20.symm)) all0)
        have Z21 := Nat.le_trans Z20 K21.1
        have E21_b14 := E20_b14.keep K21
        have A21_b14 := A20_b14.keep K21 (ninS ne20_b14 nin0)
        have E21_b18 := E20_b18.keep K21
        have F21_b18_value := F20_b18_value.keep K21 (ninS ne20_b18 nin0)
        have F21_b18_coder := F20_b18_coder.keep K21 (ninS ne20_b18 nin0)
        have A21_b19 := A20_b19.keep K21 (ninS ne20_b19 nin0)
        have E21_b19 := E20_b19.keep K21
        have E21_b20 := A20.keep K21
        show GoE p e below _ (T21.setTop (mkF m 146 #[.val (.int q1), .val (.int q2), .val (.int q3), .val (.int q4), .val (.int q5), .val (.int q6), .val (.int (spV q1)), .val (.int (q1 &&& (127 : Int32)).toInt8.toInt32), .val (.int (chV q2)), .val (.int (chV q3)), .val (.int (1 : Int32)), .val (.int (2 : Int32)), .val (.ref b18), .val (.int (q5 &&& (2147483647 : Int32))), .val (.int (q6 &&& (2147483647 : Int32))), .unset, .unset, .unset] [.ref b20]))
        refine g_astore X21 hx hby at_146 (pc' := 148) rfl rfl (l' := #[.val (.int q1), .val (.int q2), .val (.int q3), .val (.int q4), .val (.int q5), .val (.int q6), .val (.int (spV q1)), .val (.int (q1 &&& (127 : Int32)).toInt8.toInt32), .val (.int (chV q2)), .val (.int (chV q3)), .val (.int (1 : Int32)), .val (.int (2 : Int32)), .val (.ref b18), .val (.int (q5 &&& (2147483647 : Int32))), .val (.int (q6 &&& (2147483647 : Int32))), .val (.ref b20), .unset, .unset]) rfl ?_
        refine g_aload X21 hx hby at_148 (pc' := 150) rfl rfl rfl ?_
        refine g_aload X21 hx hby at_150 (pc' := 152) rfl rfl rfl ?_
        refine g_callV X21 hx hZ hown (W := 0) (argsL := [.ref b18]) (b := b20) (rest := []) hby at_152 (pc' := 155) rfl (by rw [hml]; rfl) (w_42 hw) (w_43 hw) (w_45 hw) (notFace_of_selects (args := #[]) (mvT hZ (w_45 hw))) (w_44 hw) (w_33 hw) (w_46 hw) (by decide) (rmSN2 l Z a0 hw [] b20 b18 T21.heap n0 b21 _ _ b19 (chV q2) (chV q3) _ (own_as q2) (own_as q3) A21_b19 E21_b19 E21_b18 F21_b18_value F21_b18_coder Z21 Ei21 Fi21_label Fi21_separator Fi21_numberAt A21 nb21_b20.symm (Nat.le_trans Z19 (Nat.le_of_eq hb20.symm)) (Nat.le_trans Z20 G21) cs u8 SS O21) rfl Ei21 (by decide) (by decide) (by decide) (by decide) rfl pd__28Ljava_2flang_2fString_3b_29V rfl rfl (Nat.le_of_eq rfl) ?_
        rintro _ T22 L22 X22 ⟨rfl, N22q, K22, Ei22, Fi22_label, Fi22_separator, Fi22_numberAt, A22⟩
        have N22 := Fr.app N21 N22q
        have O22 := O21.keep K22 (allS (Nat.le_trans Z19 (Nat.le_of_eq hb20.symm)) (allS (Nat.le_trans Z20 G21) all0))
        have Z22 := Nat.le_trans Z21 K22.1
        have E22_b14 := E21_b14.keep K22
        have A22_b14 := A21_b14.keep K22 (ninS ne20_b14 (ninS nb21_b14 nin0))
        have E22_b18 := E21_b18.keep K22
        have F22_b18_value := F21_b18_value.keep K22 (ninS ne20_b18 (ninS nb21_b18 nin0))
        have F22_b18_coder := F21_b18_coder.keep K22 (ninS ne20_b18 (ninS nb21_b18 nin0))
        have A22_b19 := A21_b19.keep K22 (ninS ne20_b19 (ninS nb21_b19 nin0))
        have E22_b19 := E21_b19.keep K22
        have E22_b20 := Ei21.keep K22
        show GoE p e below _ (T22.setTop (mkF m 155 #[.val (.int q1), .val (.int q2), .val (.int q3), .val (.int q4), .val (.int q5), .val (.int q6), .val (.int (spV q1)), .val (.int (q1 &&& (127 : Int32)).toInt8.toInt32), .val (.int (chV q2)), .val (.int (chV q3)), .val (.int (1 : Int32)), .val (.int (2 : Int32)), .val (.ref b18), .val (.int (q5 &&& (2147483647 : Int32))), .val (.int (q6 &&& (2147483647 : Int32))), .val (.ref b20), .unset, .unset] []))
        refine g_aload X22 hx hby at_155 (pc' := 157) rfl rfl rfl ?_
        refine g_iload X22 hx hby at_157 (pc' := 159) rfl rfl ?_
        refine g_callV X22 hx hZ hown (W := 0) (argsL := [.int (q5 &&& (2147483647 : Int32))]) (b := b20) (rest := []) hby at_159 (pc' := 162) rfl (by rw [hml]; rfl) (w_89 hw) (w_90 hw) (w_92 hw) (notFace_of_selects (args := #[]) (mvT hZ (w_92 hw))) (w_91 hw) (w_33 hw) (w_93 hw) (by decide) (rmW2 l Z a0 hw [] b20 (q5 &&& (2147483647 : Int32)) T22.heap n0 b21 _ (lat (chV q2)) (lat (chV q3)) (nar .byte (spV q1).toInt8.toInt32) (0 : Int32) (0 : Int32) (0 : Int32) (0 : Int32) (0 : Int32) (0 : Int32) (0 : Int32) (0 : Int32) (0 : Int32) (0 : Int32) Ei22 Fi22_label Fi22_numberAt A22 nb21_b20.symm (Nat.le_trans Z20 G21) (own_nn _)) rfl Ei22 (by decide) (by decide) (by decide) (by decide) rfl pd__28I_29I rfl rfl (Nat.le_of_eq rfl) ?_
        rintro _ T23 L23 X23 (⟨t23_0, t23_1, t23_2, t23_3, t23_4, t23_5, t23_6, t23_7, t23_8, t23_9, rfl, N23q, K23, A23, D23⟩)
        · have N23 := Fr.app N22 N23q
          have O23 := O22.keep K23 (allS (Nat.le_trans Z20 G21) all0)
          have Z23 := Nat.le_trans Z22 K23.1
          have E23_b14 := E22_b14.keep K23
          have A23_b14 := A22_b14.keep K23 (ninS nb21_b14 nin0)
          have E23_b18 := E22_b18.keep K23
          have F23_b18_value := F22_b18_value.keep K23 (ninS nb21_b18 nin0)
          have F23_b18_coder := F22_b18_coder.keep K23 (ninS nb21_b18 nin0)
          have A23_b19 := A22_b19.keep K23 (ninS nb21_b19 nin0)
          have E23_b19 := E22_b19.keep K23
          have E23_b20 := Ei22.keep K23
          have F23_b20_label := Fi22_label.keep K23 (ninS nb21_b20 nin0)
          have F23_b20_separator := Fi22_separator.keep K23 (ninS nb21_b20 nin0)
          have F23_b20_numberAt := Fi22_numberAt.keep K23 (ninS nb21_b20 nin0)
          show GoE p e below _ (T23.setTop (mkF m 162 #[.val (.int q1), .val (.int q2), .val (.int q3), .val (.int q4), .val (.int q5), .val (.int q6), .val (.int (spV q1)), .val (.int (q1 &&& (127 : Int32)).toInt8.toInt32), .val (.int (chV q2)), .val (.int (chV q3)), .val (.int (1 : Int32)), .val (.int (2 : Int32)), .val (.ref b18), .val (.int (q5 &&& (2147483647 : Int32))), .val (.int (q6 &&& (2147483647 : Int32))), .val (.ref b20), .unset, .unset] [.int ((3 : Int32) + (digV (q5 &&& (2147483647 : Int32))))]))
          refine g_istore X23 hx hby at_162 (pc' := 164) rfl (l' := #[.val (.int q1), .val (.int q2), .val (.int q3), .val (.int q4), .val (.int q5), .val (.int q6), .val (.int (spV q1)), .val (.int (q1 &&& (127 : Int32)).toInt8.toInt32), .val (.int (chV q2)), .val (.int (chV q3)), .val (.int (1 : Int32)), .val (.int (2 : Int32)), .val (.ref b18), .val (.int (q5 &&& (2147483647 : Int32))), .val (.int (q6 &&& (2147483647 : Int32))), .val (.ref b20), .val (.int ((3 : Int32) + (digV (q5 &&& (2147483647 : Int32))))), .unset]) rfl ?_
          refine g_aload X23 hx hby at_164 (pc' := 166) rfl rfl rfl ?_
          refine g_iload X23 hx hby at_166 (pc' := 168) rfl rfl ?_
          refine g_iload X23 hx hby at_168 (pc' := 170) rfl rfl ?_
          refine g_iload X23 hx hby at_170 (pc' := 172) rfl rfl ?_
          refine g_iload X23 hx hby at_172 (pc' := 174) rfl rfl ?_
          refine g_iload X23 hx hby at_174 (pc' := 176) rfl rfl ?_
          refine g_iload X23 hx hby at_176 (pc' := 178) rfl rfl ?_
          refine g_callS X23 hx hZ hown (W := 0) (argsL := [.ref b20, .int ((3 : Int32) + (digV (q5 &&& (2147483647 : Int32)))), .int (2 : Int32), .int (chV q2), .int (chV q3), .int (q1 &&& (127 : Int32)).toInt8.toInt32, .int (q5 &&& (2147483647 : Int32))]) (rest := []) hby at_178 (pc' := 181) rfl (by rw [hml]; rfl) (w_94 hw) (w_95 hw) (w_96 hw) (w_97 hw) (by decide) (rmCK2 l Z a0 hw [] b20 ((3 : Int32) + (digV (q5 &&& (2147483647 : Int32)))) (chV q2) (chV q3) (q1 &&& (127 : Int32)).toInt8.toInt32 (q5 &&& (2147483647 : Int32)) T23.heap n0 b21 _ (lat (chV q2)) (lat (chV q3)) (nar .byte (spV q1).toInt8.toInt32) t23_0 t23_1 t23_2 t23_3 t23_4 t23_5 t23_6 t23_7 t23_8 t23_9 E23_b20 F23_b20_label A23 rfl (own_nb _) (own_nb _) (own_sep _) D23 (own_nn _)) rfl (by decide) (by decide) (by decide) (by decide) rfl pd__28Lcom_2fexample_2fastilla_2fastilla_2fPointLabels_3bIICCBI_29Z rfl rfl (Nat.le_of_eq rfl) ?_
          rintro _ T24 L24 X24 ⟨rfl, N24q, e24⟩
          have N24 := Fr.app N23 N24q
          show GoE p e below _ (T24.setTop (mkF m 181 #[.val (.int q1), .val (.int q2), .val (.int q3), .val (.int q4), .val (.int q5), .val (.int q6), .val (.int (spV q1)), .val (.int (q1 &&& (127 : Int32)).toInt8.toInt32), .val (.int (chV q2)), .val (.int (chV q3)), .val (.int (1 : Int32)), .val (.int (2 : Int32)), .val (.ref b18), .val (.int (q5 &&& (2147483647 : Int32))), .val (.int (q6 &&& (2147483647 : Int32))), .val (.ref b20), .val (.int ((3 : Int32) + (digV (q5 &&& (2147483647 : Int32))))), .unset] [.int (1 : Int32)]))
          refine g_if_ne X24 hx hby at_181 (by decide) (pc' := 186) (by decide) (pn := 184) rfl (fun _ => ?_) (fun z => absurd z (by decide))
          refine g_aload X24 hx hby at_186 (pc' := 188) rfl rfl rfl ?_
          refine g_iload X24 hx hby at_188 (pc' := 190) rfl rfl ?_
          refine g_callV X24 hx hZ hown (W := 0) (argsL := [.int (q6 &&& (2147483647 : Int32))]) (b := b20) (rest := []) hby at_190 (pc' := 193) rfl (by rw [hml]; rfl) (w_89 hw) (w_90 hw) (w_92 hw) (notFace_of_selects (args := #[]) (mvT hZ (w_92 hw))) (w_91 hw) (w_33 hw) (w_93 hw) (by decide) (rmW2 l Z a0 hw [] b20 (q6 &&& (2147483647 : Int32)) T23.heap n0 b21 _ (lat (chV q2)) (lat (chV q3)) (nar .byte (spV q1).toInt8.toInt32) t23_0 t23_1 t23_2 t23_3 t23_4 t23_5 t23_6 t23_7 t23_8 t23_9 E23_b20 F23_b20_label F23_b20_numberAt A23 nb21_b20.symm (Nat.le_trans Z20 G21) (own_nn _)) e24 E23_b20 (by decide) (by decide) (by decide) (by decide) rfl pd__28I_29I rfl rfl (Nat.le_of_eq rfl) ?_
          rintro _ T25 L25 X25 (⟨t25_0, t25_1, t25_2, t25_3, t25_4, t25_5, t25_6, t25_7, t25_8, t25_9, rfl, N25q, K25, A25, D25⟩)
          · have N25 := Fr.app N24 N25q
            have O25 := O23.keep K25 (allS (Nat.le_trans Z20 G21) all0)
            have Z25 := Nat.le_trans Z23 K25.1
            have E25_b14 := E23_b14.keep K25
            have A25_b14 := A23_b14.keep K25 (ninS nb21_b14 nin0)
            have E25_b18 := E23_b18.keep K25
            have F25_b18_value := F23_b18_value.keep K25 (ninS nb21_b18 nin0)
            have F25_b18_coder := F23_b18_coder.keep K25 (ninS nb21_b18 nin0)
            have A25_b19 := A23_b19.keep K25 (ninS nb21_b19 nin0)
            have E25_b19 := E23_b19.keep K25
            have E25_b20 := E23_b20.keep K25
            have F25_b20_label := F23_b20_label.keep K25 (ninS nb21_b20 nin0)
            have F25_b20_separator := F23_b20_separator.keep K25 (ninS nb21_b20 nin0)
            have F25_b20_numberAt := F23_b20_numberAt.keep K25 (ninS nb21_b20 nin0)
            show GoE p e below _ (T25.setTop (mkF m 193 #[.val (.int q1), .val (.int q2), .val (.int q3), .val (.int q4), .val (.int q5), .val (.int q6), .val (.int (spV q1)), .val (.int (q1 &&& (127 : Int32)).toInt8.toInt32), .val (.int (chV q2)), .val (.int (chV q3)), .val (.int (1 : Int32)), .val (.int (2 : Int32)), .val (.ref b18), .val (.int (q5 &&& (2147483647 : Int32))), .val (.int (q6 &&& (2147483647 : Int32))), .val (.ref b20), .val (.int ((3 : Int32) + (digV (q5 &&& (2147483647 : Int32))))), .unset] [.int ((3 : Int32) + (digV (q6 &&& (2147483647 : Int32))))]))
            refine g_istore X25 hx hby at_193 (pc' := 195) rfl (l' := #[.val (.int q1), .val (.int q2), .val (.int q3), .val (.int q4), .val (.int q5), .val (.int q6), .val (.int (spV q1)), .val (.int (q1 &&& (127 : Int32)).toInt8.toInt32), .val (.int (chV q2)), .val (.int (chV q3)), .val (.int (1 : Int32)), .val (.int (2 : Int32)), .val (.ref b18), .val (.int (q5 &&& (2147483647 : Int32))), .val (.int (q6 &&& (2147483647 : Int32))), .val (.ref b20), .val (.int ((3 : Int32) + (digV (q5 &&& (2147483647 : Int32))))), .val (.int ((3 : Int32) + (digV (q6 &&& (2147483647 : Int32)))))]) rfl ?_
            refine g_aload X25 hx hby at_195 (pc' := 197) rfl rfl rfl ?_
            refine g_iload X25 hx hby at_197 (pc' := 199) rfl rfl ?_
            refine g_iload X25 hx hby at_199 (pc' := 201) rfl rfl ?_
            refine g_iload X25 hx hby at_201 (pc' := 203) rfl rfl ?_
            refine g_iload X25 hx hby at_203 (pc' := 205) rfl rfl ?_
            refine g_iload X25 hx hby at_205 (pc' := 207) rfl rfl ?_
            refine g_iload X25 hx hby at_207 (pc' := 209) rfl rfl ?_
            refine g_callS X25 hx hZ hown (W := 0) (argsL := [.ref b20, .int ((3 : Int32) + (digV (q6 &&& (2147483647 : Int32)))), .int (2 : Int32), .int (chV q2), .int (chV q3), .int (q1 &&& (127 : Int32)).toInt8.toInt32, .int (q6 &&& (2147483647 : Int32))]) (rest := []) hby at_209 (pc' := 212) rfl (by rw [hml]; rfl) (w_94 hw) (w_95 hw) (w_96 hw) (w_97 hw) (by decide) (rmCK2 l Z a0 hw [] b20 ((3 : Int32) + (digV (q6 &&& (2147483647 : Int32)))) (chV q2) (chV q3) (q1 &&& (127 : Int32)).toInt8.toInt32 (q6 &&& (2147483647 : Int32)) T25.heap n0 b21 _ (lat (chV q2)) (lat (chV q3)) (nar .byte (spV q1).toInt8.toInt32) t25_0 t25_1 t25_2 t25_3 t25_4 t25_5 t25_6 t25_7 t25_8 t25_9 E25_b20 F25_b20_label A25 rfl (own_nb _) (own_nb _) (own_sep _) D25 (own_nn _)) rfl (by decide) (by decide) (by decide) (by decide) rfl pd__28Lcom_2fexample_2fastilla_2fastilla_2fPointLabels_3bIICCBI_29Z rfl rfl (Nat.le_of_eq rfl) ?_
            rintro _ T26 L26 X26 ⟨rfl, N26q, e26⟩
            have N26 := Fr.app N25 N26q
            show GoE p e below _ (T26.setTop (mkF m 212 #[.val (.int q1), .val (.int q2), .val (.int q3), .val (.int q4), .val (.int q5), .val (.int q6), .val (.int (spV q1)), .val (.int (q1 &&& (127 : Int32)).toInt8.toInt32), .val (.int (chV q2)), .val (.int (chV q3)), .val (.int (1 : Int32)), .val (.int (2 : Int32)), .val (.ref b18), .val (.int (q5 &&& (2147483647 : Int32))), .val (.int (q6 &&& (2147483647 : Int32))), .val (.ref b20), .val (.int ((3 : Int32) + (digV (q5 &&& (2147483647 : Int32))))), .val (.int ((3 : Int32) + (digV (q6 &&& (2147483647 : Int32)))))] [.int (1 : Int32)]))
            exact g_retN (Q := (fun v h L => v = some (.int 1) ∧ Fr n0 L)) (w := (1 : Int32)) X26 hx hby at_212 hret (by simp) (by first | decide | rfl) hlk (by decide) (by decide) ⟨rfl, N26⟩
set_option maxRecDepth 65536 in
set_option maxHeartbeats 40000000 in
theorem comes_1 {Post : Tables → Env → Array Value → State → Outcome → State → Prop} (hpost : ∀ tb e args s v u, (limb_1_1.after args s (.returned v) u = true ∧ limb_1_2.after args s (.returned v) u = true ∧ True) → FrameEnd s (.returned v) u (Jvm.fieldLocs frame_1_writes args s ++ Jvm.arrayLocs frame_1_arrays args s ++ Jvm.staticLocs frame_1_statics s) 24 640 → Post tb e args s (.returned v) u) :
    ArmFor flags0 classFile x code maxLocals ret World_1 tables_1 room_1 Calls_1 rest_1 Pre_1 Post := by
  intro l hfl _ _ p e ha hc hk s m args below hf hA hF happ hP
  obtain ⟨hcalls, hrest, hpre⟩ := hP
  obtain ⟨-, -, -, hnamed, -, -, -, hat⟩ := (Spec.applies_iff hf).mp happ
  obtain ⟨hg, hn⟩ := and_e (Cond.before_iff.mp (show (Jvm.Cond.and given_1 narrow_1).before args s = true from hpre))
  obtain ⟨h1, g0⟩ := and_e hg
  obtain ⟨a0, g1⟩ := and_e g0
  obtain ⟨a1, g2⟩ := and_e g1
  obtain ⟨a2, g3⟩ := and_e g2
  obtain ⟨a3, g4⟩ := and_e g3
  obtain ⟨a4, g5⟩ := and_e g4
  have a5 := g5
  obtain ⟨u0, u1, u2, u3, u4, u5, rfl⟩ : ∃ u0 u1 u2 u3 u4 u5 : Value, args = #[u0, u1, u2, u3, u4, u5] := by
    have hs : args.size = 6 := by simpa [Cond.value, given_1] using h1
    obtain ⟨L⟩ := args
    match L, hs with
    | [u0, u1, u2, u3, u4, u5], _ => exact ⟨u0, u1, u2, u3, u4, u5, rfl⟩
  have hw := fun d (hd : d ∈ tables_1) => atoms_spec (ws := Jvm.Cond.code x code maxLocals ret :: tables_1) hat d (List.mem_cons_of_mem _ hd)
  have hfit : Fit s := fun {y c} hc i hi => by
    obtain ⟨ha, rfl⟩ := Array.getElem?_eq_some_iff.mp hc
    have q := List.all_eq_true.mp ((Array.all_eq_true_iff_forall_mem.mp hF) _ (Array.getElem_mem ha)) i (List.mem_range.mpr hi)
    simpa [Array.getElem?_eq_getElem hi] using q
  obtain ⟨i0, e0⟩ := is_v a0
  obtain rfl : u0 = (.int i0) := Option.some.inj e0
  obtain ⟨i1, e1⟩ := is_v a1
  obtain rfl : u1 = (.int i1) := Option.some.inj e1
  obtain ⟨i2, e2⟩ := is_v a2
  obtain rfl : u2 = (.int i2) := Option.some.inj e2
  obtain ⟨i3, e3⟩ := is_v a3
  obtain rfl : u3 = (.int i3) := Option.some.inj e3
  obtain ⟨i4, e4⟩ := is_v a4
  obtain rfl : u4 = (.int i4) := Option.some.inj e4
  obtain ⟨i5, e5⟩ := is_v a5
  obtain rfl : u5 = (.int i5) := Option.some.inj e5
  obtain ⟨hsets, -⟩ := atoms_of _ (rest_1_c_eq ▸ (show rest_1_c.before _ s = true from hrest))
  obtain ⟨cs, ecs⟩ := is_v (Cond.before_iff.mp (hsets _ (List.mem_of_getElem? (i := 1) rfl)))
  have ncs := not_v (Cond.before_iff.mp (hsets _ (List.mem_of_getElem? (i := 2) rfl)))
  have hcs : ¬ (cs = (0 : Int32)) := gotF (Cond.eq_ints ecs (Term.int_eval (0))) ncs
  have S1 : Sta s s.heap "java/lang/String" "COMPACT_STRINGS" "Z" (.int cs) := Sta.start ecs (Or.inl (hsets _ (List.mem_of_getElem? (i := 0) rfl)))
  obtain ⟨u8, eu8⟩ := exa_v (Cond.before_iff.mp (hsets _ (List.mem_of_getElem? (i := 14) rfl)))
  obtain ⟨u9, eu9⟩ := exa_v (Cond.before_iff.mp (hsets _ (List.mem_of_getElem? (i := 17) rfl)))
  obtain rfl : u8 = u9 := own_stR eu8 eu9 (Cond.before_iff.mp (hsets _ (List.mem_of_getElem? (i := 13) rfl)))
  have S2 : Sta s s.heap "java/nio/charset/StandardCharsets" "UTF_8" "Ljava/nio/charset/Charset;" (.ref u8) := Sta.start eu8 (Or.inl (hsets _ (List.mem_of_getElem? (i := 10) rfl)))
  have S3 : Sta s s.heap "sun/nio/cs/UTF_8" "INSTANCE" "Lsun/nio/cs/UTF_8;" (.ref u8) := Sta.start eu9 (Or.inl (hsets _ (List.mem_of_getElem? (i := 12) rfl)))
  have SS : SSt s cs u8 := ⟨hcs, S1, S2, S3⟩
  obtain ⟨n, o, h1, h2, h3, _, L, rfl, ⟨rfl, N⟩, hq⟩ := rm0 l s _ hw tables_1 i0 i1 i2 i3 i4 i5  s.heap s.heap.size (Nat.le_refl _) cs u8 SS (Old.start s) p e ha hc hk s m _ below hf ((Spec.applies_iff_loose hf).mp happ).1 ⟨rfl, State.Warmed39.refl s, rfl⟩ trivial
  refine ⟨n, _, h1, h2, h3, hpost _ _ _ _ _ _ ⟨Cond.after_iff.mpr rfl, Cond.after_iff.mpr (eq_i res_at (Term.int_eval (1)) rfl), trivial⟩ ⟨hq.1, hq.2.1, (hq.2.2.sift fun y hy => Or.inr (N y hy)).mono (by decide) (by decide)⟩⟩
theorem main_1_1 : Claimed_1_1 := comes_1 fun _ _ _ _ _ _ h hF => ⟨h.1, hF⟩
theorem main_1_2 : Claimed_1_2 := comes_1 fun _ _ _ _ _ _ h hF => ⟨h.2.1, hF⟩
end Jvm.Pilot.@@N@@
namespace Jvm.Pilot.@@N@@
open Jvm Jvm.ClassFile Sem Op Lib Jvm.Free Jvm.Stand Jvm.Pilot.@@N@@.Jvm.D
/-! MADE BY PROGRAM (witnessworld.py) out of the Statement's table words and the real class files: 27 classes; the members and pool entries that the words name. The judged class is class 1, her method 5. -/
namespace start1
open Jvm.ClassFile
def u (s : String) : CpInfo := .utf8 (stringToUtf16 s)
/-- a pool by its gaps: so many unusable entries, then the entry; so many at the end -/
def gap : Nat → List CpInfo → List CpInfo
  | 0, r => r
  | n + 1, r => .unusable :: gap n r
def poolList (es : List (Nat × CpInfo)) (last : Nat) : List CpInfo := es.foldr (fun e r => gap e.1 (e.2 :: r)) (gap last [])
def pool (es : List (Nat × CpInfo)) (last : Nat) : Array CpInfo := ⟨poolList es last⟩
def fileOf (pool : Array CpInfo) (this : Nat) (attrs : Array Attribute := #[]) (ms : Array MethodInfo := #[]) (fl : Nat := 33) (sup : Nat := 0) (ifs : Array Nat := #[]) (fds : Array FieldInfo := #[]) : ClassFile where
  minorVersion := 0
  majorVersion := 65
  constantPool := pool
  accessFlags := fl
  thisClass := this
  superClass := sup
  interfaces := ifs
  fields := fds
  methods := ms
  attributes := attrs
def plain (name : String) (sup : Option ClassId) : Class where
  name := name
  kind := .ordinary
  loader := none
  accessFlags := 33
  super := sup
  interfaces := #[]
  cf := none
  fields := #[]
  methods := #[]
  instanceTypes := #[]
  staticTypes := #[]
  resolved := #[]
  callSites := []
  init := .initialized
  statics := none
  mirror := none

def pool0 : Array CpInfo := pool [(5, u "<init>"), (0, u "()V"), (1, .class_ 10), (1, u "java/lang/Object"), (85, u "clone"), (0, u "()Ljava/lang/Object;")] 26

def k0c0 : Code := { maxStack := 0, maxLocals := 1, code := object_method_1_code, exceptionTable := #[], attributes := #[] }
def k0m0 : Method := { name := "<init>", desc := "()V", sig := { parameters := [], returnType := none }, accessFlags := 1, code := some k0c0 }
def k0m1 : Method := { name := "clone", desc := "()Ljava/lang/Object;", sig := { parameters := [], returnType := some (.object "java/lang/Object") }, accessFlags := 260, code := none }
/-- java/lang/Object -/
def k0 : Class := { plain "java/lang/Object" none with
  accessFlags := 33
  interfaces := #[]
  cf := some (fileOf pool0 8 #[] #[{ accessFlags := 1, nameIndex := 5, descriptorIndex := 6, attributes := #[] }, { accessFlags := 260, nameIndex := 96, descriptorIndex := 97, attributes := #[] }] 33 0 #[] #[])
  fields := #[]
  methods := #[k0m0, k0m1]
  instanceTypes := #[]
  staticTypes := #[]
  resolved := Array.replicate 124 none
  statics := none }

def pool1 : Array CpInfo := pool [(2, .class_ 4), (1, u "java/lang/Object"), (0, u "<init>"), (0, u "()V"), (0, .integer 100000), (0, .integer 1000000), (0, .integer 10000000), (0, .integer 100000000), (0, .integer 1000000000), (0, .methodref 13 14), (0, .class_ 15), (0, .nameAndType 16 17), (0, u "com/example/astilla/astilla/PointLabelsWritePinLaw"), (0, u "pow10"), (0, u "(I)I"), (0, .methodref 13 19), (0, .nameAndType 20 17), (0, u "digits"), (0, .methodref 22 23), (0, .class_ 24), (0, .nameAndType 25 26), (0, u "com/example/astilla/astilla/PointLabels"), (0, u "bytes"), (0, u "()[B"), (0, .methodref 13 28), (0, .nameAndType 29 30), (0, u "digitOk"), (0, u "([BIIII)Z"), (0, .integer 2147483647), (0, .class_ 33), (0, u "java/lang/String"), (0, .methodref 32 35), (0, .nameAndType 5 36), (0, u "([C)V"), (0, .methodref 22 38), (0, .nameAndType 5 39), (0, u "(C)V"), (0, .methodref 22 41), (0, .nameAndType 42 43), (0, u "startNode"), (0, u "(Ljava/lang/String;)V"), (0, .methodref 22 45), (0, .nameAndType 46 17), (0, u "write"), (0, .methodref 13 48), (0, .nameAndType 49 50), (0, u "check"), (0, u "(Lcom/example/astilla/astilla/PointLabels;IICCBI)Z"), (5, u "law"), (0, u "(IIIIII)Z")] 2

def k1m0 : Method := { name := "<init>", desc := "()V", sig := { parameters := [], returnType := none }, accessFlags := 1, code := none }
def k1c1 : Code := { maxStack := 2, maxLocals := 1, code := method_2_code, exceptionTable := #[], attributes := #[] }
def k1m1 : Method := { name := "pow10", desc := "(I)I", sig := { parameters := [.int], returnType := some .int }, accessFlags := 10, code := some k1c1 }
def k1c2 : Code := { maxStack := 2, maxLocals := 1, code := method_3_code, exceptionTable := #[], attributes := #[] }
def k1m2 : Method := { name := "digits", desc := "(I)I", sig := { parameters := [.int], returnType := some .int }, accessFlags := 10, code := some k1c2 }
def k1c3 : Code := { maxStack := 4, maxLocals := 5, code := method_4_code, exceptionTable := #[], attributes := #[] }
def k1m3 : Method := { name := "digitOk", desc := "([BIIII)Z", sig := { parameters := [(.array .byte), .int, .int, .int, .int], returnType := some .boolean }, accessFlags := 10, code := some k1c3 }
def k1c4 : Code := { maxStack := 5, maxLocals := 10, code := method_5_code, exceptionTable := #[], attributes := #[] }
def k1m4 : Method := { name := "check", desc := "(Lcom/example/astilla/astilla/PointLabels;IICCBI)Z", sig := { parameters := [(.object "com/example/astilla/astilla/PointLabels"), .int, .int, .char, .char, .byte, .int], returnType := some .boolean }, accessFlags := 10, code := some k1c4 }
def k1c5 : Code := { maxStack := 7, maxLocals := 18, code := code, exceptionTable := #[], attributes := #[] }
def k1m5 : Method := { name := "law", desc := "(IIIIII)Z", sig := { parameters := [.int, .int, .int, .int, .int, .int], returnType := some .boolean }, accessFlags := 9, code := some k1c5 }
/-- com/example/astilla/astilla/PointLabelsWritePinLaw -/
def k1 : Class := { plain "com/example/astilla/astilla/PointLabelsWritePinLaw" (some 0) with
  accessFlags := 49
  interfaces := #[]
  cf := some (fileOf pool1 13 #[] #[{ accessFlags := 1, nameIndex := 5, descriptorIndex := 6, attributes := #[] }, { accessFlags := 10, nameIndex := 16, descriptorIndex := 17, attributes := #[] }, { accessFlags := 10, nameIndex := 20, descriptorIndex := 17, attributes := #[] }, { accessFlags := 10, nameIndex := 29, descriptorIndex := 30, attributes := #[] }, { accessFlags := 10, nameIndex := 49, descriptorIndex := 50, attributes := #[] }, { accessFlags := 9, nameIndex := 56, descriptorIndex := 57, attributes := #[] }] 49 2 #[] #[])
  fields := #[]
  methods := #[k1m0, k1m1, k1m2, k1m3, k1m4, k1m5]
  instanceTypes := #[]
  staticTypes := #[]
  resolved := Array.replicate 60 none
  statics := none }

def pool2 : Array CpInfo := pool [(1, .class_ 2), (0, u "java/io/Serializable"), (0, .class_ 4), (0, u "java/lang/Object")] 2

/-- java/io/Serializable -/
def k2 : Class := { plain "java/io/Serializable" (some 0) with
  accessFlags := 1537
  interfaces := #[]
  cf := some (fileOf pool2 1 #[] #[] 1537 3 #[] #[])
  fields := #[]
  methods := #[]
  instanceTypes := #[]
  staticTypes := #[]
  resolved := Array.replicate 7 none
  statics := none }

def pool3 : Array CpInfo := pool [(1, .class_ 2), (0, u "java/lang/Comparable"), (0, .class_ 4), (0, u "java/lang/Object")] 7

/-- java/lang/Comparable -/
def k3 : Class := { plain "java/lang/Comparable" (some 0) with
  accessFlags := 1537
  interfaces := #[]
  cf := some (fileOf pool3 1 #[] #[] 1537 3 #[] #[])
  fields := #[]
  methods := #[]
  instanceTypes := #[]
  staticTypes := #[]
  resolved := Array.replicate 12 none
  statics := none }

def pool4 : Array CpInfo := pool [(2, .class_ 4), (1, u "java/lang/CharSequence"), (42, .class_ 48), (0, u "java/lang/CharSequence$1CodePointIterator"), (10, .class_ 60), (0, u "java/lang/CharSequence$1CharIterator"), (5, .class_ 67), (0, u "java/lang/Object")] 63

/-- java/lang/CharSequence -/
def k4 : Class := { plain "java/lang/CharSequence" (some 0) with
  accessFlags := 1537
  interfaces := #[]
  cf := some (fileOf pool4 2 #[.nestMembers #[47, 59]] #[] 1537 66 #[] #[])
  fields := #[]
  methods := #[]
  instanceTypes := #[]
  staticTypes := #[]
  resolved := Array.replicate 131 none
  statics := none }

def pool5 : Array CpInfo := pool [(1, .class_ 2), (0, u "java/lang/constant/Constable"), (0, .class_ 4), (0, u "java/lang/Object")] 6

/-- java/lang/constant/Constable -/
def k5 : Class := { plain "java/lang/constant/Constable" (some 0) with
  accessFlags := 1537
  interfaces := #[]
  cf := some (fileOf pool5 1 #[] #[] 1537 3 #[] #[])
  fields := #[]
  methods := #[]
  instanceTypes := #[]
  staticTypes := #[]
  resolved := Array.replicate 11 none
  statics := none }

def pool6 : Array CpInfo := pool [(1, .class_ 2), (0, u "java/lang/constant/ConstantDesc"), (0, .class_ 4), (0, u "java/lang/Object")] 32

/-- java/lang/constant/ConstantDesc -/
def k6 : Class := { plain "java/lang/constant/ConstantDesc" (some 0) with
  accessFlags := 1537
  interfaces := #[]
  cf := some (fileOf pool6 1 #[] #[] 1537 3 #[] #[])
  fields := #[]
  methods := #[]
  instanceTypes := #[]
  staticTypes := #[]
  resolved := Array.replicate 37 none
  statics := none }

def pool7 : Array CpInfo := pool [(1, .methodref 2 3), (0, .class_ 4), (0, .nameAndType 5 6), (0, u "java/lang/Object"), (0, u "<init>"), (0, u "()V"), (2, .fieldref 10 11), (0, .class_ 12), (0, .nameAndType 13 14), (0, u "java/lang/String"), (0, u "value"), (0, u "[B"), (0, .fieldref 10 16), (0, .nameAndType 17 18), (0, u "coder"), (0, u "B"), (2, u "hash"), (0, u "I"), (2, u "hashIsZero"), (0, u "Z"), (0, .methodref 10 28), (0, .nameAndType 5 29), (0, u "([CIILjava/lang/Void;)V"), (8, .fieldref 10 39), (0, .nameAndType 40 26), (0, u "COMPACT_STRINGS"), (1, .class_ 44), (1, u "java/lang/StringUTF16"), (0, u "compress"), (1, .methodref 42 48), (0, .nameAndType 49 50), (0, u "coderFromArrayLen"), (0, u "([BI)B"), (35, .fieldref 87 88), (0, .class_ 89), (0, .nameAndType 90 91), (0, u "sun/nio/cs/UTF_8"), (0, u "INSTANCE"), (0, u "Lsun/nio/cs/UTF_8;"), (1, .class_ 95), (1, u "java/lang/StringCoding"), (32, .methodref 93 129), (0, .nameAndType 130 131), (0, u "hasNegatives"), (0, u "([BII)Z"), (45, .methodref 42 178), (0, .nameAndType 45 179), (0, u "([CII)[B"), (72, .methodref 10 253), (0, .nameAndType 254 255), (0, u "encodeUTF8"), (0, u "(B[BZ)[B"), (23, .methodref 280 281), (0, .class_ 14), (0, .nameAndType 282 283), (0, u "clone"), (0, u "()Ljava/lang/Object;"), (33, u "encode"), (17, .methodref 10 336), (0, .nameAndType 17 337), (0, u "()B"), (194, u "getBytes"), (2, .methodref 10 536), (0, .nameAndType 317 537), (0, u "(Ljava/nio/charset/Charset;B[B)[B"), (37, .class_ 576), (0, u "java/lang/CharSequence"), (22, u "CASE_INSENSITIVE_ORDER"), (0, u "Ljava/util/Comparator;"), (409, u "([C)V"), (90, u "serialPersistentFields"), (0, u "[Ljava/io/ObjectStreamField;"), (0, .class_ 1104), (0, u "java/lang/String$CaseInsensitiveComparator"), (1, .class_ 1107), (0, u "java/io/Serializable"), (0, .class_ 1109), (0, u "java/lang/Comparable"), (0, .class_ 1111), (0, u "java/lang/constant/Constable"), (0, .class_ 1113), (0, u "java/lang/constant/ConstantDesc"), (2, u "serialVersionUID"), (0, u "J"), (3, u "REPL"), (0, u "C"), (2, u "LATIN1"), (1, u "UTF16"), (117, u "(Ljava/nio/charset/Charset;)[B")] 205

def k7m0 : Method := { name := "<init>", desc := "()V", sig := { parameters := [], returnType := none }, accessFlags := 1, code := none }
def k7c1 : Code := { maxStack := 5, maxLocals := 2, code := jdk_42_method_3_code, exceptionTable := #[], attributes := #[] }
def k7m1 : Method := { name := "<init>", desc := "([C)V", sig := { parameters := [(.array .char)], returnType := none }, accessFlags := 1, code := some k7c1 }
def k7c2 : Code := { maxStack := 4, maxLocals := 3, code := jdk_42_method_18_code, exceptionTable := #[], attributes := #[] }
def k7m2 : Method := { name := "encode", desc := "(Ljava/nio/charset/Charset;B[B)[B", sig := { parameters := [(.object "java/nio/charset/Charset"), .byte, (.array .byte)], returnType := some (.array .byte) }, accessFlags := 10, code := some k7c2 }
def k7c3 : Code := { maxStack := 5, maxLocals := 9, code := jdk_42_method_46_code, exceptionTable := #[], attributes := #[] }
def k7m3 : Method := { name := "encodeUTF8", desc := "(B[BZ)[B", sig := { parameters := [.byte, (.array .byte), .boolean], returnType := some (.array .byte) }, accessFlags := 10, code := some k7c3 }
def k7c4 : Code := { maxStack := 3, maxLocals := 2, code := jdk_42_method_64_code, exceptionTable := #[], attributes := #[] }
def k7m4 : Method := { name := "getBytes", desc := "(Ljava/nio/charset/Charset;)[B", sig := { parameters := [(.object "java/nio/charset/Charset")], returnType := some (.array .byte) }, accessFlags := 1, code := some k7c4 }
def k7c5 : Code := { maxStack := 4, maxLocals := 6, code := jdk_42_method_149_code, exceptionTable := #[], attributes := #[] }
def k7m5 : Method := { name := "<init>", desc := "([CIILjava/lang/Void;)V", sig := { parameters := [(.array .char), .int, .int, (.object "java/lang/Void")], returnType := none }, accessFlags := 2, code := some k7c5 }
def k7c6 : Code := { maxStack := 1, maxLocals := 1, code := jdk_42_method_152_code, exceptionTable := #[], attributes := #[] }
def k7m6 : Method := { name := "coder", desc := "()B", sig := { parameters := [], returnType := some .byte }, accessFlags := 0, code := some k7c6 }
/-- java/lang/String -/
def k7 : Class := { plain "java/lang/String" (some 0) with
  accessFlags := 49
  interfaces := #[2, 3, 4, 5, 6]
  cf := some (fileOf pool7 10 #[.nestMembers #[1103]] #[{ accessFlags := 1, nameIndex := 5, descriptorIndex := 6, attributes := #[] }, { accessFlags := 1, nameIndex := 5, descriptorIndex := 1010, attributes := #[] }, { accessFlags := 10, nameIndex := 317, descriptorIndex := 537, attributes := #[] }, { accessFlags := 10, nameIndex := 254, descriptorIndex := 255, attributes := #[] }, { accessFlags := 1, nameIndex := 532, descriptorIndex := 1245, attributes := #[] }, { accessFlags := 2, nameIndex := 5, descriptorIndex := 29, attributes := #[] }, { accessFlags := 0, nameIndex := 17, descriptorIndex := 337, attributes := #[] }] 49 2 #[1106, 1108, 575, 1110, 1112] #[{ accessFlags := 18, nameIndex := 13, descriptorIndex := 14, attributes := #[] }, { accessFlags := 18, nameIndex := 17, descriptorIndex := 18, attributes := #[] }, { accessFlags := 2, nameIndex := 21, descriptorIndex := 22, attributes := #[] }, { accessFlags := 2, nameIndex := 25, descriptorIndex := 26, attributes := #[] }, { accessFlags := 26, nameIndex := 1116, descriptorIndex := 1117, attributes := #[] }, { accessFlags := 24, nameIndex := 40, descriptorIndex := 26, attributes := #[] }, { accessFlags := 26, nameIndex := 1101, descriptorIndex := 1102, attributes := #[] }, { accessFlags := 26, nameIndex := 1121, descriptorIndex := 1122, attributes := #[] }, { accessFlags := 25, nameIndex := 599, descriptorIndex := 600, attributes := #[] }, { accessFlags := 24, nameIndex := 1125, descriptorIndex := 18, attributes := #[] }, { accessFlags := 24, nameIndex := 1127, descriptorIndex := 18, attributes := #[] }])
  fields := #[{ name := "value", type := (.array .byte), accessFlags := 18, slot := 0, constantValue := 0 }, { name := "coder", type := .byte, accessFlags := 18, slot := 1, constantValue := 0 }, { name := "hash", type := .int, accessFlags := 2, slot := 2, constantValue := 0 }, { name := "hashIsZero", type := .boolean, accessFlags := 2, slot := 3, constantValue := 0 }, { name := "serialVersionUID", type := .long, accessFlags := 26, slot := 0, constantValue := 0 }, { name := "COMPACT_STRINGS", type := .boolean, accessFlags := 24, slot := 1, constantValue := 0 }, { name := "serialPersistentFields", type := (.array (.object "java/io/ObjectStreamField")), accessFlags := 26, slot := 2, constantValue := 0 }, { name := "REPL", type := .char, accessFlags := 26, slot := 3, constantValue := 0 }, { name := "CASE_INSENSITIVE_ORDER", type := (.object "java/util/Comparator"), accessFlags := 25, slot := 4, constantValue := 0 }, { name := "LATIN1", type := .byte, accessFlags := 24, slot := 5, constantValue := 0 }, { name := "UTF16", type := .byte, accessFlags := 24, slot := 6, constantValue := 0 }]
  methods := #[k7m0, k7m1, k7m2, k7m3, k7m4, k7m5, k7m6]
  instanceTypes := #[(.array .byte), .byte, .int, .boolean]
  staticTypes := #[.long, .boolean, (.array (.object "java/io/ObjectStreamField")), .char, (.object "java/util/Comparator"), .byte, .byte]
  resolved := Array.replicate 1451 none
  statics := some 0 }

def pool8 : Array CpInfo := pool [(6, .class_ 8), (1, u "java/lang/Object"), (0, u "<init>"), (0, u "()V"), (1, .class_ 14), (1, u "java/lang/StringUTF16"), (31, u "$assertionsDisabled"), (0, u "Z"), (13, u "HI_BYTE_SHIFT"), (0, u "I"), (2, u "LO_BYTE_SHIFT"), (49, .methodref 12 116), (0, .nameAndType 117 118), (0, u "compress"), (0, u "([CI[BII)I"), (3, u "([CII)[B"), (138, u "coderFromArrayLen"), (0, u "([BI)B"), (106, .class_ 371), (1, u "java/lang/StringUTF16$LinesSpliterator"), (58, u "MAX_LENGTH"), (196, .class_ 628), (0, u "java/lang/StringUTF16$CodePointsSpliterator"), (0, .class_ 630), (0, u "java/lang/StringUTF16$CharsSpliterator")] 4

def k8m0 : Method := { name := "<init>", desc := "()V", sig := { parameters := [], returnType := none }, accessFlags := 0, code := none }
def k8c1 : Code := { maxStack := 2, maxLocals := 2, code := jdk_52_method_15_code, exceptionTable := #[], attributes := #[] }
def k8m1 : Method := { name := "coderFromArrayLen", desc := "([BI)B", sig := { parameters := [(.array .byte), .int], returnType := some .byte }, accessFlags := 8, code := some k8c1 }
def k8c2 : Code := { maxStack := 5, maxLocals := 6, code := jdk_52_method_16_code, exceptionTable := #[], attributes := #[] }
def k8m2 : Method := { name := "compress", desc := "([CII)[B", sig := { parameters := [(.array .char), .int, .int], returnType := some (.array .byte) }, accessFlags := 9, code := some k8c2 }
def k8c3 : Code := { maxStack := 3, maxLocals := 7, code := jdk_52_method_21_code, exceptionTable := #[], attributes := #[] }
def k8m3 : Method := { name := "compress", desc := "([CI[BII)I", sig := { parameters := [(.array .char), .int, (.array .byte), .int, .int], returnType := some .int }, accessFlags := 9, code := some k8c3 }
/-- java/lang/StringUTF16 -/
def k8 : Class := { plain "java/lang/StringUTF16" (some 0) with
  accessFlags := 48
  interfaces := #[]
  cf := some (fileOf pool8 12 #[.nestMembers #[627, 629, 369]] #[{ accessFlags := 0, nameIndex := 9, descriptorIndex := 10, attributes := #[] }, { accessFlags := 8, nameIndex := 261, descriptorIndex := 262, attributes := #[] }, { accessFlags := 9, nameIndex := 117, descriptorIndex := 122, attributes := #[] }, { accessFlags := 9, nameIndex := 117, descriptorIndex := 118, attributes := #[] }] 48 6 #[] #[{ accessFlags := 26, nameIndex := 61, descriptorIndex := 62, attributes := #[] }, { accessFlags := 26, nameIndex := 65, descriptorIndex := 62, attributes := #[] }, { accessFlags := 24, nameIndex := 430, descriptorIndex := 62, attributes := #[] }, { accessFlags := 4120, nameIndex := 46, descriptorIndex := 47, attributes := #[] }])
  fields := #[{ name := "HI_BYTE_SHIFT", type := .int, accessFlags := 26, slot := 0, constantValue := 0 }, { name := "LO_BYTE_SHIFT", type := .int, accessFlags := 26, slot := 1, constantValue := 0 }, { name := "MAX_LENGTH", type := .int, accessFlags := 24, slot := 2, constantValue := 0 }, { name := "$assertionsDisabled", type := .boolean, accessFlags := 4120, slot := 3, constantValue := 0 }]
  methods := #[k8m0, k8m1, k8m2, k8m3]
  instanceTypes := #[]
  staticTypes := #[.int, .int, .int, .boolean]
  resolved := Array.replicate 635 none
  statics := none }

def pool9 : Array CpInfo := pool [(1, .methodref 2 3), (0, .class_ 4), (0, .nameAndType 5 6), (0, u "java/lang/Object"), (0, u "<init>"), (0, u "()V"), (2, .class_ 10), (0, u "com/example/astilla/astilla/PointLabels"), (0, .fieldref 9 12), (0, .nameAndType 13 14), (0, u "label"), (0, u "[B"), (0, .fieldref 9 16), (0, .nameAndType 17 18), (0, u "separator"), (0, u "B"), (0, .fieldref 20 21), (0, .class_ 22), (0, .nameAndType 23 24), (0, u "java/nio/charset/StandardCharsets"), (0, u "UTF_8"), (0, u "Ljava/nio/charset/Charset;"), (0, .methodref 26 27), (0, .class_ 28), (0, .nameAndType 29 30), (0, u "java/lang/String"), (0, u "getBytes"), (0, u "(Ljava/nio/charset/Charset;)[B"), (0, .methodref 32 33), (0, .class_ 34), (0, .nameAndType 35 36), (0, u "java/lang/System"), (0, u "arraycopy"), (0, u "(Ljava/lang/Object;ILjava/lang/Object;II)V"), (0, .fieldref 9 38), (0, .nameAndType 39 40), (0, u "numberAt"), (0, u "I"), (0, u "MAX_DIGITS"), (2, u "(C)V"), (2, u "startNode"), (0, u "(Ljava/lang/String;)V"), (0, u "write"), (0, u "(I)I"), (1, u "bytes"), (0, u "()[B")] 2

def k9c0 : Code := { maxStack := 2, maxLocals := 2, code := prog_15_method_1_code, exceptionTable := #[], attributes := #[] }
def k9m0 : Method := { name := "<init>", desc := "(C)V", sig := { parameters := [.char], returnType := none }, accessFlags := 0, code := some k9c0 }
def k9c1 : Code := { maxStack := 5, maxLocals := 3, code := prog_15_method_2_code, exceptionTable := #[], attributes := #[] }
def k9m1 : Method := { name := "startNode", desc := "(Ljava/lang/String;)V", sig := { parameters := [(.object "java/lang/String")], returnType := none }, accessFlags := 0, code := some k9c1 }
def k9c2 : Code := { maxStack := 5, maxLocals := 5, code := prog_15_method_3_code, exceptionTable := #[], attributes := #[] }
def k9m2 : Method := { name := "write", desc := "(I)I", sig := { parameters := [.int], returnType := some .int }, accessFlags := 0, code := some k9c2 }
def k9c3 : Code := { maxStack := 1, maxLocals := 1, code := prog_15_method_4_code, exceptionTable := #[], attributes := #[] }
def k9m3 : Method := { name := "bytes", desc := "()[B", sig := { parameters := [], returnType := some (.array .byte) }, accessFlags := 0, code := some k9c3 }
/-- com/example/astilla/astilla/PointLabels -/
def k9 : Class := { plain "com/example/astilla/astilla/PointLabels" (some 0) with
  accessFlags := 48
  interfaces := #[]
  cf := some (fileOf pool9 9 #[] #[{ accessFlags := 0, nameIndex := 5, descriptorIndex := 44, attributes := #[] }, { accessFlags := 0, nameIndex := 47, descriptorIndex := 48, attributes := #[] }, { accessFlags := 0, nameIndex := 49, descriptorIndex := 50, attributes := #[] }, { accessFlags := 0, nameIndex := 52, descriptorIndex := 53, attributes := #[] }] 48 2 #[] #[{ accessFlags := 26, nameIndex := 41, descriptorIndex := 40, attributes := #[] }, { accessFlags := 18, nameIndex := 17, descriptorIndex := 18, attributes := #[] }, { accessFlags := 18, nameIndex := 13, descriptorIndex := 14, attributes := #[] }, { accessFlags := 2, nameIndex := 39, descriptorIndex := 40, attributes := #[] }])
  fields := #[{ name := "MAX_DIGITS", type := .int, accessFlags := 26, slot := 0, constantValue := 0 }, { name := "separator", type := .byte, accessFlags := 18, slot := 0, constantValue := 0 }, { name := "label", type := (.array .byte), accessFlags := 18, slot := 1, constantValue := 0 }, { name := "numberAt", type := .int, accessFlags := 2, slot := 2, constantValue := 0 }]
  methods := #[k9m0, k9m1, k9m2, k9m3]
  instanceTypes := #[.byte, (.array .byte), .int]
  staticTypes := #[.int]
  resolved := Array.replicate 56 none
  statics := none }

def pool10 : Array CpInfo := pool [(2, .class_ 4), (1, u "java/lang/Object"), (0, u "<init>"), (0, u "()V"), (14, .class_ 23), (1, u "java/nio/charset/StandardCharsets"), (0, u "US_ASCII"), (0, u "Ljava/nio/charset/Charset;"), (7, u "ISO_8859_1"), (7, u "UTF_8"), (5, u "UTF_16BE"), (5, u "UTF_16LE"), (5, u "UTF_16")] 8

def k10m0 : Method := { name := "<init>", desc := "()V", sig := { parameters := [], returnType := none }, accessFlags := 2, code := none }
/-- java/nio/charset/StandardCharsets -/
def k10 : Class := { plain "java/nio/charset/StandardCharsets" (some 0) with
  accessFlags := 49
  interfaces := #[]
  cf := some (fileOf pool10 21 #[] #[{ accessFlags := 2, nameIndex := 5, descriptorIndex := 6, attributes := #[] }] 49 2 #[] #[{ accessFlags := 25, nameIndex := 24, descriptorIndex := 25, attributes := #[] }, { accessFlags := 25, nameIndex := 33, descriptorIndex := 25, attributes := #[] }, { accessFlags := 25, nameIndex := 41, descriptorIndex := 25, attributes := #[] }, { accessFlags := 25, nameIndex := 47, descriptorIndex := 25, attributes := #[] }, { accessFlags := 25, nameIndex := 53, descriptorIndex := 25, attributes := #[] }, { accessFlags := 25, nameIndex := 59, descriptorIndex := 25, attributes := #[] }])
  fields := #[{ name := "US_ASCII", type := (.object "java/nio/charset/Charset"), accessFlags := 25, slot := 0, constantValue := 0 }, { name := "ISO_8859_1", type := (.object "java/nio/charset/Charset"), accessFlags := 25, slot := 1, constantValue := 0 }, { name := "UTF_8", type := (.object "java/nio/charset/Charset"), accessFlags := 25, slot := 2, constantValue := 0 }, { name := "UTF_16BE", type := (.object "java/nio/charset/Charset"), accessFlags := 25, slot := 3, constantValue := 0 }, { name := "UTF_16LE", type := (.object "java/nio/charset/Charset"), accessFlags := 25, slot := 4, constantValue := 0 }, { name := "UTF_16", type := (.object "java/nio/charset/Charset"), accessFlags := 25, slot := 5, constantValue := 0 }]
  methods := #[k10m0]
  instanceTypes := #[]
  staticTypes := #[(.object "java/nio/charset/Charset"), (.object "java/nio/charset/Charset"), (.object "java/nio/charset/Charset"), (.object "java/nio/charset/Charset"), (.object "java/nio/charset/Charset"), (.object "java/nio/charset/Charset")]
  resolved := Array.replicate 68 none
  statics := some 1 }

def pool11 : Array CpInfo := pool [(18, .class_ 20), (1, u "java/nio/charset/Charset"), (0, u "cache1"), (0, u "[Ljava/lang/Object;"), (2, u "cache2"), (0, .class_ 27), (0, u "java/lang/Object"), (0, .class_ 29), (0, u "java/nio/charset/Charset$1"), (4, .class_ 36), (1, u "java/nio/charset/Charset$ThreadTrackHolder"), (21, .class_ 59), (0, u "java/nio/charset/Charset$2"), (11, .class_ 73), (1, u "java/nio/charset/Charset$ExtendedProviderHolder"), (22, u "standardProvider"), (0, u "Ljava/nio/charset/spi/CharsetProvider;"), (29, u "name"), (7, .class_ 136), (0, u "java/nio/charset/Charset$3"), (5, u "defaultCharset"), (0, u "Ljava/nio/charset/Charset;"), (14, u "zeroAliases"), (0, u "[Ljava/lang/String;"), (29, u "Ljava/lang/String;"), (2, u "aliases"), (2, u "aliasSet"), (0, u "Ljava/util/Set;"), (82, .class_ 280), (0, u "java/lang/Comparable"), (84, .class_ 366), (0, u "java/nio/charset/Charset$ExtendedProviderHolder$1")] 3

/-- java/nio/charset/Charset -/
def k11 : Class := { plain "java/nio/charset/Charset" (some 0) with
  accessFlags := 1057
  interfaces := #[3]
  cf := some (fileOf pool11 18 #[.nestMembers #[71, 365, 34, 135, 58, 28]] #[] 1057 26 #[279] #[{ accessFlags := 26, nameIndex := 96, descriptorIndex := 97, attributes := #[] }, { accessFlags := 26, nameIndex := 158, descriptorIndex := 159, attributes := #[] }, { accessFlags := 74, nameIndex := 21, descriptorIndex := 22, attributes := #[] }, { accessFlags := 74, nameIndex := 25, descriptorIndex := 22, attributes := #[] }, { accessFlags := 10, nameIndex := 142, descriptorIndex := 143, attributes := #[] }, { accessFlags := 18, nameIndex := 127, descriptorIndex := 189, attributes := #[] }, { accessFlags := 18, nameIndex := 192, descriptorIndex := 159, attributes := #[] }, { accessFlags := 2, nameIndex := 195, descriptorIndex := 196, attributes := #[] }])
  fields := #[{ name := "standardProvider", type := (.object "java/nio/charset/spi/CharsetProvider"), accessFlags := 26, slot := 0, constantValue := 0 }, { name := "zeroAliases", type := (.array (.object "java/lang/String")), accessFlags := 26, slot := 1, constantValue := 0 }, { name := "cache1", type := (.array (.object "java/lang/Object")), accessFlags := 74, slot := 2, constantValue := 0 }, { name := "cache2", type := (.array (.object "java/lang/Object")), accessFlags := 74, slot := 3, constantValue := 0 }, { name := "defaultCharset", type := (.object "java/nio/charset/Charset"), accessFlags := 10, slot := 4, constantValue := 0 }, { name := "name", type := (.object "java/lang/String"), accessFlags := 18, slot := 0, constantValue := 0 }, { name := "aliases", type := (.array (.object "java/lang/String")), accessFlags := 18, slot := 1, constantValue := 0 }, { name := "aliasSet", type := (.object "java/util/Set"), accessFlags := 2, slot := 2, constantValue := 0 }]
  methods := #[]
  instanceTypes := #[(.object "java/lang/String"), (.array (.object "java/lang/String")), (.object "java/util/Set")]
  staticTypes := #[(.object "java/nio/charset/spi/CharsetProvider"), (.array (.object "java/lang/String")), (.array (.object "java/lang/Object")), (.array (.object "java/lang/Object")), (.object "java/nio/charset/Charset")]
  resolved := Array.replicate 370 none
  statics := none }

def pool12 : Array CpInfo := pool [(1, .class_ 2), (0, u "sun/nio/cs/HistoricallyNamedCharset"), (0, .class_ 4), (0, u "java/lang/Object")] 4

/-- sun/nio/cs/HistoricallyNamedCharset -/
def k12 : Class := { plain "sun/nio/cs/HistoricallyNamedCharset" (some 0) with
  accessFlags := 1537
  interfaces := #[]
  cf := some (fileOf pool12 1 #[] #[] 1537 3 #[] #[])
  fields := #[]
  methods := #[]
  instanceTypes := #[]
  staticTypes := #[]
  resolved := Array.replicate 9 none
  statics := none }

def pool13 : Array CpInfo := pool [(2, .class_ 4), (1, u "java/nio/charset/Charset"), (130, .class_ 136), (0, u "sun/nio/cs/Unicode"), (0, .class_ 138), (0, u "sun/nio/cs/HistoricallyNamedCharset")] 15

/-- sun/nio/cs/Unicode -/
def k13 : Class := { plain "sun/nio/cs/Unicode" (some 11) with
  accessFlags := 1056
  interfaces := #[12]
  cf := some (fileOf pool13 135 #[] #[] 1056 2 #[137] #[])
  fields := #[]
  methods := #[]
  instanceTypes := #[(.object "java/lang/String"), (.array (.object "java/lang/String")), (.object "java/util/Set")]
  staticTypes := #[]
  resolved := Array.replicate 154 none
  statics := none }

def pool14 : Array CpInfo := pool [(10, .class_ 12), (1, u "sun/nio/cs/Unicode"), (0, u "<init>"), (3, .class_ 18), (0, u "sun/nio/cs/UTF_8$Decoder"), (3, .class_ 23), (0, u "sun/nio/cs/UTF_8$Encoder"), (15, .class_ 40), (0, u "sun/nio/cs/UTF_8"), (2, u "()V"), (2, u "INSTANCE"), (0, u "Lsun/nio/cs/UTF_8;"), (8, u "JLA"), (0, u "Ljdk/internal/access/JavaLangAccess;")] 26

def k14m0 : Method := { name := "<init>", desc := "()V", sig := { parameters := [], returnType := none }, accessFlags := 1, code := none }
/-- sun/nio/cs/UTF_8 -/
def k14 : Class := { plain "sun/nio/cs/UTF_8" (some 13) with
  accessFlags := 49
  interfaces := #[]
  cf := some (fileOf pool14 39 #[.nestMembers #[22, 17]] #[{ accessFlags := 1, nameIndex := 13, descriptorIndex := 43, attributes := #[] }] 49 10 #[] #[{ accessFlags := 25, nameIndex := 46, descriptorIndex := 47, attributes := #[] }, { accessFlags := 26, nameIndex := 56, descriptorIndex := 57, attributes := #[] }])
  fields := #[{ name := "INSTANCE", type := (.object "sun/nio/cs/UTF_8"), accessFlags := 25, slot := 0, constantValue := 0 }, { name := "JLA", type := (.object "jdk/internal/access/JavaLangAccess"), accessFlags := 26, slot := 1, constantValue := 0 }]
  methods := #[k14m0]
  instanceTypes := #[(.object "java/lang/String"), (.array (.object "java/lang/String")), (.object "java/util/Set")]
  staticTypes := #[(.object "sun/nio/cs/UTF_8"), (.object "jdk/internal/access/JavaLangAccess")]
  resolved := Array.replicate 84 none
  statics := some 2 }

def pool15 : Array CpInfo := pool [(2, .class_ 4), (1, u "java/lang/Object"), (0, u "<init>"), (0, u "()V"), (0, .methodref 8 9), (0, .class_ 10), (0, .nameAndType 11 12), (0, u "java/lang/StringCoding"), (0, u "countPositives"), (0, u "([BII)I"), (11, u "hasNegatives"), (0, u "([BII)Z")] 23

def k15m0 : Method := { name := "<init>", desc := "()V", sig := { parameters := [], returnType := none }, accessFlags := 2, code := none }
def k15c1 : Code := { maxStack := 3, maxLocals := 3, code := jdk_123_method_2_code, exceptionTable := #[], attributes := #[] }
def k15m1 : Method := { name := "hasNegatives", desc := "([BII)Z", sig := { parameters := [(.array .byte), .int, .int], returnType := some .boolean }, accessFlags := 9, code := some k15c1 }
def k15c2 : Code := { maxStack := 2, maxLocals := 5, code := jdk_123_method_3_code, exceptionTable := #[], attributes := #[] }
def k15m2 : Method := { name := "countPositives", desc := "([BII)I", sig := { parameters := [(.array .byte), .int, .int], returnType := some .int }, accessFlags := 9, code := some k15c2 }
/-- java/lang/StringCoding -/
def k15 : Class := { plain "java/lang/StringCoding" (some 0) with
  accessFlags := 32
  interfaces := #[]
  cf := some (fileOf pool15 8 #[] #[{ accessFlags := 2, nameIndex := 5, descriptorIndex := 6, attributes := #[] }, { accessFlags := 9, nameIndex := 24, descriptorIndex := 25, attributes := #[] }, { accessFlags := 9, nameIndex := 11, descriptorIndex := 12, attributes := #[] }] 32 2 #[] #[])
  fields := #[]
  methods := #[k15m0, k15m1, k15m2]
  instanceTypes := #[]
  staticTypes := #[]
  resolved := Array.replicate 49 none
  statics := none }

def pool16 : Array CpInfo := pool [(1, .class_ 2), (0, u "java/lang/Cloneable"), (0, .class_ 4), (0, u "java/lang/Object")] 2

/-- java/lang/Cloneable -/
def k16 : Class := { plain "java/lang/Cloneable" (some 0) with
  accessFlags := 1537
  interfaces := #[]
  cf := some (fileOf pool16 1 #[] #[] 1537 3 #[] #[])
  fields := #[]
  methods := #[]
  instanceTypes := #[]
  staticTypes := #[]
  resolved := Array.replicate 7 none
  statics := none }

def pool17 : Array CpInfo := pool [(2, .class_ 4), (1, u "java/lang/Object"), (0, u "<init>"), (0, u "()V"), (1, .class_ 10), (1, u "java/lang/System"), (0, u "allowSecurityManager"), (0, u "I"), (16, u "cons"), (0, u "Ljava/io/Console;"), (77, .class_ 110), (1, u "java/lang/System$CallersHolder"), (43, u "initialErrStream"), (0, u "Ljava/io/PrintStream;"), (19, u "security"), (0, u "Ljava/lang/SecurityManager;"), (31, .class_ 209), (0, u "java/lang/System$1"), (7, u "props"), (0, u "Ljava/util/Properties;"), (2, u "lineSeparator"), (0, u "Ljava/lang/String;"), (96, .class_ 321), (1, u "java/lang/System$LoggerFinder"), (5, .class_ 328), (0, u "java/lang/System$Logger"), (67, u "err"), (2, u "out"), (91, u "notSupportedJnuEncoding"), (15, u "in"), (17, u "initialIn"), (0, u "Ljava/io/InputStream;"), (35, u "bootLayer"), (0, u "Ljava/lang/ModuleLayer;"), (99, .class_ 664), (0, u "java/lang/System$2"), (9, u "NEVER"), (2, u "MAYBE"), (49, u "arraycopy"), (0, u "(Ljava/lang/Object;ILjava/lang/Object;II)V"), (72, .class_ 802), (0, u "java/lang/System$Logger$Level")] 31

def k17m0 : Method := { name := "<init>", desc := "()V", sig := { parameters := [], returnType := none }, accessFlags := 2, code := none }
def k17m1 : Method := { name := "arraycopy", desc := "(Ljava/lang/Object;ILjava/lang/Object;II)V", sig := { parameters := [(.object "java/lang/Object"), .int, (.object "java/lang/Object"), .int, .int], returnType := none }, accessFlags := 265, code := none }
/-- java/lang/System -/
def k17 : Class := { plain "java/lang/System" (some 0) with
  accessFlags := 49
  interfaces := #[]
  cf := some (fileOf pool17 8 #[.nestMembers #[319, 327, 801, 108, 663, 208]] #[{ accessFlags := 2, nameIndex := 5, descriptorIndex := 6, attributes := #[] }, { accessFlags := 265, nameIndex := 727, descriptorIndex := 728, attributes := #[] }] 49 2 #[] #[{ accessFlags := 25, nameIndex := 507, descriptorIndex := 526, attributes := #[] }, { accessFlags := 25, nameIndex := 399, descriptorIndex := 155, attributes := #[] }, { accessFlags := 25, nameIndex := 396, descriptorIndex := 155, attributes := #[] }, { accessFlags := 10, nameIndex := 525, descriptorIndex := 526, attributes := #[] }, { accessFlags := 26, nameIndex := 674, descriptorIndex := 12, attributes := #[] }, { accessFlags := 26, nameIndex := 677, descriptorIndex := 12, attributes := #[] }, { accessFlags := 10, nameIndex := 11, descriptorIndex := 12, attributes := #[] }, { accessFlags := 74, nameIndex := 175, descriptorIndex := 176, attributes := #[] }, { accessFlags := 10, nameIndex := 491, descriptorIndex := 222, attributes := #[] }, { accessFlags := 74, nameIndex := 29, descriptorIndex := 30, attributes := #[] }, { accessFlags := 74, nameIndex := 154, descriptorIndex := 155, attributes := #[] }, { accessFlags := 10, nameIndex := 217, descriptorIndex := 218, attributes := #[] }, { accessFlags := 10, nameIndex := 221, descriptorIndex := 222, attributes := #[] }, { accessFlags := 8, nameIndex := 562, descriptorIndex := 563, attributes := #[] }])
  fields := #[{ name := "in", type := (.object "java/io/InputStream"), accessFlags := 25, slot := 0, constantValue := 0 }, { name := "out", type := (.object "java/io/PrintStream"), accessFlags := 25, slot := 1, constantValue := 0 }, { name := "err", type := (.object "java/io/PrintStream"), accessFlags := 25, slot := 2, constantValue := 0 }, { name := "initialIn", type := (.object "java/io/InputStream"), accessFlags := 10, slot := 3, constantValue := 0 }, { name := "NEVER", type := .int, accessFlags := 26, slot := 4, constantValue := 0 }, { name := "MAYBE", type := .int, accessFlags := 26, slot := 5, constantValue := 0 }, { name := "allowSecurityManager", type := .int, accessFlags := 10, slot := 6, constantValue := 0 }, { name := "security", type := (.object "java/lang/SecurityManager"), accessFlags := 74, slot := 7, constantValue := 0 }, { name := "notSupportedJnuEncoding", type := (.object "java/lang/String"), accessFlags := 10, slot := 8, constantValue := 0 }, { name := "cons", type := (.object "java/io/Console"), accessFlags := 74, slot := 9, constantValue := 0 }, { name := "initialErrStream", type := (.object "java/io/PrintStream"), accessFlags := 74, slot := 10, constantValue := 0 }, { name := "props", type := (.object "java/util/Properties"), accessFlags := 10, slot := 11, constantValue := 0 }, { name := "lineSeparator", type := (.object "java/lang/String"), accessFlags := 10, slot := 12, constantValue := 0 }, { name := "bootLayer", type := (.object "java/lang/ModuleLayer"), accessFlags := 8, slot := 13, constantValue := 0 }]
  methods := #[k17m0, k17m1]
  instanceTypes := #[]
  staticTypes := #[(.object "java/io/InputStream"), (.object "java/io/PrintStream"), (.object "java/io/PrintStream"), (.object "java/io/InputStream"), .int, .int, .int, (.object "java/lang/SecurityManager"), (.object "java/lang/String"), (.object "java/io/Console"), (.object "java/io/PrintStream"), (.object "java/util/Properties"), (.object "java/lang/String"), (.object "java/lang/ModuleLayer")]
  resolved := Array.replicate 834 none
  statics := none }

def pool18 : Array CpInfo := pool [(4, .class_ 6), (1, u "java/lang/Object"), (0, u "<init>"), (0, u "()V"), (5, .class_ 16), (1, u "java/lang/StringLatin1"), (104, u "$assertionsDisabled"), (0, u "Z"), (98, .class_ 223), (1, u "java/lang/StringLatin1$LinesSpliterator"), (166, .class_ 391), (0, u "java/lang/StringLatin1$CharsSpliterator")] 3

def k18m0 : Method := { name := "<init>", desc := "()V", sig := { parameters := [], returnType := none }, accessFlags := 0, code := none }
/-- java/lang/StringLatin1 -/
def k18 : Class := { plain "java/lang/StringLatin1" (some 0) with
  accessFlags := 48
  interfaces := #[]
  cf := some (fileOf pool18 14 #[.nestMembers #[390, 221]] #[{ accessFlags := 0, nameIndex := 7, descriptorIndex := 8, attributes := #[] }] 48 4 #[] #[{ accessFlags := 4120, nameIndex := 121, descriptorIndex := 122, attributes := #[] }])
  fields := #[{ name := "$assertionsDisabled", type := .boolean, accessFlags := 4120, slot := 0, constantValue := 0 }]
  methods := #[k18m0]
  instanceTypes := #[]
  staticTypes := #[.boolean]
  resolved := Array.replicate 395 none
  statics := none }

def pool19 : Array CpInfo := pool [(2, .class_ 4), (1, u "java/lang/Object"), (0, u "<init>"), (0, u "()V"), (17, .class_ 26), (1, u "jdk/internal/util/Preconditions"), (28, .class_ 56), (0, u "jdk/internal/util/Preconditions$4"), (57, .class_ 115), (0, u "jdk/internal/util/Preconditions$1"), (7, u "SIOOBE_FORMATTER"), (0, u "Ljava/util/function/BiFunction;"), (0, .class_ 126), (0, u "jdk/internal/util/Preconditions$2"), (3, u "AIOOBE_FORMATTER"), (0, .class_ 132), (0, u "jdk/internal/util/Preconditions$3"), (3, u "IOOBE_FORMATTER")] 57

def k19m0 : Method := { name := "<init>", desc := "()V", sig := { parameters := [], returnType := none }, accessFlags := 1, code := none }
/-- jdk/internal/util/Preconditions -/
def k19 : Class := { plain "jdk/internal/util/Preconditions" (some 0) with
  accessFlags := 33
  interfaces := #[]
  cf := some (fileOf pool19 24 #[.nestMembers #[55, 131, 125, 114]] #[{ accessFlags := 1, nameIndex := 5, descriptorIndex := 6, attributes := #[] }] 33 2 #[] #[{ accessFlags := 25, nameIndex := 123, descriptorIndex := 124, attributes := #[] }, { accessFlags := 25, nameIndex := 130, descriptorIndex := 124, attributes := #[] }, { accessFlags := 25, nameIndex := 136, descriptorIndex := 124, attributes := #[] }])
  fields := #[{ name := "SIOOBE_FORMATTER", type := (.object "java/util/function/BiFunction"), accessFlags := 25, slot := 0, constantValue := 0 }, { name := "AIOOBE_FORMATTER", type := (.object "java/util/function/BiFunction"), accessFlags := 25, slot := 1, constantValue := 0 }, { name := "IOOBE_FORMATTER", type := (.object "java/util/function/BiFunction"), accessFlags := 25, slot := 2, constantValue := 0 }]
  methods := #[k19m0]
  instanceTypes := #[]
  staticTypes := #[(.object "java/util/function/BiFunction"), (.object "java/util/function/BiFunction"), (.object "java/util/function/BiFunction")]
  resolved := Array.replicate 194 none
  statics := some 3 }

def pool20 : Array CpInfo := pool [(9, u "<init>"), (6, .class_ 18), (1, u "java/lang/Object"), (0, u "()V"), (1, .class_ 23), (1, u "jdk/internal/util/ArraysSupport"), (0, u "LOG2_ARRAY_LONG_INDEX_SCALE"), (0, u "I"), (2, u "U"), (0, u "Ljdk/internal/misc/Unsafe;"), (8, u "BIG_ENDIAN"), (0, u "Z"), (8, u "LOG2_BYTE_BIT_SIZE"), (4, u "LOG2_ARRAY_INT_INDEX_SCALE"), (54, u "JLA"), (0, u "Ljdk/internal/access/JavaLangAccess;"), (11, u "LOG2_ARRAY_BOOLEAN_INDEX_SCALE"), (9, u "LOG2_ARRAY_BYTE_INDEX_SCALE"), (5, u "LOG2_ARRAY_CHAR_INDEX_SCALE"), (5, u "LOG2_ARRAY_SHORT_INDEX_SCALE"), (18, u "LOG2_ARRAY_FLOAT_INDEX_SCALE"), (24, u "LOG2_ARRAY_DOUBLE_INDEX_SCALE"), (89, u "T_BOOLEAN"), (2, u "T_CHAR"), (1, u "T_FLOAT"), (1, u "T_DOUBLE"), (1, u "T_BYTE"), (1, u "T_SHORT"), (1, u "T_INT"), (1, u "T_LONG"), (1, u "SOFT_MAX_ARRAY_LENGTH")] 83

def k20m0 : Method := { name := "<init>", desc := "()V", sig := { parameters := [], returnType := none }, accessFlags := 2, code := none }
/-- jdk/internal/util/ArraysSupport -/
def k20 : Class := { plain "jdk/internal/util/ArraysSupport" (some 0) with
  accessFlags := 33
  interfaces := #[]
  cf := some (fileOf pool20 21 #[] #[{ accessFlags := 2, nameIndex := 9, descriptorIndex := 19, attributes := #[] }] 33 16 #[] #[{ accessFlags := 24, nameIndex := 28, descriptorIndex := 29, attributes := #[] }, { accessFlags := 26, nameIndex := 38, descriptorIndex := 39, attributes := #[] }, { accessFlags := 25, nameIndex := 121, descriptorIndex := 25, attributes := #[] }, { accessFlags := 25, nameIndex := 131, descriptorIndex := 25, attributes := #[] }, { accessFlags := 25, nameIndex := 137, descriptorIndex := 25, attributes := #[] }, { accessFlags := 25, nameIndex := 143, descriptorIndex := 25, attributes := #[] }, { accessFlags := 25, nameIndex := 53, descriptorIndex := 25, attributes := #[] }, { accessFlags := 25, nameIndex := 24, descriptorIndex := 25, attributes := #[] }, { accessFlags := 25, nameIndex := 162, descriptorIndex := 25, attributes := #[] }, { accessFlags := 25, nameIndex := 187, descriptorIndex := 25, attributes := #[] }, { accessFlags := 26, nameIndex := 48, descriptorIndex := 25, attributes := #[] }, { accessFlags := 25, nameIndex := 277, descriptorIndex := 25, attributes := #[] }, { accessFlags := 25, nameIndex := 280, descriptorIndex := 25, attributes := #[] }, { accessFlags := 25, nameIndex := 282, descriptorIndex := 25, attributes := #[] }, { accessFlags := 25, nameIndex := 284, descriptorIndex := 25, attributes := #[] }, { accessFlags := 25, nameIndex := 286, descriptorIndex := 25, attributes := #[] }, { accessFlags := 25, nameIndex := 288, descriptorIndex := 25, attributes := #[] }, { accessFlags := 25, nameIndex := 290, descriptorIndex := 25, attributes := #[] }, { accessFlags := 25, nameIndex := 292, descriptorIndex := 25, attributes := #[] }, { accessFlags := 26, nameIndex := 108, descriptorIndex := 109, attributes := #[] }, { accessFlags := 25, nameIndex := 294, descriptorIndex := 25, attributes := #[] }])
  fields := #[{ name := "U", type := (.object "jdk/internal/misc/Unsafe"), accessFlags := 24, slot := 0, constantValue := 0 }, { name := "BIG_ENDIAN", type := .boolean, accessFlags := 26, slot := 1, constantValue := 0 }, { name := "LOG2_ARRAY_BOOLEAN_INDEX_SCALE", type := .int, accessFlags := 25, slot := 2, constantValue := 0 }, { name := "LOG2_ARRAY_BYTE_INDEX_SCALE", type := .int, accessFlags := 25, slot := 3, constantValue := 0 }, { name := "LOG2_ARRAY_CHAR_INDEX_SCALE", type := .int, accessFlags := 25, slot := 4, constantValue := 0 }, { name := "LOG2_ARRAY_SHORT_INDEX_SCALE", type := .int, accessFlags := 25, slot := 5, constantValue := 0 }, { name := "LOG2_ARRAY_INT_INDEX_SCALE", type := .int, accessFlags := 25, slot := 6, constantValue := 0 }, { name := "LOG2_ARRAY_LONG_INDEX_SCALE", type := .int, accessFlags := 25, slot := 7, constantValue := 0 }, { name := "LOG2_ARRAY_FLOAT_INDEX_SCALE", type := .int, accessFlags := 25, slot := 8, constantValue := 0 }, { name := "LOG2_ARRAY_DOUBLE_INDEX_SCALE", type := .int, accessFlags := 25, slot := 9, constantValue := 0 }, { name := "LOG2_BYTE_BIT_SIZE", type := .int, accessFlags := 26, slot := 10, constantValue := 0 }, { name := "T_BOOLEAN", type := .int, accessFlags := 25, slot := 11, constantValue := 0 }, { name := "T_CHAR", type := .int, accessFlags := 25, slot := 12, constantValue := 0 }, { name := "T_FLOAT", type := .int, accessFlags := 25, slot := 13, constantValue := 0 }, { name := "T_DOUBLE", type := .int, accessFlags := 25, slot := 14, constantValue := 0 }, { name := "T_BYTE", type := .int, accessFlags := 25, slot := 15, constantValue := 0 }, { name := "T_SHORT", type := .int, accessFlags := 25, slot := 16, constantValue := 0 }, { name := "T_INT", type := .int, accessFlags := 25, slot := 17, constantValue := 0 }, { name := "T_LONG", type := .int, accessFlags := 25, slot := 18, constantValue := 0 }, { name := "JLA", type := (.object "jdk/internal/access/JavaLangAccess"), accessFlags := 26, slot := 19, constantValue := 0 }, { name := "SOFT_MAX_ARRAY_LENGTH", type := .int, accessFlags := 25, slot := 20, constantValue := 0 }]
  methods := #[k20m0]
  instanceTypes := #[]
  staticTypes := #[(.object "jdk/internal/misc/Unsafe"), .boolean, .int, .int, .int, .int, .int, .int, .int, .int, .int, .int, .int, .int, .int, .int, .int, .int, .int, (.object "jdk/internal/access/JavaLangAccess"), .int]
  resolved := Array.replicate 378 none
  statics := none }

/-- the primitive byte -/
def k21 : Class := { plain "byte" none with kind := .primitive 'B', accessFlags := 0x411 }
/-- [B -/
def k22 : Class := { plain "[B" (some 0) with kind := .array 21 .byte, interfaces := #[16, 2], accessFlags := 1041 }

/-- the primitive char -/
def k23 : Class := { plain "char" none with kind := .primitive 'C', accessFlags := 0x411 }
/-- [C -/
def k24 : Class := { plain "[C" (some 0) with kind := .array 23 .char, interfaces := #[16, 2], accessFlags := 1041 }

/-- the primitive int -/
def k25 : Class := { plain "int" none with kind := .primitive 'I', accessFlags := 0x411 }
/-- [I -/
def k26 : Class := { plain "[I" (some 0) with kind := .array 25 .int, interfaces := #[16, 2], accessFlags := 1041 }

def heap : Heap := #[{ cls := 7, slots := #[.long 0, .int 1, .null, .int 0, .null, .int 0, .int 0], vm := .statics 7 },
  { cls := 10, slots := #[.null, .null, .ref 4, .null, .null, .null], vm := .statics 10 },
  { cls := 14, slots := #[.ref 4, .null], vm := .statics 14 },
  { cls := 19, slots := #[.null, .null, .null], vm := .statics 19 },
  { cls := 14, slots := #[.null, .null, .null], vm := .none }]
def classes : Array Class := #[k0, k1, k2, k3, k4, k5, k6, k7, k8, k9, k10, k11, k12, k13, k14, k15, k16, k17, k18, k19, k20, k21, k22, k23, k24, k25, k26]
def interned : List (Array UInt16 × Addr) := []
def slotsUsed : Nat := 21
def theMethod : MethodId := ⟨1, 5⟩
def args0 : Array Value := #[.int 5, .int 7, .int 9, .int 1, .int 0, .int 12]
def aboutOver (below : List Frame) : State where
  vm := { classes := classes, interned := interned.toArray }
  heap := heap
  slotsUsed := slotsUsed
  threads := #[{ frames := .invoking theMethod args0 :: below }]
def below0 : List Frame := [.native { method := ⟨0, 0⟩, args := #[] }]
def about1 : State := aboutOver below0
def p0 : Program := .bare "" "" ""
def e0 : Env := launch0.env 0 0 0
theorem w_frames : about1.frames = Frame.invoking theMethod args0 :: below0 := rfl
set_option maxRecDepth 65536 in
theorem w_args : argsFit about1.vm theMethod args0 = true := by decide +kernel
set_option maxRecDepth 65536 in
theorem w_heap : heapFits about1 = true := by decide +kernel
set_option maxRecDepth 65536 in
theorem w_runnable : about1.curStatus? = some .runnable := by decide +kernel
set_option maxRecDepth 65536 in
theorem w_alone : about1.alone = true := by decide +kernel
set_option maxRecDepth 65536 in
theorem w_named : about1.methodNamed? x = some theMethod := by decide +kernel
set_option maxRecDepth 65536 in
theorem w_hears : about1.hears theMethod below0 = true := by decide +kernel
set_option maxRecDepth 65536 in
theorem w_ripe : about1.ripe theMethod args0 below0 = true := by decide +kernel
theorem w_running : about1.status = .running := rfl
set_option maxRecDepth 65536 in
theorem w_room : about1.hasRoom e0.platform room_1 = true :=
  launch0.hasRoom_least _ room_1 (by decide +kernel) (by decide +kernel) (by decide +kernel) (by decide +kernel) (by decide +kernel) (by decide +kernel)
theorem allAtoms_all (ts : List Jvm.Cond) (a : Array Jvm.Value) (st : Jvm.State) : (allAtoms ts).before a st = ts.all (fun c => c.before a st) := by
  induction ts with
  | nil => rfl
  | cons c t ih =>
    show (Jvm.Cond.and c (allAtoms t)).before a st = _
    rw [Jvm.Cond.before_and, ih, List.all_cons]
def words1 : List Jvm.Cond := Jvm.Cond.code x code maxLocals ret :: tables_1
/-- a 'code' word, met by the world's own term for the bytes: nothing is compared byte by byte -/
theorem code_word {y : MethodName} {bytes : ByteArray} {mx : Nat} {rt : Option FieldType} {a : Array Value} {s : State} {m : MethodId} {meth : Method} {c : Code} (h1 : s.methodNamed? y = some m) (h2 : s.vm.method? m = some meth) (h3 : meth.code = some c) (h4 : c.code = bytes)
    (h5 : (c.maxLocals == mx && c.exceptionTable.isEmpty && decide (c.maxStack ≤ mostOperands) && decide (meth.sig.returnType = rt) && !meth.locks && decide (parseMethodDescriptor y.desc = some meth.sig)) = true) : (Jvm.Cond.code y bytes mx rt).before a s = true := by
  simp only [Bool.and_eq_true, beq_iff_eq, Bool.not_eq_true', decide_eq_true_eq] at h5
  obtain ⟨⟨⟨⟨⟨g1, g2⟩, g3⟩, g4⟩, g5⟩, g6⟩ := h5
  simp [Cond.before, Cond.holds, Cond.value, h1, h2, h3, h4, g1, g2, g3, g4, g5, g6]
def isCode : Jvm.Cond → Bool
  | .code _ _ _ _ => true
  | _ => false
theorem all_split {L : List Jvm.Cond} {P : Jvm.Cond → Bool} (h1 : L.all (fun c => isCode c || P c) = true) (h2 : ∀ c ∈ L.filter isCode, P c = true) : L.all P = true := by
  refine List.all_eq_true.mpr fun c hc => ?_
  have h := List.all_eq_true.mp h1 c hc
  rcases Bool.eq_false_or_eq_true (isCode c) with hi | hi
  · exact h2 c (List.mem_filter.mpr ⟨hc, hi⟩)
  · simpa [hi] using h
set_option maxRecDepth 65536 in
theorem w_c0 : (Jvm.Cond.code x code maxLocals ret).before args0 about1 = true := code_word (m := ⟨1, 5⟩) (meth := k1m5) (c := k1c5) (by decide +kernel) rfl rfl rfl (by decide +kernel)
set_option maxRecDepth 65536 in
theorem w_c1 : (Jvm.Cond.code ({ cls := "java/lang/String", name := "<init>", desc := "([C)V" } : Jvm.MethodName) jdk_42_method_3_code (2 : Nat) (Option.none : Option Jvm.ClassFile.FieldType)).before args0 about1 = true := code_word (m := ⟨7, 1⟩) (meth := k7m1) (c := k7c1) (by decide +kernel) rfl rfl rfl (by decide +kernel)
set_option maxRecDepth 65536 in
theorem w_c2 : (Jvm.Cond.code ({ cls := "java/lang/String", name := "<init>", desc := "([CIILjava/lang/Void;)V" } : Jvm.MethodName) jdk_42_method_149_code (6 : Nat) (Option.none : Option Jvm.ClassFile.FieldType)).before args0 about1 = true := code_word (m := ⟨7, 5⟩) (meth := k7m5) (c := k7c5) (by decide +kernel) rfl rfl rfl (by decide +kernel)
set_option maxRecDepth 65536 in
theorem w_c3 : (Jvm.Cond.code ({ cls := "java/lang/Object", name := "<init>", desc := "()V" } : Jvm.MethodName) object_method_1_code (1 : Nat) (Option.none : Option Jvm.ClassFile.FieldType)).before args0 about1 = true := code_word (m := ⟨0, 0⟩) (meth := k0m0) (c := k0c0) (by decide +kernel) rfl rfl rfl (by decide +kernel)
set_option maxRecDepth 65536 in
theorem w_c4 : (Jvm.Cond.code ({ cls := "java/lang/StringUTF16", name := "compress", desc := "([CII)[B" } : Jvm.MethodName) jdk_52_method_16_code (6 : Nat) (Option.some (Jvm.ClassFile.FieldType.array Jvm.ClassFile.FieldType.byte))).before args0 about1 = true := code_word (m := ⟨8, 2⟩) (meth := k8m2) (c := k8c2) (by decide +kernel) rfl rfl rfl (by decide +kernel)
set_option maxRecDepth 65536 in
theorem w_c5 : (Jvm.Cond.code ({ cls := "java/lang/StringUTF16", name := "compress", desc := "([CI[BII)I" } : Jvm.MethodName) jdk_52_method_21_code (7 : Nat) (Option.some Jvm.ClassFile.FieldType.int)).before args0 about1 = true := code_word (m := ⟨8, 3⟩) (meth := k8m3) (c := k8c3) (by decide +kernel) rfl rfl rfl (by decide +kernel)
set_option maxRecDepth 65536 in
theorem w_c6 : (Jvm.Cond.code ({ cls := "java/lang/StringUTF16", name := "coderFromArrayLen", desc := "([BI)B" } : Jvm.MethodName) jdk_52_method_15_code (2 : Nat) (Option.some Jvm.ClassFile.FieldType.byte)).before args0 about1 = true := code_word (m := ⟨8, 1⟩) (meth := k8m1) (c := k8c1) (by decide +kernel) rfl rfl rfl (by decide +kernel)
set_option maxRecDepth 65536 in
theorem w_c7 : (Jvm.Cond.code ({ cls := "com/example/astilla/astilla/PointLabels", name := "<init>", desc := "(C)V" } : Jvm.MethodName) prog_15_method_1_code (2 : Nat) (Option.none : Option Jvm.ClassFile.FieldType)).before args0 about1 = true := code_word (m := ⟨9, 0⟩) (meth := k9m0) (c := k9c0) (by decide +kernel) rfl rfl rfl (by decide +kernel)
set_option maxRecDepth 65536 in
theorem w_c8 : (Jvm.Cond.code ({ cls := "com/example/astilla/astilla/PointLabels", name := "startNode", desc := "(Ljava/lang/String;)V" } : Jvm.MethodName) prog_15_method_2_code (3 : Nat) (Option.none : Option Jvm.ClassFile.FieldType)).before args0 about1 = true := code_word (m := ⟨9, 1⟩) (meth := k9m1) (c := k9c1) (by decide +kernel) rfl rfl rfl (by decide +kernel)
set_option maxRecDepth 65536 in
theorem w_c9 : (Jvm.Cond.code ({ cls := "java/lang/String", name := "getBytes", desc := "(Ljava/nio/charset/Charset;)[B" } : Jvm.MethodName) jdk_42_method_64_code (2 : Nat) (Option.some (Jvm.ClassFile.FieldType.array Jvm.ClassFile.FieldType.byte))).before args0 about1 = true := code_word (m := ⟨7, 4⟩) (meth := k7m4) (c := k7c4) (by decide +kernel) rfl rfl rfl (by decide +kernel)
set_option maxRecDepth 65536 in
theorem w_c10 : (Jvm.Cond.code ({ cls := "java/lang/String", name := "coder", desc := "()B" } : Jvm.MethodName) jdk_42_method_152_code (1 : Nat) (Option.some Jvm.ClassFile.FieldType.byte)).before args0 about1 = true := code_word (m := ⟨7, 6⟩) (meth := k7m6) (c := k7c6) (by decide +kernel) rfl rfl rfl (by decide +kernel)
set_option maxRecDepth 65536 in
theorem w_c11 : (Jvm.Cond.code ({ cls := "java/lang/String", name := "encode", desc := "(Ljava/nio/charset/Charset;B[B)[B" } : Jvm.MethodName) jdk_42_method_18_code (3 : Nat) (Option.some (Jvm.ClassFile.FieldType.array Jvm.ClassFile.FieldType.byte))).before args0 about1 = true := code_word (m := ⟨7, 2⟩) (meth := k7m2) (c := k7c2) (by decide +kernel) rfl rfl rfl (by decide +kernel)
set_option maxRecDepth 65536 in
theorem w_c12 : (Jvm.Cond.code ({ cls := "java/lang/String", name := "encodeUTF8", desc := "(B[BZ)[B" } : Jvm.MethodName) jdk_42_method_46_code (9 : Nat) (Option.some (Jvm.ClassFile.FieldType.array Jvm.ClassFile.FieldType.byte))).before args0 about1 = true := code_word (m := ⟨7, 3⟩) (meth := k7m3) (c := k7c3) (by decide +kernel) rfl rfl rfl (by decide +kernel)
set_option maxRecDepth 65536 in
theorem w_c13 : (Jvm.Cond.code ({ cls := "java/lang/StringCoding", name := "hasNegatives", desc := "([BII)Z" } : Jvm.MethodName) jdk_123_method_2_code (3 : Nat) (Option.some Jvm.ClassFile.FieldType.boolean)).before args0 about1 = true := code_word (m := ⟨15, 1⟩) (meth := k15m1) (c := k15c1) (by decide +kernel) rfl rfl rfl (by decide +kernel)
set_option maxRecDepth 65536 in
theorem w_c14 : (Jvm.Cond.code ({ cls := "java/lang/StringCoding", name := "countPositives", desc := "([BII)I" } : Jvm.MethodName) jdk_123_method_3_code (5 : Nat) (Option.some Jvm.ClassFile.FieldType.int)).before args0 about1 = true := code_word (m := ⟨15, 2⟩) (meth := k15m2) (c := k15c2) (by decide +kernel) rfl rfl rfl (by decide +kernel)
set_option maxRecDepth 65536 in
theorem w_c15 : (Jvm.Cond.code ({ cls := "com/example/astilla/astilla/PointLabels", name := "write", desc := "(I)I" } : Jvm.MethodName) prog_15_method_3_code (5 : Nat) (Option.some Jvm.ClassFile.FieldType.int)).before args0 about1 = true := code_word (m := ⟨9, 2⟩) (meth := k9m2) (c := k9c2) (by decide +kernel) rfl rfl rfl (by decide +kernel)
set_option maxRecDepth 65536 in
theorem w_c16 : (Jvm.Cond.code ({ cls := "com/example/astilla/astilla/PointLabelsWritePinLaw", name := "check", desc := "(Lcom/example/astilla/astilla/PointLabels;IICCBI)Z" } : Jvm.MethodName) method_5_code (10 : Nat) (Option.some Jvm.ClassFile.FieldType.boolean)).before args0 about1 = true := code_word (m := ⟨1, 4⟩) (meth := k1m4) (c := k1c4) (by decide +kernel) rfl rfl rfl (by decide +kernel)
set_option maxRecDepth 65536 in
theorem w_c17 : (Jvm.Cond.code ({ cls := "com/example/astilla/astilla/PointLabelsWritePinLaw", name := "digits", desc := "(I)I" } : Jvm.MethodName) method_3_code (1 : Nat) (Option.some Jvm.ClassFile.FieldType.int)).before args0 about1 = true := code_word (m := ⟨1, 2⟩) (meth := k1m2) (c := k1c2) (by decide +kernel) rfl rfl rfl (by decide +kernel)
set_option maxRecDepth 65536 in
theorem w_c18 : (Jvm.Cond.code ({ cls := "com/example/astilla/astilla/PointLabels", name := "bytes", desc := "()[B" } : Jvm.MethodName) prog_15_method_4_code (1 : Nat) (Option.some (Jvm.ClassFile.FieldType.array Jvm.ClassFile.FieldType.byte))).before args0 about1 = true := code_word (m := ⟨9, 3⟩) (meth := k9m3) (c := k9c3) (by decide +kernel) rfl rfl rfl (by decide +kernel)
set_option maxRecDepth 65536 in
theorem w_c19 : (Jvm.Cond.code ({ cls := "com/example/astilla/astilla/PointLabelsWritePinLaw", name := "digitOk", desc := "([BIIII)Z" } : Jvm.MethodName) method_4_code (5 : Nat) (Option.some Jvm.ClassFile.FieldType.boolean)).before args0 about1 = true := code_word (m := ⟨1, 3⟩) (meth := k1m3) (c := k1c3) (by decide +kernel) rfl rfl rfl (by decide +kernel)
set_option maxRecDepth 65536 in
theorem w_c20 : (Jvm.Cond.code ({ cls := "com/example/astilla/astilla/PointLabelsWritePinLaw", name := "pow10", desc := "(I)I" } : Jvm.MethodName) method_2_code (1 : Nat) (Option.some Jvm.ClassFile.FieldType.int)).before args0 about1 = true := code_word (m := ⟨1, 1⟩) (meth := k1m1) (c := k1c1) (by decide +kernel) rfl rfl rfl (by decide +kernel)
def codes1 : List Jvm.Cond := [Jvm.Cond.code x code maxLocals ret, Jvm.Cond.code ({ cls := "java/lang/String", name := "<init>", desc := "([C)V" } : Jvm.MethodName) jdk_42_method_3_code (2 : Nat) (Option.none : Option Jvm.ClassFile.FieldType), Jvm.Cond.code ({ cls := "java/lang/String", name := "<init>", desc := "([CIILjava/lang/Void;)V" } : Jvm.MethodName) jdk_42_method_149_code (6 : Nat) (Option.none : Option Jvm.ClassFile.FieldType), Jvm.Cond.code ({ cls := "java/lang/Object", name := "<init>", desc := "()V" } : Jvm.MethodName) object_method_1_code (1 : Nat) (Option.none : Option Jvm.ClassFile.FieldType), Jvm.Cond.code ({ cls := "java/lang/StringUTF16", name := "compress", desc := "([CII)[B" } : Jvm.MethodName) jdk_52_method_16_code (6 : Nat) (Option.some (Jvm.ClassFile.FieldType.array Jvm.ClassFile.FieldType.byte)), Jvm.Cond.code ({ cls := "java/lang/StringUTF16", name := "compress", desc := "([CI[BII)I" } : Jvm.MethodName) jdk_52_method_21_code (7 : Nat) (Option.some Jvm.ClassFile.FieldType.int), Jvm.Cond.code ({ cls := "java/lang/StringUTF16", name := "coderFromArrayLen", desc := "([BI)B" } : Jvm.MethodName) jdk_52_method_15_code (2 : Nat) (Option.some Jvm.ClassFile.FieldType.byte), Jvm.Cond.code ({ cls := "com/example/astilla/astilla/PointLabels", name := "<init>", desc := "(C)V" } : Jvm.MethodName) prog_15_method_1_code (2 : Nat) (Option.none : Option Jvm.ClassFile.FieldType), Jvm.Cond.code ({ cls := "com/example/astilla/astilla/PointLabels", name := "startNode", desc := "(Ljava/lang/String;)V" } : Jvm.MethodName) prog_15_method_2_code (3 : Nat) (Option.none : Option Jvm.ClassFile.FieldType), Jvm.Cond.code ({ cls := "java/lang/String", name := "getBytes", desc := "(Ljava/nio/charset/Charset;)[B" } : Jvm.MethodName) jdk_42_method_64_code (2 : Nat) (Option.some (Jvm.ClassFile.FieldType.array Jvm.ClassFile.FieldType.byte)), Jvm.Cond.code ({ cls := "java/lang/String", name := "coder", desc := "()B" } : Jvm.MethodName) jdk_42_method_152_code (1 : Nat) (Option.some Jvm.ClassFile.FieldType.byte), Jvm.Cond.code ({ cls := "java/lang/String", name := "encode", desc := "(Ljava/nio/charset/Charset;B[B)[B" } : Jvm.MethodName) jdk_42_method_18_code (3 : Nat) (Option.some (Jvm.ClassFile.FieldType.array Jvm.ClassFile.FieldType.byte)), Jvm.Cond.code ({ cls := "java/lang/String", name := "encodeUTF8", desc := "(B[BZ)[B" } : Jvm.MethodName) jdk_42_method_46_code (9 : Nat) (Option.some (Jvm.ClassFile.FieldType.array Jvm.ClassFile.FieldType.byte)), Jvm.Cond.code ({ cls := "java/lang/StringCoding", name := "hasNegatives", desc := "([BII)Z" } : Jvm.MethodName) jdk_123_method_2_code (3 : Nat) (Option.some Jvm.ClassFile.FieldType.boolean), Jvm.Cond.code ({ cls := "java/lang/StringCoding", name := "countPositives", desc := "([BII)I" } : Jvm.MethodName) jdk_123_method_3_code (5 : Nat) (Option.some Jvm.ClassFile.FieldType.int), Jvm.Cond.code ({ cls := "com/example/astilla/astilla/PointLabels", name := "write", desc := "(I)I" } : Jvm.MethodName) prog_15_method_3_code (5 : Nat) (Option.some Jvm.ClassFile.FieldType.int), Jvm.Cond.code ({ cls := "com/example/astilla/astilla/PointLabelsWritePinLaw", name := "check", desc := "(Lcom/example/astilla/astilla/PointLabels;IICCBI)Z" } : Jvm.MethodName) method_5_code (10 : Nat) (Option.some Jvm.ClassFile.FieldType.boolean), Jvm.Cond.code ({ cls := "com/example/astilla/astilla/PointLabelsWritePinLaw", name := "digits", desc := "(I)I" } : Jvm.MethodName) method_3_code (1 : Nat) (Option.some Jvm.ClassFile.FieldType.int), Jvm.Cond.code ({ cls := "com/example/astilla/astilla/PointLabels", name := "bytes", desc := "()[B" } : Jvm.MethodName) prog_15_method_4_code (1 : Nat) (Option.some (Jvm.ClassFile.FieldType.array Jvm.ClassFile.FieldType.byte)), Jvm.Cond.code ({ cls := "com/example/astilla/astilla/PointLabelsWritePinLaw", name := "digitOk", desc := "([BIIII)Z" } : Jvm.MethodName) method_4_code (5 : Nat) (Option.some Jvm.ClassFile.FieldType.boolean), Jvm.Cond.code ({ cls := "com/example/astilla/astilla/PointLabelsWritePinLaw", name := "pow10", desc := "(I)I" } : Jvm.MethodName) method_2_code (1 : Nat) (Option.some Jvm.ClassFile.FieldType.int)]
set_option maxRecDepth 65536 in
theorem codes_eq : words1.filter isCode = codes1 := rfl
theorem w_codes : ∀ c ∈ words1.filter isCode, c.before args0 about1 = true := by
  rw [codes_eq]
  intro c hc
  simp only [codes1, List.mem_cons, List.not_mem_nil, or_false] at hc
  rcases hc with rfl | rfl | rfl | rfl | rfl | rfl | rfl | rfl | rfl | rfl | rfl | rfl | rfl | rfl | rfl | rfl | rfl | rfl | rfl | rfl | rfl
  · exact w_c0
  · exact w_c1
  · exact w_c2
  · exact w_c3
  · exact w_c4
  · exact w_c5
  · exact w_c6
  · exact w_c7
  · exact w_c8
  · exact w_c9
  · exact w_c10
  · exact w_c11
  · exact w_c12
  · exact w_c13
  · exact w_c14
  · exact w_c15
  · exact w_c16
  · exact w_c17
  · exact w_c18
  · exact w_c19
  · exact w_c20
set_option maxRecDepth 65536 in
theorem w_t1 : (words1.take 24).all (fun c => isCode c || c.before args0 about1) = true := by decide +kernel
set_option maxRecDepth 65536 in
theorem w_t2 : ((words1.drop 24).take 24).all (fun c => isCode c || c.before args0 about1) = true := by decide +kernel
set_option maxRecDepth 65536 in
theorem w_t3 : (((words1.drop 24).drop 24).take 24).all (fun c => isCode c || c.before args0 about1) = true := by decide +kernel
set_option maxRecDepth 65536 in
theorem w_t4 : ((((words1.drop 24).drop 24).drop 24).take 24).all (fun c => isCode c || c.before args0 about1) = true := by decide +kernel
set_option maxRecDepth 65536 in
theorem w_t5 : ((((words1.drop 24).drop 24).drop 24).drop 24).all (fun c => isCode c || c.before args0 about1) = true := by decide +kernel
theorem w_tables : (allAtoms (Jvm.Cond.code x code maxLocals ret :: tables_1)).before args0 about1 = true := by
  rw [allAtoms_all]
  show words1.all (fun c => c.before args0 about1) = true
  refine all_split ?_ w_codes
  rw [← List.take_append_drop 24 words1, List.all_append, w_t1, ← List.take_append_drop 24 (words1.drop 24), List.all_append, w_t2, ← List.take_append_drop 24 ((words1.drop 24).drop 24), List.all_append, w_t3, ← List.take_append_drop 24 (((words1.drop 24).drop 24).drop 24), List.all_append, w_t4, w_t5]
  rfl
set_option maxRecDepth 65536 in
theorem w_rest : rest_1_c.before args0 about1 = true := by decide +kernel
set_option maxRecDepth 65536 in
theorem w_case : (Jvm.Cond.and given_1 narrow_1).before args0 about1 = true := by decide +kernel
theorem w_applies : (headSpec (Jvm.Cond.code x code maxLocals ret :: tables_1) room_1).applies x e0.platform about1 = true :=
  (Spec.applies_iff w_frames).mpr ⟨w_running, w_runnable, w_alone, w_named, w_hears, w_ripe, w_room, w_tables⟩
theorem atStart : AtStart classFile x code maxLocals ret World_1 tables_1 room_1 Calls_1 rest_1 Pre_1 launch0 p0 e0 about1 theMethod args0 below0 :=
  ⟨lists_1, trivial, launch0.admits_env _ _ _, launch0.least_env, fairChoices_fair.cas, fairChoices_fair.clock, w_frames, w_args, w_heap, w_applies, trivial, w_rest, w_case⟩
end start1
theorem witness_1 : WitnessClaimed_1 := ⟨start1.p0, start1.e0, start1.about1, start1.theMethod, start1.args0, start1.below0, start1.atStart⟩
end Jvm.Pilot.@@N@@
