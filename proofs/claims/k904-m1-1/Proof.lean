import JvmDerived
import JvmDerived.Pilot.@@N@@Statement
import JvmDerived.Pilot.@@N@@Code
set_option linter.unusedVariables false
set_option linter.unusedSimpArgs false
namespace Jvm.RoadKit
open Sem ClassFile Op Lib Jvm.Stand Jvm.Free Jvm.LawKit
section New
variable {p : Program} {l : Launch} {e : Env} {R : Room} {s : State} {m : MethodId} {args : Array Value} {below : List Frame} {meth : Method} {c : Code} {T : State} {locs : List Loc} {cells slots : Nat}
theorem retI (X : Stand p l e R s m args below meth c T locs cells slots) (hx : p.tables.exec = Jvm.exec) {pc : Nat} {Ls : Array Slot} {z : Int32} {rest : List Value} (hret : meth.sig.returnType = some .int) (hd : decode c.code pc = .ok (.ireturn, 1)) {fs : List Frame}
    (hl : ∀ (f : JFrame) (acts : List Action), f.method = m → f.locked = none → f.entered = [] → (doReturn e (T.setTop f) acts (some (.int z))).1 = T.setFrames fs) : Steps p.tables e below (T.setTop (mkF m pc Ls (.int z :: rest))) (T.setFrames fs) := by
  have hm' : T.vm.method? m = some meth := X.method'
  have hn : narrow .int (.int z) = .int z := rfl
  show Steps p.tables e below (T.setTop { method := m, pc := pc, locals := Ls, stack := _ :: rest, locked := none }) _
  jvm_step X.here [X.here.top, hx, hd, hm', hret, hn]
  first | (intro acts; rw [hl _ acts rfl rfl rfl]) | rw [hl _ _ rfl rfl rfl]
  exact Steps.refl _
end New
end Jvm.RoadKit
namespace Jvm.Pilot.@@N@@
open Jvm Jvm.ClassFile Sem Op Lib Jvm.Free Jvm.Stand Jvm.LawKit Jvm.RoadKit Bundle Jvm.Pilot.@@N@@.Jvm.D
open Jvm.Free.XT (ushr ushrL cmpL)
section GoKit
open Jvm.Free.XT (ushr ushrL cmpL)
variable {p : Program} {l : Launch} {e : Env} {R : Room} {s : State} {m : MethodId} {args : Array Value} {below : List Frame} {meth : Method} {c : Code} {T : State} {locs : List Loc} {cells slots : Nat} {Q : Option Value → Heap → List Loc → Prop} {rc rs : Nat} {Fi : Outcome → State → Prop} {bytes : ByteArray} {pc pc' : Nat} {Ls : Array Slot} {rest : List Value}
def GoE (p : Program) (e : Env) (below : List Frame) (Fi : Outcome → State → Prop) (S : State) : Prop :=
  ∃ t o, Steps p.tables e below S t ∧ t.status = .running ∧ Ended t below o ∧ Fi o t
abbrev Go (p : Program) (e : Env) (below : List Frame) (s : State) (rc rs : Nat) (Q : Option Value → Heap → List Loc → Prop) (S : State) : Prop :=
  GoE p e below (fun o t => ∃ v L, o = .returned v ∧ Q v t.heap L ∧ FrameEnd s o t L rc rs) S
theorem GoE.pull {a b : State} (h : GoE p e below Fi b) (f : ∀ t, Steps p.tables e below b t → Steps p.tables e below a t) : GoE p e below Fi a := by
  obtain ⟨t, o, h1, h2⟩ := h
  exact ⟨t, o, f t h1, h2⟩
theorem GoE.imp {Fi' : Outcome → State → Prop} {a : State} (h : GoE p e below Fi a) (f : ∀ o t, Fi o t → Fi' o t) : GoE p e below Fi' a := by
  obtain ⟨t, o, h1, h2, h3, h4⟩ := h
  exact ⟨t, o, h1, h2, h3, f _ _ h4⟩
def Ctr (l : Launch) (Z : State) (y : MethodName) (bytes : ByteArray) (ml : Nat) (ret : Option FieldType) (ws : List Jvm.Cond) (rm : Room) (as : Array Value) (h0 : Heap) (Q : Option Value → Heap → List Loc → Prop) : Prop :=
  MetFree l y (head1 (Jvm.Cond.code y bytes ml ret :: ws) rm) (fun a U => a = as ∧ Z.Warmed39 U.vm ∧ U.heap = h0) (fun _ _ _ _ _ => True) (fun _ U o U' => ∃ v L, o = .returned v ∧ Q v U'.heap L ∧ FrameEnd U o U' L rm.cells rm.slots)
theorem Ctr.enter {Z : State} {y : MethodName} {ml : Nat} {ret : Option FieldType} {ws : List Jvm.Cond} {rm : Room} {as : Array Value} {h0 : Heap} (hpl : plainFor y = true) (hef : ∀ m, entryFrame m as ml = mkF m 0 Ls [])
    (body : ∀ (p : Program) (e : Env) (s : State) (m : MethodId) (below : List Frame) (meth : Method) (c : Code) (T : State), p.tables.exec = Jvm.exec → c.code = bytes → c.maxLocals = ml → s.vm.findClass y.cls = some m.cls → meth.name = y.name → meth.sig.returnType = ret → meth.locks = false → Z.Warmed39 s.vm → s.heap = h0 →
      Stand p l e rm s m as below meth c T [] 0 0 → T.heap = h0 → Go p e below s rm.cells rm.slots Q (T.setTop (mkF m 0 Ls []))) : Ctr l Z y bytes ml ret ws rm as h0 Q := by
  refine MetFree.of_bodySF hpl hisR ?_
  intro p e s m args below meth c s₁ Bd hml0 hP hK
  obtain ⟨rfl, hZ, hh⟩ := hP
  have h := body p e s m below meth c s₁ Bd.exec Bd.bytes hml0 (findClass_of_methodNamed Bd.named) (name_of_methodNamed Bd.named Bd.method).1 Bd.returns (BodyLoose.notSynchronized Bd) hZ hh (Stand.of_body Bd) (by rw [← hh, Bd.state]; rfl)
  exact h.pull fun t k => castTop (hef m) k
theorem Ctr.imp {Z : State} {y : MethodName} {ml : Nat} {ret : Option FieldType} {ws : List Jvm.Cond} {rm : Room} {as : Array Value} {h0 : Heap} {Q' : Option Value → Heap → List Loc → Prop} (C : Ctr l Z y bytes ml ret ws rm as h0 Q) (f : ∀ v h L, Q v h L → Q' v h L) : Ctr l Z y bytes ml ret ws rm as h0 Q' := by
  intro p e ha hc hk s m args below hf happ hP hK
  obtain ⟨n, o, h1, h2, h3, v, L, h4, h5, h6⟩ := C p e ha hc hk s m args below hf happ hP hK
  exact ⟨n, o, h1, h2, h3, v, L, h4, f _ _ _ h5, h6⟩
theorem g_iload (X : Stand p l e R s m args below meth c T locs cells slots) (hx : p.tables.exec = Jvm.exec) {k : Nat} {v : Int32} (hby : c.code = bytes) (hd : decode bytes pc = .ok (.iload k, 2)) (hp : pc + 2 = pc') (hl : Ls[k]? = some (.val (.int v)))
    (H : GoE p e below Fi (T.setTop (mkF m pc' Ls (.int v :: rest)))) : GoE p e below Fi (T.setTop (mkF m pc Ls rest)) := by
  subst hp; exact H.pull fun t k => Jvm.Free.XS.iload X.here hx rfl (hb hby hd) hl k
theorem g_iloadN (X : Stand p l e R s m args below meth c T locs cells slots) (hx : p.tables.exec = Jvm.exec) {k : Fin 4} {v : Int32} (hby : c.code = bytes) (hd : decode bytes pc = .ok (.iload_n k, 1)) (hp : pc + 1 = pc') (hl : Ls[k.val]? = some (.val (.int v)))
    (H : GoE p e below Fi (T.setTop (mkF m pc' Ls (.int v :: rest)))) : GoE p e below Fi (T.setTop (mkF m pc Ls rest)) := by
  subst hp; exact H.pull fun t k => Jvm.Free.XS.iloadN X.here hx rfl (hb hby hd) hl k
theorem g_istore (X : Stand p l e R s m args below meth c T locs cells slots) (hx : p.tables.exec = Jvm.exec) {k : Nat} {x : Int32} {l' : Array Slot} (hby : c.code = bytes) (hd : decode bytes pc = .ok (.istore k, 2)) (hp : pc + 2 = pc') (hl : storeLocals Ls k (.int x) = some l')
    (H : GoE p e below Fi (T.setTop (mkF m pc' l' rest))) : GoE p e below Fi (T.setTop (mkF m pc Ls (.int x :: rest))) := by
  subst hp; exact H.pull fun t k => Jvm.Free.XS.istore X.here hx rfl (hb hby hd) rfl hl k
theorem g_istoreN (X : Stand p l e R s m args below meth c T locs cells slots) (hx : p.tables.exec = Jvm.exec) {k : Fin 4} {x : Int32} {l' : Array Slot} (hby : c.code = bytes) (hd : decode bytes pc = .ok (.istore_n k, 1)) (hp : pc + 1 = pc') (hl : storeLocals Ls k.val (.int x) = some l')
    (H : GoE p e below Fi (T.setTop (mkF m pc' l' rest))) : GoE p e below Fi (T.setTop (mkF m pc Ls (.int x :: rest))) := by
  subst hp; exact H.pull fun t k => Jvm.Free.XS.istoreN X.here hx rfl (hb hby hd) rfl hl k
theorem g_lload (X : Stand p l e R s m args below meth c T locs cells slots) (hx : p.tables.exec = Jvm.exec) {k : Nat} {v : Int64} (hby : c.code = bytes) (hd : decode bytes pc = .ok (.lload k, 2)) (hp : pc + 2 = pc') (hl : Ls[k]? = some (.val (.long v)))
    (H : GoE p e below Fi (T.setTop (mkF m pc' Ls (.long v :: rest)))) : GoE p e below Fi (T.setTop (mkF m pc Ls rest)) := by
  subst hp; exact H.pull fun t k => Jvm.Free.XT.lload X.here hx rfl (hb hby hd) hl k
theorem g_lloadN (X : Stand p l e R s m args below meth c T locs cells slots) (hx : p.tables.exec = Jvm.exec) {k : Fin 4} {v : Int64} (hby : c.code = bytes) (hd : decode bytes pc = .ok (.lload_n k, 1)) (hp : pc + 1 = pc') (hl : Ls[k.val]? = some (.val (.long v)))
    (H : GoE p e below Fi (T.setTop (mkF m pc' Ls (.long v :: rest)))) : GoE p e below Fi (T.setTop (mkF m pc Ls rest)) := by
  subst hp; exact H.pull fun t k => Jvm.Free.XT.lloadN X.here hx rfl (hb hby hd) hl k
theorem g_lstore (X : Stand p l e R s m args below meth c T locs cells slots) (hx : p.tables.exec = Jvm.exec) {k : Nat} {x : Int64} {l' : Array Slot} (hby : c.code = bytes) (hd : decode bytes pc = .ok (.lstore k, 2)) (hp : pc + 2 = pc') (hl : storeLocals Ls k (.long x) = some l')
    (H : GoE p e below Fi (T.setTop (mkF m pc' l' rest))) : GoE p e below Fi (T.setTop (mkF m pc Ls (.long x :: rest))) := by
  subst hp; exact H.pull fun t k => Jvm.Free.XT.lstore X.here hx rfl (hb hby hd) rfl hl k
theorem g_lstoreN (X : Stand p l e R s m args below meth c T locs cells slots) (hx : p.tables.exec = Jvm.exec) {k : Fin 4} {x : Int64} {l' : Array Slot} (hby : c.code = bytes) (hd : decode bytes pc = .ok (.lstore_n k, 1)) (hp : pc + 1 = pc') (hl : storeLocals Ls k.val (.long x) = some l')
    (H : GoE p e below Fi (T.setTop (mkF m pc' l' rest))) : GoE p e below Fi (T.setTop (mkF m pc Ls (.long x :: rest))) := by
  subst hp; exact H.pull fun t k => Jvm.Free.XT.lstoreN X.here hx rfl (hb hby hd) rfl hl k
theorem g_dload (X : Stand p l e R s m args below meth c T locs cells slots) (hx : p.tables.exec = Jvm.exec) {k : Nat} {v : UInt64} (hby : c.code = bytes) (hd : decode bytes pc = .ok (.dload k, 2)) (hp : pc + 2 = pc') (hl : Ls[k]? = some (.val (.double v)))
    (H : GoE p e below Fi (T.setTop (mkF m pc' Ls (.double v :: rest)))) : GoE p e below Fi (T.setTop (mkF m pc Ls rest)) := by
  subst hp; exact H.pull fun t k => Jvm.Free.XS.dload X.here hx rfl (hb hby hd) hl k
theorem g_dloadN (X : Stand p l e R s m args below meth c T locs cells slots) (hx : p.tables.exec = Jvm.exec) {k : Fin 4} {v : UInt64} (hby : c.code = bytes) (hd : decode bytes pc = .ok (.dload_n k, 1)) (hp : pc + 1 = pc') (hl : Ls[k.val]? = some (.val (.double v)))
    (H : GoE p e below Fi (T.setTop (mkF m pc' Ls (.double v :: rest)))) : GoE p e below Fi (T.setTop (mkF m pc Ls rest)) := by
  subst hp; exact H.pull fun t k => Jvm.Free.XS.dloadN X.here hx rfl (hb hby hd) hl k
theorem g_dstore (X : Stand p l e R s m args below meth c T locs cells slots) (hx : p.tables.exec = Jvm.exec) {k : Nat} {x : UInt64} {l' : Array Slot} (hby : c.code = bytes) (hd : decode bytes pc = .ok (.dstore k, 2)) (hp : pc + 2 = pc') (hl : storeLocals Ls k (.double x) = some l')
    (H : GoE p e below Fi (T.setTop (mkF m pc' l' rest))) : GoE p e below Fi (T.setTop (mkF m pc Ls (.double x :: rest))) := by
  subst hp; exact H.pull fun t k => Jvm.Free.XS.dstore X.here hx rfl (hb hby hd) rfl hl k
theorem g_dstoreN (X : Stand p l e R s m args below meth c T locs cells slots) (hx : p.tables.exec = Jvm.exec) {k : Fin 4} {x : UInt64} {l' : Array Slot} (hby : c.code = bytes) (hd : decode bytes pc = .ok (.dstore_n k, 1)) (hp : pc + 1 = pc') (hl : storeLocals Ls k.val (.double x) = some l')
    (H : GoE p e below Fi (T.setTop (mkF m pc' l' rest))) : GoE p e below Fi (T.setTop (mkF m pc Ls (.double x :: rest))) := by
  subst hp; exact H.pull fun t k => Jvm.Free.XS.dstoreN X.here hx rfl (hb hby hd) rfl hl k
theorem g_aload (X : Stand p l e R s m args below meth c T locs cells slots) (hx : p.tables.exec = Jvm.exec) {k : Nat} {v : Value} (hby : c.code = bytes) (hd : decode bytes pc = .ok (.aload k, 2)) (hp : pc + 2 = pc') (hl : Ls[k]? = some (.val v)) (hv : v.isRef = true)
    (H : GoE p e below Fi (T.setTop (mkF m pc' Ls (v :: rest)))) : GoE p e below Fi (T.setTop (mkF m pc Ls rest)) := by
  subst hp; exact H.pull fun t k => Jvm.Free.XS.aload X.here hx rfl (hb hby hd) hl hv k
theorem g_aloadN (X : Stand p l e R s m args below meth c T locs cells slots) (hx : p.tables.exec = Jvm.exec) {k : Fin 4} {v : Value} (hby : c.code = bytes) (hd : decode bytes pc = .ok (.aload_n k, 1)) (hp : pc + 1 = pc') (hl : Ls[k.val]? = some (.val v)) (hv : v.isRef = true)
    (H : GoE p e below Fi (T.setTop (mkF m pc' Ls (v :: rest)))) : GoE p e below Fi (T.setTop (mkF m pc Ls rest)) := by
  subst hp; exact H.pull fun t k => Jvm.Free.XS.aloadN X.here hx rfl (hb hby hd) hl hv k
theorem g_astore (X : Stand p l e R s m args below meth c T locs cells slots) (hx : p.tables.exec = Jvm.exec) {k : Nat} {x : Value} {l' : Array Slot} (hby : c.code = bytes) (hd : decode bytes pc = .ok (.astore k, 2)) (hp : pc + 2 = pc') (hv : x.isRef = true) (hl : storeLocals Ls k x = some l')
    (H : GoE p e below Fi (T.setTop (mkF m pc' l' rest))) : GoE p e below Fi (T.setTop (mkF m pc Ls (x :: rest))) := by
  subst hp; exact H.pull fun t k => Jvm.Free.XS.astore X.here hx rfl (hb hby hd) rfl hv hl k
theorem g_astoreN (X : Stand p l e R s m args below meth c T locs cells slots) (hx : p.tables.exec = Jvm.exec) {k : Fin 4} {x : Value} {l' : Array Slot} (hby : c.code = bytes) (hd : decode bytes pc = .ok (.astore_n k, 1)) (hp : pc + 1 = pc') (hv : x.isRef = true) (hl : storeLocals Ls k.val x = some l')
    (H : GoE p e below Fi (T.setTop (mkF m pc' l' rest))) : GoE p e below Fi (T.setTop (mkF m pc Ls (x :: rest))) := by
  subst hp; exact H.pull fun t k => Jvm.Free.XS.astoreN X.here hx rfl (hb hby hd) rfl hv hl k
theorem g_iconst (X : Stand p l e R s m args below meth c T locs cells slots) (hx : p.tables.exec = Jvm.exec) {i : Int} {z : Int32} (hby : c.code = bytes) (hd : decode bytes pc = .ok (.iconst i, 1)) (hp : pc + 1 = pc') (hz : z = Int32.ofInt i)
    (H : GoE p e below Fi (T.setTop (mkF m pc' Ls (.int z :: rest)))) : GoE p e below Fi (T.setTop (mkF m pc Ls rest)) := by
  subst hp; exact H.pull fun t k => Jvm.Free.XS.iconst X.here hx rfl (hb hby hd) (hz ▸ k)
theorem g_bipush (X : Stand p l e R s m args below meth c T locs cells slots) (hx : p.tables.exec = Jvm.exec) {i : Int} {z : Int32} (hby : c.code = bytes) (hd : decode bytes pc = .ok (.bipush i, 2)) (hp : pc + 2 = pc') (hz : z = (Int8.ofInt i).toInt32)
    (H : GoE p e below Fi (T.setTop (mkF m pc' Ls (.int z :: rest)))) : GoE p e below Fi (T.setTop (mkF m pc Ls rest)) := by
  subst hp; exact H.pull fun t k => Jvm.Free.XS.bipush X.here hx rfl (hb hby hd) (hz ▸ k)
theorem g_sipush (X : Stand p l e R s m args below meth c T locs cells slots) (hx : p.tables.exec = Jvm.exec) {i : Int} {z : Int32} (hby : c.code = bytes) (hd : decode bytes pc = .ok (.sipush i, 3)) (hp : pc + 3 = pc') (hz : z = (Int16.ofInt i).toInt32)
    (H : GoE p e below Fi (T.setTop (mkF m pc' Ls (.int z :: rest)))) : GoE p e below Fi (T.setTop (mkF m pc Ls rest)) := by
  subst hp; exact H.pull fun t k => Jvm.Free.XS.sipush X.here hx rfl (hb hby hd) (hz ▸ k)
theorem g_lconst (X : Stand p l e R s m args below meth c T locs cells slots) (hx : p.tables.exec = Jvm.exec) {i : Fin 2} {z : Int64} (hby : c.code = bytes) (hd : decode bytes pc = .ok (.lconst i, 1)) (hp : pc + 1 = pc') (hz : z = Int64.ofNat i)
    (H : GoE p e below Fi (T.setTop (mkF m pc' Ls (.long z :: rest)))) : GoE p e below Fi (T.setTop (mkF m pc Ls rest)) := by
  subst hp; exact H.pull fun t k => Jvm.Free.XT.lconst X.here hx rfl (hb hby hd) (hz ▸ k)
theorem g_aconstNull (X : Stand p l e R s m args below meth c T locs cells slots) (hx : p.tables.exec = Jvm.exec)  (hby : c.code = bytes) (hd : decode bytes pc = .ok (.aconst_null, 1)) (hp : pc + 1 = pc') 
    (H : GoE p e below Fi (T.setTop (mkF m pc' Ls (.null :: rest)))) : GoE p e below Fi (T.setTop (mkF m pc Ls rest)) := by
  subst hp; exact H.pull fun t k => Jvm.Free.XS.aconstNull X.here hx rfl (hb hby hd) k
theorem g_ldcI (X : Stand p l e R s m args below meth c T locs cells slots) (hx : p.tables.exec = Jvm.exec) {Z : State} {a0 : Array Value} (hZ : Z.Warmed39 s.vm) {own : String} (hown : s.vm.findClass own = some m.cls) {index : Nat} {v : Int32} (hby : c.code = bytes) (hd : decode bytes pc = .ok (.ldc index, 2)) (hp : pc + 2 = pc') (w : (Jvm.Cond.constant own index v).before a0 Z = true)
    (H : GoE p e below Fi (T.setTop (mkF m pc' Ls (.int v :: rest)))) : GoE p e below Fi (T.setTop (mkF m pc Ls rest)) := by
  subst hp; exact H.pull fun t k => X.ldcInt hx hown (mvT hZ w) (g := mkF m pc Ls rest) rfl (hb hby hd) _ k
theorem g_ldcL (X : Stand p l e R s m args below meth c T locs cells slots) (hx : p.tables.exec = Jvm.exec) {Z : State} {a0 : Array Value} (hZ : Z.Warmed39 s.vm) {own : String} (hown : s.vm.findClass own = some m.cls) {index : Nat} {v : Int64} (hby : c.code = bytes) (hd : decode bytes pc = .ok (.ldc2_w index, 3)) (hp : pc + 3 = pc') (w : (Jvm.Cond.constantLong own index v).before a0 Z = true)
    (H : GoE p e below Fi (T.setTop (mkF m pc' Ls (.long v :: rest)))) : GoE p e below Fi (T.setTop (mkF m pc Ls rest)) := by
  subst hp; exact H.pull fun t k => X.ldc2Long hx hown (mvT hZ w) (g := mkF m pc Ls rest) rfl (hb hby hd) _ k
theorem g_ldcD (X : Stand p l e R s m args below meth c T locs cells slots) (hx : p.tables.exec = Jvm.exec) {Z : State} {a0 : Array Value} (hZ : Z.Warmed39 s.vm) {own : String} (hown : s.vm.findClass own = some m.cls) {index : Nat} {v : UInt64} (hby : c.code = bytes) (hd : decode bytes pc = .ok (.ldc2_w index, 3)) (hp : pc + 3 = pc') (w : (Jvm.Cond.constantDouble own index v).before a0 Z = true)
    (H : GoE p e below Fi (T.setTop (mkF m pc' Ls (.double v :: rest)))) : GoE p e below Fi (T.setTop (mkF m pc Ls rest)) := by
  subst hp; exact H.pull fun t k => X.ldc2DoubleC hx hown (mvT hZ w) (g := mkF m pc Ls rest) rfl (hb hby hd) _ k
theorem g_iadd (X : Stand p l e R s m args below meth c T locs cells slots) (hx : p.tables.exec = Jvm.exec) {x y : Int32} (hby : c.code = bytes) (hd : decode bytes pc = .ok (.iadd, 1)) (hp : pc + 1 = pc') 
    (H : GoE p e below Fi (T.setTop (mkF m pc' Ls (.int (x + y) :: rest)))) : GoE p e below Fi (T.setTop (mkF m pc Ls (.int y :: .int x :: rest))) := by
  subst hp; exact H.pull fun t k => Jvm.Free.XS.iadd X.here hx rfl (hb hby hd) rfl k
theorem g_isub (X : Stand p l e R s m args below meth c T locs cells slots) (hx : p.tables.exec = Jvm.exec) {x y : Int32} (hby : c.code = bytes) (hd : decode bytes pc = .ok (.isub, 1)) (hp : pc + 1 = pc') 
    (H : GoE p e below Fi (T.setTop (mkF m pc' Ls (.int (x - y) :: rest)))) : GoE p e below Fi (T.setTop (mkF m pc Ls (.int y :: .int x :: rest))) := by
  subst hp; exact H.pull fun t k => Jvm.Free.XS.isub X.here hx rfl (hb hby hd) rfl k
theorem g_imul (X : Stand p l e R s m args below meth c T locs cells slots) (hx : p.tables.exec = Jvm.exec) {x y : Int32} (hby : c.code = bytes) (hd : decode bytes pc = .ok (.imul, 1)) (hp : pc + 1 = pc') 
    (H : GoE p e below Fi (T.setTop (mkF m pc' Ls (.int (x * y) :: rest)))) : GoE p e below Fi (T.setTop (mkF m pc Ls (.int y :: .int x :: rest))) := by
  subst hp; exact H.pull fun t k => Jvm.Free.XS.imul X.here hx rfl (hb hby hd) rfl k
theorem g_iand (X : Stand p l e R s m args below meth c T locs cells slots) (hx : p.tables.exec = Jvm.exec) {x y : Int32} (hby : c.code = bytes) (hd : decode bytes pc = .ok (.iand, 1)) (hp : pc + 1 = pc') 
    (H : GoE p e below Fi (T.setTop (mkF m pc' Ls (.int (x &&& y) :: rest)))) : GoE p e below Fi (T.setTop (mkF m pc Ls (.int y :: .int x :: rest))) := by
  subst hp; exact H.pull fun t k => Jvm.Free.XS.iand X.here hx rfl (hb hby hd) rfl k
theorem g_ior (X : Stand p l e R s m args below meth c T locs cells slots) (hx : p.tables.exec = Jvm.exec) {x y : Int32} (hby : c.code = bytes) (hd : decode bytes pc = .ok (.ior, 1)) (hp : pc + 1 = pc') 
    (H : GoE p e below Fi (T.setTop (mkF m pc' Ls (.int (x ||| y) :: rest)))) : GoE p e below Fi (T.setTop (mkF m pc Ls (.int y :: .int x :: rest))) := by
  subst hp; exact H.pull fun t k => Jvm.Free.XT.ior X.here hx rfl (hb hby hd) rfl k
theorem g_ixor (X : Stand p l e R s m args below meth c T locs cells slots) (hx : p.tables.exec = Jvm.exec) {x y : Int32} (hby : c.code = bytes) (hd : decode bytes pc = .ok (.ixor, 1)) (hp : pc + 1 = pc') 
    (H : GoE p e below Fi (T.setTop (mkF m pc' Ls (.int (x ^^^ y) :: rest)))) : GoE p e below Fi (T.setTop (mkF m pc Ls (.int y :: .int x :: rest))) := by
  subst hp; exact H.pull fun t k => Jvm.Free.XT.ixor X.here hx rfl (hb hby hd) rfl k
theorem g_ishl (X : Stand p l e R s m args below meth c T locs cells slots) (hx : p.tables.exec = Jvm.exec) {x y : Int32} (hby : c.code = bytes) (hd : decode bytes pc = .ok (.ishl, 1)) (hp : pc + 1 = pc') 
    (H : GoE p e below Fi (T.setTop (mkF m pc' Ls (.int (x <<< (y &&& 31)) :: rest)))) : GoE p e below Fi (T.setTop (mkF m pc Ls (.int y :: .int x :: rest))) := by
  subst hp; exact H.pull fun t k => Jvm.Free.XT.ishl X.here hx rfl (hb hby hd) rfl k
theorem g_ishr (X : Stand p l e R s m args below meth c T locs cells slots) (hx : p.tables.exec = Jvm.exec) {x y : Int32} (hby : c.code = bytes) (hd : decode bytes pc = .ok (.ishr, 1)) (hp : pc + 1 = pc') 
    (H : GoE p e below Fi (T.setTop (mkF m pc' Ls (.int (x >>> (y &&& 31)) :: rest)))) : GoE p e below Fi (T.setTop (mkF m pc Ls (.int y :: .int x :: rest))) := by
  subst hp; exact H.pull fun t k => Jvm.Free.XT.ishr X.here hx rfl (hb hby hd) rfl k
theorem g_iushr (X : Stand p l e R s m args below meth c T locs cells slots) (hx : p.tables.exec = Jvm.exec) {x y : Int32} (hby : c.code = bytes) (hd : decode bytes pc = .ok (.iushr, 1)) (hp : pc + 1 = pc') 
    (H : GoE p e below Fi (T.setTop (mkF m pc' Ls (.int (ushr x y) :: rest)))) : GoE p e below Fi (T.setTop (mkF m pc Ls (.int y :: .int x :: rest))) := by
  subst hp; exact H.pull fun t k => Jvm.Free.XT.iushr X.here hx rfl (hb hby hd) rfl k
theorem g_idiv (X : Stand p l e R s m args below meth c T locs cells slots) (hx : p.tables.exec = Jvm.exec) {x y : Int32} (hby : c.code = bytes) (hd : decode bytes pc = .ok (.idiv, 1)) (hp : pc + 1 = pc') (hy : y ≠ 0)
    (H : GoE p e below Fi (T.setTop (mkF m pc' Ls (.int (x / y) :: rest)))) : GoE p e below Fi (T.setTop (mkF m pc Ls (.int y :: .int x :: rest))) := by
  subst hp; exact H.pull fun t k => Jvm.Free.XS.idiv X.here hx rfl (hb hby hd) rfl hy k
theorem g_irem (X : Stand p l e R s m args below meth c T locs cells slots) (hx : p.tables.exec = Jvm.exec) {x y : Int32} (hby : c.code = bytes) (hd : decode bytes pc = .ok (.irem, 1)) (hp : pc + 1 = pc') (hy : y ≠ 0)
    (H : GoE p e below Fi (T.setTop (mkF m pc' Ls (.int (x - (x / y) * y) :: rest)))) : GoE p e below Fi (T.setTop (mkF m pc Ls (.int y :: .int x :: rest))) := by
  subst hp; exact H.pull fun t k => Jvm.Free.XS.irem X.here hx rfl (hb hby hd) rfl hy k
theorem g_ineg (X : Stand p l e R s m args below meth c T locs cells slots) (hx : p.tables.exec = Jvm.exec) {x : Int32} (hby : c.code = bytes) (hd : decode bytes pc = .ok (.ineg, 1)) (hp : pc + 1 = pc') 
    (H : GoE p e below Fi (T.setTop (mkF m pc' Ls (.int (-x) :: rest)))) : GoE p e below Fi (T.setTop (mkF m pc Ls (.int x :: rest))) := by
  subst hp; exact H.pull fun t k => Jvm.Free.XS.ineg X.here hx rfl (hb hby hd) rfl k
theorem g_ladd (X : Stand p l e R s m args below meth c T locs cells slots) (hx : p.tables.exec = Jvm.exec) {x y : Int64} (hby : c.code = bytes) (hd : decode bytes pc = .ok (.ladd, 1)) (hp : pc + 1 = pc') 
    (H : GoE p e below Fi (T.setTop (mkF m pc' Ls (.long (x + y) :: rest)))) : GoE p e below Fi (T.setTop (mkF m pc Ls (.long y :: .long x :: rest))) := by
  subst hp; exact H.pull fun t k => Jvm.Free.XT.ladd X.here hx rfl (hb hby hd) rfl k
theorem g_lsub (X : Stand p l e R s m args below meth c T locs cells slots) (hx : p.tables.exec = Jvm.exec) {x y : Int64} (hby : c.code = bytes) (hd : decode bytes pc = .ok (.lsub, 1)) (hp : pc + 1 = pc') 
    (H : GoE p e below Fi (T.setTop (mkF m pc' Ls (.long (x - y) :: rest)))) : GoE p e below Fi (T.setTop (mkF m pc Ls (.long y :: .long x :: rest))) := by
  subst hp; exact H.pull fun t k => Jvm.Free.XT.lsub X.here hx rfl (hb hby hd) rfl k
theorem g_lmul (X : Stand p l e R s m args below meth c T locs cells slots) (hx : p.tables.exec = Jvm.exec) {x y : Int64} (hby : c.code = bytes) (hd : decode bytes pc = .ok (.lmul, 1)) (hp : pc + 1 = pc') 
    (H : GoE p e below Fi (T.setTop (mkF m pc' Ls (.long (x * y) :: rest)))) : GoE p e below Fi (T.setTop (mkF m pc Ls (.long y :: .long x :: rest))) := by
  subst hp; exact H.pull fun t k => Jvm.Free.XT.lmul X.here hx rfl (hb hby hd) rfl k
theorem g_land (X : Stand p l e R s m args below meth c T locs cells slots) (hx : p.tables.exec = Jvm.exec) {x y : Int64} (hby : c.code = bytes) (hd : decode bytes pc = .ok (.land, 1)) (hp : pc + 1 = pc') 
    (H : GoE p e below Fi (T.setTop (mkF m pc' Ls (.long (x &&& y) :: rest)))) : GoE p e below Fi (T.setTop (mkF m pc Ls (.long y :: .long x :: rest))) := by
  subst hp; exact H.pull fun t k => Jvm.Free.XT.land X.here hx rfl (hb hby hd) rfl k
theorem g_lor (X : Stand p l e R s m args below meth c T locs cells slots) (hx : p.tables.exec = Jvm.exec) {x y : Int64} (hby : c.code = bytes) (hd : decode bytes pc = .ok (.lor, 1)) (hp : pc + 1 = pc') 
    (H : GoE p e below Fi (T.setTop (mkF m pc' Ls (.long (x ||| y) :: rest)))) : GoE p e below Fi (T.setTop (mkF m pc Ls (.long y :: .long x :: rest))) := by
  subst hp; exact H.pull fun t k => Jvm.Free.XT.lor X.here hx rfl (hb hby hd) rfl k
theorem g_lxor (X : Stand p l e R s m args below meth c T locs cells slots) (hx : p.tables.exec = Jvm.exec) {x y : Int64} (hby : c.code = bytes) (hd : decode bytes pc = .ok (.lxor, 1)) (hp : pc + 1 = pc') 
    (H : GoE p e below Fi (T.setTop (mkF m pc' Ls (.long (x ^^^ y) :: rest)))) : GoE p e below Fi (T.setTop (mkF m pc Ls (.long y :: .long x :: rest))) := by
  subst hp; exact H.pull fun t k => Jvm.Free.XT.lxor X.here hx rfl (hb hby hd) rfl k
theorem g_ldiv (X : Stand p l e R s m args below meth c T locs cells slots) (hx : p.tables.exec = Jvm.exec) {x y : Int64} (hby : c.code = bytes) (hd : decode bytes pc = .ok (.ldiv, 1)) (hp : pc + 1 = pc') (hy : y ≠ 0)
    (H : GoE p e below Fi (T.setTop (mkF m pc' Ls (.long (x / y) :: rest)))) : GoE p e below Fi (T.setTop (mkF m pc Ls (.long y :: .long x :: rest))) := by
  subst hp; exact H.pull fun t k => Jvm.Free.XT.ldiv X.here hx rfl (hb hby hd) rfl hy k
theorem g_lrem (X : Stand p l e R s m args below meth c T locs cells slots) (hx : p.tables.exec = Jvm.exec) {x y : Int64} (hby : c.code = bytes) (hd : decode bytes pc = .ok (.lrem, 1)) (hp : pc + 1 = pc') (hy : y ≠ 0)
    (H : GoE p e below Fi (T.setTop (mkF m pc' Ls (.long (x - (x / y) * y) :: rest)))) : GoE p e below Fi (T.setTop (mkF m pc Ls (.long y :: .long x :: rest))) := by
  subst hp; exact H.pull fun t k => Jvm.Free.XT.lrem X.here hx rfl (hb hby hd) rfl hy k
theorem g_lneg (X : Stand p l e R s m args below meth c T locs cells slots) (hx : p.tables.exec = Jvm.exec) {x : Int64} (hby : c.code = bytes) (hd : decode bytes pc = .ok (.lneg, 1)) (hp : pc + 1 = pc') 
    (H : GoE p e below Fi (T.setTop (mkF m pc' Ls (.long (-x) :: rest)))) : GoE p e below Fi (T.setTop (mkF m pc Ls (.long x :: rest))) := by
  subst hp; exact H.pull fun t k => Jvm.Free.XT.lneg X.here hx rfl (hb hby hd) rfl k
theorem g_lshl (X : Stand p l e R s m args below meth c T locs cells slots) (hx : p.tables.exec = Jvm.exec) {x : Int64} {y : Int32} (hby : c.code = bytes) (hd : decode bytes pc = .ok (.lshl, 1)) (hp : pc + 1 = pc') 
    (H : GoE p e below Fi (T.setTop (mkF m pc' Ls (.long (x <<< (y.toInt64 &&& 63)) :: rest)))) : GoE p e below Fi (T.setTop (mkF m pc Ls (.int y :: .long x :: rest))) := by
  subst hp; exact H.pull fun t k => Jvm.Free.XT.lshl X.here hx rfl (hb hby hd) rfl k
theorem g_lshr (X : Stand p l e R s m args below meth c T locs cells slots) (hx : p.tables.exec = Jvm.exec) {x : Int64} {y : Int32} (hby : c.code = bytes) (hd : decode bytes pc = .ok (.lshr, 1)) (hp : pc + 1 = pc') 
    (H : GoE p e below Fi (T.setTop (mkF m pc' Ls (.long (x >>> (y.toInt64 &&& 63)) :: rest)))) : GoE p e below Fi (T.setTop (mkF m pc Ls (.int y :: .long x :: rest))) := by
  subst hp; exact H.pull fun t k => Jvm.Free.XT.lshr X.here hx rfl (hb hby hd) rfl k
theorem g_lushr (X : Stand p l e R s m args below meth c T locs cells slots) (hx : p.tables.exec = Jvm.exec) {x : Int64} {y : Int32} (hby : c.code = bytes) (hd : decode bytes pc = .ok (.lushr, 1)) (hp : pc + 1 = pc') 
    (H : GoE p e below Fi (T.setTop (mkF m pc' Ls (.long (ushrL x y) :: rest)))) : GoE p e below Fi (T.setTop (mkF m pc Ls (.int y :: .long x :: rest))) := by
  subst hp; exact H.pull fun t k => Jvm.Free.XT.lushr X.here hx rfl (hb hby hd) rfl k
theorem g_i2l (X : Stand p l e R s m args below meth c T locs cells slots) (hx : p.tables.exec = Jvm.exec) {x : Int32} (hby : c.code = bytes) (hd : decode bytes pc = .ok (.i2l, 1)) (hp : pc + 1 = pc') 
    (H : GoE p e below Fi (T.setTop (mkF m pc' Ls (.long x.toInt64 :: rest)))) : GoE p e below Fi (T.setTop (mkF m pc Ls (.int x :: rest))) := by
  subst hp; exact H.pull fun t k => Jvm.Free.XT.i2l X.here hx rfl (hb hby hd) rfl k
theorem g_l2i (X : Stand p l e R s m args below meth c T locs cells slots) (hx : p.tables.exec = Jvm.exec) {x : Int64} (hby : c.code = bytes) (hd : decode bytes pc = .ok (.l2i, 1)) (hp : pc + 1 = pc') 
    (H : GoE p e below Fi (T.setTop (mkF m pc' Ls (.int x.toInt32 :: rest)))) : GoE p e below Fi (T.setTop (mkF m pc Ls (.long x :: rest))) := by
  subst hp; exact H.pull fun t k => Jvm.Free.XT.l2i X.here hx rfl (hb hby hd) rfl k
theorem g_i2b (X : Stand p l e R s m args below meth c T locs cells slots) (hx : p.tables.exec = Jvm.exec) {x : Int32} (hby : c.code = bytes) (hd : decode bytes pc = .ok (.i2b, 1)) (hp : pc + 1 = pc') 
    (H : GoE p e below Fi (T.setTop (mkF m pc' Ls (.int x.toInt8.toInt32 :: rest)))) : GoE p e below Fi (T.setTop (mkF m pc Ls (.int x :: rest))) := by
  subst hp; exact H.pull fun t k => Jvm.Free.XT.i2b X.here hx rfl (hb hby hd) rfl k
theorem g_i2c (X : Stand p l e R s m args below meth c T locs cells slots) (hx : p.tables.exec = Jvm.exec) {x : Int32} (hby : c.code = bytes) (hd : decode bytes pc = .ok (.i2c, 1)) (hp : pc + 1 = pc') 
    (H : GoE p e below Fi (T.setTop (mkF m pc' Ls (.int x.toUInt32.toUInt16.toUInt32.toInt32 :: rest)))) : GoE p e below Fi (T.setTop (mkF m pc Ls (.int x :: rest))) := by
  subst hp; exact H.pull fun t k => Jvm.Free.XT.i2c X.here hx rfl (hb hby hd) rfl k
theorem g_i2s (X : Stand p l e R s m args below meth c T locs cells slots) (hx : p.tables.exec = Jvm.exec) {x : Int32} (hby : c.code = bytes) (hd : decode bytes pc = .ok (.i2s, 1)) (hp : pc + 1 = pc') 
    (H : GoE p e below Fi (T.setTop (mkF m pc' Ls (.int x.toInt16.toInt32 :: rest)))) : GoE p e below Fi (T.setTop (mkF m pc Ls (.int x :: rest))) := by
  subst hp; exact H.pull fun t k => Jvm.Free.XT.i2s X.here hx rfl (hb hby hd) rfl k
theorem g_i2d (X : Stand p l e R s m args below meth c T locs cells slots) (hx : p.tables.exec = Jvm.exec) {x : Int32} (hby : c.code = bytes) (hd : decode bytes pc = .ok (.i2d, 1)) (hp : pc + 1 = pc') 
    (H : GoE p e below Fi (T.setTop (mkF m pc' Ls (.double (FP.l2d x.toInt64) :: rest)))) : GoE p e below Fi (T.setTop (mkF m pc Ls (.int x :: rest))) := by
  subst hp; exact H.pull fun t k => Jvm.Free.XS.i2dS X.here hx rfl (hb hby hd) rfl (i2d_w x) k
theorem g_l2d (X : Stand p l e R s m args below meth c T locs cells slots) (hx : p.tables.exec = Jvm.exec) {x : Int64} (hby : c.code = bytes) (hd : decode bytes pc = .ok (.l2d, 1)) (hp : pc + 1 = pc') 
    (H : GoE p e below Fi (T.setTop (mkF m pc' Ls (.double (FP.l2d x) :: rest)))) : GoE p e below Fi (T.setTop (mkF m pc Ls (.long x :: rest))) := by
  subst hp; exact H.pull fun t k => Jvm.Free.XS.l2dS X.here hx rfl (hb hby hd) rfl rfl k
theorem g_dcmp (X : Stand p l e R s m args below meth c T locs cells slots) (hx : p.tables.exec = Jvm.exec) {o : CmpOp} {x y : UInt64} {v : Int32} (hby : c.code = bytes) (hd : decode bytes pc = .ok (.dcmp o, 1)) (hp : pc + 1 = pc') (hv : cmpValue (FP.dcmp x y) o = v)
    (H : GoE p e below Fi (T.setTop (mkF m pc' Ls (.int v :: rest)))) : GoE p e below Fi (T.setTop (mkF m pc Ls (.double y :: .double x :: rest))) := by
  subst hp; exact H.pull fun t k => Jvm.Free.XS.dcmpS X.here hx rfl (hb hby hd) rfl hv k
theorem g_lcmp (X : Stand p l e R s m args below meth c T locs cells slots) (hx : p.tables.exec = Jvm.exec) {x y : Int64} (hby : c.code = bytes) (hd : decode bytes pc = .ok (.lcmp, 1)) (hp : pc + 1 = pc') 
    (H : GoE p e below Fi (T.setTop (mkF m pc' Ls (.int (cmpL x y) :: rest)))) : GoE p e below Fi (T.setTop (mkF m pc Ls (.long y :: .long x :: rest))) := by
  subst hp; exact H.pull fun t k => Jvm.Free.XT.lcmp X.here hx rfl (hb hby hd) rfl k
theorem g_dup (X : Stand p l e R s m args below meth c T locs cells slots) (hx : p.tables.exec = Jvm.exec) {x : Value} (hby : c.code = bytes) (hd : decode bytes pc = .ok (.dup, 1)) (hp : pc + 1 = pc') (hc : x.category = 1)
    (H : GoE p e below Fi (T.setTop (mkF m pc' Ls (x :: x :: rest)))) : GoE p e below Fi (T.setTop (mkF m pc Ls (x :: rest))) := by
  subst hp; exact H.pull fun t k => Jvm.Free.XS.dup X.here hx rfl (hb hby hd) rfl hc k
theorem g_pop (X : Stand p l e R s m args below meth c T locs cells slots) (hx : p.tables.exec = Jvm.exec) {x : Value} (hby : c.code = bytes) (hd : decode bytes pc = .ok (.pop, 1)) (hp : pc + 1 = pc') (hc : x.category = 1)
    (H : GoE p e below Fi (T.setTop (mkF m pc' Ls rest))) : GoE p e below Fi (T.setTop (mkF m pc Ls (x :: rest))) := by
  subst hp; exact H.pull fun t k => Jvm.Free.XT.pop X.here hx rfl (hb hby hd) rfl hc k
theorem g_iinc (X : Stand p l e R s m args below meth c T locs cells slots) (hx : p.tables.exec = Jvm.exec) {k : Nat} {cst : Int} {x : Int32} {l' : Array Slot} (hby : c.code = bytes) (hd : decode bytes pc = .ok (.iinc k cst, 3)) (hp : pc + 3 = pc') (hl : Ls[k]? = some (.val (.int x))) (hl' : storeLocals Ls k (.int (x + Int32.ofInt cst)) = some l')
    (H : GoE p e below Fi (T.setTop (mkF m pc' l' rest))) : GoE p e below Fi (T.setTop (mkF m pc Ls rest)) := by
  subst hp; exact H.pull fun t k => Jvm.Free.XS.iinc X.here hx rfl (hb hby hd) hl hl' k
theorem g_goto (X : Stand p l e R s m args below meth c T locs cells slots) (hx : p.tables.exec = Jvm.exec) {o : Int} (hby : c.code = bytes) (hd : decode bytes pc = .ok (.goto o, 3)) (ho : 0 ≤ (pc : Int) + o) (hp : ((pc : Int) + o).toNat = pc')
    (H : GoE p e below Fi (T.setTop (mkF m pc' Ls rest))) : GoE p e below Fi (T.setTop (mkF m pc Ls rest)) :=
  H.pull fun t k => Jvm.Free.XS.goto X.here hx rfl rfl (hb hby hd) ho hp k
theorem g_icmp_eq (X : Stand p l e R s m args below meth c T locs cells slots) (hx : p.tables.exec = Jvm.exec) {o : Int} {pn : Nat} (hby : c.code = bytes) {x y : Int32} (hd : decode bytes pc = .ok (.if_icmp .eq o, 3)) (ho : 0 ≤ (pc : Int) + o) (hp : ((pc : Int) + o).toNat = pc') (hn : pc + 3 = pn)
    (HY : x = y → GoE p e below Fi (T.setTop (mkF m pc' Ls rest))) (HN : ¬ (x = y) → GoE p e below Fi (T.setTop (mkF m pn Ls rest))) : GoE p e below Fi (T.setTop (mkF m pc Ls (.int y :: .int x :: rest))) := by
  subst hn
  by_cases q : x = y
  · exact (HY q).pull fun t k => Jvm.Free.XS.icmpYes X.here hx rfl rfl (hb hby hd) rfl (teq q).1 ho hp k
  · have q' : ¬ (x = y) := by first | exact q | exact Decidable.not_not.mp q
    exact (HN q').pull fun t k => Jvm.Free.XS.icmpNo X.here hx rfl (hb hby hd) rfl (feq q').1 k
theorem g_if_eq (X : Stand p l e R s m args below meth c T locs cells slots) (hx : p.tables.exec = Jvm.exec) {o : Int} {pn : Nat} (hby : c.code = bytes) {x : Int32} (hd : decode bytes pc = .ok (.ifCond .eq o, 3)) (ho : 0 ≤ (pc : Int) + o) (hp : ((pc : Int) + o).toNat = pc') (hn : pc + 3 = pn)
    (HY : x = 0 → GoE p e below Fi (T.setTop (mkF m pc' Ls rest))) (HN : ¬ (x = 0) → GoE p e below Fi (T.setTop (mkF m pn Ls rest))) : GoE p e below Fi (T.setTop (mkF m pc Ls (.int x :: rest))) := by
  subst hn
  by_cases q : x = 0
  · exact (HY q).pull fun t k => Jvm.Free.XS.ifYes X.here hx rfl rfl (hb hby hd) rfl ((if0 _ _).trans (teq q).1) ho hp k
  · have q' : ¬ (x = 0) := by first | exact q | exact Decidable.not_not.mp q
    exact (HN q').pull fun t k => Jvm.Free.XS.ifNo X.here hx rfl (hb hby hd) rfl ((if0 _ _).trans (feq q').1) k
theorem cl_W (u v : Int64) : cmpL u v = lcmpW u v := rfl
theorem cl_lt (u v : Int64) : cmpL u v < 0 ↔ u < v := by rw [cl_W]; exact lw_lt u v
theorem cl_gt (u v : Int64) : 0 < cmpL u v ↔ v < u := by rw [cl_W]; exact lw_gt u v
theorem cl_eq (u v : Int64) : cmpL u v = 0 ↔ u = v := by rw [cl_W]; exact lw_eq u v
theorem g_ifL_eq (X : Stand p l e R s m args below meth c T locs cells slots) (hx : p.tables.exec = Jvm.exec) {o : Int} {pn : Nat} (hby : c.code = bytes) {u v : Int64} (hd : decode bytes pc = .ok (.ifCond .eq o, 3)) (ho : 0 ≤ (pc : Int) + o) (hp : ((pc : Int) + o).toNat = pc') (hn : pc + 3 = pn)
    (HY : u = v → GoE p e below Fi (T.setTop (mkF m pc' Ls rest))) (HN : ¬ (u = v) → GoE p e below Fi (T.setTop (mkF m pn Ls rest))) : GoE p e below Fi (T.setTop (mkF m pc Ls (.int (cmpL u v) :: rest))) :=
  g_if_eq X hx hby hd ho hp hn (fun h => HY ((cl_eq u v).mp h)) (fun h => HN (fun z => h ((cl_eq u v).mpr z)))
theorem g_icmp_ne (X : Stand p l e R s m args below meth c T locs cells slots) (hx : p.tables.exec = Jvm.exec) {o : Int} {pn : Nat} (hby : c.code = bytes) {x y : Int32} (hd : decode bytes pc = .ok (.if_icmp .ne o, 3)) (ho : 0 ≤ (pc : Int) + o) (hp : ((pc : Int) + o).toNat = pc') (hn : pc + 3 = pn)
    (HY : ¬ (x = y) → GoE p e below Fi (T.setTop (mkF m pc' Ls rest))) (HN : x = y → GoE p e below Fi (T.setTop (mkF m pn Ls rest))) : GoE p e below Fi (T.setTop (mkF m pc Ls (.int y :: .int x :: rest))) := by
  subst hn
  by_cases q : ¬ (x = y)
  · exact (HY q).pull fun t k => Jvm.Free.XS.icmpYes X.here hx rfl rfl (hb hby hd) rfl (feq q).2 ho hp k
  · have q' : x = y := by first | exact q | exact Decidable.not_not.mp q
    exact (HN q').pull fun t k => Jvm.Free.XS.icmpNo X.here hx rfl (hb hby hd) rfl (teq q').2 k
theorem g_if_ne (X : Stand p l e R s m args below meth c T locs cells slots) (hx : p.tables.exec = Jvm.exec) {o : Int} {pn : Nat} (hby : c.code = bytes) {x : Int32} (hd : decode bytes pc = .ok (.ifCond .ne o, 3)) (ho : 0 ≤ (pc : Int) + o) (hp : ((pc : Int) + o).toNat = pc') (hn : pc + 3 = pn)
    (HY : ¬ (x = 0) → GoE p e below Fi (T.setTop (mkF m pc' Ls rest))) (HN : x = 0 → GoE p e below Fi (T.setTop (mkF m pn Ls rest))) : GoE p e below Fi (T.setTop (mkF m pc Ls (.int x :: rest))) := by
  subst hn
  by_cases q : ¬ (x = 0)
  · exact (HY q).pull fun t k => Jvm.Free.XS.ifYes X.here hx rfl rfl (hb hby hd) rfl ((if0 _ _).trans (feq q).2) ho hp k
  · have q' : x = 0 := by first | exact q | exact Decidable.not_not.mp q
    exact (HN q').pull fun t k => Jvm.Free.XS.ifNo X.here hx rfl (hb hby hd) rfl ((if0 _ _).trans (teq q').2) k
theorem g_ifL_ne (X : Stand p l e R s m args below meth c T locs cells slots) (hx : p.tables.exec = Jvm.exec) {o : Int} {pn : Nat} (hby : c.code = bytes) {u v : Int64} (hd : decode bytes pc = .ok (.ifCond .ne o, 3)) (ho : 0 ≤ (pc : Int) + o) (hp : ((pc : Int) + o).toNat = pc') (hn : pc + 3 = pn)
    (HY : ¬ (u = v) → GoE p e below Fi (T.setTop (mkF m pc' Ls rest))) (HN : u = v → GoE p e below Fi (T.setTop (mkF m pn Ls rest))) : GoE p e below Fi (T.setTop (mkF m pc Ls (.int (cmpL u v) :: rest))) :=
  g_if_ne X hx hby hd ho hp hn (fun h => HY (fun z => h ((cl_eq u v).mpr z))) (fun h => HN ((cl_eq u v).mp h))
theorem g_icmp_lt (X : Stand p l e R s m args below meth c T locs cells slots) (hx : p.tables.exec = Jvm.exec) {o : Int} {pn : Nat} (hby : c.code = bytes) {x y : Int32} (hd : decode bytes pc = .ok (.if_icmp .lt o, 3)) (ho : 0 ≤ (pc : Int) + o) (hp : ((pc : Int) + o).toNat = pc') (hn : pc + 3 = pn)
    (HY : x < y → GoE p e below Fi (T.setTop (mkF m pc' Ls rest))) (HN : ¬ (x < y) → GoE p e below Fi (T.setTop (mkF m pn Ls rest))) : GoE p e below Fi (T.setTop (mkF m pc Ls (.int y :: .int x :: rest))) := by
  subst hn
  by_cases q : x < y
  · exact (HY q).pull fun t k => Jvm.Free.XS.icmpYes X.here hx rfl rfl (hb hby hd) rfl (tlt q).1 ho hp k
  · have q' : ¬ (x < y) := by first | exact q | exact Decidable.not_not.mp q
    exact (HN q').pull fun t k => Jvm.Free.XS.icmpNo X.here hx rfl (hb hby hd) rfl (flt q').1 k
theorem g_if_lt (X : Stand p l e R s m args below meth c T locs cells slots) (hx : p.tables.exec = Jvm.exec) {o : Int} {pn : Nat} (hby : c.code = bytes) {x : Int32} (hd : decode bytes pc = .ok (.ifCond .lt o, 3)) (ho : 0 ≤ (pc : Int) + o) (hp : ((pc : Int) + o).toNat = pc') (hn : pc + 3 = pn)
    (HY : x < 0 → GoE p e below Fi (T.setTop (mkF m pc' Ls rest))) (HN : ¬ (x < 0) → GoE p e below Fi (T.setTop (mkF m pn Ls rest))) : GoE p e below Fi (T.setTop (mkF m pc Ls (.int x :: rest))) := by
  subst hn
  by_cases q : x < 0
  · exact (HY q).pull fun t k => Jvm.Free.XS.ifYes X.here hx rfl rfl (hb hby hd) rfl ((if0 _ _).trans (tlt q).1) ho hp k
  · have q' : ¬ (x < 0) := by first | exact q | exact Decidable.not_not.mp q
    exact (HN q').pull fun t k => Jvm.Free.XS.ifNo X.here hx rfl (hb hby hd) rfl ((if0 _ _).trans (flt q').1) k
theorem g_ifL_lt (X : Stand p l e R s m args below meth c T locs cells slots) (hx : p.tables.exec = Jvm.exec) {o : Int} {pn : Nat} (hby : c.code = bytes) {u v : Int64} (hd : decode bytes pc = .ok (.ifCond .lt o, 3)) (ho : 0 ≤ (pc : Int) + o) (hp : ((pc : Int) + o).toNat = pc') (hn : pc + 3 = pn)
    (HY : u < v → GoE p e below Fi (T.setTop (mkF m pc' Ls rest))) (HN : ¬ (u < v) → GoE p e below Fi (T.setTop (mkF m pn Ls rest))) : GoE p e below Fi (T.setTop (mkF m pc Ls (.int (cmpL u v) :: rest))) :=
  g_if_lt X hx hby hd ho hp hn (fun h => HY ((cl_lt u v).mp h)) (fun h => HN (fun z => h ((cl_lt u v).mpr z)))
theorem g_icmp_ge (X : Stand p l e R s m args below meth c T locs cells slots) (hx : p.tables.exec = Jvm.exec) {o : Int} {pn : Nat} (hby : c.code = bytes) {x y : Int32} (hd : decode bytes pc = .ok (.if_icmp .ge o, 3)) (ho : 0 ≤ (pc : Int) + o) (hp : ((pc : Int) + o).toNat = pc') (hn : pc + 3 = pn)
    (HY : ¬ (x < y) → GoE p e below Fi (T.setTop (mkF m pc' Ls rest))) (HN : x < y → GoE p e below Fi (T.setTop (mkF m pn Ls rest))) : GoE p e below Fi (T.setTop (mkF m pc Ls (.int y :: .int x :: rest))) := by
  subst hn
  by_cases q : ¬ (x < y)
  · exact (HY q).pull fun t k => Jvm.Free.XS.icmpYes X.here hx rfl rfl (hb hby hd) rfl (flt q).2.1 ho hp k
  · have q' : x < y := by first | exact q | exact Decidable.not_not.mp q
    exact (HN q').pull fun t k => Jvm.Free.XS.icmpNo X.here hx rfl (hb hby hd) rfl (tlt q').2.1 k
theorem g_if_ge (X : Stand p l e R s m args below meth c T locs cells slots) (hx : p.tables.exec = Jvm.exec) {o : Int} {pn : Nat} (hby : c.code = bytes) {x : Int32} (hd : decode bytes pc = .ok (.ifCond .ge o, 3)) (ho : 0 ≤ (pc : Int) + o) (hp : ((pc : Int) + o).toNat = pc') (hn : pc + 3 = pn)
    (HY : ¬ (x < 0) → GoE p e below Fi (T.setTop (mkF m pc' Ls rest))) (HN : x < 0 → GoE p e below Fi (T.setTop (mkF m pn Ls rest))) : GoE p e below Fi (T.setTop (mkF m pc Ls (.int x :: rest))) := by
  subst hn
  by_cases q : ¬ (x < 0)
  · exact (HY q).pull fun t k => Jvm.Free.XS.ifYes X.here hx rfl rfl (hb hby hd) rfl ((if0 _ _).trans (flt q).2.1) ho hp k
  · have q' : x < 0 := by first | exact q | exact Decidable.not_not.mp q
    exact (HN q').pull fun t k => Jvm.Free.XS.ifNo X.here hx rfl (hb hby hd) rfl ((if0 _ _).trans (tlt q').2.1) k
theorem g_ifL_ge (X : Stand p l e R s m args below meth c T locs cells slots) (hx : p.tables.exec = Jvm.exec) {o : Int} {pn : Nat} (hby : c.code = bytes) {u v : Int64} (hd : decode bytes pc = .ok (.ifCond .ge o, 3)) (ho : 0 ≤ (pc : Int) + o) (hp : ((pc : Int) + o).toNat = pc') (hn : pc + 3 = pn)
    (HY : ¬ (u < v) → GoE p e below Fi (T.setTop (mkF m pc' Ls rest))) (HN : u < v → GoE p e below Fi (T.setTop (mkF m pn Ls rest))) : GoE p e below Fi (T.setTop (mkF m pc Ls (.int (cmpL u v) :: rest))) :=
  g_if_ge X hx hby hd ho hp hn (fun h => HY (fun z => h ((cl_lt u v).mpr z))) (fun h => HN ((cl_lt u v).mp h))
theorem g_icmp_gt (X : Stand p l e R s m args below meth c T locs cells slots) (hx : p.tables.exec = Jvm.exec) {o : Int} {pn : Nat} (hby : c.code = bytes) {x y : Int32} (hd : decode bytes pc = .ok (.if_icmp .gt o, 3)) (ho : 0 ≤ (pc : Int) + o) (hp : ((pc : Int) + o).toNat = pc') (hn : pc + 3 = pn)
    (HY : y < x → GoE p e below Fi (T.setTop (mkF m pc' Ls rest))) (HN : ¬ (y < x) → GoE p e below Fi (T.setTop (mkF m pn Ls rest))) : GoE p e below Fi (T.setTop (mkF m pc Ls (.int y :: .int x :: rest))) := by
  subst hn
  by_cases q : y < x
  · exact (HY q).pull fun t k => Jvm.Free.XS.icmpYes X.here hx rfl rfl (hb hby hd) rfl (tlt q).2.2.1 ho hp k
  · have q' : ¬ (y < x) := by first | exact q | exact Decidable.not_not.mp q
    exact (HN q').pull fun t k => Jvm.Free.XS.icmpNo X.here hx rfl (hb hby hd) rfl (flt q').2.2.1 k
theorem g_if_gt (X : Stand p l e R s m args below meth c T locs cells slots) (hx : p.tables.exec = Jvm.exec) {o : Int} {pn : Nat} (hby : c.code = bytes) {x : Int32} (hd : decode bytes pc = .ok (.ifCond .gt o, 3)) (ho : 0 ≤ (pc : Int) + o) (hp : ((pc : Int) + o).toNat = pc') (hn : pc + 3 = pn)
    (HY : 0 < x → GoE p e below Fi (T.setTop (mkF m pc' Ls rest))) (HN : ¬ (0 < x) → GoE p e below Fi (T.setTop (mkF m pn Ls rest))) : GoE p e below Fi (T.setTop (mkF m pc Ls (.int x :: rest))) := by
  subst hn
  by_cases q : 0 < x
  · exact (HY q).pull fun t k => Jvm.Free.XS.ifYes X.here hx rfl rfl (hb hby hd) rfl ((if0 _ _).trans (tlt q).2.2.1) ho hp k
  · have q' : ¬ (0 < x) := by first | exact q | exact Decidable.not_not.mp q
    exact (HN q').pull fun t k => Jvm.Free.XS.ifNo X.here hx rfl (hb hby hd) rfl ((if0 _ _).trans (flt q').2.2.1) k
theorem g_ifL_gt (X : Stand p l e R s m args below meth c T locs cells slots) (hx : p.tables.exec = Jvm.exec) {o : Int} {pn : Nat} (hby : c.code = bytes) {u v : Int64} (hd : decode bytes pc = .ok (.ifCond .gt o, 3)) (ho : 0 ≤ (pc : Int) + o) (hp : ((pc : Int) + o).toNat = pc') (hn : pc + 3 = pn)
    (HY : v < u → GoE p e below Fi (T.setTop (mkF m pc' Ls rest))) (HN : ¬ (v < u) → GoE p e below Fi (T.setTop (mkF m pn Ls rest))) : GoE p e below Fi (T.setTop (mkF m pc Ls (.int (cmpL u v) :: rest))) :=
  g_if_gt X hx hby hd ho hp hn (fun h => HY ((cl_gt u v).mp h)) (fun h => HN (fun z => h ((cl_gt u v).mpr z)))
theorem g_icmp_le (X : Stand p l e R s m args below meth c T locs cells slots) (hx : p.tables.exec = Jvm.exec) {o : Int} {pn : Nat} (hby : c.code = bytes) {x y : Int32} (hd : decode bytes pc = .ok (.if_icmp .le o, 3)) (ho : 0 ≤ (pc : Int) + o) (hp : ((pc : Int) + o).toNat = pc') (hn : pc + 3 = pn)
    (HY : ¬ (y < x) → GoE p e below Fi (T.setTop (mkF m pc' Ls rest))) (HN : y < x → GoE p e below Fi (T.setTop (mkF m pn Ls rest))) : GoE p e below Fi (T.setTop (mkF m pc Ls (.int y :: .int x :: rest))) := by
  subst hn
  by_cases q : ¬ (y < x)
  · exact (HY q).pull fun t k => Jvm.Free.XS.icmpYes X.here hx rfl rfl (hb hby hd) rfl (flt q).2.2.2 ho hp k
  · have q' : y < x := by first | exact q | exact Decidable.not_not.mp q
    exact (HN q').pull fun t k => Jvm.Free.XS.icmpNo X.here hx rfl (hb hby hd) rfl (tlt q').2.2.2 k
theorem g_if_le (X : Stand p l e R s m args below meth c T locs cells slots) (hx : p.tables.exec = Jvm.exec) {o : Int} {pn : Nat} (hby : c.code = bytes) {x : Int32} (hd : decode bytes pc = .ok (.ifCond .le o, 3)) (ho : 0 ≤ (pc : Int) + o) (hp : ((pc : Int) + o).toNat = pc') (hn : pc + 3 = pn)
    (HY : ¬ (0 < x) → GoE p e below Fi (T.setTop (mkF m pc' Ls rest))) (HN : 0 < x → GoE p e below Fi (T.setTop (mkF m pn Ls rest))) : GoE p e below Fi (T.setTop (mkF m pc Ls (.int x :: rest))) := by
  subst hn
  by_cases q : ¬ (0 < x)
  · exact (HY q).pull fun t k => Jvm.Free.XS.ifYes X.here hx rfl rfl (hb hby hd) rfl ((if0 _ _).trans (flt q).2.2.2) ho hp k
  · have q' : 0 < x := by first | exact q | exact Decidable.not_not.mp q
    exact (HN q').pull fun t k => Jvm.Free.XS.ifNo X.here hx rfl (hb hby hd) rfl ((if0 _ _).trans (tlt q').2.2.2) k
theorem g_ifL_le (X : Stand p l e R s m args below meth c T locs cells slots) (hx : p.tables.exec = Jvm.exec) {o : Int} {pn : Nat} (hby : c.code = bytes) {u v : Int64} (hd : decode bytes pc = .ok (.ifCond .le o, 3)) (ho : 0 ≤ (pc : Int) + o) (hp : ((pc : Int) + o).toNat = pc') (hn : pc + 3 = pn)
    (HY : ¬ (v < u) → GoE p e below Fi (T.setTop (mkF m pc' Ls rest))) (HN : v < u → GoE p e below Fi (T.setTop (mkF m pn Ls rest))) : GoE p e below Fi (T.setTop (mkF m pc Ls (.int (cmpL u v) :: rest))) :=
  g_if_le X hx hby hd ho hp hn (fun h => HY (fun z => h ((cl_gt u v).mpr z))) (fun h => HN ((cl_gt u v).mp h))
theorem g_ifnull_no (X : Stand p l e R s m args below meth c T locs cells slots) (hx : p.tables.exec = Jvm.exec) {o : Int} {pn : Nat} (hby : c.code = bytes) {b : Addr} (hd : decode bytes pc = .ok (.ifnull o, 3)) (hn : pc + 3 = pn)
    (H : GoE p e below Fi (T.setTop (mkF m pn Ls rest))) : GoE p e below Fi (T.setTop (mkF m pc Ls (.ref b :: rest))) := by
  subst hn; exact H.pull fun t k => Jvm.Free.XS.ifnullNo X.here hx rfl (hb hby hd) rfl k
theorem g_ifnull_yes (X : Stand p l e R s m args below meth c T locs cells slots) (hx : p.tables.exec = Jvm.exec) {o : Int} (hby : c.code = bytes) (hd : decode bytes pc = .ok (.ifnull o, 3)) (ho : 0 ≤ (pc : Int) + o) (hp : ((pc : Int) + o).toNat = pc')
    (H : GoE p e below Fi (T.setTop (mkF m pc' Ls rest))) : GoE p e below Fi (T.setTop (mkF m pc Ls (.null :: rest))) :=
  H.pull fun t k => Jvm.Free.XS.ifnullYes X.here hx rfl rfl (hb hby hd) rfl ho hp k
theorem g_ifnonnull_yes (X : Stand p l e R s m args below meth c T locs cells slots) (hx : p.tables.exec = Jvm.exec) {o : Int} (hby : c.code = bytes) {b : Addr} (hd : decode bytes pc = .ok (.ifnonnull o, 3)) (ho : 0 ≤ (pc : Int) + o) (hp : ((pc : Int) + o).toNat = pc')
    (H : GoE p e below Fi (T.setTop (mkF m pc' Ls rest))) : GoE p e below Fi (T.setTop (mkF m pc Ls (.ref b :: rest))) :=
  H.pull fun t k => Jvm.Free.XT.ifnonnullYes X.here hx rfl rfl (hb hby hd) rfl ho hp k
theorem g_ifnonnull_no (X : Stand p l e R s m args below meth c T locs cells slots) (hx : p.tables.exec = Jvm.exec) {o : Int} {pn : Nat} (hby : c.code = bytes) (hd : decode bytes pc = .ok (.ifnonnull o, 3)) (hn : pc + 3 = pn)
    (H : GoE p e below Fi (T.setTop (mkF m pn Ls rest))) : GoE p e below Fi (T.setTop (mkF m pc Ls (.null :: rest))) := by
  subst hn; exact H.pull fun t k => Jvm.Free.XT.ifnonnullNo X.here hx rfl (hb hby hd) rfl k
theorem g_acmp_yes (X : Stand p l e R s m args below meth c T locs cells slots) (hx : p.tables.exec = Jvm.exec) {o : Int} (hby : c.code = bytes) {cd : ClassFile.ACond} {x y : Value} (hd : decode bytes pc = .ok (.if_acmp cd o, 3)) (ho : 0 ≤ (pc : Int) + o) (hp : ((pc : Int) + o).toNat = pc') (h1 : x.isRef = true) (h2 : y.isRef = true) (hc : Jvm.Free.XT.acmp cd x y = true)
    (H : GoE p e below Fi (T.setTop (mkF m pc' Ls rest))) : GoE p e below Fi (T.setTop (mkF m pc Ls (y :: x :: rest))) :=
  H.pull fun t k => Jvm.Free.XT.acmpYes X.here hx rfl rfl (hb hby hd) rfl h1 h2 hc ho hp k
theorem g_acmp_no (X : Stand p l e R s m args below meth c T locs cells slots) (hx : p.tables.exec = Jvm.exec) {o : Int} {pn : Nat} (hby : c.code = bytes) {cd : ClassFile.ACond} {x y : Value} (hd : decode bytes pc = .ok (.if_acmp cd o, 3)) (hn : pc + 3 = pn) (h1 : x.isRef = true) (h2 : y.isRef = true) (hc : Jvm.Free.XT.acmp cd x y = false)
    (H : GoE p e below Fi (T.setTop (mkF m pn Ls rest))) : GoE p e below Fi (T.setTop (mkF m pc Ls (y :: x :: rest))) := by
  subst hn; exact H.pull fun t k => Jvm.Free.XT.acmpNo X.here hx rfl (hb hby hd) rfl h1 h2 hc k
theorem g_retI (X : Stand p l e R s m args below meth c T locs cells slots) (hx : p.tables.exec = Jvm.exec) {z : Int32} (hby : c.code = bytes) (hd : decode bytes pc = .ok (.ireturn, 1)) (hret : meth.sig.returnType = some .int) (hlk : meth.locks = false) (hc : cells ≤ rc) (hs : slots ≤ rs) (hQ : Q (some (.int z)) T.heap locs) : Go p e below s rc rs Q (T.setTop (mkF m pc Ls (.int z :: rest))) := by
  obtain ⟨fs, hr, hrun, hended, hW, hsame⟩ := X.leave (v := some (.int z)) (fun h => by first | rfl | (rw [hret] at h; cases h)) hlk
  exact ⟨_, _, retI X hx hret (hb hby hd) hr, hrun, hended, _, _, rfl, hQ, ⟨_, rfl⟩, hW, hsame.mono hc hs⟩
theorem g_retN (X : Stand p l e R s m args below meth c T locs cells slots) (hx : p.tables.exec = Jvm.exec) {z w : Int32} {t : FieldType} (hby : c.code = bytes) (hd : decode bytes pc = .ok (.ireturn, 1)) (hret : meth.sig.returnType = some t) (ht : t = .boolean ∨ t = .byte ∨ t = .char ∨ t = .short) (hnar : nar t z = w) (hlk : meth.locks = false) (hc : cells ≤ rc) (hs : slots ≤ rs) (hQ : Q (some (.int w)) T.heap locs) : Go p e below s rc rs Q (T.setTop (mkF m pc Ls (.int z :: rest))) := by
  subst hnar
  obtain ⟨fs, hr, hrun, hended, hW, hsame⟩ := X.leave (v := some (.int (nar t z))) (fun h => by rw [hret] at h; cases h) hlk
  exact ⟨_, _, retN X hx hret ht (hb hby hd) hr, hrun, hended, _, _, rfl, hQ, ⟨_, rfl⟩, hW, hsame.mono hc hs⟩
theorem g_retL (X : Stand p l e R s m args below meth c T locs cells slots) (hx : p.tables.exec = Jvm.exec) {z : Int64} (hby : c.code = bytes) (hd : decode bytes pc = .ok (.lreturn, 1)) (hret : meth.sig.returnType = some .long) (hlk : meth.locks = false) (hc : cells ≤ rc) (hs : slots ≤ rs) (hQ : Q (some (.long z)) T.heap locs) : Go p e below s rc rs Q (T.setTop (mkF m pc Ls [.long z])) := by
  obtain ⟨fs, hr, hrun, hended, hW, hsame⟩ := X.leave (v := some (.long z)) (fun h => by first | rfl | (rw [hret] at h; cases h)) hlk
  exact ⟨_, _, X.lreturnOut hx hret (hb hby hd) hr, hrun, hended, _, _, rfl, hQ, ⟨_, rfl⟩, hW, hsame.mono hc hs⟩
theorem g_retA (X : Stand p l e R s m args below meth c T locs cells slots) (hx : p.tables.exec = Jvm.exec) {z : Value} {t : FieldType} (hby : c.code = bytes) (hd : decode bytes pc = .ok (.areturn, 1)) (hz : z.isRef = true) (hret : meth.sig.returnType = some t) (ht : t.isReference = true) (hlk : meth.locks = false) (hc : cells ≤ rc) (hs : slots ≤ rs) (hQ : Q (some z) T.heap locs) : Go p e below s rc rs Q (T.setTop (mkF m pc Ls [z])) := by
  obtain ⟨fs, hr, hrun, hended, hW, hsame⟩ := X.leave (v := some z) (fun h => by first | rfl | (rw [hret] at h; cases h)) hlk
  exact ⟨_, _, X.areturnOut hx hz hret ht (hb hby hd) hr, hrun, hended, _, _, rfl, hQ, ⟨_, rfl⟩, hW, hsame.mono hc hs⟩
theorem g_retV (X : Stand p l e R s m args below meth c T locs cells slots) (hx : p.tables.exec = Jvm.exec)  (hby : c.code = bytes) (hd : decode bytes pc = .ok (.return_, 1)) (hret : meth.sig.returnType = none) (hlk : meth.locks = false) (hc : cells ≤ rc) (hs : slots ≤ rs) (hQ : Q (none) T.heap locs) : Go p e below s rc rs Q (T.setTop (mkF m pc Ls [])) := by
  obtain ⟨fs, hr, hrun, hended, hW, hsame⟩ := X.leave (v := none) (fun h => by first | rfl | (rw [hret] at h; cases h)) hlk
  exact ⟨_, _, X.returnOut hx hret (hb hby hd) hr, hrun, hended, _, _, rfl, hQ, ⟨_, rfl⟩, hW, hsame.mono hc hs⟩
theorem g_callS (X : Stand p l e R s m args below meth c T locs cells slots) (hx : p.tables.exec = Jvm.exec) {Z : State} {a0 : Array Value} (hZ : Z.Warmed39 s.vm) {own : String} (hown : s.vm.findClass own = some m.cls) {y : MethodName} {cb : ByteArray} {maxL : Nat} {ret : Option FieldType} {rm : Room} {as' : Array Value} {h : Heap} {Q' : Option Value → Heap → List Loc → Prop} {W : Nat} {index : Nat} {argsL : List Value} (hby : c.code = bytes) (hd : decode bytes pc = .ok (.invokestatic index, 3)) (hp : pc + 3 = pc') (hml : Ls.size = c.maxLocals)
    (w1 : (Jvm.Cond.methodLink own index y).before a0 Z = true) (w2 : (Jvm.Cond.static y).before a0 Z = true) (w3 : (Jvm.Cond.initialized y.cls).before a0 Z = true) (w4 : (Jvm.Cond.code y cb maxL ret).before a0 Z = true) (hy : y.cls ≠ "java/lang/invoke/MethodHandle" ∧ y.cls ≠ "java/lang/invoke/VarHandle")
    (C : Ctr l Z y cb maxL ret [] rm as' h Q') (eT : T.heap = h) (hfr : rm.frames + 1 ≤ R.frames) (hlo : W + (maxL + 11) + rm.locals ≤ R.locals) (hce : cells + rm.cells ≤ R.cells) (hsl : slots + rm.slots ≤ R.slots) {stk : List Value} {psig : MethodDescriptor} (has : argsL.toArray = as') (hpd : parseMethodDescriptor y.desc = some psig) (hlen : argsL.length = psig.parameters.length) (hst : stk = argsL.reverse ++ rest) (hW : 2 * 0 + (rest.map fun v => v.category).sum ≤ W)
    (K : ∀ (v : Option Value) (T' : State) (L : List Loc), Stand p l e R s m args below meth c T' (locs ++ L) (cells + rm.cells) (slots + rm.slots) → Q' v T'.heap L → GoE p e below Fi (T'.setTop (mkF m pc' Ls (v.toList ++ rest)))) : GoE p e below Fi (T.setTop (mkF m pc Ls stk)) := by
  subst hp hst has
  obtain ⟨v, _, ⟨T4, L4, k4, n4⟩, -, X4, ⟨Lc, hQ, l4, y4, z4⟩, st⟩ := Jvm.LawKit.callS X hx (y := y) hown (mvT hZ w1) (mvT hZ w2) (mvT hZ w3) (mvT hZ w4) hy (backOf (W := W) C hZ w4 w3 hfr hlo) (g := mkF m pc Ls (argsL.reverse ++ rest)) rfl hml (argsL := argsL) (rest := rest) (fun sig h => by rw [hpd] at h; cases h; exact hlen) rfl hW (hb hby hd) (fun _ _ => ⟨rfl, eT, hce, hsl⟩)
  dsimp only [Pt.U, Pt.locs, Pt.cells, Pt.slots] at X4 l4 y4 z4 st hQ
  subst l4 y4 z4
  exact (K v T4 Lc X4 hQ).pull st
theorem g_callI (X : Stand p l e R s m args below meth c T locs cells slots) (hx : p.tables.exec = Jvm.exec) {Z : State} {a0 : Array Value} (hZ : Z.Warmed39 s.vm) {own : String} (hown : s.vm.findClass own = some m.cls) {y : MethodName} {cb : ByteArray} {maxL : Nat} {rm : Room} {as' : Array Value} {h : Heap} {Q' : Option Value → Heap → List Loc → Prop} {W : Nat} {index : Nat} {argsL : List Value} {b : Addr} (hby : c.code = bytes) (hd : decode bytes pc = .ok (.invokespecial index, 3)) (hp : pc + 3 = pc') (hml : Ls.size = c.maxLocals)
    (w1 : (Jvm.Cond.methodLink own index y).before a0 Z = true) (w2 : (Jvm.Cond.instanceMethod y).before a0 Z = true) (w3 : (Jvm.Cond.initialized y.cls).before a0 Z = true) (w4 : (Jvm.Cond.code y cb maxL none).before a0 Z = true) (hin : y.name = "<init>") (hy : y.cls ≠ "java/lang/invoke/MethodHandle" ∧ y.cls ≠ "java/lang/invoke/VarHandle")
    (C : Ctr l Z y cb maxL none [] rm as' h Q') (eT : T.heap = h) (hfr : rm.frames + 1 ≤ R.frames) (hlo : W + (maxL + 11) + rm.locals ≤ R.locals) (hce : cells + rm.cells ≤ R.cells) (hsl : slots + rm.slots ≤ R.slots) {stk : List Value} {psig : MethodDescriptor} (has : (Value.ref b :: argsL).toArray = as') (hpd : parseMethodDescriptor y.desc = some psig) (hlen : argsL.length = psig.parameters.length) (hst : stk = argsL.reverse ++ Value.ref b :: rest) (hW : 2 * 0 + (rest.map fun v => v.category).sum ≤ W)
    (K : ∀ (v : Option Value) (T' : State) (L : List Loc), Stand p l e R s m args below meth c T' (locs ++ L) (cells + rm.cells) (slots + rm.slots) → Q' v T'.heap L → GoE p e below Fi (T'.setTop (mkF m pc' Ls (v.toList ++ rest)))) : GoE p e below Fi (T.setTop (mkF m pc Ls stk)) := by
  subst hp hst has
  obtain ⟨v, _, ⟨T4, L4, k4, n4⟩, -, X4, ⟨Lc, hQ, l4, y4, z4⟩, st⟩ := X.specialBack hx (y := y) hin hown (mvT hZ w1) (mvT hZ w2) (mvT hZ w4) hy (backOf (W := W) C hZ w4 w3 hfr hlo) (g := mkF m pc Ls (argsL.reverse ++ Value.ref b :: rest)) rfl hml (Steps.refl _) (a := b) (argsL := argsL) (rest := rest) (fun sig h => by rw [hpd] at h; cases h; exact hlen) rfl hW (hb hby hd) (fun _ _ => ⟨rfl, eT, hce, hsl⟩)
  dsimp only [Pt.U, Pt.locs, Pt.cells, Pt.slots] at X4 l4 y4 z4 st hQ
  subst l4 y4 z4
  exact (K v T4 Lc X4 hQ).pull fun t k => st.trans k
theorem g_callV (X : Stand p l e R s m args below meth c T locs cells slots) (hx : p.tables.exec = Jvm.exec) {Z : State} {a0 : Array Value} (hZ : Z.Warmed39 s.vm) {own : String} (hown : s.vm.findClass own = some m.cls) {y : MethodName} {cb : ByteArray} {maxL : Nat} {ret : Option FieldType} {rm : Room} {as' : Array Value} {h : Heap} {Q' : Option Value → Heap → List Loc → Prop} {W : Nat} {index : Nat} {argsL : List Value} {b : Addr} {z : MethodName} {C0 : String} (hby : c.code = bytes) (hd : decode bytes pc = .ok (.invokevirtual index, 3)) (hp : pc + 3 = pc') (hml : Ls.size = c.maxLocals)
    (w1 : (Jvm.Cond.methodLink own index y).before a0 Z = true) (w2 : (Jvm.Cond.declares y).before a0 Z = true) (w5 : (Jvm.Cond.selects C0 y z).before a0 Z = true) (nf : NotFace s y) (w6 : (Jvm.Cond.instanceMethod z).before a0 Z = true) (w3 : (Jvm.Cond.initialized z.cls).before a0 Z = true) (w4 : (Jvm.Cond.code z cb maxL ret).before a0 Z = true) (hy : y.cls ≠ "java/lang/invoke/MethodHandle" ∧ y.cls ≠ "java/lang/invoke/VarHandle")
    (C : Ctr l Z z cb maxL ret [] rm as' h Q') (eT : T.heap = h) (E : Exa Z h b C0) (hfr : rm.frames + 1 ≤ R.frames) (hlo : W + (maxL + 11) + rm.locals ≤ R.locals) (hce : cells + rm.cells ≤ R.cells) (hsl : slots + rm.slots ≤ R.slots) {stk : List Value} {psig : MethodDescriptor} (has : (Value.ref b :: argsL).toArray = as') (hpd : parseMethodDescriptor y.desc = some psig) (hlen : argsL.length = psig.parameters.length) (hst : stk = argsL.reverse ++ Value.ref b :: rest) (hW : 2 * 0 + (rest.map fun v => v.category).sum ≤ W)
    (K : ∀ (v : Option Value) (T' : State) (L : List Loc), Stand p l e R s m args below meth c T' (locs ++ L) (cells + rm.cells) (slots + rm.slots) → Q' v T'.heap L → GoE p e below Fi (T'.setTop (mkF m pc' Ls (v.toList ++ rest)))) : GoE p e below Fi (T.setTop (mkF m pc Ls stk)) := by
  subst hp hst has
  obtain ⟨cq, kq, qa, qb, qc⟩ := isOf hZ eT E
  obtain ⟨v, _, ⟨T4, L4, k4, n4⟩, -, X4, ⟨Lc, hQ, l4, y4, z4⟩, st⟩ := X.virtualBack hx (y := y) (z := z) hown (mvT hZ w1) (mvT hZ w2) nf (mvT hZ w5) (mvT hZ w6) hy (backOf (W := W) C hZ w4 w3 hfr hlo) qa qc (g := mkF m pc Ls (argsL.reverse ++ Value.ref b :: rest)) rfl hml (Steps.refl _) (argsL := argsL) (rest := rest) (fun sig h => by rw [hpd] at h; cases h; exact hlen) rfl hW (hb hby hd) (fun _ _ => ⟨rfl, eT, hce, hsl⟩)
  dsimp only [Pt.U, Pt.locs, Pt.cells, Pt.slots] at X4 l4 y4 z4 st hQ
  subst l4 y4 z4
  exact (K v T4 Lc X4 hQ).pull fun t k => st.trans k
theorem g_new (X : Stand p l e R s m args below meth c T locs cells slots) (hx : p.tables.exec = Jvm.exec) {Z : State} {a0 : Array Value} (hZ : Z.Warmed39 s.vm) {own : String} (hown : s.vm.findClass own = some m.cls) {C : String} {index n : Nat} {h : Heap} (hby : c.code = bytes) (hd : decode bytes pc = .ok (.new index, 3)) (hp : pc + 3 = pc') (w1 : (Jvm.Cond.classLink own index C).before a0 Z = true) (w2 : (Jvm.Cond.instantiable C n).before a0 Z = true) (w3 : (Jvm.Cond.initialized C).before a0 Z = true) (eT : T.heap = h) (hce : cells + 1 ≤ R.cells) (hsl : slots + n ≤ R.slots)
    (K : ∀ (T' : State) (b : Addr), b = h.size → Stand p l e R s m args below meth c T' locs (cells + 1) (slots + n) → Ext h T'.heap → Exa Z T'.heap b C → (∀ {O nm d : String} {ty : FieldType}, Laid Z a0 C O nm d → parseFieldDescriptor d = some ty → Fld Z T'.heap b O nm d (defaultValue ty)) → GoE p e below Fi (T'.setTop (mkF m pc' Ls (.ref b :: rest)))) : GoE p e below Fi (T.setTop (mkF m pc Ls rest)) := by
  subst hp
  obtain ⟨T2, h2, X2, e2, E2, A2, D2, -, st2⟩ := newO X hx hZ hown w1 w2 w3 eT (g := mkF m pc Ls rest) rfl (hb hby hd) hce hsl
  subst e2
  exact (K T2 _ rfl X2 E2 A2 D2).pull st2
theorem g_initO (X : Stand p l e R s m args below meth c T locs cells slots) (hx : p.tables.exec = Jvm.exec) {Z : State} {a0 : Array Value} (hZ : Z.Warmed39 s.vm) {own : String} (hown : s.vm.findClass own = some m.cls) {index : Nat} {h : Heap} {cb : ByteArray} {b : Addr} {W maxL : Nat} (hby : c.code = bytes) (hd : decode bytes pc = .ok (.invokespecial index, 3)) (hp : pc + 3 = pc') (hml : Ls.size = c.maxLocals)
    (F : ∃ T', Stand p l e R s m args below meth c T' locs cells slots ∧ T'.heap = h ∧ ∀ target, Steps p.tables e below (T'.setTop (mkF m (pc + 3) Ls rest)) target → Steps p.tables e below (T.setTop (mkF m pc Ls (.ref b :: rest))) target)
    (K : ∀ T' : State, Stand p l e R s m args below meth c T' locs cells slots → T'.heap = h → GoE p e below Fi (T'.setTop (mkF m pc' Ls rest))) : GoE p e below Fi (T.setTop (mkF m pc Ls (.ref b :: rest))) := by
  subst hp
  obtain ⟨T2, X2, e2, st2⟩ := F
  exact (K T2 X2 e2).pull st2
theorem g_get (X : Stand p l e R s m args below meth c T locs cells slots) (hx : p.tables.exec = Jvm.exec) {Z : State} {a0 : Array Value} (hZ : Z.Warmed39 s.vm) {own : String} (hown : s.vm.findClass own = some m.cls) {O n d : String} {index : Nat} {h : Heap} {a : Addr} {v : Value} (hby : c.code = bytes) (hd : decode bytes pc = .ok (.getfield index, 3)) (hp : pc + 3 = pc') (w : (Jvm.Cond.fieldLink own index O n d).before a0 Z = true) (eT : T.heap = h) (F : Fld Z h a O n d v)
    (K : ∀ T' : State, Stand p l e R s m args below meth c T' locs cells slots → T'.heap = h → GoE p e below Fi (T'.setTop (mkF m pc' Ls (v :: rest)))) : GoE p e below Fi (T.setTop (mkF m pc Ls (.ref a :: rest))) := by
  subst hp
  obtain ⟨T2, X2, e2, st2⟩ := getF X hx hZ hown (host := "") (Or.inl w) Via.refl eT F (g := mkF m pc Ls (.ref a :: rest)) rfl rfl (hb hby hd)
  exact (K T2 X2 e2).pull st2
theorem g_put (X : Stand p l e R s m args below meth c T locs cells slots) (hx : p.tables.exec = Jvm.exec) {Z : State} {a0 : Array Value} (hZ : Z.Warmed39 s.vm) {own : String} (hown : s.vm.findClass own = some m.cls) {O n d C : String} {index kk : Nat} {ty : FieldType} {h : Heap} {a : Addr} {v old : Value} (hby : c.code = bytes) (hd : decode bytes pc = .ok (.putfield index, 3)) (hp : pc + 3 = pc') (w : (Jvm.Cond.fieldLink own index O n d).before a0 Z = true) (eT : T.heap = h) (F : Fld Z h a O n d old) (E : Exa Z h a C) (Lf : (Jvm.Cond.lays C O n d).before a0 Z = true ∨ ((Jvm.Cond.laysFinal C O n d).before a0 Z = true ∧ own = O ∧ meth.name = "<init>")) (wi : (Jvm.Cond.instantiable C kk).before a0 Z = true) (hty : parseFieldDescriptor d = some ty) (hn : narrow ty v = v) (hf : fits ty v = true)
    (K : ∀ T' : State, Stand p l e R s m args below meth c T' (locs ++ [⟨a, RoadKit.slotOf Z O n d⟩]) cells slots → Wr h T'.heap a (RoadKit.slotOf Z O n d) v → GoE p e below Fi (T'.setTop (mkF m pc' Ls rest))) : GoE p e below Fi (T.setTop (mkF m pc Ls (v :: .ref a :: rest))) := by
  subst hp
  obtain ⟨T2, h2, X2, e2, W2, st2⟩ := putF X hx hZ hown (host := "") (Or.inl w) Via.refl eT F E Lf wi hty hn hf (g := mkF m pc Ls (v :: .ref a :: rest)) rfl rfl (hb hby hd)
  subst e2
  exact (K T2 X2 W2).pull st2
theorem g_getS (X : Stand p l e R s m args below meth c T locs cells slots) (hx : p.tables.exec = Jvm.exec) {Z : State} {a0 : Array Value} (hZ : Z.Warmed39 s.vm) {own : String} (hown : s.vm.findClass own = some m.cls) {O n d : String} {index : Nat} {h : Heap} {v : Value} (hby : c.code = bytes) (hd : decode bytes pc = .ok (.getstatic index, 3)) (hp : pc + 3 = pc') (w : (Jvm.Cond.fieldLink own index O n d).before a0 Z = true) (eT : T.heap = h) (F : Sta Z h O n d v)
    (K : ∀ T' : State, Stand p l e R s m args below meth c T' locs cells slots → T'.heap = h → GoE p e below Fi (T'.setTop (mkF m pc' Ls (v :: rest)))) : GoE p e below Fi (T.setTop (mkF m pc Ls rest)) := by
  subst hp
  obtain ⟨T2, X2, e2, st2⟩ := getS X hx hZ hown (host := "") w Via.refl eT F (g := mkF m pc Ls rest) rfl (hb hby hd)
  exact (K T2 X2 e2).pull st2
theorem g_iaload (X : Stand p l e R s m args below meth c T locs cells slots) (hx : p.tables.exec = Jvm.exec) {Z : State} (hZ : Z.Warmed39 s.vm) {h : Heap} {a : Addr} {k : ClassId} {n : Int32} {vs : List Value} {dv : Value} {j : Int32} {v : Value} (hby : c.code = bytes) (hd : decode bytes pc = .ok (.iaload, 1)) (hp : pc + 1 = pc') (eT : T.heap = h) (F : Arv Z h a k .int n vs dv) (hj : ¬ j < 0 ∧ j < n) (u : vs.getD j.toNatClampNeg dv = v)
    (H : GoE p e below Fi (T.setTop (mkF m pc' Ls (v :: rest)))) : GoE p e below Fi (T.setTop (mkF m pc Ls (.int j :: .ref a :: rest))) := by
  subst hp
  obtain ⟨cl, A, q1, S, q3, Hh, G⟩ := F
  exact H.pull fun t k => X.iaload hx (by rw [eT]; exact A.1) (State.isArrayOf_alike hZ.alike A.2.1) A.2.2 (inb_of S hj) (Hh.at (inb_of S hj) u) (g := mkF m pc Ls (.int j :: .ref a :: rest)) rfl rfl (hb hby hd) _ k
theorem g_laload (X : Stand p l e R s m args below meth c T locs cells slots) (hx : p.tables.exec = Jvm.exec) {Z : State} (hZ : Z.Warmed39 s.vm) {h : Heap} {a : Addr} {k : ClassId} {n : Int32} {vs : List Value} {dv : Value} {j : Int32} {v : Value} (hby : c.code = bytes) (hd : decode bytes pc = .ok (.laload, 1)) (hp : pc + 1 = pc') (eT : T.heap = h) (F : Arv Z h a k .long n vs dv) (hj : ¬ j < 0 ∧ j < n) (u : vs.getD j.toNatClampNeg dv = v)
    (H : GoE p e below Fi (T.setTop (mkF m pc' Ls (v :: rest)))) : GoE p e below Fi (T.setTop (mkF m pc Ls (.int j :: .ref a :: rest))) := by
  subst hp
  obtain ⟨cl, A, q1, S, q3, Hh, G⟩ := F
  exact H.pull fun t k => X.laload hx (by rw [eT]; exact A.1) (State.isArrayOf_alike hZ.alike A.2.1) A.2.2 (inb_of S hj) (Hh.at (inb_of S hj) u) (g := mkF m pc Ls (.int j :: .ref a :: rest)) rfl rfl (hb hby hd) _ k
theorem g_caload (X : Stand p l e R s m args below meth c T locs cells slots) (hx : p.tables.exec = Jvm.exec) {Z : State} (hZ : Z.Warmed39 s.vm) {h : Heap} {a : Addr} {k : ClassId} {n : Int32} {vs : List Value} {dv : Value} {j : Int32} {v : Value} (hby : c.code = bytes) (hd : decode bytes pc = .ok (.caload, 1)) (hp : pc + 1 = pc') (eT : T.heap = h) (F : Arv Z h a k .char n vs dv) (hj : ¬ j < 0 ∧ j < n) (u : vs.getD j.toNatClampNeg dv = v)
    (H : GoE p e below Fi (T.setTop (mkF m pc' Ls (v :: rest)))) : GoE p e below Fi (T.setTop (mkF m pc Ls (.int j :: .ref a :: rest))) := by
  subst hp
  obtain ⟨cl, A, q1, S, q3, Hh, G⟩ := F
  exact H.pull fun t k => X.caload hx (by rw [eT]; exact A.1) (State.isArrayOf_alike hZ.alike A.2.1) A.2.2 (inb_of S hj) (Hh.at (inb_of S hj) u) (g := mkF m pc Ls (.int j :: .ref a :: rest)) rfl rfl (hb hby hd) _ k
theorem g_baload (X : Stand p l e R s m args below meth c T locs cells slots) (hx : p.tables.exec = Jvm.exec) {Z : State} (hZ : Z.Warmed39 s.vm) {h : Heap} {a : Addr} {k : ClassId} {n : Int32} {vs : List Value} {dv : Value} {j : Int32} {v : Value} (hby : c.code = bytes) (hd : decode bytes pc = .ok (.baload, 1)) (hp : pc + 1 = pc') (eT : T.heap = h) (F : Arv Z h a k .byte n vs dv) (hj : ¬ j < 0 ∧ j < n) (u : vs.getD j.toNatClampNeg dv = v)
    (H : GoE p e below Fi (T.setTop (mkF m pc' Ls (v :: rest)))) : GoE p e below Fi (T.setTop (mkF m pc Ls (.int j :: .ref a :: rest))) := by
  subst hp
  obtain ⟨cl, A, q1, S, q3, Hh, G⟩ := F
  exact H.pull fun t k => X.baloadBytes hx (by rw [eT]; exact A.1) (State.isArrayOf_alike hZ.alike A.2.1) A.2.2 (inb_of S hj) (Hh.at (inb_of S hj) u) (g := mkF m pc Ls (.int j :: .ref a :: rest)) rfl rfl (hb hby hd) _ k
theorem g_daload (X : Stand p l e R s m args below meth c T locs cells slots) (hx : p.tables.exec = Jvm.exec) {Z : State} (hZ : Z.Warmed39 s.vm) {h : Heap} {a : Addr} {k : ClassId} {n : Int32} {vs : List Value} {dv : Value} {j : Int32} {v : Value} (hby : c.code = bytes) (hd : decode bytes pc = .ok (.daload, 1)) (hp : pc + 1 = pc') (eT : T.heap = h) (F : Arv Z h a k .double n vs dv) (hj : ¬ j < 0 ∧ j < n) (u : vs.getD j.toNatClampNeg dv = v)
    (H : GoE p e below Fi (T.setTop (mkF m pc' Ls (v :: rest)))) : GoE p e below Fi (T.setTop (mkF m pc Ls (.int j :: .ref a :: rest))) := by
  subst hp
  obtain ⟨cl, A, q1, S, q3, Hh, G⟩ := F
  exact H.pull fun t k => X.daload hx (by rw [eT]; exact A.1) (State.isArrayOf_alike hZ.alike A.2.1) A.2.2 (inb_of S hj) (Hh.at (inb_of S hj) u) (g := mkF m pc Ls (.int j :: .ref a :: rest)) rfl rfl (hb hby hd) _ k
theorem g_aaload (X : Stand p l e R s m args below meth c T locs cells slots) (hx : p.tables.exec = Jvm.exec) {Z : State} (hZ : Z.Warmed39 s.vm) {h : Heap} {a : Addr} {k : ClassId} {n : Int32} {vs : List Value} {dv : Value} {ty : FieldType} {j : Int32} {v : Value} (hby : c.code = bytes) (hd : decode bytes pc = .ok (.aaload, 1)) (hp : pc + 1 = pc') (eT : T.heap = h) (F : Arv Z h a k ty n vs dv) (hty : ty.isReference = true) (hj : ¬ j < 0 ∧ j < n) (u : vs.getD j.toNatClampNeg dv = v)
    (H : GoE p e below Fi (T.setTop (mkF m pc' Ls (v :: rest)))) : GoE p e below Fi (T.setTop (mkF m pc Ls (.int j :: .ref a :: rest))) := by
  subst hp
  obtain ⟨cl, A, q1, S, q3, Hh, G⟩ := F
  exact H.pull fun t k => X.aaload hx (by rw [eT]; exact A.1) (State.isArrayOf_alike hZ.alike A.2.1) hty A.2.2 (inb_of S hj) (Hh.at (inb_of S hj) u) (g := mkF m pc Ls (.int j :: .ref a :: rest)) rfl rfl (hb hby hd) _ k
theorem g_alen (X : Stand p l e R s m args below meth c T locs cells slots) (hx : p.tables.exec = Jvm.exec) {Z : State} (hZ : Z.Warmed39 s.vm) {h : Heap} {a : Addr} {k : ClassId} {n : Int32} {vs : List Value} {dv : Value} {ty : FieldType} (hby : c.code = bytes) (hd : decode bytes pc = .ok (.arraylength, 1)) (hp : pc + 1 = pc') (eT : T.heap = h) (F : Arv Z h a k ty n vs dv)
    (H : GoE p e below Fi (T.setTop (mkF m pc' Ls (.int n :: rest)))) : GoE p e below Fi (T.setTop (mkF m pc Ls (.ref a :: rest))) := by
  subst hp
  obtain ⟨cl, A, q1, S, q3, Hh, G⟩ := F
  exact H.pull fun t k => X.arraylength hx (by rw [eT]; exact A.1) (State.isArrayOf_alike hZ.alike A.2.1) (g := mkF m pc Ls (.ref a :: rest)) rfl rfl (hb hby hd) _ (by rw [len_of S q3]; exact k)
theorem g_iastore (X : Stand p l e R s m args below meth c T locs cells slots) (hx : p.tables.exec = Jvm.exec) {Z : State} (hZ : Z.Warmed39 s.vm) {h : Heap} {a : Addr} {k : ClassId} {n : Int32} {vs : List Value} {dv : Value} {j : Int32} {x : Int32} (i : Nat) (hby : c.code = bytes) (hd : decode bytes pc = .ok (.iastore, 1)) (hp : pc + 1 = pc') (eT : T.heap = h) (F : Arv Z h a k .int n vs dv) (hj : ¬ j < 0 ∧ j < n) (hji : j.toNatClampNeg = i) (hi : i < vs.length)
    (K : ∀ T' : State, Stand p l e R s m args below meth c T' (locs ++ [⟨a, j.toNatClampNeg⟩]) cells slots → Wr h T'.heap a j.toNatClampNeg (.int x) → Arv Z T'.heap a k .int n (vs.set i (.int x)) dv → GoE p e below Fi (T'.setTop (mkF m pc' Ls rest))) : GoE p e below Fi (T.setTop (mkF m pc Ls (.int x :: .int j :: .ref a :: rest))) := by
  subst hp
  obtain ⟨cl, A, q1, S, q3, Hh, G⟩ := F
  obtain ⟨T2, h2, X2, e2, W2, st2⟩ := stI X hx hZ eT A (inb_of S hj) (g := mkF m pc Ls (.int x :: .int j :: .ref a :: rest)) rfl rfl (hb hby hd)
  subst e2
  exact (K T2 X2 W2 (Arv.set A q1 S q3 Hh G rfl W2 i hji hi)).pull st2
theorem g_lastore (X : Stand p l e R s m args below meth c T locs cells slots) (hx : p.tables.exec = Jvm.exec) {Z : State} (hZ : Z.Warmed39 s.vm) {h : Heap} {a : Addr} {k : ClassId} {n : Int32} {vs : List Value} {dv : Value} {j : Int32} {x : Int64} (i : Nat) (hby : c.code = bytes) (hd : decode bytes pc = .ok (.lastore, 1)) (hp : pc + 1 = pc') (eT : T.heap = h) (F : Arv Z h a k .long n vs dv) (hj : ¬ j < 0 ∧ j < n) (hji : j.toNatClampNeg = i) (hi : i < vs.length)
    (K : ∀ T' : State, Stand p l e R s m args below meth c T' (locs ++ [⟨a, j.toNatClampNeg⟩]) cells slots → Wr h T'.heap a j.toNatClampNeg (.long x) → Arv Z T'.heap a k .long n (vs.set i (.long x)) dv → GoE p e below Fi (T'.setTop (mkF m pc' Ls rest))) : GoE p e below Fi (T.setTop (mkF m pc Ls (.long x :: .int j :: .ref a :: rest))) := by
  subst hp
  obtain ⟨cl, A, q1, S, q3, Hh, G⟩ := F
  obtain ⟨T2, h2, X2, e2, W2, st2⟩ := stJ X hx hZ eT A (inb_of S hj) (g := mkF m pc Ls (.long x :: .int j :: .ref a :: rest)) rfl rfl (hb hby hd)
  subst e2
  exact (K T2 X2 W2 (Arv.set A q1 S q3 Hh G rfl W2 i hji hi)).pull st2
theorem g_castore (X : Stand p l e R s m args below meth c T locs cells slots) (hx : p.tables.exec = Jvm.exec) {Z : State} (hZ : Z.Warmed39 s.vm) {h : Heap} {a : Addr} {k : ClassId} {n : Int32} {vs : List Value} {dv : Value} {j : Int32} {x : Int32} (i : Nat) (hby : c.code = bytes) (hd : decode bytes pc = .ok (.castore, 1)) (hp : pc + 1 = pc') (eT : T.heap = h) (F : Arv Z h a k .char n vs dv) (hj : ¬ j < 0 ∧ j < n) (hji : j.toNatClampNeg = i) (hi : i < vs.length)
    (K : ∀ T' : State, Stand p l e R s m args below meth c T' (locs ++ [⟨a, j.toNatClampNeg⟩]) cells slots → Wr h T'.heap a j.toNatClampNeg (.int (nar .char x)) → Arv Z T'.heap a k .char n (vs.set i (.int (nar .char x))) dv → GoE p e below Fi (T'.setTop (mkF m pc' Ls rest))) : GoE p e below Fi (T.setTop (mkF m pc Ls (.int x :: .int j :: .ref a :: rest))) := by
  subst hp
  obtain ⟨cl, A, q1, S, q3, Hh, G⟩ := F
  obtain ⟨T2, h2, X2, e2, W2, st2⟩ := stC X hx hZ eT A (inb_of S hj) (g := mkF m pc Ls (.int x :: .int j :: .ref a :: rest)) rfl rfl (hb hby hd)
  subst e2
  exact (K T2 X2 W2 (Arv.set A q1 S q3 Hh G (fits_nar_char x) W2 i hji hi)).pull st2
theorem g_bastore (X : Stand p l e R s m args below meth c T locs cells slots) (hx : p.tables.exec = Jvm.exec) {Z : State} (hZ : Z.Warmed39 s.vm) {h : Heap} {a : Addr} {k : ClassId} {n : Int32} {vs : List Value} {dv : Value} {j : Int32} {x : Int32} (i : Nat) (hby : c.code = bytes) (hd : decode bytes pc = .ok (.bastore, 1)) (hp : pc + 1 = pc') (eT : T.heap = h) (F : Arv Z h a k .byte n vs dv) (hj : ¬ j < 0 ∧ j < n) (hji : j.toNatClampNeg = i) (hi : i < vs.length)
    (K : ∀ T' : State, Stand p l e R s m args below meth c T' (locs ++ [⟨a, j.toNatClampNeg⟩]) cells slots → Wr h T'.heap a j.toNatClampNeg (.int (nar .byte x)) → Arv Z T'.heap a k .byte n (vs.set i (.int (nar .byte x))) dv → GoE p e below Fi (T'.setTop (mkF m pc' Ls rest))) : GoE p e below Fi (T.setTop (mkF m pc Ls (.int x :: .int j :: .ref a :: rest))) := by
  subst hp
  obtain ⟨cl, A, q1, S, q3, Hh, G⟩ := F
  obtain ⟨T2, h2, X2, e2, W2, st2⟩ := stB X hx hZ eT A (inb_of S hj) (g := mkF m pc Ls (.int x :: .int j :: .ref a :: rest)) rfl rfl (hb hby hd)
  subst e2
  exact (K T2 X2 W2 (Arv.set A q1 S q3 Hh G (fits_nar_byte x) W2 i hji hi)).pull st2
theorem g_dastore (X : Stand p l e R s m args below meth c T locs cells slots) (hx : p.tables.exec = Jvm.exec) {Z : State} (hZ : Z.Warmed39 s.vm) {h : Heap} {a : Addr} {k : ClassId} {n : Int32} {vs : List Value} {dv : Value} {j : Int32} {x : UInt64} (i : Nat) (hby : c.code = bytes) (hd : decode bytes pc = .ok (.dastore, 1)) (hp : pc + 1 = pc') (eT : T.heap = h) (F : Arv Z h a k .double n vs dv) (hj : ¬ j < 0 ∧ j < n) (hji : j.toNatClampNeg = i) (hi : i < vs.length)
    (K : ∀ T' : State, Stand p l e R s m args below meth c T' (locs ++ [⟨a, j.toNatClampNeg⟩]) cells slots → Wr h T'.heap a j.toNatClampNeg (.double x) → Arv Z T'.heap a k .double n (vs.set i (.double x)) dv → GoE p e below Fi (T'.setTop (mkF m pc' Ls rest))) : GoE p e below Fi (T.setTop (mkF m pc Ls (.double x :: .int j :: .ref a :: rest))) := by
  subst hp
  obtain ⟨cl, A, q1, S, q3, Hh, G⟩ := F
  obtain ⟨T2, h2, X2, e2, W2, st2⟩ := stD X hx hZ eT A (inb_of S hj) (g := mkF m pc Ls (.double x :: .int j :: .ref a :: rest)) rfl rfl (hb hby hd)
  subst e2
  exact (K T2 X2 W2 (Arv.set A q1 S q3 Hh G rfl W2 i hji hi)).pull st2
theorem g_newarray (X : Stand p l e R s m args below meth c T locs cells slots) (hx : p.tables.exec = Jvm.exec) {Z : State} {a0 : Array Value} (hZ : Z.Warmed39 s.vm) {aty : ArrayType} {h : Heap} {n : Int32} (cap : Nat) (ad : String) (hby : c.code = bytes) (hd : decode bytes pc = .ok (.newarray aty, 2)) (hp : pc + 2 = pc') (w : (Jvm.Cond.arrayClass (newarray.typeOf aty)).before a0 Z = true) (eT : T.heap = h) (hn : ¬ n < 0) (hcap : n.toNatClampNeg ≤ cap) (hbg : cap * 8 ≤ 536870912) (hce : cells + 1 ≤ R.cells) (hsl : slots + cap ≤ R.slots) (had : "[" ++ (newarray.typeOf aty).toString = ad)
    (K : ∀ (T' : State) (b : Addr) (cA : ClassId), b = h.size → Stand p l e R s m args below meth c T' locs (cells + 1) (slots + cap) → Ext h T'.heap → Arv Z T'.heap b cA (newarray.typeOf aty) n (List.replicate cap (defaultValue (newarray.typeOf aty))) (defaultValue (newarray.typeOf aty)) → Exa Z T'.heap b ad → GoE p e below Fi (T'.setTop (mkF m pc' Ls (.ref b :: rest)))) : GoE p e below Fi (T.setTop (mkF m pc Ls (.int n :: rest))) := by
  subst hp
  obtain ⟨T2, h2, cA, X2, e2, E2, A2, Ex2, st2⟩ := newPE X hx hZ w eT (g := mkF m pc Ls (.int n :: rest)) rfl (hb hby hd) rfl hn hcap hbg hce hsl had
  subst e2
  exact (K T2 _ cA rfl X2 E2 ((Arv.new A2 hn).pad (pad_rep [] _ cap)) Ex2).pull st2
theorem g_lswHit (X : Stand p l e R s m args below meth c T locs cells slots) (hx : p.tables.exec = Jvm.exec) {k : Int32} {dflt : Int} {pairs : Array (Int × Int)} {len : Nat} {a off : Int} (hby : c.code = bytes) (hd : decode bytes pc = .ok (.lookupswitch dflt pairs, len)) (hs : (pairs.toList.zip (pairs.toList.drop 1)).all (fun (a, next) => a.1 < next.1) = true) (hf : pairs.find? (·.1 == k.toInt) = some (a, off)) (ho : 0 ≤ (pc : Int) + off) (hp : ((pc : Int) + off).toNat = pc')
    (H : GoE p e below Fi (T.setTop (mkF m pc' Ls rest))) : GoE p e below Fi (T.setTop (mkF m pc Ls (.int k :: rest))) := by
  subst hp
  exact H.pull fun t q => X.lookupswitchHit hx (g := mkF m pc Ls (.int k :: rest)) rfl rfl (hb hby hd) hs hf ho _ q
theorem g_lswMiss (X : Stand p l e R s m args below meth c T locs cells slots) (hx : p.tables.exec = Jvm.exec) {k : Int32} {dflt : Int} {pairs : Array (Int × Int)} {len : Nat} (hby : c.code = bytes) (hd : decode bytes pc = .ok (.lookupswitch dflt pairs, len)) (hs : (pairs.toList.zip (pairs.toList.drop 1)).all (fun (a, next) => a.1 < next.1) = true) (hf : pairs.find? (·.1 == k.toInt) = none) (ho : 0 ≤ (pc : Int) + dflt) (hp : ((pc : Int) + dflt).toNat = pc')
    (H : GoE p e below Fi (T.setTop (mkF m pc' Ls rest))) : GoE p e below Fi (T.setTop (mkF m pc Ls (.int k :: rest))) := by
  subst hp
  exact H.pull fun t q => X.lookupswitchMiss hx (g := mkF m pc Ls (.int k :: rest)) rfl rfl (hb hby hd) hs hf ho _ q
theorem g_castY (X : Stand p l e R s m args below meth c T locs cells slots) (hx : p.tables.exec = Jvm.exec) {Z : State} {a0 : Array Value} (hZ : Z.Warmed39 s.vm) {own : String} (hown : s.vm.findClass own = some m.cls) {C : String} {index : Nat} {h : Heap} {a : Addr} (hby : c.code = bytes) (hd : decode bytes pc = .ok (.checkcast index, 3)) (hp : pc + 3 = pc') (w : (Jvm.Cond.classLink own index C).before a0 Z = true) (eT : T.heap = h) (F : Ins Z h a C true)
    (K : ∀ T' : State, Stand p l e R s m args below meth c T' locs cells slots → T'.heap = h → GoE p e below Fi (T'.setTop (mkF m pc' Ls (.ref a :: rest)))) : GoE p e below Fi (T.setTop (mkF m pc Ls (.ref a :: rest))) := by
  subst hp
  obtain ⟨T2, X2, e2, st2⟩ := castY X hx hZ hown w eT F (g := mkF m pc Ls (.ref a :: rest)) rfl rfl (hb hby hd)
  exact (K T2 X2 e2).pull st2
theorem g_instY (X : Stand p l e R s m args below meth c T locs cells slots) (hx : p.tables.exec = Jvm.exec) {Z : State} {a0 : Array Value} (hZ : Z.Warmed39 s.vm) {own : String} (hown : s.vm.findClass own = some m.cls) {C : String} {index : Nat} {h : Heap} {a : Addr} (hby : c.code = bytes) (hd : decode bytes pc = .ok (.instanceof index, 3)) (hp : pc + 3 = pc') (w : (Jvm.Cond.classLink own index C).before a0 Z = true) (eT : T.heap = h) (F : Ins Z h a C true)
    (K : ∀ T' : State, Stand p l e R s m args below meth c T' locs cells slots → T'.heap = h → GoE p e below Fi (T'.setTop (mkF m pc' Ls (.int 1 :: rest)))) : GoE p e below Fi (T.setTop (mkF m pc Ls (.ref a :: rest))) := by
  subst hp
  obtain ⟨T2, X2, e2, st2⟩ := instY X hx hZ hown w eT F (g := mkF m pc Ls (.ref a :: rest)) rfl rfl (hb hby hd)
  exact (K T2 X2 e2).pull st2
theorem g_instNo (X : Stand p l e R s m args below meth c T locs cells slots) (hx : p.tables.exec = Jvm.exec) {Z : State} {a0 : Array Value} (hZ : Z.Warmed39 s.vm) {own : String} (hown : s.vm.findClass own = some m.cls) {C D : String} {index : Nat} {h : Heap} {a : Addr} (hby : c.code = bytes) (hd : decode bytes pc = .ok (.instanceof index, 3)) (hp : pc + 3 = pc') (w : (Jvm.Cond.classLink own index C).before a0 Z = true) (eT : T.heap = h) (E : Exa Z h a D) (F : ∃ c t, Z.vm.findClass D = some c ∧ Z.vm.findClass C = some t ∧ Z.vm.assignable c t = false)
    (K : ∀ T' : State, Stand p l e R s m args below meth c T' locs cells slots → T'.heap = h → GoE p e below Fi (T'.setTop (mkF m pc' Ls (.int 0 :: rest)))) : GoE p e below Fi (T.setTop (mkF m pc Ls (.ref a :: rest))) := by
  subst hp
  obtain ⟨T2, X2, e2, st2⟩ := instNo X hx hZ hown w eT E F (g := mkF m pc Ls (.ref a :: rest)) rfl rfl (hb hby hd)
  exact (K T2 X2 e2).pull st2
theorem g_callIf (X : Stand p l e R s m args below meth c T locs cells slots) (hx : p.tables.exec = Jvm.exec) {Z : State} {a0 : Array Value} (hZ : Z.Warmed39 s.vm) {own : String} (hown : s.vm.findClass own = some m.cls) {y : MethodName} {cb : ByteArray} {maxL : Nat} {ret : Option FieldType} {rm : Room} {as' : Array Value} {h : Heap} {Q' : Option Value → Heap → List Loc → Prop} {W : Nat} {index : Nat} {argsL : List Value} {b : Addr} {z : MethodName} {C0 : String} {count : Nat} (hby : c.code = bytes) (hd : decode bytes pc = .ok (.invokeinterface index count, 5)) (hp : pc + 5 = pc') (hml : Ls.size = c.maxLocals)
    (w1 : (Jvm.Cond.methodLink own index y).before a0 Z = true) (w2 : (Jvm.Cond.declares y).before a0 Z = true) (w7 : (Jvm.Cond.interfaceMethod y.cls y.cls y.name y.desc).before a0 Z = true) (hd7 : ((Jvm.Cond.interfaceMethod y.cls y.cls y.name y.desc).onTables && (Jvm.Cond.interfaceMethod y.cls y.cls y.name y.desc).keepsFace) = true) (w5 : (Jvm.Cond.selects C0 y z).before a0 Z = true) (w6 : (Jvm.Cond.instanceMethod z).before a0 Z = true) (w8 : (Jvm.Cond.publicMethod z).before a0 Z = true) (w9 : (Jvm.Cond.unhidden C0 y.name y.desc).before a0 Z = true) (w10 : (Jvm.Cond.castable C0 y.cls).before a0 Z = true) (w3 : (Jvm.Cond.initialized z.cls).before a0 Z = true) (w4 : (Jvm.Cond.code z cb maxL ret).before a0 Z = true) (hy : y.cls ≠ "java/lang/invoke/MethodHandle" ∧ y.cls ≠ "java/lang/invoke/VarHandle")
    (C : Ctr l Z z cb maxL ret [] rm as' h Q') (eT : T.heap = h) (E : Exa Z h b C0) (hfr : rm.frames + 1 ≤ R.frames) (hlo : W + (maxL + 11) + rm.locals ≤ R.locals) (hce : cells + rm.cells ≤ R.cells) (hsl : slots + rm.slots ≤ R.slots) {stk : List Value} {psig : MethodDescriptor} (has : (Value.ref b :: argsL).toArray = as') (hpd : parseMethodDescriptor y.desc = some psig) (hlen : argsL.length = psig.parameters.length) (hst : stk = argsL.reverse ++ Value.ref b :: rest) (hW : 2 * 0 + (rest.map fun v => v.category).sum ≤ W)
    (K : ∀ (v : Option Value) (T' : State) (L : List Loc), Stand p l e R s m args below meth c T' (locs ++ L) (cells + rm.cells) (slots + rm.slots) → Q' v T'.heap L → GoE p e below Fi (T'.setTop (mkF m pc' Ls (v.toList ++ rest)))) : GoE p e below Fi (T.setTop (mkF m pc Ls stk)) := by
  subst hp hst has
  obtain ⟨cq, kq, qa, qb, qc⟩ := isOf hZ eT E
  obtain ⟨v, _, ⟨T4, L4, k4, n4⟩, -, X4, ⟨Lc, hQ, l4, y4, z4⟩, st⟩ := X.interfaceBack hx (xi := y) (y := z) hown (mvT hZ w1) (mvT hZ w2) (mvT hZ w7 hd7) (mvT hZ w5) (mvT hZ w6) (mvT hZ w8) (mvT hZ w9) (mvT hZ w10) hy (backOf (W := W) C hZ w4 w3 hfr hlo) qa qb qc (g := mkF m pc Ls (argsL.reverse ++ Value.ref b :: rest)) rfl hml (Steps.refl _) (argsL := argsL) (rest := rest) (fun sig h => by rw [hpd] at h; cases h; exact hlen) rfl hW (hb hby hd) (fun _ _ => ⟨rfl, eT, hce, hsl⟩)
  dsimp only [Pt.U, Pt.locs, Pt.cells, Pt.slots] at X4 l4 y4 z4 st hQ
  subst l4 y4 z4
  exact (K v T4 Lc X4 hQ).pull fun t k => st.trans k
theorem g_anewarrayA (X : Stand p l e R s m args below meth c T locs cells slots) (hx : p.tables.exec = Jvm.exec) {Z : State} {a0 : Array Value} (hZ : Z.Warmed39 s.vm) {own : String} (hown : s.vm.findClass own = some m.cls) {C : String} {ty : FieldType} {index : Nat} {h : Heap} {n : Int32} (cap : Nat) (ad : String) (hby : c.code = bytes) (hd : decode bytes pc = .ok (.anewarray index, 3)) (hp : pc + 3 = pc') (hC : (FieldType.array ty).toString = C) (w1 : (Jvm.Cond.classLink own index C).before a0 Z = true) (w2 : (Jvm.Cond.arrayOver (.array ty)).before a0 Z = true) (eT : T.heap = h) (hn : ¬ n < 0) (hcap : n.toNatClampNeg ≤ cap) (hbg : cap * 8 ≤ 536870912) (hce : cells + 1 ≤ R.cells) (hsl : slots + cap ≤ R.slots) (had : "[" ++ C = ad)
    (K : ∀ (T' : State) (b : Addr) (cA : ClassId), b = h.size → Stand p l e R s m args below meth c T' locs (cells + 1) (slots + cap) → Ext h T'.heap → Arv Z T'.heap b cA (.array ty) n (List.replicate cap .null) .null → Exa Z T'.heap b ad → OvrA Z cA ty C → GoE p e below Fi (T'.setTop (mkF m pc' Ls (.ref b :: rest)))) : GoE p e below Fi (T.setTop (mkF m pc Ls (.int n :: rest))) := by
  subst hp
  obtain ⟨T2, h2, cA, X2, e2, E2, A2, Ex2, O2, st2⟩ := newRA X hx hZ hown hC w1 w2 eT (g := mkF m pc Ls (.int n :: rest)) rfl (hb hby hd) rfl hn hcap hbg hce hsl had
  subst e2
  exact (K T2 _ cA rfl X2 E2 ((Arv.new A2 hn).pad (pad_rep [] _ cap)) Ex2 O2).pull st2
theorem g_aastore (X : Stand p l e R s m args below meth c T locs cells slots) (hx : p.tables.exec = Jvm.exec) {Z : State} (hZ : Z.Warmed39 s.vm) {h : Heap} {a : Addr} {k : ClassId} {n : Int32} {vs : List Value} {dv : Value} {ty : FieldType} {j : Int32} {v : Value} (i : Nat) (hby : c.code = bytes) (hd : decode bytes pc = .ok (.aastore, 1)) (hp : pc + 1 = pc') (eT : T.heap = h) (F : Arv Z h a k ty n vs dv) (hty : ty.isReference = true) (hS : ∀ cl : Cell, Arr Z h a cl ty → cl.cls = k → Sto Z h a v) (hfv : fits ty v = true) (hj : ¬ j < 0 ∧ j < n) (hji : j.toNatClampNeg = i) (hi : i < vs.length)
    (K : ∀ T' : State, Stand p l e R s m args below meth c T' (locs ++ [⟨a, j.toNatClampNeg⟩]) cells slots → Wr h T'.heap a j.toNatClampNeg v → Arv Z T'.heap a k ty n (vs.set i v) dv → GoE p e below Fi (T'.setTop (mkF m pc' Ls rest))) : GoE p e below Fi (T.setTop (mkF m pc Ls (v :: .int j :: .ref a :: rest))) := by
  subst hp
  obtain ⟨cl, A, q1, S, q3, Hh, G⟩ := F
  obtain ⟨T2, h2, X2, e2, W2, st2⟩ := stR X hx hZ eT A (inb_of S hj) hty (hS cl A q1) (g := mkF m pc Ls (v :: .int j :: .ref a :: rest)) rfl rfl (hb hby hd)
  subst e2
  exact (K T2 X2 W2 (Arv.set A q1 S q3 Hh G hfv W2 i hji hi)).pull st2
theorem g_eqI {a b : Int32} (h : a = b) (K : GoE p e below Fi (T.setTop (mkF m pc Ls (.int b :: rest)))) : GoE p e below Fi (T.setTop (mkF m pc Ls (.int a :: rest))) := h ▸ K
theorem g_eqL {a b : Int64} (h : a = b) (K : GoE p e below Fi (T.setTop (mkF m pc Ls (.long b :: rest)))) : GoE p e below Fi (T.setTop (mkF m pc Ls (.long a :: rest))) := h ▸ K
theorem g_newarrayV (X : Stand p l e R s m args below meth c T locs cells slots) (hx : p.tables.exec = Jvm.exec) {Z : State} {a0 : Array Value} (hZ : Z.Warmed39 s.vm) {aty : ArrayType} {h : Heap} {n : Int32} (cap vc : Nat) (ad : String) (hby : c.code = bytes) (hd : decode bytes pc = .ok (.newarray aty, 2)) (hp : pc + 2 = pc') (w : (Jvm.Cond.arrayClass (newarray.typeOf aty)).before a0 Z = true) (eT : T.heap = h) (hn : ¬ n < 0) (hcap : n.toNatClampNeg ≤ cap) (hbg : cap * 8 ≤ 536870912) (hce : cells + 1 ≤ R.cells) (hsl : slots + cap ≤ R.slots) (had : "[" ++ (newarray.typeOf aty).toString = ad)
    (K : ∀ (T' : State) (b : Addr) (cA : ClassId), b = h.size → Stand p l e R s m args below meth c T' locs (cells + 1) (slots + cap) → Ext h T'.heap → Arv Z T'.heap b cA (newarray.typeOf aty) n (List.replicate vc (defaultValue (newarray.typeOf aty))) (defaultValue (newarray.typeOf aty)) → Exa Z T'.heap b ad → GoE p e below Fi (T'.setTop (mkF m pc' Ls (.ref b :: rest)))) : GoE p e below Fi (T.setTop (mkF m pc Ls (.int n :: rest))) := by
  subst hp
  obtain ⟨T2, h2, cA, X2, e2, E2, A2, Ex2, st2⟩ := newPE X hx hZ w eT (g := mkF m pc Ls (.int n :: rest)) rfl (hb hby hd) rfl hn hcap hbg hce hsl had
  subst e2
  exact (K T2 _ cA rfl X2 E2 ((Arv.new A2 hn).pad (pad_rep [] _ vc)) Ex2).pull st2
theorem g_arraycopy (X : Stand p l e R s m args below meth c T locs cells slots) (hx : p.tables.exec = Jvm.exec) {Z : State} {a0 : Array Value} (hZ : Z.Warmed39 s.vm) {own : String} (hown : s.vm.findClass own = some m.cls) {index : Nat} {h : Heap} {a b : Addr} {k k' : ClassId} {ty : FieldType} {n z' sp dp nn : Int32} {vs vd us : List Value} {dv dd : Value} {W n0 : Nat} (hby : c.code = bytes) (hd : decode bytes pc = .ok (.invokestatic index, 3)) (hp : pc + 3 = pc') (hml : Ls.size = c.maxLocals)
    (w1 : (Jvm.Cond.methodLink own index Jvm.Stand.acN).before a0 Z = true) (w2 : (Jvm.Cond.native Jvm.Stand.acN).before a0 Z = true) (w3 : (Jvm.Cond.static Jvm.Stand.acN).before a0 Z = true) (w4 : (Jvm.Cond.initialized "java/lang/System").before a0 Z = true) (eT : T.heap = h) (A : Arv Z h a k ty n vs dv) (B : Arv Z h b k' ty z' vd dd) (hr : refKind ty = false)
    (h1 : ¬ sp < 0) (h2 : ¬ dp < 0) (h3 : ¬ nn < 0) (h4 : sp.toNatClampNeg + nn.toNatClampNeg ≤ n.toNatClampNeg) (h5 : dp.toNatClampNeg + nn.toNatClampNeg ≤ z'.toNatClampNeg) (hus : us = (List.range nn.toNatClampNeg).map fun i => vs.getD (sp.toNatClampNeg + i) dv) (hl : dp.toNatClampNeg + nn.toNatClampNeg ≤ vd.length) (N : Fr n0 locs) (ge : n0 ≤ b)
    (hf : 1 ≤ R.frames) (hW : 2 * 0 + (rest.map fun v => v.category).sum ≤ W) (hlo : W + (nativeFrameWords "java/lang/System" "arraycopy" 5 + 11) ≤ R.locals)
    (K : ∀ (T' : State) (L : List Loc), Stand p l e R s m args below meth c T' L cells slots → Fr n0 L → Keep h T'.heap [b] → Arv Z T'.heap b k' ty z' (vd.take dp.toNatClampNeg ++ us ++ vd.drop (dp.toNatClampNeg + nn.toNatClampNeg)) dd → GoE p e below Fi (T'.setTop (mkF m pc' Ls rest))) : GoE p e below Fi (T.setTop (mkF m pc Ls (.int nn :: .int dp :: .ref b :: .int sp :: .ref a :: rest))) := by
  subst hp
  obtain ⟨T2, h2', L2, X2, e2, N2, K2, A2, st2⟩ := cpA X hx hZ hown w1 w2 w3 w4 eT A B (Or.inl ⟨rfl, hr⟩) h1 h2 h3 h4 h5 hus hl N ge (g := mkF m pc Ls (.int nn :: .int dp :: .ref b :: .int sp :: .ref a :: rest)) rfl hml rfl (hb hby hd) hf hW hlo
  subst e2
  exact (K T2 L2 X2 N2 K2 A2).pull st2
end GoKit
theorem own_k3 (y : Int32) : (y &&& (3 : Int32)) = (0 : Int32) ∨ (y &&& (3 : Int32)) = (1 : Int32) ∨ (y &&& (3 : Int32)) = (2 : Int32) ∨ (y &&& (3 : Int32)) = (3 : Int32) := by
  have h := c_mask y 3 2 (by decide) (by decide)
  have e : ((2 ^ 2 : Nat) : Int) = 4 := rfl
  rw [e] at h
  simp only [← Int32.toInt_inj, Int32.reduceToInt]
  omega
theorem own_b53 (a : Int32) : B53 a.toInt64 := by
  have h := rng32 a
  unfold B53; rw [c_i2l]; omega
def dd (q k : Int32) : Int32 := ((ushr q k) &&& (3 : Int32)) - (1 : Int32)
theorem own_dd (q k : Int32) : -1 ≤ (dd q k).toInt ∧ (dd q k).toInt ≤ 2 := by
  have h := c_mask (ushr q k) 3 2 (by decide) (by decide)
  have e : ((2 ^ 2 : Nat) : Int) = 4 := rfl
  rw [e] at h
  have h2 := c_isub ((ushr q k) &&& (3 : Int32)) 1
  have e1 : (1 : Int32).toInt = 1 := rfl
  have r := rng32 (((ushr q k) &&& (3 : Int32)) - 1)
  unfold dd; omega
theorem own_sum (a q k : Int32) : (a.toInt64 + (dd q k).toInt64).toInt = a.toInt + (dd q k).toInt := by
  have h := c_ladd a.toInt64 (dd q k).toInt64
  rw [c_i2l, c_i2l] at h
  have r := rng64 (a.toInt64 + (dd q k).toInt64)
  have r2 := rng32 a
  have r3 := own_dd q k
  omega
theorem own_b53s (a q k : Int32) : B53 (a.toInt64 + (dd q k).toInt64) := by
  have h := rng32 a
  have r3 := own_dd q k
  unfold B53; rw [own_sum]; omega
theorem own_lt1 (a q k : Int32) : (a.toInt64 + (dd q k).toInt64 < a.toInt64) ↔ (dd q k < 0) := by
  have e0 : (0 : Int32).toInt = 0 := rfl
  rw [Int64.lt_iff_toInt_lt, Int32.lt_iff_toInt_lt, own_sum, c_i2l, e0]; omega
theorem own_lt2 (a q k : Int32) : (a.toInt64 < a.toInt64 + (dd q k).toInt64) ↔ (0 < dd q k) := by
  have e0 : (0 : Int32).toInt = 0 := rfl
  rw [Int64.lt_iff_toInt_lt, Int32.lt_iff_toInt_lt, own_sum, c_i2l, e0]; omega
def domL : List (Int64 × Int64) → Int32 → Int32
  | [], acc => acc
  | (a, b) :: r, acc => if b < a then 0 else if a < b then domL r 1 else domL r acc

theorem w_0 {Z : State} {a0 : Array Value} (hw : ∀ d ∈ tables_1, d.before a0 Z = true) : (Jvm.Cond.arrayClass Jvm.ClassFile.FieldType.double).before a0 Z = true := hw _ (List.mem_of_getElem? (i := 0) rfl)
theorem w_1 {Z : State} {a0 : Array Value} (hw : ∀ d ∈ tables_1, d.before a0 Z = true) : (Jvm.Cond.methodLink "com/example/nittei/nittei/ParetoDominatesPinLaw" (7 : Nat) ({ cls := "com/example/nittei/nittei/Pareto", name := "dominates", desc := "([D[D)Z" } : Jvm.MethodName)).before a0 Z = true := hw _ (List.mem_of_getElem? (i := 1) rfl)
theorem w_2 {Z : State} {a0 : Array Value} (hw : ∀ d ∈ tables_1, d.before a0 Z = true) : (Jvm.Cond.static ({ cls := "com/example/nittei/nittei/Pareto", name := "dominates", desc := "([D[D)Z" } : Jvm.MethodName)).before a0 Z = true := hw _ (List.mem_of_getElem? (i := 2) rfl)
theorem w_3 {Z : State} {a0 : Array Value} (hw : ∀ d ∈ tables_1, d.before a0 Z = true) : (Jvm.Cond.initialized "com/example/nittei/nittei/Pareto").before a0 Z = true := hw _ (List.mem_of_getElem? (i := 3) rfl)
theorem w_4 {Z : State} {a0 : Array Value} (hw : ∀ d ∈ tables_1, d.before a0 Z = true) : (Jvm.Cond.code ({ cls := "com/example/nittei/nittei/Pareto", name := "dominates", desc := "([D[D)Z" } : Jvm.MethodName) prog_12_method_2_code (4 : Nat) (Option.some Jvm.ClassFile.FieldType.boolean)).before a0 Z = true := hw _ (List.mem_of_getElem? (i := 4) rfl)
theorem d1_0 : decode prog_12_method_2_code 0 = .ok (.iconst 0, 1) := by decide +kernel
theorem d1_1 : decode prog_12_method_2_code 1 = .ok (.istore_n 2, 1) := by decide +kernel
theorem d1_2 : decode prog_12_method_2_code 2 = .ok (.iconst 0, 1) := by decide +kernel
theorem d1_3 : decode prog_12_method_2_code 3 = .ok (.istore_n 3, 1) := by decide +kernel
theorem d1_4 : decode prog_12_method_2_code 4 = .ok (.iload_n 3, 1) := by decide +kernel
theorem d1_5 : decode prog_12_method_2_code 5 = .ok (.aload_n 0, 1) := by decide +kernel
theorem d1_6 : decode prog_12_method_2_code 6 = .ok (.arraylength, 1) := by decide +kernel
theorem d1_7 : decode prog_12_method_2_code 7 = .ok (.if_icmp .ge 33, 3) := by decide +kernel
theorem d1_10 : decode prog_12_method_2_code 10 = .ok (.aload_n 0, 1) := by decide +kernel
theorem d1_11 : decode prog_12_method_2_code 11 = .ok (.iload_n 3, 1) := by decide +kernel
theorem d1_12 : decode prog_12_method_2_code 12 = .ok (.daload, 1) := by decide +kernel
theorem d1_13 : decode prog_12_method_2_code 13 = .ok (.aload_n 1, 1) := by decide +kernel
theorem d1_14 : decode prog_12_method_2_code 14 = .ok (.iload_n 3, 1) := by decide +kernel
theorem d1_15 : decode prog_12_method_2_code 15 = .ok (.daload, 1) := by decide +kernel
theorem d1_16 : decode prog_12_method_2_code 16 = .ok (.dcmp .l, 1) := by decide +kernel
theorem d1_17 : decode prog_12_method_2_code 17 = .ok (.ifCond .le 5, 3) := by decide +kernel
theorem d1_20 : decode prog_12_method_2_code 20 = .ok (.iconst 0, 1) := by decide +kernel
theorem d1_21 : decode prog_12_method_2_code 21 = .ok (.ireturn, 1) := by decide +kernel
theorem d1_22 : decode prog_12_method_2_code 22 = .ok (.aload_n 0, 1) := by decide +kernel
theorem d1_23 : decode prog_12_method_2_code 23 = .ok (.iload_n 3, 1) := by decide +kernel
theorem d1_24 : decode prog_12_method_2_code 24 = .ok (.daload, 1) := by decide +kernel
theorem d1_25 : decode prog_12_method_2_code 25 = .ok (.aload_n 1, 1) := by decide +kernel
theorem d1_26 : decode prog_12_method_2_code 26 = .ok (.iload_n 3, 1) := by decide +kernel
theorem d1_27 : decode prog_12_method_2_code 27 = .ok (.daload, 1) := by decide +kernel
theorem d1_28 : decode prog_12_method_2_code 28 = .ok (.dcmp .g, 1) := by decide +kernel
theorem d1_29 : decode prog_12_method_2_code 29 = .ok (.ifCond .ge 5, 3) := by decide +kernel
theorem d1_32 : decode prog_12_method_2_code 32 = .ok (.iconst 1, 1) := by decide +kernel
theorem d1_33 : decode prog_12_method_2_code 33 = .ok (.istore_n 2, 1) := by decide +kernel
theorem d1_34 : decode prog_12_method_2_code 34 = .ok (.iinc 3 1, 3) := by decide +kernel
theorem d1_37 : decode prog_12_method_2_code 37 = .ok (.goto (-33), 3) := by decide +kernel
theorem d1_40 : decode prog_12_method_2_code 40 = .ok (.iload_n 2, 1) := by decide +kernel
theorem d1_41 : decode prog_12_method_2_code 41 = .ok (.ireturn, 1) := by decide +kernel
theorem pd__28_5bD_5bD_29Z : parseMethodDescriptor "([D[D)Z" = some ⟨[(.array .double), (.array .double)], some .boolean⟩ := by decide +kernel
theorem ef_rm1_0 (q1 : Addr) (q2 : Addr) (m : MethodId) : entryFrame m #[.ref q1, .ref q2] 4 = mkF m 0 #[.val (.ref q1), .val (.ref q2), .unset, .unset] [] := by
  first | (simp [entryFrame, mkF, argsToLocals, Value.category]; done) | rfl
theorem pn_rm1_0 : plainName "com/example/nittei/nittei/Pareto" = true := by first | (simp [plainName, overriddenIn]; done) | decide +kernel
set_option maxRecDepth 65536 in
set_option maxHeartbeats 40000000 in
theorem rm1_0 (l : Launch) (Z : State) (a0 : Array Value) (hw : ∀ d ∈ tables_1, d.before a0 Z = true) (ws : List Jvm.Cond) (q1 : Addr) (q2 : Addr) (h0 : Heap) (n0 : Nat) (ka kb : ClassId) (Aa : Arv Z h0 q1 ka .double (0 : Int32) [] (.double 0)) (Ab : Arv Z h0 q2 kb .double (0 : Int32) [] (.double 0)) :
    Ctr l Z ({ cls := "com/example/nittei/nittei/Pareto", name := "dominates", desc := "([D[D)Z" } : Jvm.MethodName) prog_12_method_2_code 4 (some .boolean) ws ({ frames := 0, cells := 0, slots := 0, locals := 0 } : Room) #[.ref q1, .ref q2] h0 (fun v h L => v = some (.int (domL [] 0)) ∧ Fr n0 L ∧ h = h0) := by
  refine Ctr.enter (Ls := #[.val (.ref q1), .val (.ref q2), .unset, .unset]) (plainFor_of_name pn_rm1_0) (fun m => ef_rm1_0 q1 q2 m) ?_
  intro p e s m below meth c T hx hby hml hown hnm hret hlk hZ hh X0 e0
  have N0 := Fr.nil n0
  refine g_iconst X0 hx hby d1_0 (pc' := 1) rfl (z := (0 : Int32)) rfl ?_
  refine g_istoreN X0 hx hby d1_1 (pc' := 2) rfl (l' := #[.val (.ref q1), .val (.ref q2), .val (.int (0 : Int32)), .unset]) rfl ?_
  refine g_iconst X0 hx hby d1_2 (pc' := 3) rfl (z := (0 : Int32)) rfl ?_
  refine g_istoreN X0 hx hby d1_3 (pc' := 4) rfl (l' := #[.val (.ref q1), .val (.ref q2), .val (.int (0 : Int32)), .val (.int (0 : Int32))]) rfl ?_
  refine g_iloadN X0 hx hby d1_4 (pc' := 5) rfl rfl ?_
  refine g_aloadN X0 hx hby d1_5 (pc' := 6) rfl rfl rfl ?_
  refine g_alen X0 hx hZ hby d1_6 (pc' := 7) rfl e0 Aa ?_
  refine g_icmp_ge X0 hx hby d1_7 (by decide) (pc' := 40) (by decide) (pn := 10) rfl (fun _ => ?_) (fun z => absurd z (by decide))
  refine g_iloadN X0 hx hby d1_40 (pc' := 41) rfl rfl ?_
  exact g_retN (Q := (fun v h L => v = some (.int (domL [] 0)) ∧ Fr n0 L ∧ h = h0)) (w := (0 : Int32)) X0 hx hby d1_41 hret (by simp) (by first | decide | rfl) hlk (by decide) (by decide) ⟨congrArg (fun z : Int32 => some (Value.int z)) (by rfl), N0, e0⟩
theorem ef_rm1_1 (q1 : Addr) (q2 : Addr) (m : MethodId) : entryFrame m #[.ref q1, .ref q2] 4 = mkF m 0 #[.val (.ref q1), .val (.ref q2), .unset, .unset] [] := by
  first | (simp [entryFrame, mkF, argsToLocals, Value.category]; done) | rfl
theorem pn_rm1_1 : plainName "com/example/nittei/nittei/Pareto" = true := by first | (simp [plainName, overriddenIn]; done) | decide +kernel
set_option maxRecDepth 65536 in
set_option maxHeartbeats 40000000 in
theorem rm1_1 (l : Launch) (Z : State) (a0 : Array Value) (hw : ∀ d ∈ tables_1, d.before a0 Z = true) (ws : List Jvm.Cond) (q1 : Addr) (q2 : Addr) (h0 : Heap) (n0 : Nat) (x0 y0 : Int64) (hx0 : B53 x0) (hy0 : B53 y0) (ka kb : ClassId) (Aa : Arv Z h0 q1 ka .double (1 : Int32) [.double (FP.l2d x0)] (.double 0)) (Ab : Arv Z h0 q2 kb .double (1 : Int32) [.double (FP.l2d y0)] (.double 0)) :
    Ctr l Z ({ cls := "com/example/nittei/nittei/Pareto", name := "dominates", desc := "([D[D)Z" } : Jvm.MethodName) prog_12_method_2_code 4 (some .boolean) ws ({ frames := 0, cells := 0, slots := 0, locals := 0 } : Room) #[.ref q1, .ref q2] h0 (fun v h L => v = some (.int (domL [(x0, y0)] 0)) ∧ Fr n0 L ∧ h = h0) := by
  refine Ctr.enter (Ls := #[.val (.ref q1), .val (.ref q2), .unset, .unset]) (plainFor_of_name pn_rm1_1) (fun m => ef_rm1_1 q1 q2 m) ?_
  intro p e s m below meth c T hx hby hml hown hnm hret hlk hZ hh X0 e0
  have N0 := Fr.nil n0
  refine g_iconst X0 hx hby d1_0 (pc' := 1) rfl (z := (0 : Int32)) rfl ?_
  refine g_istoreN X0 hx hby d1_1 (pc' := 2) rfl (l' := #[.val (.ref q1), .val (.ref q2), .val (.int (0 : Int32)), .unset]) rfl ?_
  refine g_iconst X0 hx hby d1_2 (pc' := 3) rfl (z := (0 : Int32)) rfl ?_
  refine g_istoreN X0 hx hby d1_3 (pc' := 4) rfl (l' := #[.val (.ref q1), .val (.ref q2), .val (.int (0 : Int32)), .val (.int (0 : Int32))]) rfl ?_
  refine g_iloadN X0 hx hby d1_4 (pc' := 5) rfl rfl ?_
  refine g_aloadN X0 hx hby d1_5 (pc' := 6) rfl rfl rfl ?_
  refine g_alen X0 hx hZ hby d1_6 (pc' := 7) rfl e0 Aa ?_
  refine g_icmp_ge X0 hx hby d1_7 (by decide) (pc' := 40) (by decide) (pn := 10) rfl (fun z => absurd z (by decide)) (fun _ => ?_)
  refine g_aloadN X0 hx hby d1_10 (pc' := 11) rfl rfl rfl ?_
  refine g_iloadN X0 hx hby d1_11 (pc' := 12) rfl rfl ?_
  refine g_daload X0 hx hZ hby d1_12 (pc' := 13) rfl e0 Aa (by decide) (v := .double (FP.l2d x0)) rfl ?_
  refine g_aloadN X0 hx hby d1_13 (pc' := 14) rfl rfl rfl ?_
  refine g_iloadN X0 hx hby d1_14 (pc' := 15) rfl rfl ?_
  refine g_daload X0 hx hZ hby d1_15 (pc' := 16) rfl e0 Ab (by decide) (v := .double (FP.l2d y0)) rfl ?_
  refine g_dcmp X0 hx hby d1_16 (pc' := 17) rfl (v := cmpL x0 y0) (dcmpV_w hx0 hy0 _) ?_
  refine g_ifL_le X0 hx hby d1_17 (by decide) (pc' := 22) (by decide) (pn := 20) rfl (fun hc17_1 => ?_) (fun hc17_1 => ?_)
  · refine g_aloadN X0 hx hby d1_22 (pc' := 23) rfl rfl rfl ?_
    refine g_iloadN X0 hx hby d1_23 (pc' := 24) rfl rfl ?_
    refine g_daload X0 hx hZ hby d1_24 (pc' := 25) rfl e0 Aa (by decide) (v := .double (FP.l2d x0)) rfl ?_
    refine g_aloadN X0 hx hby d1_25 (pc' := 26) rfl rfl rfl ?_
    refine g_iloadN X0 hx hby d1_26 (pc' := 27) rfl rfl ?_
    refine g_daload X0 hx hZ hby d1_27 (pc' := 28) rfl e0 Ab (by decide) (v := .double (FP.l2d y0)) rfl ?_
    refine g_dcmp X0 hx hby d1_28 (pc' := 29) rfl (v := cmpL x0 y0) (dcmpV_w hx0 hy0 _) ?_
    refine g_ifL_ge X0 hx hby d1_29 (by decide) (pc' := 34) (by decide) (pn := 32) rfl (fun hc29_2 => ?_) (fun hc29_2 => ?_)
    · refine g_iinc X0 hx hby d1_34 (pc' := 37) rfl rfl (l' := #[.val (.ref q1), .val (.ref q2), .val (.int (0 : Int32)), .val (.int (1 : Int32))]) rfl ?_
      refine g_goto X0 hx hby d1_37 (by decide) (pc' := 4) (by decide) ?_
      refine g_iloadN X0 hx hby d1_4 (pc' := 5) rfl rfl ?_
      refine g_aloadN X0 hx hby d1_5 (pc' := 6) rfl rfl rfl ?_
      refine g_alen X0 hx hZ hby d1_6 (pc' := 7) rfl e0 Aa ?_
      refine g_icmp_ge X0 hx hby d1_7 (by decide) (pc' := 40) (by decide) (pn := 10) rfl (fun _ => ?_) (fun z => absurd z (by decide))
      refine g_iloadN X0 hx hby d1_40 (pc' := 41) rfl rfl ?_
      exact g_retN (Q := (fun v h L => v = some (.int (domL [(x0, y0)] 0)) ∧ Fr n0 L ∧ h = h0)) (w := (0 : Int32)) X0 hx hby d1_41 hret (by simp) (by first | decide | rfl) hlk (by decide) (by decide) ⟨congrArg (fun z : Int32 => some (Value.int z)) (by simp only [domL]; rw [if_neg hc17_1, if_neg hc29_2]), N0, e0⟩
    · refine g_iconst X0 hx hby d1_32 (pc' := 33) rfl (z := (1 : Int32)) rfl ?_
      refine g_istoreN X0 hx hby d1_33 (pc' := 34) rfl (l' := #[.val (.ref q1), .val (.ref q2), .val (.int (1 : Int32)), .val (.int (0 : Int32))]) rfl ?_
      refine g_iinc X0 hx hby d1_34 (pc' := 37) rfl rfl (l' := #[.val (.ref q1), .val (.ref q2), .val (.int (1 : Int32)), .val (.int (1 : Int32))]) rfl ?_
      refine g_goto X0 hx hby d1_37 (by decide) (pc' := 4) (by decide) ?_
      refine g_iloadN X0 hx hby d1_4 (pc' := 5) rfl rfl ?_
      refine g_aloadN X0 hx hby d1_5 (pc' := 6) rfl rfl rfl ?_
      refine g_alen X0 hx hZ hby d1_6 (pc' := 7) rfl e0 Aa ?_
      refine g_icmp_ge X0 hx hby d1_7 (by decide) (pc' := 40) (by decide) (pn := 10) rfl (fun _ => ?_) (fun z => absurd z (by decide))
      refine g_iloadN X0 hx hby d1_40 (pc' := 41) rfl rfl ?_
      exact g_retN (Q := (fun v h L => v = some (.int (domL [(x0, y0)] 0)) ∧ Fr n0 L ∧ h = h0)) (w := (1 : Int32)) X0 hx hby d1_41 hret (by simp) (by first | decide | rfl) hlk (by decide) (by decide) ⟨congrArg (fun z : Int32 => some (Value.int z)) (by simp only [domL]; rw [if_neg hc17_1, if_pos hc29_2]), N0, e0⟩
  · refine g_iconst X0 hx hby d1_20 (pc' := 21) rfl (z := (0 : Int32)) rfl ?_
    exact g_retN (Q := (fun v h L => v = some (.int (domL [(x0, y0)] 0)) ∧ Fr n0 L ∧ h = h0)) (w := (0 : Int32)) X0 hx hby d1_21 hret (by simp) (by first | decide | rfl) hlk (by decide) (by decide) ⟨congrArg (fun z : Int32 => some (Value.int z)) (by simp only [domL]; rw [if_pos hc17_1]), N0, e0⟩
theorem ef_rm1_2 (q1 : Addr) (q2 : Addr) (m : MethodId) : entryFrame m #[.ref q1, .ref q2] 4 = mkF m 0 #[.val (.ref q1), .val (.ref q2), .unset, .unset] [] := by
  first | (simp [entryFrame, mkF, argsToLocals, Value.category]; done) | rfl
theorem pn_rm1_2 : plainName "com/example/nittei/nittei/Pareto" = true := by first | (simp [plainName, overriddenIn]; done) | decide +kernel
set_option maxRecDepth 65536 in
set_option maxHeartbeats 40000000 in
theorem rm1_2 (l : Launch) (Z : State) (a0 : Array Value) (hw : ∀ d ∈ tables_1, d.before a0 Z = true) (ws : List Jvm.Cond) (q1 : Addr) (q2 : Addr) (h0 : Heap) (n0 : Nat) (x0 y0 : Int64) (hx0 : B53 x0) (hy0 : B53 y0) (x1 y1 : Int64) (hx1 : B53 x1) (hy1 : B53 y1) (ka kb : ClassId) (Aa : Arv Z h0 q1 ka .double (2 : Int32) [.double (FP.l2d x0), .double (FP.l2d x1)] (.double 0)) (Ab : Arv Z h0 q2 kb .double (2 : Int32) [.double (FP.l2d y0), .double (FP.l2d y1)] (.double 0)) :
    Ctr l Z ({ cls := "com/example/nittei/nittei/Pareto", name := "dominates", desc := "([D[D)Z" } : Jvm.MethodName) prog_12_method_2_code 4 (some .boolean) ws ({ frames := 0, cells := 0, slots := 0, locals := 0 } : Room) #[.ref q1, .ref q2] h0 (fun v h L => v = some (.int (domL [(x0, y0), (x1, y1)] 0)) ∧ Fr n0 L ∧ h = h0) := by
  refine Ctr.enter (Ls := #[.val (.ref q1), .val (.ref q2), .unset, .unset]) (plainFor_of_name pn_rm1_2) (fun m => ef_rm1_2 q1 q2 m) ?_
  intro p e s m below meth c T hx hby hml hown hnm hret hlk hZ hh X0 e0
  have N0 := Fr.nil n0
  refine g_iconst X0 hx hby d1_0 (pc' := 1) rfl (z := (0 : Int32)) rfl ?_
  refine g_istoreN X0 hx hby d1_1 (pc' := 2) rfl (l' := #[.val (.ref q1), .val (.ref q2), .val (.int (0 : Int32)), .unset]) rfl ?_
  refine g_iconst X0 hx hby d1_2 (pc' := 3) rfl (z := (0 : Int32)) rfl ?_
  refine g_istoreN X0 hx hby d1_3 (pc' := 4) rfl (l' := #[.val (.ref q1), .val (.ref q2), .val (.int (0 : Int32)), .val (.int (0 : Int32))]) rfl ?_
  refine g_iloadN X0 hx hby d1_4 (pc' := 5) rfl rfl ?_
  refine g_aloadN X0 hx hby d1_5 (pc' := 6) rfl rfl rfl ?_
  refine g_alen X0 hx hZ hby d1_6 (pc' := 7) rfl e0 Aa ?_
  refine g_icmp_ge X0 hx hby d1_7 (by decide) (pc' := 40) (by decide) (pn := 10) rfl (fun z => absurd z (by decide)) (fun _ => ?_)
  refine g_aloadN X0 hx hby d1_10 (pc' := 11) rfl rfl rfl ?_
  refine g_iloadN X0 hx hby d1_11 (pc' := 12) rfl rfl ?_
  refine g_daload X0 hx hZ hby d1_12 (pc' := 13) rfl e0 Aa (by decide) (v := .double (FP.l2d x0)) rfl ?_
  refine g_aloadN X0 hx hby d1_13 (pc' := 14) rfl rfl rfl ?_
  refine g_iloadN X0 hx hby d1_14 (pc' := 15) rfl rfl ?_
  refine g_daload X0 hx hZ hby d1_15 (pc' := 16) rfl e0 Ab (by decide) (v := .double (FP.l2d y0)) rfl ?_
  refine g_dcmp X0 hx hby d1_16 (pc' := 17) rfl (v := cmpL x0 y0) (dcmpV_w hx0 hy0 _) ?_
  refine g_ifL_le X0 hx hby d1_17 (by decide) (pc' := 22) (by decide) (pn := 20) rfl (fun hc17_1 => ?_) (fun hc17_1 => ?_)
  · refine g_aloadN X0 hx hby d1_22 (pc' := 23) rfl rfl rfl ?_
    refine g_iloadN X0 hx hby d1_23 (pc' := 24) rfl rfl ?_
    refine g_daload X0 hx hZ hby d1_24 (pc' := 25) rfl e0 Aa (by decide) (v := .double (FP.l2d x0)) rfl ?_
    refine g_aloadN X0 hx hby d1_25 (pc' := 26) rfl rfl rfl ?_
    refine g_iloadN X0 hx hby d1_26 (pc' := 27) rfl rfl ?_
    refine g_daload X0 hx hZ hby d1_27 (pc' := 28) rfl e0 Ab (by decide) (v := .double (FP.l2d y0)) rfl ?_
    refine g_dcmp X0 hx hby d1_28 (pc' := 29) rfl (v := cmpL x0 y0) (dcmpV_w hx0 hy0 _) ?_
    refine g_ifL_ge X0 hx hby d1_29 (by decide) (pc' := 34) (by decide) (pn := 32) rfl (fun hc29_2 => ?_) (fun hc29_2 => ?_)
    · refine g_iinc X0 hx hby d1_34 (pc' := 37) rfl rfl (l' := #[.val (.ref q1), .val (.ref q2), .val (.int (0 : Int32)), .val (.int (1 : Int32))]) rfl ?_
      refine g_goto X0 hx hby d1_37 (by decide) (pc' := 4) (by decide) ?_
      refine g_iloadN X0 hx hby d1_4 (pc' := 5) rfl rfl ?_
      refine g_aloadN X0 hx hby d1_5 (pc' := 6) rfl rfl rfl ?_
      refine g_alen X0 hx hZ hby d1_6 (pc' := 7) rfl e0 Aa ?_
      refine g_icmp_ge X0 hx hby d1_7 (by decide) (pc' := 40) (by decide) (pn := 10) rfl (fun z => absurd z (by decide)) (fun _ => ?_)
      refine g_aloadN X0 hx hby d1_10 (pc' := 11) rfl rfl rfl ?_
      refine g_iloadN X0 hx hby d1_11 (pc' := 12) rfl rfl ?_
      refine g_daload X0 hx hZ hby d1_12 (pc' := 13) rfl e0 Aa (by decide) (v := .double (FP.l2d x1)) rfl ?_
      refine g_aloadN X0 hx hby d1_13 (pc' := 14) rfl rfl rfl ?_
      refine g_iloadN X0 hx hby d1_14 (pc' := 15) rfl rfl ?_
      refine g_daload X0 hx hZ hby d1_15 (pc' := 16) rfl e0 Ab (by decide) (v := .double (FP.l2d y1)) rfl ?_
      refine g_dcmp X0 hx hby d1_16 (pc' := 17) rfl (v := cmpL x1 y1) (dcmpV_w hx1 hy1 _) ?_
      refine g_ifL_le X0 hx hby d1_17 (by decide) (pc' := 22) (by decide) (pn := 20) rfl (fun hc17_3 => ?_) (fun hc17_3 => ?_)
      · refine g_aloadN X0 hx hby d1_22 (pc' := 23) rfl rfl rfl ?_
        refine g_iloadN X0 hx hby d1_23 (pc' := 24) rfl rfl ?_
        refine g_daload X0 hx hZ hby d1_24 (pc' := 25) rfl e0 Aa (by decide) (v := .double (FP.l2d x1)) rfl ?_
        refine g_aloadN X0 hx hby d1_25 (pc' := 26) rfl rfl rfl ?_
        refine g_iloadN X0 hx hby d1_26 (pc' := 27) rfl rfl ?_
        refine g_daload X0 hx hZ hby d1_27 (pc' := 28) rfl e0 Ab (by decide) (v := .double (FP.l2d y1)) rfl ?_
        refine g_dcmp X0 hx hby d1_28 (pc' := 29) rfl (v := cmpL x1 y1) (dcmpV_w hx1 hy1 _) ?_
        refine g_ifL_ge X0 hx hby d1_29 (by decide) (pc' := 34) (by decide) (pn := 32) rfl (fun hc29_4 => ?_) (fun hc29_4 => ?_)
        · refine g_iinc X0 hx hby d1_34 (pc' := 37) rfl rfl (l' := #[.val (.ref q1), .val (.ref q2), .val (.int (0 : Int32)), .val (.int (2 : Int32))]) rfl ?_
          refine g_goto X0 hx hby d1_37 (by decide) (pc' := 4) (by decide) ?_
          refine g_iloadN X0 hx hby d1_4 (pc' := 5) rfl rfl ?_
          refine g_aloadN X0 hx hby d1_5 (pc' := 6) rfl rfl rfl ?_
          refine g_alen X0 hx hZ hby d1_6 (pc' := 7) rfl e0 Aa ?_
          refine g_icmp_ge X0 hx hby d1_7 (by decide) (pc' := 40) (by decide) (pn := 10) rfl (fun _ => ?_) (fun z => absurd z (by decide))
          refine g_iloadN X0 hx hby d1_40 (pc' := 41) rfl rfl ?_
          exact g_retN (Q := (fun v h L => v = some (.int (domL [(x0, y0), (x1, y1)] 0)) ∧ Fr n0 L ∧ h = h0)) (w := (0 : Int32)) X0 hx hby d1_41 hret (by simp) (by first | decide | rfl) hlk (by decide) (by decide) ⟨congrArg (fun z : Int32 => some (Value.int z)) (by simp only [domL]; rw [if_neg hc17_1, if_neg hc29_2, if_neg hc17_3, if_neg hc29_4]), N0, e0⟩
        · refine g_iconst X0 hx hby d1_32 (pc' := 33) rfl (z := (1 : Int32)) rfl ?_
          refine g_istoreN X0 hx hby d1_33 (pc' := 34) rfl (l' := #[.val (.ref q1), .val (.ref q2), .val (.int (1 : Int32)), .val (.int (1 : Int32))]) rfl ?_
          refine g_iinc X0 hx hby d1_34 (pc' := 37) rfl rfl (l' := #[.val (.ref q1), .val (.ref q2), .val (.int (1 : Int32)), .val (.int (2 : Int32))]) rfl ?_
          refine g_goto X0 hx hby d1_37 (by decide) (pc' := 4) (by decide) ?_
          refine g_iloadN X0 hx hby d1_4 (pc' := 5) rfl rfl ?_
          refine g_aloadN X0 hx hby d1_5 (pc' := 6) rfl rfl rfl ?_
          refine g_alen X0 hx hZ hby d1_6 (pc' := 7) rfl e0 Aa ?_
          refine g_icmp_ge X0 hx hby d1_7 (by decide) (pc' := 40) (by decide) (pn := 10) rfl (fun _ => ?_) (fun z => absurd z (by decide))
          refine g_iloadN X0 hx hby d1_40 (pc' := 41) rfl rfl ?_
          exact g_retN (Q := (fun v h L => v = some (.int (domL [(x0, y0), (x1, y1)] 0)) ∧ Fr n0 L ∧ h = h0)) (w := (1 : Int32)) X0 hx hby d1_41 hret (by simp) (by first | decide | rfl) hlk (by decide) (by decide) ⟨congrArg (fun z : Int32 => some (Value.int z)) (by simp only [domL]; rw [if_neg hc17_1, if_neg hc29_2, if_neg hc17_3, if_pos hc29_4]), N0, e0⟩
      · refine g_iconst X0 hx hby d1_20 (pc' := 21) rfl (z := (0 : Int32)) rfl ?_
        exact g_retN (Q := (fun v h L => v = some (.int (domL [(x0, y0), (x1, y1)] 0)) ∧ Fr n0 L ∧ h = h0)) (w := (0 : Int32)) X0 hx hby d1_21 hret (by simp) (by first | decide | rfl) hlk (by decide) (by decide) ⟨congrArg (fun z : Int32 => some (Value.int z)) (by simp only [domL]; rw [if_neg hc17_1, if_neg hc29_2, if_pos hc17_3]), N0, e0⟩
    · refine g_iconst X0 hx hby d1_32 (pc' := 33) rfl (z := (1 : Int32)) rfl ?_
      refine g_istoreN X0 hx hby d1_33 (pc' := 34) rfl (l' := #[.val (.ref q1), .val (.ref q2), .val (.int (1 : Int32)), .val (.int (0 : Int32))]) rfl ?_
      refine g_iinc X0 hx hby d1_34 (pc' := 37) rfl rfl (l' := #[.val (.ref q1), .val (.ref q2), .val (.int (1 : Int32)), .val (.int (1 : Int32))]) rfl ?_
      refine g_goto X0 hx hby d1_37 (by decide) (pc' := 4) (by decide) ?_
      refine g_iloadN X0 hx hby d1_4 (pc' := 5) rfl rfl ?_
      refine g_aloadN X0 hx hby d1_5 (pc' := 6) rfl rfl rfl ?_
      refine g_alen X0 hx hZ hby d1_6 (pc' := 7) rfl e0 Aa ?_
      refine g_icmp_ge X0 hx hby d1_7 (by decide) (pc' := 40) (by decide) (pn := 10) rfl (fun z => absurd z (by decide)) (fun _ => ?_)
      refine g_aloadN X0 hx hby d1_10 (pc' := 11) rfl rfl rfl ?_
      refine g_iloadN X0 hx hby d1_11 (pc' := 12) rfl rfl ?_
      refine g_daload X0 hx hZ hby d1_12 (pc' := 13) rfl e0 Aa (by decide) (v := .double (FP.l2d x1)) rfl ?_
      refine g_aloadN X0 hx hby d1_13 (pc' := 14) rfl rfl rfl ?_
      refine g_iloadN X0 hx hby d1_14 (pc' := 15) rfl rfl ?_
      refine g_daload X0 hx hZ hby d1_15 (pc' := 16) rfl e0 Ab (by decide) (v := .double (FP.l2d y1)) rfl ?_
      refine g_dcmp X0 hx hby d1_16 (pc' := 17) rfl (v := cmpL x1 y1) (dcmpV_w hx1 hy1 _) ?_
      refine g_ifL_le X0 hx hby d1_17 (by decide) (pc' := 22) (by decide) (pn := 20) rfl (fun hc17_5 => ?_) (fun hc17_5 => ?_)
      · refine g_aloadN X0 hx hby d1_22 (pc' := 23) rfl rfl rfl ?_
        refine g_iloadN X0 hx hby d1_23 (pc' := 24) rfl rfl ?_
        refine g_daload X0 hx hZ hby d1_24 (pc' := 25) rfl e0 Aa (by decide) (v := .double (FP.l2d x1)) rfl ?_
        refine g_aloadN X0 hx hby d1_25 (pc' := 26) rfl rfl rfl ?_
        refine g_iloadN X0 hx hby d1_26 (pc' := 27) rfl rfl ?_
        refine g_daload X0 hx hZ hby d1_27 (pc' := 28) rfl e0 Ab (by decide) (v := .double (FP.l2d y1)) rfl ?_
        refine g_dcmp X0 hx hby d1_28 (pc' := 29) rfl (v := cmpL x1 y1) (dcmpV_w hx1 hy1 _) ?_
        refine g_ifL_ge X0 hx hby d1_29 (by decide) (pc' := 34) (by decide) (pn := 32) rfl (fun hc29_6 => ?_) (fun hc29_6 => ?_)
        · refine g_iinc X0 hx hby d1_34 (pc' := 37) rfl rfl (l' := #[.val (.ref q1), .val (.ref q2), .val (.int (1 : Int32)), .val (.int (2 : Int32))]) rfl ?_
          refine g_goto X0 hx hby d1_37 (by decide) (pc' := 4) (by decide) ?_
          refine g_iloadN X0 hx hby d1_4 (pc' := 5) rfl rfl ?_
          refine g_aloadN X0 hx hby d1_5 (pc' := 6) rfl rfl rfl ?_
          refine g_alen X0 hx hZ hby d1_6 (pc' := 7) rfl e0 Aa ?_
          refine g_icmp_ge X0 hx hby d1_7 (by decide) (pc' := 40) (by decide) (pn := 10) rfl (fun _ => ?_) (fun z => absurd z (by decide))
          refine g_iloadN X0 hx hby d1_40 (pc' := 41) rfl rfl ?_
          exact g_retN (Q := (fun v h L => v = some (.int (domL [(x0, y0), (x1, y1)] 0)) ∧ Fr n0 L ∧ h = h0)) (w := (1 : Int32)) X0 hx hby d1_41 hret (by simp) (by first | decide | rfl) hlk (by decide) (by decide) ⟨congrArg (fun z : Int32 => some (Value.int z)) (by simp only [domL]; rw [if_neg hc17_1, if_pos hc29_2, if_neg hc17_5, if_neg hc29_6]), N0, e0⟩
        · refine g_iconst X0 hx hby d1_32 (pc' := 33) rfl (z := (1 : Int32)) rfl ?_
          refine g_istoreN X0 hx hby d1_33 (pc' := 34) rfl (l' := #[.val (.ref q1), .val (.ref q2), .val (.int (1 : Int32)), .val (.int (1 : Int32))]) rfl ?_
          refine g_iinc X0 hx hby d1_34 (pc' := 37) rfl rfl (l' := #[.val (.ref q1), .val (.ref q2), .val (.int (1 : Int32)), .val (.int (2 : Int32))]) rfl ?_
          refine g_goto X0 hx hby d1_37 (by decide) (pc' := 4) (by decide) ?_
          refine g_iloadN X0 hx hby d1_4 (pc' := 5) rfl rfl ?_
          refine g_aloadN X0 hx hby d1_5 (pc' := 6) rfl rfl rfl ?_
          refine g_alen X0 hx hZ hby d1_6 (pc' := 7) rfl e0 Aa ?_
          refine g_icmp_ge X0 hx hby d1_7 (by decide) (pc' := 40) (by decide) (pn := 10) rfl (fun _ => ?_) (fun z => absurd z (by decide))
          refine g_iloadN X0 hx hby d1_40 (pc' := 41) rfl rfl ?_
          exact g_retN (Q := (fun v h L => v = some (.int (domL [(x0, y0), (x1, y1)] 0)) ∧ Fr n0 L ∧ h = h0)) (w := (1 : Int32)) X0 hx hby d1_41 hret (by simp) (by first | decide | rfl) hlk (by decide) (by decide) ⟨congrArg (fun z : Int32 => some (Value.int z)) (by simp only [domL]; rw [if_neg hc17_1, if_pos hc29_2, if_neg hc17_5, if_pos hc29_6]), N0, e0⟩
      · refine g_iconst X0 hx hby d1_20 (pc' := 21) rfl (z := (0 : Int32)) rfl ?_
        exact g_retN (Q := (fun v h L => v = some (.int (domL [(x0, y0), (x1, y1)] 0)) ∧ Fr n0 L ∧ h = h0)) (w := (0 : Int32)) X0 hx hby d1_21 hret (by simp) (by first | decide | rfl) hlk (by decide) (by decide) ⟨congrArg (fun z : Int32 => some (Value.int z)) (by simp only [domL]; rw [if_neg hc17_1, if_pos hc29_2, if_pos hc17_5]), N0, e0⟩
  · refine g_iconst X0 hx hby d1_20 (pc' := 21) rfl (z := (0 : Int32)) rfl ?_
    exact g_retN (Q := (fun v h L => v = some (.int (domL [(x0, y0), (x1, y1)] 0)) ∧ Fr n0 L ∧ h = h0)) (w := (0 : Int32)) X0 hx hby d1_21 hret (by simp) (by first | decide | rfl) hlk (by decide) (by decide) ⟨congrArg (fun z : Int32 => some (Value.int z)) (by simp only [domL]; rw [if_pos hc17_1]), N0, e0⟩
theorem ef_rm1_3 (q1 : Addr) (q2 : Addr) (m : MethodId) : entryFrame m #[.ref q1, .ref q2] 4 = mkF m 0 #[.val (.ref q1), .val (.ref q2), .unset, .unset] [] := by
  first | (simp [entryFrame, mkF, argsToLocals, Value.category]; done) | rfl
theorem pn_rm1_3 : plainName "com/example/nittei/nittei/Pareto" = true := by first | (simp [plainName, overriddenIn]; done) | decide +kernel
set_option maxRecDepth 65536 in
set_option maxHeartbeats 40000000 in
theorem rm1_3 (l : Launch) (Z : State) (a0 : Array Value) (hw : ∀ d ∈ tables_1, d.before a0 Z = true) (ws : List Jvm.Cond) (q1 : Addr) (q2 : Addr) (h0 : Heap) (n0 : Nat) (x0 y0 : Int64) (hx0 : B53 x0) (hy0 : B53 y0) (x1 y1 : Int64) (hx1 : B53 x1) (hy1 : B53 y1) (x2 y2 : Int64) (hx2 : B53 x2) (hy2 : B53 y2) (ka kb : ClassId) (Aa : Arv Z h0 q1 ka .double (3 : Int32) [.double (FP.l2d x0), .double (FP.l2d x1), .double (FP.l2d x2)] (.double 0)) (Ab : Arv Z h0 q2 kb .double (3 : Int32) [.double (FP.l2d y0), .double (FP.l2d y1), .double (FP.l2d y2)] (.double 0)) :
    Ctr l Z ({ cls := "com/example/nittei/nittei/Pareto", name := "dominates", desc := "([D[D)Z" } : Jvm.MethodName) prog_12_method_2_code 4 (some .boolean) ws ({ frames := 0, cells := 0, slots := 0, locals := 0 } : Room) #[.ref q1, .ref q2] h0 (fun v h L => v = some (.int (domL [(x0, y0), (x1, y1), (x2, y2)] 0)) ∧ Fr n0 L ∧ h = h0) := by
  refine Ctr.enter (Ls := #[.val (.ref q1), .val (.ref q2), .unset, .unset]) (plainFor_of_name pn_rm1_3) (fun m => ef_rm1_3 q1 q2 m) ?_
  intro p e s m below meth c T hx hby hml hown hnm hret hlk hZ hh X0 e0
  have N0 := Fr.nil n0
  refine g_iconst X0 hx hby d1_0 (pc' := 1) rfl (z := (0 : Int32)) rfl ?_
  refine g_istoreN X0 hx hby d1_1 (pc' := 2) rfl (l' := #[.val (.ref q1), .val (.ref q2), .val (.int (0 : Int32)), .unset]) rfl ?_
  refine g_iconst X0 hx hby d1_2 (pc' := 3) rfl (z := (0 : Int32)) rfl ?_
  refine g_istoreN X0 hx hby d1_3 (pc' := 4) rfl (l' := #[.val (.ref q1), .val (.ref q2), .val (.int (0 : Int32)), .val (.int (0 : Int32))]) rfl ?_
  refine g_iloadN X0 hx hby d1_4 (pc' := 5) rfl rfl ?_
  refine g_aloadN X0 hx hby d1_5 (pc' := 6) rfl rfl rfl ?_
  refine g_alen X0 hx hZ hby d1_6 (pc' := 7) rfl e0 Aa ?_
  refine g_icmp_ge X0 hx hby d1_7 (by decide) (pc' := 40) (by decide) (pn := 10) rfl (fun z => absurd z (by decide)) (fun _ => ?_)
  refine g_aloadN X0 hx hby d1_10 (pc' := 11) rfl rfl rfl ?_
  refine g_iloadN X0 hx hby d1_11 (pc' := 12) rfl rfl ?_
  refine g_daload X0 hx hZ hby d1_12 (pc' := 13) rfl e0 Aa (by decide) (v := .double (FP.l2d x0)) rfl ?_
  refine g_aloadN X0 hx hby d1_13 (pc' := 14) rfl rfl rfl ?_
  refine g_iloadN X0 hx hby d1_14 (pc' := 15) rfl rfl ?_
  refine g_daload X0 hx hZ hby d1_15 (pc' := 16) rfl e0 Ab (by decide) (v := .double (FP.l2d y0)) rfl ?_
  refine g_dcmp X0 hx hby d1_16 (pc' := 17) rfl (v := cmpL x0 y0) (dcmpV_w hx0 hy0 _) ?_
  refine g_ifL_le X0 hx hby d1_17 (by decide) (pc' := 22) (by decide) (pn := 20) rfl (fun hc17_1 => ?_) (fun hc17_1 => ?_)
  · refine g_aloadN X0 hx hby d1_22 (pc' := 23) rfl rfl rfl ?_
    refine g_iloadN X0 hx hby d1_23 (pc' := 24) rfl rfl ?_
    refine g_daload X0 hx hZ hby d1_24 (pc' := 25) rfl e0 Aa (by decide) (v := .double (FP.l2d x0)) rfl ?_
    refine g_aloadN X0 hx hby d1_25 (pc' := 26) rfl rfl rfl ?_
    refine g_iloadN X0 hx hby d1_26 (pc' := 27) rfl rfl ?_
    refine g_daload X0 hx hZ hby d1_27 (pc' := 28) rfl e0 Ab (by decide) (v := .double (FP.l2d y0)) rfl ?_
    refine g_dcmp X0 hx hby d1_28 (pc' := 29) rfl (v := cmpL x0 y0) (dcmpV_w hx0 hy0 _) ?_
    refine g_ifL_ge X0 hx hby d1_29 (by decide) (pc' := 34) (by decide) (pn := 32) rfl (fun hc29_2 => ?_) (fun hc29_2 => ?_)
    · refine g_iinc X0 hx hby d1_34 (pc' := 37) rfl rfl (l' := #[.val (.ref q1), .val (.ref q2), .val (.int (0 : Int32)), .val (.int (1 : Int32))]) rfl ?_
      refine g_goto X0 hx hby d1_37 (by decide) (pc' := 4) (by decide) ?_
      refine g_iloadN X0 hx hby d1_4 (pc' := 5) rfl rfl ?_
      refine g_aloadN X0 hx hby d1_5 (pc' := 6) rfl rfl rfl ?_
      refine g_alen X0 hx hZ hby d1_6 (pc' := 7) rfl e0 Aa ?_
      refine g_icmp_ge X0 hx hby d1_7 (by decide) (pc' := 40) (by decide) (pn := 10) rfl (fun z => absurd z (by decide)) (fun _ => ?_)
      refine g_aloadN X0 hx hby d1_10 (pc' := 11) rfl rfl rfl ?_
      refine g_iloadN X0 hx hby d1_11 (pc' := 12) rfl rfl ?_
      refine g_daload X0 hx hZ hby d1_12 (pc' := 13) rfl e0 Aa (by decide) (v := .double (FP.l2d x1)) rfl ?_
      refine g_aloadN X0 hx hby d1_13 (pc' := 14) rfl rfl rfl ?_
      refine g_iloadN X0 hx hby d1_14 (pc' := 15) rfl rfl ?_
      refine g_daload X0 hx hZ hby d1_15 (pc' := 16) rfl e0 Ab (by decide) (v := .double (FP.l2d y1)) rfl ?_
      refine g_dcmp X0 hx hby d1_16 (pc' := 17) rfl (v := cmpL x1 y1) (dcmpV_w hx1 hy1 _) ?_
      refine g_ifL_le X0 hx hby d1_17 (by decide) (pc' := 22) (by decide) (pn := 20) rfl (fun hc17_3 => ?_) (fun hc17_3 => ?_)
      · refine g_aloadN X0 hx hby d1_22 (pc' := 23) rfl rfl rfl ?_
        refine g_iloadN X0 hx hby d1_23 (pc' := 24) rfl rfl ?_
        refine g_daload X0 hx hZ hby d1_24 (pc' := 25) rfl e0 Aa (by decide) (v := .double (FP.l2d x1)) rfl ?_
        refine g_aloadN X0 hx hby d1_25 (pc' := 26) rfl rfl rfl ?_
        refine g_iloadN X0 hx hby d1_26 (pc' := 27) rfl rfl ?_
        refine g_daload X0 hx hZ hby d1_27 (pc' := 28) rfl e0 Ab (by decide) (v := .double (FP.l2d y1)) rfl ?_
        refine g_dcmp X0 hx hby d1_28 (pc' := 29) rfl (v := cmpL x1 y1) (dcmpV_w hx1 hy1 _) ?_
        refine g_ifL_ge X0 hx hby d1_29 (by decide) (pc' := 34) (by decide) (pn := 32) rfl (fun hc29_4 => ?_) (fun hc29_4 => ?_)
        · refine g_iinc X0 hx hby d1_34 (pc' := 37) rfl rfl (l' := #[.val (.ref q1), .val (.ref q2), .val (.int (0 : Int32)), .val (.int (2 : Int32))]) rfl ?_
          refine g_goto X0 hx hby d1_37 (by decide) (pc' := 4) (by decide) ?_
          refine g_iloadN X0 hx hby d1_4 (pc' := 5) rfl rfl ?_
          refine g_aloadN X0 hx hby d1_5 (pc' := 6) rfl rfl rfl ?_
          refine g_alen X0 hx hZ hby d1_6 (pc' := 7) rfl e0 Aa ?_
          refine g_icmp_ge X0 hx hby d1_7 (by decide) (pc' := 40) (by decide) (pn := 10) rfl (fun z => absurd z (by decide)) (fun _ => ?_)
          refine g_aloadN X0 hx hby d1_10 (pc' := 11) rfl rfl rfl ?_
          refine g_iloadN X0 hx hby d1_11 (pc' := 12) rfl rfl ?_
          refine g_daload X0 hx hZ hby d1_12 (pc' := 13) rfl e0 Aa (by decide) (v := .double (FP.l2d x2)) rfl ?_
          refine g_aloadN X0 hx hby d1_13 (pc' := 14) rfl rfl rfl ?_
          refine g_iloadN X0 hx hby d1_14 (pc' := 15) rfl rfl ?_
          refine g_daload X0 hx hZ hby d1_15 (pc' := 16) rfl e0 Ab (by decide) (v := .double (FP.l2d y2)) rfl ?_
          refine g_dcmp X0 hx hby d1_16 (pc' := 17) rfl (v := cmpL x2 y2) (dcmpV_w hx2 hy2 _) ?_
          refine g_ifL_le X0 hx hby d1_17 (by decide) (pc' := 22) (by decide) (pn := 20) rfl (fun hc17_5 => ?_) (fun hc17_5 => ?_)
          · refine g_aloadN X0 hx hby d1_22 (pc' := 23) rfl rfl rfl ?_
            refine g_iloadN X0 hx hby d1_23 (pc' := 24) rfl rfl ?_
            refine g_daload X0 hx hZ hby d1_24 (pc' := 25) rfl e0 Aa (by decide) (v := .double (FP.l2d x2)) rfl ?_
            refine g_aloadN X0 hx hby d1_25 (pc' := 26) rfl rfl rfl ?_
            refine g_iloadN X0 hx hby d1_26 (pc' := 27) rfl rfl ?_
            refine g_daload X0 hx hZ hby d1_27 (pc' := 28) rfl e0 Ab (by decide) (v := .double (FP.l2d y2)) rfl ?_
            refine g_dcmp X0 hx hby d1_28 (pc' := 29) rfl (v := cmpL x2 y2) (dcmpV_w hx2 hy2 _) ?_
            refine g_ifL_ge X0 hx hby d1_29 (by decide) (pc' := 34) (by decide) (pn := 32) rfl (fun hc29_6 => ?_) (fun hc29_6 => ?_)
            · refine g_iinc X0 hx hby d1_34 (pc' := 37) rfl rfl (l' := #[.val (.ref q1), .val (.ref q2), .val (.int (0 : Int32)), .val (.int (3 : Int32))]) rfl ?_
              refine g_goto X0 hx hby d1_37 (by decide) (pc' := 4) (by decide) ?_
              refine g_iloadN X0 hx hby d1_4 (pc' := 5) rfl rfl ?_
              refine g_aloadN X0 hx hby d1_5 (pc' := 6) rfl rfl rfl ?_
              refine g_alen X0 hx hZ hby d1_6 (pc' := 7) rfl e0 Aa ?_
              refine g_icmp_ge X0 hx hby d1_7 (by decide) (pc' := 40) (by decide) (pn := 10) rfl (fun _ => ?_) (fun z => absurd z (by decide))
              refine g_iloadN X0 hx hby d1_40 (pc' := 41) rfl rfl ?_
              exact g_retN (Q := (fun v h L => v = some (.int (domL [(x0, y0), (x1, y1), (x2, y2)] 0)) ∧ Fr n0 L ∧ h = h0)) (w := (0 : Int32)) X0 hx hby d1_41 hret (by simp) (by first | decide | rfl) hlk (by decide) (by decide) ⟨congrArg (fun z : Int32 => some (Value.int z)) (by simp only [domL]; rw [if_neg hc17_1, if_neg hc29_2, if_neg hc17_3, if_neg hc29_4, if_neg hc17_5, if_neg hc29_6]), N0, e0⟩
            · refine g_iconst X0 hx hby d1_32 (pc' := 33) rfl (z := (1 : Int32)) rfl ?_
              refine g_istoreN X0 hx hby d1_33 (pc' := 34) rfl (l' := #[.val (.ref q1), .val (.ref q2), .val (.int (1 : Int32)), .val (.int (2 : Int32))]) rfl ?_
              refine g_iinc X0 hx hby d1_34 (pc' := 37) rfl rfl (l' := #[.val (.ref q1), .val (.ref q2), .val (.int (1 : Int32)), .val (.int (3 : Int32))]) rfl ?_
              refine g_goto X0 hx hby d1_37 (by decide) (pc' := 4) (by decide) ?_
              refine g_iloadN X0 hx hby d1_4 (pc' := 5) rfl rfl ?_
              refine g_aloadN X0 hx hby d1_5 (pc' := 6) rfl rfl rfl ?_
              refine g_alen X0 hx hZ hby d1_6 (pc' := 7) rfl e0 Aa ?_
              refine g_icmp_ge X0 hx hby d1_7 (by decide) (pc' := 40) (by decide) (pn := 10) rfl (fun _ => ?_) (fun z => absurd z (by decide))
              refine g_iloadN X0 hx hby d1_40 (pc' := 41) rfl rfl ?_
              exact g_retN (Q := (fun v h L => v = some (.int (domL [(x0, y0), (x1, y1), (x2, y2)] 0)) ∧ Fr n0 L ∧ h = h0)) (w := (1 : Int32)) X0 hx hby d1_41 hret (by simp) (by first | decide | rfl) hlk (by decide) (by decide) ⟨congrArg (fun z : Int32 => some (Value.int z)) (by simp only [domL]; rw [if_neg hc17_1, if_neg hc29_2, if_neg hc17_3, if_neg hc29_4, if_neg hc17_5, if_pos hc29_6]), N0, e0⟩
          · refine g_iconst X0 hx hby d1_20 (pc' := 21) rfl (z := (0 : Int32)) rfl ?_
            exact g_retN (Q := (fun v h L => v = some (.int (domL [(x0, y0), (x1, y1), (x2, y2)] 0)) ∧ Fr n0 L ∧ h = h0)) (w := (0 : Int32)) X0 hx hby d1_21 hret (by simp) (by first | decide | rfl) hlk (by decide) (by decide) ⟨congrArg (fun z : Int32 => some (Value.int z)) (by simp only [domL]; rw [if_neg hc17_1, if_neg hc29_2, if_neg hc17_3, if_neg hc29_4, if_pos hc17_5]), N0, e0⟩
        · refine g_iconst X0 hx hby d1_32 (pc' := 33) rfl (z := (1 : Int32)) rfl ?_
          refine g_istoreN X0 hx hby d1_33 (pc' := 34) rfl (l' := #[.val (.ref q1), .val (.ref q2), .val (.int (1 : Int32)), .val (.int (1 : Int32))]) rfl ?_
          refine g_iinc X0 hx hby d1_34 (pc' := 37) rfl rfl (l' := #[.val (.ref q1), .val (.ref q2), .val (.int (1 : Int32)), .val (.int (2 : Int32))]) rfl ?_
          refine g_goto X0 hx hby d1_37 (by decide) (pc' := 4) (by decide) ?_
          refine g_iloadN X0 hx hby d1_4 (pc' := 5) rfl rfl ?_
          refine g_aloadN X0 hx hby d1_5 (pc' := 6) rfl rfl rfl ?_
          refine g_alen X0 hx hZ hby d1_6 (pc' := 7) rfl e0 Aa ?_
          refine g_icmp_ge X0 hx hby d1_7 (by decide) (pc' := 40) (by decide) (pn := 10) rfl (fun z => absurd z (by decide)) (fun _ => ?_)
          refine g_aloadN X0 hx hby d1_10 (pc' := 11) rfl rfl rfl ?_
          refine g_iloadN X0 hx hby d1_11 (pc' := 12) rfl rfl ?_
          refine g_daload X0 hx hZ hby d1_12 (pc' := 13) rfl e0 Aa (by decide) (v := .double (FP.l2d x2)) rfl ?_
          refine g_aloadN X0 hx hby d1_13 (pc' := 14) rfl rfl rfl ?_
          refine g_iloadN X0 hx hby d1_14 (pc' := 15) rfl rfl ?_
          refine g_daload X0 hx hZ hby d1_15 (pc' := 16) rfl e0 Ab (by decide) (v := .double (FP.l2d y2)) rfl ?_
          refine g_dcmp X0 hx hby d1_16 (pc' := 17) rfl (v := cmpL x2 y2) (dcmpV_w hx2 hy2 _) ?_
          refine g_ifL_le X0 hx hby d1_17 (by decide) (pc' := 22) (by decide) (pn := 20) rfl (fun hc17_7 => ?_) (fun hc17_7 => ?_)
          · refine g_aloadN X0 hx hby d1_22 (pc' := 23) rfl rfl rfl ?_
            refine g_iloadN X0 hx hby d1_23 (pc' := 24) rfl rfl ?_
            refine g_daload X0 hx hZ hby d1_24 (pc' := 25) rfl e0 Aa (by decide) (v := .double (FP.l2d x2)) rfl ?_
            refine g_aloadN X0 hx hby d1_25 (pc' := 26) rfl rfl rfl ?_
            refine g_iloadN X0 hx hby d1_26 (pc' := 27) rfl rfl ?_
            refine g_daload X0 hx hZ hby d1_27 (pc' := 28) rfl e0 Ab (by decide) (v := .double (FP.l2d y2)) rfl ?_
            refine g_dcmp X0 hx hby d1_28 (pc' := 29) rfl (v := cmpL x2 y2) (dcmpV_w hx2 hy2 _) ?_
            refine g_ifL_ge X0 hx hby d1_29 (by decide) (pc' := 34) (by decide) (pn := 32) rfl (fun hc29_8 => ?_) (fun hc29_8 => ?_)
            · refine g_iinc X0 hx hby d1_34 (pc' := 37) rfl rfl (l' := #[.val (.ref q1), .val (.ref q2), .val (.int (1 : Int32)), .val (.int (3 : Int32))]) rfl ?_
              refine g_goto X0 hx hby d1_37 (by decide) (pc' := 4) (by decide) ?_
              refine g_iloadN X0 hx hby d1_4 (pc' := 5) rfl rfl ?_
              refine g_aloadN X0 hx hby d1_5 (pc' := 6) rfl rfl rfl ?_
              refine g_alen X0 hx hZ hby d1_6 (pc' := 7) rfl e0 Aa ?_
              refine g_icmp_ge X0 hx hby d1_7 (by decide) (pc' := 40) (by decide) (pn := 10) rfl (fun _ => ?_) (fun z => absurd z (by decide))
              refine g_iloadN X0 hx hby d1_40 (pc' := 41) rfl rfl ?_
              exact g_retN (Q := (fun v h L => v = some (.int (domL [(x0, y0), (x1, y1), (x2, y2)] 0)) ∧ Fr n0 L ∧ h = h0)) (w := (1 : Int32)) X0 hx hby d1_41 hret (by simp) (by first | decide | rfl) hlk (by decide) (by decide) ⟨congrArg (fun z : Int32 => some (Value.int z)) (by simp only [domL]; rw [if_neg hc17_1, if_neg hc29_2, if_neg hc17_3, if_pos hc29_4, if_neg hc17_7, if_neg hc29_8]), N0, e0⟩
            · refine g_iconst X0 hx hby d1_32 (pc' := 33) rfl (z := (1 : Int32)) rfl ?_
              refine g_istoreN X0 hx hby d1_33 (pc' := 34) rfl (l' := #[.val (.ref q1), .val (.ref q2), .val (.int (1 : Int32)), .val (.int (2 : Int32))]) rfl ?_
              refine g_iinc X0 hx hby d1_34 (pc' := 37) rfl rfl (l' := #[.val (.ref q1), .val (.ref q2), .val (.int (1 : Int32)), .val (.int (3 : Int32))]) rfl ?_
              refine g_goto X0 hx hby d1_37 (by decide) (pc' := 4) (by decide) ?_
              refine g_iloadN X0 hx hby d1_4 (pc' := 5) rfl rfl ?_
              refine g_aloadN X0 hx hby d1_5 (pc' := 6) rfl rfl rfl ?_
              refine g_alen X0 hx hZ hby d1_6 (pc' := 7) rfl e0 Aa ?_
              refine g_icmp_ge X0 hx hby d1_7 (by decide) (pc' := 40) (by decide) (pn := 10) rfl (fun _ => ?_) (fun z => absurd z (by decide))
              refine g_iloadN X0 hx hby d1_40 (pc' := 41) rfl rfl ?_
              exact g_retN (Q := (fun v h L => v = some (.int (domL [(x0, y0), (x1, y1), (x2, y2)] 0)) ∧ Fr n0 L ∧ h = h0)) (w := (1 : Int32)) X0 hx hby d1_41 hret (by simp) (by first | decide | rfl) hlk (by decide) (by decide) ⟨congrArg (fun z : Int32 => some (Value.int z)) (by simp only [domL]; rw [if_neg hc17_1, if_neg hc29_2, if_neg hc17_3, if_pos hc29_4, if_neg hc17_7, if_pos hc29_8]), N0, e0⟩
          · refine g_iconst X0 hx hby d1_20 (pc' := 21) rfl (z := (0 : Int32)) rfl ?_
            exact g_retN (Q := (fun v h L => v = some (.int (domL [(x0, y0), (x1, y1), (x2, y2)] 0)) ∧ Fr n0 L ∧ h = h0)) (w := (0 : Int32)) X0 hx hby d1_21 hret (by simp) (by first | decide | rfl) hlk (by decide) (by decide) ⟨congrArg (fun z : Int32 => some (Value.int z)) (by simp only [domL]; rw [if_neg hc17_1, if_neg hc29_2, if_neg hc17_3, if_pos hc29_4, if_pos hc17_7]), N0, e0⟩
      · refine g_iconst X0 hx hby d1_20 (pc' := 21) rfl (z := (0 : Int32)) rfl ?_
        exact g_retN (Q := (fun v h L => v = some (.int (domL [(x0, y0), (x1, y1), (x2, y2)] 0)) ∧ Fr n0 L ∧ h = h0)) (w := (0 : Int32)) X0 hx hby d1_21 hret (by simp) (by first | decide | rfl) hlk (by decide) (by decide) ⟨congrArg (fun z : Int32 => some (Value.int z)) (by simp only [domL]; rw [if_neg hc17_1, if_neg hc29_2, if_pos hc17_3]), N0, e0⟩
    · refine g_iconst X0 hx hby d1_32 (pc' := 33) rfl (z := (1 : Int32)) rfl ?_
      refine g_istoreN X0 hx hby d1_33 (pc' := 34) rfl (l' := #[.val (.ref q1), .val (.ref q2), .val (.int (1 : Int32)), .val (.int (0 : Int32))]) rfl ?_
      refine g_iinc X0 hx hby d1_34 (pc' := 37) rfl rfl (l' := #[.val (.ref q1), .val (.ref q2), .val (.int (1 : Int32)), .val (.int (1 : Int32))]) rfl ?_
      refine g_goto X0 hx hby d1_37 (by decide) (pc' := 4) (by decide) ?_
      refine g_iloadN X0 hx hby d1_4 (pc' := 5) rfl rfl ?_
      refine g_aloadN X0 hx hby d1_5 (pc' := 6) rfl rfl rfl ?_
      refine g_alen X0 hx hZ hby d1_6 (pc' := 7) rfl e0 Aa ?_
      refine g_icmp_ge X0 hx hby d1_7 (by decide) (pc' := 40) (by decide) (pn := 10) rfl (fun z => absurd z (by decide)) (fun _ => ?_)
      refine g_aloadN X0 hx hby d1_10 (pc' := 11) rfl rfl rfl ?_
      refine g_iloadN X0 hx hby d1_11 (pc' := 12) rfl rfl ?_
      refine g_daload X0 hx hZ hby d1_12 (pc' := 13) rfl e0 Aa (by decide) (v := .double (FP.l2d x1)) rfl ?_
      refine g_aloadN X0 hx hby d1_13 (pc' := 14) rfl rfl rfl ?_
      refine g_iloadN X0 hx hby d1_14 (pc' := 15) rfl rfl ?_
      refine g_daload X0 hx hZ hby d1_15 (pc' := 16) rfl e0 Ab (by decide) (v := .double (FP.l2d y1)) rfl ?_
      refine g_dcmp X0 hx hby d1_16 (pc' := 17) rfl (v := cmpL x1 y1) (dcmpV_w hx1 hy1 _) ?_
      refine g_ifL_le X0 hx hby d1_17 (by decide) (pc' := 22) (by decide) (pn := 20) rfl (fun hc17_9 => ?_) (fun hc17_9 => ?_)
      · refine g_aloadN X0 hx hby d1_22 (pc' := 23) rfl rfl rfl ?_
        refine g_iloadN X0 hx hby d1_23 (pc' := 24) rfl rfl ?_
        refine g_daload X0 hx hZ hby d1_24 (pc' := 25) rfl e0 Aa (by decide) (v := .double (FP.l2d x1)) rfl ?_
        refine g_aloadN X0 hx hby d1_25 (pc' := 26) rfl rfl rfl ?_
        refine g_iloadN X0 hx hby d1_26 (pc' := 27) rfl rfl ?_
        refine g_daload X0 hx hZ hby d1_27 (pc' := 28) rfl e0 Ab (by decide) (v := .double (FP.l2d y1)) rfl ?_
        refine g_dcmp X0 hx hby d1_28 (pc' := 29) rfl (v := cmpL x1 y1) (dcmpV_w hx1 hy1 _) ?_
        refine g_ifL_ge X0 hx hby d1_29 (by decide) (pc' := 34) (by decide) (pn := 32) rfl (fun hc29_10 => ?_) (fun hc29_10 => ?_)
        · refine g_iinc X0 hx hby d1_34 (pc' := 37) rfl rfl (l' := #[.val (.ref q1), .val (.ref q2), .val (.int (1 : Int32)), .val (.int (2 : Int32))]) rfl ?_
          refine g_goto X0 hx hby d1_37 (by decide) (pc' := 4) (by decide) ?_
          refine g_iloadN X0 hx hby d1_4 (pc' := 5) rfl rfl ?_
          refine g_aloadN X0 hx hby d1_5 (pc' := 6) rfl rfl rfl ?_
          refine g_alen X0 hx hZ hby d1_6 (pc' := 7) rfl e0 Aa ?_
          refine g_icmp_ge X0 hx hby d1_7 (by decide) (pc' := 40) (by decide) (pn := 10) rfl (fun z => absurd z (by decide)) (fun _ => ?_)
          refine g_aloadN X0 hx hby d1_10 (pc' := 11) rfl rfl rfl ?_
          refine g_iloadN X0 hx hby d1_11 (pc' := 12) rfl rfl ?_
          refine g_daload X0 hx hZ hby d1_12 (pc' := 13) rfl e0 Aa (by decide) (v := .double (FP.l2d x2)) rfl ?_
          refine g_aloadN X0 hx hby d1_13 (pc' := 14) rfl rfl rfl ?_
          refine g_iloadN X0 hx hby d1_14 (pc' := 15) rfl rfl ?_
          refine g_daload X0 hx hZ hby d1_15 (pc' := 16) rfl e0 Ab (by decide) (v := .double (FP.l2d y2)) rfl ?_
          refine g_dcmp X0 hx hby d1_16 (pc' := 17) rfl (v := cmpL x2 y2) (dcmpV_w hx2 hy2 _) ?_
          refine g_ifL_le X0 hx hby d1_17 (by decide) (pc' := 22) (by decide) (pn := 20) rfl (fun hc17_11 => ?_) (fun hc17_11 => ?_)
          · refine g_aloadN X0 hx hby d1_22 (pc' := 23) rfl rfl rfl ?_
            refine g_iloadN X0 hx hby d1_23 (pc' := 24) rfl rfl ?_
            refine g_daload X0 hx hZ hby d1_24 (pc' := 25) rfl e0 Aa (by decide) (v := .double (FP.l2d x2)) rfl ?_
            refine g_aloadN X0 hx hby d1_25 (pc' := 26) rfl rfl rfl ?_
            refine g_iloadN X0 hx hby d1_26 (pc' := 27) rfl rfl ?_
            refine g_daload X0 hx hZ hby d1_27 (pc' := 28) rfl e0 Ab (by decide) (v := .double (FP.l2d y2)) rfl ?_
            refine g_dcmp X0 hx hby d1_28 (pc' := 29) rfl (v := cmpL x2 y2) (dcmpV_w hx2 hy2 _) ?_
            refine g_ifL_ge X0 hx hby d1_29 (by decide) (pc' := 34) (by decide) (pn := 32) rfl (fun hc29_12 => ?_) (fun hc29_12 => ?_)
            · refine g_iinc X0 hx hby d1_34 (pc' := 37) rfl rfl (l' := #[.val (.ref q1), .val (.ref q2), .val (.int (1 : Int32)), .val (.int (3 : Int32))]) rfl ?_
              refine g_goto X0 hx hby d1_37 (by decide) (pc' := 4) (by decide) ?_
              refine g_iloadN X0 hx hby d1_4 (pc' := 5) rfl rfl ?_
              refine g_aloadN X0 hx hby d1_5 (pc' := 6) rfl rfl rfl ?_
              refine g_alen X0 hx hZ hby d1_6 (pc' := 7) rfl e0 Aa ?_
              refine g_icmp_ge X0 hx hby d1_7 (by decide) (pc' := 40) (by decide) (pn := 10) rfl (fun _ => ?_) (fun z => absurd z (by decide))
              refine g_iloadN X0 hx hby d1_40 (pc' := 41) rfl rfl ?_
              exact g_retN (Q := (fun v h L => v = some (.int (domL [(x0, y0), (x1, y1), (x2, y2)] 0)) ∧ Fr n0 L ∧ h = h0)) (w := (1 : Int32)) X0 hx hby d1_41 hret (by simp) (by first | decide | rfl) hlk (by decide) (by decide) ⟨congrArg (fun z : Int32 => some (Value.int z)) (by simp only [domL]; rw [if_neg hc17_1, if_pos hc29_2, if_neg hc17_9, if_neg hc29_10, if_neg hc17_11, if_neg hc29_12]), N0, e0⟩
            · refine g_iconst X0 hx hby d1_32 (pc' := 33) rfl (z := (1 : Int32)) rfl ?_
              refine g_istoreN X0 hx hby d1_33 (pc' := 34) rfl (l' := #[.val (.ref q1), .val (.ref q2), .val (.int (1 : Int32)), .val (.int (2 : Int32))]) rfl ?_
              refine g_iinc X0 hx hby d1_34 (pc' := 37) rfl rfl (l' := #[.val (.ref q1), .val (.ref q2), .val (.int (1 : Int32)), .val (.int (3 : Int32))]) rfl ?_
              refine g_goto X0 hx hby d1_37 (by decide) (pc' := 4) (by decide) ?_
              refine g_iloadN X0 hx hby d1_4 (pc' := 5) rfl rfl ?_
              refine g_aloadN X0 hx hby d1_5 (pc' := 6) rfl rfl rfl ?_
              refine g_alen X0 hx hZ hby d1_6 (pc' := 7) rfl e0 Aa ?_
              refine g_icmp_ge X0 hx hby d1_7 (by decide) (pc' := 40) (by decide) (pn := 10) rfl (fun _ => ?_) (fun z => absurd z (by decide))
              refine g_iloadN X0 hx hby d1_40 (pc' := 41) rfl rfl ?_
              exact g_retN (Q := (fun v h L => v = some (.int (domL [(x0, y0), (x1, y1), (x2, y2)] 0)) ∧ Fr n0 L ∧ h = h0)) (w := (1 : Int32)) X0 hx hby d1_41 hret (by simp) (by first | decide | rfl) hlk (by decide) (by decide) ⟨congrArg (fun z : Int32 => some (Value.int z)) (by simp only [domL]; rw [if_neg hc17_1, if_pos hc29_2, if_neg hc17_9, if_neg hc29_10, if_neg hc17_11, if_pos hc29_12]), N0, e0⟩
          · refine g_iconst X0 hx hby d1_20 (pc' := 21) rfl (z := (0 : Int32)) rfl ?_
            exact g_retN (Q := (fun v h L => v = some (.int (domL [(x0, y0), (x1, y1), (x2, y2)] 0)) ∧ Fr n0 L ∧ h = h0)) (w := (0 : Int32)) X0 hx hby d1_21 hret (by simp) (by first | decide | rfl) hlk (by decide) (by decide) ⟨congrArg (fun z : Int32 => some (Value.int z)) (by simp only [domL]; rw [if_neg hc17_1, if_pos hc29_2, if_neg hc17_9, if_neg hc29_10, if_pos hc17_11]), N0, e0⟩
        · refine g_iconst X0 hx hby d1_32 (pc' := 33) rfl (z := (1 : Int32)) rfl ?_
          refine g_istoreN X0 hx hby d1_33 (pc' := 34) rfl (l' := #[.val (.ref q1), .val (.ref q2), .val (.int (1 : Int32)), .val (.int (1 : Int32))]) rfl ?_
          refine g_iinc X0 hx hby d1_34 (pc' := 37) rfl rfl (l' := #[.val (.ref q1), .val (.ref q2), .val (.int (1 : Int32)), .val (.int (2 : Int32))]) rfl ?_
          refine g_goto X0 hx hby d1_37 (by decide) (pc' := 4) (by decide) ?_
          refine g_iloadN X0 hx hby d1_4 (pc' := 5) rfl rfl ?_
          refine g_aloadN X0 hx hby d1_5 (pc' := 6) rfl rfl rfl ?_
          refine g_alen X0 hx hZ hby d1_6 (pc' := 7) rfl e0 Aa ?_
          refine g_icmp_ge X0 hx hby d1_7 (by decide) (pc' := 40) (by decide) (pn := 10) rfl (fun z => absurd z (by decide)) (fun _ => ?_)
          refine g_aloadN X0 hx hby d1_10 (pc' := 11) rfl rfl rfl ?_
          refine g_iloadN X0 hx hby d1_11 (pc' := 12) rfl rfl ?_
          refine g_daload X0 hx hZ hby d1_12 (pc' := 13) rfl e0 Aa (by decide) (v := .double (FP.l2d x2)) rfl ?_
          refine g_aloadN X0 hx hby d1_13 (pc' := 14) rfl rfl rfl ?_
          refine g_iloadN X0 hx hby d1_14 (pc' := 15) rfl rfl ?_
          refine g_daload X0 hx hZ hby d1_15 (pc' := 16) rfl e0 Ab (by decide) (v := .double (FP.l2d y2)) rfl ?_
          refine g_dcmp X0 hx hby d1_16 (pc' := 17) rfl (v := cmpL x2 y2) (dcmpV_w hx2 hy2 _) ?_
          refine g_ifL_le X0 hx hby d1_17 (by decide) (pc' := 22) (by decide) (pn := 20) rfl (fun hc17_13 => ?_) (fun hc17_13 => ?_)
          · refine g_aloadN X0 hx hby d1_22 (pc' := 23) rfl rfl rfl ?_
            refine g_iloadN X0 hx hby d1_23 (pc' := 24) rfl rfl ?_
            refine g_daload X0 hx hZ hby d1_24 (pc' := 25) rfl e0 Aa (by decide) (v := .double (FP.l2d x2)) rfl ?_
            refine g_aloadN X0 hx hby d1_25 (pc' := 26) rfl rfl rfl ?_
            refine g_iloadN X0 hx hby d1_26 (pc' := 27) rfl rfl ?_
            refine g_daload X0 hx hZ hby d1_27 (pc' := 28) rfl e0 Ab (by decide) (v := .double (FP.l2d y2)) rfl ?_
            refine g_dcmp X0 hx hby d1_28 (pc' := 29) rfl (v := cmpL x2 y2) (dcmpV_w hx2 hy2 _) ?_
            refine g_ifL_ge X0 hx hby d1_29 (by decide) (pc' := 34) (by decide) (pn := 32) rfl (fun hc29_14 => ?_) (fun hc29_14 => ?_)
            · refine g_iinc X0 hx hby d1_34 (pc' := 37) rfl rfl (l' := #[.val (.ref q1), .val (.ref q2), .val (.int (1 : Int32)), .val (.int (3 : Int32))]) rfl ?_
              refine g_goto X0 hx hby d1_37 (by decide) (pc' := 4) (by decide) ?_
              refine g_iloadN X0 hx hby d1_4 (pc' := 5) rfl rfl ?_
              refine g_aloadN X0 hx hby d1_5 (pc' := 6) rfl rfl rfl ?_
              refine g_alen X0 hx hZ hby d1_6 (pc' := 7) rfl e0 Aa ?_
              refine g_icmp_ge X0 hx hby d1_7 (by decide) (pc' := 40) (by decide) (pn := 10) rfl (fun _ => ?_) (fun z => absurd z (by decide))
              refine g_iloadN X0 hx hby d1_40 (pc' := 41) rfl rfl ?_
              exact g_retN (Q := (fun v h L => v = some (.int (domL [(x0, y0), (x1, y1), (x2, y2)] 0)) ∧ Fr n0 L ∧ h = h0)) (w := (1 : Int32)) X0 hx hby d1_41 hret (by simp) (by first | decide | rfl) hlk (by decide) (by decide) ⟨congrArg (fun z : Int32 => some (Value.int z)) (by simp only [domL]; rw [if_neg hc17_1, if_pos hc29_2, if_neg hc17_9, if_pos hc29_10, if_neg hc17_13, if_neg hc29_14]), N0, e0⟩
            · refine g_iconst X0 hx hby d1_32 (pc' := 33) rfl (z := (1 : Int32)) rfl ?_
              refine g_istoreN X0 hx hby d1_33 (pc' := 34) rfl (l' := #[.val (.ref q1), .val (.ref q2), .val (.int (1 : Int32)), .val (.int (2 : Int32))]) rfl ?_
              refine g_iinc X0 hx hby d1_34 (pc' := 37) rfl rfl (l' := #[.val (.ref q1), .val (.ref q2), .val (.int (1 : Int32)), .val (.int (3 : Int32))]) rfl ?_
              refine g_goto X0 hx hby d1_37 (by decide) (pc' := 4) (by decide) ?_
              refine g_iloadN X0 hx hby d1_4 (pc' := 5) rfl rfl ?_
              refine g_aloadN X0 hx hby d1_5 (pc' := 6) rfl rfl rfl ?_
              refine g_alen X0 hx hZ hby d1_6 (pc' := 7) rfl e0 Aa ?_
              refine g_icmp_ge X0 hx hby d1_7 (by decide) (pc' := 40) (by decide) (pn := 10) rfl (fun _ => ?_) (fun z => absurd z (by decide))
              refine g_iloadN X0 hx hby d1_40 (pc' := 41) rfl rfl ?_
              exact g_retN (Q := (fun v h L => v = some (.int (domL [(x0, y0), (x1, y1), (x2, y2)] 0)) ∧ Fr n0 L ∧ h = h0)) (w := (1 : Int32)) X0 hx hby d1_41 hret (by simp) (by first | decide | rfl) hlk (by decide) (by decide) ⟨congrArg (fun z : Int32 => some (Value.int z)) (by simp only [domL]; rw [if_neg hc17_1, if_pos hc29_2, if_neg hc17_9, if_pos hc29_10, if_neg hc17_13, if_pos hc29_14]), N0, e0⟩
          · refine g_iconst X0 hx hby d1_20 (pc' := 21) rfl (z := (0 : Int32)) rfl ?_
            exact g_retN (Q := (fun v h L => v = some (.int (domL [(x0, y0), (x1, y1), (x2, y2)] 0)) ∧ Fr n0 L ∧ h = h0)) (w := (0 : Int32)) X0 hx hby d1_21 hret (by simp) (by first | decide | rfl) hlk (by decide) (by decide) ⟨congrArg (fun z : Int32 => some (Value.int z)) (by simp only [domL]; rw [if_neg hc17_1, if_pos hc29_2, if_neg hc17_9, if_pos hc29_10, if_pos hc17_13]), N0, e0⟩
      · refine g_iconst X0 hx hby d1_20 (pc' := 21) rfl (z := (0 : Int32)) rfl ?_
        exact g_retN (Q := (fun v h L => v = some (.int (domL [(x0, y0), (x1, y1), (x2, y2)] 0)) ∧ Fr n0 L ∧ h = h0)) (w := (0 : Int32)) X0 hx hby d1_21 hret (by simp) (by first | decide | rfl) hlk (by decide) (by decide) ⟨congrArg (fun z : Int32 => some (Value.int z)) (by simp only [domL]; rw [if_neg hc17_1, if_pos hc29_2, if_pos hc17_9]), N0, e0⟩
  · refine g_iconst X0 hx hby d1_20 (pc' := 21) rfl (z := (0 : Int32)) rfl ?_
    exact g_retN (Q := (fun v h L => v = some (.int (domL [(x0, y0), (x1, y1), (x2, y2)] 0)) ∧ Fr n0 L ∧ h = h0)) (w := (0 : Int32)) X0 hx hby d1_21 hret (by simp) (by first | decide | rfl) hlk (by decide) (by decide) ⟨congrArg (fun z : Int32 => some (Value.int z)) (by simp only [domL]; rw [if_pos hc17_1]), N0, e0⟩
theorem ef_rm0 (q1 : Int32) (q2 : Int32) (q3 : Int32) (q4 : Int32) (m : MethodId) : entryFrame m #[.int q1, .int q2, .int q3, .int q4] maxLocals = mkF m 0 #[.val (.int q1), .val (.int q2), .val (.int q3), .val (.int q4), .unset, .unset, .unset, .unset, .unset, .unset, .unset, .unset, .unset] [] := by
  first | (simp [entryFrame, mkF, argsToLocals, Value.category, maxLocals]; done) | rfl
theorem pn_rm0 : plainName "com/example/nittei/nittei/ParetoDominatesPinLaw" = true := by first | (simp [plainName, overriddenIn]; done) | decide +kernel
set_option maxRecDepth 65536 in
set_option maxHeartbeats 40000000 in
theorem rm0 (l : Launch) (Z : State) (a0 : Array Value) (hw : ∀ d ∈ tables_1, d.before a0 Z = true) (ws : List Jvm.Cond) (q1 : Int32) (q2 : Int32) (q3 : Int32) (q4 : Int32) (h0 : Heap) (n0 : Nat) (Z0 : n0 ≤ h0.size) :
    Ctr l Z x code maxLocals ret ws room_1 #[.int q1, .int q2, .int q3, .int q4] h0 (fun v h L => v = some (.int 1) ∧ Fr n0 L) := by
  refine Ctr.enter (Ls := #[.val (.int q1), .val (.int q2), .val (.int q3), .val (.int q4), .unset, .unset, .unset, .unset, .unset, .unset, .unset, .unset, .unset]) (plainFor_of_name pn_rm0) (fun m => ef_rm0 q1 q2 q3 q4 m) ?_
  intro p e s m below meth c T hx hby hml hown hnm hret hlk hZ hh X0 e0
  have N0 := Fr.nil n0
  refine g_iloadN X0 hx hby at_0 (pc' := 1) rfl rfl ?_
  refine g_iconst X0 hx hby at_1 (pc' := 2) rfl (z := (3 : Int32)) rfl ?_
  refine g_iand X0 hx hby at_2 (pc' := 3) rfl ?_
  rcases own_k3 q1 with hk1 | hk1 | hk1 | hk1
  · rw [hk1]
    refine g_istore X0 hx hby at_3 (pc' := 5) rfl (l' := #[.val (.int q1), .val (.int q2), .val (.int q3), .val (.int q4), .val (.int (0 : Int32)), .unset, .unset, .unset, .unset, .unset, .unset, .unset, .unset]) rfl ?_
    refine g_iloadN X0 hx hby at_5 (pc' := 6) rfl rfl ?_
    refine g_iconst X0 hx hby at_6 (pc' := 7) rfl (z := (2 : Int32)) rfl ?_
    refine g_iushr X0 hx hby at_7 (pc' := 8) rfl ?_
    refine g_iconst X0 hx hby at_8 (pc' := 9) rfl (z := (3 : Int32)) rfl ?_
    refine g_iand X0 hx hby at_9 (pc' := 10) rfl ?_
    refine g_iconst X0 hx hby at_10 (pc' := 11) rfl (z := (1 : Int32)) rfl ?_
    refine g_isub X0 hx hby at_11 (pc' := 12) rfl ?_
    refine g_istore X0 hx hby at_12 (pc' := 14) rfl (l' := #[.val (.int q1), .val (.int q2), .val (.int q3), .val (.int q4), .val (.int (0 : Int32)), .val (.int (dd q1 (2 : Int32))), .unset, .unset, .unset, .unset, .unset, .unset, .unset]) rfl ?_
    refine g_iloadN X0 hx hby at_14 (pc' := 15) rfl rfl ?_
    refine g_iconst X0 hx hby at_15 (pc' := 16) rfl (z := (4 : Int32)) rfl ?_
    refine g_iushr X0 hx hby at_16 (pc' := 17) rfl ?_
    refine g_iconst X0 hx hby at_17 (pc' := 18) rfl (z := (3 : Int32)) rfl ?_
    refine g_iand X0 hx hby at_18 (pc' := 19) rfl ?_
    refine g_iconst X0 hx hby at_19 (pc' := 20) rfl (z := (1 : Int32)) rfl ?_
    refine g_isub X0 hx hby at_20 (pc' := 21) rfl ?_
    refine g_istore X0 hx hby at_21 (pc' := 23) rfl (l' := #[.val (.int q1), .val (.int q2), .val (.int q3), .val (.int q4), .val (.int (0 : Int32)), .val (.int (dd q1 (2 : Int32))), .val (.int (dd q1 (4 : Int32))), .unset, .unset, .unset, .unset, .unset, .unset]) rfl ?_
    refine g_iloadN X0 hx hby at_23 (pc' := 24) rfl rfl ?_
    refine g_bipush X0 hx hby at_24 (pc' := 26) rfl (z := (6 : Int32)) rfl ?_
    refine g_iushr X0 hx hby at_26 (pc' := 27) rfl ?_
    refine g_iconst X0 hx hby at_27 (pc' := 28) rfl (z := (3 : Int32)) rfl ?_
    refine g_iand X0 hx hby at_28 (pc' := 29) rfl ?_
    refine g_iconst X0 hx hby at_29 (pc' := 30) rfl (z := (1 : Int32)) rfl ?_
    refine g_isub X0 hx hby at_30 (pc' := 31) rfl ?_
    refine g_istore X0 hx hby at_31 (pc' := 33) rfl (l' := #[.val (.int q1), .val (.int q2), .val (.int q3), .val (.int q4), .val (.int (0 : Int32)), .val (.int (dd q1 (2 : Int32))), .val (.int (dd q1 (4 : Int32))), .val (.int (dd q1 (6 : Int32))), .unset, .unset, .unset, .unset, .unset]) rfl ?_
    refine g_iload X0 hx hby at_33 (pc' := 35) rfl rfl ?_
    refine g_newarray X0 hx hZ 0  "[D" hby at_35 (pc' := 37) rfl (w_0 hw) e0 (by decide) (by decide) (by decide) (by decide) (by decide) rfl ?_
    intro T2 b2 c2 hb2 X2 E2 A2v A2x
    have Z2 := Nat.le_trans Z0 E2.1
    have A2 : Arv Z T2.heap b2 c2 .double (0 : Int32) [] (.double 0) := A2v
    refine g_astore X2 hx hby at_37 (pc' := 39) rfl rfl (l' := #[.val (.int q1), .val (.int q2), .val (.int q3), .val (.int q4), .val (.int (0 : Int32)), .val (.int (dd q1 (2 : Int32))), .val (.int (dd q1 (4 : Int32))), .val (.int (dd q1 (6 : Int32))), .val (.ref b2), .unset, .unset, .unset, .unset]) rfl ?_
    refine g_iload X2 hx hby at_39 (pc' := 41) rfl rfl ?_
    refine g_newarray X2 hx hZ 0  "[D" hby at_41 (pc' := 43) rfl (w_0 hw) rfl (by decide) (by decide) (by decide) (by decide) (by decide) rfl ?_
    intro T3 b3 c3 hb3 X3 E3 A3v A3x
    have Z3 := Nat.le_trans Z2 E3.1
    have A3_b2 := A2.ext E3
    have ne3_b2 : b2 ≠ b3 := hb3 ▸ Nat.ne_of_lt A2.lt
    have E3_b2 := A2x.ext E3
    have A3 : Arv Z T3.heap b3 c3 .double (0 : Int32) [] (.double 0) := A3v
    refine g_astore X3 hx hby at_43 (pc' := 45) rfl rfl (l' := #[.val (.int q1), .val (.int q2), .val (.int q3), .val (.int q4), .val (.int (0 : Int32)), .val (.int (dd q1 (2 : Int32))), .val (.int (dd q1 (4 : Int32))), .val (.int (dd q1 (6 : Int32))), .val (.ref b2), .val (.ref b3), .unset, .unset, .unset]) rfl ?_
    refine g_iload X3 hx hby at_45 (pc' := 47) rfl rfl ?_
    refine g_if_le X3 hx hby at_47 (by decide) (pc' := 67) (by decide) (pn := 50) rfl (fun _ => ?_) (fun z => absurd z (by decide))
    refine g_iload X3 hx hby at_67 (pc' := 69) rfl rfl ?_
    refine g_iconst X3 hx hby at_69 (pc' := 70) rfl (z := (1 : Int32)) rfl ?_
    refine g_icmp_le X3 hx hby at_70 (by decide) (pc' := 90) (by decide) (pn := 73) rfl (fun _ => ?_) (fun z => absurd z (by decide))
    refine g_iload X3 hx hby at_90 (pc' := 92) rfl rfl ?_
    refine g_iconst X3 hx hby at_92 (pc' := 93) rfl (z := (2 : Int32)) rfl ?_
    refine g_icmp_le X3 hx hby at_93 (by decide) (pc' := 113) (by decide) (pn := 96) rfl (fun _ => ?_) (fun z => absurd z (by decide))
    refine g_iload X3 hx hby at_113 (pc' := 115) rfl rfl ?_
    refine g_if_le X3 hx hby at_115 (by decide) (pc' := 123) (by decide) (pn := 118) rfl (fun _ => ?_) (fun z => absurd z (by decide))
    refine g_iload X3 hx hby at_123 (pc' := 125) rfl rfl ?_
    refine g_iconst X3 hx hby at_125 (pc' := 126) rfl (z := (1 : Int32)) rfl ?_
    refine g_icmp_le X3 hx hby at_126 (by decide) (pc' := 134) (by decide) (pn := 129) rfl (fun _ => ?_) (fun z => absurd z (by decide))
    refine g_iload X3 hx hby at_134 (pc' := 136) rfl rfl ?_
    refine g_iconst X3 hx hby at_136 (pc' := 137) rfl (z := (2 : Int32)) rfl ?_
    refine g_icmp_le X3 hx hby at_137 (by decide) (pc' := 149) (by decide) (pn := 140) rfl (fun _ => ?_) (fun z => absurd z (by decide))
    refine g_iconst X3 hx hby at_149 (pc' := 150) rfl (z := (0 : Int32)) rfl ?_
    refine g_istore X3 hx hby at_150 (pc' := 152) rfl (l' := #[.val (.int q1), .val (.int q2), .val (.int q3), .val (.int q4), .val (.int (0 : Int32)), .val (.int (dd q1 (2 : Int32))), .val (.int (dd q1 (4 : Int32))), .val (.int (dd q1 (6 : Int32))), .val (.ref b2), .val (.ref b3), .val (.int (0 : Int32)), .unset, .unset]) rfl ?_
    refine g_iload X3 hx hby at_152 (pc' := 154) rfl rfl ?_
    refine g_if_le X3 hx hby at_154 (by decide) (pc' := 162) (by decide) (pn := 157) rfl (fun _ => ?_) (fun z => absurd z (by decide))
    refine g_iload X3 hx hby at_162 (pc' := 164) rfl rfl ?_
    refine g_iconst X3 hx hby at_164 (pc' := 165) rfl (z := (1 : Int32)) rfl ?_
    refine g_icmp_le X3 hx hby at_165 (by decide) (pc' := 173) (by decide) (pn := 168) rfl (fun _ => ?_) (fun z => absurd z (by decide))
    refine g_iload X3 hx hby at_173 (pc' := 175) rfl rfl ?_
    refine g_iconst X3 hx hby at_175 (pc' := 176) rfl (z := (2 : Int32)) rfl ?_
    refine g_icmp_le X3 hx hby at_176 (by decide) (pc' := 188) (by decide) (pn := 179) rfl (fun _ => ?_) (fun z => absurd z (by decide))
    refine g_iconst X3 hx hby at_188 (pc' := 189) rfl (z := (0 : Int32)) rfl ?_
    refine g_istore X3 hx hby at_189 (pc' := 191) rfl (l' := #[.val (.int q1), .val (.int q2), .val (.int q3), .val (.int q4), .val (.int (0 : Int32)), .val (.int (dd q1 (2 : Int32))), .val (.int (dd q1 (4 : Int32))), .val (.int (dd q1 (6 : Int32))), .val (.ref b2), .val (.ref b3), .val (.int (0 : Int32)), .val (.int (0 : Int32)), .unset]) rfl ?_
    refine g_iload X3 hx hby at_191 (pc' := 193) rfl rfl ?_
    refine g_if_ne X3 hx hby at_193 (by decide) (pc' := 205) (by decide) (pn := 196) rfl (fun z => absurd z (by decide)) (fun _ => ?_)
    refine g_iload X3 hx hby at_196 (pc' := 198) rfl rfl ?_
    refine g_if_eq X3 hx hby at_198 (by decide) (pc' := 205) (by decide) (pn := 201) rfl (fun _ => ?_) (fun z => absurd z (by decide))
    refine g_iconst X3 hx hby at_205 (pc' := 206) rfl (z := (0 : Int32)) rfl ?_
    refine g_istore X3 hx hby at_206 (pc' := 208) rfl (l' := #[.val (.int q1), .val (.int q2), .val (.int q3), .val (.int q4), .val (.int (0 : Int32)), .val (.int (dd q1 (2 : Int32))), .val (.int (dd q1 (4 : Int32))), .val (.int (dd q1 (6 : Int32))), .val (.ref b2), .val (.ref b3), .val (.int (0 : Int32)), .val (.int (0 : Int32)), .val (.int (0 : Int32))]) rfl ?_
    refine g_aload X3 hx hby at_208 (pc' := 210) rfl rfl rfl ?_
    refine g_aload X3 hx hby at_210 (pc' := 212) rfl rfl rfl ?_
    refine g_callS X3 hx hZ hown (W := 0) (argsL := [.ref b2, .ref b3]) (rest := []) hby at_212 (pc' := 215) rfl (by rw [hml]; rfl) (w_1 hw) (w_2 hw) (w_3 hw) (w_4 hw) (by decide) (rm1_0 l Z a0 hw [] b2 b3 T3.heap n0  _ _ A3_b2 A3) rfl (by decide) (by decide) (by decide) (by decide) rfl pd__28_5bD_5bD_29Z rfl rfl (Nat.le_of_eq rfl) ?_
    rintro _ T4 L4 X4 ⟨rfl, N4q, e4⟩
    have N4 := Fr.app N0 N4q
    show GoE p e below _ (T4.setTop (mkF m 215 #[.val (.int q1), .val (.int q2), .val (.int q3), .val (.int q4), .val (.int (0 : Int32)), .val (.int (dd q1 (2 : Int32))), .val (.int (dd q1 (4 : Int32))), .val (.int (dd q1 (6 : Int32))), .val (.ref b2), .val (.ref b3), .val (.int (0 : Int32)), .val (.int (0 : Int32)), .val (.int (0 : Int32))] [.int (domL [] 0)]))
    refine g_iload X4 hx hby at_215 (pc' := 217) rfl rfl ?_
    refine g_icmp_ne X4 hx hby at_217 (by decide) (pc' := 224) (by decide) (pn := 220) rfl (fun z => absurd z (fun z => z (by simp only [domL, own_lt1, own_lt2, if_true, if_false, ↓reduceIte, ite_self]))) (fun hc217_5 => ?_)
    refine g_iconst X4 hx hby at_220 (pc' := 221) rfl (z := (1 : Int32)) rfl ?_
    refine g_goto X4 hx hby at_221 (by decide) (pc' := 225) (by decide) ?_
    exact g_retN (Q := (fun v h L => v = some (.int 1) ∧ Fr n0 L)) (w := (1 : Int32)) X4 hx hby at_225 hret (by simp) (by first | decide | rfl) hlk (by decide) (by decide) ⟨rfl, N4⟩
  · rw [hk1]
    refine g_istore X0 hx hby at_3 (pc' := 5) rfl (l' := #[.val (.int q1), .val (.int q2), .val (.int q3), .val (.int q4), .val (.int (1 : Int32)), .unset, .unset, .unset, .unset, .unset, .unset, .unset, .unset]) rfl ?_
    refine g_iloadN X0 hx hby at_5 (pc' := 6) rfl rfl ?_
    refine g_iconst X0 hx hby at_6 (pc' := 7) rfl (z := (2 : Int32)) rfl ?_
    refine g_iushr X0 hx hby at_7 (pc' := 8) rfl ?_
    refine g_iconst X0 hx hby at_8 (pc' := 9) rfl (z := (3 : Int32)) rfl ?_
    refine g_iand X0 hx hby at_9 (pc' := 10) rfl ?_
    refine g_iconst X0 hx hby at_10 (pc' := 11) rfl (z := (1 : Int32)) rfl ?_
    refine g_isub X0 hx hby at_11 (pc' := 12) rfl ?_
    refine g_istore X0 hx hby at_12 (pc' := 14) rfl (l' := #[.val (.int q1), .val (.int q2), .val (.int q3), .val (.int q4), .val (.int (1 : Int32)), .val (.int (dd q1 (2 : Int32))), .unset, .unset, .unset, .unset, .unset, .unset, .unset]) rfl ?_
    refine g_iloadN X0 hx hby at_14 (pc' := 15) rfl rfl ?_
    refine g_iconst X0 hx hby at_15 (pc' := 16) rfl (z := (4 : Int32)) rfl ?_
    refine g_iushr X0 hx hby at_16 (pc' := 17) rfl ?_
    refine g_iconst X0 hx hby at_17 (pc' := 18) rfl (z := (3 : Int32)) rfl ?_
    refine g_iand X0 hx hby at_18 (pc' := 19) rfl ?_
    refine g_iconst X0 hx hby at_19 (pc' := 20) rfl (z := (1 : Int32)) rfl ?_
    refine g_isub X0 hx hby at_20 (pc' := 21) rfl ?_
    refine g_istore X0 hx hby at_21 (pc' := 23) rfl (l' := #[.val (.int q1), .val (.int q2), .val (.int q3), .val (.int q4), .val (.int (1 : Int32)), .val (.int (dd q1 (2 : Int32))), .val (.int (dd q1 (4 : Int32))), .unset, .unset, .unset, .unset, .unset, .unset]) rfl ?_
    refine g_iloadN X0 hx hby at_23 (pc' := 24) rfl rfl ?_
    refine g_bipush X0 hx hby at_24 (pc' := 26) rfl (z := (6 : Int32)) rfl ?_
    refine g_iushr X0 hx hby at_26 (pc' := 27) rfl ?_
    refine g_iconst X0 hx hby at_27 (pc' := 28) rfl (z := (3 : Int32)) rfl ?_
    refine g_iand X0 hx hby at_28 (pc' := 29) rfl ?_
    refine g_iconst X0 hx hby at_29 (pc' := 30) rfl (z := (1 : Int32)) rfl ?_
    refine g_isub X0 hx hby at_30 (pc' := 31) rfl ?_
    refine g_istore X0 hx hby at_31 (pc' := 33) rfl (l' := #[.val (.int q1), .val (.int q2), .val (.int q3), .val (.int q4), .val (.int (1 : Int32)), .val (.int (dd q1 (2 : Int32))), .val (.int (dd q1 (4 : Int32))), .val (.int (dd q1 (6 : Int32))), .unset, .unset, .unset, .unset, .unset]) rfl ?_
    refine g_iload X0 hx hby at_33 (pc' := 35) rfl rfl ?_
    refine g_newarray X0 hx hZ 1  "[D" hby at_35 (pc' := 37) rfl (w_0 hw) e0 (by decide) (by decide) (by decide) (by decide) (by decide) rfl ?_
    intro T6 b6 c6 hb6 X6 E6 A6v A6x
    have Z6 := Nat.le_trans Z0 E6.1
    have A6 : Arv Z T6.heap b6 c6 .double (1 : Int32) [.double 0] (.double 0) := A6v
    refine g_astore X6 hx hby at_37 (pc' := 39) rfl rfl (l' := #[.val (.int q1), .val (.int q2), .val (.int q3), .val (.int q4), .val (.int (1 : Int32)), .val (.int (dd q1 (2 : Int32))), .val (.int (dd q1 (4 : Int32))), .val (.int (dd q1 (6 : Int32))), .val (.ref b6), .unset, .unset, .unset, .unset]) rfl ?_
    refine g_iload X6 hx hby at_39 (pc' := 41) rfl rfl ?_
    refine g_newarray X6 hx hZ 1  "[D" hby at_41 (pc' := 43) rfl (w_0 hw) rfl (by decide) (by decide) (by decide) (by decide) (by decide) rfl ?_
    intro T7 b7 c7 hb7 X7 E7 A7v A7x
    have Z7 := Nat.le_trans Z6 E7.1
    have A7_b6 := A6.ext E7
    have ne7_b6 : b6 ≠ b7 := hb7 ▸ Nat.ne_of_lt A6.lt
    have E7_b6 := A6x.ext E7
    have A7 : Arv Z T7.heap b7 c7 .double (1 : Int32) [.double 0] (.double 0) := A7v
    refine g_astore X7 hx hby at_43 (pc' := 45) rfl rfl (l' := #[.val (.int q1), .val (.int q2), .val (.int q3), .val (.int q4), .val (.int (1 : Int32)), .val (.int (dd q1 (2 : Int32))), .val (.int (dd q1 (4 : Int32))), .val (.int (dd q1 (6 : Int32))), .val (.ref b6), .val (.ref b7), .unset, .unset, .unset]) rfl ?_
    refine g_iload X7 hx hby at_45 (pc' := 47) rfl rfl ?_
    refine g_if_le X7 hx hby at_47 (by decide) (pc' := 67) (by decide) (pn := 50) rfl (fun z => absurd z (by decide)) (fun _ => ?_)
    refine g_aload X7 hx hby at_50 (pc' := 52) rfl rfl rfl ?_
    refine g_iconst X7 hx hby at_52 (pc' := 53) rfl (z := (0 : Int32)) rfl ?_
    refine g_iloadN X7 hx hby at_53 (pc' := 54) rfl rfl ?_
    refine g_i2d X7 hx hby at_54 (pc' := 55) rfl ?_
    refine g_dastore X7 hx hZ 0 hby at_55 (pc' := 56) rfl rfl A7_b6 (by decide) (by decide) (by first | decide | simp) ?_
    intro T8 X8 W8 A8v
    have N8 := Fr.snoc X8 N0 (Nat.le_trans Z0 (Nat.le_of_eq hb6.symm))
    have Z8 : n0 ≤ T8.heap.size := (W8.size ▸ Z7)
    have E8_b6 := E7_b6.wr W8
    have A8_b7 := A7.other W8 ne7_b6.symm
    have E8_b7 := A7x.wr W8
    have A8 : Arv Z T8.heap b6 c6 .double (1 : Int32) [.double (FP.l2d q2.toInt64)] (.double 0) := A8v
    refine g_aload X8 hx hby at_56 (pc' := 58) rfl rfl rfl ?_
    refine g_iconst X8 hx hby at_58 (pc' := 59) rfl (z := (0 : Int32)) rfl ?_
    refine g_iloadN X8 hx hby at_59 (pc' := 60) rfl rfl ?_
    refine g_i2l X8 hx hby at_60 (pc' := 61) rfl ?_
    refine g_iload X8 hx hby at_61 (pc' := 63) rfl rfl ?_
    refine g_i2l X8 hx hby at_63 (pc' := 64) rfl ?_
    refine g_ladd X8 hx hby at_64 (pc' := 65) rfl ?_
    refine g_l2d X8 hx hby at_65 (pc' := 66) rfl ?_
    refine g_dastore X8 hx hZ 0 hby at_66 (pc' := 67) rfl rfl A8_b7 (by decide) (by decide) (by first | decide | simp) ?_
    intro T9 X9 W9 A9v
    have N9 := Fr.snoc X9 N8 (Nat.le_trans Z6 (Nat.le_of_eq hb7.symm))
    have Z9 : n0 ≤ T9.heap.size := (W9.size ▸ Z8)
    have E9_b6 := E8_b6.wr W9
    have E9_b7 := E8_b7.wr W9
    have A9_b6 := A8.other W9 ne7_b6
    have A9 : Arv Z T9.heap b7 c7 .double (1 : Int32) [.double (FP.l2d (q2.toInt64 + (dd q1 (2 : Int32)).toInt64))] (.double 0) := A9v
    refine g_iload X9 hx hby at_67 (pc' := 69) rfl rfl ?_
    refine g_iconst X9 hx hby at_69 (pc' := 70) rfl (z := (1 : Int32)) rfl ?_
    refine g_icmp_le X9 hx hby at_70 (by decide) (pc' := 90) (by decide) (pn := 73) rfl (fun _ => ?_) (fun z => absurd z (by decide))
    refine g_iload X9 hx hby at_90 (pc' := 92) rfl rfl ?_
    refine g_iconst X9 hx hby at_92 (pc' := 93) rfl (z := (2 : Int32)) rfl ?_
    refine g_icmp_le X9 hx hby at_93 (by decide) (pc' := 113) (by decide) (pn := 96) rfl (fun _ => ?_) (fun z => absurd z (by decide))
    refine g_iload X9 hx hby at_113 (pc' := 115) rfl rfl ?_
    refine g_if_le X9 hx hby at_115 (by decide) (pc' := 123) (by decide) (pn := 118) rfl (fun z => absurd z (by decide)) (fun _ => ?_)
    refine g_iload X9 hx hby at_118 (pc' := 120) rfl rfl ?_
    refine g_if_lt X9 hx hby at_120 (by decide) (pc' := 145) (by decide) (pn := 123) rfl (fun hc120_10 => ?_) (fun hc120_10 => ?_)
    · refine g_iconst X9 hx hby at_145 (pc' := 146) rfl (z := (1 : Int32)) rfl ?_
      refine g_goto X9 hx hby at_146 (by decide) (pc' := 150) (by decide) ?_
      refine g_istore X9 hx hby at_150 (pc' := 152) rfl (l' := #[.val (.int q1), .val (.int q2), .val (.int q3), .val (.int q4), .val (.int (1 : Int32)), .val (.int (dd q1 (2 : Int32))), .val (.int (dd q1 (4 : Int32))), .val (.int (dd q1 (6 : Int32))), .val (.ref b6), .val (.ref b7), .val (.int (1 : Int32)), .unset, .unset]) rfl ?_
      refine g_iload X9 hx hby at_152 (pc' := 154) rfl rfl ?_
      refine g_if_le X9 hx hby at_154 (by decide) (pc' := 162) (by decide) (pn := 157) rfl (fun z => absurd z (by decide)) (fun _ => ?_)
      refine g_iload X9 hx hby at_157 (pc' := 159) rfl rfl ?_
      refine g_if_gt X9 hx hby at_159 (by decide) (pc' := 184) (by decide) (pn := 162) rfl (fun hc159_11 => ?_) (fun hc159_11 => ?_)
      · refine g_iconst X9 hx hby at_184 (pc' := 185) rfl (z := (1 : Int32)) rfl ?_
        refine g_goto X9 hx hby at_185 (by decide) (pc' := 189) (by decide) ?_
        refine g_istore X9 hx hby at_189 (pc' := 191) rfl (l' := #[.val (.int q1), .val (.int q2), .val (.int q3), .val (.int q4), .val (.int (1 : Int32)), .val (.int (dd q1 (2 : Int32))), .val (.int (dd q1 (4 : Int32))), .val (.int (dd q1 (6 : Int32))), .val (.ref b6), .val (.ref b7), .val (.int (1 : Int32)), .val (.int (1 : Int32)), .unset]) rfl ?_
        refine g_iload X9 hx hby at_191 (pc' := 193) rfl rfl ?_
        refine g_if_ne X9 hx hby at_193 (by decide) (pc' := 205) (by decide) (pn := 196) rfl (fun _ => ?_) (fun z => absurd z (by decide))
        refine g_iconst X9 hx hby at_205 (pc' := 206) rfl (z := (0 : Int32)) rfl ?_
        refine g_istore X9 hx hby at_206 (pc' := 208) rfl (l' := #[.val (.int q1), .val (.int q2), .val (.int q3), .val (.int q4), .val (.int (1 : Int32)), .val (.int (dd q1 (2 : Int32))), .val (.int (dd q1 (4 : Int32))), .val (.int (dd q1 (6 : Int32))), .val (.ref b6), .val (.ref b7), .val (.int (1 : Int32)), .val (.int (1 : Int32)), .val (.int (0 : Int32))]) rfl ?_
        refine g_aload X9 hx hby at_208 (pc' := 210) rfl rfl rfl ?_
        refine g_aload X9 hx hby at_210 (pc' := 212) rfl rfl rfl ?_
        refine g_callS X9 hx hZ hown (W := 0) (argsL := [.ref b6, .ref b7]) (rest := []) hby at_212 (pc' := 215) rfl (by rw [hml]; rfl) (w_1 hw) (w_2 hw) (w_3 hw) (w_4 hw) (by decide) (rm1_1 l Z a0 hw [] b6 b7 T9.heap n0 q2.toInt64 (q2.toInt64 + (dd q1 (2 : Int32)).toInt64) (own_b53 _) (own_b53s _ _ _) _ _ A9_b6 A9) rfl (by decide) (by decide) (by decide) (by decide) rfl pd__28_5bD_5bD_29Z rfl rfl (Nat.le_of_eq rfl) ?_
        rintro _ T12 L12 X12 ⟨rfl, N12q, e12⟩
        have N12 := Fr.app N9 N12q
        show GoE p e below _ (T12.setTop (mkF m 215 #[.val (.int q1), .val (.int q2), .val (.int q3), .val (.int q4), .val (.int (1 : Int32)), .val (.int (dd q1 (2 : Int32))), .val (.int (dd q1 (4 : Int32))), .val (.int (dd q1 (6 : Int32))), .val (.ref b6), .val (.ref b7), .val (.int (1 : Int32)), .val (.int (1 : Int32)), .val (.int (0 : Int32))] [.int (domL [(q2.toInt64, (q2.toInt64 + (dd q1 (2 : Int32)).toInt64))] 0)]))
        refine g_iload X12 hx hby at_215 (pc' := 217) rfl rfl ?_
        refine g_icmp_ne X12 hx hby at_217 (by decide) (pc' := 224) (by decide) (pn := 220) rfl (fun z => absurd z (fun z => z (by simp only [domL, own_lt1, own_lt2, hc120_10, hc159_11, if_true, if_false, ↓reduceIte, ite_self]))) (fun hc217_13 => ?_)
        refine g_iconst X12 hx hby at_220 (pc' := 221) rfl (z := (1 : Int32)) rfl ?_
        refine g_goto X12 hx hby at_221 (by decide) (pc' := 225) (by decide) ?_
        exact g_retN (Q := (fun v h L => v = some (.int 1) ∧ Fr n0 L)) (w := (1 : Int32)) X12 hx hby at_225 hret (by simp) (by first | decide | rfl) hlk (by decide) (by decide) ⟨rfl, N12⟩
      · refine g_iload X9 hx hby at_162 (pc' := 164) rfl rfl ?_
        refine g_iconst X9 hx hby at_164 (pc' := 165) rfl (z := (1 : Int32)) rfl ?_
        refine g_icmp_le X9 hx hby at_165 (by decide) (pc' := 173) (by decide) (pn := 168) rfl (fun _ => ?_) (fun z => absurd z (by decide))
        refine g_iload X9 hx hby at_173 (pc' := 175) rfl rfl ?_
        refine g_iconst X9 hx hby at_175 (pc' := 176) rfl (z := (2 : Int32)) rfl ?_
        refine g_icmp_le X9 hx hby at_176 (by decide) (pc' := 188) (by decide) (pn := 179) rfl (fun _ => ?_) (fun z => absurd z (by decide))
        refine g_iconst X9 hx hby at_188 (pc' := 189) rfl (z := (0 : Int32)) rfl ?_
        refine g_istore X9 hx hby at_189 (pc' := 191) rfl (l' := #[.val (.int q1), .val (.int q2), .val (.int q3), .val (.int q4), .val (.int (1 : Int32)), .val (.int (dd q1 (2 : Int32))), .val (.int (dd q1 (4 : Int32))), .val (.int (dd q1 (6 : Int32))), .val (.ref b6), .val (.ref b7), .val (.int (1 : Int32)), .val (.int (0 : Int32)), .unset]) rfl ?_
        refine g_iload X9 hx hby at_191 (pc' := 193) rfl rfl ?_
        refine g_if_ne X9 hx hby at_193 (by decide) (pc' := 205) (by decide) (pn := 196) rfl (fun _ => ?_) (fun z => absurd z (by decide))
        refine g_iconst X9 hx hby at_205 (pc' := 206) rfl (z := (0 : Int32)) rfl ?_
        refine g_istore X9 hx hby at_206 (pc' := 208) rfl (l' := #[.val (.int q1), .val (.int q2), .val (.int q3), .val (.int q4), .val (.int (1 : Int32)), .val (.int (dd q1 (2 : Int32))), .val (.int (dd q1 (4 : Int32))), .val (.int (dd q1 (6 : Int32))), .val (.ref b6), .val (.ref b7), .val (.int (1 : Int32)), .val (.int (0 : Int32)), .val (.int (0 : Int32))]) rfl ?_
        refine g_aload X9 hx hby at_208 (pc' := 210) rfl rfl rfl ?_
        refine g_aload X9 hx hby at_210 (pc' := 212) rfl rfl rfl ?_
        refine g_callS X9 hx hZ hown (W := 0) (argsL := [.ref b6, .ref b7]) (rest := []) hby at_212 (pc' := 215) rfl (by rw [hml]; rfl) (w_1 hw) (w_2 hw) (w_3 hw) (w_4 hw) (by decide) (rm1_1 l Z a0 hw [] b6 b7 T9.heap n0 q2.toInt64 (q2.toInt64 + (dd q1 (2 : Int32)).toInt64) (own_b53 _) (own_b53s _ _ _) _ _ A9_b6 A9) rfl (by decide) (by decide) (by decide) (by decide) rfl pd__28_5bD_5bD_29Z rfl rfl (Nat.le_of_eq rfl) ?_
        rintro _ T14 L14 X14 ⟨rfl, N14q, e14⟩
        have N14 := Fr.app N9 N14q
        show GoE p e below _ (T14.setTop (mkF m 215 #[.val (.int q1), .val (.int q2), .val (.int q3), .val (.int q4), .val (.int (1 : Int32)), .val (.int (dd q1 (2 : Int32))), .val (.int (dd q1 (4 : Int32))), .val (.int (dd q1 (6 : Int32))), .val (.ref b6), .val (.ref b7), .val (.int (1 : Int32)), .val (.int (0 : Int32)), .val (.int (0 : Int32))] [.int (domL [(q2.toInt64, (q2.toInt64 + (dd q1 (2 : Int32)).toInt64))] 0)]))
        refine g_iload X14 hx hby at_215 (pc' := 217) rfl rfl ?_
        refine g_icmp_ne X14 hx hby at_217 (by decide) (pc' := 224) (by decide) (pn := 220) rfl (fun z => absurd z (fun z => z (by simp only [domL, own_lt1, own_lt2, hc120_10, hc159_11, if_true, if_false, ↓reduceIte, ite_self]))) (fun hc217_15 => ?_)
        refine g_iconst X14 hx hby at_220 (pc' := 221) rfl (z := (1 : Int32)) rfl ?_
        refine g_goto X14 hx hby at_221 (by decide) (pc' := 225) (by decide) ?_
        exact g_retN (Q := (fun v h L => v = some (.int 1) ∧ Fr n0 L)) (w := (1 : Int32)) X14 hx hby at_225 hret (by simp) (by first | decide | rfl) hlk (by decide) (by decide) ⟨rfl, N14⟩
    · refine g_iload X9 hx hby at_123 (pc' := 125) rfl rfl ?_
      refine g_iconst X9 hx hby at_125 (pc' := 126) rfl (z := (1 : Int32)) rfl ?_
      refine g_icmp_le X9 hx hby at_126 (by decide) (pc' := 134) (by decide) (pn := 129) rfl (fun _ => ?_) (fun z => absurd z (by decide))
      refine g_iload X9 hx hby at_134 (pc' := 136) rfl rfl ?_
      refine g_iconst X9 hx hby at_136 (pc' := 137) rfl (z := (2 : Int32)) rfl ?_
      refine g_icmp_le X9 hx hby at_137 (by decide) (pc' := 149) (by decide) (pn := 140) rfl (fun _ => ?_) (fun z => absurd z (by decide))
      refine g_iconst X9 hx hby at_149 (pc' := 150) rfl (z := (0 : Int32)) rfl ?_
      refine g_istore X9 hx hby at_150 (pc' := 152) rfl (l' := #[.val (.int q1), .val (.int q2), .val (.int q3), .val (.int q4), .val (.int (1 : Int32)), .val (.int (dd q1 (2 : Int32))), .val (.int (dd q1 (4 : Int32))), .val (.int (dd q1 (6 : Int32))), .val (.ref b6), .val (.ref b7), .val (.int (0 : Int32)), .unset, .unset]) rfl ?_
      refine g_iload X9 hx hby at_152 (pc' := 154) rfl rfl ?_
      refine g_if_le X9 hx hby at_154 (by decide) (pc' := 162) (by decide) (pn := 157) rfl (fun z => absurd z (by decide)) (fun _ => ?_)
      refine g_iload X9 hx hby at_157 (pc' := 159) rfl rfl ?_
      refine g_if_gt X9 hx hby at_159 (by decide) (pc' := 184) (by decide) (pn := 162) rfl (fun hc159_16 => ?_) (fun hc159_16 => ?_)
      · refine g_iconst X9 hx hby at_184 (pc' := 185) rfl (z := (1 : Int32)) rfl ?_
        refine g_goto X9 hx hby at_185 (by decide) (pc' := 189) (by decide) ?_
        refine g_istore X9 hx hby at_189 (pc' := 191) rfl (l' := #[.val (.int q1), .val (.int q2), .val (.int q3), .val (.int q4), .val (.int (1 : Int32)), .val (.int (dd q1 (2 : Int32))), .val (.int (dd q1 (4 : Int32))), .val (.int (dd q1 (6 : Int32))), .val (.ref b6), .val (.ref b7), .val (.int (0 : Int32)), .val (.int (1 : Int32)), .unset]) rfl ?_
        refine g_iload X9 hx hby at_191 (pc' := 193) rfl rfl ?_
        refine g_if_ne X9 hx hby at_193 (by decide) (pc' := 205) (by decide) (pn := 196) rfl (fun z => absurd z (by decide)) (fun _ => ?_)
        refine g_iload X9 hx hby at_196 (pc' := 198) rfl rfl ?_
        refine g_if_eq X9 hx hby at_198 (by decide) (pc' := 205) (by decide) (pn := 201) rfl (fun z => absurd z (by decide)) (fun _ => ?_)
        refine g_iconst X9 hx hby at_201 (pc' := 202) rfl (z := (1 : Int32)) rfl ?_
        refine g_goto X9 hx hby at_202 (by decide) (pc' := 206) (by decide) ?_
        refine g_istore X9 hx hby at_206 (pc' := 208) rfl (l' := #[.val (.int q1), .val (.int q2), .val (.int q3), .val (.int q4), .val (.int (1 : Int32)), .val (.int (dd q1 (2 : Int32))), .val (.int (dd q1 (4 : Int32))), .val (.int (dd q1 (6 : Int32))), .val (.ref b6), .val (.ref b7), .val (.int (0 : Int32)), .val (.int (1 : Int32)), .val (.int (1 : Int32))]) rfl ?_
        refine g_aload X9 hx hby at_208 (pc' := 210) rfl rfl rfl ?_
        refine g_aload X9 hx hby at_210 (pc' := 212) rfl rfl rfl ?_
        refine g_callS X9 hx hZ hown (W := 0) (argsL := [.ref b6, .ref b7]) (rest := []) hby at_212 (pc' := 215) rfl (by rw [hml]; rfl) (w_1 hw) (w_2 hw) (w_3 hw) (w_4 hw) (by decide) (rm1_1 l Z a0 hw [] b6 b7 T9.heap n0 q2.toInt64 (q2.toInt64 + (dd q1 (2 : Int32)).toInt64) (own_b53 _) (own_b53s _ _ _) _ _ A9_b6 A9) rfl (by decide) (by decide) (by decide) (by decide) rfl pd__28_5bD_5bD_29Z rfl rfl (Nat.le_of_eq rfl) ?_
        rintro _ T17 L17 X17 ⟨rfl, N17q, e17⟩
        have N17 := Fr.app N9 N17q
        show GoE p e below _ (T17.setTop (mkF m 215 #[.val (.int q1), .val (.int q2), .val (.int q3), .val (.int q4), .val (.int (1 : Int32)), .val (.int (dd q1 (2 : Int32))), .val (.int (dd q1 (4 : Int32))), .val (.int (dd q1 (6 : Int32))), .val (.ref b6), .val (.ref b7), .val (.int (0 : Int32)), .val (.int (1 : Int32)), .val (.int (1 : Int32))] [.int (domL [(q2.toInt64, (q2.toInt64 + (dd q1 (2 : Int32)).toInt64))] 0)]))
        refine g_iload X17 hx hby at_215 (pc' := 217) rfl rfl ?_
        refine g_icmp_ne X17 hx hby at_217 (by decide) (pc' := 224) (by decide) (pn := 220) rfl (fun z => absurd z (fun z => z (by simp only [domL, own_lt1, own_lt2, hc120_10, hc159_16, if_true, if_false, ↓reduceIte, ite_self]))) (fun hc217_18 => ?_)
        refine g_iconst X17 hx hby at_220 (pc' := 221) rfl (z := (1 : Int32)) rfl ?_
        refine g_goto X17 hx hby at_221 (by decide) (pc' := 225) (by decide) ?_
        exact g_retN (Q := (fun v h L => v = some (.int 1) ∧ Fr n0 L)) (w := (1 : Int32)) X17 hx hby at_225 hret (by simp) (by first | decide | rfl) hlk (by decide) (by decide) ⟨rfl, N17⟩
      · refine g_iload X9 hx hby at_162 (pc' := 164) rfl rfl ?_
        refine g_iconst X9 hx hby at_164 (pc' := 165) rfl (z := (1 : Int32)) rfl ?_
        refine g_icmp_le X9 hx hby at_165 (by decide) (pc' := 173) (by decide) (pn := 168) rfl (fun _ => ?_) (fun z => absurd z (by decide))
        refine g_iload X9 hx hby at_173 (pc' := 175) rfl rfl ?_
        refine g_iconst X9 hx hby at_175 (pc' := 176) rfl (z := (2 : Int32)) rfl ?_
        refine g_icmp_le X9 hx hby at_176 (by decide) (pc' := 188) (by decide) (pn := 179) rfl (fun _ => ?_) (fun z => absurd z (by decide))
        refine g_iconst X9 hx hby at_188 (pc' := 189) rfl (z := (0 : Int32)) rfl ?_
        refine g_istore X9 hx hby at_189 (pc' := 191) rfl (l' := #[.val (.int q1), .val (.int q2), .val (.int q3), .val (.int q4), .val (.int (1 : Int32)), .val (.int (dd q1 (2 : Int32))), .val (.int (dd q1 (4 : Int32))), .val (.int (dd q1 (6 : Int32))), .val (.ref b6), .val (.ref b7), .val (.int (0 : Int32)), .val (.int (0 : Int32)), .unset]) rfl ?_
        refine g_iload X9 hx hby at_191 (pc' := 193) rfl rfl ?_
        refine g_if_ne X9 hx hby at_193 (by decide) (pc' := 205) (by decide) (pn := 196) rfl (fun z => absurd z (by decide)) (fun _ => ?_)
        refine g_iload X9 hx hby at_196 (pc' := 198) rfl rfl ?_
        refine g_if_eq X9 hx hby at_198 (by decide) (pc' := 205) (by decide) (pn := 201) rfl (fun _ => ?_) (fun z => absurd z (by decide))
        refine g_iconst X9 hx hby at_205 (pc' := 206) rfl (z := (0 : Int32)) rfl ?_
        refine g_istore X9 hx hby at_206 (pc' := 208) rfl (l' := #[.val (.int q1), .val (.int q2), .val (.int q3), .val (.int q4), .val (.int (1 : Int32)), .val (.int (dd q1 (2 : Int32))), .val (.int (dd q1 (4 : Int32))), .val (.int (dd q1 (6 : Int32))), .val (.ref b6), .val (.ref b7), .val (.int (0 : Int32)), .val (.int (0 : Int32)), .val (.int (0 : Int32))]) rfl ?_
        refine g_aload X9 hx hby at_208 (pc' := 210) rfl rfl rfl ?_
        refine g_aload X9 hx hby at_210 (pc' := 212) rfl rfl rfl ?_
        refine g_callS X9 hx hZ hown (W := 0) (argsL := [.ref b6, .ref b7]) (rest := []) hby at_212 (pc' := 215) rfl (by rw [hml]; rfl) (w_1 hw) (w_2 hw) (w_3 hw) (w_4 hw) (by decide) (rm1_1 l Z a0 hw [] b6 b7 T9.heap n0 q2.toInt64 (q2.toInt64 + (dd q1 (2 : Int32)).toInt64) (own_b53 _) (own_b53s _ _ _) _ _ A9_b6 A9) rfl (by decide) (by decide) (by decide) (by decide) rfl pd__28_5bD_5bD_29Z rfl rfl (Nat.le_of_eq rfl) ?_
        rintro _ T19 L19 X19 ⟨rfl, N19q, e19⟩
        have N19 := Fr.app N9 N19q
        show GoE p e below _ (T19.setTop (mkF m 215 #[.val (.int q1), .val (.int q2), .val (.int q3), .val (.int q4), .val (.int (1 : Int32)), .val (.int (dd q1 (2 : Int32))), .val (.int (dd q1 (4 : Int32))), .val (.int (dd q1 (6 : Int32))), .val (.ref b6), .val (.ref b7), .val (.int (0 : Int32)), .val (.int (0 : Int32)), .val (.int (0 : Int32))] [.int (domL [(q2.toInt64, (q2.toInt64 + (dd q1 (2 : Int32)).toInt64))] 0)]))
        refine g_iload X19 hx hby at_215 (pc' := 217) rfl rfl ?_
        refine g_icmp_ne X19 hx hby at_217 (by decide) (pc' := 224) (by decide) (pn := 220) rfl (fun z => absurd z (fun z => z (by simp only [domL, own_lt1, own_lt2, hc120_10, hc159_16, if_true, if_false, ↓reduceIte, ite_self]))) (fun hc217_20 => ?_)
        refine g_iconst X19 hx hby at_220 (pc' := 221) rfl (z := (1 : Int32)) rfl ?_
        refine g_goto X19 hx hby at_221 (by decide) (pc' := 225) (by decide) ?_
        exact g_retN (Q := (fun v h L => v = some (.int 1) ∧ Fr n0 L)) (w := (1 : Int32)) X19 hx hby at_225 hret (by simp) (by first | decide | rfl) hlk (by decide) (by decide) ⟨rfl, N19⟩
  · rw [hk1]
    refine g_istore X0 hx hby at_3 (pc' := 5) rfl (l' := #[.val (.int q1), .val (.int q2), .val (.int q3), .val (.int q4), .val (.int (2 : Int32)), .unset, .unset, .unset, .unset, .unset, .unset, .unset, .unset]) rfl ?_
    refine g_iloadN X0 hx hby at_5 (pc' := 6) rfl rfl ?_
    refine g_iconst X0 hx hby at_6 (pc' := 7) rfl (z := (2 : Int32)) rfl ?_
    refine g_iushr X0 hx hby at_7 (pc' := 8) rfl ?_
    refine g_iconst X0 hx hby at_8 (pc' := 9) rfl (z := (3 : Int32)) rfl ?_
    refine g_iand X0 hx hby at_9 (pc' := 10) rfl ?_
    refine g_iconst X0 hx hby at_10 (pc' := 11) rfl (z := (1 : Int32)) rfl ?_
    refine g_isub X0 hx hby at_11 (pc' := 12) rfl ?_
    refine g_istore X0 hx hby at_12 (pc' := 14) rfl (l' := #[.val (.int q1), .val (.int q2), .val (.int q3), .val (.int q4), .val (.int (2 : Int32)), .val (.int (dd q1 (2 : Int32))), .unset, .unset, .unset, .unset, .unset, .unset, .unset]) rfl ?_
    refine g_iloadN X0 hx hby at_14 (pc' := 15) rfl rfl ?_
    refine g_iconst X0 hx hby at_15 (pc' := 16) rfl (z := (4 : Int32)) rfl ?_
    refine g_iushr X0 hx hby at_16 (pc' := 17) rfl ?_
    refine g_iconst X0 hx hby at_17 (pc' := 18) rfl (z := (3 : Int32)) rfl ?_
    refine g_iand X0 hx hby at_18 (pc' := 19) rfl ?_
    refine g_iconst X0 hx hby at_19 (pc' := 20) rfl (z := (1 : Int32)) rfl ?_
    refine g_isub X0 hx hby at_20 (pc' := 21) rfl ?_
    refine g_istore X0 hx hby at_21 (pc' := 23) rfl (l' := #[.val (.int q1), .val (.int q2), .val (.int q3), .val (.int q4), .val (.int (2 : Int32)), .val (.int (dd q1 (2 : Int32))), .val (.int (dd q1 (4 : Int32))), .unset, .unset, .unset, .unset, .unset, .unset]) rfl ?_
    refine g_iloadN X0 hx hby at_23 (pc' := 24) rfl rfl ?_
    refine g_bipush X0 hx hby at_24 (pc' := 26) rfl (z := (6 : Int32)) rfl ?_
    refine g_iushr X0 hx hby at_26 (pc' := 27) rfl ?_
    refine g_iconst X0 hx hby at_27 (pc' := 28) rfl (z := (3 : Int32)) rfl ?_
    refine g_iand X0 hx hby at_28 (pc' := 29) rfl ?_
    refine g_iconst X0 hx hby at_29 (pc' := 30) rfl (z := (1 : Int32)) rfl ?_
    refine g_isub X0 hx hby at_30 (pc' := 31) rfl ?_
    refine g_istore X0 hx hby at_31 (pc' := 33) rfl (l' := #[.val (.int q1), .val (.int q2), .val (.int q3), .val (.int q4), .val (.int (2 : Int32)), .val (.int (dd q1 (2 : Int32))), .val (.int (dd q1 (4 : Int32))), .val (.int (dd q1 (6 : Int32))), .unset, .unset, .unset, .unset, .unset]) rfl ?_
    refine g_iload X0 hx hby at_33 (pc' := 35) rfl rfl ?_
    refine g_newarray X0 hx hZ 2  "[D" hby at_35 (pc' := 37) rfl (w_0 hw) e0 (by decide) (by decide) (by decide) (by decide) (by decide) rfl ?_
    intro T21 b21 c21 hb21 X21 E21 A21v A21x
    have Z21 := Nat.le_trans Z0 E21.1
    have A21 : Arv Z T21.heap b21 c21 .double (2 : Int32) [.double 0, .double 0] (.double 0) := A21v
    refine g_astore X21 hx hby at_37 (pc' := 39) rfl rfl (l' := #[.val (.int q1), .val (.int q2), .val (.int q3), .val (.int q4), .val (.int (2 : Int32)), .val (.int (dd q1 (2 : Int32))), .val (.int (dd q1 (4 : Int32))), .val (.int (dd q1 (6 : Int32))), .val (.ref b21), .unset, .unset, .unset, .unset]) rfl ?_
    refine g_iload X21 hx hby at_39 (pc' := 41) rfl rfl ?_
    refine g_newarray X21 hx hZ 2  "[D" hby at_41 (pc' := 43) rfl (w_0 hw) rfl (by decide) (by decide) (by decide) (by decide) (by decide) rfl ?_
    intro T22 b22 c22 hb22 X22 E22 A22v A22x
    have Z22 := Nat.le_trans Z21 E22.1
    have A22_b21 := A21.ext E22
    have ne22_b21 : b21 ≠ b22 := hb22 ▸ Nat.ne_of_lt A21.lt
    have E22_b21 := A21x.ext E22
    have A22 : Arv Z T22.heap b22 c22 .double (2 : Int32) [.double 0, .double 0] (.double 0) := A22v
    refine g_astore X22 hx hby at_43 (pc' := 45) rfl rfl (l' := #[.val (.int q1), .val (.int q2), .val (.int q3), .val (.int q4), .val (.int (2 : Int32)), .val (.int (dd q1 (2 : Int32))), .val (.int (dd q1 (4 : Int32))), .val (.int (dd q1 (6 : Int32))), .val (.ref b21), .val (.ref b22), .unset, .unset, .unset]) rfl ?_
    refine g_iload X22 hx hby at_45 (pc' := 47) rfl rfl ?_
    refine g_if_le X22 hx hby at_47 (by decide) (pc' := 67) (by decide) (pn := 50) rfl (fun z => absurd z (by decide)) (fun _ => ?_)
    refine g_aload X22 hx hby at_50 (pc' := 52) rfl rfl rfl ?_
    refine g_iconst X22 hx hby at_52 (pc' := 53) rfl (z := (0 : Int32)) rfl ?_
    refine g_iloadN X22 hx hby at_53 (pc' := 54) rfl rfl ?_
    refine g_i2d X22 hx hby at_54 (pc' := 55) rfl ?_
    refine g_dastore X22 hx hZ 0 hby at_55 (pc' := 56) rfl rfl A22_b21 (by decide) (by decide) (by first | decide | simp) ?_
    intro T23 X23 W23 A23v
    have N23 := Fr.snoc X23 N0 (Nat.le_trans Z0 (Nat.le_of_eq hb21.symm))
    have Z23 : n0 ≤ T23.heap.size := (W23.size ▸ Z22)
    have E23_b21 := E22_b21.wr W23
    have A23_b22 := A22.other W23 ne22_b21.symm
    have E23_b22 := A22x.wr W23
    have A23 : Arv Z T23.heap b21 c21 .double (2 : Int32) [.double (FP.l2d q2.toInt64), .double 0] (.double 0) := A23v
    refine g_aload X23 hx hby at_56 (pc' := 58) rfl rfl rfl ?_
    refine g_iconst X23 hx hby at_58 (pc' := 59) rfl (z := (0 : Int32)) rfl ?_
    refine g_iloadN X23 hx hby at_59 (pc' := 60) rfl rfl ?_
    refine g_i2l X23 hx hby at_60 (pc' := 61) rfl ?_
    refine g_iload X23 hx hby at_61 (pc' := 63) rfl rfl ?_
    refine g_i2l X23 hx hby at_63 (pc' := 64) rfl ?_
    refine g_ladd X23 hx hby at_64 (pc' := 65) rfl ?_
    refine g_l2d X23 hx hby at_65 (pc' := 66) rfl ?_
    refine g_dastore X23 hx hZ 0 hby at_66 (pc' := 67) rfl rfl A23_b22 (by decide) (by decide) (by first | decide | simp) ?_
    intro T24 X24 W24 A24v
    have N24 := Fr.snoc X24 N23 (Nat.le_trans Z21 (Nat.le_of_eq hb22.symm))
    have Z24 : n0 ≤ T24.heap.size := (W24.size ▸ Z23)
    have E24_b21 := E23_b21.wr W24
    have E24_b22 := E23_b22.wr W24
    have A24_b21 := A23.other W24 ne22_b21
    have A24 : Arv Z T24.heap b22 c22 .double (2 : Int32) [.double (FP.l2d (q2.toInt64 + (dd q1 (2 : Int32)).toInt64)), .double 0] (.double 0) := A24v
    refine g_iload X24 hx hby at_67 (pc' := 69) rfl rfl ?_
    refine g_iconst X24 hx hby at_69 (pc' := 70) rfl (z := (1 : Int32)) rfl ?_
    refine g_icmp_le X24 hx hby at_70 (by decide) (pc' := 90) (by decide) (pn := 73) rfl (fun z => absurd z (by decide)) (fun _ => ?_)
    refine g_aload X24 hx hby at_73 (pc' := 75) rfl rfl rfl ?_
    refine g_iconst X24 hx hby at_75 (pc' := 76) rfl (z := (1 : Int32)) rfl ?_
    refine g_iloadN X24 hx hby at_76 (pc' := 77) rfl rfl ?_
    refine g_i2d X24 hx hby at_77 (pc' := 78) rfl ?_
    refine g_dastore X24 hx hZ 1 hby at_78 (pc' := 79) rfl rfl A24_b21 (by decide) (by decide) (by first | decide | simp) ?_
    intro T25 X25 W25 A25v
    have N25 := Fr.snoc X25 N24 (Nat.le_trans Z0 (Nat.le_of_eq hb21.symm))
    have Z25 : n0 ≤ T25.heap.size := (W25.size ▸ Z24)
    have E25_b21 := E24_b21.wr W25
    have E25_b22 := E24_b22.wr W25
    have A25_b22 := A24.other W25 ne22_b21.symm
    have A25 : Arv Z T25.heap b21 c21 .double (2 : Int32) [.double (FP.l2d q2.toInt64), .double (FP.l2d q3.toInt64)] (.double 0) := A25v
    refine g_aload X25 hx hby at_79 (pc' := 81) rfl rfl rfl ?_
    refine g_iconst X25 hx hby at_81 (pc' := 82) rfl (z := (1 : Int32)) rfl ?_
    refine g_iloadN X25 hx hby at_82 (pc' := 83) rfl rfl ?_
    refine g_i2l X25 hx hby at_83 (pc' := 84) rfl ?_
    refine g_iload X25 hx hby at_84 (pc' := 86) rfl rfl ?_
    refine g_i2l X25 hx hby at_86 (pc' := 87) rfl ?_
    refine g_ladd X25 hx hby at_87 (pc' := 88) rfl ?_
    refine g_l2d X25 hx hby at_88 (pc' := 89) rfl ?_
    refine g_dastore X25 hx hZ 1 hby at_89 (pc' := 90) rfl rfl A25_b22 (by decide) (by decide) (by first | decide | simp) ?_
    intro T26 X26 W26 A26v
    have N26 := Fr.snoc X26 N25 (Nat.le_trans Z21 (Nat.le_of_eq hb22.symm))
    have Z26 : n0 ≤ T26.heap.size := (W26.size ▸ Z25)
    have E26_b21 := E25_b21.wr W26
    have E26_b22 := E25_b22.wr W26
    have A26_b21 := A25.other W26 ne22_b21
    have A26 : Arv Z T26.heap b22 c22 .double (2 : Int32) [.double (FP.l2d (q2.toInt64 + (dd q1 (2 : Int32)).toInt64)), .double (FP.l2d (q3.toInt64 + (dd q1 (4 : Int32)).toInt64))] (.double 0) := A26v
    refine g_iload X26 hx hby at_90 (pc' := 92) rfl rfl ?_
    refine g_iconst X26 hx hby at_92 (pc' := 93) rfl (z := (2 : Int32)) rfl ?_
    refine g_icmp_le X26 hx hby at_93 (by decide) (pc' := 113) (by decide) (pn := 96) rfl (fun _ => ?_) (fun z => absurd z (by decide))
    refine g_iload X26 hx hby at_113 (pc' := 115) rfl rfl ?_
    refine g_if_le X26 hx hby at_115 (by decide) (pc' := 123) (by decide) (pn := 118) rfl (fun z => absurd z (by decide)) (fun _ => ?_)
    refine g_iload X26 hx hby at_118 (pc' := 120) rfl rfl ?_
    refine g_if_lt X26 hx hby at_120 (by decide) (pc' := 145) (by decide) (pn := 123) rfl (fun hc120_27 => ?_) (fun hc120_27 => ?_)
    · refine g_iconst X26 hx hby at_145 (pc' := 146) rfl (z := (1 : Int32)) rfl ?_
      refine g_goto X26 hx hby at_146 (by decide) (pc' := 150) (by decide) ?_
      refine g_istore X26 hx hby at_150 (pc' := 152) rfl (l' := #[.val (.int q1), .val (.int q2), .val (.int q3), .val (.int q4), .val (.int (2 : Int32)), .val (.int (dd q1 (2 : Int32))), .val (.int (dd q1 (4 : Int32))), .val (.int (dd q1 (6 : Int32))), .val (.ref b21), .val (.ref b22), .val (.int (1 : Int32)), .unset, .unset]) rfl ?_
      refine g_iload X26 hx hby at_152 (pc' := 154) rfl rfl ?_
      refine g_if_le X26 hx hby at_154 (by decide) (pc' := 162) (by decide) (pn := 157) rfl (fun z => absurd z (by decide)) (fun _ => ?_)
      refine g_iload X26 hx hby at_157 (pc' := 159) rfl rfl ?_
      refine g_if_gt X26 hx hby at_159 (by decide) (pc' := 184) (by decide) (pn := 162) rfl (fun hc159_28 => ?_) (fun hc159_28 => ?_)
      · refine g_iconst X26 hx hby at_184 (pc' := 185) rfl (z := (1 : Int32)) rfl ?_
        refine g_goto X26 hx hby at_185 (by decide) (pc' := 189) (by decide) ?_
        refine g_istore X26 hx hby at_189 (pc' := 191) rfl (l' := #[.val (.int q1), .val (.int q2), .val (.int q3), .val (.int q4), .val (.int (2 : Int32)), .val (.int (dd q1 (2 : Int32))), .val (.int (dd q1 (4 : Int32))), .val (.int (dd q1 (6 : Int32))), .val (.ref b21), .val (.ref b22), .val (.int (1 : Int32)), .val (.int (1 : Int32)), .unset]) rfl ?_
        refine g_iload X26 hx hby at_191 (pc' := 193) rfl rfl ?_
        refine g_if_ne X26 hx hby at_193 (by decide) (pc' := 205) (by decide) (pn := 196) rfl (fun _ => ?_) (fun z => absurd z (by decide))
        refine g_iconst X26 hx hby at_205 (pc' := 206) rfl (z := (0 : Int32)) rfl ?_
        refine g_istore X26 hx hby at_206 (pc' := 208) rfl (l' := #[.val (.int q1), .val (.int q2), .val (.int q3), .val (.int q4), .val (.int (2 : Int32)), .val (.int (dd q1 (2 : Int32))), .val (.int (dd q1 (4 : Int32))), .val (.int (dd q1 (6 : Int32))), .val (.ref b21), .val (.ref b22), .val (.int (1 : Int32)), .val (.int (1 : Int32)), .val (.int (0 : Int32))]) rfl ?_
        refine g_aload X26 hx hby at_208 (pc' := 210) rfl rfl rfl ?_
        refine g_aload X26 hx hby at_210 (pc' := 212) rfl rfl rfl ?_
        refine g_callS X26 hx hZ hown (W := 0) (argsL := [.ref b21, .ref b22]) (rest := []) hby at_212 (pc' := 215) rfl (by rw [hml]; rfl) (w_1 hw) (w_2 hw) (w_3 hw) (w_4 hw) (by decide) (rm1_2 l Z a0 hw [] b21 b22 T26.heap n0 q2.toInt64 (q2.toInt64 + (dd q1 (2 : Int32)).toInt64) (own_b53 _) (own_b53s _ _ _) q3.toInt64 (q3.toInt64 + (dd q1 (4 : Int32)).toInt64) (own_b53 _) (own_b53s _ _ _) _ _ A26_b21 A26) rfl (by decide) (by decide) (by decide) (by decide) rfl pd__28_5bD_5bD_29Z rfl rfl (Nat.le_of_eq rfl) ?_
        rintro _ T29 L29 X29 ⟨rfl, N29q, e29⟩
        have N29 := Fr.app N26 N29q
        show GoE p e below _ (T29.setTop (mkF m 215 #[.val (.int q1), .val (.int q2), .val (.int q3), .val (.int q4), .val (.int (2 : Int32)), .val (.int (dd q1 (2 : Int32))), .val (.int (dd q1 (4 : Int32))), .val (.int (dd q1 (6 : Int32))), .val (.ref b21), .val (.ref b22), .val (.int (1 : Int32)), .val (.int (1 : Int32)), .val (.int (0 : Int32))] [.int (domL [(q2.toInt64, (q2.toInt64 + (dd q1 (2 : Int32)).toInt64)), (q3.toInt64, (q3.toInt64 + (dd q1 (4 : Int32)).toInt64))] 0)]))
        refine g_iload X29 hx hby at_215 (pc' := 217) rfl rfl ?_
        refine g_icmp_ne X29 hx hby at_217 (by decide) (pc' := 224) (by decide) (pn := 220) rfl (fun z => absurd z (fun z => z (by simp only [domL, own_lt1, own_lt2, hc120_27, hc159_28, if_true, if_false, ↓reduceIte, ite_self]))) (fun hc217_30 => ?_)
        refine g_iconst X29 hx hby at_220 (pc' := 221) rfl (z := (1 : Int32)) rfl ?_
        refine g_goto X29 hx hby at_221 (by decide) (pc' := 225) (by decide) ?_
        exact g_retN (Q := (fun v h L => v = some (.int 1) ∧ Fr n0 L)) (w := (1 : Int32)) X29 hx hby at_225 hret (by simp) (by first | decide | rfl) hlk (by decide) (by decide) ⟨rfl, N29⟩
      · refine g_iload X26 hx hby at_162 (pc' := 164) rfl rfl ?_
        refine g_iconst X26 hx hby at_164 (pc' := 165) rfl (z := (1 : Int32)) rfl ?_
        refine g_icmp_le X26 hx hby at_165 (by decide) (pc' := 173) (by decide) (pn := 168) rfl (fun z => absurd z (by decide)) (fun _ => ?_)
        refine g_iload X26 hx hby at_168 (pc' := 170) rfl rfl ?_
        refine g_if_gt X26 hx hby at_170 (by decide) (pc' := 184) (by decide) (pn := 173) rfl (fun hc170_31 => ?_) (fun hc170_31 => ?_)
        · refine g_iconst X26 hx hby at_184 (pc' := 185) rfl (z := (1 : Int32)) rfl ?_
          refine g_goto X26 hx hby at_185 (by decide) (pc' := 189) (by decide) ?_
          refine g_istore X26 hx hby at_189 (pc' := 191) rfl (l' := #[.val (.int q1), .val (.int q2), .val (.int q3), .val (.int q4), .val (.int (2 : Int32)), .val (.int (dd q1 (2 : Int32))), .val (.int (dd q1 (4 : Int32))), .val (.int (dd q1 (6 : Int32))), .val (.ref b21), .val (.ref b22), .val (.int (1 : Int32)), .val (.int (1 : Int32)), .unset]) rfl ?_
          refine g_iload X26 hx hby at_191 (pc' := 193) rfl rfl ?_
          refine g_if_ne X26 hx hby at_193 (by decide) (pc' := 205) (by decide) (pn := 196) rfl (fun _ => ?_) (fun z => absurd z (by decide))
          refine g_iconst X26 hx hby at_205 (pc' := 206) rfl (z := (0 : Int32)) rfl ?_
          refine g_istore X26 hx hby at_206 (pc' := 208) rfl (l' := #[.val (.int q1), .val (.int q2), .val (.int q3), .val (.int q4), .val (.int (2 : Int32)), .val (.int (dd q1 (2 : Int32))), .val (.int (dd q1 (4 : Int32))), .val (.int (dd q1 (6 : Int32))), .val (.ref b21), .val (.ref b22), .val (.int (1 : Int32)), .val (.int (1 : Int32)), .val (.int (0 : Int32))]) rfl ?_
          refine g_aload X26 hx hby at_208 (pc' := 210) rfl rfl rfl ?_
          refine g_aload X26 hx hby at_210 (pc' := 212) rfl rfl rfl ?_
          refine g_callS X26 hx hZ hown (W := 0) (argsL := [.ref b21, .ref b22]) (rest := []) hby at_212 (pc' := 215) rfl (by rw [hml]; rfl) (w_1 hw) (w_2 hw) (w_3 hw) (w_4 hw) (by decide) (rm1_2 l Z a0 hw [] b21 b22 T26.heap n0 q2.toInt64 (q2.toInt64 + (dd q1 (2 : Int32)).toInt64) (own_b53 _) (own_b53s _ _ _) q3.toInt64 (q3.toInt64 + (dd q1 (4 : Int32)).toInt64) (own_b53 _) (own_b53s _ _ _) _ _ A26_b21 A26) rfl (by decide) (by decide) (by decide) (by decide) rfl pd__28_5bD_5bD_29Z rfl rfl (Nat.le_of_eq rfl) ?_
          rintro _ T32 L32 X32 ⟨rfl, N32q, e32⟩
          have N32 := Fr.app N26 N32q
          show GoE p e below _ (T32.setTop (mkF m 215 #[.val (.int q1), .val (.int q2), .val (.int q3), .val (.int q4), .val (.int (2 : Int32)), .val (.int (dd q1 (2 : Int32))), .val (.int (dd q1 (4 : Int32))), .val (.int (dd q1 (6 : Int32))), .val (.ref b21), .val (.ref b22), .val (.int (1 : Int32)), .val (.int (1 : Int32)), .val (.int (0 : Int32))] [.int (domL [(q2.toInt64, (q2.toInt64 + (dd q1 (2 : Int32)).toInt64)), (q3.toInt64, (q3.toInt64 + (dd q1 (4 : Int32)).toInt64))] 0)]))
          refine g_iload X32 hx hby at_215 (pc' := 217) rfl rfl ?_
          refine g_icmp_ne X32 hx hby at_217 (by decide) (pc' := 224) (by decide) (pn := 220) rfl (fun z => absurd z (fun z => z (by simp only [domL, own_lt1, own_lt2, hc120_27, hc159_28, hc170_31, if_true, if_false, ↓reduceIte, ite_self]))) (fun hc217_33 => ?_)
          refine g_iconst X32 hx hby at_220 (pc' := 221) rfl (z := (1 : Int32)) rfl ?_
          refine g_goto X32 hx hby at_221 (by decide) (pc' := 225) (by decide) ?_
          exact g_retN (Q := (fun v h L => v = some (.int 1) ∧ Fr n0 L)) (w := (1 : Int32)) X32 hx hby at_225 hret (by simp) (by first | decide | rfl) hlk (by decide) (by decide) ⟨rfl, N32⟩
        · refine g_iload X26 hx hby at_173 (pc' := 175) rfl rfl ?_
          refine g_iconst X26 hx hby at_175 (pc' := 176) rfl (z := (2 : Int32)) rfl ?_
          refine g_icmp_le X26 hx hby at_176 (by decide) (pc' := 188) (by decide) (pn := 179) rfl (fun _ => ?_) (fun z => absurd z (by decide))
          refine g_iconst X26 hx hby at_188 (pc' := 189) rfl (z := (0 : Int32)) rfl ?_
          refine g_istore X26 hx hby at_189 (pc' := 191) rfl (l' := #[.val (.int q1), .val (.int q2), .val (.int q3), .val (.int q4), .val (.int (2 : Int32)), .val (.int (dd q1 (2 : Int32))), .val (.int (dd q1 (4 : Int32))), .val (.int (dd q1 (6 : Int32))), .val (.ref b21), .val (.ref b22), .val (.int (1 : Int32)), .val (.int (0 : Int32)), .unset]) rfl ?_
          refine g_iload X26 hx hby at_191 (pc' := 193) rfl rfl ?_
          refine g_if_ne X26 hx hby at_193 (by decide) (pc' := 205) (by decide) (pn := 196) rfl (fun _ => ?_) (fun z => absurd z (by decide))
          refine g_iconst X26 hx hby at_205 (pc' := 206) rfl (z := (0 : Int32)) rfl ?_
          refine g_istore X26 hx hby at_206 (pc' := 208) rfl (l' := #[.val (.int q1), .val (.int q2), .val (.int q3), .val (.int q4), .val (.int (2 : Int32)), .val (.int (dd q1 (2 : Int32))), .val (.int (dd q1 (4 : Int32))), .val (.int (dd q1 (6 : Int32))), .val (.ref b21), .val (.ref b22), .val (.int (1 : Int32)), .val (.int (0 : Int32)), .val (.int (0 : Int32))]) rfl ?_
          refine g_aload X26 hx hby at_208 (pc' := 210) rfl rfl rfl ?_
          refine g_aload X26 hx hby at_210 (pc' := 212) rfl rfl rfl ?_
          refine g_callS X26 hx hZ hown (W := 0) (argsL := [.ref b21, .ref b22]) (rest := []) hby at_212 (pc' := 215) rfl (by rw [hml]; rfl) (w_1 hw) (w_2 hw) (w_3 hw) (w_4 hw) (by decide) (rm1_2 l Z a0 hw [] b21 b22 T26.heap n0 q2.toInt64 (q2.toInt64 + (dd q1 (2 : Int32)).toInt64) (own_b53 _) (own_b53s _ _ _) q3.toInt64 (q3.toInt64 + (dd q1 (4 : Int32)).toInt64) (own_b53 _) (own_b53s _ _ _) _ _ A26_b21 A26) rfl (by decide) (by decide) (by decide) (by decide) rfl pd__28_5bD_5bD_29Z rfl rfl (Nat.le_of_eq rfl) ?_
          rintro _ T34 L34 X34 ⟨rfl, N34q, e34⟩
          have N34 := Fr.app N26 N34q
          show GoE p e below _ (T34.setTop (mkF m 215 #[.val (.int q1), .val (.int q2), .val (.int q3), .val (.int q4), .val (.int (2 : Int32)), .val (.int (dd q1 (2 : Int32))), .val (.int (dd q1 (4 : Int32))), .val (.int (dd q1 (6 : Int32))), .val (.ref b21), .val (.ref b22), .val (.int (1 : Int32)), .val (.int (0 : Int32)), .val (.int (0 : Int32))] [.int (domL [(q2.toInt64, (q2.toInt64 + (dd q1 (2 : Int32)).toInt64)), (q3.toInt64, (q3.toInt64 + (dd q1 (4 : Int32)).toInt64))] 0)]))
          refine g_iload X34 hx hby at_215 (pc' := 217) rfl rfl ?_
          refine g_icmp_ne X34 hx hby at_217 (by decide) (pc' := 224) (by decide) (pn := 220) rfl (fun z => absurd z (fun z => z (by simp only [domL, own_lt1, own_lt2, hc120_27, hc159_28, hc170_31, if_true, if_false, ↓reduceIte, ite_self]))) (fun hc217_35 => ?_)
          refine g_iconst X34 hx hby at_220 (pc' := 221) rfl (z := (1 : Int32)) rfl ?_
          refine g_goto X34 hx hby at_221 (by decide) (pc' := 225) (by decide) ?_
          exact g_retN (Q := (fun v h L => v = some (.int 1) ∧ Fr n0 L)) (w := (1 : Int32)) X34 hx hby at_225 hret (by simp) (by first | decide | rfl) hlk (by decide) (by decide) ⟨rfl, N34⟩
    · refine g_iload X26 hx hby at_123 (pc' := 125) rfl rfl ?_
      refine g_iconst X26 hx hby at_125 (pc' := 126) rfl (z := (1 : Int32)) rfl ?_
      refine g_icmp_le X26 hx hby at_126 (by decide) (pc' := 134) (by decide) (pn := 129) rfl (fun z => absurd z (by decide)) (fun _ => ?_)
      refine g_iload X26 hx hby at_129 (pc' := 131) rfl rfl ?_
      refine g_if_lt X26 hx hby at_131 (by decide) (pc' := 145) (by decide) (pn := 134) rfl (fun hc131_36 => ?_) (fun hc131_36 => ?_)
      · refine g_iconst X26 hx hby at_145 (pc' := 146) rfl (z := (1 : Int32)) rfl ?_
        refine g_goto X26 hx hby at_146 (by decide) (pc' := 150) (by decide) ?_
        refine g_istore X26 hx hby at_150 (pc' := 152) rfl (l' := #[.val (.int q1), .val (.int q2), .val (.int q3), .val (.int q4), .val (.int (2 : Int32)), .val (.int (dd q1 (2 : Int32))), .val (.int (dd q1 (4 : Int32))), .val (.int (dd q1 (6 : Int32))), .val (.ref b21), .val (.ref b22), .val (.int (1 : Int32)), .unset, .unset]) rfl ?_
        refine g_iload X26 hx hby at_152 (pc' := 154) rfl rfl ?_
        refine g_if_le X26 hx hby at_154 (by decide) (pc' := 162) (by decide) (pn := 157) rfl (fun z => absurd z (by decide)) (fun _ => ?_)
        refine g_iload X26 hx hby at_157 (pc' := 159) rfl rfl ?_
        refine g_if_gt X26 hx hby at_159 (by decide) (pc' := 184) (by decide) (pn := 162) rfl (fun hc159_37 => ?_) (fun hc159_37 => ?_)
        · refine g_iconst X26 hx hby at_184 (pc' := 185) rfl (z := (1 : Int32)) rfl ?_
          refine g_goto X26 hx hby at_185 (by decide) (pc' := 189) (by decide) ?_
          refine g_istore X26 hx hby at_189 (pc' := 191) rfl (l' := #[.val (.int q1), .val (.int q2), .val (.int q3), .val (.int q4), .val (.int (2 : Int32)), .val (.int (dd q1 (2 : Int32))), .val (.int (dd q1 (4 : Int32))), .val (.int (dd q1 (6 : Int32))), .val (.ref b21), .val (.ref b22), .val (.int (1 : Int32)), .val (.int (1 : Int32)), .unset]) rfl ?_
          refine g_iload X26 hx hby at_191 (pc' := 193) rfl rfl ?_
          refine g_if_ne X26 hx hby at_193 (by decide) (pc' := 205) (by decide) (pn := 196) rfl (fun _ => ?_) (fun z => absurd z (by decide))
          refine g_iconst X26 hx hby at_205 (pc' := 206) rfl (z := (0 : Int32)) rfl ?_
          refine g_istore X26 hx hby at_206 (pc' := 208) rfl (l' := #[.val (.int q1), .val (.int q2), .val (.int q3), .val (.int q4), .val (.int (2 : Int32)), .val (.int (dd q1 (2 : Int32))), .val (.int (dd q1 (4 : Int32))), .val (.int (dd q1 (6 : Int32))), .val (.ref b21), .val (.ref b22), .val (.int (1 : Int32)), .val (.int (1 : Int32)), .val (.int (0 : Int32))]) rfl ?_
          refine g_aload X26 hx hby at_208 (pc' := 210) rfl rfl rfl ?_
          refine g_aload X26 hx hby at_210 (pc' := 212) rfl rfl rfl ?_
          refine g_callS X26 hx hZ hown (W := 0) (argsL := [.ref b21, .ref b22]) (rest := []) hby at_212 (pc' := 215) rfl (by rw [hml]; rfl) (w_1 hw) (w_2 hw) (w_3 hw) (w_4 hw) (by decide) (rm1_2 l Z a0 hw [] b21 b22 T26.heap n0 q2.toInt64 (q2.toInt64 + (dd q1 (2 : Int32)).toInt64) (own_b53 _) (own_b53s _ _ _) q3.toInt64 (q3.toInt64 + (dd q1 (4 : Int32)).toInt64) (own_b53 _) (own_b53s _ _ _) _ _ A26_b21 A26) rfl (by decide) (by decide) (by decide) (by decide) rfl pd__28_5bD_5bD_29Z rfl rfl (Nat.le_of_eq rfl) ?_
          rintro _ T38 L38 X38 ⟨rfl, N38q, e38⟩
          have N38 := Fr.app N26 N38q
          show GoE p e below _ (T38.setTop (mkF m 215 #[.val (.int q1), .val (.int q2), .val (.int q3), .val (.int q4), .val (.int (2 : Int32)), .val (.int (dd q1 (2 : Int32))), .val (.int (dd q1 (4 : Int32))), .val (.int (dd q1 (6 : Int32))), .val (.ref b21), .val (.ref b22), .val (.int (1 : Int32)), .val (.int (1 : Int32)), .val (.int (0 : Int32))] [.int (domL [(q2.toInt64, (q2.toInt64 + (dd q1 (2 : Int32)).toInt64)), (q3.toInt64, (q3.toInt64 + (dd q1 (4 : Int32)).toInt64))] 0)]))
          refine g_iload X38 hx hby at_215 (pc' := 217) rfl rfl ?_
          refine g_icmp_ne X38 hx hby at_217 (by decide) (pc' := 224) (by decide) (pn := 220) rfl (fun z => absurd z (fun z => z (by simp only [domL, own_lt1, own_lt2, hc120_27, hc131_36, hc159_37, if_true, if_false, ↓reduceIte, ite_self]))) (fun hc217_39 => ?_)
          refine g_iconst X38 hx hby at_220 (pc' := 221) rfl (z := (1 : Int32)) rfl ?_
          refine g_goto X38 hx hby at_221 (by decide) (pc' := 225) (by decide) ?_
          exact g_retN (Q := (fun v h L => v = some (.int 1) ∧ Fr n0 L)) (w := (1 : Int32)) X38 hx hby at_225 hret (by simp) (by first | decide | rfl) hlk (by decide) (by decide) ⟨rfl, N38⟩
        · refine g_iload X26 hx hby at_162 (pc' := 164) rfl rfl ?_
          refine g_iconst X26 hx hby at_164 (pc' := 165) rfl (z := (1 : Int32)) rfl ?_
          refine g_icmp_le X26 hx hby at_165 (by decide) (pc' := 173) (by decide) (pn := 168) rfl (fun z => absurd z (by decide)) (fun _ => ?_)
          refine g_iload X26 hx hby at_168 (pc' := 170) rfl rfl ?_
          refine g_if_gt X26 hx hby at_170 (by decide) (pc' := 184) (by decide) (pn := 173) rfl (fun hc170_40 => ?_) (fun hc170_40 => ?_)
          · refine g_iconst X26 hx hby at_184 (pc' := 185) rfl (z := (1 : Int32)) rfl ?_
            refine g_goto X26 hx hby at_185 (by decide) (pc' := 189) (by decide) ?_
            refine g_istore X26 hx hby at_189 (pc' := 191) rfl (l' := #[.val (.int q1), .val (.int q2), .val (.int q3), .val (.int q4), .val (.int (2 : Int32)), .val (.int (dd q1 (2 : Int32))), .val (.int (dd q1 (4 : Int32))), .val (.int (dd q1 (6 : Int32))), .val (.ref b21), .val (.ref b22), .val (.int (1 : Int32)), .val (.int (1 : Int32)), .unset]) rfl ?_
            refine g_iload X26 hx hby at_191 (pc' := 193) rfl rfl ?_
            refine g_if_ne X26 hx hby at_193 (by decide) (pc' := 205) (by decide) (pn := 196) rfl (fun _ => ?_) (fun z => absurd z (by decide))
            refine g_iconst X26 hx hby at_205 (pc' := 206) rfl (z := (0 : Int32)) rfl ?_
            refine g_istore X26 hx hby at_206 (pc' := 208) rfl (l' := #[.val (.int q1), .val (.int q2), .val (.int q3), .val (.int q4), .val (.int (2 : Int32)), .val (.int (dd q1 (2 : Int32))), .val (.int (dd q1 (4 : Int32))), .val (.int (dd q1 (6 : Int32))), .val (.ref b21), .val (.ref b22), .val (.int (1 : Int32)), .val (.int (1 : Int32)), .val (.int (0 : Int32))]) rfl ?_
            refine g_aload X26 hx hby at_208 (pc' := 210) rfl rfl rfl ?_
            refine g_aload X26 hx hby at_210 (pc' := 212) rfl rfl rfl ?_
            refine g_callS X26 hx hZ hown (W := 0) (argsL := [.ref b21, .ref b22]) (rest := []) hby at_212 (pc' := 215) rfl (by rw [hml]; rfl) (w_1 hw) (w_2 hw) (w_3 hw) (w_4 hw) (by decide) (rm1_2 l Z a0 hw [] b21 b22 T26.heap n0 q2.toInt64 (q2.toInt64 + (dd q1 (2 : Int32)).toInt64) (own_b53 _) (own_b53s _ _ _) q3.toInt64 (q3.toInt64 + (dd q1 (4 : Int32)).toInt64) (own_b53 _) (own_b53s _ _ _) _ _ A26_b21 A26) rfl (by decide) (by decide) (by decide) (by decide) rfl pd__28_5bD_5bD_29Z rfl rfl (Nat.le_of_eq rfl) ?_
            rintro _ T41 L41 X41 ⟨rfl, N41q, e41⟩
            have N41 := Fr.app N26 N41q
            show GoE p e below _ (T41.setTop (mkF m 215 #[.val (.int q1), .val (.int q2), .val (.int q3), .val (.int q4), .val (.int (2 : Int32)), .val (.int (dd q1 (2 : Int32))), .val (.int (dd q1 (4 : Int32))), .val (.int (dd q1 (6 : Int32))), .val (.ref b21), .val (.ref b22), .val (.int (1 : Int32)), .val (.int (1 : Int32)), .val (.int (0 : Int32))] [.int (domL [(q2.toInt64, (q2.toInt64 + (dd q1 (2 : Int32)).toInt64)), (q3.toInt64, (q3.toInt64 + (dd q1 (4 : Int32)).toInt64))] 0)]))
            refine g_iload X41 hx hby at_215 (pc' := 217) rfl rfl ?_
            refine g_icmp_ne X41 hx hby at_217 (by decide) (pc' := 224) (by decide) (pn := 220) rfl (fun z => absurd z (fun z => z (by simp only [domL, own_lt1, own_lt2, hc120_27, hc131_36, hc159_37, hc170_40, if_true, if_false, ↓reduceIte, ite_self]))) (fun hc217_42 => ?_)
            refine g_iconst X41 hx hby at_220 (pc' := 221) rfl (z := (1 : Int32)) rfl ?_
            refine g_goto X41 hx hby at_221 (by decide) (pc' := 225) (by decide) ?_
            exact g_retN (Q := (fun v h L => v = some (.int 1) ∧ Fr n0 L)) (w := (1 : Int32)) X41 hx hby at_225 hret (by simp) (by first | decide | rfl) hlk (by decide) (by decide) ⟨rfl, N41⟩
          · refine g_iload X26 hx hby at_173 (pc' := 175) rfl rfl ?_
            refine g_iconst X26 hx hby at_175 (pc' := 176) rfl (z := (2 : Int32)) rfl ?_
            refine g_icmp_le X26 hx hby at_176 (by decide) (pc' := 188) (by decide) (pn := 179) rfl (fun _ => ?_) (fun z => absurd z (by decide))
            refine g_iconst X26 hx hby at_188 (pc' := 189) rfl (z := (0 : Int32)) rfl ?_
            refine g_istore X26 hx hby at_189 (pc' := 191) rfl (l' := #[.val (.int q1), .val (.int q2), .val (.int q3), .val (.int q4), .val (.int (2 : Int32)), .val (.int (dd q1 (2 : Int32))), .val (.int (dd q1 (4 : Int32))), .val (.int (dd q1 (6 : Int32))), .val (.ref b21), .val (.ref b22), .val (.int (1 : Int32)), .val (.int (0 : Int32)), .unset]) rfl ?_
            refine g_iload X26 hx hby at_191 (pc' := 193) rfl rfl ?_
            refine g_if_ne X26 hx hby at_193 (by decide) (pc' := 205) (by decide) (pn := 196) rfl (fun _ => ?_) (fun z => absurd z (by decide))
            refine g_iconst X26 hx hby at_205 (pc' := 206) rfl (z := (0 : Int32)) rfl ?_
            refine g_istore X26 hx hby at_206 (pc' := 208) rfl (l' := #[.val (.int q1), .val (.int q2), .val (.int q3), .val (.int q4), .val (.int (2 : Int32)), .val (.int (dd q1 (2 : Int32))), .val (.int (dd q1 (4 : Int32))), .val (.int (dd q1 (6 : Int32))), .val (.ref b21), .val (.ref b22), .val (.int (1 : Int32)), .val (.int (0 : Int32)), .val (.int (0 : Int32))]) rfl ?_
            refine g_aload X26 hx hby at_208 (pc' := 210) rfl rfl rfl ?_
            refine g_aload X26 hx hby at_210 (pc' := 212) rfl rfl rfl ?_
            refine g_callS X26 hx hZ hown (W := 0) (argsL := [.ref b21, .ref b22]) (rest := []) hby at_212 (pc' := 215) rfl (by rw [hml]; rfl) (w_1 hw) (w_2 hw) (w_3 hw) (w_4 hw) (by decide) (rm1_2 l Z a0 hw [] b21 b22 T26.heap n0 q2.toInt64 (q2.toInt64 + (dd q1 (2 : Int32)).toInt64) (own_b53 _) (own_b53s _ _ _) q3.toInt64 (q3.toInt64 + (dd q1 (4 : Int32)).toInt64) (own_b53 _) (own_b53s _ _ _) _ _ A26_b21 A26) rfl (by decide) (by decide) (by decide) (by decide) rfl pd__28_5bD_5bD_29Z rfl rfl (Nat.le_of_eq rfl) ?_
            rintro _ T43 L43 X43 ⟨rfl, N43q, e43⟩
            have N43 := Fr.app N26 N43q
            show GoE p e below _ (T43.setTop (mkF m 215 #[.val (.int q1), .val (.int q2), .val (.int q3), .val (.int q4), .val (.int (2 : Int32)), .val (.int (dd q1 (2 : Int32))), .val (.int (dd q1 (4 : Int32))), .val (.int (dd q1 (6 : Int32))), .val (.ref b21), .val (.ref b22), .val (.int (1 : Int32)), .val (.int (0 : Int32)), .val (.int (0 : Int32))] [.int (domL [(q2.toInt64, (q2.toInt64 + (dd q1 (2 : Int32)).toInt64)), (q3.toInt64, (q3.toInt64 + (dd q1 (4 : Int32)).toInt64))] 0)]))
            refine g_iload X43 hx hby at_215 (pc' := 217) rfl rfl ?_
            refine g_icmp_ne X43 hx hby at_217 (by decide) (pc' := 224) (by decide) (pn := 220) rfl (fun z => absurd z (fun z => z (by simp only [domL, own_lt1, own_lt2, hc120_27, hc131_36, hc159_37, hc170_40, if_true, if_false, ↓reduceIte, ite_self]))) (fun hc217_44 => ?_)
            refine g_iconst X43 hx hby at_220 (pc' := 221) rfl (z := (1 : Int32)) rfl ?_
            refine g_goto X43 hx hby at_221 (by decide) (pc' := 225) (by decide) ?_
            exact g_retN (Q := (fun v h L => v = some (.int 1) ∧ Fr n0 L)) (w := (1 : Int32)) X43 hx hby at_225 hret (by simp) (by first | decide | rfl) hlk (by decide) (by decide) ⟨rfl, N43⟩
      · refine g_iload X26 hx hby at_134 (pc' := 136) rfl rfl ?_
        refine g_iconst X26 hx hby at_136 (pc' := 137) rfl (z := (2 : Int32)) rfl ?_
        refine g_icmp_le X26 hx hby at_137 (by decide) (pc' := 149) (by decide) (pn := 140) rfl (fun _ => ?_) (fun z => absurd z (by decide))
        refine g_iconst X26 hx hby at_149 (pc' := 150) rfl (z := (0 : Int32)) rfl ?_
        refine g_istore X26 hx hby at_150 (pc' := 152) rfl (l' := #[.val (.int q1), .val (.int q2), .val (.int q3), .val (.int q4), .val (.int (2 : Int32)), .val (.int (dd q1 (2 : Int32))), .val (.int (dd q1 (4 : Int32))), .val (.int (dd q1 (6 : Int32))), .val (.ref b21), .val (.ref b22), .val (.int (0 : Int32)), .unset, .unset]) rfl ?_
        refine g_iload X26 hx hby at_152 (pc' := 154) rfl rfl ?_
        refine g_if_le X26 hx hby at_154 (by decide) (pc' := 162) (by decide) (pn := 157) rfl (fun z => absurd z (by decide)) (fun _ => ?_)
        refine g_iload X26 hx hby at_157 (pc' := 159) rfl rfl ?_
        refine g_if_gt X26 hx hby at_159 (by decide) (pc' := 184) (by decide) (pn := 162) rfl (fun hc159_45 => ?_) (fun hc159_45 => ?_)
        · refine g_iconst X26 hx hby at_184 (pc' := 185) rfl (z := (1 : Int32)) rfl ?_
          refine g_goto X26 hx hby at_185 (by decide) (pc' := 189) (by decide) ?_
          refine g_istore X26 hx hby at_189 (pc' := 191) rfl (l' := #[.val (.int q1), .val (.int q2), .val (.int q3), .val (.int q4), .val (.int (2 : Int32)), .val (.int (dd q1 (2 : Int32))), .val (.int (dd q1 (4 : Int32))), .val (.int (dd q1 (6 : Int32))), .val (.ref b21), .val (.ref b22), .val (.int (0 : Int32)), .val (.int (1 : Int32)), .unset]) rfl ?_
          refine g_iload X26 hx hby at_191 (pc' := 193) rfl rfl ?_
          refine g_if_ne X26 hx hby at_193 (by decide) (pc' := 205) (by decide) (pn := 196) rfl (fun z => absurd z (by decide)) (fun _ => ?_)
          refine g_iload X26 hx hby at_196 (pc' := 198) rfl rfl ?_
          refine g_if_eq X26 hx hby at_198 (by decide) (pc' := 205) (by decide) (pn := 201) rfl (fun z => absurd z (by decide)) (fun _ => ?_)
          refine g_iconst X26 hx hby at_201 (pc' := 202) rfl (z := (1 : Int32)) rfl ?_
          refine g_goto X26 hx hby at_202 (by decide) (pc' := 206) (by decide) ?_
          refine g_istore X26 hx hby at_206 (pc' := 208) rfl (l' := #[.val (.int q1), .val (.int q2), .val (.int q3), .val (.int q4), .val (.int (2 : Int32)), .val (.int (dd q1 (2 : Int32))), .val (.int (dd q1 (4 : Int32))), .val (.int (dd q1 (6 : Int32))), .val (.ref b21), .val (.ref b22), .val (.int (0 : Int32)), .val (.int (1 : Int32)), .val (.int (1 : Int32))]) rfl ?_
          refine g_aload X26 hx hby at_208 (pc' := 210) rfl rfl rfl ?_
          refine g_aload X26 hx hby at_210 (pc' := 212) rfl rfl rfl ?_
          refine g_callS X26 hx hZ hown (W := 0) (argsL := [.ref b21, .ref b22]) (rest := []) hby at_212 (pc' := 215) rfl (by rw [hml]; rfl) (w_1 hw) (w_2 hw) (w_3 hw) (w_4 hw) (by decide) (rm1_2 l Z a0 hw [] b21 b22 T26.heap n0 q2.toInt64 (q2.toInt64 + (dd q1 (2 : Int32)).toInt64) (own_b53 _) (own_b53s _ _ _) q3.toInt64 (q3.toInt64 + (dd q1 (4 : Int32)).toInt64) (own_b53 _) (own_b53s _ _ _) _ _ A26_b21 A26) rfl (by decide) (by decide) (by decide) (by decide) rfl pd__28_5bD_5bD_29Z rfl rfl (Nat.le_of_eq rfl) ?_
          rintro _ T46 L46 X46 ⟨rfl, N46q, e46⟩
          have N46 := Fr.app N26 N46q
          show GoE p e below _ (T46.setTop (mkF m 215 #[.val (.int q1), .val (.int q2), .val (.int q3), .val (.int q4), .val (.int (2 : Int32)), .val (.int (dd q1 (2 : Int32))), .val (.int (dd q1 (4 : Int32))), .val (.int (dd q1 (6 : Int32))), .val (.ref b21), .val (.ref b22), .val (.int (0 : Int32)), .val (.int (1 : Int32)), .val (.int (1 : Int32))] [.int (domL [(q2.toInt64, (q2.toInt64 + (dd q1 (2 : Int32)).toInt64)), (q3.toInt64, (q3.toInt64 + (dd q1 (4 : Int32)).toInt64))] 0)]))
          refine g_iload X46 hx hby at_215 (pc' := 217) rfl rfl ?_
          refine g_icmp_ne X46 hx hby at_217 (by decide) (pc' := 224) (by decide) (pn := 220) rfl (fun z => absurd z (fun z => z (by simp only [domL, own_lt1, own_lt2, hc120_27, hc131_36, hc159_45, if_true, if_false, ↓reduceIte, ite_self]))) (fun hc217_47 => ?_)
          refine g_iconst X46 hx hby at_220 (pc' := 221) rfl (z := (1 : Int32)) rfl ?_
          refine g_goto X46 hx hby at_221 (by decide) (pc' := 225) (by decide) ?_
          exact g_retN (Q := (fun v h L => v = some (.int 1) ∧ Fr n0 L)) (w := (1 : Int32)) X46 hx hby at_225 hret (by simp) (by first | decide | rfl) hlk (by decide) (by decide) ⟨rfl, N46⟩
        · refine g_iload X26 hx hby at_162 (pc' := 164) rfl rfl ?_
          refine g_iconst X26 hx hby at_164 (pc' := 165) rfl (z := (1 : Int32)) rfl ?_
          refine g_icmp_le X26 hx hby at_165 (by decide) (pc' := 173) (by decide) (pn := 168) rfl (fun z => absurd z (by decide)) (fun _ => ?_)
          refine g_iload X26 hx hby at_168 (pc' := 170) rfl rfl ?_
          refine g_if_gt X26 hx hby at_170 (by decide) (pc' := 184) (by decide) (pn := 173) rfl (fun hc170_48 => ?_) (fun hc170_48 => ?_)
          · refine g_iconst X26 hx hby at_184 (pc' := 185) rfl (z := (1 : Int32)) rfl ?_
            refine g_goto X26 hx hby at_185 (by decide) (pc' := 189) (by decide) ?_
            refine g_istore X26 hx hby at_189 (pc' := 191) rfl (l' := #[.val (.int q1), .val (.int q2), .val (.int q3), .val (.int q4), .val (.int (2 : Int32)), .val (.int (dd q1 (2 : Int32))), .val (.int (dd q1 (4 : Int32))), .val (.int (dd q1 (6 : Int32))), .val (.ref b21), .val (.ref b22), .val (.int (0 : Int32)), .val (.int (1 : Int32)), .unset]) rfl ?_
            refine g_iload X26 hx hby at_191 (pc' := 193) rfl rfl ?_
            refine g_if_ne X26 hx hby at_193 (by decide) (pc' := 205) (by decide) (pn := 196) rfl (fun z => absurd z (by decide)) (fun _ => ?_)
            refine g_iload X26 hx hby at_196 (pc' := 198) rfl rfl ?_
            refine g_if_eq X26 hx hby at_198 (by decide) (pc' := 205) (by decide) (pn := 201) rfl (fun z => absurd z (by decide)) (fun _ => ?_)
            refine g_iconst X26 hx hby at_201 (pc' := 202) rfl (z := (1 : Int32)) rfl ?_
            refine g_goto X26 hx hby at_202 (by decide) (pc' := 206) (by decide) ?_
            refine g_istore X26 hx hby at_206 (pc' := 208) rfl (l' := #[.val (.int q1), .val (.int q2), .val (.int q3), .val (.int q4), .val (.int (2 : Int32)), .val (.int (dd q1 (2 : Int32))), .val (.int (dd q1 (4 : Int32))), .val (.int (dd q1 (6 : Int32))), .val (.ref b21), .val (.ref b22), .val (.int (0 : Int32)), .val (.int (1 : Int32)), .val (.int (1 : Int32))]) rfl ?_
            refine g_aload X26 hx hby at_208 (pc' := 210) rfl rfl rfl ?_
            refine g_aload X26 hx hby at_210 (pc' := 212) rfl rfl rfl ?_
            refine g_callS X26 hx hZ hown (W := 0) (argsL := [.ref b21, .ref b22]) (rest := []) hby at_212 (pc' := 215) rfl (by rw [hml]; rfl) (w_1 hw) (w_2 hw) (w_3 hw) (w_4 hw) (by decide) (rm1_2 l Z a0 hw [] b21 b22 T26.heap n0 q2.toInt64 (q2.toInt64 + (dd q1 (2 : Int32)).toInt64) (own_b53 _) (own_b53s _ _ _) q3.toInt64 (q3.toInt64 + (dd q1 (4 : Int32)).toInt64) (own_b53 _) (own_b53s _ _ _) _ _ A26_b21 A26) rfl (by decide) (by decide) (by decide) (by decide) rfl pd__28_5bD_5bD_29Z rfl rfl (Nat.le_of_eq rfl) ?_
            rintro _ T49 L49 X49 ⟨rfl, N49q, e49⟩
            have N49 := Fr.app N26 N49q
            show GoE p e below _ (T49.setTop (mkF m 215 #[.val (.int q1), .val (.int q2), .val (.int q3), .val (.int q4), .val (.int (2 : Int32)), .val (.int (dd q1 (2 : Int32))), .val (.int (dd q1 (4 : Int32))), .val (.int (dd q1 (6 : Int32))), .val (.ref b21), .val (.ref b22), .val (.int (0 : Int32)), .val (.int (1 : Int32)), .val (.int (1 : Int32))] [.int (domL [(q2.toInt64, (q2.toInt64 + (dd q1 (2 : Int32)).toInt64)), (q3.toInt64, (q3.toInt64 + (dd q1 (4 : Int32)).toInt64))] 0)]))
            refine g_iload X49 hx hby at_215 (pc' := 217) rfl rfl ?_
            refine g_icmp_ne X49 hx hby at_217 (by decide) (pc' := 224) (by decide) (pn := 220) rfl (fun z => absurd z (fun z => z (by simp only [domL, own_lt1, own_lt2, hc120_27, hc131_36, hc159_45, hc170_48, if_true, if_false, ↓reduceIte, ite_self]))) (fun hc217_50 => ?_)
            refine g_iconst X49 hx hby at_220 (pc' := 221) rfl (z := (1 : Int32)) rfl ?_
            refine g_goto X49 hx hby at_221 (by decide) (pc' := 225) (by decide) ?_
            exact g_retN (Q := (fun v h L => v = some (.int 1) ∧ Fr n0 L)) (w := (1 : Int32)) X49 hx hby at_225 hret (by simp) (by first | decide | rfl) hlk (by decide) (by decide) ⟨rfl, N49⟩
          · refine g_iload X26 hx hby at_173 (pc' := 175) rfl rfl ?_
            refine g_iconst X26 hx hby at_175 (pc' := 176) rfl (z := (2 : Int32)) rfl ?_
            refine g_icmp_le X26 hx hby at_176 (by decide) (pc' := 188) (by decide) (pn := 179) rfl (fun _ => ?_) (fun z => absurd z (by decide))
            refine g_iconst X26 hx hby at_188 (pc' := 189) rfl (z := (0 : Int32)) rfl ?_
            refine g_istore X26 hx hby at_189 (pc' := 191) rfl (l' := #[.val (.int q1), .val (.int q2), .val (.int q3), .val (.int q4), .val (.int (2 : Int32)), .val (.int (dd q1 (2 : Int32))), .val (.int (dd q1 (4 : Int32))), .val (.int (dd q1 (6 : Int32))), .val (.ref b21), .val (.ref b22), .val (.int (0 : Int32)), .val (.int (0 : Int32)), .unset]) rfl ?_
            refine g_iload X26 hx hby at_191 (pc' := 193) rfl rfl ?_
            refine g_if_ne X26 hx hby at_193 (by decide) (pc' := 205) (by decide) (pn := 196) rfl (fun z => absurd z (by decide)) (fun _ => ?_)
            refine g_iload X26 hx hby at_196 (pc' := 198) rfl rfl ?_
            refine g_if_eq X26 hx hby at_198 (by decide) (pc' := 205) (by decide) (pn := 201) rfl (fun _ => ?_) (fun z => absurd z (by decide))
            refine g_iconst X26 hx hby at_205 (pc' := 206) rfl (z := (0 : Int32)) rfl ?_
            refine g_istore X26 hx hby at_206 (pc' := 208) rfl (l' := #[.val (.int q1), .val (.int q2), .val (.int q3), .val (.int q4), .val (.int (2 : Int32)), .val (.int (dd q1 (2 : Int32))), .val (.int (dd q1 (4 : Int32))), .val (.int (dd q1 (6 : Int32))), .val (.ref b21), .val (.ref b22), .val (.int (0 : Int32)), .val (.int (0 : Int32)), .val (.int (0 : Int32))]) rfl ?_
            refine g_aload X26 hx hby at_208 (pc' := 210) rfl rfl rfl ?_
            refine g_aload X26 hx hby at_210 (pc' := 212) rfl rfl rfl ?_
            refine g_callS X26 hx hZ hown (W := 0) (argsL := [.ref b21, .ref b22]) (rest := []) hby at_212 (pc' := 215) rfl (by rw [hml]; rfl) (w_1 hw) (w_2 hw) (w_3 hw) (w_4 hw) (by decide) (rm1_2 l Z a0 hw [] b21 b22 T26.heap n0 q2.toInt64 (q2.toInt64 + (dd q1 (2 : Int32)).toInt64) (own_b53 _) (own_b53s _ _ _) q3.toInt64 (q3.toInt64 + (dd q1 (4 : Int32)).toInt64) (own_b53 _) (own_b53s _ _ _) _ _ A26_b21 A26) rfl (by decide) (by decide) (by decide) (by decide) rfl pd__28_5bD_5bD_29Z rfl rfl (Nat.le_of_eq rfl) ?_
            rintro _ T51 L51 X51 ⟨rfl, N51q, e51⟩
            have N51 := Fr.app N26 N51q
            show GoE p e below _ (T51.setTop (mkF m 215 #[.val (.int q1), .val (.int q2), .val (.int q3), .val (.int q4), .val (.int (2 : Int32)), .val (.int (dd q1 (2 : Int32))), .val (.int (dd q1 (4 : Int32))), .val (.int (dd q1 (6 : Int32))), .val (.ref b21), .val (.ref b22), .val (.int (0 : Int32)), .val (.int (0 : Int32)), .val (.int (0 : Int32))] [.int (domL [(q2.toInt64, (q2.toInt64 + (dd q1 (2 : Int32)).toInt64)), (q3.toInt64, (q3.toInt64 + (dd q1 (4 : Int32)).toInt64))] 0)]))
            refine g_iload X51 hx hby at_215 (pc' := 217) rfl rfl ?_
            refine g_icmp_ne X51 hx hby at_217 (by decide) (pc' := 224) (by decide) (pn := 220) rfl (fun z => absurd z (fun z => z (by simp only [domL, own_lt1, own_lt2, hc120_27, hc131_36, hc159_45, hc170_48, if_true, if_false, ↓reduceIte, ite_self]))) (fun hc217_52 => ?_)
            refine g_iconst X51 hx hby at_220 (pc' := 221) rfl (z := (1 : Int32)) rfl ?_
            refine g_goto X51 hx hby at_221 (by decide) (pc' := 225) (by decide) ?_
            exact g_retN (Q := (fun v h L => v = some (.int 1) ∧ Fr n0 L)) (w := (1 : Int32)) X51 hx hby at_225 hret (by simp) (by first | decide | rfl) hlk (by decide) (by decide) ⟨rfl, N51⟩
  · rw [hk1]
    refine g_istore X0 hx hby at_3 (pc' := 5) rfl (l' := #[.val (.int q1), .val (.int q2), .val (.int q3), .val (.int q4), .val (.int (3 : Int32)), .unset, .unset, .unset, .unset, .unset, .unset, .unset, .unset]) rfl ?_
    refine g_iloadN X0 hx hby at_5 (pc' := 6) rfl rfl ?_
    refine g_iconst X0 hx hby at_6 (pc' := 7) rfl (z := (2 : Int32)) rfl ?_
    refine g_iushr X0 hx hby at_7 (pc' := 8) rfl ?_
    refine g_iconst X0 hx hby at_8 (pc' := 9) rfl (z := (3 : Int32)) rfl ?_
    refine g_iand X0 hx hby at_9 (pc' := 10) rfl ?_
    refine g_iconst X0 hx hby at_10 (pc' := 11) rfl (z := (1 : Int32)) rfl ?_
    refine g_isub X0 hx hby at_11 (pc' := 12) rfl ?_
    refine g_istore X0 hx hby at_12 (pc' := 14) rfl (l' := #[.val (.int q1), .val (.int q2), .val (.int q3), .val (.int q4), .val (.int (3 : Int32)), .val (.int (dd q1 (2 : Int32))), .unset, .unset, .unset, .unset, .unset, .unset, .unset]) rfl ?_
    refine g_iloadN X0 hx hby at_14 (pc' := 15) rfl rfl ?_
    refine g_iconst X0 hx hby at_15 (pc' := 16) rfl (z := (4 : Int32)) rfl ?_
    refine g_iushr X0 hx hby at_16 (pc' := 17) rfl ?_
    refine g_iconst X0 hx hby at_17 (pc' := 18) rfl (z := (3 : Int32)) rfl ?_
    refine g_iand X0 hx hby at_18 (pc' := 19) rfl ?_
    refine g_iconst X0 hx hby at_19 (pc' := 20) rfl (z := (1 : Int32)) rfl ?_
    refine g_isub X0 hx hby at_20 (pc' := 21) rfl ?_
    refine g_istore X0 hx hby at_21 (pc' := 23) rfl (l' := #[.val (.int q1), .val (.int q2), .val (.int q3), .val (.int q4), .val (.int (3 : Int32)), .val (.int (dd q1 (2 : Int32))), .val (.int (dd q1 (4 : Int32))), .unset, .unset, .unset, .unset, .unset, .unset]) rfl ?_
    refine g_iloadN X0 hx hby at_23 (pc' := 24) rfl rfl ?_
    refine g_bipush X0 hx hby at_24 (pc' := 26) rfl (z := (6 : Int32)) rfl ?_
    refine g_iushr X0 hx hby at_26 (pc' := 27) rfl ?_
    refine g_iconst X0 hx hby at_27 (pc' := 28) rfl (z := (3 : Int32)) rfl ?_
    refine g_iand X0 hx hby at_28 (pc' := 29) rfl ?_
    refine g_iconst X0 hx hby at_29 (pc' := 30) rfl (z := (1 : Int32)) rfl ?_
    refine g_isub X0 hx hby at_30 (pc' := 31) rfl ?_
    refine g_istore X0 hx hby at_31 (pc' := 33) rfl (l' := #[.val (.int q1), .val (.int q2), .val (.int q3), .val (.int q4), .val (.int (3 : Int32)), .val (.int (dd q1 (2 : Int32))), .val (.int (dd q1 (4 : Int32))), .val (.int (dd q1 (6 : Int32))), .unset, .unset, .unset, .unset, .unset]) rfl ?_
    refine g_iload X0 hx hby at_33 (pc' := 35) rfl rfl ?_
    refine g_newarray X0 hx hZ 3  "[D" hby at_35 (pc' := 37) rfl (w_0 hw) e0 (by decide) (by decide) (by decide) (by decide) (by decide) rfl ?_
    intro T53 b53 c53 hb53 X53 E53 A53v A53x
    have Z53 := Nat.le_trans Z0 E53.1
    have A53 : Arv Z T53.heap b53 c53 .double (3 : Int32) [.double 0, .double 0, .double 0] (.double 0) := A53v
    refine g_astore X53 hx hby at_37 (pc' := 39) rfl rfl (l' := #[.val (.int q1), .val (.int q2), .val (.int q3), .val (.int q4), .val (.int (3 : Int32)), .val (.int (dd q1 (2 : Int32))), .val (.int (dd q1 (4 : Int32))), .val (.int (dd q1 (6 : Int32))), .val (.ref b53), .unset, .unset, .unset, .unset]) rfl ?_
    refine g_iload X53 hx hby at_39 (pc' := 41) rfl rfl ?_
    refine g_newarray X53 hx hZ 3  "[D" hby at_41 (pc' := 43) rfl (w_0 hw) rfl (by decide) (by decide) (by decide) (by decide) (by decide) rfl ?_
    intro T54 b54 c54 hb54 X54 E54 A54v A54x
    have Z54 := Nat.le_trans Z53 E54.1
    have A54_b53 := A53.ext E54
    have ne54_b53 : b53 ≠ b54 := hb54 ▸ Nat.ne_of_lt A53.lt
    have E54_b53 := A53x.ext E54
    have A54 : Arv Z T54.heap b54 c54 .double (3 : Int32) [.double 0, .double 0, .double 0] (.double 0) := A54v
    refine g_astore X54 hx hby at_43 (pc' := 45) rfl rfl (l' := #[.val (.int q1), .val (.int q2), .val (.int q3), .val (.int q4), .val (.int (3 : Int32)), .val (.int (dd q1 (2 : Int32))), .val (.int (dd q1 (4 : Int32))), .val (.int (dd q1 (6 : Int32))), .val (.ref b53), .val (.ref b54), .unset, .unset, .unset]) rfl ?_
    refine g_iload X54 hx hby at_45 (pc' := 47) rfl rfl ?_
    refine g_if_le X54 hx hby at_47 (by decide) (pc' := 67) (by decide) (pn := 50) rfl (fun z => absurd z (by decide)) (fun _ => ?_)
    refine g_aload X54 hx hby at_50 (pc' := 52) rfl rfl rfl ?_
    refine g_iconst X54 hx hby at_52 (pc' := 53) rfl (z := (0 : Int32)) rfl ?_
    refine g_iloadN X54 hx hby at_53 (pc' := 54) rfl rfl ?_
    refine g_i2d X54 hx hby at_54 (pc' := 55) rfl ?_
    refine g_dastore X54 hx hZ 0 hby at_55 (pc' := 56) rfl rfl A54_b53 (by decide) (by decide) (by first | decide | simp) ?_
    intro T55 X55 W55 A55v
    have N55 := Fr.snoc X55 N0 (Nat.le_trans Z0 (Nat.le_of_eq hb53.symm))
    have Z55 : n0 ≤ T55.heap.size := (W55.size ▸ Z54)
    have E55_b53 := E54_b53.wr W55
    have A55_b54 := A54.other W55 ne54_b53.symm
    have E55_b54 := A54x.wr W55
    have A55 : Arv Z T55.heap b53 c53 .double (3 : Int32) [.double (FP.l2d q2.toInt64), .double 0, .double 0] (.double 0) := A55v
    refine g_aload X55 hx hby at_56 (pc' := 58) rfl rfl rfl ?_
    refine g_iconst X55 hx hby at_58 (pc' := 59) rfl (z := (0 : Int32)) rfl ?_
    refine g_iloadN X55 hx hby at_59 (pc' := 60) rfl rfl ?_
    refine g_i2l X55 hx hby at_60 (pc' := 61) rfl ?_
    refine g_iload X55 hx hby at_61 (pc' := 63) rfl rfl ?_
    refine g_i2l X55 hx hby at_63 (pc' := 64) rfl ?_
    refine g_ladd X55 hx hby at_64 (pc' := 65) rfl ?_
    refine g_l2d X55 hx hby at_65 (pc' := 66) rfl ?_
    refine g_dastore X55 hx hZ 0 hby at_66 (pc' := 67) rfl rfl A55_b54 (by decide) (by decide) (by first | decide | simp) ?_
    intro T56 X56 W56 A56v
    have N56 := Fr.snoc X56 N55 (Nat.le_trans Z53 (Nat.le_of_eq hb54.symm))
    have Z56 : n0 ≤ T56.heap.size := (W56.size ▸ Z55)
    have E56_b53 := E55_b53.wr W56
    have E56_b54 := E55_b54.wr W56
    have A56_b53 := A55.other W56 ne54_b53
    have A56 : Arv Z T56.heap b54 c54 .double (3 : Int32) [.double (FP.l2d (q2.toInt64 + (dd q1 (2 : Int32)).toInt64)), .double 0, .double 0] (.double 0) := A56v
    refine g_iload X56 hx hby at_67 (pc' := 69) rfl rfl ?_
    refine g_iconst X56 hx hby at_69 (pc' := 70) rfl (z := (1 : Int32)) rfl ?_
    refine g_icmp_le X56 hx hby at_70 (by decide) (pc' := 90) (by decide) (pn := 73) rfl (fun z => absurd z (by decide)) (fun _ => ?_)
    refine g_aload X56 hx hby at_73 (pc' := 75) rfl rfl rfl ?_
    refine g_iconst X56 hx hby at_75 (pc' := 76) rfl (z := (1 : Int32)) rfl ?_
    refine g_iloadN X56 hx hby at_76 (pc' := 77) rfl rfl ?_
    refine g_i2d X56 hx hby at_77 (pc' := 78) rfl ?_
    refine g_dastore X56 hx hZ 1 hby at_78 (pc' := 79) rfl rfl A56_b53 (by decide) (by decide) (by first | decide | simp) ?_
    intro T57 X57 W57 A57v
    have N57 := Fr.snoc X57 N56 (Nat.le_trans Z0 (Nat.le_of_eq hb53.symm))
    have Z57 : n0 ≤ T57.heap.size := (W57.size ▸ Z56)
    have E57_b53 := E56_b53.wr W57
    have E57_b54 := E56_b54.wr W57
    have A57_b54 := A56.other W57 ne54_b53.symm
    have A57 : Arv Z T57.heap b53 c53 .double (3 : Int32) [.double (FP.l2d q2.toInt64), .double (FP.l2d q3.toInt64), .double 0] (.double 0) := A57v
    refine g_aload X57 hx hby at_79 (pc' := 81) rfl rfl rfl ?_
    refine g_iconst X57 hx hby at_81 (pc' := 82) rfl (z := (1 : Int32)) rfl ?_
    refine g_iloadN X57 hx hby at_82 (pc' := 83) rfl rfl ?_
    refine g_i2l X57 hx hby at_83 (pc' := 84) rfl ?_
    refine g_iload X57 hx hby at_84 (pc' := 86) rfl rfl ?_
    refine g_i2l X57 hx hby at_86 (pc' := 87) rfl ?_
    refine g_ladd X57 hx hby at_87 (pc' := 88) rfl ?_
    refine g_l2d X57 hx hby at_88 (pc' := 89) rfl ?_
    refine g_dastore X57 hx hZ 1 hby at_89 (pc' := 90) rfl rfl A57_b54 (by decide) (by decide) (by first | decide | simp) ?_
    intro T58 X58 W58 A58v
    have N58 := Fr.snoc X58 N57 (Nat.le_trans Z53 (Nat.le_of_eq hb54.symm))
    have Z58 : n0 ≤ T58.heap.size := (W58.size ▸ Z57)
    have E58_b53 := E57_b53.wr W58
    have E58_b54 := E57_b54.wr W58
    have A58_b53 := A57.other W58 ne54_b53
    have A58 : Arv Z T58.heap b54 c54 .double (3 : Int32) [.double (FP.l2d (q2.toInt64 + (dd q1 (2 : Int32)).toInt64)), .double (FP.l2d (q3.toInt64 + (dd q1 (4 : Int32)).toInt64)), .double 0] (.double 0) := A58v
    refine g_iload X58 hx hby at_90 (pc' := 92) rfl rfl ?_
    refine g_iconst X58 hx hby at_92 (pc' := 93) rfl (z := (2 : Int32)) rfl ?_
    refine g_icmp_le X58 hx hby at_93 (by decide) (pc' := 113) (by decide) (pn := 96) rfl (fun z => absurd z (by decide)) (fun _ => ?_)
    refine g_aload X58 hx hby at_96 (pc' := 98) rfl rfl rfl ?_
    refine g_iconst X58 hx hby at_98 (pc' := 99) rfl (z := (2 : Int32)) rfl ?_
    refine g_iloadN X58 hx hby at_99 (pc' := 100) rfl rfl ?_
    refine g_i2d X58 hx hby at_100 (pc' := 101) rfl ?_
    refine g_dastore X58 hx hZ 2 hby at_101 (pc' := 102) rfl rfl A58_b53 (by decide) (by decide) (by first | decide | simp) ?_
    intro T59 X59 W59 A59v
    have N59 := Fr.snoc X59 N58 (Nat.le_trans Z0 (Nat.le_of_eq hb53.symm))
    have Z59 : n0 ≤ T59.heap.size := (W59.size ▸ Z58)
    have E59_b53 := E58_b53.wr W59
    have E59_b54 := E58_b54.wr W59
    have A59_b54 := A58.other W59 ne54_b53.symm
    have A59 : Arv Z T59.heap b53 c53 .double (3 : Int32) [.double (FP.l2d q2.toInt64), .double (FP.l2d q3.toInt64), .double (FP.l2d q4.toInt64)] (.double 0) := A59v
    refine g_aload X59 hx hby at_102 (pc' := 104) rfl rfl rfl ?_
    refine g_iconst X59 hx hby at_104 (pc' := 105) rfl (z := (2 : Int32)) rfl ?_
    refine g_iloadN X59 hx hby at_105 (pc' := 106) rfl rfl ?_
    refine g_i2l X59 hx hby at_106 (pc' := 107) rfl ?_
    refine g_iload X59 hx hby at_107 (pc' := 109) rfl rfl ?_
    refine g_i2l X59 hx hby at_109 (pc' := 110) rfl ?_
    refine g_ladd X59 hx hby at_110 (pc' := 111) rfl ?_
    refine g_l2d X59 hx hby at_111 (pc' := 112) rfl ?_
    refine g_dastore X59 hx hZ 2 hby at_112 (pc' := 113) rfl rfl A59_b54 (by decide) (by decide) (by first | decide | simp) ?_
    intro T60 X60 W60 A60v
    have N60 := Fr.snoc X60 N59 (Nat.le_trans Z53 (Nat.le_of_eq hb54.symm))
    have Z60 : n0 ≤ T60.heap.size := (W60.size ▸ Z59)
    have E60_b53 := E59_b53.wr W60
    have E60_b54 := E59_b54.wr W60
    have A60_b53 := A59.other W60 ne54_b53
    have A60 : Arv Z T60.heap b54 c54 .double (3 : Int32) [.double (FP.l2d (q2.toInt64 + (dd q1 (2 : Int32)).toInt64)), .double (FP.l2d (q3.toInt64 + (dd q1 (4 : Int32)).toInt64)), .double (FP.l2d (q4.toInt64 + (dd q1 (6 : Int32)).toInt64))] (.double 0) := A60v
    refine g_iload X60 hx hby at_113 (pc' := 115) rfl rfl ?_
    refine g_if_le X60 hx hby at_115 (by decide) (pc' := 123) (by decide) (pn := 118) rfl (fun z => absurd z (by decide)) (fun _ => ?_)
    refine g_iload X60 hx hby at_118 (pc' := 120) rfl rfl ?_
    refine g_if_lt X60 hx hby at_120 (by decide) (pc' := 145) (by decide) (pn := 123) rfl (fun hc120_61 => ?_) (fun hc120_61 => ?_)
    · refine g_iconst X60 hx hby at_145 (pc' := 146) rfl (z := (1 : Int32)) rfl ?_
      refine g_goto X60 hx hby at_146 (by decide) (pc' := 150) (by decide) ?_
      refine g_istore X60 hx hby at_150 (pc' := 152) rfl (l' := #[.val (.int q1), .val (.int q2), .val (.int q3), .val (.int q4), .val (.int (3 : Int32)), .val (.int (dd q1 (2 : Int32))), .val (.int (dd q1 (4 : Int32))), .val (.int (dd q1 (6 : Int32))), .val (.ref b53), .val (.ref b54), .val (.int (1 : Int32)), .unset, .unset]) rfl ?_
      refine g_iload X60 hx hby at_152 (pc' := 154) rfl rfl ?_
      refine g_if_le X60 hx hby at_154 (by decide) (pc' := 162) (by decide) (pn := 157) rfl (fun z => absurd z (by decide)) (fun _ => ?_)
      refine g_iload X60 hx hby at_157 (pc' := 159) rfl rfl ?_
      refine g_if_gt X60 hx hby at_159 (by decide) (pc' := 184) (by decide) (pn := 162) rfl (fun hc159_62 => ?_) (fun hc159_62 => ?_)
      · refine g_iconst X60 hx hby at_184 (pc' := 185) rfl (z := (1 : Int32)) rfl ?_
        refine g_goto X60 hx hby at_185 (by decide) (pc' := 189) (by decide) ?_
        refine g_istore X60 hx hby at_189 (pc' := 191) rfl (l' := #[.val (.int q1), .val (.int q2), .val (.int q3), .val (.int q4), .val (.int (3 : Int32)), .val (.int (dd q1 (2 : Int32))), .val (.int (dd q1 (4 : Int32))), .val (.int (dd q1 (6 : Int32))), .val (.ref b53), .val (.ref b54), .val (.int (1 : Int32)), .val (.int (1 : Int32)), .unset]) rfl ?_
        refine g_iload X60 hx hby at_191 (pc' := 193) rfl rfl ?_
        refine g_if_ne X60 hx hby at_193 (by decide) (pc' := 205) (by decide) (pn := 196) rfl (fun _ => ?_) (fun z => absurd z (by decide))
        refine g_iconst X60 hx hby at_205 (pc' := 206) rfl (z := (0 : Int32)) rfl ?_
        refine g_istore X60 hx hby at_206 (pc' := 208) rfl (l' := #[.val (.int q1), .val (.int q2), .val (.int q3), .val (.int q4), .val (.int (3 : Int32)), .val (.int (dd q1 (2 : Int32))), .val (.int (dd q1 (4 : Int32))), .val (.int (dd q1 (6 : Int32))), .val (.ref b53), .val (.ref b54), .val (.int (1 : Int32)), .val (.int (1 : Int32)), .val (.int (0 : Int32))]) rfl ?_
        refine g_aload X60 hx hby at_208 (pc' := 210) rfl rfl rfl ?_
        refine g_aload X60 hx hby at_210 (pc' := 212) rfl rfl rfl ?_
        refine g_callS X60 hx hZ hown (W := 0) (argsL := [.ref b53, .ref b54]) (rest := []) hby at_212 (pc' := 215) rfl (by rw [hml]; rfl) (w_1 hw) (w_2 hw) (w_3 hw) (w_4 hw) (by decide) (rm1_3 l Z a0 hw [] b53 b54 T60.heap n0 q2.toInt64 (q2.toInt64 + (dd q1 (2 : Int32)).toInt64) (own_b53 _) (own_b53s _ _ _) q3.toInt64 (q3.toInt64 + (dd q1 (4 : Int32)).toInt64) (own_b53 _) (own_b53s _ _ _) q4.toInt64 (q4.toInt64 + (dd q1 (6 : Int32)).toInt64) (own_b53 _) (own_b53s _ _ _) _ _ A60_b53 A60) rfl (by decide) (by decide) (by decide) (by decide) rfl pd__28_5bD_5bD_29Z rfl rfl (Nat.le_of_eq rfl) ?_
        rintro _ T63 L63 X63 ⟨rfl, N63q, e63⟩
        have N63 := Fr.app N60 N63q
        show GoE p e below _ (T63.setTop (mkF m 215 #[.val (.int q1), .val (.int q2), .val (.int q3), .val (.int q4), .val (.int (3 : Int32)), .val (.int (dd q1 (2 : Int32))), .val (.int (dd q1 (4 : Int32))), .val (.int (dd q1 (6 : Int32))), .val (.ref b53), .val (.ref b54), .val (.int (1 : Int32)), .val (.int (1 : Int32)), .val (.int (0 : Int32))] [.int (domL [(q2.toInt64, (q2.toInt64 + (dd q1 (2 : Int32)).toInt64)), (q3.toInt64, (q3.toInt64 + (dd q1 (4 : Int32)).toInt64)), (q4.toInt64, (q4.toInt64 + (dd q1 (6 : Int32)).toInt64))] 0)]))
        refine g_iload X63 hx hby at_215 (pc' := 217) rfl rfl ?_
        refine g_icmp_ne X63 hx hby at_217 (by decide) (pc' := 224) (by decide) (pn := 220) rfl (fun z => absurd z (fun z => z (by simp only [domL, own_lt1, own_lt2, hc120_61, hc159_62, if_true, if_false, ↓reduceIte, ite_self]))) (fun hc217_64 => ?_)
        refine g_iconst X63 hx hby at_220 (pc' := 221) rfl (z := (1 : Int32)) rfl ?_
        refine g_goto X63 hx hby at_221 (by decide) (pc' := 225) (by decide) ?_
        exact g_retN (Q := (fun v h L => v = some (.int 1) ∧ Fr n0 L)) (w := (1 : Int32)) X63 hx hby at_225 hret (by simp) (by first | decide | rfl) hlk (by decide) (by decide) ⟨rfl, N63⟩
      · refine g_iload X60 hx hby at_162 (pc' := 164) rfl rfl ?_
        refine g_iconst X60 hx hby at_164 (pc' := 165) rfl (z := (1 : Int32)) rfl ?_
        refine g_icmp_le X60 hx hby at_165 (by decide) (pc' := 173) (by decide) (pn := 168) rfl (fun z => absurd z (by decide)) (fun _ => ?_)
        refine g_iload X60 hx hby at_168 (pc' := 170) rfl rfl ?_
        refine g_if_gt X60 hx hby at_170 (by decide) (pc' := 184) (by decide) (pn := 173) rfl (fun hc170_65 => ?_) (fun hc170_65 => ?_)
        · refine g_iconst X60 hx hby at_184 (pc' := 185) rfl (z := (1 : Int32)) rfl ?_
          refine g_goto X60 hx hby at_185 (by decide) (pc' := 189) (by decide) ?_
          refine g_istore X60 hx hby at_189 (pc' := 191) rfl (l' := #[.val (.int q1), .val (.int q2), .val (.int q3), .val (.int q4), .val (.int (3 : Int32)), .val (.int (dd q1 (2 : Int32))), .val (.int (dd q1 (4 : Int32))), .val (.int (dd q1 (6 : Int32))), .val (.ref b53), .val (.ref b54), .val (.int (1 : Int32)), .val (.int (1 : Int32)), .unset]) rfl ?_
          refine g_iload X60 hx hby at_191 (pc' := 193) rfl rfl ?_
          refine g_if_ne X60 hx hby at_193 (by decide) (pc' := 205) (by decide) (pn := 196) rfl (fun _ => ?_) (fun z => absurd z (by decide))
          refine g_iconst X60 hx hby at_205 (pc' := 206) rfl (z := (0 : Int32)) rfl ?_
          refine g_istore X60 hx hby at_206 (pc' := 208) rfl (l' := #[.val (.int q1), .val (.int q2), .val (.int q3), .val (.int q4), .val (.int (3 : Int32)), .val (.int (dd q1 (2 : Int32))), .val (.int (dd q1 (4 : Int32))), .val (.int (dd q1 (6 : Int32))), .val (.ref b53), .val (.ref b54), .val (.int (1 : Int32)), .val (.int (1 : Int32)), .val (.int (0 : Int32))]) rfl ?_
          refine g_aload X60 hx hby at_208 (pc' := 210) rfl rfl rfl ?_
          refine g_aload X60 hx hby at_210 (pc' := 212) rfl rfl rfl ?_
          refine g_callS X60 hx hZ hown (W := 0) (argsL := [.ref b53, .ref b54]) (rest := []) hby at_212 (pc' := 215) rfl (by rw [hml]; rfl) (w_1 hw) (w_2 hw) (w_3 hw) (w_4 hw) (by decide) (rm1_3 l Z a0 hw [] b53 b54 T60.heap n0 q2.toInt64 (q2.toInt64 + (dd q1 (2 : Int32)).toInt64) (own_b53 _) (own_b53s _ _ _) q3.toInt64 (q3.toInt64 + (dd q1 (4 : Int32)).toInt64) (own_b53 _) (own_b53s _ _ _) q4.toInt64 (q4.toInt64 + (dd q1 (6 : Int32)).toInt64) (own_b53 _) (own_b53s _ _ _) _ _ A60_b53 A60) rfl (by decide) (by decide) (by decide) (by decide) rfl pd__28_5bD_5bD_29Z rfl rfl (Nat.le_of_eq rfl) ?_
          rintro _ T66 L66 X66 ⟨rfl, N66q, e66⟩
          have N66 := Fr.app N60 N66q
          show GoE p e below _ (T66.setTop (mkF m 215 #[.val (.int q1), .val (.int q2), .val (.int q3), .val (.int q4), .val (.int (3 : Int32)), .val (.int (dd q1 (2 : Int32))), .val (.int (dd q1 (4 : Int32))), .val (.int (dd q1 (6 : Int32))), .val (.ref b53), .val (.ref b54), .val (.int (1 : Int32)), .val (.int (1 : Int32)), .val (.int (0 : Int32))] [.int (domL [(q2.toInt64, (q2.toInt64 + (dd q1 (2 : Int32)).toInt64)), (q3.toInt64, (q3.toInt64 + (dd q1 (4 : Int32)).toInt64)), (q4.toInt64, (q4.toInt64 + (dd q1 (6 : Int32)).toInt64))] 0)]))
          refine g_iload X66 hx hby at_215 (pc' := 217) rfl rfl ?_
          refine g_icmp_ne X66 hx hby at_217 (by decide) (pc' := 224) (by decide) (pn := 220) rfl (fun z => absurd z (fun z => z (by simp only [domL, own_lt1, own_lt2, hc120_61, hc159_62, hc170_65, if_true, if_false, ↓reduceIte, ite_self]))) (fun hc217_67 => ?_)
          refine g_iconst X66 hx hby at_220 (pc' := 221) rfl (z := (1 : Int32)) rfl ?_
          refine g_goto X66 hx hby at_221 (by decide) (pc' := 225) (by decide) ?_
          exact g_retN (Q := (fun v h L => v = some (.int 1) ∧ Fr n0 L)) (w := (1 : Int32)) X66 hx hby at_225 hret (by simp) (by first | decide | rfl) hlk (by decide) (by decide) ⟨rfl, N66⟩
        · refine g_iload X60 hx hby at_173 (pc' := 175) rfl rfl ?_
          refine g_iconst X60 hx hby at_175 (pc' := 176) rfl (z := (2 : Int32)) rfl ?_
          refine g_icmp_le X60 hx hby at_176 (by decide) (pc' := 188) (by decide) (pn := 179) rfl (fun z => absurd z (by decide)) (fun _ => ?_)
          refine g_iload X60 hx hby at_179 (pc' := 181) rfl rfl ?_
          refine g_if_le X60 hx hby at_181 (by decide) (pc' := 188) (by decide) (pn := 184) rfl (fun hc181_68 => ?_) (fun hc181_68 => ?_)
          · refine g_iconst X60 hx hby at_188 (pc' := 189) rfl (z := (0 : Int32)) rfl ?_
            refine g_istore X60 hx hby at_189 (pc' := 191) rfl (l' := #[.val (.int q1), .val (.int q2), .val (.int q3), .val (.int q4), .val (.int (3 : Int32)), .val (.int (dd q1 (2 : Int32))), .val (.int (dd q1 (4 : Int32))), .val (.int (dd q1 (6 : Int32))), .val (.ref b53), .val (.ref b54), .val (.int (1 : Int32)), .val (.int (0 : Int32)), .unset]) rfl ?_
            refine g_iload X60 hx hby at_191 (pc' := 193) rfl rfl ?_
            refine g_if_ne X60 hx hby at_193 (by decide) (pc' := 205) (by decide) (pn := 196) rfl (fun _ => ?_) (fun z => absurd z (by decide))
            refine g_iconst X60 hx hby at_205 (pc' := 206) rfl (z := (0 : Int32)) rfl ?_
            refine g_istore X60 hx hby at_206 (pc' := 208) rfl (l' := #[.val (.int q1), .val (.int q2), .val (.int q3), .val (.int q4), .val (.int (3 : Int32)), .val (.int (dd q1 (2 : Int32))), .val (.int (dd q1 (4 : Int32))), .val (.int (dd q1 (6 : Int32))), .val (.ref b53), .val (.ref b54), .val (.int (1 : Int32)), .val (.int (0 : Int32)), .val (.int (0 : Int32))]) rfl ?_
            refine g_aload X60 hx hby at_208 (pc' := 210) rfl rfl rfl ?_
            refine g_aload X60 hx hby at_210 (pc' := 212) rfl rfl rfl ?_
            refine g_callS X60 hx hZ hown (W := 0) (argsL := [.ref b53, .ref b54]) (rest := []) hby at_212 (pc' := 215) rfl (by rw [hml]; rfl) (w_1 hw) (w_2 hw) (w_3 hw) (w_4 hw) (by decide) (rm1_3 l Z a0 hw [] b53 b54 T60.heap n0 q2.toInt64 (q2.toInt64 + (dd q1 (2 : Int32)).toInt64) (own_b53 _) (own_b53s _ _ _) q3.toInt64 (q3.toInt64 + (dd q1 (4 : Int32)).toInt64) (own_b53 _) (own_b53s _ _ _) q4.toInt64 (q4.toInt64 + (dd q1 (6 : Int32)).toInt64) (own_b53 _) (own_b53s _ _ _) _ _ A60_b53 A60) rfl (by decide) (by decide) (by decide) (by decide) rfl pd__28_5bD_5bD_29Z rfl rfl (Nat.le_of_eq rfl) ?_
            rintro _ T69 L69 X69 ⟨rfl, N69q, e69⟩
            have N69 := Fr.app N60 N69q
            show GoE p e below _ (T69.setTop (mkF m 215 #[.val (.int q1), .val (.int q2), .val (.int q3), .val (.int q4), .val (.int (3 : Int32)), .val (.int (dd q1 (2 : Int32))), .val (.int (dd q1 (4 : Int32))), .val (.int (dd q1 (6 : Int32))), .val (.ref b53), .val (.ref b54), .val (.int (1 : Int32)), .val (.int (0 : Int32)), .val (.int (0 : Int32))] [.int (domL [(q2.toInt64, (q2.toInt64 + (dd q1 (2 : Int32)).toInt64)), (q3.toInt64, (q3.toInt64 + (dd q1 (4 : Int32)).toInt64)), (q4.toInt64, (q4.toInt64 + (dd q1 (6 : Int32)).toInt64))] 0)]))
            refine g_iload X69 hx hby at_215 (pc' := 217) rfl rfl ?_
            refine g_icmp_ne X69 hx hby at_217 (by decide) (pc' := 224) (by decide) (pn := 220) rfl (fun z => absurd z (fun z => z (by simp only [domL, own_lt1, own_lt2, hc120_61, hc159_62, hc170_65, hc181_68, if_true, if_false, ↓reduceIte, ite_self]))) (fun hc217_70 => ?_)
            refine g_iconst X69 hx hby at_220 (pc' := 221) rfl (z := (1 : Int32)) rfl ?_
            refine g_goto X69 hx hby at_221 (by decide) (pc' := 225) (by decide) ?_
            exact g_retN (Q := (fun v h L => v = some (.int 1) ∧ Fr n0 L)) (w := (1 : Int32)) X69 hx hby at_225 hret (by simp) (by first | decide | rfl) hlk (by decide) (by decide) ⟨rfl, N69⟩
          · refine g_iconst X60 hx hby at_184 (pc' := 185) rfl (z := (1 : Int32)) rfl ?_
            refine g_goto X60 hx hby at_185 (by decide) (pc' := 189) (by decide) ?_
            refine g_istore X60 hx hby at_189 (pc' := 191) rfl (l' := #[.val (.int q1), .val (.int q2), .val (.int q3), .val (.int q4), .val (.int (3 : Int32)), .val (.int (dd q1 (2 : Int32))), .val (.int (dd q1 (4 : Int32))), .val (.int (dd q1 (6 : Int32))), .val (.ref b53), .val (.ref b54), .val (.int (1 : Int32)), .val (.int (1 : Int32)), .unset]) rfl ?_
            refine g_iload X60 hx hby at_191 (pc' := 193) rfl rfl ?_
            refine g_if_ne X60 hx hby at_193 (by decide) (pc' := 205) (by decide) (pn := 196) rfl (fun _ => ?_) (fun z => absurd z (by decide))
            refine g_iconst X60 hx hby at_205 (pc' := 206) rfl (z := (0 : Int32)) rfl ?_
            refine g_istore X60 hx hby at_206 (pc' := 208) rfl (l' := #[.val (.int q1), .val (.int q2), .val (.int q3), .val (.int q4), .val (.int (3 : Int32)), .val (.int (dd q1 (2 : Int32))), .val (.int (dd q1 (4 : Int32))), .val (.int (dd q1 (6 : Int32))), .val (.ref b53), .val (.ref b54), .val (.int (1 : Int32)), .val (.int (1 : Int32)), .val (.int (0 : Int32))]) rfl ?_
            refine g_aload X60 hx hby at_208 (pc' := 210) rfl rfl rfl ?_
            refine g_aload X60 hx hby at_210 (pc' := 212) rfl rfl rfl ?_
            refine g_callS X60 hx hZ hown (W := 0) (argsL := [.ref b53, .ref b54]) (rest := []) hby at_212 (pc' := 215) rfl (by rw [hml]; rfl) (w_1 hw) (w_2 hw) (w_3 hw) (w_4 hw) (by decide) (rm1_3 l Z a0 hw [] b53 b54 T60.heap n0 q2.toInt64 (q2.toInt64 + (dd q1 (2 : Int32)).toInt64) (own_b53 _) (own_b53s _ _ _) q3.toInt64 (q3.toInt64 + (dd q1 (4 : Int32)).toInt64) (own_b53 _) (own_b53s _ _ _) q4.toInt64 (q4.toInt64 + (dd q1 (6 : Int32)).toInt64) (own_b53 _) (own_b53s _ _ _) _ _ A60_b53 A60) rfl (by decide) (by decide) (by decide) (by decide) rfl pd__28_5bD_5bD_29Z rfl rfl (Nat.le_of_eq rfl) ?_
            rintro _ T71 L71 X71 ⟨rfl, N71q, e71⟩
            have N71 := Fr.app N60 N71q
            show GoE p e below _ (T71.setTop (mkF m 215 #[.val (.int q1), .val (.int q2), .val (.int q3), .val (.int q4), .val (.int (3 : Int32)), .val (.int (dd q1 (2 : Int32))), .val (.int (dd q1 (4 : Int32))), .val (.int (dd q1 (6 : Int32))), .val (.ref b53), .val (.ref b54), .val (.int (1 : Int32)), .val (.int (1 : Int32)), .val (.int (0 : Int32))] [.int (domL [(q2.toInt64, (q2.toInt64 + (dd q1 (2 : Int32)).toInt64)), (q3.toInt64, (q3.toInt64 + (dd q1 (4 : Int32)).toInt64)), (q4.toInt64, (q4.toInt64 + (dd q1 (6 : Int32)).toInt64))] 0)]))
            refine g_iload X71 hx hby at_215 (pc' := 217) rfl rfl ?_
            refine g_icmp_ne X71 hx hby at_217 (by decide) (pc' := 224) (by decide) (pn := 220) rfl (fun z => absurd z (fun z => z (by simp only [domL, own_lt1, own_lt2, hc120_61, hc159_62, hc170_65, hc181_68, if_true, if_false, ↓reduceIte, ite_self]))) (fun hc217_72 => ?_)
            refine g_iconst X71 hx hby at_220 (pc' := 221) rfl (z := (1 : Int32)) rfl ?_
            refine g_goto X71 hx hby at_221 (by decide) (pc' := 225) (by decide) ?_
            exact g_retN (Q := (fun v h L => v = some (.int 1) ∧ Fr n0 L)) (w := (1 : Int32)) X71 hx hby at_225 hret (by simp) (by first | decide | rfl) hlk (by decide) (by decide) ⟨rfl, N71⟩
    · refine g_iload X60 hx hby at_123 (pc' := 125) rfl rfl ?_
      refine g_iconst X60 hx hby at_125 (pc' := 126) rfl (z := (1 : Int32)) rfl ?_
      refine g_icmp_le X60 hx hby at_126 (by decide) (pc' := 134) (by decide) (pn := 129) rfl (fun z => absurd z (by decide)) (fun _ => ?_)
      refine g_iload X60 hx hby at_129 (pc' := 131) rfl rfl ?_
      refine g_if_lt X60 hx hby at_131 (by decide) (pc' := 145) (by decide) (pn := 134) rfl (fun hc131_73 => ?_) (fun hc131_73 => ?_)
      · refine g_iconst X60 hx hby at_145 (pc' := 146) rfl (z := (1 : Int32)) rfl ?_
        refine g_goto X60 hx hby at_146 (by decide) (pc' := 150) (by decide) ?_
        refine g_istore X60 hx hby at_150 (pc' := 152) rfl (l' := #[.val (.int q1), .val (.int q2), .val (.int q3), .val (.int q4), .val (.int (3 : Int32)), .val (.int (dd q1 (2 : Int32))), .val (.int (dd q1 (4 : Int32))), .val (.int (dd q1 (6 : Int32))), .val (.ref b53), .val (.ref b54), .val (.int (1 : Int32)), .unset, .unset]) rfl ?_
        refine g_iload X60 hx hby at_152 (pc' := 154) rfl rfl ?_
        refine g_if_le X60 hx hby at_154 (by decide) (pc' := 162) (by decide) (pn := 157) rfl (fun z => absurd z (by decide)) (fun _ => ?_)
        refine g_iload X60 hx hby at_157 (pc' := 159) rfl rfl ?_
        refine g_if_gt X60 hx hby at_159 (by decide) (pc' := 184) (by decide) (pn := 162) rfl (fun hc159_74 => ?_) (fun hc159_74 => ?_)
        · refine g_iconst X60 hx hby at_184 (pc' := 185) rfl (z := (1 : Int32)) rfl ?_
          refine g_goto X60 hx hby at_185 (by decide) (pc' := 189) (by decide) ?_
          refine g_istore X60 hx hby at_189 (pc' := 191) rfl (l' := #[.val (.int q1), .val (.int q2), .val (.int q3), .val (.int q4), .val (.int (3 : Int32)), .val (.int (dd q1 (2 : Int32))), .val (.int (dd q1 (4 : Int32))), .val (.int (dd q1 (6 : Int32))), .val (.ref b53), .val (.ref b54), .val (.int (1 : Int32)), .val (.int (1 : Int32)), .unset]) rfl ?_
          refine g_iload X60 hx hby at_191 (pc' := 193) rfl rfl ?_
          refine g_if_ne X60 hx hby at_193 (by decide) (pc' := 205) (by decide) (pn := 196) rfl (fun _ => ?_) (fun z => absurd z (by decide))
          refine g_iconst X60 hx hby at_205 (pc' := 206) rfl (z := (0 : Int32)) rfl ?_
          refine g_istore X60 hx hby at_206 (pc' := 208) rfl (l' := #[.val (.int q1), .val (.int q2), .val (.int q3), .val (.int q4), .val (.int (3 : Int32)), .val (.int (dd q1 (2 : Int32))), .val (.int (dd q1 (4 : Int32))), .val (.int (dd q1 (6 : Int32))), .val (.ref b53), .val (.ref b54), .val (.int (1 : Int32)), .val (.int (1 : Int32)), .val (.int (0 : Int32))]) rfl ?_
          refine g_aload X60 hx hby at_208 (pc' := 210) rfl rfl rfl ?_
          refine g_aload X60 hx hby at_210 (pc' := 212) rfl rfl rfl ?_
          refine g_callS X60 hx hZ hown (W := 0) (argsL := [.ref b53, .ref b54]) (rest := []) hby at_212 (pc' := 215) rfl (by rw [hml]; rfl) (w_1 hw) (w_2 hw) (w_3 hw) (w_4 hw) (by decide) (rm1_3 l Z a0 hw [] b53 b54 T60.heap n0 q2.toInt64 (q2.toInt64 + (dd q1 (2 : Int32)).toInt64) (own_b53 _) (own_b53s _ _ _) q3.toInt64 (q3.toInt64 + (dd q1 (4 : Int32)).toInt64) (own_b53 _) (own_b53s _ _ _) q4.toInt64 (q4.toInt64 + (dd q1 (6 : Int32)).toInt64) (own_b53 _) (own_b53s _ _ _) _ _ A60_b53 A60) rfl (by decide) (by decide) (by decide) (by decide) rfl pd__28_5bD_5bD_29Z rfl rfl (Nat.le_of_eq rfl) ?_
          rintro _ T75 L75 X75 ⟨rfl, N75q, e75⟩
          have N75 := Fr.app N60 N75q
          show GoE p e below _ (T75.setTop (mkF m 215 #[.val (.int q1), .val (.int q2), .val (.int q3), .val (.int q4), .val (.int (3 : Int32)), .val (.int (dd q1 (2 : Int32))), .val (.int (dd q1 (4 : Int32))), .val (.int (dd q1 (6 : Int32))), .val (.ref b53), .val (.ref b54), .val (.int (1 : Int32)), .val (.int (1 : Int32)), .val (.int (0 : Int32))] [.int (domL [(q2.toInt64, (q2.toInt64 + (dd q1 (2 : Int32)).toInt64)), (q3.toInt64, (q3.toInt64 + (dd q1 (4 : Int32)).toInt64)), (q4.toInt64, (q4.toInt64 + (dd q1 (6 : Int32)).toInt64))] 0)]))
          refine g_iload X75 hx hby at_215 (pc' := 217) rfl rfl ?_
          refine g_icmp_ne X75 hx hby at_217 (by decide) (pc' := 224) (by decide) (pn := 220) rfl (fun z => absurd z (fun z => z (by simp only [domL, own_lt1, own_lt2, hc120_61, hc131_73, hc159_74, if_true, if_false, ↓reduceIte, ite_self]))) (fun hc217_76 => ?_)
          refine g_iconst X75 hx hby at_220 (pc' := 221) rfl (z := (1 : Int32)) rfl ?_
          refine g_goto X75 hx hby at_221 (by decide) (pc' := 225) (by decide) ?_
          exact g_retN (Q := (fun v h L => v = some (.int 1) ∧ Fr n0 L)) (w := (1 : Int32)) X75 hx hby at_225 hret (by simp) (by first | decide | rfl) hlk (by decide) (by decide) ⟨rfl, N75⟩
        · refine g_iload X60 hx hby at_162 (pc' := 164) rfl rfl ?_
          refine g_iconst X60 hx hby at_164 (pc' := 165) rfl (z := (1 : Int32)) rfl ?_
          refine g_icmp_le X60 hx hby at_165 (by decide) (pc' := 173) (by decide) (pn := 168) rfl (fun z => absurd z (by decide)) (fun _ => ?_)
          refine g_iload X60 hx hby at_168 (pc' := 170) rfl rfl ?_
          refine g_if_gt X60 hx hby at_170 (by decide) (pc' := 184) (by decide) (pn := 173) rfl (fun hc170_77 => ?_) (fun hc170_77 => ?_)
          · refine g_iconst X60 hx hby at_184 (pc' := 185) rfl (z := (1 : Int32)) rfl ?_
            refine g_goto X60 hx hby at_185 (by decide) (pc' := 189) (by decide) ?_
            refine g_istore X60 hx hby at_189 (pc' := 191) rfl (l' := #[.val (.int q1), .val (.int q2), .val (.int q3), .val (.int q4), .val (.int (3 : Int32)), .val (.int (dd q1 (2 : Int32))), .val (.int (dd q1 (4 : Int32))), .val (.int (dd q1 (6 : Int32))), .val (.ref b53), .val (.ref b54), .val (.int (1 : Int32)), .val (.int (1 : Int32)), .unset]) rfl ?_
            refine g_iload X60 hx hby at_191 (pc' := 193) rfl rfl ?_
            refine g_if_ne X60 hx hby at_193 (by decide) (pc' := 205) (by decide) (pn := 196) rfl (fun _ => ?_) (fun z => absurd z (by decide))
            refine g_iconst X60 hx hby at_205 (pc' := 206) rfl (z := (0 : Int32)) rfl ?_
            refine g_istore X60 hx hby at_206 (pc' := 208) rfl (l' := #[.val (.int q1), .val (.int q2), .val (.int q3), .val (.int q4), .val (.int (3 : Int32)), .val (.int (dd q1 (2 : Int32))), .val (.int (dd q1 (4 : Int32))), .val (.int (dd q1 (6 : Int32))), .val (.ref b53), .val (.ref b54), .val (.int (1 : Int32)), .val (.int (1 : Int32)), .val (.int (0 : Int32))]) rfl ?_
            refine g_aload X60 hx hby at_208 (pc' := 210) rfl rfl rfl ?_
            refine g_aload X60 hx hby at_210 (pc' := 212) rfl rfl rfl ?_
            refine g_callS X60 hx hZ hown (W := 0) (argsL := [.ref b53, .ref b54]) (rest := []) hby at_212 (pc' := 215) rfl (by rw [hml]; rfl) (w_1 hw) (w_2 hw) (w_3 hw) (w_4 hw) (by decide) (rm1_3 l Z a0 hw [] b53 b54 T60.heap n0 q2.toInt64 (q2.toInt64 + (dd q1 (2 : Int32)).toInt64) (own_b53 _) (own_b53s _ _ _) q3.toInt64 (q3.toInt64 + (dd q1 (4 : Int32)).toInt64) (own_b53 _) (own_b53s _ _ _) q4.toInt64 (q4.toInt64 + (dd q1 (6 : Int32)).toInt64) (own_b53 _) (own_b53s _ _ _) _ _ A60_b53 A60) rfl (by decide) (by decide) (by decide) (by decide) rfl pd__28_5bD_5bD_29Z rfl rfl (Nat.le_of_eq rfl) ?_
            rintro _ T78 L78 X78 ⟨rfl, N78q, e78⟩
            have N78 := Fr.app N60 N78q
            show GoE p e below _ (T78.setTop (mkF m 215 #[.val (.int q1), .val (.int q2), .val (.int q3), .val (.int q4), .val (.int (3 : Int32)), .val (.int (dd q1 (2 : Int32))), .val (.int (dd q1 (4 : Int32))), .val (.int (dd q1 (6 : Int32))), .val (.ref b53), .val (.ref b54), .val (.int (1 : Int32)), .val (.int (1 : Int32)), .val (.int (0 : Int32))] [.int (domL [(q2.toInt64, (q2.toInt64 + (dd q1 (2 : Int32)).toInt64)), (q3.toInt64, (q3.toInt64 + (dd q1 (4 : Int32)).toInt64)), (q4.toInt64, (q4.toInt64 + (dd q1 (6 : Int32)).toInt64))] 0)]))
            refine g_iload X78 hx hby at_215 (pc' := 217) rfl rfl ?_
            refine g_icmp_ne X78 hx hby at_217 (by decide) (pc' := 224) (by decide) (pn := 220) rfl (fun z => absurd z (fun z => z (by simp only [domL, own_lt1, own_lt2, hc120_61, hc131_73, hc159_74, hc170_77, if_true, if_false, ↓reduceIte, ite_self]))) (fun hc217_79 => ?_)
            refine g_iconst X78 hx hby at_220 (pc' := 221) rfl (z := (1 : Int32)) rfl ?_
            refine g_goto X78 hx hby at_221 (by decide) (pc' := 225) (by decide) ?_
            exact g_retN (Q := (fun v h L => v = some (.int 1) ∧ Fr n0 L)) (w := (1 : Int32)) X78 hx hby at_225 hret (by simp) (by first | decide | rfl) hlk (by decide) (by decide) ⟨rfl, N78⟩
          · refine g_iload X60 hx hby at_173 (pc' := 175) rfl rfl ?_
            refine g_iconst X60 hx hby at_175 (pc' := 176) rfl (z := (2 : Int32)) rfl ?_
            refine g_icmp_le X60 hx hby at_176 (by decide) (pc' := 188) (by decide) (pn := 179) rfl (fun z => absurd z (by decide)) (fun _ => ?_)
            refine g_iload X60 hx hby at_179 (pc' := 181) rfl rfl ?_
            refine g_if_le X60 hx hby at_181 (by decide) (pc' := 188) (by decide) (pn := 184) rfl (fun hc181_80 => ?_) (fun hc181_80 => ?_)
            · refine g_iconst X60 hx hby at_188 (pc' := 189) rfl (z := (0 : Int32)) rfl ?_
              refine g_istore X60 hx hby at_189 (pc' := 191) rfl (l' := #[.val (.int q1), .val (.int q2), .val (.int q3), .val (.int q4), .val (.int (3 : Int32)), .val (.int (dd q1 (2 : Int32))), .val (.int (dd q1 (4 : Int32))), .val (.int (dd q1 (6 : Int32))), .val (.ref b53), .val (.ref b54), .val (.int (1 : Int32)), .val (.int (0 : Int32)), .unset]) rfl ?_
              refine g_iload X60 hx hby at_191 (pc' := 193) rfl rfl ?_
              refine g_if_ne X60 hx hby at_193 (by decide) (pc' := 205) (by decide) (pn := 196) rfl (fun _ => ?_) (fun z => absurd z (by decide))
              refine g_iconst X60 hx hby at_205 (pc' := 206) rfl (z := (0 : Int32)) rfl ?_
              refine g_istore X60 hx hby at_206 (pc' := 208) rfl (l' := #[.val (.int q1), .val (.int q2), .val (.int q3), .val (.int q4), .val (.int (3 : Int32)), .val (.int (dd q1 (2 : Int32))), .val (.int (dd q1 (4 : Int32))), .val (.int (dd q1 (6 : Int32))), .val (.ref b53), .val (.ref b54), .val (.int (1 : Int32)), .val (.int (0 : Int32)), .val (.int (0 : Int32))]) rfl ?_
              refine g_aload X60 hx hby at_208 (pc' := 210) rfl rfl rfl ?_
              refine g_aload X60 hx hby at_210 (pc' := 212) rfl rfl rfl ?_
              refine g_callS X60 hx hZ hown (W := 0) (argsL := [.ref b53, .ref b54]) (rest := []) hby at_212 (pc' := 215) rfl (by rw [hml]; rfl) (w_1 hw) (w_2 hw) (w_3 hw) (w_4 hw) (by decide) (rm1_3 l Z a0 hw [] b53 b54 T60.heap n0 q2.toInt64 (q2.toInt64 + (dd q1 (2 : Int32)).toInt64) (own_b53 _) (own_b53s _ _ _) q3.toInt64 (q3.toInt64 + (dd q1 (4 : Int32)).toInt64) (own_b53 _) (own_b53s _ _ _) q4.toInt64 (q4.toInt64 + (dd q1 (6 : Int32)).toInt64) (own_b53 _) (own_b53s _ _ _) _ _ A60_b53 A60) rfl (by decide) (by decide) (by decide) (by decide) rfl pd__28_5bD_5bD_29Z rfl rfl (Nat.le_of_eq rfl) ?_
              rintro _ T81 L81 X81 ⟨rfl, N81q, e81⟩
              have N81 := Fr.app N60 N81q
              show GoE p e below _ (T81.setTop (mkF m 215 #[.val (.int q1), .val (.int q2), .val (.int q3), .val (.int q4), .val (.int (3 : Int32)), .val (.int (dd q1 (2 : Int32))), .val (.int (dd q1 (4 : Int32))), .val (.int (dd q1 (6 : Int32))), .val (.ref b53), .val (.ref b54), .val (.int (1 : Int32)), .val (.int (0 : Int32)), .val (.int (0 : Int32))] [.int (domL [(q2.toInt64, (q2.toInt64 + (dd q1 (2 : Int32)).toInt64)), (q3.toInt64, (q3.toInt64 + (dd q1 (4 : Int32)).toInt64)), (q4.toInt64, (q4.toInt64 + (dd q1 (6 : Int32)).toInt64))] 0)]))
              refine g_iload X81 hx hby at_215 (pc' := 217) rfl rfl ?_
              refine g_icmp_ne X81 hx hby at_217 (by decide) (pc' := 224) (by decide) (pn := 220) rfl (fun z => absurd z (fun z => z (by simp only [domL, own_lt1, own_lt2, hc120_61, hc131_73, hc159_74, hc170_77, hc181_80, if_true, if_false, ↓reduceIte, ite_self]))) (fun hc217_82 => ?_)
              refine g_iconst X81 hx hby at_220 (pc' := 221) rfl (z := (1 : Int32)) rfl ?_
              refine g_goto X81 hx hby at_221 (by decide) (pc' := 225) (by decide) ?_
              exact g_retN (Q := (fun v h L => v = some (.int 1) ∧ Fr n0 L)) (w := (1 : Int32)) X81 hx hby at_225 hret (by simp) (by first | decide | rfl) hlk (by decide) (by decide) ⟨rfl, N81⟩
            · refine g_iconst X60 hx hby at_184 (pc' := 185) rfl (z := (1 : Int32)) rfl ?_
              refine g_goto X60 hx hby at_185 (by decide) (pc' := 189) (by decide) ?_
              refine g_istore X60 hx hby at_189 (pc' := 191) rfl (l' := #[.val (.int q1), .val (.int q2), .val (.int q3), .val (.int q4), .val (.int (3 : Int32)), .val (.int (dd q1 (2 : Int32))), .val (.int (dd q1 (4 : Int32))), .val (.int (dd q1 (6 : Int32))), .val (.ref b53), .val (.ref b54), .val (.int (1 : Int32)), .val (.int (1 : Int32)), .unset]) rfl ?_
              refine g_iload X60 hx hby at_191 (pc' := 193) rfl rfl ?_
              refine g_if_ne X60 hx hby at_193 (by decide) (pc' := 205) (by decide) (pn := 196) rfl (fun _ => ?_) (fun z => absurd z (by decide))
              refine g_iconst X60 hx hby at_205 (pc' := 206) rfl (z := (0 : Int32)) rfl ?_
              refine g_istore X60 hx hby at_206 (pc' := 208) rfl (l' := #[.val (.int q1), .val (.int q2), .val (.int q3), .val (.int q4), .val (.int (3 : Int32)), .val (.int (dd q1 (2 : Int32))), .val (.int (dd q1 (4 : Int32))), .val (.int (dd q1 (6 : Int32))), .val (.ref b53), .val (.ref b54), .val (.int (1 : Int32)), .val (.int (1 : Int32)), .val (.int (0 : Int32))]) rfl ?_
              refine g_aload X60 hx hby at_208 (pc' := 210) rfl rfl rfl ?_
              refine g_aload X60 hx hby at_210 (pc' := 212) rfl rfl rfl ?_
              refine g_callS X60 hx hZ hown (W := 0) (argsL := [.ref b53, .ref b54]) (rest := []) hby at_212 (pc' := 215) rfl (by rw [hml]; rfl) (w_1 hw) (w_2 hw) (w_3 hw) (w_4 hw) (by decide) (rm1_3 l Z a0 hw [] b53 b54 T60.heap n0 q2.toInt64 (q2.toInt64 + (dd q1 (2 : Int32)).toInt64) (own_b53 _) (own_b53s _ _ _) q3.toInt64 (q3.toInt64 + (dd q1 (4 : Int32)).toInt64) (own_b53 _) (own_b53s _ _ _) q4.toInt64 (q4.toInt64 + (dd q1 (6 : Int32)).toInt64) (own_b53 _) (own_b53s _ _ _) _ _ A60_b53 A60) rfl (by decide) (by decide) (by decide) (by decide) rfl pd__28_5bD_5bD_29Z rfl rfl (Nat.le_of_eq rfl) ?_
              rintro _ T83 L83 X83 ⟨rfl, N83q, e83⟩
              have N83 := Fr.app N60 N83q
              show GoE p e below _ (T83.setTop (mkF m 215 #[.val (.int q1), .val (.int q2), .val (.int q3), .val (.int q4), .val (.int (3 : Int32)), .val (.int (dd q1 (2 : Int32))), .val (.int (dd q1 (4 : Int32))), .val (.int (dd q1 (6 : Int32))), .val (.ref b53), .val (.ref b54), .val (.int (1 : Int32)), .val (.int (1 : Int32)), .val (.int (0 : Int32))] [.int (domL [(q2.toInt64, (q2.toInt64 + (dd q1 (2 : Int32)).toInt64)), (q3.toInt64, (q3.toInt64 + (dd q1 (4 : Int32)).toInt64)), (q4.toInt64, (q4.toInt64 + (dd q1 (6 : Int32)).toInt64))] 0)]))
              refine g_iload X83 hx hby at_215 (pc' := 217) rfl rfl ?_
              refine g_icmp_ne X83 hx hby at_217 (by decide) (pc' := 224) (by decide) (pn := 220) rfl (fun z => absurd z (fun z => z (by simp only [domL, own_lt1, own_lt2, hc120_61, hc131_73, hc159_74, hc170_77, hc181_80, if_true, if_false, ↓reduceIte, ite_self]))) (fun hc217_84 => ?_)
              refine g_iconst X83 hx hby at_220 (pc' := 221) rfl (z := (1 : Int32)) rfl ?_
              refine g_goto X83 hx hby at_221 (by decide) (pc' := 225) (by decide) ?_
              exact g_retN (Q := (fun v h L => v = some (.int 1) ∧ Fr n0 L)) (w := (1 : Int32)) X83 hx hby at_225 hret (by simp) (by first | decide | rfl) hlk (by decide) (by decide) ⟨rfl, N83⟩
      · refine g_iload X60 hx hby at_134 (pc' := 136) rfl rfl ?_
        refine g_iconst X60 hx hby at_136 (pc' := 137) rfl (z := (2 : Int32)) rfl ?_
        refine g_icmp_le X60 hx hby at_137 (by decide) (pc' := 149) (by decide) (pn := 140) rfl (fun z => absurd z (by decide)) (fun _ => ?_)
        refine g_iload X60 hx hby at_140 (pc' := 142) rfl rfl ?_
        refine g_if_ge X60 hx hby at_142 (by decide) (pc' := 149) (by decide) (pn := 145) rfl (fun hc142_85 => ?_) (fun hc142_85 => ?_)
        · refine g_iconst X60 hx hby at_149 (pc' := 150) rfl (z := (0 : Int32)) rfl ?_
          refine g_istore X60 hx hby at_150 (pc' := 152) rfl (l' := #[.val (.int q1), .val (.int q2), .val (.int q3), .val (.int q4), .val (.int (3 : Int32)), .val (.int (dd q1 (2 : Int32))), .val (.int (dd q1 (4 : Int32))), .val (.int (dd q1 (6 : Int32))), .val (.ref b53), .val (.ref b54), .val (.int (0 : Int32)), .unset, .unset]) rfl ?_
          refine g_iload X60 hx hby at_152 (pc' := 154) rfl rfl ?_
          refine g_if_le X60 hx hby at_154 (by decide) (pc' := 162) (by decide) (pn := 157) rfl (fun z => absurd z (by decide)) (fun _ => ?_)
          refine g_iload X60 hx hby at_157 (pc' := 159) rfl rfl ?_
          refine g_if_gt X60 hx hby at_159 (by decide) (pc' := 184) (by decide) (pn := 162) rfl (fun hc159_86 => ?_) (fun hc159_86 => ?_)
          · refine g_iconst X60 hx hby at_184 (pc' := 185) rfl (z := (1 : Int32)) rfl ?_
            refine g_goto X60 hx hby at_185 (by decide) (pc' := 189) (by decide) ?_
            refine g_istore X60 hx hby at_189 (pc' := 191) rfl (l' := #[.val (.int q1), .val (.int q2), .val (.int q3), .val (.int q4), .val (.int (3 : Int32)), .val (.int (dd q1 (2 : Int32))), .val (.int (dd q1 (4 : Int32))), .val (.int (dd q1 (6 : Int32))), .val (.ref b53), .val (.ref b54), .val (.int (0 : Int32)), .val (.int (1 : Int32)), .unset]) rfl ?_
            refine g_iload X60 hx hby at_191 (pc' := 193) rfl rfl ?_
            refine g_if_ne X60 hx hby at_193 (by decide) (pc' := 205) (by decide) (pn := 196) rfl (fun z => absurd z (by decide)) (fun _ => ?_)
            refine g_iload X60 hx hby at_196 (pc' := 198) rfl rfl ?_
            refine g_if_eq X60 hx hby at_198 (by decide) (pc' := 205) (by decide) (pn := 201) rfl (fun z => absurd z (by decide)) (fun _ => ?_)
            refine g_iconst X60 hx hby at_201 (pc' := 202) rfl (z := (1 : Int32)) rfl ?_
            refine g_goto X60 hx hby at_202 (by decide) (pc' := 206) (by decide) ?_
            refine g_istore X60 hx hby at_206 (pc' := 208) rfl (l' := #[.val (.int q1), .val (.int q2), .val (.int q3), .val (.int q4), .val (.int (3 : Int32)), .val (.int (dd q1 (2 : Int32))), .val (.int (dd q1 (4 : Int32))), .val (.int (dd q1 (6 : Int32))), .val (.ref b53), .val (.ref b54), .val (.int (0 : Int32)), .val (.int (1 : Int32)), .val (.int (1 : Int32))]) rfl ?_
            refine g_aload X60 hx hby at_208 (pc' := 210) rfl rfl rfl ?_
            refine g_aload X60 hx hby at_210 (pc' := 212) rfl rfl rfl ?_
            refine g_callS X60 hx hZ hown (W := 0) (argsL := [.ref b53, .ref b54]) (rest := []) hby at_212 (pc' := 215) rfl (by rw [hml]; rfl) (w_1 hw) (w_2 hw) (w_3 hw) (w_4 hw) (by decide) (rm1_3 l Z a0 hw [] b53 b54 T60.heap n0 q2.toInt64 (q2.toInt64 + (dd q1 (2 : Int32)).toInt64) (own_b53 _) (own_b53s _ _ _) q3.toInt64 (q3.toInt64 + (dd q1 (4 : Int32)).toInt64) (own_b53 _) (own_b53s _ _ _) q4.toInt64 (q4.toInt64 + (dd q1 (6 : Int32)).toInt64) (own_b53 _) (own_b53s _ _ _) _ _ A60_b53 A60) rfl (by decide) (by decide) (by decide) (by decide) rfl pd__28_5bD_5bD_29Z rfl rfl (Nat.le_of_eq rfl) ?_
            rintro _ T87 L87 X87 ⟨rfl, N87q, e87⟩
            have N87 := Fr.app N60 N87q
            show GoE p e below _ (T87.setTop (mkF m 215 #[.val (.int q1), .val (.int q2), .val (.int q3), .val (.int q4), .val (.int (3 : Int32)), .val (.int (dd q1 (2 : Int32))), .val (.int (dd q1 (4 : Int32))), .val (.int (dd q1 (6 : Int32))), .val (.ref b53), .val (.ref b54), .val (.int (0 : Int32)), .val (.int (1 : Int32)), .val (.int (1 : Int32))] [.int (domL [(q2.toInt64, (q2.toInt64 + (dd q1 (2 : Int32)).toInt64)), (q3.toInt64, (q3.toInt64 + (dd q1 (4 : Int32)).toInt64)), (q4.toInt64, (q4.toInt64 + (dd q1 (6 : Int32)).toInt64))] 0)]))
            refine g_iload X87 hx hby at_215 (pc' := 217) rfl rfl ?_
            refine g_icmp_ne X87 hx hby at_217 (by decide) (pc' := 224) (by decide) (pn := 220) rfl (fun z => absurd z (fun z => z (by simp only [domL, own_lt1, own_lt2, hc120_61, hc131_73, hc142_85, hc159_86, if_true, if_false, ↓reduceIte, ite_self]))) (fun hc217_88 => ?_)
            refine g_iconst X87 hx hby at_220 (pc' := 221) rfl (z := (1 : Int32)) rfl ?_
            refine g_goto X87 hx hby at_221 (by decide) (pc' := 225) (by decide) ?_
            exact g_retN (Q := (fun v h L => v = some (.int 1) ∧ Fr n0 L)) (w := (1 : Int32)) X87 hx hby at_225 hret (by simp) (by first | decide | rfl) hlk (by decide) (by decide) ⟨rfl, N87⟩
          · refine g_iload X60 hx hby at_162 (pc' := 164) rfl rfl ?_
            refine g_iconst X60 hx hby at_164 (pc' := 165) rfl (z := (1 : Int32)) rfl ?_
            refine g_icmp_le X60 hx hby at_165 (by decide) (pc' := 173) (by decide) (pn := 168) rfl (fun z => absurd z (by decide)) (fun _ => ?_)
            refine g_iload X60 hx hby at_168 (pc' := 170) rfl rfl ?_
            refine g_if_gt X60 hx hby at_170 (by decide) (pc' := 184) (by decide) (pn := 173) rfl (fun hc170_89 => ?_) (fun hc170_89 => ?_)
            · refine g_iconst X60 hx hby at_184 (pc' := 185) rfl (z := (1 : Int32)) rfl ?_
              refine g_goto X60 hx hby at_185 (by decide) (pc' := 189) (by decide) ?_
              refine g_istore X60 hx hby at_189 (pc' := 191) rfl (l' := #[.val (.int q1), .val (.int q2), .val (.int q3), .val (.int q4), .val (.int (3 : Int32)), .val (.int (dd q1 (2 : Int32))), .val (.int (dd q1 (4 : Int32))), .val (.int (dd q1 (6 : Int32))), .val (.ref b53), .val (.ref b54), .val (.int (0 : Int32)), .val (.int (1 : Int32)), .unset]) rfl ?_
              refine g_iload X60 hx hby at_191 (pc' := 193) rfl rfl ?_
              refine g_if_ne X60 hx hby at_193 (by decide) (pc' := 205) (by decide) (pn := 196) rfl (fun z => absurd z (by decide)) (fun _ => ?_)
              refine g_iload X60 hx hby at_196 (pc' := 198) rfl rfl ?_
              refine g_if_eq X60 hx hby at_198 (by decide) (pc' := 205) (by decide) (pn := 201) rfl (fun z => absurd z (by decide)) (fun _ => ?_)
              refine g_iconst X60 hx hby at_201 (pc' := 202) rfl (z := (1 : Int32)) rfl ?_
              refine g_goto X60 hx hby at_202 (by decide) (pc' := 206) (by decide) ?_
              refine g_istore X60 hx hby at_206 (pc' := 208) rfl (l' := #[.val (.int q1), .val (.int q2), .val (.int q3), .val (.int q4), .val (.int (3 : Int32)), .val (.int (dd q1 (2 : Int32))), .val (.int (dd q1 (4 : Int32))), .val (.int (dd q1 (6 : Int32))), .val (.ref b53), .val (.ref b54), .val (.int (0 : Int32)), .val (.int (1 : Int32)), .val (.int (1 : Int32))]) rfl ?_
              refine g_aload X60 hx hby at_208 (pc' := 210) rfl rfl rfl ?_
              refine g_aload X60 hx hby at_210 (pc' := 212) rfl rfl rfl ?_
              refine g_callS X60 hx hZ hown (W := 0) (argsL := [.ref b53, .ref b54]) (rest := []) hby at_212 (pc' := 215) rfl (by rw [hml]; rfl) (w_1 hw) (w_2 hw) (w_3 hw) (w_4 hw) (by decide) (rm1_3 l Z a0 hw [] b53 b54 T60.heap n0 q2.toInt64 (q2.toInt64 + (dd q1 (2 : Int32)).toInt64) (own_b53 _) (own_b53s _ _ _) q3.toInt64 (q3.toInt64 + (dd q1 (4 : Int32)).toInt64) (own_b53 _) (own_b53s _ _ _) q4.toInt64 (q4.toInt64 + (dd q1 (6 : Int32)).toInt64) (own_b53 _) (own_b53s _ _ _) _ _ A60_b53 A60) rfl (by decide) (by decide) (by decide) (by decide) rfl pd__28_5bD_5bD_29Z rfl rfl (Nat.le_of_eq rfl) ?_
              rintro _ T90 L90 X90 ⟨rfl, N90q, e90⟩
              have N90 := Fr.app N60 N90q
              show GoE p e below _ (T90.setTop (mkF m 215 #[.val (.int q1), .val (.int q2), .val (.int q3), .val (.int q4), .val (.int (3 : Int32)), .val (.int (dd q1 (2 : Int32))), .val (.int (dd q1 (4 : Int32))), .val (.int (dd q1 (6 : Int32))), .val (.ref b53), .val (.ref b54), .val (.int (0 : Int32)), .val (.int (1 : Int32)), .val (.int (1 : Int32))] [.int (domL [(q2.toInt64, (q2.toInt64 + (dd q1 (2 : Int32)).toInt64)), (q3.toInt64, (q3.toInt64 + (dd q1 (4 : Int32)).toInt64)), (q4.toInt64, (q4.toInt64 + (dd q1 (6 : Int32)).toInt64))] 0)]))
              refine g_iload X90 hx hby at_215 (pc' := 217) rfl rfl ?_
              refine g_icmp_ne X90 hx hby at_217 (by decide) (pc' := 224) (by decide) (pn := 220) rfl (fun z => absurd z (fun z => z (by simp only [domL, own_lt1, own_lt2, hc120_61, hc131_73, hc142_85, hc159_86, hc170_89, if_true, if_false, ↓reduceIte, ite_self]))) (fun hc217_91 => ?_)
              refine g_iconst X90 hx hby at_220 (pc' := 221) rfl (z := (1 : Int32)) rfl ?_
              refine g_goto X90 hx hby at_221 (by decide) (pc' := 225) (by decide) ?_
              exact g_retN (Q := (fun v h L => v = some (.int 1) ∧ Fr n0 L)) (w := (1 : Int32)) X90 hx hby at_225 hret (by simp) (by first | decide | rfl) hlk (by decide) (by decide) ⟨rfl, N90⟩
            · refine g_iload X60 hx hby at_173 (pc' := 175) rfl rfl ?_
              refine g_iconst X60 hx hby at_175 (pc' := 176) rfl (z := (2 : Int32)) rfl ?_
              refine g_icmp_le X60 hx hby at_176 (by decide) (pc' := 188) (by decide) (pn := 179) rfl (fun z => absurd z (by decide)) (fun _ => ?_)
              refine g_iload X60 hx hby at_179 (pc' := 181) rfl rfl ?_
              refine g_if_le X60 hx hby at_181 (by decide) (pc' := 188) (by decide) (pn := 184) rfl (fun hc181_92 => ?_) (fun hc181_92 => ?_)
              · refine g_iconst X60 hx hby at_188 (pc' := 189) rfl (z := (0 : Int32)) rfl ?_
                refine g_istore X60 hx hby at_189 (pc' := 191) rfl (l' := #[.val (.int q1), .val (.int q2), .val (.int q3), .val (.int q4), .val (.int (3 : Int32)), .val (.int (dd q1 (2 : Int32))), .val (.int (dd q1 (4 : Int32))), .val (.int (dd q1 (6 : Int32))), .val (.ref b53), .val (.ref b54), .val (.int (0 : Int32)), .val (.int (0 : Int32)), .unset]) rfl ?_
                refine g_iload X60 hx hby at_191 (pc' := 193) rfl rfl ?_
                refine g_if_ne X60 hx hby at_193 (by decide) (pc' := 205) (by decide) (pn := 196) rfl (fun z => absurd z (by decide)) (fun _ => ?_)
                refine g_iload X60 hx hby at_196 (pc' := 198) rfl rfl ?_
                refine g_if_eq X60 hx hby at_198 (by decide) (pc' := 205) (by decide) (pn := 201) rfl (fun _ => ?_) (fun z => absurd z (by decide))
                refine g_iconst X60 hx hby at_205 (pc' := 206) rfl (z := (0 : Int32)) rfl ?_
                refine g_istore X60 hx hby at_206 (pc' := 208) rfl (l' := #[.val (.int q1), .val (.int q2), .val (.int q3), .val (.int q4), .val (.int (3 : Int32)), .val (.int (dd q1 (2 : Int32))), .val (.int (dd q1 (4 : Int32))), .val (.int (dd q1 (6 : Int32))), .val (.ref b53), .val (.ref b54), .val (.int (0 : Int32)), .val (.int (0 : Int32)), .val (.int (0 : Int32))]) rfl ?_
                refine g_aload X60 hx hby at_208 (pc' := 210) rfl rfl rfl ?_
                refine g_aload X60 hx hby at_210 (pc' := 212) rfl rfl rfl ?_
                refine g_callS X60 hx hZ hown (W := 0) (argsL := [.ref b53, .ref b54]) (rest := []) hby at_212 (pc' := 215) rfl (by rw [hml]; rfl) (w_1 hw) (w_2 hw) (w_3 hw) (w_4 hw) (by decide) (rm1_3 l Z a0 hw [] b53 b54 T60.heap n0 q2.toInt64 (q2.toInt64 + (dd q1 (2 : Int32)).toInt64) (own_b53 _) (own_b53s _ _ _) q3.toInt64 (q3.toInt64 + (dd q1 (4 : Int32)).toInt64) (own_b53 _) (own_b53s _ _ _) q4.toInt64 (q4.toInt64 + (dd q1 (6 : Int32)).toInt64) (own_b53 _) (own_b53s _ _ _) _ _ A60_b53 A60) rfl (by decide) (by decide) (by decide) (by decide) rfl pd__28_5bD_5bD_29Z rfl rfl (Nat.le_of_eq rfl) ?_
                rintro _ T93 L93 X93 ⟨rfl, N93q, e93⟩
                have N93 := Fr.app N60 N93q
                show GoE p e below _ (T93.setTop (mkF m 215 #[.val (.int q1), .val (.int q2), .val (.int q3), .val (.int q4), .val (.int (3 : Int32)), .val (.int (dd q1 (2 : Int32))), .val (.int (dd q1 (4 : Int32))), .val (.int (dd q1 (6 : Int32))), .val (.ref b53), .val (.ref b54), .val (.int (0 : Int32)), .val (.int (0 : Int32)), .val (.int (0 : Int32))] [.int (domL [(q2.toInt64, (q2.toInt64 + (dd q1 (2 : Int32)).toInt64)), (q3.toInt64, (q3.toInt64 + (dd q1 (4 : Int32)).toInt64)), (q4.toInt64, (q4.toInt64 + (dd q1 (6 : Int32)).toInt64))] 0)]))
                refine g_iload X93 hx hby at_215 (pc' := 217) rfl rfl ?_
                refine g_icmp_ne X93 hx hby at_217 (by decide) (pc' := 224) (by decide) (pn := 220) rfl (fun z => absurd z (fun z => z (by simp only [domL, own_lt1, own_lt2, hc120_61, hc131_73, hc142_85, hc159_86, hc170_89, hc181_92, if_true, if_false, ↓reduceIte, ite_self]))) (fun hc217_94 => ?_)
                refine g_iconst X93 hx hby at_220 (pc' := 221) rfl (z := (1 : Int32)) rfl ?_
                refine g_goto X93 hx hby at_221 (by decide) (pc' := 225) (by decide) ?_
                exact g_retN (Q := (fun v h L => v = some (.int 1) ∧ Fr n0 L)) (w := (1 : Int32)) X93 hx hby at_225 hret (by simp) (by first | decide | rfl) hlk (by decide) (by decide) ⟨rfl, N93⟩
              · refine g_iconst X60 hx hby at_184 (pc' := 185) rfl (z := (1 : Int32)) rfl ?_
                refine g_goto X60 hx hby at_185 (by decide) (pc' := 189) (by decide) ?_
                refine g_istore X60 hx hby at_189 (pc' := 191) rfl (l' := #[.val (.int q1), .val (.int q2), .val (.int q3), .val (.int q4), .val (.int (3 : Int32)), .val (.int (dd q1 (2 : Int32))), .val (.int (dd q1 (4 : Int32))), .val (.int (dd q1 (6 : Int32))), .val (.ref b53), .val (.ref b54), .val (.int (0 : Int32)), .val (.int (1 : Int32)), .unset]) rfl ?_
                refine g_iload X60 hx hby at_191 (pc' := 193) rfl rfl ?_
                refine g_if_ne X60 hx hby at_193 (by decide) (pc' := 205) (by decide) (pn := 196) rfl (fun z => absurd z (by decide)) (fun _ => ?_)
                refine g_iload X60 hx hby at_196 (pc' := 198) rfl rfl ?_
                refine g_if_eq X60 hx hby at_198 (by decide) (pc' := 205) (by decide) (pn := 201) rfl (fun z => absurd z (by decide)) (fun _ => ?_)
                refine g_iconst X60 hx hby at_201 (pc' := 202) rfl (z := (1 : Int32)) rfl ?_
                refine g_goto X60 hx hby at_202 (by decide) (pc' := 206) (by decide) ?_
                refine g_istore X60 hx hby at_206 (pc' := 208) rfl (l' := #[.val (.int q1), .val (.int q2), .val (.int q3), .val (.int q4), .val (.int (3 : Int32)), .val (.int (dd q1 (2 : Int32))), .val (.int (dd q1 (4 : Int32))), .val (.int (dd q1 (6 : Int32))), .val (.ref b53), .val (.ref b54), .val (.int (0 : Int32)), .val (.int (1 : Int32)), .val (.int (1 : Int32))]) rfl ?_
                refine g_aload X60 hx hby at_208 (pc' := 210) rfl rfl rfl ?_
                refine g_aload X60 hx hby at_210 (pc' := 212) rfl rfl rfl ?_
                refine g_callS X60 hx hZ hown (W := 0) (argsL := [.ref b53, .ref b54]) (rest := []) hby at_212 (pc' := 215) rfl (by rw [hml]; rfl) (w_1 hw) (w_2 hw) (w_3 hw) (w_4 hw) (by decide) (rm1_3 l Z a0 hw [] b53 b54 T60.heap n0 q2.toInt64 (q2.toInt64 + (dd q1 (2 : Int32)).toInt64) (own_b53 _) (own_b53s _ _ _) q3.toInt64 (q3.toInt64 + (dd q1 (4 : Int32)).toInt64) (own_b53 _) (own_b53s _ _ _) q4.toInt64 (q4.toInt64 + (dd q1 (6 : Int32)).toInt64) (own_b53 _) (own_b53s _ _ _) _ _ A60_b53 A60) rfl (by decide) (by decide) (by decide) (by decide) rfl pd__28_5bD_5bD_29Z rfl rfl (Nat.le_of_eq rfl) ?_
                rintro _ T95 L95 X95 ⟨rfl, N95q, e95⟩
                have N95 := Fr.app N60 N95q
                show GoE p e below _ (T95.setTop (mkF m 215 #[.val (.int q1), .val (.int q2), .val (.int q3), .val (.int q4), .val (.int (3 : Int32)), .val (.int (dd q1 (2 : Int32))), .val (.int (dd q1 (4 : Int32))), .val (.int (dd q1 (6 : Int32))), .val (.ref b53), .val (.ref b54), .val (.int (0 : Int32)), .val (.int (1 : Int32)), .val (.int (1 : Int32))] [.int (domL [(q2.toInt64, (q2.toInt64 + (dd q1 (2 : Int32)).toInt64)), (q3.toInt64, (q3.toInt64 + (dd q1 (4 : Int32)).toInt64)), (q4.toInt64, (q4.toInt64 + (dd q1 (6 : Int32)).toInt64))] 0)]))
                refine g_iload X95 hx hby at_215 (pc' := 217) rfl rfl ?_
                refine g_icmp_ne X95 hx hby at_217 (by decide) (pc' := 224) (by decide) (pn := 220) rfl (fun z => absurd z (fun z => z (by simp only [domL, own_lt1, own_lt2, hc120_61, hc131_73, hc142_85, hc159_86, hc170_89, hc181_92, if_true, if_false, ↓reduceIte, ite_self]))) (fun hc217_96 => ?_)
                refine g_iconst X95 hx hby at_220 (pc' := 221) rfl (z := (1 : Int32)) rfl ?_
                refine g_goto X95 hx hby at_221 (by decide) (pc' := 225) (by decide) ?_
                exact g_retN (Q := (fun v h L => v = some (.int 1) ∧ Fr n0 L)) (w := (1 : Int32)) X95 hx hby at_225 hret (by simp) (by first | decide | rfl) hlk (by decide) (by decide) ⟨rfl, N95⟩
        · refine g_iconst X60 hx hby at_145 (pc' := 146) rfl (z := (1 : Int32)) rfl ?_
          refine g_goto X60 hx hby at_146 (by decide) (pc' := 150) (by decide) ?_
          refine g_istore X60 hx hby at_150 (pc' := 152) rfl (l' := #[.val (.int q1), .val (.int q2), .val (.int q3), .val (.int q4), .val (.int (3 : Int32)), .val (.int (dd q1 (2 : Int32))), .val (.int (dd q1 (4 : Int32))), .val (.int (dd q1 (6 : Int32))), .val (.ref b53), .val (.ref b54), .val (.int (1 : Int32)), .unset, .unset]) rfl ?_
          refine g_iload X60 hx hby at_152 (pc' := 154) rfl rfl ?_
          refine g_if_le X60 hx hby at_154 (by decide) (pc' := 162) (by decide) (pn := 157) rfl (fun z => absurd z (by decide)) (fun _ => ?_)
          refine g_iload X60 hx hby at_157 (pc' := 159) rfl rfl ?_
          refine g_if_gt X60 hx hby at_159 (by decide) (pc' := 184) (by decide) (pn := 162) rfl (fun hc159_97 => ?_) (fun hc159_97 => ?_)
          · refine g_iconst X60 hx hby at_184 (pc' := 185) rfl (z := (1 : Int32)) rfl ?_
            refine g_goto X60 hx hby at_185 (by decide) (pc' := 189) (by decide) ?_
            refine g_istore X60 hx hby at_189 (pc' := 191) rfl (l' := #[.val (.int q1), .val (.int q2), .val (.int q3), .val (.int q4), .val (.int (3 : Int32)), .val (.int (dd q1 (2 : Int32))), .val (.int (dd q1 (4 : Int32))), .val (.int (dd q1 (6 : Int32))), .val (.ref b53), .val (.ref b54), .val (.int (1 : Int32)), .val (.int (1 : Int32)), .unset]) rfl ?_
            refine g_iload X60 hx hby at_191 (pc' := 193) rfl rfl ?_
            refine g_if_ne X60 hx hby at_193 (by decide) (pc' := 205) (by decide) (pn := 196) rfl (fun _ => ?_) (fun z => absurd z (by decide))
            refine g_iconst X60 hx hby at_205 (pc' := 206) rfl (z := (0 : Int32)) rfl ?_
            refine g_istore X60 hx hby at_206 (pc' := 208) rfl (l' := #[.val (.int q1), .val (.int q2), .val (.int q3), .val (.int q4), .val (.int (3 : Int32)), .val (.int (dd q1 (2 : Int32))), .val (.int (dd q1 (4 : Int32))), .val (.int (dd q1 (6 : Int32))), .val (.ref b53), .val (.ref b54), .val (.int (1 : Int32)), .val (.int (1 : Int32)), .val (.int (0 : Int32))]) rfl ?_
            refine g_aload X60 hx hby at_208 (pc' := 210) rfl rfl rfl ?_
            refine g_aload X60 hx hby at_210 (pc' := 212) rfl rfl rfl ?_
            refine g_callS X60 hx hZ hown (W := 0) (argsL := [.ref b53, .ref b54]) (rest := []) hby at_212 (pc' := 215) rfl (by rw [hml]; rfl) (w_1 hw) (w_2 hw) (w_3 hw) (w_4 hw) (by decide) (rm1_3 l Z a0 hw [] b53 b54 T60.heap n0 q2.toInt64 (q2.toInt64 + (dd q1 (2 : Int32)).toInt64) (own_b53 _) (own_b53s _ _ _) q3.toInt64 (q3.toInt64 + (dd q1 (4 : Int32)).toInt64) (own_b53 _) (own_b53s _ _ _) q4.toInt64 (q4.toInt64 + (dd q1 (6 : Int32)).toInt64) (own_b53 _) (own_b53s _ _ _) _ _ A60_b53 A60) rfl (by decide) (by decide) (by decide) (by decide) rfl pd__28_5bD_5bD_29Z rfl rfl (Nat.le_of_eq rfl) ?_
            rintro _ T98 L98 X98 ⟨rfl, N98q, e98⟩
            have N98 := Fr.app N60 N98q
            show GoE p e below _ (T98.setTop (mkF m 215 #[.val (.int q1), .val (.int q2), .val (.int q3), .val (.int q4), .val (.int (3 : Int32)), .val (.int (dd q1 (2 : Int32))), .val (.int (dd q1 (4 : Int32))), .val (.int (dd q1 (6 : Int32))), .val (.ref b53), .val (.ref b54), .val (.int (1 : Int32)), .val (.int (1 : Int32)), .val (.int (0 : Int32))] [.int (domL [(q2.toInt64, (q2.toInt64 + (dd q1 (2 : Int32)).toInt64)), (q3.toInt64, (q3.toInt64 + (dd q1 (4 : Int32)).toInt64)), (q4.toInt64, (q4.toInt64 + (dd q1 (6 : Int32)).toInt64))] 0)]))
            refine g_iload X98 hx hby at_215 (pc' := 217) rfl rfl ?_
            refine g_icmp_ne X98 hx hby at_217 (by decide) (pc' := 224) (by decide) (pn := 220) rfl (fun z => absurd z (fun z => z (by simp only [domL, own_lt1, own_lt2, hc120_61, hc131_73, hc142_85, hc159_97, if_true, if_false, ↓reduceIte, ite_self]))) (fun hc217_99 => ?_)
            refine g_iconst X98 hx hby at_220 (pc' := 221) rfl (z := (1 : Int32)) rfl ?_
            refine g_goto X98 hx hby at_221 (by decide) (pc' := 225) (by decide) ?_
            exact g_retN (Q := (fun v h L => v = some (.int 1) ∧ Fr n0 L)) (w := (1 : Int32)) X98 hx hby at_225 hret (by simp) (by first | decide | rfl) hlk (by decide) (by decide) ⟨rfl, N98⟩
          · refine g_iload X60 hx hby at_162 (pc' := 164) rfl rfl ?_
            refine g_iconst X60 hx hby at_164 (pc' := 165) rfl (z := (1 : Int32)) rfl ?_
            refine g_icmp_le X60 hx hby at_165 (by decide) (pc' := 173) (by decide) (pn := 168) rfl (fun z => absurd z (by decide)) (fun _ => ?_)
            refine g_iload X60 hx hby at_168 (pc' := 170) rfl rfl ?_
            refine g_if_gt X60 hx hby at_170 (by decide) (pc' := 184) (by decide) (pn := 173) rfl (fun hc170_100 => ?_) (fun hc170_100 => ?_)
            · refine g_iconst X60 hx hby at_184 (pc' := 185) rfl (z := (1 : Int32)) rfl ?_
              refine g_goto X60 hx hby at_185 (by decide) (pc' := 189) (by decide) ?_
              refine g_istore X60 hx hby at_189 (pc' := 191) rfl (l' := #[.val (.int q1), .val (.int q2), .val (.int q3), .val (.int q4), .val (.int (3 : Int32)), .val (.int (dd q1 (2 : Int32))), .val (.int (dd q1 (4 : Int32))), .val (.int (dd q1 (6 : Int32))), .val (.ref b53), .val (.ref b54), .val (.int (1 : Int32)), .val (.int (1 : Int32)), .unset]) rfl ?_
              refine g_iload X60 hx hby at_191 (pc' := 193) rfl rfl ?_
              refine g_if_ne X60 hx hby at_193 (by decide) (pc' := 205) (by decide) (pn := 196) rfl (fun _ => ?_) (fun z => absurd z (by decide))
              refine g_iconst X60 hx hby at_205 (pc' := 206) rfl (z := (0 : Int32)) rfl ?_
              refine g_istore X60 hx hby at_206 (pc' := 208) rfl (l' := #[.val (.int q1), .val (.int q2), .val (.int q3), .val (.int q4), .val (.int (3 : Int32)), .val (.int (dd q1 (2 : Int32))), .val (.int (dd q1 (4 : Int32))), .val (.int (dd q1 (6 : Int32))), .val (.ref b53), .val (.ref b54), .val (.int (1 : Int32)), .val (.int (1 : Int32)), .val (.int (0 : Int32))]) rfl ?_
              refine g_aload X60 hx hby at_208 (pc' := 210) rfl rfl rfl ?_
              refine g_aload X60 hx hby at_210 (pc' := 212) rfl rfl rfl ?_
              refine g_callS X60 hx hZ hown (W := 0) (argsL := [.ref b53, .ref b54]) (rest := []) hby at_212 (pc' := 215) rfl (by rw [hml]; rfl) (w_1 hw) (w_2 hw) (w_3 hw) (w_4 hw) (by decide) (rm1_3 l Z a0 hw [] b53 b54 T60.heap n0 q2.toInt64 (q2.toInt64 + (dd q1 (2 : Int32)).toInt64) (own_b53 _) (own_b53s _ _ _) q3.toInt64 (q3.toInt64 + (dd q1 (4 : Int32)).toInt64) (own_b53 _) (own_b53s _ _ _) q4.toInt64 (q4.toInt64 + (dd q1 (6 : Int32)).toInt64) (own_b53 _) (own_b53s _ _ _) _ _ A60_b53 A60) rfl (by decide) (by decide) (by decide) (by decide) rfl pd__28_5bD_5bD_29Z rfl rfl (Nat.le_of_eq rfl) ?_
              rintro _ T101 L101 X101 ⟨rfl, N101q, e101⟩
              have N101 := Fr.app N60 N101q
              show GoE p e below _ (T101.setTop (mkF m 215 #[.val (.int q1), .val (.int q2), .val (.int q3), .val (.int q4), .val (.int (3 : Int32)), .val (.int (dd q1 (2 : Int32))), .val (.int (dd q1 (4 : Int32))), .val (.int (dd q1 (6 : Int32))), .val (.ref b53), .val (.ref b54), .val (.int (1 : Int32)), .val (.int (1 : Int32)), .val (.int (0 : Int32))] [.int (domL [(q2.toInt64, (q2.toInt64 + (dd q1 (2 : Int32)).toInt64)), (q3.toInt64, (q3.toInt64 + (dd q1 (4 : Int32)).toInt64)), (q4.toInt64, (q4.toInt64 + (dd q1 (6 : Int32)).toInt64))] 0)]))
              refine g_iload X101 hx hby at_215 (pc' := 217) rfl rfl ?_
              refine g_icmp_ne X101 hx hby at_217 (by decide) (pc' := 224) (by decide) (pn := 220) rfl (fun z => absurd z (fun z => z (by simp only [domL, own_lt1, own_lt2, hc120_61, hc131_73, hc142_85, hc159_97, hc170_100, if_true, if_false, ↓reduceIte, ite_self]))) (fun hc217_102 => ?_)
              refine g_iconst X101 hx hby at_220 (pc' := 221) rfl (z := (1 : Int32)) rfl ?_
              refine g_goto X101 hx hby at_221 (by decide) (pc' := 225) (by decide) ?_
              exact g_retN (Q := (fun v h L => v = some (.int 1) ∧ Fr n0 L)) (w := (1 : Int32)) X101 hx hby at_225 hret (by simp) (by first | decide | rfl) hlk (by decide) (by decide) ⟨rfl, N101⟩
            · refine g_iload X60 hx hby at_173 (pc' := 175) rfl rfl ?_
              refine g_iconst X60 hx hby at_175 (pc' := 176) rfl (z := (2 : Int32)) rfl ?_
              refine g_icmp_le X60 hx hby at_176 (by decide) (pc' := 188) (by decide) (pn := 179) rfl (fun z => absurd z (by decide)) (fun _ => ?_)
              refine g_iload X60 hx hby at_179 (pc' := 181) rfl rfl ?_
              refine g_if_le X60 hx hby at_181 (by decide) (pc' := 188) (by decide) (pn := 184) rfl (fun hc181_103 => ?_) (fun hc181_103 => ?_)
              · refine g_iconst X60 hx hby at_188 (pc' := 189) rfl (z := (0 : Int32)) rfl ?_
                refine g_istore X60 hx hby at_189 (pc' := 191) rfl (l' := #[.val (.int q1), .val (.int q2), .val (.int q3), .val (.int q4), .val (.int (3 : Int32)), .val (.int (dd q1 (2 : Int32))), .val (.int (dd q1 (4 : Int32))), .val (.int (dd q1 (6 : Int32))), .val (.ref b53), .val (.ref b54), .val (.int (1 : Int32)), .val (.int (0 : Int32)), .unset]) rfl ?_
                refine g_iload X60 hx hby at_191 (pc' := 193) rfl rfl ?_
                refine g_if_ne X60 hx hby at_193 (by decide) (pc' := 205) (by decide) (pn := 196) rfl (fun _ => ?_) (fun z => absurd z (by decide))
                refine g_iconst X60 hx hby at_205 (pc' := 206) rfl (z := (0 : Int32)) rfl ?_
                refine g_istore X60 hx hby at_206 (pc' := 208) rfl (l' := #[.val (.int q1), .val (.int q2), .val (.int q3), .val (.int q4), .val (.int (3 : Int32)), .val (.int (dd q1 (2 : Int32))), .val (.int (dd q1 (4 : Int32))), .val (.int (dd q1 (6 : Int32))), .val (.ref b53), .val (.ref b54), .val (.int (1 : Int32)), .val (.int (0 : Int32)), .val (.int (0 : Int32))]) rfl ?_
                refine g_aload X60 hx hby at_208 (pc' := 210) rfl rfl rfl ?_
                refine g_aload X60 hx hby at_210 (pc' := 212) rfl rfl rfl ?_
                refine g_callS X60 hx hZ hown (W := 0) (argsL := [.ref b53, .ref b54]) (rest := []) hby at_212 (pc' := 215) rfl (by rw [hml]; rfl) (w_1 hw) (w_2 hw) (w_3 hw) (w_4 hw) (by decide) (rm1_3 l Z a0 hw [] b53 b54 T60.heap n0 q2.toInt64 (q2.toInt64 + (dd q1 (2 : Int32)).toInt64) (own_b53 _) (own_b53s _ _ _) q3.toInt64 (q3.toInt64 + (dd q1 (4 : Int32)).toInt64) (own_b53 _) (own_b53s _ _ _) q4.toInt64 (q4.toInt64 + (dd q1 (6 : Int32)).toInt64) (own_b53 _) (own_b53s _ _ _) _ _ A60_b53 A60) rfl (by decide) (by decide) (by decide) (by decide) rfl pd__28_5bD_5bD_29Z rfl rfl (Nat.le_of_eq rfl) ?_
                rintro _ T104 L104 X104 ⟨rfl, N104q, e104⟩
                have N104 := Fr.app N60 N104q
                show GoE p e below _ (T104.setTop (mkF m 215 #[.val (.int q1), .val (.int q2), .val (.int q3), .val (.int q4), .val (.int (3 : Int32)), .val (.int (dd q1 (2 : Int32))), .val (.int (dd q1 (4 : Int32))), .val (.int (dd q1 (6 : Int32))), .val (.ref b53), .val (.ref b54), .val (.int (1 : Int32)), .val (.int (0 : Int32)), .val (.int (0 : Int32))] [.int (domL [(q2.toInt64, (q2.toInt64 + (dd q1 (2 : Int32)).toInt64)), (q3.toInt64, (q3.toInt64 + (dd q1 (4 : Int32)).toInt64)), (q4.toInt64, (q4.toInt64 + (dd q1 (6 : Int32)).toInt64))] 0)]))
                refine g_iload X104 hx hby at_215 (pc' := 217) rfl rfl ?_
                refine g_icmp_ne X104 hx hby at_217 (by decide) (pc' := 224) (by decide) (pn := 220) rfl (fun z => absurd z (fun z => z (by simp only [domL, own_lt1, own_lt2, hc120_61, hc131_73, hc142_85, hc159_97, hc170_100, hc181_103, if_true, if_false, ↓reduceIte, ite_self]))) (fun hc217_105 => ?_)
                refine g_iconst X104 hx hby at_220 (pc' := 221) rfl (z := (1 : Int32)) rfl ?_
                refine g_goto X104 hx hby at_221 (by decide) (pc' := 225) (by decide) ?_
                exact g_retN (Q := (fun v h L => v = some (.int 1) ∧ Fr n0 L)) (w := (1 : Int32)) X104 hx hby at_225 hret (by simp) (by first | decide | rfl) hlk (by decide) (by decide) ⟨rfl, N104⟩
              · refine g_iconst X60 hx hby at_184 (pc' := 185) rfl (z := (1 : Int32)) rfl ?_
                refine g_goto X60 hx hby at_185 (by decide) (pc' := 189) (by decide) ?_
                refine g_istore X60 hx hby at_189 (pc' := 191) rfl (l' := #[.val (.int q1), .val (.int q2), .val (.int q3), .val (.int q4), .val (.int (3 : Int32)), .val (.int (dd q1 (2 : Int32))), .val (.int (dd q1 (4 : Int32))), .val (.int (dd q1 (6 : Int32))), .val (.ref b53), .val (.ref b54), .val (.int (1 : Int32)), .val (.int (1 : Int32)), .unset]) rfl ?_
                refine g_iload X60 hx hby at_191 (pc' := 193) rfl rfl ?_
                refine g_if_ne X60 hx hby at_193 (by decide) (pc' := 205) (by decide) (pn := 196) rfl (fun _ => ?_) (fun z => absurd z (by decide))
                refine g_iconst X60 hx hby at_205 (pc' := 206) rfl (z := (0 : Int32)) rfl ?_
                refine g_istore X60 hx hby at_206 (pc' := 208) rfl (l' := #[.val (.int q1), .val (.int q2), .val (.int q3), .val (.int q4), .val (.int (3 : Int32)), .val (.int (dd q1 (2 : Int32))), .val (.int (dd q1 (4 : Int32))), .val (.int (dd q1 (6 : Int32))), .val (.ref b53), .val (.ref b54), .val (.int (1 : Int32)), .val (.int (1 : Int32)), .val (.int (0 : Int32))]) rfl ?_
                refine g_aload X60 hx hby at_208 (pc' := 210) rfl rfl rfl ?_
                refine g_aload X60 hx hby at_210 (pc' := 212) rfl rfl rfl ?_
                refine g_callS X60 hx hZ hown (W := 0) (argsL := [.ref b53, .ref b54]) (rest := []) hby at_212 (pc' := 215) rfl (by rw [hml]; rfl) (w_1 hw) (w_2 hw) (w_3 hw) (w_4 hw) (by decide) (rm1_3 l Z a0 hw [] b53 b54 T60.heap n0 q2.toInt64 (q2.toInt64 + (dd q1 (2 : Int32)).toInt64) (own_b53 _) (own_b53s _ _ _) q3.toInt64 (q3.toInt64 + (dd q1 (4 : Int32)).toInt64) (own_b53 _) (own_b53s _ _ _) q4.toInt64 (q4.toInt64 + (dd q1 (6 : Int32)).toInt64) (own_b53 _) (own_b53s _ _ _) _ _ A60_b53 A60) rfl (by decide) (by decide) (by decide) (by decide) rfl pd__28_5bD_5bD_29Z rfl rfl (Nat.le_of_eq rfl) ?_
                rintro _ T106 L106 X106 ⟨rfl, N106q, e106⟩
                have N106 := Fr.app N60 N106q
                show GoE p e below _ (T106.setTop (mkF m 215 #[.val (.int q1), .val (.int q2), .val (.int q3), .val (.int q4), .val (.int (3 : Int32)), .val (.int (dd q1 (2 : Int32))), .val (.int (dd q1 (4 : Int32))), .val (.int (dd q1 (6 : Int32))), .val (.ref b53), .val (.ref b54), .val (.int (1 : Int32)), .val (.int (1 : Int32)), .val (.int (0 : Int32))] [.int (domL [(q2.toInt64, (q2.toInt64 + (dd q1 (2 : Int32)).toInt64)), (q3.toInt64, (q3.toInt64 + (dd q1 (4 : Int32)).toInt64)), (q4.toInt64, (q4.toInt64 + (dd q1 (6 : Int32)).toInt64))] 0)]))
                refine g_iload X106 hx hby at_215 (pc' := 217) rfl rfl ?_
                refine g_icmp_ne X106 hx hby at_217 (by decide) (pc' := 224) (by decide) (pn := 220) rfl (fun z => absurd z (fun z => z (by simp only [domL, own_lt1, own_lt2, hc120_61, hc131_73, hc142_85, hc159_97, hc170_100, hc181_103, if_true, if_false, ↓reduceIte, ite_self]))) (fun hc217_107 => ?_)
                refine g_iconst X106 hx hby at_220 (pc' := 221) rfl (z := (1 : Int32)) rfl ?_
                refine g_goto X106 hx hby at_221 (by decide) (pc' := 225) (by decide) ?_
                exact g_retN (Q := (fun v h L => v = some (.int 1) ∧ Fr n0 L)) (w := (1 : Int32)) X106 hx hby at_225 hret (by simp) (by first | decide | rfl) hlk (by decide) (by decide) ⟨rfl, N106⟩
set_option maxRecDepth 65536 in
set_option maxHeartbeats 40000000 in
theorem comes_1 {Post : Tables → Env → Array Value → State → Outcome → State → Prop} (hpost : ∀ tb e args s v u, (limb_1_1.after args s (.returned v) u = true ∧ limb_1_2.after args s (.returned v) u = true ∧ True) → FrameEnd s (.returned v) u (Jvm.fieldLocs frame_1_writes args s ++ Jvm.arrayLocs frame_1_arrays args s ++ Jvm.staticLocs frame_1_statics s) 16 128 → Post tb e args s (.returned v) u) :
    ArmFor flags0 classFile x code maxLocals ret World_1 tables_1 room_1 Calls_1 rest_1 Pre_1 Post := by
  intro l hfl _ _ p e ha hc hk s m args below hf hA hF happ hP
  obtain ⟨hcalls, hrest, hpre⟩ := hP
  obtain ⟨-, -, -, hnamed, -, -, -, hat⟩ := (Spec.applies_iff hf).mp happ
  obtain ⟨hg, hn⟩ := and_e (Cond.before_iff.mp (show (Jvm.Cond.and given_1 narrow_1).before args s = true from hpre))
  obtain ⟨h1, g0⟩ := and_e hg
  obtain ⟨a0, g1⟩ := and_e g0
  obtain ⟨a1, g2⟩ := and_e g1
  obtain ⟨a2, g3⟩ := and_e g2
  have a3 := g3
  obtain ⟨u0, u1, u2, u3, rfl⟩ : ∃ u0 u1 u2 u3 : Value, args = #[u0, u1, u2, u3] := by
    have hs : args.size = 4 := by simpa [Cond.value, given_1] using h1
    obtain ⟨L⟩ := args
    match L, hs with
    | [u0, u1, u2, u3], _ => exact ⟨u0, u1, u2, u3, rfl⟩
  have hw := fun d (hd : d ∈ tables_1) => atoms_spec (ws := Jvm.Cond.code x code maxLocals ret :: tables_1) hat d (List.mem_cons_of_mem _ hd)
  have hfit : Fit s := fun {y c} hc i hi => by
    obtain ⟨ha, rfl⟩ := Array.getElem?_eq_some_iff.mp hc
    have q := List.all_eq_true.mp ((Array.all_eq_true_iff_forall_mem.mp hF) _ (Array.getElem_mem ha)) i (List.mem_range.mpr hi)
    simpa [Array.getElem?_eq_getElem hi] using q
  obtain ⟨i0, e0⟩ := is_v a0
  obtain rfl : u0 = (.int i0) := Option.some.inj e0
  obtain ⟨i1, e1⟩ := is_v a1
  obtain rfl : u1 = (.int i1) := Option.some.inj e1
  obtain ⟨i2, e2⟩ := is_v a2
  obtain rfl : u2 = (.int i2) := Option.some.inj e2
  obtain ⟨i3, e3⟩ := is_v a3
  obtain rfl : u3 = (.int i3) := Option.some.inj e3
  obtain ⟨n, o, h1, h2, h3, _, L, rfl, ⟨rfl, N⟩, hq⟩ := rm0 l s _ hw tables_1 i0 i1 i2 i3  s.heap s.heap.size (Nat.le_refl _) p e ha hc hk s m _ below hf ((Spec.applies_iff_loose hf).mp happ).1 ⟨rfl, State.Warmed39.refl s, rfl⟩ trivial
  refine ⟨n, _, h1, h2, h3, hpost _ _ _ _ _ _ ⟨Cond.after_iff.mpr rfl, Cond.after_iff.mpr (eq_i res_at (Term.int_eval (1)) rfl), trivial⟩ ⟨hq.1, hq.2.1, (hq.2.2.sift fun y hy => Or.inr (N y hy)).mono (by decide) (by decide)⟩⟩
theorem main_1_1 : Claimed_1_1 := comes_1 fun _ _ _ _ _ _ h hF => ⟨h.1, hF⟩
theorem main_1_2 : Claimed_1_2 := comes_1 fun _ _ _ _ _ _ h hF => ⟨h.2.1, hF⟩
end Jvm.Pilot.@@N@@
namespace Jvm.Pilot.@@N@@
open Jvm Jvm.ClassFile Sem Op Lib Jvm.Free Jvm.Stand Jvm.Pilot.@@N@@.Jvm.D
/-! MADE BY PROGRAM (witnessworld.py) out of the Statement's table words and the real class files: 9 classes; the members and pool entries that the words name. The judged class is class 1, her method 1. -/
namespace start1
open Jvm.ClassFile
def u (s : String) : CpInfo := .utf8 (stringToUtf16 s)
/-- a pool by its gaps: so many unusable entries, then the entry; so many at the end -/
def gap : Nat → List CpInfo → List CpInfo
  | 0, r => r
  | n + 1, r => .unusable :: gap n r
def poolList (es : List (Nat × CpInfo)) (last : Nat) : List CpInfo := es.foldr (fun e r => gap e.1 (e.2 :: r)) (gap last [])
def pool (es : List (Nat × CpInfo)) (last : Nat) : Array CpInfo := ⟨poolList es last⟩
def fileOf (pool : Array CpInfo) (this : Nat) (attrs : Array Attribute := #[]) (ms : Array MethodInfo := #[]) (fl : Nat := 33) (sup : Nat := 0) (ifs : Array Nat := #[]) (fds : Array FieldInfo := #[]) : ClassFile where
  minorVersion := 0
  majorVersion := 65
  constantPool := pool
  accessFlags := fl
  thisClass := this
  superClass := sup
  interfaces := ifs
  fields := fds
  methods := ms
  attributes := attrs
def plain (name : String) (sup : Option ClassId) : Class where
  name := name
  kind := .ordinary
  loader := none
  accessFlags := 33
  super := sup
  interfaces := #[]
  cf := none
  fields := #[]
  methods := #[]
  instanceTypes := #[]
  staticTypes := #[]
  resolved := #[]
  callSites := []
  init := .initialized
  statics := none
  mirror := none

def pool0 : Array CpInfo := pool [(5, u "<init>"), (0, u "()V"), (1, .class_ 10), (1, u "java/lang/Object")] 113

def k0m0 : Method := { name := "<init>", desc := "()V", sig := { parameters := [], returnType := none }, accessFlags := 1, code := none }
/-- java/lang/Object -/
def k0 : Class := { plain "java/lang/Object" none with
  accessFlags := 33
  interfaces := #[]
  cf := some (fileOf pool0 8 #[] #[{ accessFlags := 1, nameIndex := 5, descriptorIndex := 6, attributes := #[] }] 33 0 #[] #[])
  fields := #[]
  methods := #[k0m0]
  instanceTypes := #[]
  staticTypes := #[]
  resolved := Array.replicate 124 none
  statics := none }

def pool1 : Array CpInfo := pool [(2, .class_ 4), (1, u "java/lang/Object"), (0, u "<init>"), (0, u "()V"), (0, .methodref 8 9), (0, .class_ 10), (0, .nameAndType 11 12), (0, u "com/example/nittei/nittei/Pareto"), (0, u "dominates"), (0, u "([D[D)Z"), (0, .class_ 14), (0, u "com/example/nittei/nittei/ParetoDominatesPinLaw"), (2, u "law"), (0, u "(IIII)Z")] 5

def k1m0 : Method := { name := "<init>", desc := "()V", sig := { parameters := [], returnType := none }, accessFlags := 2, code := none }
def k1c1 : Code := { maxStack := 6, maxLocals := 13, code := code, exceptionTable := #[], attributes := #[] }
def k1m1 : Method := { name := "law", desc := "(IIII)Z", sig := { parameters := [.int, .int, .int, .int], returnType := some .boolean }, accessFlags := 9, code := some k1c1 }
/-- com/example/nittei/nittei/ParetoDominatesPinLaw -/
def k1 : Class := { plain "com/example/nittei/nittei/ParetoDominatesPinLaw" (some 0) with
  accessFlags := 49
  interfaces := #[]
  cf := some (fileOf pool1 13 #[] #[{ accessFlags := 2, nameIndex := 5, descriptorIndex := 6, attributes := #[] }, { accessFlags := 9, nameIndex := 17, descriptorIndex := 18, attributes := #[] }] 49 2 #[] #[])
  fields := #[]
  methods := #[k1m0, k1m1]
  instanceTypes := #[]
  staticTypes := #[]
  resolved := Array.replicate 24 none
  statics := none }

def pool2 : Array CpInfo := pool [(2, .class_ 4), (1, u "java/lang/Object"), (0, u "<init>"), (0, u "()V"), (1, .class_ 10), (1, u "com/example/nittei/nittei/Pareto"), (21, u "([D[D)Z"), (2, u "dominates"), (45, .class_ 83), (1, u "com/example/nittei/nittei/Pareto$Members"), (119, .class_ 204), (0, u "com/example/nittei/nittei/Pareto$Every"), (0, .class_ 206), (0, u "com/example/nittei/nittei/Pareto$Staircase"), (0, .class_ 208), (0, u "com/example/nittei/nittei/Pareto$Last")] 45

def k2m0 : Method := { name := "<init>", desc := "()V", sig := { parameters := [], returnType := none }, accessFlags := 2, code := none }
def k2c1 : Code := { maxStack := 4, maxLocals := 4, code := prog_12_method_2_code, exceptionTable := #[], attributes := #[] }
def k2m1 : Method := { name := "dominates", desc := "([D[D)Z", sig := { parameters := [(.array .double), (.array .double)], returnType := some .boolean }, accessFlags := 9, code := some k2c1 }
/-- com/example/nittei/nittei/Pareto -/
def k2 : Class := { plain "com/example/nittei/nittei/Pareto" (some 0) with
  accessFlags := 49
  interfaces := #[]
  cf := some (fileOf pool2 8 #[.nestMembers #[203, 205, 207, 81]] #[{ accessFlags := 2, nameIndex := 5, descriptorIndex := 6, attributes := #[] }, { accessFlags := 9, nameIndex := 35, descriptorIndex := 32, attributes := #[] }] 49 2 #[] #[])
  fields := #[]
  methods := #[k2m0, k2m1]
  instanceTypes := #[]
  staticTypes := #[]
  resolved := Array.replicate 254 none
  statics := none }

def pool3 : Array CpInfo := pool [(1, u "java/lang/Cloneable"), (0, .class_ 1), (0, u "java/lang/Object"), (0, .class_ 3)] 3

/-- java/lang/Cloneable -/
def k3 : Class := { plain "java/lang/Cloneable" (some 0) with
  accessFlags := 1537
  interfaces := #[]
  cf := some (fileOf pool3 2 #[] #[] 1537 4 #[] #[])
  fields := #[]
  methods := #[]
  instanceTypes := #[]
  staticTypes := #[]
  resolved := Array.replicate 8 none
  statics := none }

def pool4 : Array CpInfo := pool [(1, u "java/io/Serializable"), (0, .class_ 1), (0, u "java/lang/Object"), (0, .class_ 3)] 3

/-- java/io/Serializable -/
def k4 : Class := { plain "java/io/Serializable" (some 0) with
  accessFlags := 1537
  interfaces := #[]
  cf := some (fileOf pool4 2 #[] #[] 1537 4 #[] #[])
  fields := #[]
  methods := #[]
  instanceTypes := #[]
  staticTypes := #[]
  resolved := Array.replicate 8 none
  statics := none }

/-- the primitive byte -/
def k5 : Class := { plain "byte" none with kind := .primitive 'B', accessFlags := 0x411 }
/-- [B -/
def k6 : Class := { plain "[B" (some 0) with kind := .array 5 .byte, interfaces := #[3, 4], accessFlags := 1041 }

/-- the primitive int -/
def k7 : Class := { plain "int" none with kind := .primitive 'I', accessFlags := 0x411 }
/-- [I -/
def k8 : Class := { plain "[I" (some 0) with kind := .array 7 .int, interfaces := #[3, 4], accessFlags := 1041 }

/-- the primitive double -/
def k9 : Class := { plain "double" none with kind := .primitive 'D', accessFlags := 0x411 }
/-- [D -/
def k10 : Class := { plain "[D" (some 0) with kind := .array 9 .double, interfaces := #[3, 4], accessFlags := 1041 }

def heap : Heap := #[]
def classes : Array Class := #[k0, k1, k2, k3, k4, k5, k6, k7, k8, k9, k10]
def interned : List (Array UInt16 × Addr) := []
def slotsUsed : Nat := 0
def theMethod : MethodId := ⟨1, 1⟩
def args0 : Array Value := #[.int 5, .int 7, .int 8, .int 9]
def aboutOver (below : List Frame) : State where
  vm := { classes := classes, interned := interned.toArray }
  heap := heap
  slotsUsed := slotsUsed
  threads := #[{ frames := .invoking theMethod args0 :: below }]
def below0 : List Frame := [.native { method := ⟨0, 0⟩, args := #[] }]
def about1 : State := aboutOver below0
def p0 : Program := .bare "" "" ""
def e0 : Env := launch0.env 0 0 0
theorem w_frames : about1.frames = Frame.invoking theMethod args0 :: below0 := rfl
set_option maxRecDepth 65536 in
theorem w_args : argsFit about1.vm theMethod args0 = true := by decide +kernel
set_option maxRecDepth 65536 in
theorem w_heap : heapFits about1 = true := by decide +kernel
set_option maxRecDepth 65536 in
theorem w_runnable : about1.curStatus? = some .runnable := by decide +kernel
set_option maxRecDepth 65536 in
theorem w_alone : about1.alone = true := by decide +kernel
set_option maxRecDepth 65536 in
theorem w_named : about1.methodNamed? x = some theMethod := by decide +kernel
set_option maxRecDepth 65536 in
theorem w_hears : about1.hears theMethod below0 = true := by decide +kernel
set_option maxRecDepth 65536 in
theorem w_ripe : about1.ripe theMethod args0 below0 = true := by decide +kernel
theorem w_running : about1.status = .running := rfl
set_option maxRecDepth 65536 in
theorem w_room : about1.hasRoom e0.platform room_1 = true :=
  launch0.hasRoom_least _ room_1 (by decide +kernel) (by decide +kernel) (by decide +kernel) (by decide +kernel) (by decide +kernel) (by decide +kernel)
theorem allAtoms_all (ts : List Jvm.Cond) (a : Array Jvm.Value) (st : Jvm.State) : (allAtoms ts).before a st = ts.all (fun c => c.before a st) := by
  induction ts with
  | nil => rfl
  | cons c t ih =>
    show (Jvm.Cond.and c (allAtoms t)).before a st = _
    rw [Jvm.Cond.before_and, ih, List.all_cons]
def words1 : List Jvm.Cond := Jvm.Cond.code x code maxLocals ret :: tables_1
/-- a 'code' word, met by the world's own term for the bytes: nothing is compared byte by byte -/
theorem code_word {y : MethodName} {bytes : ByteArray} {mx : Nat} {rt : Option FieldType} {a : Array Value} {s : State} {m : MethodId} {meth : Method} {c : Code} (h1 : s.methodNamed? y = some m) (h2 : s.vm.method? m = some meth) (h3 : meth.code = some c) (h4 : c.code = bytes)
    (h5 : (c.maxLocals == mx && c.exceptionTable.isEmpty && decide (c.maxStack ≤ mostOperands) && decide (meth.sig.returnType = rt) && !meth.locks && decide (parseMethodDescriptor y.desc = some meth.sig)) = true) : (Jvm.Cond.code y bytes mx rt).before a s = true := by
  simp only [Bool.and_eq_true, beq_iff_eq, Bool.not_eq_true', decide_eq_true_eq] at h5
  obtain ⟨⟨⟨⟨⟨g1, g2⟩, g3⟩, g4⟩, g5⟩, g6⟩ := h5
  simp [Cond.before, Cond.holds, Cond.value, h1, h2, h3, h4, g1, g2, g3, g4, g5, g6]
def isCode : Jvm.Cond → Bool
  | .code _ _ _ _ => true
  | _ => false
theorem all_split {L : List Jvm.Cond} {P : Jvm.Cond → Bool} (h1 : L.all (fun c => isCode c || P c) = true) (h2 : ∀ c ∈ L.filter isCode, P c = true) : L.all P = true := by
  refine List.all_eq_true.mpr fun c hc => ?_
  have h := List.all_eq_true.mp h1 c hc
  rcases Bool.eq_false_or_eq_true (isCode c) with hi | hi
  · exact h2 c (List.mem_filter.mpr ⟨hc, hi⟩)
  · simpa [hi] using h
set_option maxRecDepth 65536 in
theorem w_c0 : (Jvm.Cond.code x code maxLocals ret).before args0 about1 = true := code_word (m := ⟨1, 1⟩) (meth := k1m1) (c := k1c1) (by decide +kernel) rfl rfl rfl (by decide +kernel)
set_option maxRecDepth 65536 in
theorem w_c1 : (Jvm.Cond.code ({ cls := "com/example/nittei/nittei/Pareto", name := "dominates", desc := "([D[D)Z" } : Jvm.MethodName) prog_12_method_2_code (4 : Nat) (Option.some Jvm.ClassFile.FieldType.boolean)).before args0 about1 = true := code_word (m := ⟨2, 1⟩) (meth := k2m1) (c := k2c1) (by decide +kernel) rfl rfl rfl (by decide +kernel)
def codes1 : List Jvm.Cond := [Jvm.Cond.code x code maxLocals ret, Jvm.Cond.code ({ cls := "com/example/nittei/nittei/Pareto", name := "dominates", desc := "([D[D)Z" } : Jvm.MethodName) prog_12_method_2_code (4 : Nat) (Option.some Jvm.ClassFile.FieldType.boolean)]
set_option maxRecDepth 65536 in
theorem codes_eq : words1.filter isCode = codes1 := rfl
theorem w_codes : ∀ c ∈ words1.filter isCode, c.before args0 about1 = true := by
  rw [codes_eq]
  intro c hc
  simp only [codes1, List.mem_cons, List.not_mem_nil, or_false] at hc
  rcases hc with rfl | rfl
  · exact w_c0
  · exact w_c1
set_option maxRecDepth 65536 in
theorem w_t1 : words1.all (fun c => isCode c || c.before args0 about1) = true := by decide +kernel
theorem w_tables : (allAtoms (Jvm.Cond.code x code maxLocals ret :: tables_1)).before args0 about1 = true := by
  rw [allAtoms_all]
  show words1.all (fun c => c.before args0 about1) = true
  refine all_split ?_ w_codes
  rw [w_t1]
set_option maxRecDepth 65536 in
theorem w_case : (Jvm.Cond.and given_1 narrow_1).before args0 about1 = true := by decide +kernel
theorem w_applies : (headSpec (Jvm.Cond.code x code maxLocals ret :: tables_1) room_1).applies x e0.platform about1 = true :=
  (Spec.applies_iff w_frames).mpr ⟨w_running, w_runnable, w_alone, w_named, w_hears, w_ripe, w_room, w_tables⟩
theorem atStart : AtStart classFile x code maxLocals ret World_1 tables_1 room_1 Calls_1 rest_1 Pre_1 launch0 p0 e0 about1 theMethod args0 below0 :=
  ⟨lists_1, trivial, launch0.admits_env _ _ _, launch0.least_env, fairChoices_fair.cas, fairChoices_fair.clock, w_frames, w_args, w_heap, w_applies, trivial, trivial, w_case⟩
end start1
theorem witness_1 : WitnessClaimed_1 := ⟨start1.p0, start1.e0, start1.about1, start1.theMethod, start1.args0, start1.below0, start1.atStart⟩
end Jvm.Pilot.@@N@@
