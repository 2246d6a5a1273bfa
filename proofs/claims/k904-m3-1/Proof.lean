import JvmDerived
import JvmDerived.Pilot.@@N@@Statement
import JvmDerived.Pilot.@@N@@Code
set_option linter.unusedVariables false
set_option linter.unusedSimpArgs false
namespace Jvm.RoadKit
open Sem ClassFile Op Lib Jvm.Stand Jvm.Free Jvm.LawKit
section New
variable {p : Program} {l : Launch} {e : Env} {R : Room} {s : State} {m : MethodId} {args : Array Value} {below : List Frame} {meth : Method} {c : Code} {T : State} {locs : List Loc} {cells slots : Nat}
theorem retI (X : Stand p l e R s m args below meth c T locs cells slots) (hx : p.tables.exec = Jvm.exec) {pc : Nat} {Ls : Array Slot} {z : Int32} {rest : List Value} (hret : meth.sig.returnType = some .int) (hd : decode c.code pc = .ok (.ireturn, 1)) {fs : List Frame}
    (hl : ∀ (f : JFrame) (acts : List Action), f.method = m → f.locked = none → f.entered = [] → (doReturn e (T.setTop f) acts (some (.int z))).1 = T.setFrames fs) : Steps p.tables e below (T.setTop (mkF m pc Ls (.int z :: rest))) (T.setFrames fs) := by
  have hm' : T.vm.method? m = some meth := X.method'
  have hn : narrow .int (.int z) = .int z := rfl
  show Steps p.tables e below (T.setTop { method := m, pc := pc, locals := Ls, stack := _ :: rest, locked := none }) _
  jvm_step X.here [X.here.top, hx, hd, hm', hret, hn]
  first | (intro acts; rw [hl _ acts rfl rfl rfl]) | rw [hl _ _ rfl rfl rfl]
  exact Steps.refl _
end New
end Jvm.RoadKit
namespace Jvm.Pilot.@@N@@
open Jvm Jvm.ClassFile Sem Op Lib Jvm.Free Jvm.Stand Jvm.LawKit Jvm.RoadKit Bundle Jvm.Pilot.@@N@@.Jvm.D
open Jvm.Free.XT (ushr ushrL cmpL)
section GoKit
open Jvm.Free.XT (ushr ushrL cmpL)
variable {p : Program} {l : Launch} {e : Env} {R : Room} {s : State} {m : MethodId} {args : Array Value} {below : List Frame} {meth : Method} {c : Code} {T : State} {locs : List Loc} {cells slots : Nat} {Q : Option Value → Heap → List Loc → Prop} {rc rs : Nat} {Fi : Outcome → State → Prop} {bytes : ByteArray} {pc pc' : Nat} {Ls : Array Slot} {rest : List Value}
def GoE (p : Program) (e : Env) (below : List Frame) (Fi : Outcome → State → Prop) (S : State) : Prop :=
  ∃ t o, Steps p.tables e below S t ∧ t.status = .running ∧ Ended t below o ∧ Fi o t
abbrev Go (p : Program) (e : Env) (below : List Frame) (s : State) (rc rs : Nat) (Q : Option Value → Heap → List Loc → Prop) (S : State) : Prop :=
  GoE p e below (fun o t => ∃ v L, o = .returned v ∧ Q v t.heap L ∧ FrameEnd s o t L rc rs) S
theorem GoE.pull {a b : State} (h : GoE p e below Fi b) (f : ∀ t, Steps p.tables e below b t → Steps p.tables e below a t) : GoE p e below Fi a := by
  obtain ⟨t, o, h1, h2⟩ := h
  exact ⟨t, o, f t h1, h2⟩
theorem GoE.imp {Fi' : Outcome → State → Prop} {a : State} (h : GoE p e below Fi a) (f : ∀ o t, Fi o t → Fi' o t) : GoE p e below Fi' a := by
  obtain ⟨t, o, h1, h2, h3, h4⟩ := h
  exact ⟨t, o, h1, h2, h3, f _ _ h4⟩
def Ctr (l : Launch) (Z : State) (y : MethodName) (bytes : ByteArray) (ml : Nat) (ret : Option FieldType) (ws : List Jvm.Cond) (rm : Room) (as : Array Value) (h0 : Heap) (Q : Option Value → Heap → List Loc → Prop) : Prop :=
  MetFree l y (head1 (Jvm.Cond.code y bytes ml ret :: ws) rm) (fun a U => a = as ∧ Z.Warmed39 U.vm ∧ U.heap = h0) (fun _ _ _ _ _ => True) (fun _ U o U' => ∃ v L, o = .returned v ∧ Q v U'.heap L ∧ FrameEnd U o U' L rm.cells rm.slots)
theorem Ctr.enter {Z : State} {y : MethodName} {ml : Nat} {ret : Option FieldType} {ws : List Jvm.Cond} {rm : Room} {as : Array Value} {h0 : Heap} (hpl : plainFor y = true) (hef : ∀ m, entryFrame m as ml = mkF m 0 Ls [])
    (body : ∀ (p : Program) (e : Env) (s : State) (m : MethodId) (below : List Frame) (meth : Method) (c : Code) (T : State), p.tables.exec = Jvm.exec → c.code = bytes → c.maxLocals = ml → s.vm.findClass y.cls = some m.cls → meth.name = y.name → meth.sig.returnType = ret → meth.locks = false → Z.Warmed39 s.vm → s.heap = h0 →
      Stand p l e rm s m as below meth c T [] 0 0 → T.heap = h0 → Go p e below s rm.cells rm.slots Q (T.setTop (mkF m 0 Ls []))) : Ctr l Z y bytes ml ret ws rm as h0 Q := by
  refine MetFree.of_bodySF hpl hisR ?_
  intro p e s m args below meth c s₁ Bd hml0 hP hK
  obtain ⟨rfl, hZ, hh⟩ := hP
  have h := body p e s m below meth c s₁ Bd.exec Bd.bytes hml0 (findClass_of_methodNamed Bd.named) (name_of_methodNamed Bd.named Bd.method).1 Bd.returns (BodyLoose.notSynchronized Bd) hZ hh (Stand.of_body Bd) (by rw [← hh, Bd.state]; rfl)
  exact h.pull fun t k => castTop (hef m) k
theorem Ctr.imp {Z : State} {y : MethodName} {ml : Nat} {ret : Option FieldType} {ws : List Jvm.Cond} {rm : Room} {as : Array Value} {h0 : Heap} {Q' : Option Value → Heap → List Loc → Prop} (C : Ctr l Z y bytes ml ret ws rm as h0 Q) (f : ∀ v h L, Q v h L → Q' v h L) : Ctr l Z y bytes ml ret ws rm as h0 Q' := by
  intro p e ha hc hk s m args below hf happ hP hK
  obtain ⟨n, o, h1, h2, h3, v, L, h4, h5, h6⟩ := C p e ha hc hk s m args below hf happ hP hK
  exact ⟨n, o, h1, h2, h3, v, L, h4, f _ _ _ h5, h6⟩
theorem g_iload (X : Stand p l e R s m args below meth c T locs cells slots) (hx : p.tables.exec = Jvm.exec) {k : Nat} {v : Int32} (hby : c.code = bytes) (hd : decode bytes pc = .ok (.iload k, 2)) (hp : pc + 2 = pc') (hl : Ls[k]? = some (.val (.int v)))
    (H : GoE p e below Fi (T.setTop (mkF m pc' Ls (.int v :: rest)))) : GoE p e below Fi (T.setTop (mkF m pc Ls rest)) := by
  subst hp; exact H.pull fun t k => Jvm.Free.XS.iload X.here hx rfl (hb hby hd) hl k
theorem g_iloadN (X : Stand p l e R s m args below meth c T locs cells slots) (hx : p.tables.exec = Jvm.exec) {k : Fin 4} {v : Int32} (hby : c.code = bytes) (hd : decode bytes pc = .ok (.iload_n k, 1)) (hp : pc + 1 = pc') (hl : Ls[k.val]? = some (.val (.int v)))
    (H : GoE p e below Fi (T.setTop (mkF m pc' Ls (.int v :: rest)))) : GoE p e below Fi (T.setTop (mkF m pc Ls rest)) := by
  subst hp; exact H.pull fun t k => Jvm.Free.XS.iloadN X.here hx rfl (hb hby hd) hl k
theorem g_istore (X : Stand p l e R s m args below meth c T locs cells slots) (hx : p.tables.exec = Jvm.exec) {k : Nat} {x : Int32} {l' : Array Slot} (hby : c.code = bytes) (hd : decode bytes pc = .ok (.istore k, 2)) (hp : pc + 2 = pc') (hl : storeLocals Ls k (.int x) = some l')
    (H : GoE p e below Fi (T.setTop (mkF m pc' l' rest))) : GoE p e below Fi (T.setTop (mkF m pc Ls (.int x :: rest))) := by
  subst hp; exact H.pull fun t k => Jvm.Free.XS.istore X.here hx rfl (hb hby hd) rfl hl k
theorem g_istoreN (X : Stand p l e R s m args below meth c T locs cells slots) (hx : p.tables.exec = Jvm.exec) {k : Fin 4} {x : Int32} {l' : Array Slot} (hby : c.code = bytes) (hd : decode bytes pc = .ok (.istore_n k, 1)) (hp : pc + 1 = pc') (hl : storeLocals Ls k.val (.int x) = some l')
    (H : GoE p e below Fi (T.setTop (mkF m pc' l' rest))) : GoE p e below Fi (T.setTop (mkF m pc Ls (.int x :: rest))) := by
  subst hp; exact H.pull fun t k => Jvm.Free.XS.istoreN X.here hx rfl (hb hby hd) rfl hl k
theorem g_lload (X : Stand p l e R s m args below meth c T locs cells slots) (hx : p.tables.exec = Jvm.exec) {k : Nat} {v : Int64} (hby : c.code = bytes) (hd : decode bytes pc = .ok (.lload k, 2)) (hp : pc + 2 = pc') (hl : Ls[k]? = some (.val (.long v)))
    (H : GoE p e below Fi (T.setTop (mkF m pc' Ls (.long v :: rest)))) : GoE p e below Fi (T.setTop (mkF m pc Ls rest)) := by
  subst hp; exact H.pull fun t k => Jvm.Free.XT.lload X.here hx rfl (hb hby hd) hl k
theorem g_lloadN (X : Stand p l e R s m args below meth c T locs cells slots) (hx : p.tables.exec = Jvm.exec) {k : Fin 4} {v : Int64} (hby : c.code = bytes) (hd : decode bytes pc = .ok (.lload_n k, 1)) (hp : pc + 1 = pc') (hl : Ls[k.val]? = some (.val (.long v)))
    (H : GoE p e below Fi (T.setTop (mkF m pc' Ls (.long v :: rest)))) : GoE p e below Fi (T.setTop (mkF m pc Ls rest)) := by
  subst hp; exact H.pull fun t k => Jvm.Free.XT.lloadN X.here hx rfl (hb hby hd) hl k
theorem g_lstore (X : Stand p l e R s m args below meth c T locs cells slots) (hx : p.tables.exec = Jvm.exec) {k : Nat} {x : Int64} {l' : Array Slot} (hby : c.code = bytes) (hd : decode bytes pc = .ok (.lstore k, 2)) (hp : pc + 2 = pc') (hl : storeLocals Ls k (.long x) = some l')
    (H : GoE p e below Fi (T.setTop (mkF m pc' l' rest))) : GoE p e below Fi (T.setTop (mkF m pc Ls (.long x :: rest))) := by
  subst hp; exact H.pull fun t k => Jvm.Free.XT.lstore X.here hx rfl (hb hby hd) rfl hl k
theorem g_lstoreN (X : Stand p l e R s m args below meth c T locs cells slots) (hx : p.tables.exec = Jvm.exec) {k : Fin 4} {x : Int64} {l' : Array Slot} (hby : c.code = bytes) (hd : decode bytes pc = .ok (.lstore_n k, 1)) (hp : pc + 1 = pc') (hl : storeLocals Ls k.val (.long x) = some l')
    (H : GoE p e below Fi (T.setTop (mkF m pc' l' rest))) : GoE p e below Fi (T.setTop (mkF m pc Ls (.long x :: rest))) := by
  subst hp; exact H.pull fun t k => Jvm.Free.XT.lstoreN X.here hx rfl (hb hby hd) rfl hl k
theorem g_dload (X : Stand p l e R s m args below meth c T locs cells slots) (hx : p.tables.exec = Jvm.exec) {k : Nat} {v : UInt64} (hby : c.code = bytes) (hd : decode bytes pc = .ok (.dload k, 2)) (hp : pc + 2 = pc') (hl : Ls[k]? = some (.val (.double v)))
    (H : GoE p e below Fi (T.setTop (mkF m pc' Ls (.double v :: rest)))) : GoE p e below Fi (T.setTop (mkF m pc Ls rest)) := by
  subst hp; exact H.pull fun t k => Jvm.Free.XS.dload X.here hx rfl (hb hby hd) hl k
theorem g_dloadN (X : Stand p l e R s m args below meth c T locs cells slots) (hx : p.tables.exec = Jvm.exec) {k : Fin 4} {v : UInt64} (hby : c.code = bytes) (hd : decode bytes pc = .ok (.dload_n k, 1)) (hp : pc + 1 = pc') (hl : Ls[k.val]? = some (.val (.double v)))
    (H : GoE p e below Fi (T.setTop (mkF m pc' Ls (.double v :: rest)))) : GoE p e below Fi (T.setTop (mkF m pc Ls rest)) := by
  subst hp; exact H.pull fun t k => Jvm.Free.XS.dloadN X.here hx rfl (hb hby hd) hl k
theorem g_dstore (X : Stand p l e R s m args below meth c T locs cells slots) (hx : p.tables.exec = Jvm.exec) {k : Nat} {x : UInt64} {l' : Array Slot} (hby : c.code = bytes) (hd : decode bytes pc = .ok (.dstore k, 2)) (hp : pc + 2 = pc') (hl : storeLocals Ls k (.double x) = some l')
    (H : GoE p e below Fi (T.setTop (mkF m pc' l' rest))) : GoE p e below Fi (T.setTop (mkF m pc Ls (.double x :: rest))) := by
  subst hp; exact H.pull fun t k => Jvm.Free.XS.dstore X.here hx rfl (hb hby hd) rfl hl k
theorem g_dstoreN (X : Stand p l e R s m args below meth c T locs cells slots) (hx : p.tables.exec = Jvm.exec) {k : Fin 4} {x : UInt64} {l' : Array Slot} (hby : c.code = bytes) (hd : decode bytes pc = .ok (.dstore_n k, 1)) (hp : pc + 1 = pc') (hl : storeLocals Ls k.val (.double x) = some l')
    (H : GoE p e below Fi (T.setTop (mkF m pc' l' rest))) : GoE p e below Fi (T.setTop (mkF m pc Ls (.double x :: rest))) := by
  subst hp; exact H.pull fun t k => Jvm.Free.XS.dstoreN X.here hx rfl (hb hby hd) rfl hl k
theorem g_aload (X : Stand p l e R s m args below meth c T locs cells slots) (hx : p.tables.exec = Jvm.exec) {k : Nat} {v : Value} (hby : c.code = bytes) (hd : decode bytes pc = .ok (.aload k, 2)) (hp : pc + 2 = pc') (hl : Ls[k]? = some (.val v)) (hv : v.isRef = true)
    (H : GoE p e below Fi (T.setTop (mkF m pc' Ls (v :: rest)))) : GoE p e below Fi (T.setTop (mkF m pc Ls rest)) := by
  subst hp; exact H.pull fun t k => Jvm.Free.XS.aload X.here hx rfl (hb hby hd) hl hv k
theorem g_aloadN (X : Stand p l e R s m args below meth c T locs cells slots) (hx : p.tables.exec = Jvm.exec) {k : Fin 4} {v : Value} (hby : c.code = bytes) (hd : decode bytes pc = .ok (.aload_n k, 1)) (hp : pc + 1 = pc') (hl : Ls[k.val]? = some (.val v)) (hv : v.isRef = true)
    (H : GoE p e below Fi (T.setTop (mkF m pc' Ls (v :: rest)))) : GoE p e below Fi (T.setTop (mkF m pc Ls rest)) := by
  subst hp; exact H.pull fun t k => Jvm.Free.XS.aloadN X.here hx rfl (hb hby hd) hl hv k
theorem g_astore (X : Stand p l e R s m args below meth c T locs cells slots) (hx : p.tables.exec = Jvm.exec) {k : Nat} {x : Value} {l' : Array Slot} (hby : c.code = bytes) (hd : decode bytes pc = .ok (.astore k, 2)) (hp : pc + 2 = pc') (hv : x.isRef = true) (hl : storeLocals Ls k x = some l')
    (H : GoE p e below Fi (T.setTop (mkF m pc' l' rest))) : GoE p e below Fi (T.setTop (mkF m pc Ls (x :: rest))) := by
  subst hp; exact H.pull fun t k => Jvm.Free.XS.astore X.here hx rfl (hb hby hd) rfl hv hl k
theorem g_astoreN (X : Stand p l e R s m args below meth c T locs cells slots) (hx : p.tables.exec = Jvm.exec) {k : Fin 4} {x : Value} {l' : Array Slot} (hby : c.code = bytes) (hd : decode bytes pc = .ok (.astore_n k, 1)) (hp : pc + 1 = pc') (hv : x.isRef = true) (hl : storeLocals Ls k.val x = some l')
    (H : GoE p e below Fi (T.setTop (mkF m pc' l' rest))) : GoE p e below Fi (T.setTop (mkF m pc Ls (x :: rest))) := by
  subst hp; exact H.pull fun t k => Jvm.Free.XS.astoreN X.here hx rfl (hb hby hd) rfl hv hl k
theorem g_iconst (X : Stand p l e R s m args below meth c T locs cells slots) (hx : p.tables.exec = Jvm.exec) {i : Int} {z : Int32} (hby : c.code = bytes) (hd : decode bytes pc = .ok (.iconst i, 1)) (hp : pc + 1 = pc') (hz : z = Int32.ofInt i)
    (H : GoE p e below Fi (T.setTop (mkF m pc' Ls (.int z :: rest)))) : GoE p e below Fi (T.setTop (mkF m pc Ls rest)) := by
  subst hp; exact H.pull fun t k => Jvm.Free.XS.iconst X.here hx rfl (hb hby hd) (hz ▸ k)
theorem g_bipush (X : Stand p l e R s m args below meth c T locs cells slots) (hx : p.tables.exec = Jvm.exec) {i : Int} {z : Int32} (hby : c.code = bytes) (hd : decode bytes pc = .ok (.bipush i, 2)) (hp : pc + 2 = pc') (hz : z = (Int8.ofInt i).toInt32)
    (H : GoE p e below Fi (T.setTop (mkF m pc' Ls (.int z :: rest)))) : GoE p e below Fi (T.setTop (mkF m pc Ls rest)) := by
  subst hp; exact H.pull fun t k => Jvm.Free.XS.bipush X.here hx rfl (hb hby hd) (hz ▸ k)
theorem g_sipush (X : Stand p l e R s m args below meth c T locs cells slots) (hx : p.tables.exec = Jvm.exec) {i : Int} {z : Int32} (hby : c.code = bytes) (hd : decode bytes pc = .ok (.sipush i, 3)) (hp : pc + 3 = pc') (hz : z = (Int16.ofInt i).toInt32)
    (H : GoE p e below Fi (T.setTop (mkF m pc' Ls (.int z :: rest)))) : GoE p e below Fi (T.setTop (mkF m pc Ls rest)) := by
  subst hp; exact H.pull fun t k => Jvm.Free.XS.sipush X.here hx rfl (hb hby hd) (hz ▸ k)
theorem g_lconst (X : Stand p l e R s m args below meth c T locs cells slots) (hx : p.tables.exec = Jvm.exec) {i : Fin 2} {z : Int64} (hby : c.code = bytes) (hd : decode bytes pc = .ok (.lconst i, 1)) (hp : pc + 1 = pc') (hz : z = Int64.ofNat i)
    (H : GoE p e below Fi (T.setTop (mkF m pc' Ls (.long z :: rest)))) : GoE p e below Fi (T.setTop (mkF m pc Ls rest)) := by
  subst hp; exact H.pull fun t k => Jvm.Free.XT.lconst X.here hx rfl (hb hby hd) (hz ▸ k)
theorem g_aconstNull (X : Stand p l e R s m args below meth c T locs cells slots) (hx : p.tables.exec = Jvm.exec)  (hby : c.code = bytes) (hd : decode bytes pc = .ok (.aconst_null, 1)) (hp : pc + 1 = pc') 
    (H : GoE p e below Fi (T.setTop (mkF m pc' Ls (.null :: rest)))) : GoE p e below Fi (T.setTop (mkF m pc Ls rest)) := by
  subst hp; exact H.pull fun t k => Jvm.Free.XS.aconstNull X.here hx rfl (hb hby hd) k
theorem g_ldcI (X : Stand p l e R s m args below meth c T locs cells slots) (hx : p.tables.exec = Jvm.exec) {Z : State} {a0 : Array Value} (hZ : Z.Warmed39 s.vm) {own : String} (hown : s.vm.findClass own = some m.cls) {index : Nat} {v : Int32} (hby : c.code = bytes) (hd : decode bytes pc = .ok (.ldc index, 2)) (hp : pc + 2 = pc') (w : (Jvm.Cond.constant own index v).before a0 Z = true)
    (H : GoE p e below Fi (T.setTop (mkF m pc' Ls (.int v :: rest)))) : GoE p e below Fi (T.setTop (mkF m pc Ls rest)) := by
  subst hp; exact H.pull fun t k => X.ldcInt hx hown (mvT hZ w) (g := mkF m pc Ls rest) rfl (hb hby hd) _ k
theorem g_ldcL (X : Stand p l e R s m args below meth c T locs cells slots) (hx : p.tables.exec = Jvm.exec) {Z : State} {a0 : Array Value} (hZ : Z.Warmed39 s.vm) {own : String} (hown : s.vm.findClass own = some m.cls) {index : Nat} {v : Int64} (hby : c.code = bytes) (hd : decode bytes pc = .ok (.ldc2_w index, 3)) (hp : pc + 3 = pc') (w : (Jvm.Cond.constantLong own index v).before a0 Z = true)
    (H : GoE p e below Fi (T.setTop (mkF m pc' Ls (.long v :: rest)))) : GoE p e below Fi (T.setTop (mkF m pc Ls rest)) := by
  subst hp; exact H.pull fun t k => X.ldc2Long hx hown (mvT hZ w) (g := mkF m pc Ls rest) rfl (hb hby hd) _ k
theorem g_ldcD (X : Stand p l e R s m args below meth c T locs cells slots) (hx : p.tables.exec = Jvm.exec) {Z : State} {a0 : Array Value} (hZ : Z.Warmed39 s.vm) {own : String} (hown : s.vm.findClass own = some m.cls) {index : Nat} {v : UInt64} (hby : c.code = bytes) (hd : decode bytes pc = .ok (.ldc2_w index, 3)) (hp : pc + 3 = pc') (w : (Jvm.Cond.constantDouble own index v).before a0 Z = true)
    (H : GoE p e below Fi (T.setTop (mkF m pc' Ls (.double v :: rest)))) : GoE p e below Fi (T.setTop (mkF m pc Ls rest)) := by
  subst hp; exact H.pull fun t k => X.ldc2DoubleC hx hown (mvT hZ w) (g := mkF m pc Ls rest) rfl (hb hby hd) _ k
theorem g_iadd (X : Stand p l e R s m args below meth c T locs cells slots) (hx : p.tables.exec = Jvm.exec) {x y : Int32} (hby : c.code = bytes) (hd : decode bytes pc = .ok (.iadd, 1)) (hp : pc + 1 = pc') 
    (H : GoE p e below Fi (T.setTop (mkF m pc' Ls (.int (x + y) :: rest)))) : GoE p e below Fi (T.setTop (mkF m pc Ls (.int y :: .int x :: rest))) := by
  subst hp; exact H.pull fun t k => Jvm.Free.XS.iadd X.here hx rfl (hb hby hd) rfl k
theorem g_isub (X : Stand p l e R s m args below meth c T locs cells slots) (hx : p.tables.exec = Jvm.exec) {x y : Int32} (hby : c.code = bytes) (hd : decode bytes pc = .ok (.isub, 1)) (hp : pc + 1 = pc') 
    (H : GoE p e below Fi (T.setTop (mkF m pc' Ls (.int (x - y) :: rest)))) : GoE p e below Fi (T.setTop (mkF m pc Ls (.int y :: .int x :: rest))) := by
  subst hp; exact H.pull fun t k => Jvm.Free.XS.isub X.here hx rfl (hb hby hd) rfl k
theorem g_imul (X : Stand p l e R s m args below meth c T locs cells slots) (hx : p.tables.exec = Jvm.exec) {x y : Int32} (hby : c.code = bytes) (hd : decode bytes pc = .ok (.imul, 1)) (hp : pc + 1 = pc') 
    (H : GoE p e below Fi (T.setTop (mkF m pc' Ls (.int (x * y) :: rest)))) : GoE p e below Fi (T.setTop (mkF m pc Ls (.int y :: .int x :: rest))) := by
  subst hp; exact H.pull fun t k => Jvm.Free.XS.imul X.here hx rfl (hb hby hd) rfl k
theorem g_iand (X : Stand p l e R s m args below meth c T locs cells slots) (hx : p.tables.exec = Jvm.exec) {x y : Int32} (hby : c.code = bytes) (hd : decode bytes pc = .ok (.iand, 1)) (hp : pc + 1 = pc') 
    (H : GoE p e below Fi (T.setTop (mkF m pc' Ls (.int (x &&& y) :: rest)))) : GoE p e below Fi (T.setTop (mkF m pc Ls (.int y :: .int x :: rest))) := by
  subst hp; exact H.pull fun t k => Jvm.Free.XS.iand X.here hx rfl (hb hby hd) rfl k
theorem g_ior (X : Stand p l e R s m args below meth c T locs cells slots) (hx : p.tables.exec = Jvm.exec) {x y : Int32} (hby : c.code = bytes) (hd : decode bytes pc = .ok (.ior, 1)) (hp : pc + 1 = pc') 
    (H : GoE p e below Fi (T.setTop (mkF m pc' Ls (.int (x ||| y) :: rest)))) : GoE p e below Fi (T.setTop (mkF m pc Ls (.int y :: .int x :: rest))) := by
  subst hp; exact H.pull fun t k => Jvm.Free.XT.ior X.here hx rfl (hb hby hd) rfl k
theorem g_ixor (X : Stand p l e R s m args below meth c T locs cells slots) (hx : p.tables.exec = Jvm.exec) {x y : Int32} (hby : c.code = bytes) (hd : decode bytes pc = .ok (.ixor, 1)) (hp : pc + 1 = pc') 
    (H : GoE p e below Fi (T.setTop (mkF m pc' Ls (.int (x ^^^ y) :: rest)))) : GoE p e below Fi (T.setTop (mkF m pc Ls (.int y :: .int x :: rest))) := by
  subst hp; exact H.pull fun t k => Jvm.Free.XT.ixor X.here hx rfl (hb hby hd) rfl k
theorem g_ishl (X : Stand p l e R s m args below meth c T locs cells slots) (hx : p.tables.exec = Jvm.exec) {x y : Int32} (hby : c.code = bytes) (hd : decode bytes pc = .ok (.ishl, 1)) (hp : pc + 1 = pc') 
    (H : GoE p e below Fi (T.setTop (mkF m pc' Ls (.int (x <<< (y &&& 31)) :: rest)))) : GoE p e below Fi (T.setTop (mkF m pc Ls (.int y :: .int x :: rest))) := by
  subst hp; exact H.pull fun t k => Jvm.Free.XT.ishl X.here hx rfl (hb hby hd) rfl k
theorem g_ishr (X : Stand p l e R s m args below meth c T locs cells slots) (hx : p.tables.exec = Jvm.exec) {x y : Int32} (hby : c.code = bytes) (hd : decode bytes pc = .ok (.ishr, 1)) (hp : pc + 1 = pc') 
    (H : GoE p e below Fi (T.setTop (mkF m pc' Ls (.int (x >>> (y &&& 31)) :: rest)))) : GoE p e below Fi (T.setTop (mkF m pc Ls (.int y :: .int x :: rest))) := by
  subst hp; exact H.pull fun t k => Jvm.Free.XT.ishr X.here hx rfl (hb hby hd) rfl k
theorem g_iushr (X : Stand p l e R s m args below meth c T locs cells slots) (hx : p.tables.exec = Jvm.exec) {x y : Int32} (hby : c.code = bytes) (hd : decode bytes pc = .ok (.iushr, 1)) (hp : pc + 1 = pc') 
    (H : GoE p e below Fi (T.setTop (mkF m pc' Ls (.int (ushr x y) :: rest)))) : GoE p e below Fi (T.setTop (mkF m pc Ls (.int y :: .int x :: rest))) := by
  subst hp; exact H.pull fun t k => Jvm.Free.XT.iushr X.here hx rfl (hb hby hd) rfl k
theorem g_idiv (X : Stand p l e R s m args below meth c T locs cells slots) (hx : p.tables.exec = Jvm.exec) {x y : Int32} (hby : c.code = bytes) (hd : decode bytes pc = .ok (.idiv, 1)) (hp : pc + 1 = pc') (hy : y ≠ 0)
    (H : GoE p e below Fi (T.setTop (mkF m pc' Ls (.int (x / y) :: rest)))) : GoE p e below Fi (T.setTop (mkF m pc Ls (.int y :: .int x :: rest))) := by
  subst hp; exact H.pull fun t k => Jvm.Free.XS.idiv X.here hx rfl (hb hby hd) rfl hy k
theorem g_irem (X : Stand p l e R s m args below meth c T locs cells slots) (hx : p.tables.exec = Jvm.exec) {x y : Int32} (hby : c.code = bytes) (hd : decode bytes pc = .ok (.irem, 1)) (hp : pc + 1 = pc') (hy : y ≠ 0)
    (H : GoE p e below Fi (T.setTop (mkF m pc' Ls (.int (x - (x / y) * y) :: rest)))) : GoE p e below Fi (T.setTop (mkF m pc Ls (.int y :: .int x :: rest))) := by
  subst hp; exact H.pull fun t k => Jvm.Free.XS.irem X.here hx rfl (hb hby hd) rfl hy k
theorem g_ineg (X : Stand p l e R s m args below meth c T locs cells slots) (hx : p.tables.exec = Jvm.exec) {x : Int32} (hby : c.code = bytes) (hd : decode bytes pc = .ok (.ineg, 1)) (hp : pc + 1 = pc') 
    (H : GoE p e below Fi (T.setTop (mkF m pc' Ls (.int (-x) :: rest)))) : GoE p e below Fi (T.setTop (mkF m pc Ls (.int x :: rest))) := by
  subst hp; exact H.pull fun t k => Jvm.Free.XS.ineg X.here hx rfl (hb hby hd) rfl k
theorem g_ladd (X : Stand p l e R s m args below meth c T locs cells slots) (hx : p.tables.exec = Jvm.exec) {x y : Int64} (hby : c.code = bytes) (hd : decode bytes pc = .ok (.ladd, 1)) (hp : pc + 1 = pc') 
    (H : GoE p e below Fi (T.setTop (mkF m pc' Ls (.long (x + y) :: rest)))) : GoE p e below Fi (T.setTop (mkF m pc Ls (.long y :: .long x :: rest))) := by
  subst hp; exact H.pull fun t k => Jvm.Free.XT.ladd X.here hx rfl (hb hby hd) rfl k
theorem g_lsub (X : Stand p l e R s m args below meth c T locs cells slots) (hx : p.tables.exec = Jvm.exec) {x y : Int64} (hby : c.code = bytes) (hd : decode bytes pc = .ok (.lsub, 1)) (hp : pc + 1 = pc') 
    (H : GoE p e below Fi (T.setTop (mkF m pc' Ls (.long (x - y) :: rest)))) : GoE p e below Fi (T.setTop (mkF m pc Ls (.long y :: .long x :: rest))) := by
  subst hp; exact H.pull fun t k => Jvm.Free.XT.lsub X.here hx rfl (hb hby hd) rfl k
theorem g_lmul (X : Stand p l e R s m args below meth c T locs cells slots) (hx : p.tables.exec = Jvm.exec) {x y : Int64} (hby : c.code = bytes) (hd : decode bytes pc = .ok (.lmul, 1)) (hp : pc + 1 = pc') 
    (H : GoE p e below Fi (T.setTop (mkF m pc' Ls (.long (x * y) :: rest)))) : GoE p e below Fi (T.setTop (mkF m pc Ls (.long y :: .long x :: rest))) := by
  subst hp; exact H.pull fun t k => Jvm.Free.XT.lmul X.here hx rfl (hb hby hd) rfl k
theorem g_land (X : Stand p l e R s m args below meth c T locs cells slots) (hx : p.tables.exec = Jvm.exec) {x y : Int64} (hby : c.code = bytes) (hd : decode bytes pc = .ok (.land, 1)) (hp : pc + 1 = pc') 
    (H : GoE p e below Fi (T.setTop (mkF m pc' Ls (.long (x &&& y) :: rest)))) : GoE p e below Fi (T.setTop (mkF m pc Ls (.long y :: .long x :: rest))) := by
  subst hp; exact H.pull fun t k => Jvm.Free.XT.land X.here hx rfl (hb hby hd) rfl k
theorem g_lor (X : Stand p l e R s m args below meth c T locs cells slots) (hx : p.tables.exec = Jvm.exec) {x y : Int64} (hby : c.code = bytes) (hd : decode bytes pc = .ok (.lor, 1)) (hp : pc + 1 = pc') 
    (H : GoE p e below Fi (T.setTop (mkF m pc' Ls (.long (x ||| y) :: rest)))) : GoE p e below Fi (T.setTop (mkF m pc Ls (.long y :: .long x :: rest))) := by
  subst hp; exact H.pull fun t k => Jvm.Free.XT.lor X.here hx rfl (hb hby hd) rfl k
theorem g_lxor (X : Stand p l e R s m args below meth c T locs cells slots) (hx : p.tables.exec = Jvm.exec) {x y : Int64} (hby : c.code = bytes) (hd : decode bytes pc = .ok (.lxor, 1)) (hp : pc + 1 = pc') 
    (H : GoE p e below Fi (T.setTop (mkF m pc' Ls (.long (x ^^^ y) :: rest)))) : GoE p e below Fi (T.setTop (mkF m pc Ls (.long y :: .long x :: rest))) := by
  subst hp; exact H.pull fun t k => Jvm.Free.XT.lxor X.here hx rfl (hb hby hd) rfl k
theorem g_ldiv (X : Stand p l e R s m args below meth c T locs cells slots) (hx : p.tables.exec = Jvm.exec) {x y : Int64} (hby : c.code = bytes) (hd : decode bytes pc = .ok (.ldiv, 1)) (hp : pc + 1 = pc') (hy : y ≠ 0)
    (H : GoE p e below Fi (T.setTop (mkF m pc' Ls (.long (x / y) :: rest)))) : GoE p e below Fi (T.setTop (mkF m pc Ls (.long y :: .long x :: rest))) := by
  subst hp; exact H.pull fun t k => Jvm.Free.XT.ldiv X.here hx rfl (hb hby hd) rfl hy k
theorem g_lrem (X : Stand p l e R s m args below meth c T locs cells slots) (hx : p.tables.exec = Jvm.exec) {x y : Int64} (hby : c.code = bytes) (hd : decode bytes pc = .ok (.lrem, 1)) (hp : pc + 1 = pc') (hy : y ≠ 0)
    (H : GoE p e below Fi (T.setTop (mkF m pc' Ls (.long (x - (x / y) * y) :: rest)))) : GoE p e below Fi (T.setTop (mkF m pc Ls (.long y :: .long x :: rest))) := by
  subst hp; exact H.pull fun t k => Jvm.Free.XT.lrem X.here hx rfl (hb hby hd) rfl hy k
theorem g_lneg (X : Stand p l e R s m args below meth c T locs cells slots) (hx : p.tables.exec = Jvm.exec) {x : Int64} (hby : c.code = bytes) (hd : decode bytes pc = .ok (.lneg, 1)) (hp : pc + 1 = pc') 
    (H : GoE p e below Fi (T.setTop (mkF m pc' Ls (.long (-x) :: rest)))) : GoE p e below Fi (T.setTop (mkF m pc Ls (.long x :: rest))) := by
  subst hp; exact H.pull fun t k => Jvm.Free.XT.lneg X.here hx rfl (hb hby hd) rfl k
theorem g_lshl (X : Stand p l e R s m args below meth c T locs cells slots) (hx : p.tables.exec = Jvm.exec) {x : Int64} {y : Int32} (hby : c.code = bytes) (hd : decode bytes pc = .ok (.lshl, 1)) (hp : pc + 1 = pc') 
    (H : GoE p e below Fi (T.setTop (mkF m pc' Ls (.long (x <<< (y.toInt64 &&& 63)) :: rest)))) : GoE p e below Fi (T.setTop (mkF m pc Ls (.int y :: .long x :: rest))) := by
  subst hp; exact H.pull fun t k => Jvm.Free.XT.lshl X.here hx rfl (hb hby hd) rfl k
theorem g_lshr (X : Stand p l e R s m args below meth c T locs cells slots) (hx : p.tables.exec = Jvm.exec) {x : Int64} {y : Int32} (hby : c.code = bytes) (hd : decode bytes pc = .ok (.lshr, 1)) (hp : pc + 1 = pc') 
    (H : GoE p e below Fi (T.setTop (mkF m pc' Ls (.long (x >>> (y.toInt64 &&& 63)) :: rest)))) : GoE p e below Fi (T.setTop (mkF m pc Ls (.int y :: .long x :: rest))) := by
  subst hp; exact H.pull fun t k => Jvm.Free.XT.lshr X.here hx rfl (hb hby hd) rfl k
theorem g_lushr (X : Stand p l e R s m args below meth c T locs cells slots) (hx : p.tables.exec = Jvm.exec) {x : Int64} {y : Int32} (hby : c.code = bytes) (hd : decode bytes pc = .ok (.lushr, 1)) (hp : pc + 1 = pc') 
    (H : GoE p e below Fi (T.setTop (mkF m pc' Ls (.long (ushrL x y) :: rest)))) : GoE p e below Fi (T.setTop (mkF m pc Ls (.int y :: .long x :: rest))) := by
  subst hp; exact H.pull fun t k => Jvm.Free.XT.lushr X.here hx rfl (hb hby hd) rfl k
theorem g_i2l (X : Stand p l e R s m args below meth c T locs cells slots) (hx : p.tables.exec = Jvm.exec) {x : Int32} (hby : c.code = bytes) (hd : decode bytes pc = .ok (.i2l, 1)) (hp : pc + 1 = pc') 
    (H : GoE p e below Fi (T.setTop (mkF m pc' Ls (.long x.toInt64 :: rest)))) : GoE p e below Fi (T.setTop (mkF m pc Ls (.int x :: rest))) := by
  subst hp; exact H.pull fun t k => Jvm.Free.XT.i2l X.here hx rfl (hb hby hd) rfl k
theorem g_l2i (X : Stand p l e R s m args below meth c T locs cells slots) (hx : p.tables.exec = Jvm.exec) {x : Int64} (hby : c.code = bytes) (hd : decode bytes pc = .ok (.l2i, 1)) (hp : pc + 1 = pc') 
    (H : GoE p e below Fi (T.setTop (mkF m pc' Ls (.int x.toInt32 :: rest)))) : GoE p e below Fi (T.setTop (mkF m pc Ls (.long x :: rest))) := by
  subst hp; exact H.pull fun t k => Jvm.Free.XT.l2i X.here hx rfl (hb hby hd) rfl k
theorem g_i2b (X : Stand p l e R s m args below meth c T locs cells slots) (hx : p.tables.exec = Jvm.exec) {x : Int32} (hby : c.code = bytes) (hd : decode bytes pc = .ok (.i2b, 1)) (hp : pc + 1 = pc') 
    (H : GoE p e below Fi (T.setTop (mkF m pc' Ls (.int x.toInt8.toInt32 :: rest)))) : GoE p e below Fi (T.setTop (mkF m pc Ls (.int x :: rest))) := by
  subst hp; exact H.pull fun t k => Jvm.Free.XT.i2b X.here hx rfl (hb hby hd) rfl k
theorem g_i2c (X : Stand p l e R s m args below meth c T locs cells slots) (hx : p.tables.exec = Jvm.exec) {x : Int32} (hby : c.code = bytes) (hd : decode bytes pc = .ok (.i2c, 1)) (hp : pc + 1 = pc') 
    (H : GoE p e below Fi (T.setTop (mkF m pc' Ls (.int x.toUInt32.toUInt16.toUInt32.toInt32 :: rest)))) : GoE p e below Fi (T.setTop (mkF m pc Ls (.int x :: rest))) := by
  subst hp; exact H.pull fun t k => Jvm.Free.XT.i2c X.here hx rfl (hb hby hd) rfl k
theorem g_i2s (X : Stand p l e R s m args below meth c T locs cells slots) (hx : p.tables.exec = Jvm.exec) {x : Int32} (hby : c.code = bytes) (hd : decode bytes pc = .ok (.i2s, 1)) (hp : pc + 1 = pc') 
    (H : GoE p e below Fi (T.setTop (mkF m pc' Ls (.int x.toInt16.toInt32 :: rest)))) : GoE p e below Fi (T.setTop (mkF m pc Ls (.int x :: rest))) := by
  subst hp; exact H.pull fun t k => Jvm.Free.XT.i2s X.here hx rfl (hb hby hd) rfl k
theorem g_i2d (X : Stand p l e R s m args below meth c T locs cells slots) (hx : p.tables.exec = Jvm.exec) {x : Int32} (hby : c.code = bytes) (hd : decode bytes pc = .ok (.i2d, 1)) (hp : pc + 1 = pc') 
    (H : GoE p e below Fi (T.setTop (mkF m pc' Ls (.double (FP.l2d x.toInt64) :: rest)))) : GoE p e below Fi (T.setTop (mkF m pc Ls (.int x :: rest))) := by
  subst hp; exact H.pull fun t k => Jvm.Free.XS.i2dS X.here hx rfl (hb hby hd) rfl (i2d_w x) k
theorem g_l2d (X : Stand p l e R s m args below meth c T locs cells slots) (hx : p.tables.exec = Jvm.exec) {x : Int64} (hby : c.code = bytes) (hd : decode bytes pc = .ok (.l2d, 1)) (hp : pc + 1 = pc') 
    (H : GoE p e below Fi (T.setTop (mkF m pc' Ls (.double (FP.l2d x) :: rest)))) : GoE p e below Fi (T.setTop (mkF m pc Ls (.long x :: rest))) := by
  subst hp; exact H.pull fun t k => Jvm.Free.XS.l2dS X.here hx rfl (hb hby hd) rfl rfl k
theorem g_dcmp (X : Stand p l e R s m args below meth c T locs cells slots) (hx : p.tables.exec = Jvm.exec) {o : CmpOp} {x y : UInt64} {v : Int32} (hby : c.code = bytes) (hd : decode bytes pc = .ok (.dcmp o, 1)) (hp : pc + 1 = pc') (hv : cmpValue (FP.dcmp x y) o = v)
    (H : GoE p e below Fi (T.setTop (mkF m pc' Ls (.int v :: rest)))) : GoE p e below Fi (T.setTop (mkF m pc Ls (.double y :: .double x :: rest))) := by
  subst hp; exact H.pull fun t k => Jvm.Free.XS.dcmpS X.here hx rfl (hb hby hd) rfl hv k
theorem g_lcmp (X : Stand p l e R s m args below meth c T locs cells slots) (hx : p.tables.exec = Jvm.exec) {x y : Int64} (hby : c.code = bytes) (hd : decode bytes pc = .ok (.lcmp, 1)) (hp : pc + 1 = pc') 
    (H : GoE p e below Fi (T.setTop (mkF m pc' Ls (.int (cmpL x y) :: rest)))) : GoE p e below Fi (T.setTop (mkF m pc Ls (.long y :: .long x :: rest))) := by
  subst hp; exact H.pull fun t k => Jvm.Free.XT.lcmp X.here hx rfl (hb hby hd) rfl k
theorem g_dup (X : Stand p l e R s m args below meth c T locs cells slots) (hx : p.tables.exec = Jvm.exec) {x : Value} (hby : c.code = bytes) (hd : decode bytes pc = .ok (.dup, 1)) (hp : pc + 1 = pc') (hc : x.category = 1)
    (H : GoE p e below Fi (T.setTop (mkF m pc' Ls (x :: x :: rest)))) : GoE p e below Fi (T.setTop (mkF m pc Ls (x :: rest))) := by
  subst hp; exact H.pull fun t k => Jvm.Free.XS.dup X.here hx rfl (hb hby hd) rfl hc k
theorem g_pop (X : Stand p l e R s m args below meth c T locs cells slots) (hx : p.tables.exec = Jvm.exec) {x : Value} (hby : c.code = bytes) (hd : decode bytes pc = .ok (.pop, 1)) (hp : pc + 1 = pc') (hc : x.category = 1)
    (H : GoE p e below Fi (T.setTop (mkF m pc' Ls rest))) : GoE p e below Fi (T.setTop (mkF m pc Ls (x :: rest))) := by
  subst hp; exact H.pull fun t k => Jvm.Free.XT.pop X.here hx rfl (hb hby hd) rfl hc k
theorem g_iinc (X : Stand p l e R s m args below meth c T locs cells slots) (hx : p.tables.exec = Jvm.exec) {k : Nat} {cst : Int} {x : Int32} {l' : Array Slot} (hby : c.code = bytes) (hd : decode bytes pc = .ok (.iinc k cst, 3)) (hp : pc + 3 = pc') (hl : Ls[k]? = some (.val (.int x))) (hl' : storeLocals Ls k (.int (x + Int32.ofInt cst)) = some l')
    (H : GoE p e below Fi (T.setTop (mkF m pc' l' rest))) : GoE p e below Fi (T.setTop (mkF m pc Ls rest)) := by
  subst hp; exact H.pull fun t k => Jvm.Free.XS.iinc X.here hx rfl (hb hby hd) hl hl' k
theorem g_goto (X : Stand p l e R s m args below meth c T locs cells slots) (hx : p.tables.exec = Jvm.exec) {o : Int} (hby : c.code = bytes) (hd : decode bytes pc = .ok (.goto o, 3)) (ho : 0 ≤ (pc : Int) + o) (hp : ((pc : Int) + o).toNat = pc')
    (H : GoE p e below Fi (T.setTop (mkF m pc' Ls rest))) : GoE p e below Fi (T.setTop (mkF m pc Ls rest)) :=
  H.pull fun t k => Jvm.Free.XS.goto X.here hx rfl rfl (hb hby hd) ho hp k
theorem g_icmp_eq (X : Stand p l e R s m args below meth c T locs cells slots) (hx : p.tables.exec = Jvm.exec) {o : Int} {pn : Nat} (hby : c.code = bytes) {x y : Int32} (hd : decode bytes pc = .ok (.if_icmp .eq o, 3)) (ho : 0 ≤ (pc : Int) + o) (hp : ((pc : Int) + o).toNat = pc') (hn : pc + 3 = pn)
    (HY : x = y → GoE p e below Fi (T.setTop (mkF m pc' Ls rest))) (HN : ¬ (x = y) → GoE p e below Fi (T.setTop (mkF m pn Ls rest))) : GoE p e below Fi (T.setTop (mkF m pc Ls (.int y :: .int x :: rest))) := by
  subst hn
  by_cases q : x = y
  · exact (HY q).pull fun t k => Jvm.Free.XS.icmpYes X.here hx rfl rfl (hb hby hd) rfl (teq q).1 ho hp k
  · have q' : ¬ (x = y) := by first | exact q | exact Decidable.not_not.mp q
    exact (HN q').pull fun t k => Jvm.Free.XS.icmpNo X.here hx rfl (hb hby hd) rfl (feq q').1 k
theorem g_if_eq (X : Stand p l e R s m args below meth c T locs cells slots) (hx : p.tables.exec = Jvm.exec) {o : Int} {pn : Nat} (hby : c.code = bytes) {x : Int32} (hd : decode bytes pc = .ok (.ifCond .eq o, 3)) (ho : 0 ≤ (pc : Int) + o) (hp : ((pc : Int) + o).toNat = pc') (hn : pc + 3 = pn)
    (HY : x = 0 → GoE p e below Fi (T.setTop (mkF m pc' Ls rest))) (HN : ¬ (x = 0) → GoE p e below Fi (T.setTop (mkF m pn Ls rest))) : GoE p e below Fi (T.setTop (mkF m pc Ls (.int x :: rest))) := by
  subst hn
  by_cases q : x = 0
  · exact (HY q).pull fun t k => Jvm.Free.XS.ifYes X.here hx rfl rfl (hb hby hd) rfl ((if0 _ _).trans (teq q).1) ho hp k
  · have q' : ¬ (x = 0) := by first | exact q | exact Decidable.not_not.mp q
    exact (HN q').pull fun t k => Jvm.Free.XS.ifNo X.here hx rfl (hb hby hd) rfl ((if0 _ _).trans (feq q').1) k
theorem cl_W (u v : Int64) : cmpL u v = lcmpW u v := rfl
theorem cl_lt (u v : Int64) : cmpL u v < 0 ↔ u < v := by rw [cl_W]; exact lw_lt u v
theorem cl_gt (u v : Int64) : 0 < cmpL u v ↔ v < u := by rw [cl_W]; exact lw_gt u v
theorem cl_eq (u v : Int64) : cmpL u v = 0 ↔ u = v := by rw [cl_W]; exact lw_eq u v
theorem g_ifL_eq (X : Stand p l e R s m args below meth c T locs cells slots) (hx : p.tables.exec = Jvm.exec) {o : Int} {pn : Nat} (hby : c.code = bytes) {u v : Int64} (hd : decode bytes pc = .ok (.ifCond .eq o, 3)) (ho : 0 ≤ (pc : Int) + o) (hp : ((pc : Int) + o).toNat = pc') (hn : pc + 3 = pn)
    (HY : u = v → GoE p e below Fi (T.setTop (mkF m pc' Ls rest))) (HN : ¬ (u = v) → GoE p e below Fi (T.setTop (mkF m pn Ls rest))) : GoE p e below Fi (T.setTop (mkF m pc Ls (.int (cmpL u v) :: rest))) :=
  g_if_eq X hx hby hd ho hp hn (fun h => HY ((cl_eq u v).mp h)) (fun h => HN (fun z => h ((cl_eq u v).mpr z)))
theorem g_icmp_ne (X : Stand p l e R s m args below meth c T locs cells slots) (hx : p.tables.exec = Jvm.exec) {o : Int} {pn : Nat} (hby : c.code = bytes) {x y : Int32} (hd : decode bytes pc = .ok (.if_icmp .ne o, 3)) (ho : 0 ≤ (pc : Int) + o) (hp : ((pc : Int) + o).toNat = pc') (hn : pc + 3 = pn)
    (HY : ¬ (x = y) → GoE p e below Fi (T.setTop (mkF m pc' Ls rest))) (HN : x = y → GoE p e below Fi (T.setTop (mkF m pn Ls rest))) : GoE p e below Fi (T.setTop (mkF m pc Ls (.int y :: .int x :: rest))) := by
  subst hn
  by_cases q : ¬ (x = y)
  · exact (HY q).pull fun t k => Jvm.Free.XS.icmpYes X.here hx rfl rfl (hb hby hd) rfl (feq q).2 ho hp k
  · have q' : x = y := by first | exact q | exact Decidable.not_not.mp q
    exact (HN q').pull fun t k => Jvm.Free.XS.icmpNo X.here hx rfl (hb hby hd) rfl (teq q').2 k
theorem g_if_ne (X : Stand p l e R s m args below meth c T locs cells slots) (hx : p.tables.exec = Jvm.exec) {o : Int} {pn : Nat} (hby : c.code = bytes) {x : Int32} (hd : decode bytes pc = .ok (.ifCond .ne o, 3)) (ho : 0 ≤ (pc : Int) + o) (hp : ((pc : Int) + o).toNat = pc') (hn : pc + 3 = pn)
    (HY : ¬ (x = 0) → GoE p e below Fi (T.setTop (mkF m pc' Ls rest))) (HN : x = 0 → GoE p e below Fi (T.setTop (mkF m pn Ls rest))) : GoE p e below Fi (T.setTop (mkF m pc Ls (.int x :: rest))) := by
  subst hn
  by_cases q : ¬ (x = 0)
  · exact (HY q).pull fun t k => Jvm.Free.XS.ifYes X.here hx rfl rfl (hb hby hd) rfl ((if0 _ _).trans (feq q).2) ho hp k
  · have q' : x = 0 := by first | exact q | exact Decidable.not_not.mp q
    exact (HN q').pull fun t k => Jvm.Free.XS.ifNo X.here hx rfl (hb hby hd) rfl ((if0 _ _).trans (teq q').2) k
theorem g_ifL_ne (X : Stand p l e R s m args below meth c T locs cells slots) (hx : p.tables.exec = Jvm.exec) {o : Int} {pn : Nat} (hby : c.code = bytes) {u v : Int64} (hd : decode bytes pc = .ok (.ifCond .ne o, 3)) (ho : 0 ≤ (pc : Int) + o) (hp : ((pc : Int) + o).toNat = pc') (hn : pc + 3 = pn)
    (HY : ¬ (u = v) → GoE p e below Fi (T.setTop (mkF m pc' Ls rest))) (HN : u = v → GoE p e below Fi (T.setTop (mkF m pn Ls rest))) : GoE p e below Fi (T.setTop (mkF m pc Ls (.int (cmpL u v) :: rest))) :=
  g_if_ne X hx hby hd ho hp hn (fun h => HY (fun z => h ((cl_eq u v).mpr z))) (fun h => HN ((cl_eq u v).mp h))
theorem g_icmp_lt (X : Stand p l e R s m args below meth c T locs cells slots) (hx : p.tables.exec = Jvm.exec) {o : Int} {pn : Nat} (hby : c.code = bytes) {x y : Int32} (hd : decode bytes pc = .ok (.if_icmp .lt o, 3)) (ho : 0 ≤ (pc : Int) + o) (hp : ((pc : Int) + o).toNat = pc') (hn : pc + 3 = pn)
    (HY : x < y → GoE p e below Fi (T.setTop (mkF m pc' Ls rest))) (HN : ¬ (x < y) → GoE p e below Fi (T.setTop (mkF m pn Ls rest))) : GoE p e below Fi (T.setTop (mkF m pc Ls (.int y :: .int x :: rest))) := by
  subst hn
  by_cases q : x < y
  · exact (HY q).pull fun t k => Jvm.Free.XS.icmpYes X.here hx rfl rfl (hb hby hd) rfl (tlt q).1 ho hp k
  · have q' : ¬ (x < y) := by first | exact q | exact Decidable.not_not.mp q
    exact (HN q').pull fun t k => Jvm.Free.XS.icmpNo X.here hx rfl (hb hby hd) rfl (flt q').1 k
theorem g_if_lt (X : Stand p l e R s m args below meth c T locs cells slots) (hx : p.tables.exec = Jvm.exec) {o : Int} {pn : Nat} (hby : c.code = bytes) {x : Int32} (hd : decode bytes pc = .ok (.ifCond .lt o, 3)) (ho : 0 ≤ (pc : Int) + o) (hp : ((pc : Int) + o).toNat = pc') (hn : pc + 3 = pn)
    (HY : x < 0 → GoE p e below Fi (T.setTop (mkF m pc' Ls rest))) (HN : ¬ (x < 0) → GoE p e below Fi (T.setTop (mkF m pn Ls rest))) : GoE p e below Fi (T.setTop (mkF m pc Ls (.int x :: rest))) := by
  subst hn
  by_cases q : x < 0
  · exact (HY q).pull fun t k => Jvm.Free.XS.ifYes X.here hx rfl rfl (hb hby hd) rfl ((if0 _ _).trans (tlt q).1) ho hp k
  · have q' : ¬ (x < 0) := by first | exact q | exact Decidable.not_not.mp q
    exact (HN q').pull fun t k => Jvm.Free.XS.ifNo X.here hx rfl (hb hby hd) rfl ((if0 _ _).trans (flt q').1) k
theorem g_ifL_lt (X : Stand p l e R s m args below meth c T locs cells slots) (hx : p.tables.exec = Jvm.exec) {o : Int} {pn : Nat} (hby : c.code = bytes) {u v : Int64} (hd : decode bytes pc = .ok (.ifCond .lt o, 3)) (ho : 0 ≤ (pc : Int) + o) (hp : ((pc : Int) + o).toNat = pc') (hn : pc + 3 = pn)
    (HY : u < v → GoE p e below Fi (T.setTop (mkF m pc' Ls rest))) (HN : ¬ (u < v) → GoE p e below Fi (T.setTop (mkF m pn Ls rest))) : GoE p e below Fi (T.setTop (mkF m pc Ls (.int (cmpL u v) :: rest))) :=
  g_if_lt X hx hby hd ho hp hn (fun h => HY ((cl_lt u v).mp h)) (fun h => HN (fun z => h ((cl_lt u v).mpr z)))
theorem g_icmp_ge (X : Stand p l e R s m args below meth c T locs cells slots) (hx : p.tables.exec = Jvm.exec) {o : Int} {pn : Nat} (hby : c.code = bytes) {x y : Int32} (hd : decode bytes pc = .ok (.if_icmp .ge o, 3)) (ho : 0 ≤ (pc : Int) + o) (hp : ((pc : Int) + o).toNat = pc') (hn : pc + 3 = pn)
    (HY : ¬ (x < y) → GoE p e below Fi (T.setTop (mkF m pc' Ls rest))) (HN : x < y → GoE p e below Fi (T.setTop (mkF m pn Ls rest))) : GoE p e below Fi (T.setTop (mkF m pc Ls (.int y :: .int x :: rest))) := by
  subst hn
  by_cases q : ¬ (x < y)
  · exact (HY q).pull fun t k => Jvm.Free.XS.icmpYes X.here hx rfl rfl (hb hby hd) rfl (flt q).2.1 ho hp k
  · have q' : x < y := by first | exact q | exact Decidable.not_not.mp q
    exact (HN q').pull fun t k => Jvm.Free.XS.icmpNo X.here hx rfl (hb hby hd) rfl (tlt q').2.1 k
theorem g_if_ge (X : Stand p l e R s m args below meth c T locs cells slots) (hx : p.tables.exec = Jvm.exec) {o : Int} {pn : Nat} (hby : c.code = bytes) {x : Int32} (hd : decode bytes pc = .ok (.ifCond .ge o, 3)) (ho : 0 ≤ (pc : Int) + o) (hp : ((pc : Int) + o).toNat = pc') (hn : pc + 3 = pn)
    (HY : ¬ (x < 0) → GoE p e below Fi (T.setTop (mkF m pc' Ls rest))) (HN : x < 0 → GoE p e below Fi (T.setTop (mkF m pn Ls rest))) : GoE p e below Fi (T.setTop (mkF m pc Ls (.int x :: rest))) := by
  subst hn
  by_cases q : ¬ (x < 0)
  · exact (HY q).pull fun t k => Jvm.Free.XS.ifYes X.here hx rfl rfl (hb hby hd) rfl ((if0 _ _).trans (flt q).2.1) ho hp k
  · have q' : x < 0 := by first | exact q | exact Decidable.not_not.mp q
    exact (HN q').pull fun t k => Jvm.Free.XS.ifNo X.here hx rfl (hb hby hd) rfl ((if0 _ _).trans (tlt q').2.1) k
theorem g_ifL_ge (X : Stand p l e R s m args below meth c T locs cells slots) (hx : p.tables.exec = Jvm.exec) {o : Int} {pn : Nat} (hby : c.code = bytes) {u v : Int64} (hd : decode bytes pc = .ok (.ifCond .ge o, 3)) (ho : 0 ≤ (pc : Int) + o) (hp : ((pc : Int) + o).toNat = pc') (hn : pc + 3 = pn)
    (HY : ¬ (u < v) → GoE p e below Fi (T.setTop (mkF m pc' Ls rest))) (HN : u < v → GoE p e below Fi (T.setTop (mkF m pn Ls rest))) : GoE p e below Fi (T.setTop (mkF m pc Ls (.int (cmpL u v) :: rest))) :=
  g_if_ge X hx hby hd ho hp hn (fun h => HY (fun z => h ((cl_lt u v).mpr z))) (fun h => HN ((cl_lt u v).mp h))
theorem g_icmp_gt (X : Stand p l e R s m args below meth c T locs cells slots) (hx : p.tables.exec = Jvm.exec) {o : Int} {pn : Nat} (hby : c.code = bytes) {x y : Int32} (hd : decode bytes pc = .ok (.if_icmp .gt o, 3)) (ho : 0 ≤ (pc : Int) + o) (hp : ((pc : Int) + o).toNat = pc') (hn : pc + 3 = pn)
    (HY : y < x → GoE p e below Fi (T.setTop (mkF m pc' Ls rest))) (HN : ¬ (y < x) → GoE p e below Fi (T.setTop (mkF m pn Ls rest))) : GoE p e below Fi (T.setTop (mkF m pc Ls (.int y :: .int x :: rest))) := by
  subst hn
  by_cases q : y < x
  · exact (HY q).pull fun t k => Jvm.Free.XS.icmpYes X.here hx rfl rfl (hb hby hd) rfl (tlt q).2.2.1 ho hp k
  · have q' : ¬ (y < x) := by first | exact q | exact Decidable.not_not.mp q
    exact (HN q').pull fun t k => Jvm.Free.XS.icmpNo X.here hx rfl (hb hby hd) rfl (flt q').2.2.1 k
theorem g_if_gt (X : Stand p l e R s m args below meth c T locs cells slots) (hx : p.tables.exec = Jvm.exec) {o : Int} {pn : Nat} (hby : c.code = bytes) {x : Int32} (hd : decode bytes pc = .ok (.ifCond .gt o, 3)) (ho : 0 ≤ (pc : Int) + o) (hp : ((pc : Int) + o).toNat = pc') (hn : pc + 3 = pn)
    (HY : 0 < x → GoE p e below Fi (T.setTop (mkF m pc' Ls rest))) (HN : ¬ (0 < x) → GoE p e below Fi (T.setTop (mkF m pn Ls rest))) : GoE p e below Fi (T.setTop (mkF m pc Ls (.int x :: rest))) := by
  subst hn
  by_cases q : 0 < x
  · exact (HY q).pull fun t k => Jvm.Free.XS.ifYes X.here hx rfl rfl (hb hby hd) rfl ((if0 _ _).trans (tlt q).2.2.1) ho hp k
  · have q' : ¬ (0 < x) := by first | exact q | exact Decidable.not_not.mp q
    exact (HN q').pull fun t k => Jvm.Free.XS.ifNo X.here hx rfl (hb hby hd) rfl ((if0 _ _).trans (flt q').2.2.1) k
theorem g_ifL_gt (X : Stand p l e R s m args below meth c T locs cells slots) (hx : p.tables.exec = Jvm.exec) {o : Int} {pn : Nat} (hby : c.code = bytes) {u v : Int64} (hd : decode bytes pc = .ok (.ifCond .gt o, 3)) (ho : 0 ≤ (pc : Int) + o) (hp : ((pc : Int) + o).toNat = pc') (hn : pc + 3 = pn)
    (HY : v < u → GoE p e below Fi (T.setTop (mkF m pc' Ls rest))) (HN : ¬ (v < u) → GoE p e below Fi (T.setTop (mkF m pn Ls rest))) : GoE p e below Fi (T.setTop (mkF m pc Ls (.int (cmpL u v) :: rest))) :=
  g_if_gt X hx hby hd ho hp hn (fun h => HY ((cl_gt u v).mp h)) (fun h => HN (fun z => h ((cl_gt u v).mpr z)))
theorem g_icmp_le (X : Stand p l e R s m args below meth c T locs cells slots) (hx : p.tables.exec = Jvm.exec) {o : Int} {pn : Nat} (hby : c.code = bytes) {x y : Int32} (hd : decode bytes pc = .ok (.if_icmp .le o, 3)) (ho : 0 ≤ (pc : Int) + o) (hp : ((pc : Int) + o).toNat = pc') (hn : pc + 3 = pn)
    (HY : ¬ (y < x) → GoE p e below Fi (T.setTop (mkF m pc' Ls rest))) (HN : y < x → GoE p e below Fi (T.setTop (mkF m pn Ls rest))) : GoE p e below Fi (T.setTop (mkF m pc Ls (.int y :: .int x :: rest))) := by
  subst hn
  by_cases q : ¬ (y < x)
  · exact (HY q).pull fun t k => Jvm.Free.XS.icmpYes X.here hx rfl rfl (hb hby hd) rfl (flt q).2.2.2 ho hp k
  · have q' : y < x := by first | exact q | exact Decidable.not_not.mp q
    exact (HN q').pull fun t k => Jvm.Free.XS.icmpNo X.here hx rfl (hb hby hd) rfl (tlt q').2.2.2 k
theorem g_if_le (X : Stand p l e R s m args below meth c T locs cells slots) (hx : p.tables.exec = Jvm.exec) {o : Int} {pn : Nat} (hby : c.code = bytes) {x : Int32} (hd : decode bytes pc = .ok (.ifCond .le o, 3)) (ho : 0 ≤ (pc : Int) + o) (hp : ((pc : Int) + o).toNat = pc') (hn : pc + 3 = pn)
    (HY : ¬ (0 < x) → GoE p e below Fi (T.setTop (mkF m pc' Ls rest))) (HN : 0 < x → GoE p e below Fi (T.setTop (mkF m pn Ls rest))) : GoE p e below Fi (T.setTop (mkF m pc Ls (.int x :: rest))) := by
  subst hn
  by_cases q : ¬ (0 < x)
  · exact (HY q).pull fun t k => Jvm.Free.XS.ifYes X.here hx rfl rfl (hb hby hd) rfl ((if0 _ _).trans (flt q).2.2.2) ho hp k
  · have q' : 0 < x := by first | exact q | exact Decidable.not_not.mp q
    exact (HN q').pull fun t k => Jvm.Free.XS.ifNo X.here hx rfl (hb hby hd) rfl ((if0 _ _).trans (tlt q').2.2.2) k
theorem g_ifL_le (X : Stand p l e R s m args below meth c T locs cells slots) (hx : p.tables.exec = Jvm.exec) {o : Int} {pn : Nat} (hby : c.code = bytes) {u v : Int64} (hd : decode bytes pc = .ok (.ifCond .le o, 3)) (ho : 0 ≤ (pc : Int) + o) (hp : ((pc : Int) + o).toNat = pc') (hn : pc + 3 = pn)
    (HY : ¬ (v < u) → GoE p e below Fi (T.setTop (mkF m pc' Ls rest))) (HN : v < u → GoE p e below Fi (T.setTop (mkF m pn Ls rest))) : GoE p e below Fi (T.setTop (mkF m pc Ls (.int (cmpL u v) :: rest))) :=
  g_if_le X hx hby hd ho hp hn (fun h => HY (fun z => h ((cl_gt u v).mpr z))) (fun h => HN ((cl_gt u v).mp h))
theorem g_ifnull_no (X : Stand p l e R s m args below meth c T locs cells slots) (hx : p.tables.exec = Jvm.exec) {o : Int} {pn : Nat} (hby : c.code = bytes) {b : Addr} (hd : decode bytes pc = .ok (.ifnull o, 3)) (hn : pc + 3 = pn)
    (H : GoE p e below Fi (T.setTop (mkF m pn Ls rest))) : GoE p e below Fi (T.setTop (mkF m pc Ls (.ref b :: rest))) := by
  subst hn; exact H.pull fun t k => Jvm.Free.XS.ifnullNo X.here hx rfl (hb hby hd) rfl k
theorem g_ifnull_yes (X : Stand p l e R s m args below meth c T locs cells slots) (hx : p.tables.exec = Jvm.exec) {o : Int} (hby : c.code = bytes) (hd : decode bytes pc = .ok (.ifnull o, 3)) (ho : 0 ≤ (pc : Int) + o) (hp : ((pc : Int) + o).toNat = pc')
    (H : GoE p e below Fi (T.setTop (mkF m pc' Ls rest))) : GoE p e below Fi (T.setTop (mkF m pc Ls (.null :: rest))) :=
  H.pull fun t k => Jvm.Free.XS.ifnullYes X.here hx rfl rfl (hb hby hd) rfl ho hp k
theorem g_ifnonnull_yes (X : Stand p l e R s m args below meth c T locs cells slots) (hx : p.tables.exec = Jvm.exec) {o : Int} (hby : c.code = bytes) {b : Addr} (hd : decode bytes pc = .ok (.ifnonnull o, 3)) (ho : 0 ≤ (pc : Int) + o) (hp : ((pc : Int) + o).toNat = pc')
    (H : GoE p e below Fi (T.setTop (mkF m pc' Ls rest))) : GoE p e below Fi (T.setTop (mkF m pc Ls (.ref b :: rest))) :=
  H.pull fun t k => Jvm.Free.XT.ifnonnullYes X.here hx rfl rfl (hb hby hd) rfl ho hp k
theorem g_ifnonnull_no (X : Stand p l e R s m args below meth c T locs cells slots) (hx : p.tables.exec = Jvm.exec) {o : Int} {pn : Nat} (hby : c.code = bytes) (hd : decode bytes pc = .ok (.ifnonnull o, 3)) (hn : pc + 3 = pn)
    (H : GoE p e below Fi (T.setTop (mkF m pn Ls rest))) : GoE p e below Fi (T.setTop (mkF m pc Ls (.null :: rest))) := by
  subst hn; exact H.pull fun t k => Jvm.Free.XT.ifnonnullNo X.here hx rfl (hb hby hd) rfl k
theorem g_acmp_yes (X : Stand p l e R s m args below meth c T locs cells slots) (hx : p.tables.exec = Jvm.exec) {o : Int} (hby : c.code = bytes) {cd : ClassFile.ACond} {x y : Value} (hd : decode bytes pc = .ok (.if_acmp cd o, 3)) (ho : 0 ≤ (pc : Int) + o) (hp : ((pc : Int) + o).toNat = pc') (h1 : x.isRef = true) (h2 : y.isRef = true) (hc : Jvm.Free.XT.acmp cd x y = true)
    (H : GoE p e below Fi (T.setTop (mkF m pc' Ls rest))) : GoE p e below Fi (T.setTop (mkF m pc Ls (y :: x :: rest))) :=
  H.pull fun t k => Jvm.Free.XT.acmpYes X.here hx rfl rfl (hb hby hd) rfl h1 h2 hc ho hp k
theorem g_acmp_no (X : Stand p l e R s m args below meth c T locs cells slots) (hx : p.tables.exec = Jvm.exec) {o : Int} {pn : Nat} (hby : c.code = bytes) {cd : ClassFile.ACond} {x y : Value} (hd : decode bytes pc = .ok (.if_acmp cd o, 3)) (hn : pc + 3 = pn) (h1 : x.isRef = true) (h2 : y.isRef = true) (hc : Jvm.Free.XT.acmp cd x y = false)
    (H : GoE p e below Fi (T.setTop (mkF m pn Ls rest))) : GoE p e below Fi (T.setTop (mkF m pc Ls (y :: x :: rest))) := by
  subst hn; exact H.pull fun t k => Jvm.Free.XT.acmpNo X.here hx rfl (hb hby hd) rfl h1 h2 hc k
theorem g_retI (X : Stand p l e R s m args below meth c T locs cells slots) (hx : p.tables.exec = Jvm.exec) {z : Int32} (hby : c.code = bytes) (hd : decode bytes pc = .ok (.ireturn, 1)) (hret : meth.sig.returnType = some .int) (hlk : meth.locks = false) (hc : cells ≤ rc) (hs : slots ≤ rs) (hQ : Q (some (.int z)) T.heap locs) : Go p e below s rc rs Q (T.setTop (mkF m pc Ls (.int z :: rest))) := by
  obtain ⟨fs, hr, hrun, hended, hW, hsame⟩ := X.leave (v := some (.int z)) (fun h => by first | rfl | (rw [hret] at h; cases h)) hlk
  exact ⟨_, _, retI X hx hret (hb hby hd) hr, hrun, hended, _, _, rfl, hQ, ⟨_, rfl⟩, hW, hsame.mono hc hs⟩
theorem g_retN (X : Stand p l e R s m args below meth c T locs cells slots) (hx : p.tables.exec = Jvm.exec) {z w : Int32} {t : FieldType} (hby : c.code = bytes) (hd : decode bytes pc = .ok (.ireturn, 1)) (hret : meth.sig.returnType = some t) (ht : t = .boolean ∨ t = .byte ∨ t = .char ∨ t = .short) (hnar : nar t z = w) (hlk : meth.locks = false) (hc : cells ≤ rc) (hs : slots ≤ rs) (hQ : Q (some (.int w)) T.heap locs) : Go p e below s rc rs Q (T.setTop (mkF m pc Ls (.int z :: rest))) := by
  subst hnar
  obtain ⟨fs, hr, hrun, hended, hW, hsame⟩ := X.leave (v := some (.int (nar t z))) (fun h => by rw [hret] at h; cases h) hlk
  exact ⟨_, _, retN X hx hret ht (hb hby hd) hr, hrun, hended, _, _, rfl, hQ, ⟨_, rfl⟩, hW, hsame.mono hc hs⟩
theorem g_retL (X : Stand p l e R s m args below meth c T locs cells slots) (hx : p.tables.exec = Jvm.exec) {z : Int64} (hby : c.code = bytes) (hd : decode bytes pc = .ok (.lreturn, 1)) (hret : meth.sig.returnType = some .long) (hlk : meth.locks = false) (hc : cells ≤ rc) (hs : slots ≤ rs) (hQ : Q (some (.long z)) T.heap locs) : Go p e below s rc rs Q (T.setTop (mkF m pc Ls [.long z])) := by
  obtain ⟨fs, hr, hrun, hended, hW, hsame⟩ := X.leave (v := some (.long z)) (fun h => by first | rfl | (rw [hret] at h; cases h)) hlk
  exact ⟨_, _, X.lreturnOut hx hret (hb hby hd) hr, hrun, hended, _, _, rfl, hQ, ⟨_, rfl⟩, hW, hsame.mono hc hs⟩
theorem g_retA (X : Stand p l e R s m args below meth c T locs cells slots) (hx : p.tables.exec = Jvm.exec) {z : Value} {t : FieldType} (hby : c.code = bytes) (hd : decode bytes pc = .ok (.areturn, 1)) (hz : z.isRef = true) (hret : meth.sig.returnType = some t) (ht : t.isReference = true) (hlk : meth.locks = false) (hc : cells ≤ rc) (hs : slots ≤ rs) (hQ : Q (some z) T.heap locs) : Go p e below s rc rs Q (T.setTop (mkF m pc Ls [z])) := by
  obtain ⟨fs, hr, hrun, hended, hW, hsame⟩ := X.leave (v := some z) (fun h => by first | rfl | (rw [hret] at h; cases h)) hlk
  exact ⟨_, _, X.areturnOut hx hz hret ht (hb hby hd) hr, hrun, hended, _, _, rfl, hQ, ⟨_, rfl⟩, hW, hsame.mono hc hs⟩
theorem g_retV (X : Stand p l e R s m args below meth c T locs cells slots) (hx : p.tables.exec = Jvm.exec)  (hby : c.code = bytes) (hd : decode bytes pc = .ok (.return_, 1)) (hret : meth.sig.returnType = none) (hlk : meth.locks = false) (hc : cells ≤ rc) (hs : slots ≤ rs) (hQ : Q (none) T.heap locs) : Go p e below s rc rs Q (T.setTop (mkF m pc Ls [])) := by
  obtain ⟨fs, hr, hrun, hended, hW, hsame⟩ := X.leave (v := none) (fun h => by first | rfl | (rw [hret] at h; cases h)) hlk
  exact ⟨_, _, X.returnOut hx hret (hb hby hd) hr, hrun, hended, _, _, rfl, hQ, ⟨_, rfl⟩, hW, hsame.mono hc hs⟩
theorem g_callS (X : Stand p l e R s m args below meth c T locs cells slots) (hx : p.tables.exec = Jvm.exec) {Z : State} {a0 : Array Value} (hZ : Z.Warmed39 s.vm) {own : String} (hown : s.vm.findClass own = some m.cls) {y : MethodName} {cb : ByteArray} {maxL : Nat} {ret : Option FieldType} {rm : Room} {as' : Array Value} {h : Heap} {Q' : Option Value → Heap → List Loc → Prop} {W : Nat} {index : Nat} {argsL : List Value} (hby : c.code = bytes) (hd : decode bytes pc = .ok (.invokestatic index, 3)) (hp : pc + 3 = pc') (hml : Ls.size = c.maxLocals)
    (w1 : (Jvm.Cond.methodLink own index y).before a0 Z = true) (w2 : (Jvm.Cond.static y).before a0 Z = true) (w3 : (Jvm.Cond.initialized y.cls).before a0 Z = true) (w4 : (Jvm.Cond.code y cb maxL ret).before a0 Z = true) (hy : y.cls ≠ "java/lang/invoke/MethodHandle" ∧ y.cls ≠ "java/lang/invoke/VarHandle")
    (C : Ctr l Z y cb maxL ret [] rm as' h Q') (eT : T.heap = h) (hfr : rm.frames + 1 ≤ R.frames) (hlo : W + (maxL + 11) + rm.locals ≤ R.locals) (hce : cells + rm.cells ≤ R.cells) (hsl : slots + rm.slots ≤ R.slots) {stk : List Value} {psig : MethodDescriptor} (has : argsL.toArray = as') (hpd : parseMethodDescriptor y.desc = some psig) (hlen : argsL.length = psig.parameters.length) (hst : stk = argsL.reverse ++ rest) (hW : 2 * 0 + (rest.map fun v => v.category).sum ≤ W)
    (K : ∀ (v : Option Value) (T' : State) (L : List Loc), Stand p l e R s m args below meth c T' (locs ++ L) (cells + rm.cells) (slots + rm.slots) → Q' v T'.heap L → GoE p e below Fi (T'.setTop (mkF m pc' Ls (v.toList ++ rest)))) : GoE p e below Fi (T.setTop (mkF m pc Ls stk)) := by
  subst hp hst has
  obtain ⟨v, _, ⟨T4, L4, k4, n4⟩, -, X4, ⟨Lc, hQ, l4, y4, z4⟩, st⟩ := Jvm.LawKit.callS X hx (y := y) hown (mvT hZ w1) (mvT hZ w2) (mvT hZ w3) (mvT hZ w4) hy (backOf (W := W) C hZ w4 w3 hfr hlo) (g := mkF m pc Ls (argsL.reverse ++ rest)) rfl hml (argsL := argsL) (rest := rest) (fun sig h => by rw [hpd] at h; cases h; exact hlen) rfl hW (hb hby hd) (fun _ _ => ⟨rfl, eT, hce, hsl⟩)
  dsimp only [Pt.U, Pt.locs, Pt.cells, Pt.slots] at X4 l4 y4 z4 st hQ
  subst l4 y4 z4
  exact (K v T4 Lc X4 hQ).pull st
theorem g_callI (X : Stand p l e R s m args below meth c T locs cells slots) (hx : p.tables.exec = Jvm.exec) {Z : State} {a0 : Array Value} (hZ : Z.Warmed39 s.vm) {own : String} (hown : s.vm.findClass own = some m.cls) {y : MethodName} {cb : ByteArray} {maxL : Nat} {rm : Room} {as' : Array Value} {h : Heap} {Q' : Option Value → Heap → List Loc → Prop} {W : Nat} {index : Nat} {argsL : List Value} {b : Addr} (hby : c.code = bytes) (hd : decode bytes pc = .ok (.invokespecial index, 3)) (hp : pc + 3 = pc') (hml : Ls.size = c.maxLocals)
    (w1 : (Jvm.Cond.methodLink own index y).before a0 Z = true) (w2 : (Jvm.Cond.instanceMethod y).before a0 Z = true) (w3 : (Jvm.Cond.initialized y.cls).before a0 Z = true) (w4 : (Jvm.Cond.code y cb maxL none).before a0 Z = true) (hin : y.name = "<init>") (hy : y.cls ≠ "java/lang/invoke/MethodHandle" ∧ y.cls ≠ "java/lang/invoke/VarHandle")
    (C : Ctr l Z y cb maxL none [] rm as' h Q') (eT : T.heap = h) (hfr : rm.frames + 1 ≤ R.frames) (hlo : W + (maxL + 11) + rm.locals ≤ R.locals) (hce : cells + rm.cells ≤ R.cells) (hsl : slots + rm.slots ≤ R.slots) {stk : List Value} {psig : MethodDescriptor} (has : (Value.ref b :: argsL).toArray = as') (hpd : parseMethodDescriptor y.desc = some psig) (hlen : argsL.length = psig.parameters.length) (hst : stk = argsL.reverse ++ Value.ref b :: rest) (hW : 2 * 0 + (rest.map fun v => v.category).sum ≤ W)
    (K : ∀ (v : Option Value) (T' : State) (L : List Loc), Stand p l e R s m args below meth c T' (locs ++ L) (cells + rm.cells) (slots + rm.slots) → Q' v T'.heap L → GoE p e below Fi (T'.setTop (mkF m pc' Ls (v.toList ++ rest)))) : GoE p e below Fi (T.setTop (mkF m pc Ls stk)) := by
  subst hp hst has
  obtain ⟨v, _, ⟨T4, L4, k4, n4⟩, -, X4, ⟨Lc, hQ, l4, y4, z4⟩, st⟩ := X.specialBack hx (y := y) hin hown (mvT hZ w1) (mvT hZ w2) (mvT hZ w4) hy (backOf (W := W) C hZ w4 w3 hfr hlo) (g := mkF m pc Ls (argsL.reverse ++ Value.ref b :: rest)) rfl hml (Steps.refl _) (a := b) (argsL := argsL) (rest := rest) (fun sig h => by rw [hpd] at h; cases h; exact hlen) rfl hW (hb hby hd) (fun _ _ => ⟨rfl, eT, hce, hsl⟩)
  dsimp only [Pt.U, Pt.locs, Pt.cells, Pt.slots] at X4 l4 y4 z4 st hQ
  subst l4 y4 z4
  exact (K v T4 Lc X4 hQ).pull fun t k => st.trans k
theorem g_callV (X : Stand p l e R s m args below meth c T locs cells slots) (hx : p.tables.exec = Jvm.exec) {Z : State} {a0 : Array Value} (hZ : Z.Warmed39 s.vm) {own : String} (hown : s.vm.findClass own = some m.cls) {y : MethodName} {cb : ByteArray} {maxL : Nat} {ret : Option FieldType} {rm : Room} {as' : Array Value} {h : Heap} {Q' : Option Value → Heap → List Loc → Prop} {W : Nat} {index : Nat} {argsL : List Value} {b : Addr} {z : MethodName} {C0 : String} (hby : c.code = bytes) (hd : decode bytes pc = .ok (.invokevirtual index, 3)) (hp : pc + 3 = pc') (hml : Ls.size = c.maxLocals)
    (w1 : (Jvm.Cond.methodLink own index y).before a0 Z = true) (w2 : (Jvm.Cond.declares y).before a0 Z = true) (w5 : (Jvm.Cond.selects C0 y z).before a0 Z = true) (nf : NotFace s y) (w6 : (Jvm.Cond.instanceMethod z).before a0 Z = true) (w3 : (Jvm.Cond.initialized z.cls).before a0 Z = true) (w4 : (Jvm.Cond.code z cb maxL ret).before a0 Z = true) (hy : y.cls ≠ "java/lang/invoke/MethodHandle" ∧ y.cls ≠ "java/lang/invoke/VarHandle")
    (C : Ctr l Z z cb maxL ret [] rm as' h Q') (eT : T.heap = h) (E : Exa Z h b C0) (hfr : rm.frames + 1 ≤ R.frames) (hlo : W + (maxL + 11) + rm.locals ≤ R.locals) (hce : cells + rm.cells ≤ R.cells) (hsl : slots + rm.slots ≤ R.slots) {stk : List Value} {psig : MethodDescriptor} (has : (Value.ref b :: argsL).toArray = as') (hpd : parseMethodDescriptor y.desc = some psig) (hlen : argsL.length = psig.parameters.length) (hst : stk = argsL.reverse ++ Value.ref b :: rest) (hW : 2 * 0 + (rest.map fun v => v.category).sum ≤ W)
    (K : ∀ (v : Option Value) (T' : State) (L : List Loc), Stand p l e R s m args below meth c T' (locs ++ L) (cells + rm.cells) (slots + rm.slots) → Q' v T'.heap L → GoE p e below Fi (T'.setTop (mkF m pc' Ls (v.toList ++ rest)))) : GoE p e below Fi (T.setTop (mkF m pc Ls stk)) := by
  subst hp hst has
  obtain ⟨cq, kq, qa, qb, qc⟩ := isOf hZ eT E
  obtain ⟨v, _, ⟨T4, L4, k4, n4⟩, -, X4, ⟨Lc, hQ, l4, y4, z4⟩, st⟩ := X.virtualBack hx (y := y) (z := z) hown (mvT hZ w1) (mvT hZ w2) nf (mvT hZ w5) (mvT hZ w6) hy (backOf (W := W) C hZ w4 w3 hfr hlo) qa qc (g := mkF m pc Ls (argsL.reverse ++ Value.ref b :: rest)) rfl hml (Steps.refl _) (argsL := argsL) (rest := rest) (fun sig h => by rw [hpd] at h; cases h; exact hlen) rfl hW (hb hby hd) (fun _ _ => ⟨rfl, eT, hce, hsl⟩)
  dsimp only [Pt.U, Pt.locs, Pt.cells, Pt.slots] at X4 l4 y4 z4 st hQ
  subst l4 y4 z4
  exact (K v T4 Lc X4 hQ).pull fun t k => st.trans k
theorem g_new (X : Stand p l e R s m args below meth c T locs cells slots) (hx : p.tables.exec = Jvm.exec) {Z : State} {a0 : Array Value} (hZ : Z.Warmed39 s.vm) {own : String} (hown : s.vm.findClass own = some m.cls) {C : String} {index n : Nat} {h : Heap} (hby : c.code = bytes) (hd : decode bytes pc = .ok (.new index, 3)) (hp : pc + 3 = pc') (w1 : (Jvm.Cond.classLink own index C).before a0 Z = true) (w2 : (Jvm.Cond.instantiable C n).before a0 Z = true) (w3 : (Jvm.Cond.initialized C).before a0 Z = true) (eT : T.heap = h) (hce : cells + 1 ≤ R.cells) (hsl : slots + n ≤ R.slots)
    (K : ∀ (T' : State) (b : Addr), b = h.size → Stand p l e R s m args below meth c T' locs (cells + 1) (slots + n) → Ext h T'.heap → Exa Z T'.heap b C → (∀ {O nm d : String} {ty : FieldType}, Laid Z a0 C O nm d → parseFieldDescriptor d = some ty → Fld Z T'.heap b O nm d (defaultValue ty)) → GoE p e below Fi (T'.setTop (mkF m pc' Ls (.ref b :: rest)))) : GoE p e below Fi (T.setTop (mkF m pc Ls rest)) := by
  subst hp
  obtain ⟨T2, h2, X2, e2, E2, A2, D2, -, st2⟩ := newO X hx hZ hown w1 w2 w3 eT (g := mkF m pc Ls rest) rfl (hb hby hd) hce hsl
  subst e2
  exact (K T2 _ rfl X2 E2 A2 D2).pull st2
theorem g_initO (X : Stand p l e R s m args below meth c T locs cells slots) (hx : p.tables.exec = Jvm.exec) {Z : State} {a0 : Array Value} (hZ : Z.Warmed39 s.vm) {own : String} (hown : s.vm.findClass own = some m.cls) {index : Nat} {h : Heap} {cb : ByteArray} {b : Addr} {W maxL : Nat} (hby : c.code = bytes) (hd : decode bytes pc = .ok (.invokespecial index, 3)) (hp : pc + 3 = pc') (hml : Ls.size = c.maxLocals)
    (F : ∃ T', Stand p l e R s m args below meth c T' locs cells slots ∧ T'.heap = h ∧ ∀ target, Steps p.tables e below (T'.setTop (mkF m (pc + 3) Ls rest)) target → Steps p.tables e below (T.setTop (mkF m pc Ls (.ref b :: rest))) target)
    (K : ∀ T' : State, Stand p l e R s m args below meth c T' locs cells slots → T'.heap = h → GoE p e below Fi (T'.setTop (mkF m pc' Ls rest))) : GoE p e below Fi (T.setTop (mkF m pc Ls (.ref b :: rest))) := by
  subst hp
  obtain ⟨T2, X2, e2, st2⟩ := F
  exact (K T2 X2 e2).pull st2
theorem g_get (X : Stand p l e R s m args below meth c T locs cells slots) (hx : p.tables.exec = Jvm.exec) {Z : State} {a0 : Array Value} (hZ : Z.Warmed39 s.vm) {own : String} (hown : s.vm.findClass own = some m.cls) {O n d : String} {index : Nat} {h : Heap} {a : Addr} {v : Value} (hby : c.code = bytes) (hd : decode bytes pc = .ok (.getfield index, 3)) (hp : pc + 3 = pc') (w : (Jvm.Cond.fieldLink own index O n d).before a0 Z = true) (eT : T.heap = h) (F : Fld Z h a O n d v)
    (K : ∀ T' : State, Stand p l e R s m args below meth c T' locs cells slots → T'.heap = h → GoE p e below Fi (T'.setTop (mkF m pc' Ls (v :: rest)))) : GoE p e below Fi (T.setTop (mkF m pc Ls (.ref a :: rest))) := by
  subst hp
  obtain ⟨T2, X2, e2, st2⟩ := getF X hx hZ hown (host := "") (Or.inl w) Via.refl eT F (g := mkF m pc Ls (.ref a :: rest)) rfl rfl (hb hby hd)
  exact (K T2 X2 e2).pull st2
theorem g_put (X : Stand p l e R s m args below meth c T locs cells slots) (hx : p.tables.exec = Jvm.exec) {Z : State} {a0 : Array Value} (hZ : Z.Warmed39 s.vm) {own : String} (hown : s.vm.findClass own = some m.cls) {O n d C : String} {index kk : Nat} {ty : FieldType} {h : Heap} {a : Addr} {v old : Value} (hby : c.code = bytes) (hd : decode bytes pc = .ok (.putfield index, 3)) (hp : pc + 3 = pc') (w : (Jvm.Cond.fieldLink own index O n d).before a0 Z = true) (eT : T.heap = h) (F : Fld Z h a O n d old) (E : Exa Z h a C) (Lf : (Jvm.Cond.lays C O n d).before a0 Z = true ∨ ((Jvm.Cond.laysFinal C O n d).before a0 Z = true ∧ own = O ∧ meth.name = "<init>")) (wi : (Jvm.Cond.instantiable C kk).before a0 Z = true) (hty : parseFieldDescriptor d = some ty) (hn : narrow ty v = v) (hf : fits ty v = true)
    (K : ∀ T' : State, Stand p l e R s m args below meth c T' (locs ++ [⟨a, RoadKit.slotOf Z O n d⟩]) cells slots → Wr h T'.heap a (RoadKit.slotOf Z O n d) v → GoE p e below Fi (T'.setTop (mkF m pc' Ls rest))) : GoE p e below Fi (T.setTop (mkF m pc Ls (v :: .ref a :: rest))) := by
  subst hp
  obtain ⟨T2, h2, X2, e2, W2, st2⟩ := putF X hx hZ hown (host := "") (Or.inl w) Via.refl eT F E Lf wi hty hn hf (g := mkF m pc Ls (v :: .ref a :: rest)) rfl rfl (hb hby hd)
  subst e2
  exact (K T2 X2 W2).pull st2
theorem g_getS (X : Stand p l e R s m args below meth c T locs cells slots) (hx : p.tables.exec = Jvm.exec) {Z : State} {a0 : Array Value} (hZ : Z.Warmed39 s.vm) {own : String} (hown : s.vm.findClass own = some m.cls) {O n d : String} {index : Nat} {h : Heap} {v : Value} (hby : c.code = bytes) (hd : decode bytes pc = .ok (.getstatic index, 3)) (hp : pc + 3 = pc') (w : (Jvm.Cond.fieldLink own index O n d).before a0 Z = true) (eT : T.heap = h) (F : Sta Z h O n d v)
    (K : ∀ T' : State, Stand p l e R s m args below meth c T' locs cells slots → T'.heap = h → GoE p e below Fi (T'.setTop (mkF m pc' Ls (v :: rest)))) : GoE p e below Fi (T.setTop (mkF m pc Ls rest)) := by
  subst hp
  obtain ⟨T2, X2, e2, st2⟩ := getS X hx hZ hown (host := "") w Via.refl eT F (g := mkF m pc Ls rest) rfl (hb hby hd)
  exact (K T2 X2 e2).pull st2
theorem g_iaload (X : Stand p l e R s m args below meth c T locs cells slots) (hx : p.tables.exec = Jvm.exec) {Z : State} (hZ : Z.Warmed39 s.vm) {h : Heap} {a : Addr} {k : ClassId} {n : Int32} {vs : List Value} {dv : Value} {j : Int32} {v : Value} (hby : c.code = bytes) (hd : decode bytes pc = .ok (.iaload, 1)) (hp : pc + 1 = pc') (eT : T.heap = h) (F : Arv Z h a k .int n vs dv) (hj : ¬ j < 0 ∧ j < n) (u : vs.getD j.toNatClampNeg dv = v)
    (H : GoE p e below Fi (T.setTop (mkF m pc' Ls (v :: rest)))) : GoE p e below Fi (T.setTop (mkF m pc Ls (.int j :: .ref a :: rest))) := by
  subst hp
  obtain ⟨cl, A, q1, S, q3, Hh, G⟩ := F
  exact H.pull fun t k => X.iaload hx (by rw [eT]; exact A.1) (State.isArrayOf_alike hZ.alike A.2.1) A.2.2 (inb_of S hj) (Hh.at (inb_of S hj) u) (g := mkF m pc Ls (.int j :: .ref a :: rest)) rfl rfl (hb hby hd) _ k
theorem g_laload (X : Stand p l e R s m args below meth c T locs cells slots) (hx : p.tables.exec = Jvm.exec) {Z : State} (hZ : Z.Warmed39 s.vm) {h : Heap} {a : Addr} {k : ClassId} {n : Int32} {vs : List Value} {dv : Value} {j : Int32} {v : Value} (hby : c.code = bytes) (hd : decode bytes pc = .ok (.laload, 1)) (hp : pc + 1 = pc') (eT : T.heap = h) (F : Arv Z h a k .long n vs dv) (hj : ¬ j < 0 ∧ j < n) (u : vs.getD j.toNatClampNeg dv = v)
    (H : GoE p e below Fi (T.setTop (mkF m pc' Ls (v :: rest)))) : GoE p e below Fi (T.setTop (mkF m pc Ls (.int j :: .ref a :: rest))) := by
  subst hp
  obtain ⟨cl, A, q1, S, q3, Hh, G⟩ := F
  exact H.pull fun t k => X.laload hx (by rw [eT]; exact A.1) (State.isArrayOf_alike hZ.alike A.2.1) A.2.2 (inb_of S hj) (Hh.at (inb_of S hj) u) (g := mkF m pc Ls (.int j :: .ref a :: rest)) rfl rfl (hb hby hd) _ k
theorem g_caload (X : Stand p l e R s m args below meth c T locs cells slots) (hx : p.tables.exec = Jvm.exec) {Z : State} (hZ : Z.Warmed39 s.vm) {h : Heap} {a : Addr} {k : ClassId} {n : Int32} {vs : List Value} {dv : Value} {j : Int32} {v : Value} (hby : c.code = bytes) (hd : decode bytes pc = .ok (.caload, 1)) (hp : pc + 1 = pc') (eT : T.heap = h) (F : Arv Z h a k .char n vs dv) (hj : ¬ j < 0 ∧ j < n) (u : vs.getD j.toNatClampNeg dv = v)
    (H : GoE p e below Fi (T.setTop (mkF m pc' Ls (v :: rest)))) : GoE p e below Fi (T.setTop (mkF m pc Ls (.int j :: .ref a :: rest))) := by
  subst hp
  obtain ⟨cl, A, q1, S, q3, Hh, G⟩ := F
  exact H.pull fun t k => X.caload hx (by rw [eT]; exact A.1) (State.isArrayOf_alike hZ.alike A.2.1) A.2.2 (inb_of S hj) (Hh.at (inb_of S hj) u) (g := mkF m pc Ls (.int j :: .ref a :: rest)) rfl rfl (hb hby hd) _ k
theorem g_baload (X : Stand p l e R s m args below meth c T locs cells slots) (hx : p.tables.exec = Jvm.exec) {Z : State} (hZ : Z.Warmed39 s.vm) {h : Heap} {a : Addr} {k : ClassId} {n : Int32} {vs : List Value} {dv : Value} {j : Int32} {v : Value} (hby : c.code = bytes) (hd : decode bytes pc = .ok (.baload, 1)) (hp : pc + 1 = pc') (eT : T.heap = h) (F : Arv Z h a k .byte n vs dv) (hj : ¬ j < 0 ∧ j < n) (u : vs.getD j.toNatClampNeg dv = v)
    (H : GoE p e below Fi (T.setTop (mkF m pc' Ls (v :: rest)))) : GoE p e below Fi (T.setTop (mkF m pc Ls (.int j :: .ref a :: rest))) := by
  subst hp
  obtain ⟨cl, A, q1, S, q3, Hh, G⟩ := F
  exact H.pull fun t k => X.baloadBytes hx (by rw [eT]; exact A.1) (State.isArrayOf_alike hZ.alike A.2.1) A.2.2 (inb_of S hj) (Hh.at (inb_of S hj) u) (g := mkF m pc Ls (.int j :: .ref a :: rest)) rfl rfl (hb hby hd) _ k
theorem g_daload (X : Stand p l e R s m args below meth c T locs cells slots) (hx : p.tables.exec = Jvm.exec) {Z : State} (hZ : Z.Warmed39 s.vm) {h : Heap} {a : Addr} {k : ClassId} {n : Int32} {vs : List Value} {dv : Value} {j : Int32} {v : Value} (hby : c.code = bytes) (hd : decode bytes pc = .ok (.daload, 1)) (hp : pc + 1 = pc') (eT : T.heap = h) (F : Arv Z h a k .double n vs dv) (hj : ¬ j < 0 ∧ j < n) (u : vs.getD j.toNatClampNeg dv = v)
    (H : GoE p e below Fi (T.setTop (mkF m pc' Ls (v :: rest)))) : GoE p e below Fi (T.setTop (mkF m pc Ls (.int j :: .ref a :: rest))) := by
  subst hp
  obtain ⟨cl, A, q1, S, q3, Hh, G⟩ := F
  exact H.pull fun t k => X.daload hx (by rw [eT]; exact A.1) (State.isArrayOf_alike hZ.alike A.2.1) A.2.2 (inb_of S hj) (Hh.at (inb_of S hj) u) (g := mkF m pc Ls (.int j :: .ref a :: rest)) rfl rfl (hb hby hd) _ k
theorem g_aaload (X : Stand p l e R s m args below meth c T locs cells slots) (hx : p.tables.exec = Jvm.exec) {Z : State} (hZ : Z.Warmed39 s.vm) {h : Heap} {a : Addr} {k : ClassId} {n : Int32} {vs : List Value} {dv : Value} {ty : FieldType} {j : Int32} {v : Value} (hby : c.code = bytes) (hd : decode bytes pc = .ok (.aaload, 1)) (hp : pc + 1 = pc') (eT : T.heap = h) (F : Arv Z h a k ty n vs dv) (hty : ty.isReference = true) (hj : ¬ j < 0 ∧ j < n) (u : vs.getD j.toNatClampNeg dv = v)
    (H : GoE p e below Fi (T.setTop (mkF m pc' Ls (v :: rest)))) : GoE p e below Fi (T.setTop (mkF m pc Ls (.int j :: .ref a :: rest))) := by
  subst hp
  obtain ⟨cl, A, q1, S, q3, Hh, G⟩ := F
  exact H.pull fun t k => X.aaload hx (by rw [eT]; exact A.1) (State.isArrayOf_alike hZ.alike A.2.1) hty A.2.2 (inb_of S hj) (Hh.at (inb_of S hj) u) (g := mkF m pc Ls (.int j :: .ref a :: rest)) rfl rfl (hb hby hd) _ k
theorem g_alen (X : Stand p l e R s m args below meth c T locs cells slots) (hx : p.tables.exec = Jvm.exec) {Z : State} (hZ : Z.Warmed39 s.vm) {h : Heap} {a : Addr} {k : ClassId} {n : Int32} {vs : List Value} {dv : Value} {ty : FieldType} (hby : c.code = bytes) (hd : decode bytes pc = .ok (.arraylength, 1)) (hp : pc + 1 = pc') (eT : T.heap = h) (F : Arv Z h a k ty n vs dv)
    (H : GoE p e below Fi (T.setTop (mkF m pc' Ls (.int n :: rest)))) : GoE p e below Fi (T.setTop (mkF m pc Ls (.ref a :: rest))) := by
  subst hp
  obtain ⟨cl, A, q1, S, q3, Hh, G⟩ := F
  exact H.pull fun t k => X.arraylength hx (by rw [eT]; exact A.1) (State.isArrayOf_alike hZ.alike A.2.1) (g := mkF m pc Ls (.ref a :: rest)) rfl rfl (hb hby hd) _ (by rw [len_of S q3]; exact k)
theorem g_iastore (X : Stand p l e R s m args below meth c T locs cells slots) (hx : p.tables.exec = Jvm.exec) {Z : State} (hZ : Z.Warmed39 s.vm) {h : Heap} {a : Addr} {k : ClassId} {n : Int32} {vs : List Value} {dv : Value} {j : Int32} {x : Int32} (i : Nat) (hby : c.code = bytes) (hd : decode bytes pc = .ok (.iastore, 1)) (hp : pc + 1 = pc') (eT : T.heap = h) (F : Arv Z h a k .int n vs dv) (hj : ¬ j < 0 ∧ j < n) (hji : j.toNatClampNeg = i) (hi : i < vs.length)
    (K : ∀ T' : State, Stand p l e R s m args below meth c T' (locs ++ [⟨a, j.toNatClampNeg⟩]) cells slots → Wr h T'.heap a j.toNatClampNeg (.int x) → Arv Z T'.heap a k .int n (vs.set i (.int x)) dv → GoE p e below Fi (T'.setTop (mkF m pc' Ls rest))) : GoE p e below Fi (T.setTop (mkF m pc Ls (.int x :: .int j :: .ref a :: rest))) := by
  subst hp
  obtain ⟨cl, A, q1, S, q3, Hh, G⟩ := F
  obtain ⟨T2, h2, X2, e2, W2, st2⟩ := stI X hx hZ eT A (inb_of S hj) (g := mkF m pc Ls (.int x :: .int j :: .ref a :: rest)) rfl rfl (hb hby hd)
  subst e2
  exact (K T2 X2 W2 (Arv.set A q1 S q3 Hh G rfl W2 i hji hi)).pull st2
theorem g_lastore (X : Stand p l e R s m args below meth c T locs cells slots) (hx : p.tables.exec = Jvm.exec) {Z : State} (hZ : Z.Warmed39 s.vm) {h : Heap} {a : Addr} {k : ClassId} {n : Int32} {vs : List Value} {dv : Value} {j : Int32} {x : Int64} (i : Nat) (hby : c.code = bytes) (hd : decode bytes pc = .ok (.lastore, 1)) (hp : pc + 1 = pc') (eT : T.heap = h) (F : Arv Z h a k .long n vs dv) (hj : ¬ j < 0 ∧ j < n) (hji : j.toNatClampNeg = i) (hi : i < vs.length)
    (K : ∀ T' : State, Stand p l e R s m args below meth c T' (locs ++ [⟨a, j.toNatClampNeg⟩]) cells slots → Wr h T'.heap a j.toNatClampNeg (.long x) → Arv Z T'.heap a k .long n (vs.set i (.long x)) dv → GoE p e below Fi (T'.setTop (mkF m pc' Ls rest))) : GoE p e below Fi (T.setTop (mkF m pc Ls (.long x :: .int j :: .ref a :: rest))) := by
  subst hp
  obtain ⟨cl, A, q1, S, q3, Hh, G⟩ := F
  obtain ⟨T2, h2, X2, e2, W2, st2⟩ := stJ X hx hZ eT A (inb_of S hj) (g := mkF m pc Ls (.long x :: .int j :: .ref a :: rest)) rfl rfl (hb hby hd)
  subst e2
  exact (K T2 X2 W2 (Arv.set A q1 S q3 Hh G rfl W2 i hji hi)).pull st2
theorem g_castore (X : Stand p l e R s m args below meth c T locs cells slots) (hx : p.tables.exec = Jvm.exec) {Z : State} (hZ : Z.Warmed39 s.vm) {h : Heap} {a : Addr} {k : ClassId} {n : Int32} {vs : List Value} {dv : Value} {j : Int32} {x : Int32} (i : Nat) (hby : c.code = bytes) (hd : decode bytes pc = .ok (.castore, 1)) (hp : pc + 1 = pc') (eT : T.heap = h) (F : Arv Z h a k .char n vs dv) (hj : ¬ j < 0 ∧ j < n) (hji : j.toNatClampNeg = i) (hi : i < vs.length)
    (K : ∀ T' : State, Stand p l e R s m args below meth c T' (locs ++ [⟨a, j.toNatClampNeg⟩]) cells slots → Wr h T'.heap a j.toNatClampNeg (.int (nar .char x)) → Arv Z T'.heap a k .char n (vs.set i (.int (nar .char x))) dv → GoE p e below Fi (T'.setTop (mkF m pc' Ls rest))) : GoE p e below Fi (T.setTop (mkF m pc Ls (.int x :: .int j :: .ref a :: rest))) := by
  subst hp
  obtain ⟨cl, A, q1, S, q3, Hh, G⟩ := F
  obtain ⟨T2, h2, X2, e2, W2, st2⟩ := stC X hx hZ eT A (inb_of S hj) (g := mkF m pc Ls (.int x :: .int j :: .ref a :: rest)) rfl rfl (hb hby hd)
  subst e2
  exact (K T2 X2 W2 (Arv.set A q1 S q3 Hh G (fits_nar_char x) W2 i hji hi)).pull st2
theorem g_bastore (X : Stand p l e R s m args below meth c T locs cells slots) (hx : p.tables.exec = Jvm.exec) {Z : State} (hZ : Z.Warmed39 s.vm) {h : Heap} {a : Addr} {k : ClassId} {n : Int32} {vs : List Value} {dv : Value} {j : Int32} {x : Int32} (i : Nat) (hby : c.code = bytes) (hd : decode bytes pc = .ok (.bastore, 1)) (hp : pc + 1 = pc') (eT : T.heap = h) (F : Arv Z h a k .byte n vs dv) (hj : ¬ j < 0 ∧ j < n) (hji : j.toNatClampNeg = i) (hi : i < vs.length)
    (K : ∀ T' : State, Stand p l e R s m args below meth c T' (locs ++ [⟨a, j.toNatClampNeg⟩]) cells slots → Wr h T'.heap a j.toNatClampNeg (.int (nar .byte x)) → Arv Z T'.heap a k .byte n (vs.set i (.int (nar .byte x))) dv → GoE p e below Fi (T'.setTop (mkF m pc' Ls rest))) : GoE p e below Fi (T.setTop (mkF m pc Ls (.int x :: .int j :: .ref a :: rest))) := by
  subst hp
  obtain ⟨cl, A, q1, S, q3, Hh, G⟩ := F
  obtain ⟨T2, h2, X2, e2, W2, st2⟩ := stB X hx hZ eT A (inb_of S hj) (g := mkF m pc Ls (.int x :: .int j :: .ref a :: rest)) rfl rfl (hb hby hd)
  subst e2
  exact (K T2 X2 W2 (Arv.set A q1 S q3 Hh G (fits_nar_byte x) W2 i hji hi)).pull st2
theorem g_dastore (X : Stand p l e R s m args below meth c T locs cells slots) (hx : p.tables.exec = Jvm.exec) {Z : State} (hZ : Z.Warmed39 s.vm) {h : Heap} {a : Addr} {k : ClassId} {n : Int32} {vs : List Value} {dv : Value} {j : Int32} {x : UInt64} (i : Nat) (hby : c.code = bytes) (hd : decode bytes pc = .ok (.dastore, 1)) (hp : pc + 1 = pc') (eT : T.heap = h) (F : Arv Z h a k .double n vs dv) (hj : ¬ j < 0 ∧ j < n) (hji : j.toNatClampNeg = i) (hi : i < vs.length)
    (K : ∀ T' : State, Stand p l e R s m args below meth c T' (locs ++ [⟨a, j.toNatClampNeg⟩]) cells slots → Wr h T'.heap a j.toNatClampNeg (.double x) → Arv Z T'.heap a k .double n (vs.set i (.double x)) dv → GoE p e below Fi (T'.setTop (mkF m pc' Ls rest))) : GoE p e below Fi (T.setTop (mkF m pc Ls (.double x :: .int j :: .ref a :: rest))) := by
  subst hp
  obtain ⟨cl, A, q1, S, q3, Hh, G⟩ := F
  obtain ⟨T2, h2, X2, e2, W2, st2⟩ := stD X hx hZ eT A (inb_of S hj) (g := mkF m pc Ls (.double x :: .int j :: .ref a :: rest)) rfl rfl (hb hby hd)
  subst e2
  exact (K T2 X2 W2 (Arv.set A q1 S q3 Hh G rfl W2 i hji hi)).pull st2
theorem g_newarray (X : Stand p l e R s m args below meth c T locs cells slots) (hx : p.tables.exec = Jvm.exec) {Z : State} {a0 : Array Value} (hZ : Z.Warmed39 s.vm) {aty : ArrayType} {h : Heap} {n : Int32} (cap : Nat) (ad : String) (hby : c.code = bytes) (hd : decode bytes pc = .ok (.newarray aty, 2)) (hp : pc + 2 = pc') (w : (Jvm.Cond.arrayClass (newarray.typeOf aty)).before a0 Z = true) (eT : T.heap = h) (hn : ¬ n < 0) (hcap : n.toNatClampNeg ≤ cap) (hbg : cap * 8 ≤ 536870912) (hce : cells + 1 ≤ R.cells) (hsl : slots + cap ≤ R.slots) (had : "[" ++ (newarray.typeOf aty).toString = ad)
    (K : ∀ (T' : State) (b : Addr) (cA : ClassId), b = h.size → Stand p l e R s m args below meth c T' locs (cells + 1) (slots + cap) → Ext h T'.heap → Arv Z T'.heap b cA (newarray.typeOf aty) n (List.replicate cap (defaultValue (newarray.typeOf aty))) (defaultValue (newarray.typeOf aty)) → Exa Z T'.heap b ad → GoE p e below Fi (T'.setTop (mkF m pc' Ls (.ref b :: rest)))) : GoE p e below Fi (T.setTop (mkF m pc Ls (.int n :: rest))) := by
  subst hp
  obtain ⟨T2, h2, cA, X2, e2, E2, A2, Ex2, st2⟩ := newPE X hx hZ w eT (g := mkF m pc Ls (.int n :: rest)) rfl (hb hby hd) rfl hn hcap hbg hce hsl had
  subst e2
  exact (K T2 _ cA rfl X2 E2 ((Arv.new A2 hn).pad (pad_rep [] _ cap)) Ex2).pull st2
theorem g_lswHit (X : Stand p l e R s m args below meth c T locs cells slots) (hx : p.tables.exec = Jvm.exec) {k : Int32} {dflt : Int} {pairs : Array (Int × Int)} {len : Nat} {a off : Int} (hby : c.code = bytes) (hd : decode bytes pc = .ok (.lookupswitch dflt pairs, len)) (hs : (pairs.toList.zip (pairs.toList.drop 1)).all (fun (a, next) => a.1 < next.1) = true) (hf : pairs.find? (·.1 == k.toInt) = some (a, off)) (ho : 0 ≤ (pc : Int) + off) (hp : ((pc : Int) + off).toNat = pc')
    (H : GoE p e below Fi (T.setTop (mkF m pc' Ls rest))) : GoE p e below Fi (T.setTop (mkF m pc Ls (.int k :: rest))) := by
  subst hp
  exact H.pull fun t q => X.lookupswitchHit hx (g := mkF m pc Ls (.int k :: rest)) rfl rfl (hb hby hd) hs hf ho _ q
theorem g_lswMiss (X : Stand p l e R s m args below meth c T locs cells slots) (hx : p.tables.exec = Jvm.exec) {k : Int32} {dflt : Int} {pairs : Array (Int × Int)} {len : Nat} (hby : c.code = bytes) (hd : decode bytes pc = .ok (.lookupswitch dflt pairs, len)) (hs : (pairs.toList.zip (pairs.toList.drop 1)).all (fun (a, next) => a.1 < next.1) = true) (hf : pairs.find? (·.1 == k.toInt) = none) (ho : 0 ≤ (pc : Int) + dflt) (hp : ((pc : Int) + dflt).toNat = pc')
    (H : GoE p e below Fi (T.setTop (mkF m pc' Ls rest))) : GoE p e below Fi (T.setTop (mkF m pc Ls (.int k :: rest))) := by
  subst hp
  exact H.pull fun t q => X.lookupswitchMiss hx (g := mkF m pc Ls (.int k :: rest)) rfl rfl (hb hby hd) hs hf ho _ q
theorem g_castY (X : Stand p l e R s m args below meth c T locs cells slots) (hx : p.tables.exec = Jvm.exec) {Z : State} {a0 : Array Value} (hZ : Z.Warmed39 s.vm) {own : String} (hown : s.vm.findClass own = some m.cls) {C : String} {index : Nat} {h : Heap} {a : Addr} (hby : c.code = bytes) (hd : decode bytes pc = .ok (.checkcast index, 3)) (hp : pc + 3 = pc') (w : (Jvm.Cond.classLink own index C).before a0 Z = true) (eT : T.heap = h) (F : Ins Z h a C true)
    (K : ∀ T' : State, Stand p l e R s m args below meth c T' locs cells slots → T'.heap = h → GoE p e below Fi (T'.setTop (mkF m pc' Ls (.ref a :: rest)))) : GoE p e below Fi (T.setTop (mkF m pc Ls (.ref a :: rest))) := by
  subst hp
  obtain ⟨T2, X2, e2, st2⟩ := castY X hx hZ hown w eT F (g := mkF m pc Ls (.ref a :: rest)) rfl rfl (hb hby hd)
  exact (K T2 X2 e2).pull st2
theorem g_instY (X : Stand p l e R s m args below meth c T locs cells slots) (hx : p.tables.exec = Jvm.exec) {Z : State} {a0 : Array Value} (hZ : Z.Warmed39 s.vm) {own : String} (hown : s.vm.findClass own = some m.cls) {C : String} {index : Nat} {h : Heap} {a : Addr} (hby : c.code = bytes) (hd : decode bytes pc = .ok (.instanceof index, 3)) (hp : pc + 3 = pc') (w : (Jvm.Cond.classLink own index C).before a0 Z = true) (eT : T.heap = h) (F : Ins Z h a C true)
    (K : ∀ T' : State, Stand p l e R s m args below meth c T' locs cells slots → T'.heap = h → GoE p e below Fi (T'.setTop (mkF m pc' Ls (.int 1 :: rest)))) : GoE p e below Fi (T.setTop (mkF m pc Ls (.ref a :: rest))) := by
  subst hp
  obtain ⟨T2, X2, e2, st2⟩ := instY X hx hZ hown w eT F (g := mkF m pc Ls (.ref a :: rest)) rfl rfl (hb hby hd)
  exact (K T2 X2 e2).pull st2
theorem g_instNo (X : Stand p l e R s m args below meth c T locs cells slots) (hx : p.tables.exec = Jvm.exec) {Z : State} {a0 : Array Value} (hZ : Z.Warmed39 s.vm) {own : String} (hown : s.vm.findClass own = some m.cls) {C D : String} {index : Nat} {h : Heap} {a : Addr} (hby : c.code = bytes) (hd : decode bytes pc = .ok (.instanceof index, 3)) (hp : pc + 3 = pc') (w : (Jvm.Cond.classLink own index C).before a0 Z = true) (eT : T.heap = h) (E : Exa Z h a D) (F : ∃ c t, Z.vm.findClass D = some c ∧ Z.vm.findClass C = some t ∧ Z.vm.assignable c t = false)
    (K : ∀ T' : State, Stand p l e R s m args below meth c T' locs cells slots → T'.heap = h → GoE p e below Fi (T'.setTop (mkF m pc' Ls (.int 0 :: rest)))) : GoE p e below Fi (T.setTop (mkF m pc Ls (.ref a :: rest))) := by
  subst hp
  obtain ⟨T2, X2, e2, st2⟩ := instNo X hx hZ hown w eT E F (g := mkF m pc Ls (.ref a :: rest)) rfl rfl (hb hby hd)
  exact (K T2 X2 e2).pull st2
theorem g_callIf (X : Stand p l e R s m args below meth c T locs cells slots) (hx : p.tables.exec = Jvm.exec) {Z : State} {a0 : Array Value} (hZ : Z.Warmed39 s.vm) {own : String} (hown : s.vm.findClass own = some m.cls) {y : MethodName} {cb : ByteArray} {maxL : Nat} {ret : Option FieldType} {rm : Room} {as' : Array Value} {h : Heap} {Q' : Option Value → Heap → List Loc → Prop} {W : Nat} {index : Nat} {argsL : List Value} {b : Addr} {z : MethodName} {C0 : String} {count : Nat} (hby : c.code = bytes) (hd : decode bytes pc = .ok (.invokeinterface index count, 5)) (hp : pc + 5 = pc') (hml : Ls.size = c.maxLocals)
    (w1 : (Jvm.Cond.methodLink own index y).before a0 Z = true) (w2 : (Jvm.Cond.declares y).before a0 Z = true) (w7 : (Jvm.Cond.interfaceMethod y.cls y.cls y.name y.desc).before a0 Z = true) (hd7 : ((Jvm.Cond.interfaceMethod y.cls y.cls y.name y.desc).onTables && (Jvm.Cond.interfaceMethod y.cls y.cls y.name y.desc).keepsFace) = true) (w5 : (Jvm.Cond.selects C0 y z).before a0 Z = true) (w6 : (Jvm.Cond.instanceMethod z).before a0 Z = true) (w8 : (Jvm.Cond.publicMethod z).before a0 Z = true) (w9 : (Jvm.Cond.unhidden C0 y.name y.desc).before a0 Z = true) (w10 : (Jvm.Cond.castable C0 y.cls).before a0 Z = true) (w3 : (Jvm.Cond.initialized z.cls).before a0 Z = true) (w4 : (Jvm.Cond.code z cb maxL ret).before a0 Z = true) (hy : y.cls ≠ "java/lang/invoke/MethodHandle" ∧ y.cls ≠ "java/lang/invoke/VarHandle")
    (C : Ctr l Z z cb maxL ret [] rm as' h Q') (eT : T.heap = h) (E : Exa Z h b C0) (hfr : rm.frames + 1 ≤ R.frames) (hlo : W + (maxL + 11) + rm.locals ≤ R.locals) (hce : cells + rm.cells ≤ R.cells) (hsl : slots + rm.slots ≤ R.slots) {stk : List Value} {psig : MethodDescriptor} (has : (Value.ref b :: argsL).toArray = as') (hpd : parseMethodDescriptor y.desc = some psig) (hlen : argsL.length = psig.parameters.length) (hst : stk = argsL.reverse ++ Value.ref b :: rest) (hW : 2 * 0 + (rest.map fun v => v.category).sum ≤ W)
    (K : ∀ (v : Option Value) (T' : State) (L : List Loc), Stand p l e R s m args below meth c T' (locs ++ L) (cells + rm.cells) (slots + rm.slots) → Q' v T'.heap L → GoE p e below Fi (T'.setTop (mkF m pc' Ls (v.toList ++ rest)))) : GoE p e below Fi (T.setTop (mkF m pc Ls stk)) := by
  subst hp hst has
  obtain ⟨cq, kq, qa, qb, qc⟩ := isOf hZ eT E
  obtain ⟨v, _, ⟨T4, L4, k4, n4⟩, -, X4, ⟨Lc, hQ, l4, y4, z4⟩, st⟩ := X.interfaceBack hx (xi := y) (y := z) hown (mvT hZ w1) (mvT hZ w2) (mvT hZ w7 hd7) (mvT hZ w5) (mvT hZ w6) (mvT hZ w8) (mvT hZ w9) (mvT hZ w10) hy (backOf (W := W) C hZ w4 w3 hfr hlo) qa qb qc (g := mkF m pc Ls (argsL.reverse ++ Value.ref b :: rest)) rfl hml (Steps.refl _) (argsL := argsL) (rest := rest) (fun sig h => by rw [hpd] at h; cases h; exact hlen) rfl hW (hb hby hd) (fun _ _ => ⟨rfl, eT, hce, hsl⟩)
  dsimp only [Pt.U, Pt.locs, Pt.cells, Pt.slots] at X4 l4 y4 z4 st hQ
  subst l4 y4 z4
  exact (K v T4 Lc X4 hQ).pull fun t k => st.trans k
theorem g_anewarrayA (X : Stand p l e R s m args below meth c T locs cells slots) (hx : p.tables.exec = Jvm.exec) {Z : State} {a0 : Array Value} (hZ : Z.Warmed39 s.vm) {own : String} (hown : s.vm.findClass own = some m.cls) {C : String} {ty : FieldType} {index : Nat} {h : Heap} {n : Int32} (cap : Nat) (ad : String) (hby : c.code = bytes) (hd : decode bytes pc = .ok (.anewarray index, 3)) (hp : pc + 3 = pc') (hC : (FieldType.array ty).toString = C) (w1 : (Jvm.Cond.classLink own index C).before a0 Z = true) (w2 : (Jvm.Cond.arrayOver (.array ty)).before a0 Z = true) (eT : T.heap = h) (hn : ¬ n < 0) (hcap : n.toNatClampNeg ≤ cap) (hbg : cap * 8 ≤ 536870912) (hce : cells + 1 ≤ R.cells) (hsl : slots + cap ≤ R.slots) (had : "[" ++ C = ad)
    (K : ∀ (T' : State) (b : Addr) (cA : ClassId), b = h.size → Stand p l e R s m args below meth c T' locs (cells + 1) (slots + cap) → Ext h T'.heap → Arv Z T'.heap b cA (.array ty) n (List.replicate cap .null) .null → Exa Z T'.heap b ad → OvrA Z cA ty C → GoE p e below Fi (T'.setTop (mkF m pc' Ls (.ref b :: rest)))) : GoE p e below Fi (T.setTop (mkF m pc Ls (.int n :: rest))) := by
  subst hp
  obtain ⟨T2, h2, cA, X2, e2, E2, A2, Ex2, O2, st2⟩ := newRA X hx hZ hown hC w1 w2 eT (g := mkF m pc Ls (.int n :: rest)) rfl (hb hby hd) rfl hn hcap hbg hce hsl had
  subst e2
  exact (K T2 _ cA rfl X2 E2 ((Arv.new A2 hn).pad (pad_rep [] _ cap)) Ex2 O2).pull st2
theorem g_aastore (X : Stand p l e R s m args below meth c T locs cells slots) (hx : p.tables.exec = Jvm.exec) {Z : State} (hZ : Z.Warmed39 s.vm) {h : Heap} {a : Addr} {k : ClassId} {n : Int32} {vs : List Value} {dv : Value} {ty : FieldType} {j : Int32} {v : Value} (i : Nat) (hby : c.code = bytes) (hd : decode bytes pc = .ok (.aastore, 1)) (hp : pc + 1 = pc') (eT : T.heap = h) (F : Arv Z h a k ty n vs dv) (hty : ty.isReference = true) (hS : ∀ cl : Cell, Arr Z h a cl ty → cl.cls = k → Sto Z h a v) (hfv : fits ty v = true) (hj : ¬ j < 0 ∧ j < n) (hji : j.toNatClampNeg = i) (hi : i < vs.length)
    (K : ∀ T' : State, Stand p l e R s m args below meth c T' (locs ++ [⟨a, j.toNatClampNeg⟩]) cells slots → Wr h T'.heap a j.toNatClampNeg v → Arv Z T'.heap a k ty n (vs.set i v) dv → GoE p e below Fi (T'.setTop (mkF m pc' Ls rest))) : GoE p e below Fi (T.setTop (mkF m pc Ls (v :: .int j :: .ref a :: rest))) := by
  subst hp
  obtain ⟨cl, A, q1, S, q3, Hh, G⟩ := F
  obtain ⟨T2, h2, X2, e2, W2, st2⟩ := stR X hx hZ eT A (inb_of S hj) hty (hS cl A q1) (g := mkF m pc Ls (v :: .int j :: .ref a :: rest)) rfl rfl (hb hby hd)
  subst e2
  exact (K T2 X2 W2 (Arv.set A q1 S q3 Hh G hfv W2 i hji hi)).pull st2
theorem g_eqI {a b : Int32} (h : a = b) (K : GoE p e below Fi (T.setTop (mkF m pc Ls (.int b :: rest)))) : GoE p e below Fi (T.setTop (mkF m pc Ls (.int a :: rest))) := h ▸ K
theorem g_eqL {a b : Int64} (h : a = b) (K : GoE p e below Fi (T.setTop (mkF m pc Ls (.long b :: rest)))) : GoE p e below Fi (T.setTop (mkF m pc Ls (.long a :: rest))) := h ▸ K
theorem g_newarrayV (X : Stand p l e R s m args below meth c T locs cells slots) (hx : p.tables.exec = Jvm.exec) {Z : State} {a0 : Array Value} (hZ : Z.Warmed39 s.vm) {aty : ArrayType} {h : Heap} {n : Int32} (cap vc : Nat) (ad : String) (hby : c.code = bytes) (hd : decode bytes pc = .ok (.newarray aty, 2)) (hp : pc + 2 = pc') (w : (Jvm.Cond.arrayClass (newarray.typeOf aty)).before a0 Z = true) (eT : T.heap = h) (hn : ¬ n < 0) (hcap : n.toNatClampNeg ≤ cap) (hbg : cap * 8 ≤ 536870912) (hce : cells + 1 ≤ R.cells) (hsl : slots + cap ≤ R.slots) (had : "[" ++ (newarray.typeOf aty).toString = ad)
    (K : ∀ (T' : State) (b : Addr) (cA : ClassId), b = h.size → Stand p l e R s m args below meth c T' locs (cells + 1) (slots + cap) → Ext h T'.heap → Arv Z T'.heap b cA (newarray.typeOf aty) n (List.replicate vc (defaultValue (newarray.typeOf aty))) (defaultValue (newarray.typeOf aty)) → Exa Z T'.heap b ad → GoE p e below Fi (T'.setTop (mkF m pc' Ls (.ref b :: rest)))) : GoE p e below Fi (T.setTop (mkF m pc Ls (.int n :: rest))) := by
  subst hp
  obtain ⟨T2, h2, cA, X2, e2, E2, A2, Ex2, st2⟩ := newPE X hx hZ w eT (g := mkF m pc Ls (.int n :: rest)) rfl (hb hby hd) rfl hn hcap hbg hce hsl had
  subst e2
  exact (K T2 _ cA rfl X2 E2 ((Arv.new A2 hn).pad (pad_rep [] _ vc)) Ex2).pull st2
theorem g_arraycopy (X : Stand p l e R s m args below meth c T locs cells slots) (hx : p.tables.exec = Jvm.exec) {Z : State} {a0 : Array Value} (hZ : Z.Warmed39 s.vm) {own : String} (hown : s.vm.findClass own = some m.cls) {index : Nat} {h : Heap} {a b : Addr} {k k' : ClassId} {ty : FieldType} {n z' sp dp nn : Int32} {vs vd us : List Value} {dv dd : Value} {W n0 : Nat} (hby : c.code = bytes) (hd : decode bytes pc = .ok (.invokestatic index, 3)) (hp : pc + 3 = pc') (hml : Ls.size = c.maxLocals)
    (w1 : (Jvm.Cond.methodLink own index Jvm.Stand.acN).before a0 Z = true) (w2 : (Jvm.Cond.native Jvm.Stand.acN).before a0 Z = true) (w3 : (Jvm.Cond.static Jvm.Stand.acN).before a0 Z = true) (w4 : (Jvm.Cond.initialized "java/lang/System").before a0 Z = true) (eT : T.heap = h) (A : Arv Z h a k ty n vs dv) (B : Arv Z h b k' ty z' vd dd) (hr : refKind ty = false)
    (h1 : ¬ sp < 0) (h2 : ¬ dp < 0) (h3 : ¬ nn < 0) (h4 : sp.toNatClampNeg + nn.toNatClampNeg ≤ n.toNatClampNeg) (h5 : dp.toNatClampNeg + nn.toNatClampNeg ≤ z'.toNatClampNeg) (hus : us = (List.range nn.toNatClampNeg).map fun i => vs.getD (sp.toNatClampNeg + i) dv) (hl : dp.toNatClampNeg + nn.toNatClampNeg ≤ vd.length) (N : Fr n0 locs) (ge : n0 ≤ b)
    (hf : 1 ≤ R.frames) (hW : 2 * 0 + (rest.map fun v => v.category).sum ≤ W) (hlo : W + (nativeFrameWords "java/lang/System" "arraycopy" 5 + 11) ≤ R.locals)
    (K : ∀ (T' : State) (L : List Loc), Stand p l e R s m args below meth c T' L cells slots → Fr n0 L → Keep h T'.heap [b] → Arv Z T'.heap b k' ty z' (vd.take dp.toNatClampNeg ++ us ++ vd.drop (dp.toNatClampNeg + nn.toNatClampNeg)) dd → GoE p e below Fi (T'.setTop (mkF m pc' Ls rest))) : GoE p e below Fi (T.setTop (mkF m pc Ls (.int nn :: .int dp :: .ref b :: .int sp :: .ref a :: rest))) := by
  subst hp
  obtain ⟨T2, h2', L2, X2, e2, N2, K2, A2, st2⟩ := cpA X hx hZ hown w1 w2 w3 w4 eT A B (Or.inl ⟨rfl, hr⟩) h1 h2 h3 h4 h5 hus hl N ge (g := mkF m pc Ls (.int nn :: .int dp :: .ref b :: .int sp :: .ref a :: rest)) rfl hml rfl (hb hby hd) hf hW hlo
  subst e2
  exact (K T2 L2 X2 N2 K2 A2).pull st2
end GoKit
def MX : Int64 := 9223372036854775807
def timesL (a b : Int64) : Int64 := if b = 0 then a * b else if (9223372036854775807 : Int64) / b < a then 9223372036854775807 else a * b
def mL (a b : Int64) : Int64 := ushrL a 32 * (b &&& 4294967295) + (a &&& 4294967295) * ushrL b 32
def pL (a b : Int64) : Int64 := (a &&& 4294967295) * (b &&& 4294967295)
def hiL (a b : Int64) : Int64 := mL a b + ushrL (pL a b) 32
def loL (a b : Int64) : Int64 := pL a b &&& 4294967295
def outL (a b : Int64) : Int64 := (hiL a b <<< ((32 : Int32).toInt64 &&& 63)) ||| loL a b
def restL (a b : Int64) : Int64 := if mL a b < 2147483648 then (if hiL a b < 2147483648 then outL a b else 9223372036854775807) else 9223372036854775807
def expL (a b : Int64) : Int64 := if ushrL a 32 = 0 then restL a b else if ushrL b 32 = 0 then restL a b else 9223372036854775807
theorem own_ushr (x : Int64) : (ushrL x 32).toInt = (x.toInt % 18446744073709551616) / 4294967296 := by
  have h := c_lushr x 32 32 (by decide) (by decide)
  have e : ushrL x 32 = (x.toUInt64 >>> ((32 : Int32) &&& 0x3f).toInt64.toUInt64).toInt64 := by
    have e1 : ((32 : Int32).toInt64.toUInt64 &&& Int64.toUInt64 63) = ((32 : Int32) &&& 0x3f).toInt64.toUInt64 := by decide
    unfold ushrL; rw [e1]
  rw [e, h]; rfl
theorem own_lo (x : Int64) : (x &&& 4294967295).toInt = x.toInt % 4294967296 := by
  have h := c_maskL x 4294967295 32 (by decide) (by decide)
  rw [h]; rfl
theorem own_shl (x : Int64) : ((x <<< ((32 : Int32).toInt64 &&& 63)).toInt - x.toInt * 4294967296) % 18446744073709551616 = 0 := by
  have h := c_lshl x 32 32 (by decide)
  have e1 : ((32 : Int32).toInt64 &&& 63) = ((32 : Int32) &&& 0x3f).toInt64 := by decide
  rw [e1]; exact h
theorem own_nn (x : Int64) (k : Int32) : 0 ≤ (ushrL (x &&& 9223372036854775807) k).toInt := by
  have hm := c_maskL x 9223372036854775807 63 (by decide) (by decide)
  have hr := rng64 x
  have h0 : 0 ≤ (x &&& 9223372036854775807).toInt := by rw [hm]; omega
  generalize x &&& 9223372036854775807 = y at *
  have hb : (ushrL y k).toBitVec = y.toBitVec >>> (k.toInt64.toUInt64 &&& Int64.toUInt64 63).toBitVec.toNat % 64 ∨ True := Or.inr trivial
  have hy : y.toBitVec.toNat < 2 ^ 63 := by
    have := Int64.toInt_toBitVec y
    rw [← Int64.toInt_toBitVec] at h0
    rw [BitVec.toInt_eq_toNat_cond] at h0
    split at h0 <;> omega
  have hz : (ushrL y k).toBitVec.toNat ≤ y.toBitVec.toNat := by
    unfold ushrL
    simp only [UInt64.toBitVec_toInt64, UInt64.toBitVec_shiftRight, Int64.toBitVec_toUInt64]
    simp only [BitVec.toNat_ushiftRight, BitVec.ushiftRight_eq', Nat.shiftRight_eq_div_pow]
    exact Nat.div_le_self _ _
  rw [← Int64.toInt_toBitVec, BitVec.toInt_eq_toNat_cond]
  split <;> omega
def sat (P : Int) : Int := if P < 9223372036854775808 then P else 9223372036854775807
theorem own_T (a b : Int64) (ha : 0 ≤ a.toInt) (hb : 0 ≤ b.toInt) : (timesL a b).toInt = sat (a.toInt * b.toInt) := by
  have hm := c_lmul a b
  have rm := rng64 (a * b)
  have hp : 0 ≤ a.toInt * b.toInt := Int.mul_nonneg ha hb
  unfold timesL sat
  by_cases h0 : b = 0
  · subst h0
    rw [if_pos rfl]
    have e : (0 : Int64).toInt = 0 := rfl
    rw [e, Int.mul_zero] at hm ⊢
    rw [if_pos (by omega)]; omega
  · have hb' : 0 < b.toInt := by
      have : b.toInt ≠ 0 := fun q => h0 (Int64.toInt_inj.mp q)
      omega
    rw [if_neg h0]
    have hd := (c_ldiv 9223372036854775807 b b.toInt rfl (fun q => by rw [q] at hb'; revert hb'; decide)).1 (by decide)
    have e : (9223372036854775807 : Int64).toInt = 9223372036854775807 := rfl
    rw [e] at hd
    have key : ((9223372036854775807 : Int64) / b < a) ↔ 9223372036854775807 < a.toInt * b.toInt := by
      rw [Int64.lt_iff_toInt_lt, hd]; exact Int.ediv_lt_iff_lt_mul hb'
    by_cases h1 : (9223372036854775807 : Int64) / b < a
    · rw [if_pos h1]; have := key.mp h1; rw [if_neg (by omega)]; rfl
    · rw [if_neg h1]; have : ¬ (9223372036854775807 < a.toInt * b.toInt) := fun q => h1 (key.mpr q)
      rw [if_pos (by omega)]; omega
theorem own_hl {x h l : Int} (h1 : h = x / 4294967296) (h2 : l = x % 4294967296) : x = h * 4294967296 + l := by omega
theorem own_prod (ah al bh bl : Int) : (ah * 4294967296 + al) * (bh * 4294967296 + bl) = ah * bh * 18446744073709551616 + (ah * bl + al * bh) * 4294967296 + al * bl := by
  have e : (18446744073709551616 : Int) = 4294967296 * 4294967296 := rfl
  rw [e]
  simp only [Int.add_mul, Int.mul_add]
  have h1 : ah * 4294967296 * (bh * 4294967296) = ah * bh * (4294967296 * 4294967296) := by
    rw [Int.mul_assoc, Int.mul_assoc, ← Int.mul_assoc 4294967296 bh, Int.mul_comm 4294967296 bh, Int.mul_assoc bh]
  have h2 : ah * 4294967296 * bl = ah * bl * 4294967296 := by rw [Int.mul_assoc, Int.mul_comm 4294967296 bl, Int.mul_assoc]
  have h3 : al * (bh * 4294967296) = al * bh * 4294967296 := by rw [Int.mul_assoc]
  rw [h1, h2, h3]; omega
theorem own_R (a b : Int64) (ha : 0 ≤ a.toInt) (hb : 0 ≤ b.toInt) (hz : (ushrL a 32).toInt = 0 ∨ (ushrL b 32).toInt = 0) : (restL a b).toInt = sat (a.toInt * b.toInt) := by
  have ra := rng64 a
  have rb := rng64 b
  have u1 := own_ushr a
  have u2 := own_ushr b
  have l1 := own_lo a
  have l2 := own_lo b
  have sa : a.toInt = (ushrL a 32).toInt * 4294967296 + (a &&& 4294967295).toInt := by omega
  have sb : b.toInt = (ushrL b 32).toInt * 4294967296 + (b &&& 4294967295).toInt := by omega
  have bah : 0 ≤ (ushrL a 32).toInt ∧ (ushrL a 32).toInt ≤ 2147483647 := by omega
  have bbh : 0 ≤ (ushrL b 32).toInt ∧ (ushrL b 32).toInt ≤ 2147483647 := by omega
  have bal : 0 ≤ (a &&& 4294967295).toInt ∧ (a &&& 4294967295).toInt ≤ 4294967295 := by omega
  have bbl : 0 ≤ (b &&& 4294967295).toInt ∧ (b &&& 4294967295).toInt ≤ 4294967295 := by omega
  have hP := own_prod (ushrL a 32).toInt (a &&& 4294967295).toInt (ushrL b 32).toInt (b &&& 4294967295).toInt
  rw [← sa, ← sb] at hP
  have m1 := c_lmul (ushrL a 32) (b &&& 4294967295)
  have m2 := c_lmul (a &&& 4294967295) (ushrL b 32)
  have m3 := c_ladd (ushrL a 32 * (b &&& 4294967295)) ((a &&& 4294967295) * ushrL b 32)
  have m4 := c_lmul (a &&& 4294967295) (b &&& 4294967295)
  have r1 := rng64 (ushrL a 32 * (b &&& 4294967295))
  have r2 := rng64 ((a &&& 4294967295) * ushrL b 32)
  have r3 := rng64 (ushrL a 32 * (b &&& 4294967295) + (a &&& 4294967295) * ushrL b 32)
  have q1 := mc bah.1 bah.2 bbl.1 bbl.2
  have q2 := mc bal.1 bal.2 bbh.1 bbh.2
  have q3 := mc bal.1 bal.2 bbl.1 bbl.2
  have z0 : (ushrL a 32).toInt * (ushrL b 32).toInt = 0 := by rcases hz with h | h <;> simp [h]
  have z1 : (ushrL a 32).toInt * (b &&& 4294967295).toInt = 0 ∨ (a &&& 4294967295).toInt * (ushrL b 32).toInt = 0 := by rcases hz with h | h <;> simp [h]
  have hM : (mL a b).toInt = (ushrL a 32).toInt * (b &&& 4294967295).toInt + (a &&& 4294967295).toInt * (ushrL b 32).toInt := by
    unfold mL; omega
  have hMp : 0 ≤ (mL a b).toInt := by rw [hM]; omega
  have e31 : (2147483648 : Int64).toInt = 2147483648 := rfl
  have hpp : (pL a b).toInt % 18446744073709551616 = (a &&& 4294967295).toInt * (b &&& 4294967295).toInt := by
    unfold pL; omega
  have u3 := own_ushr (pL a b)
  have l3 := own_lo (pL a b)
  have m5 := c_ladd (mL a b) (ushrL (pL a b) 32)
  have r5 := rng64 (mL a b + ushrL (pL a b) 32)
  have rm := rng64 (mL a b)
  rw [z0] at hP
  generalize hpi : (a &&& 4294967295).toInt * (b &&& 4294967295).toInt = pi at *
  have hP2 : a.toInt * b.toInt = (mL a b).toInt * 4294967296 + pi := by rw [hP, hM]; omega
  unfold restL sat
  rw [hP2]
  by_cases c1 : mL a b < 2147483648
  · rw [if_pos c1]
    rw [Int64.lt_iff_toInt_lt, e31] at c1
    have hH : (hiL a b).toInt = (mL a b).toInt + pi / 4294967296 := by unfold hiL; omega
    by_cases c2 : hiL a b < 2147483648
    · rw [if_pos c2]
      rw [Int64.lt_iff_toInt_lt, e31, hH] at c2
      have s1 := own_shl (hiL a b)
      have rs := rng64 (hiL a b <<< ((32 : Int32).toInt64 &&& 63))
      have hs : (hiL a b <<< ((32 : Int32).toInt64 &&& 63)).toInt = ((mL a b).toInt + pi / 4294967296) * 4294967296 := by rw [hH] at s1; omega
      have hlo : (loL a b).toInt = pi % 4294967296 := by unfold loL; omega
      have ho := c_orL (hiL a b <<< ((32 : Int32).toInt64 &&& 63)) (loL a b) 32 (by decide) 4294967296 rfl (by rw [hs]; omega) (by omega) (by omega)
      have ro := rng64 ((hiL a b <<< ((32 : Int32).toInt64 &&& 63)) ||| loL a b)
      rw [if_pos (by omega)]
      unfold outL; omega
    · rw [if_neg c2]
      rw [Int64.lt_iff_toInt_lt, e31, hH] at c2
      rw [if_neg (by omega)]; rfl
  · rw [if_neg c1]
    rw [Int64.lt_iff_toInt_lt, e31] at c1
    rw [if_neg (by omega)]; rfl
theorem own_E (a b : Int64) (ha : 0 ≤ a.toInt) (hb : 0 ≤ b.toInt) : (expL a b).toInt = sat (a.toInt * b.toInt) := by
  unfold expL
  by_cases c1 : ushrL a 32 = 0
  · rw [if_pos c1]; exact own_R a b ha hb (Or.inl (by rw [c1]; rfl))
  · rw [if_neg c1]
    by_cases c2 : ushrL b 32 = 0
    · rw [if_pos c2]; exact own_R a b ha hb (Or.inr (by rw [c2]; rfl))
    · rw [if_neg c2]
      have u1 := own_ushr a
      have u2 := own_ushr b
      have ra := rng64 a
      have rb := rng64 b
      have d1 : (ushrL a 32).toInt ≠ 0 := fun q => c1 (Int64.toInt_inj.mp q)
      have d2 : (ushrL b 32).toInt ≠ 0 := fun q => c2 (Int64.toInt_inj.mp q)
      have g1 : 4294967296 ≤ a.toInt := by omega
      have g2 : 4294967296 ≤ b.toInt := by omega
      have g3 : (4294967296 : Int) * 4294967296 ≤ a.toInt * b.toInt := Int.mul_le_mul g1 g2 (by omega) ha
      unfold sat; rw [if_neg (by omega)]; rfl
theorem own_eq (a b : Int64) (ha : 0 ≤ a.toInt) (hb : 0 ≤ b.toInt) : timesL a b = expL a b :=
  Int64.toInt_inj.mp ((own_T a b ha hb).trans (own_E a b ha hb).symm)
theorem w_0 {Z : State} {a0 : Array Value} (hw : ∀ d ∈ tables_1, d.before a0 Z = true) : (Jvm.Cond.constantLong "com/example/nittei/nittei/HeapRoomTimesPinLaw" (9 : Nat) (9223372036854775807 : Int64)).before a0 Z = true := hw _ (List.mem_of_getElem? (i := 0) rfl)
theorem w_1 {Z : State} {a0 : Array Value} (hw : ∀ d ∈ tables_1, d.before a0 Z = true) : (Jvm.Cond.methodLink "com/example/nittei/nittei/HeapRoomTimesPinLaw" (11 : Nat) ({ cls := "com/example/nittei/nittei/HeapRoom", name := "times", desc := "(JJ)J" } : Jvm.MethodName)).before a0 Z = true := hw _ (List.mem_of_getElem? (i := 1) rfl)
theorem w_2 {Z : State} {a0 : Array Value} (hw : ∀ d ∈ tables_1, d.before a0 Z = true) : (Jvm.Cond.static ({ cls := "com/example/nittei/nittei/HeapRoom", name := "times", desc := "(JJ)J" } : Jvm.MethodName)).before a0 Z = true := hw _ (List.mem_of_getElem? (i := 2) rfl)
theorem w_3 {Z : State} {a0 : Array Value} (hw : ∀ d ∈ tables_1, d.before a0 Z = true) : (Jvm.Cond.initialized "com/example/nittei/nittei/HeapRoom").before a0 Z = true := hw _ (List.mem_of_getElem? (i := 3) rfl)
theorem w_4 {Z : State} {a0 : Array Value} (hw : ∀ d ∈ tables_1, d.before a0 Z = true) : (Jvm.Cond.code ({ cls := "com/example/nittei/nittei/HeapRoom", name := "times", desc := "(JJ)J" } : Jvm.MethodName) prog_6_method_4_code (4 : Nat) (Option.some Jvm.ClassFile.FieldType.long)).before a0 Z = true := hw _ (List.mem_of_getElem? (i := 4) rfl)
theorem w_5 {Z : State} {a0 : Array Value} (hw : ∀ d ∈ tables_1, d.before a0 Z = true) : (Jvm.Cond.constantLong "com/example/nittei/nittei/HeapRoom" (57 : Nat) (9223372036854775807 : Int64)).before a0 Z = true := hw _ (List.mem_of_getElem? (i := 5) rfl)
theorem w_6 {Z : State} {a0 : Array Value} (hw : ∀ d ∈ tables_1, d.before a0 Z = true) : (Jvm.Cond.methodLink "com/example/nittei/nittei/HeapRoomTimesPinLaw" (17 : Nat) ({ cls := "com/example/nittei/nittei/HeapRoomTimesPinLaw", name := "expected", desc := "(JJ)J" } : Jvm.MethodName)).before a0 Z = true := hw _ (List.mem_of_getElem? (i := 6) rfl)
theorem w_7 {Z : State} {a0 : Array Value} (hw : ∀ d ∈ tables_1, d.before a0 Z = true) : (Jvm.Cond.static ({ cls := "com/example/nittei/nittei/HeapRoomTimesPinLaw", name := "expected", desc := "(JJ)J" } : Jvm.MethodName)).before a0 Z = true := hw _ (List.mem_of_getElem? (i := 7) rfl)
theorem w_8 {Z : State} {a0 : Array Value} (hw : ∀ d ∈ tables_1, d.before a0 Z = true) : (Jvm.Cond.initialized "com/example/nittei/nittei/HeapRoomTimesPinLaw").before a0 Z = true := hw _ (List.mem_of_getElem? (i := 8) rfl)
theorem w_9 {Z : State} {a0 : Array Value} (hw : ∀ d ∈ tables_1, d.before a0 Z = true) : (Jvm.Cond.code ({ cls := "com/example/nittei/nittei/HeapRoomTimesPinLaw", name := "expected", desc := "(JJ)J" } : Jvm.MethodName) method_3_code (22 : Nat) (Option.some Jvm.ClassFile.FieldType.long)).before a0 Z = true := hw _ (List.mem_of_getElem? (i := 9) rfl)
theorem w_10 {Z : State} {a0 : Array Value} (hw : ∀ d ∈ tables_1, d.before a0 Z = true) : (Jvm.Cond.constantLong "com/example/nittei/nittei/HeapRoomTimesPinLaw" (22 : Nat) (4294967295 : Int64)).before a0 Z = true := hw _ (List.mem_of_getElem? (i := 10) rfl)
theorem w_11 {Z : State} {a0 : Array Value} (hw : ∀ d ∈ tables_1, d.before a0 Z = true) : (Jvm.Cond.constantLong "com/example/nittei/nittei/HeapRoomTimesPinLaw" (24 : Nat) (2147483648 : Int64)).before a0 Z = true := hw _ (List.mem_of_getElem? (i := 11) rfl)
theorem d1_0 : decode prog_6_method_4_code 0 = .ok (.lload_n 2, 1) := by decide +kernel
theorem d1_1 : decode prog_6_method_4_code 1 = .ok (.lconst 0, 1) := by decide +kernel
theorem d1_2 : decode prog_6_method_4_code 2 = .ok (.lcmp, 1) := by decide +kernel
theorem d1_3 : decode prog_6_method_4_code 3 = .ok (.ifCond .eq 19, 3) := by decide +kernel
theorem d1_6 : decode prog_6_method_4_code 6 = .ok (.lload_n 0, 1) := by decide +kernel
theorem d1_7 : decode prog_6_method_4_code 7 = .ok (.ldc2_w 57, 3) := by decide +kernel
theorem d1_10 : decode prog_6_method_4_code 10 = .ok (.lload_n 2, 1) := by decide +kernel
theorem d1_11 : decode prog_6_method_4_code 11 = .ok (.ldiv, 1) := by decide +kernel
theorem d1_12 : decode prog_6_method_4_code 12 = .ok (.lcmp, 1) := by decide +kernel
theorem d1_13 : decode prog_6_method_4_code 13 = .ok (.ifCond .le 9, 3) := by decide +kernel
theorem d1_16 : decode prog_6_method_4_code 16 = .ok (.ldc2_w 57, 3) := by decide +kernel
theorem d1_19 : decode prog_6_method_4_code 19 = .ok (.goto 6, 3) := by decide +kernel
theorem d1_22 : decode prog_6_method_4_code 22 = .ok (.lload_n 0, 1) := by decide +kernel
theorem d1_23 : decode prog_6_method_4_code 23 = .ok (.lload_n 2, 1) := by decide +kernel
theorem d1_24 : decode prog_6_method_4_code 24 = .ok (.lmul, 1) := by decide +kernel
theorem d1_25 : decode prog_6_method_4_code 25 = .ok (.lreturn, 1) := by decide +kernel
theorem d2_0 : decode method_3_code 0 = .ok (.ldc2_w 22, 3) := by decide +kernel
theorem d2_3 : decode method_3_code 3 = .ok (.lstore 4, 2) := by decide +kernel
theorem d2_5 : decode method_3_code 5 = .ok (.lload_n 0, 1) := by decide +kernel
theorem d2_6 : decode method_3_code 6 = .ok (.bipush 32, 2) := by decide +kernel
theorem d2_8 : decode method_3_code 8 = .ok (.lushr, 1) := by decide +kernel
theorem d2_9 : decode method_3_code 9 = .ok (.lstore 6, 2) := by decide +kernel
theorem d2_11 : decode method_3_code 11 = .ok (.lload_n 0, 1) := by decide +kernel
theorem d2_12 : decode method_3_code 12 = .ok (.lload 4, 2) := by decide +kernel
theorem d2_14 : decode method_3_code 14 = .ok (.land, 1) := by decide +kernel
theorem d2_15 : decode method_3_code 15 = .ok (.lstore 8, 2) := by decide +kernel
theorem d2_17 : decode method_3_code 17 = .ok (.lload_n 2, 1) := by decide +kernel
theorem d2_18 : decode method_3_code 18 = .ok (.bipush 32, 2) := by decide +kernel
theorem d2_20 : decode method_3_code 20 = .ok (.lushr, 1) := by decide +kernel
theorem d2_21 : decode method_3_code 21 = .ok (.lstore 10, 2) := by decide +kernel
theorem d2_23 : decode method_3_code 23 = .ok (.lload_n 2, 1) := by decide +kernel
theorem d2_24 : decode method_3_code 24 = .ok (.lload 4, 2) := by decide +kernel
theorem d2_26 : decode method_3_code 26 = .ok (.land, 1) := by decide +kernel
theorem d2_27 : decode method_3_code 27 = .ok (.lstore 12, 2) := by decide +kernel
theorem d2_29 : decode method_3_code 29 = .ok (.lload 6, 2) := by decide +kernel
theorem d2_31 : decode method_3_code 31 = .ok (.lconst 0, 1) := by decide +kernel
theorem d2_32 : decode method_3_code 32 = .ok (.lcmp, 1) := by decide +kernel
theorem d2_33 : decode method_3_code 33 = .ok (.ifCond .eq 14, 3) := by decide +kernel
theorem d2_36 : decode method_3_code 36 = .ok (.lload 10, 2) := by decide +kernel
theorem d2_38 : decode method_3_code 38 = .ok (.lconst 0, 1) := by decide +kernel
theorem d2_39 : decode method_3_code 39 = .ok (.lcmp, 1) := by decide +kernel
theorem d2_40 : decode method_3_code 40 = .ok (.ifCond .eq 7, 3) := by decide +kernel
theorem d2_43 : decode method_3_code 43 = .ok (.ldc2_w 9, 3) := by decide +kernel
theorem d2_46 : decode method_3_code 46 = .ok (.lreturn, 1) := by decide +kernel
theorem d2_47 : decode method_3_code 47 = .ok (.lload 6, 2) := by decide +kernel
theorem d2_49 : decode method_3_code 49 = .ok (.lload 12, 2) := by decide +kernel
theorem d2_51 : decode method_3_code 51 = .ok (.lmul, 1) := by decide +kernel
theorem d2_52 : decode method_3_code 52 = .ok (.lload 8, 2) := by decide +kernel
theorem d2_54 : decode method_3_code 54 = .ok (.lload 10, 2) := by decide +kernel
theorem d2_56 : decode method_3_code 56 = .ok (.lmul, 1) := by decide +kernel
theorem d2_57 : decode method_3_code 57 = .ok (.ladd, 1) := by decide +kernel
theorem d2_58 : decode method_3_code 58 = .ok (.lstore 14, 2) := by decide +kernel
theorem d2_60 : decode method_3_code 60 = .ok (.lload 14, 2) := by decide +kernel
theorem d2_62 : decode method_3_code 62 = .ok (.ldc2_w 24, 3) := by decide +kernel
theorem d2_65 : decode method_3_code 65 = .ok (.lcmp, 1) := by decide +kernel
theorem d2_66 : decode method_3_code 66 = .ok (.ifCond .lt 7, 3) := by decide +kernel
theorem d2_69 : decode method_3_code 69 = .ok (.ldc2_w 9, 3) := by decide +kernel
theorem d2_72 : decode method_3_code 72 = .ok (.lreturn, 1) := by decide +kernel
theorem d2_73 : decode method_3_code 73 = .ok (.lload 8, 2) := by decide +kernel
theorem d2_75 : decode method_3_code 75 = .ok (.lload 12, 2) := by decide +kernel
theorem d2_77 : decode method_3_code 77 = .ok (.lmul, 1) := by decide +kernel
theorem d2_78 : decode method_3_code 78 = .ok (.lstore 16, 2) := by decide +kernel
theorem d2_80 : decode method_3_code 80 = .ok (.lload 14, 2) := by decide +kernel
theorem d2_82 : decode method_3_code 82 = .ok (.lload 16, 2) := by decide +kernel
theorem d2_84 : decode method_3_code 84 = .ok (.bipush 32, 2) := by decide +kernel
theorem d2_86 : decode method_3_code 86 = .ok (.lushr, 1) := by decide +kernel
theorem d2_87 : decode method_3_code 87 = .ok (.ladd, 1) := by decide +kernel
theorem d2_88 : decode method_3_code 88 = .ok (.lstore 18, 2) := by decide +kernel
theorem d2_90 : decode method_3_code 90 = .ok (.lload 16, 2) := by decide +kernel
theorem d2_92 : decode method_3_code 92 = .ok (.lload 4, 2) := by decide +kernel
theorem d2_94 : decode method_3_code 94 = .ok (.land, 1) := by decide +kernel
theorem d2_95 : decode method_3_code 95 = .ok (.lstore 20, 2) := by decide +kernel
theorem d2_97 : decode method_3_code 97 = .ok (.lload 18, 2) := by decide +kernel
theorem d2_99 : decode method_3_code 99 = .ok (.ldc2_w 24, 3) := by decide +kernel
theorem d2_102 : decode method_3_code 102 = .ok (.lcmp, 1) := by decide +kernel
theorem d2_103 : decode method_3_code 103 = .ok (.ifCond .ge 12, 3) := by decide +kernel
theorem d2_106 : decode method_3_code 106 = .ok (.lload 18, 2) := by decide +kernel
theorem d2_108 : decode method_3_code 108 = .ok (.bipush 32, 2) := by decide +kernel
theorem d2_110 : decode method_3_code 110 = .ok (.lshl, 1) := by decide +kernel
theorem d2_111 : decode method_3_code 111 = .ok (.lload 20, 2) := by decide +kernel
theorem d2_113 : decode method_3_code 113 = .ok (.lor, 1) := by decide +kernel
theorem d2_114 : decode method_3_code 114 = .ok (.lreturn, 1) := by decide +kernel
theorem d2_115 : decode method_3_code 115 = .ok (.ldc2_w 9, 3) := by decide +kernel
theorem d2_118 : decode method_3_code 118 = .ok (.lreturn, 1) := by decide +kernel
theorem pd__28JJ_29J : parseMethodDescriptor "(JJ)J" = some ⟨[.long, .long], some .long⟩ := by decide +kernel
theorem ef_rm1 (q1 : Int64) (q2 : Int64) (m : MethodId) : entryFrame m #[.long q1, .long q2] 4 = mkF m 0 #[.val (.long q1), .second, .val (.long q2), .second] [] := by
  first | (simp [entryFrame, mkF, argsToLocals, Value.category]; done) | rfl
theorem pn_rm1 : plainName "com/example/nittei/nittei/HeapRoom" = true := by first | (simp [plainName, overriddenIn]; done) | decide +kernel
set_option maxRecDepth 65536 in
set_option maxHeartbeats 40000000 in
theorem rm1 (l : Launch) (Z : State) (a0 : Array Value) (hw : ∀ d ∈ tables_1, d.before a0 Z = true) (ws : List Jvm.Cond) (q1 : Int64) (q2 : Int64) (h0 : Heap) (n0 : Nat)  :
    Ctr l Z ({ cls := "com/example/nittei/nittei/HeapRoom", name := "times", desc := "(JJ)J" } : Jvm.MethodName) prog_6_method_4_code 4 (some .long) ws ({ frames := 0, cells := 0, slots := 0, locals := 0 } : Room) #[.long q1, .long q2] h0 (fun v h L => v = some (.long (timesL q1 q2)) ∧ Fr n0 L ∧ h = h0) := by
  refine Ctr.enter (Ls := #[.val (.long q1), .second, .val (.long q2), .second]) (plainFor_of_name pn_rm1) (fun m => ef_rm1 q1 q2 m) ?_
  intro p e s m below meth c T hx hby hml hown hnm hret hlk hZ hh X0 e0
  have N0 := Fr.nil n0
  refine g_lloadN X0 hx hby d1_0 (pc' := 1) rfl rfl ?_
  refine g_lconst X0 hx hby d1_1 (pc' := 2) rfl (z := (0 : Int64)) rfl ?_
  refine g_lcmp X0 hx hby d1_2 (pc' := 3) rfl ?_
  refine g_ifL_eq X0 hx hby d1_3 (by decide) (pc' := 22) (by decide) (pn := 6) rfl (fun hc3_1 => ?_) (fun hc3_1 => ?_)
  · refine g_lloadN X0 hx hby d1_22 (pc' := 23) rfl rfl ?_
    refine g_lloadN X0 hx hby d1_23 (pc' := 24) rfl rfl ?_
    refine g_lmul X0 hx hby d1_24 (pc' := 25) rfl ?_
    exact g_retL (Q := (fun v h L => v = some (.long (timesL q1 q2)) ∧ Fr n0 L ∧ h = h0)) X0 hx hby d1_25 hret hlk (by decide) (by decide) ⟨congrArg (fun z : Int64 => some (Value.long z)) (by simp only [timesL, hc3_1, if_true, if_false, ↓reduceIte] <;> rfl), N0, e0⟩
  · refine g_lloadN X0 hx hby d1_6 (pc' := 7) rfl rfl ?_
    refine g_ldcL X0 hx hZ hown hby d1_7 (pc' := 10) rfl (w_5 hw) ?_
    refine g_lloadN X0 hx hby d1_10 (pc' := 11) rfl rfl ?_
    refine g_ldiv X0 hx hby d1_11 (pc' := 12) rfl hc3_1 ?_
    refine g_lcmp X0 hx hby d1_12 (pc' := 13) rfl ?_
    refine g_ifL_le X0 hx hby d1_13 (by decide) (pc' := 22) (by decide) (pn := 16) rfl (fun hc13_2 => ?_) (fun hc13_2 => ?_)
    · refine g_lloadN X0 hx hby d1_22 (pc' := 23) rfl rfl ?_
      refine g_lloadN X0 hx hby d1_23 (pc' := 24) rfl rfl ?_
      refine g_lmul X0 hx hby d1_24 (pc' := 25) rfl ?_
      exact g_retL (Q := (fun v h L => v = some (.long (timesL q1 q2)) ∧ Fr n0 L ∧ h = h0)) X0 hx hby d1_25 hret hlk (by decide) (by decide) ⟨congrArg (fun z : Int64 => some (Value.long z)) (by simp only [timesL, hc3_1, hc13_2, if_true, if_false, ↓reduceIte] <;> rfl), N0, e0⟩
    · refine g_ldcL X0 hx hZ hown hby d1_16 (pc' := 19) rfl (w_5 hw) ?_
      refine g_goto X0 hx hby d1_19 (by decide) (pc' := 25) (by decide) ?_
      exact g_retL (Q := (fun v h L => v = some (.long (timesL q1 q2)) ∧ Fr n0 L ∧ h = h0)) X0 hx hby d1_25 hret hlk (by decide) (by decide) ⟨congrArg (fun z : Int64 => some (Value.long z)) (by simp only [timesL, hc3_1, hc13_2, if_true, if_false, ↓reduceIte] <;> rfl), N0, e0⟩
theorem ef_rm2 (q1 : Int64) (q2 : Int64) (m : MethodId) : entryFrame m #[.long q1, .long q2] 22 = mkF m 0 #[.val (.long q1), .second, .val (.long q2), .second, .unset, .unset, .unset, .unset, .unset, .unset, .unset, .unset, .unset, .unset, .unset, .unset, .unset, .unset, .unset, .unset, .unset, .unset] [] := by
  first | (simp [entryFrame, mkF, argsToLocals, Value.category]; done) | rfl
theorem pn_rm2 : plainName "com/example/nittei/nittei/HeapRoomTimesPinLaw" = true := by first | (simp [plainName, overriddenIn]; done) | decide +kernel
set_option maxRecDepth 65536 in
set_option maxHeartbeats 40000000 in
theorem rm2 (l : Launch) (Z : State) (a0 : Array Value) (hw : ∀ d ∈ tables_1, d.before a0 Z = true) (ws : List Jvm.Cond) (q1 : Int64) (q2 : Int64) (h0 : Heap) (n0 : Nat)  :
    Ctr l Z ({ cls := "com/example/nittei/nittei/HeapRoomTimesPinLaw", name := "expected", desc := "(JJ)J" } : Jvm.MethodName) method_3_code 22 (some .long) ws ({ frames := 0, cells := 0, slots := 0, locals := 0 } : Room) #[.long q1, .long q2] h0 (fun v h L => v = some (.long (expL q1 q2)) ∧ Fr n0 L ∧ h = h0) := by
  refine Ctr.enter (Ls := #[.val (.long q1), .second, .val (.long q2), .second, .unset, .unset, .unset, .unset, .unset, .unset, .unset, .unset, .unset, .unset, .unset, .unset, .unset, .unset, .unset, .unset, .unset, .unset]) (plainFor_of_name pn_rm2) (fun m => ef_rm2 q1 q2 m) ?_
  intro p e s m below meth c T hx hby hml hown hnm hret hlk hZ hh X0 e0
  have N0 := Fr.nil n0
  refine g_ldcL X0 hx hZ hown hby d2_0 (pc' := 3) rfl (w_10 hw) ?_
  refine g_lstore X0 hx hby d2_3 (pc' := 5) rfl (l' := #[.val (.long q1), .second, .val (.long q2), .second, .val (.long (4294967295 : Int64)), .second, .unset, .unset, .unset, .unset, .unset, .unset, .unset, .unset, .unset, .unset, .unset, .unset, .unset, .unset, .unset, .unset]) rfl ?_
  refine g_lloadN X0 hx hby d2_5 (pc' := 6) rfl rfl ?_
  refine g_bipush X0 hx hby d2_6 (pc' := 8) rfl (z := (32 : Int32)) rfl ?_
  refine g_lushr X0 hx hby d2_8 (pc' := 9) rfl ?_
  refine g_lstore X0 hx hby d2_9 (pc' := 11) rfl (l' := #[.val (.long q1), .second, .val (.long q2), .second, .val (.long (4294967295 : Int64)), .second, .val (.long (ushrL q1 (32 : Int32))), .second, .unset, .unset, .unset, .unset, .unset, .unset, .unset, .unset, .unset, .unset, .unset, .unset, .unset, .unset]) rfl ?_
  refine g_lloadN X0 hx hby d2_11 (pc' := 12) rfl rfl ?_
  refine g_lload X0 hx hby d2_12 (pc' := 14) rfl rfl ?_
  refine g_land X0 hx hby d2_14 (pc' := 15) rfl ?_
  refine g_lstore X0 hx hby d2_15 (pc' := 17) rfl (l' := #[.val (.long q1), .second, .val (.long q2), .second, .val (.long (4294967295 : Int64)), .second, .val (.long (ushrL q1 (32 : Int32))), .second, .val (.long (q1 &&& (4294967295 : Int64))), .second, .unset, .unset, .unset, .unset, .unset, .unset, .unset, .unset, .unset, .unset, .unset, .unset]) rfl ?_
  refine g_lloadN X0 hx hby d2_17 (pc' := 18) rfl rfl ?_
  refine g_bipush X0 hx hby d2_18 (pc' := 20) rfl (z := (32 : Int32)) rfl ?_
  refine g_lushr X0 hx hby d2_20 (pc' := 21) rfl ?_
  refine g_lstore X0 hx hby d2_21 (pc' := 23) rfl (l' := #[.val (.long q1), .second, .val (.long q2), .second, .val (.long (4294967295 : Int64)), .second, .val (.long (ushrL q1 (32 : Int32))), .second, .val (.long (q1 &&& (4294967295 : Int64))), .second, .val (.long (ushrL q2 (32 : Int32))), .second, .unset, .unset, .unset, .unset, .unset, .unset, .unset, .unset, .unset, .unset]) rfl ?_
  refine g_lloadN X0 hx hby d2_23 (pc' := 24) rfl rfl ?_
  refine g_lload X0 hx hby d2_24 (pc' := 26) rfl rfl ?_
  refine g_land X0 hx hby d2_26 (pc' := 27) rfl ?_
  refine g_lstore X0 hx hby d2_27 (pc' := 29) rfl (l' := #[.val (.long q1), .second, .val (.long q2), .second, .val (.long (4294967295 : Int64)), .second, .val (.long (ushrL q1 (32 : Int32))), .second, .val (.long (q1 &&& (4294967295 : Int64))), .second, .val (.long (ushrL q2 (32 : Int32))), .second, .val (.long (q2 &&& (4294967295 : Int64))), .second, .unset, .unset, .unset, .unset, .unset, .unset, .unset, .unset]) rfl ?_
  refine g_lload X0 hx hby d2_29 (pc' := 31) rfl rfl ?_
  refine g_lconst X0 hx hby d2_31 (pc' := 32) rfl (z := (0 : Int64)) rfl ?_
  refine g_lcmp X0 hx hby d2_32 (pc' := 33) rfl ?_
  refine g_ifL_eq X0 hx hby d2_33 (by decide) (pc' := 47) (by decide) (pn := 36) rfl (fun hc33_1 => ?_) (fun hc33_1 => ?_)
  · refine g_lload X0 hx hby d2_47 (pc' := 49) rfl rfl ?_
    refine g_lload X0 hx hby d2_49 (pc' := 51) rfl rfl ?_
    refine g_lmul X0 hx hby d2_51 (pc' := 52) rfl ?_
    refine g_lload X0 hx hby d2_52 (pc' := 54) rfl rfl ?_
    refine g_lload X0 hx hby d2_54 (pc' := 56) rfl rfl ?_
    refine g_lmul X0 hx hby d2_56 (pc' := 57) rfl ?_
    refine g_ladd X0 hx hby d2_57 (pc' := 58) rfl ?_
    refine g_lstore X0 hx hby d2_58 (pc' := 60) rfl (l' := #[.val (.long q1), .second, .val (.long q2), .second, .val (.long (4294967295 : Int64)), .second, .val (.long (ushrL q1 (32 : Int32))), .second, .val (.long (q1 &&& (4294967295 : Int64))), .second, .val (.long (ushrL q2 (32 : Int32))), .second, .val (.long (q2 &&& (4294967295 : Int64))), .second, .val (.long (mL q1 q2)), .second, .unset, .unset, .unset, .unset, .unset, .unset]) rfl ?_
    refine g_lload X0 hx hby d2_60 (pc' := 62) rfl rfl ?_
    refine g_ldcL X0 hx hZ hown hby d2_62 (pc' := 65) rfl (w_11 hw) ?_
    refine g_lcmp X0 hx hby d2_65 (pc' := 66) rfl ?_
    refine g_ifL_lt X0 hx hby d2_66 (by decide) (pc' := 73) (by decide) (pn := 69) rfl (fun hc66_2 => ?_) (fun hc66_2 => ?_)
    · refine g_lload X0 hx hby d2_73 (pc' := 75) rfl rfl ?_
      refine g_lload X0 hx hby d2_75 (pc' := 77) rfl rfl ?_
      refine g_lmul X0 hx hby d2_77 (pc' := 78) rfl ?_
      refine g_lstore X0 hx hby d2_78 (pc' := 80) rfl (l' := #[.val (.long q1), .second, .val (.long q2), .second, .val (.long (4294967295 : Int64)), .second, .val (.long (ushrL q1 (32 : Int32))), .second, .val (.long (q1 &&& (4294967295 : Int64))), .second, .val (.long (ushrL q2 (32 : Int32))), .second, .val (.long (q2 &&& (4294967295 : Int64))), .second, .val (.long (mL q1 q2)), .second, .val (.long (pL q1 q2)), .second, .unset, .unset, .unset, .unset]) rfl ?_
      refine g_lload X0 hx hby d2_80 (pc' := 82) rfl rfl ?_
      refine g_lload X0 hx hby d2_82 (pc' := 84) rfl rfl ?_
      refine g_bipush X0 hx hby d2_84 (pc' := 86) rfl (z := (32 : Int32)) rfl ?_
      refine g_lushr X0 hx hby d2_86 (pc' := 87) rfl ?_
      refine g_ladd X0 hx hby d2_87 (pc' := 88) rfl ?_
      refine g_lstore X0 hx hby d2_88 (pc' := 90) rfl (l' := #[.val (.long q1), .second, .val (.long q2), .second, .val (.long (4294967295 : Int64)), .second, .val (.long (ushrL q1 (32 : Int32))), .second, .val (.long (q1 &&& (4294967295 : Int64))), .second, .val (.long (ushrL q2 (32 : Int32))), .second, .val (.long (q2 &&& (4294967295 : Int64))), .second, .val (.long (mL q1 q2)), .second, .val (.long (pL q1 q2)), .second, .val (.long (hiL q1 q2)), .second, .unset, .unset]) rfl ?_
      refine g_lload X0 hx hby d2_90 (pc' := 92) rfl rfl ?_
      refine g_lload X0 hx hby d2_92 (pc' := 94) rfl rfl ?_
      refine g_land X0 hx hby d2_94 (pc' := 95) rfl ?_
      refine g_lstore X0 hx hby d2_95 (pc' := 97) rfl (l' := #[.val (.long q1), .second, .val (.long q2), .second, .val (.long (4294967295 : Int64)), .second, .val (.long (ushrL q1 (32 : Int32))), .second, .val (.long (q1 &&& (4294967295 : Int64))), .second, .val (.long (ushrL q2 (32 : Int32))), .second, .val (.long (q2 &&& (4294967295 : Int64))), .second, .val (.long (mL q1 q2)), .second, .val (.long (pL q1 q2)), .second, .val (.long (hiL q1 q2)), .second, .val (.long (loL q1 q2)), .second]) rfl ?_
      refine g_lload X0 hx hby d2_97 (pc' := 99) rfl rfl ?_
      refine g_ldcL X0 hx hZ hown hby d2_99 (pc' := 102) rfl (w_11 hw) ?_
      refine g_lcmp X0 hx hby d2_102 (pc' := 103) rfl ?_
      refine g_ifL_ge X0 hx hby d2_103 (by decide) (pc' := 115) (by decide) (pn := 106) rfl (fun hc103_3 => ?_) (fun hc103_3 => ?_)
      · refine g_ldcL X0 hx hZ hown hby d2_115 (pc' := 118) rfl (w_0 hw) ?_
        exact g_retL (Q := (fun v h L => v = some (.long (expL q1 q2)) ∧ Fr n0 L ∧ h = h0)) X0 hx hby d2_118 hret hlk (by decide) (by decide) ⟨congrArg (fun z : Int64 => some (Value.long z)) (by simp only [expL, restL, hc33_1, hc66_2, hc103_3, if_true, if_false, ↓reduceIte] <;> rfl), N0, e0⟩
      · refine g_lload X0 hx hby d2_106 (pc' := 108) rfl rfl ?_
        refine g_bipush X0 hx hby d2_108 (pc' := 110) rfl (z := (32 : Int32)) rfl ?_
        refine g_lshl X0 hx hby d2_110 (pc' := 111) rfl ?_
        refine g_lload X0 hx hby d2_111 (pc' := 113) rfl rfl ?_
        refine g_lor X0 hx hby d2_113 (pc' := 114) rfl ?_
        exact g_retL (Q := (fun v h L => v = some (.long (expL q1 q2)) ∧ Fr n0 L ∧ h = h0)) X0 hx hby d2_114 hret hlk (by decide) (by decide) ⟨congrArg (fun z : Int64 => some (Value.long z)) (by simp only [expL, restL, hc33_1, hc66_2, hc103_3, if_true, if_false, ↓reduceIte] <;> rfl), N0, e0⟩
    · refine g_ldcL X0 hx hZ hown hby d2_69 (pc' := 72) rfl (w_0 hw) ?_
      exact g_retL (Q := (fun v h L => v = some (.long (expL q1 q2)) ∧ Fr n0 L ∧ h = h0)) X0 hx hby d2_72 hret hlk (by decide) (by decide) ⟨congrArg (fun z : Int64 => some (Value.long z)) (by simp only [expL, restL, hc33_1, hc66_2, if_true, if_false, ↓reduceIte] <;> rfl), N0, e0⟩
  · refine g_lload X0 hx hby d2_36 (pc' := 38) rfl rfl ?_
    refine g_lconst X0 hx hby d2_38 (pc' := 39) rfl (z := (0 : Int64)) rfl ?_
    refine g_lcmp X0 hx hby d2_39 (pc' := 40) rfl ?_
    refine g_ifL_eq X0 hx hby d2_40 (by decide) (pc' := 47) (by decide) (pn := 43) rfl (fun hc40_4 => ?_) (fun hc40_4 => ?_)
    · refine g_lload X0 hx hby d2_47 (pc' := 49) rfl rfl ?_
      refine g_lload X0 hx hby d2_49 (pc' := 51) rfl rfl ?_
      refine g_lmul X0 hx hby d2_51 (pc' := 52) rfl ?_
      refine g_lload X0 hx hby d2_52 (pc' := 54) rfl rfl ?_
      refine g_lload X0 hx hby d2_54 (pc' := 56) rfl rfl ?_
      refine g_lmul X0 hx hby d2_56 (pc' := 57) rfl ?_
      refine g_ladd X0 hx hby d2_57 (pc' := 58) rfl ?_
      refine g_lstore X0 hx hby d2_58 (pc' := 60) rfl (l' := #[.val (.long q1), .second, .val (.long q2), .second, .val (.long (4294967295 : Int64)), .second, .val (.long (ushrL q1 (32 : Int32))), .second, .val (.long (q1 &&& (4294967295 : Int64))), .second, .val (.long (ushrL q2 (32 : Int32))), .second, .val (.long (q2 &&& (4294967295 : Int64))), .second, .val (.long (mL q1 q2)), .second, .unset, .unset, .unset, .unset, .unset, .unset]) rfl ?_
      refine g_lload X0 hx hby d2_60 (pc' := 62) rfl rfl ?_
      refine g_ldcL X0 hx hZ hown hby d2_62 (pc' := 65) rfl (w_11 hw) ?_
      refine g_lcmp X0 hx hby d2_65 (pc' := 66) rfl ?_
      refine g_ifL_lt X0 hx hby d2_66 (by decide) (pc' := 73) (by decide) (pn := 69) rfl (fun hc66_5 => ?_) (fun hc66_5 => ?_)
      · refine g_lload X0 hx hby d2_73 (pc' := 75) rfl rfl ?_
        refine g_lload X0 hx hby d2_75 (pc' := 77) rfl rfl ?_
        refine g_lmul X0 hx hby d2_77 (pc' := 78) rfl ?_
        refine g_lstore X0 hx hby d2_78 (pc' := 80) rfl (l' := #[.val (.long q1), .second, .val (.long q2), .second, .val (.long (4294967295 : Int64)), .second, .val (.long (ushrL q1 (32 : Int32))), .second, .val (.long (q1 &&& (4294967295 : Int64))), .second, .val (.long (ushrL q2 (32 : Int32))), .second, .val (.long (q2 &&& (4294967295 : Int64))), .second, .val (.long (mL q1 q2)), .second, .val (.long (pL q1 q2)), .second, .unset, .unset, .unset, .unset]) rfl ?_
        refine g_lload X0 hx hby d2_80 (pc' := 82) rfl rfl ?_
        refine g_lload X0 hx hby d2_82 (pc' := 84) rfl rfl ?_
        refine g_bipush X0 hx hby d2_84 (pc' := 86) rfl (z := (32 : Int32)) rfl ?_
        refine g_lushr X0 hx hby d2_86 (pc' := 87) rfl ?_
        refine g_ladd X0 hx hby d2_87 (pc' := 88) rfl ?_
        refine g_lstore X0 hx hby d2_88 (pc' := 90) rfl (l' := #[.val (.long q1), .second, .val (.long q2), .second, .val (.long (4294967295 : Int64)), .second, .val (.long (ushrL q1 (32 : Int32))), .second, .val (.long (q1 &&& (4294967295 : Int64))), .second, .val (.long (ushrL q2 (32 : Int32))), .second, .val (.long (q2 &&& (4294967295 : Int64))), .second, .val (.long (mL q1 q2)), .second, .val (.long (pL q1 q2)), .second, .val (.long (hiL q1 q2)), .second, .unset, .unset]) rfl ?_
        refine g_lload X0 hx hby d2_90 (pc' := 92) rfl rfl ?_
        refine g_lload X0 hx hby d2_92 (pc' := 94) rfl rfl ?_
        refine g_land X0 hx hby d2_94 (pc' := 95) rfl ?_
        refine g_lstore X0 hx hby d2_95 (pc' := 97) rfl (l' := #[.val (.long q1), .second, .val (.long q2), .second, .val (.long (4294967295 : Int64)), .second, .val (.long (ushrL q1 (32 : Int32))), .second, .val (.long (q1 &&& (4294967295 : Int64))), .second, .val (.long (ushrL q2 (32 : Int32))), .second, .val (.long (q2 &&& (4294967295 : Int64))), .second, .val (.long (mL q1 q2)), .second, .val (.long (pL q1 q2)), .second, .val (.long (hiL q1 q2)), .second, .val (.long (loL q1 q2)), .second]) rfl ?_
        refine g_lload X0 hx hby d2_97 (pc' := 99) rfl rfl ?_
        refine g_ldcL X0 hx hZ hown hby d2_99 (pc' := 102) rfl (w_11 hw) ?_
        refine g_lcmp X0 hx hby d2_102 (pc' := 103) rfl ?_
        refine g_ifL_ge X0 hx hby d2_103 (by decide) (pc' := 115) (by decide) (pn := 106) rfl (fun hc103_6 => ?_) (fun hc103_6 => ?_)
        · refine g_ldcL X0 hx hZ hown hby d2_115 (pc' := 118) rfl (w_0 hw) ?_
          exact g_retL (Q := (fun v h L => v = some (.long (expL q1 q2)) ∧ Fr n0 L ∧ h = h0)) X0 hx hby d2_118 hret hlk (by decide) (by decide) ⟨congrArg (fun z : Int64 => some (Value.long z)) (by simp only [expL, restL, hc33_1, hc40_4, hc66_5, hc103_6, if_true, if_false, ↓reduceIte] <;> rfl), N0, e0⟩
        · refine g_lload X0 hx hby d2_106 (pc' := 108) rfl rfl ?_
          refine g_bipush X0 hx hby d2_108 (pc' := 110) rfl (z := (32 : Int32)) rfl ?_
          refine g_lshl X0 hx hby d2_110 (pc' := 111) rfl ?_
          refine g_lload X0 hx hby d2_111 (pc' := 113) rfl rfl ?_
          refine g_lor X0 hx hby d2_113 (pc' := 114) rfl ?_
          exact g_retL (Q := (fun v h L => v = some (.long (expL q1 q2)) ∧ Fr n0 L ∧ h = h0)) X0 hx hby d2_114 hret hlk (by decide) (by decide) ⟨congrArg (fun z : Int64 => some (Value.long z)) (by simp only [expL, restL, hc33_1, hc40_4, hc66_5, hc103_6, if_true, if_false, ↓reduceIte] <;> rfl), N0, e0⟩
      · refine g_ldcL X0 hx hZ hown hby d2_69 (pc' := 72) rfl (w_0 hw) ?_
        exact g_retL (Q := (fun v h L => v = some (.long (expL q1 q2)) ∧ Fr n0 L ∧ h = h0)) X0 hx hby d2_72 hret hlk (by decide) (by decide) ⟨congrArg (fun z : Int64 => some (Value.long z)) (by simp only [expL, restL, hc33_1, hc40_4, hc66_5, if_true, if_false, ↓reduceIte] <;> rfl), N0, e0⟩
    · refine g_ldcL X0 hx hZ hown hby d2_43 (pc' := 46) rfl (w_0 hw) ?_
      exact g_retL (Q := (fun v h L => v = some (.long (expL q1 q2)) ∧ Fr n0 L ∧ h = h0)) X0 hx hby d2_46 hret hlk (by decide) (by decide) ⟨congrArg (fun z : Int64 => some (Value.long z)) (by simp only [expL, restL, hc33_1, hc40_4, if_true, if_false, ↓reduceIte] <;> rfl), N0, e0⟩
theorem ef_rm0 (q1 : Int64) (q2 : Int64) (q3 : Int32) (m : MethodId) : entryFrame m #[.long q1, .long q2, .int q3] maxLocals = mkF m 0 #[.val (.long q1), .second, .val (.long q2), .second, .val (.int q3), .unset, .unset, .unset, .unset] [] := by
  first | (simp [entryFrame, mkF, argsToLocals, Value.category, maxLocals]; done) | rfl
theorem pn_rm0 : plainName "com/example/nittei/nittei/HeapRoomTimesPinLaw" = true := by first | (simp [plainName, overriddenIn]; done) | decide +kernel
set_option maxRecDepth 65536 in
set_option maxHeartbeats 40000000 in
theorem rm0 (l : Launch) (Z : State) (a0 : Array Value) (hw : ∀ d ∈ tables_1, d.before a0 Z = true) (ws : List Jvm.Cond) (q1 : Int64) (q2 : Int64) (q3 : Int32) (h0 : Heap) (n0 : Nat)  :
    Ctr l Z x code maxLocals ret ws room_1 #[.long q1, .long q2, .int q3] h0 (fun v h L => v = some (.int 1) ∧ Fr n0 L) := by
  refine Ctr.enter (Ls := #[.val (.long q1), .second, .val (.long q2), .second, .val (.int q3), .unset, .unset, .unset, .unset]) (plainFor_of_name pn_rm0) (fun m => ef_rm0 q1 q2 q3 m) ?_
  intro p e s m below meth c T hx hby hml hown hnm hret hlk hZ hh X0 e0
  have N0 := Fr.nil n0
  refine g_lloadN X0 hx hby at_0 (pc' := 1) rfl rfl ?_
  refine g_ldcL X0 hx hZ hown hby at_1 (pc' := 4) rfl (w_0 hw) ?_
  refine g_land X0 hx hby at_4 (pc' := 5) rfl ?_
  refine g_iload X0 hx hby at_5 (pc' := 7) rfl rfl ?_
  refine g_bipush X0 hx hby at_7 (pc' := 9) rfl (z := (63 : Int32)) rfl ?_
  refine g_iand X0 hx hby at_9 (pc' := 10) rfl ?_
  refine g_lushr X0 hx hby at_10 (pc' := 11) rfl ?_
  refine g_lstore X0 hx hby at_11 (pc' := 13) rfl (l' := #[.val (.long q1), .second, .val (.long q2), .second, .val (.int q3), .val (.long (ushrL (q1 &&& (9223372036854775807 : Int64)) (q3 &&& (63 : Int32)))), .second, .unset, .unset]) rfl ?_
  refine g_lloadN X0 hx hby at_13 (pc' := 14) rfl rfl ?_
  refine g_ldcL X0 hx hZ hown hby at_14 (pc' := 17) rfl (w_0 hw) ?_
  refine g_land X0 hx hby at_17 (pc' := 18) rfl ?_
  refine g_iload X0 hx hby at_18 (pc' := 20) rfl rfl ?_
  refine g_bipush X0 hx hby at_20 (pc' := 22) rfl (z := (6 : Int32)) rfl ?_
  refine g_iushr X0 hx hby at_22 (pc' := 23) rfl ?_
  refine g_bipush X0 hx hby at_23 (pc' := 25) rfl (z := (63 : Int32)) rfl ?_
  refine g_iand X0 hx hby at_25 (pc' := 26) rfl ?_
  refine g_lushr X0 hx hby at_26 (pc' := 27) rfl ?_
  refine g_lstore X0 hx hby at_27 (pc' := 29) rfl (l' := #[.val (.long q1), .second, .val (.long q2), .second, .val (.int q3), .val (.long (ushrL (q1 &&& (9223372036854775807 : Int64)) (q3 &&& (63 : Int32)))), .second, .val (.long (ushrL (q2 &&& (9223372036854775807 : Int64)) ((ushr q3 (6 : Int32)) &&& (63 : Int32)))), .second]) rfl ?_
  refine g_lload X0 hx hby at_29 (pc' := 31) rfl rfl ?_
  refine g_lload X0 hx hby at_31 (pc' := 33) rfl rfl ?_
  refine g_callS X0 hx hZ hown (W := 0) (argsL := [.long (ushrL (q1 &&& (9223372036854775807 : Int64)) (q3 &&& (63 : Int32))), .long (ushrL (q2 &&& (9223372036854775807 : Int64)) ((ushr q3 (6 : Int32)) &&& (63 : Int32)))]) (rest := []) hby at_33 (pc' := 36) rfl (by rw [hml]; rfl) (w_1 hw) (w_2 hw) (w_3 hw) (w_4 hw) (by decide) (rm1 l Z a0 hw [] (ushrL (q1 &&& (9223372036854775807 : Int64)) (q3 &&& (63 : Int32))) (ushrL (q2 &&& (9223372036854775807 : Int64)) ((ushr q3 (6 : Int32)) &&& (63 : Int32))) h0 n0) e0 (by decide) (by decide) (by decide) (by decide) rfl pd__28JJ_29J rfl rfl (Nat.le_of_eq rfl) ?_
  rintro _ T1 L1 X1 ⟨rfl, N1q, e1⟩
  have N1 := Fr.app N0 N1q
  show GoE p e below _ (T1.setTop (mkF m 36 #[.val (.long q1), .second, .val (.long q2), .second, .val (.int q3), .val (.long (ushrL (q1 &&& (9223372036854775807 : Int64)) (q3 &&& (63 : Int32)))), .second, .val (.long (ushrL (q2 &&& (9223372036854775807 : Int64)) ((ushr q3 (6 : Int32)) &&& (63 : Int32)))), .second] [.long (timesL (ushrL (q1 &&& (9223372036854775807 : Int64)) (q3 &&& (63 : Int32))) (ushrL (q2 &&& (9223372036854775807 : Int64)) ((ushr q3 (6 : Int32)) &&& (63 : Int32))))]))
  refine g_lload X1 hx hby at_36 (pc' := 38) rfl rfl ?_
  refine g_lload X1 hx hby at_38 (pc' := 40) rfl rfl ?_
  refine g_callS X1 hx hZ hown (W := 2) (argsL := [.long (ushrL (q1 &&& (9223372036854775807 : Int64)) (q3 &&& (63 : Int32))), .long (ushrL (q2 &&& (9223372036854775807 : Int64)) ((ushr q3 (6 : Int32)) &&& (63 : Int32)))]) (rest := [.long (timesL (ushrL (q1 &&& (9223372036854775807 : Int64)) (q3 &&& (63 : Int32))) (ushrL (q2 &&& (9223372036854775807 : Int64)) ((ushr q3 (6 : Int32)) &&& (63 : Int32))))]) hby at_40 (pc' := 43) rfl (by rw [hml]; rfl) (w_6 hw) (w_7 hw) (w_8 hw) (w_9 hw) (by decide) (rm2 l Z a0 hw [] (ushrL (q1 &&& (9223372036854775807 : Int64)) (q3 &&& (63 : Int32))) (ushrL (q2 &&& (9223372036854775807 : Int64)) ((ushr q3 (6 : Int32)) &&& (63 : Int32))) h0 n0) e1 (by decide) (by decide) (by decide) (by decide) rfl pd__28JJ_29J rfl rfl (Nat.le_of_eq rfl) ?_
  rintro _ T2 L2 X2 ⟨rfl, N2q, e2⟩
  have N2 := Fr.app N1 N2q
  show GoE p e below _ (T2.setTop (mkF m 43 #[.val (.long q1), .second, .val (.long q2), .second, .val (.int q3), .val (.long (ushrL (q1 &&& (9223372036854775807 : Int64)) (q3 &&& (63 : Int32)))), .second, .val (.long (ushrL (q2 &&& (9223372036854775807 : Int64)) ((ushr q3 (6 : Int32)) &&& (63 : Int32)))), .second] [.long (expL (ushrL (q1 &&& (9223372036854775807 : Int64)) (q3 &&& (63 : Int32))) (ushrL (q2 &&& (9223372036854775807 : Int64)) ((ushr q3 (6 : Int32)) &&& (63 : Int32)))), .long (timesL (ushrL (q1 &&& (9223372036854775807 : Int64)) (q3 &&& (63 : Int32))) (ushrL (q2 &&& (9223372036854775807 : Int64)) ((ushr q3 (6 : Int32)) &&& (63 : Int32))))]))
  refine g_lcmp X2 hx hby at_43 (pc' := 44) rfl ?_
  refine g_ifL_ne X2 hx hby at_44 (by decide) (pc' := 51) (by decide) (pn := 47) rfl (fun z => absurd z (fun z => z (own_eq _ _ (own_nn q1 _) (own_nn q2 _)))) (fun hc44_3 => ?_)
  refine g_iconst X2 hx hby at_47 (pc' := 48) rfl (z := (1 : Int32)) rfl ?_
  refine g_goto X2 hx hby at_48 (by decide) (pc' := 52) (by decide) ?_
  exact g_retN (Q := (fun v h L => v = some (.int 1) ∧ Fr n0 L)) (w := (1 : Int32)) X2 hx hby at_52 hret (by simp) (by first | decide | rfl) hlk (by decide) (by decide) ⟨rfl, N2⟩
set_option maxRecDepth 65536 in
set_option maxHeartbeats 40000000 in
theorem comes_1 {Post : Tables → Env → Array Value → State → Outcome → State → Prop} (hpost : ∀ tb e args s v u, (limb_1_1.after args s (.returned v) u = true ∧ limb_1_2.after args s (.returned v) u = true ∧ True) → FrameEnd s (.returned v) u (Jvm.fieldLocs frame_1_writes args s ++ Jvm.arrayLocs frame_1_arrays args s ++ Jvm.staticLocs frame_1_statics s) 0 0 → Post tb e args s (.returned v) u) :
    ArmFor flags0 classFile x code maxLocals ret World_1 tables_1 room_1 Calls_1 rest_1 Pre_1 Post := by
  intro l hfl _ _ p e ha hc hk s m args below hf hA hF happ hP
  obtain ⟨hcalls, hrest, hpre⟩ := hP
  obtain ⟨-, -, -, hnamed, -, -, -, hat⟩ := (Spec.applies_iff hf).mp happ
  obtain ⟨hg, hn⟩ := and_e (Cond.before_iff.mp (show (Jvm.Cond.and given_1 narrow_1).before args s = true from hpre))
  obtain ⟨h1, g0⟩ := and_e hg
  obtain ⟨a0, g1⟩ := and_e g0
  obtain ⟨a1, g2⟩ := and_e g1
  have a2 := g2
  obtain ⟨u0, u1, u2, rfl⟩ : ∃ u0 u1 u2 : Value, args = #[u0, u1, u2] := by
    have hs : args.size = 3 := by simpa [Cond.value, given_1] using h1
    obtain ⟨L⟩ := args
    match L, hs with
    | [u0, u1, u2], _ => exact ⟨u0, u1, u2, rfl⟩
  have hw := fun d (hd : d ∈ tables_1) => atoms_spec (ws := Jvm.Cond.code x code maxLocals ret :: tables_1) hat d (List.mem_cons_of_mem _ hd)
  have hfit : Fit s := fun {y c} hc i hi => by
    obtain ⟨ha, rfl⟩ := Array.getElem?_eq_some_iff.mp hc
    have q := List.all_eq_true.mp ((Array.all_eq_true_iff_forall_mem.mp hF) _ (Array.getElem_mem ha)) i (List.mem_range.mpr hi)
    simpa [Array.getElem?_eq_getElem hi] using q
  obtain ⟨i0, e0⟩ := isL_v a0
  obtain rfl : u0 = (.long i0) := Option.some.inj e0
  obtain ⟨i1, e1⟩ := isL_v a1
  obtain rfl : u1 = (.long i1) := Option.some.inj e1
  obtain ⟨i2, e2⟩ := is_v a2
  obtain rfl : u2 = (.int i2) := Option.some.inj e2
  obtain ⟨n, o, h1, h2, h3, _, L, rfl, ⟨rfl, N⟩, hq⟩ := rm0 l s _ hw tables_1 i0 i1 i2  s.heap s.heap.size  p e ha hc hk s m _ below hf ((Spec.applies_iff_loose hf).mp happ).1 ⟨rfl, State.Warmed39.refl s, rfl⟩ trivial
  refine ⟨n, _, h1, h2, h3, hpost _ _ _ _ _ _ ⟨Cond.after_iff.mpr rfl, Cond.after_iff.mpr (eq_i res_at (Term.int_eval (1)) rfl), trivial⟩ ⟨hq.1, hq.2.1, (hq.2.2.sift fun y hy => Or.inr (N y hy)).mono (by decide) (by decide)⟩⟩
theorem main_1_1 : Claimed_1_1 := comes_1 fun _ _ _ _ _ _ h hF => ⟨h.1, hF⟩
theorem main_1_2 : Claimed_1_2 := comes_1 fun _ _ _ _ _ _ h hF => ⟨h.2.1, hF⟩
end Jvm.Pilot.@@N@@
namespace Jvm.Pilot.@@N@@
open Jvm Jvm.ClassFile Sem Op Lib Jvm.Free Jvm.Stand Jvm.Pilot.@@N@@.Jvm.D
/-! MADE BY PROGRAM (witnessworld.py) out of the Statement's table words and the real class files: 9 classes; the members and pool entries that the words name. The judged class is class 1, her method 1. -/
namespace start1
open Jvm.ClassFile
def u (s : String) : CpInfo := .utf8 (stringToUtf16 s)
/-- a pool by its gaps: so many unusable entries, then the entry; so many at the end -/
def gap : Nat → List CpInfo → List CpInfo
  | 0, r => r
  | n + 1, r => .unusable :: gap n r
def poolList (es : List (Nat × CpInfo)) (last : Nat) : List CpInfo := es.foldr (fun e r => gap e.1 (e.2 :: r)) (gap last [])
def pool (es : List (Nat × CpInfo)) (last : Nat) : Array CpInfo := ⟨poolList es last⟩
def fileOf (pool : Array CpInfo) (this : Nat) (attrs : Array Attribute := #[]) (ms : Array MethodInfo := #[]) (fl : Nat := 33) (sup : Nat := 0) (ifs : Array Nat := #[]) (fds : Array FieldInfo := #[]) : ClassFile where
  minorVersion := 0
  majorVersion := 65
  constantPool := pool
  accessFlags := fl
  thisClass := this
  superClass := sup
  interfaces := ifs
  fields := fds
  methods := ms
  attributes := attrs
def plain (name : String) (sup : Option ClassId) : Class where
  name := name
  kind := .ordinary
  loader := none
  accessFlags := 33
  super := sup
  interfaces := #[]
  cf := none
  fields := #[]
  methods := #[]
  instanceTypes := #[]
  staticTypes := #[]
  resolved := #[]
  callSites := []
  init := .initialized
  statics := none
  mirror := none

def pool0 : Array CpInfo := pool [(5, u "<init>"), (0, u "()V"), (1, .class_ 10), (1, u "java/lang/Object")] 113

def k0m0 : Method := { name := "<init>", desc := "()V", sig := { parameters := [], returnType := none }, accessFlags := 1, code := none }
/-- java/lang/Object -/
def k0 : Class := { plain "java/lang/Object" none with
  accessFlags := 33
  interfaces := #[]
  cf := some (fileOf pool0 8 #[] #[{ accessFlags := 1, nameIndex := 5, descriptorIndex := 6, attributes := #[] }] 33 0 #[] #[])
  fields := #[]
  methods := #[k0m0]
  instanceTypes := #[]
  staticTypes := #[]
  resolved := Array.replicate 124 none
  statics := none }

def pool1 : Array CpInfo := pool [(2, .class_ 4), (1, u "java/lang/Object"), (0, u "<init>"), (0, u "()V"), (2, .long 9223372036854775807), (1, .methodref 12 13), (0, .class_ 14), (0, .nameAndType 15 16), (0, u "com/example/nittei/nittei/HeapRoom"), (0, u "times"), (0, u "(JJ)J"), (0, .methodref 18 19), (0, .class_ 20), (0, .nameAndType 21 16), (0, u "com/example/nittei/nittei/HeapRoomTimesPinLaw"), (0, u "expected"), (0, .long 4294967295), (1, .long 2147483648), (3, u "law"), (0, u "(JJI)Z")] 3

def k1m0 : Method := { name := "<init>", desc := "()V", sig := { parameters := [], returnType := none }, accessFlags := 2, code := none }
def k1c1 : Code := { maxStack := 6, maxLocals := 9, code := code, exceptionTable := #[], attributes := #[] }
def k1m1 : Method := { name := "law", desc := "(JJI)Z", sig := { parameters := [.long, .long, .int], returnType := some .boolean }, accessFlags := 9, code := some k1c1 }
def k1c2 : Code := { maxStack := 6, maxLocals := 22, code := method_3_code, exceptionTable := #[], attributes := #[] }
def k1m2 : Method := { name := "expected", desc := "(JJ)J", sig := { parameters := [.long, .long], returnType := some .long }, accessFlags := 10, code := some k1c2 }
/-- com/example/nittei/nittei/HeapRoomTimesPinLaw -/
def k1 : Class := { plain "com/example/nittei/nittei/HeapRoomTimesPinLaw" (some 0) with
  accessFlags := 49
  interfaces := #[]
  cf := some (fileOf pool1 18 #[] #[{ accessFlags := 2, nameIndex := 5, descriptorIndex := 6, attributes := #[] }, { accessFlags := 9, nameIndex := 28, descriptorIndex := 29, attributes := #[] }, { accessFlags := 10, nameIndex := 21, descriptorIndex := 16, attributes := #[] }] 49 2 #[] #[])
  fields := #[]
  methods := #[k1m0, k1m1, k1m2]
  instanceTypes := #[]
  staticTypes := #[]
  resolved := Array.replicate 33 none
  statics := none }

def pool2 : Array CpInfo := pool [(2, .class_ 4), (1, u "java/lang/Object"), (0, u "<init>"), (0, u "()V"), (13, .class_ 22), (1, u "com/example/nittei/nittei/HeapRoom"), (34, .long 9223372036854775807), (6, u "MEGABYTE"), (0, u "J"), (9, u "times"), (0, u "(JJ)J")] 25

def k2m0 : Method := { name := "<init>", desc := "()V", sig := { parameters := [], returnType := none }, accessFlags := 2, code := none }
def k2c1 : Code := { maxStack := 6, maxLocals := 4, code := prog_6_method_4_code, exceptionTable := #[], attributes := #[] }
def k2m1 : Method := { name := "times", desc := "(JJ)J", sig := { parameters := [.long, .long], returnType := some .long }, accessFlags := 9, code := some k2c1 }
/-- com/example/nittei/nittei/HeapRoom -/
def k2 : Class := { plain "com/example/nittei/nittei/HeapRoom" (some 0) with
  accessFlags := 49
  interfaces := #[]
  cf := some (fileOf pool2 20 #[] #[{ accessFlags := 2, nameIndex := 5, descriptorIndex := 6, attributes := #[] }, { accessFlags := 9, nameIndex := 75, descriptorIndex := 76, attributes := #[] }] 49 2 #[] #[{ accessFlags := 26, nameIndex := 64, descriptorIndex := 65, attributes := #[] }])
  fields := #[{ name := "MEGABYTE", type := .long, accessFlags := 26, slot := 0, constantValue := 0 }]
  methods := #[k2m0, k2m1]
  instanceTypes := #[]
  staticTypes := #[.long]
  resolved := Array.replicate 102 none
  statics := none }

def pool3 : Array CpInfo := pool [(1, u "java/lang/Cloneable"), (0, .class_ 1), (0, u "java/lang/Object"), (0, .class_ 3)] 3

/-- java/lang/Cloneable -/
def k3 : Class := { plain "java/lang/Cloneable" (some 0) with
  accessFlags := 1537
  interfaces := #[]
  cf := some (fileOf pool3 2 #[] #[] 1537 4 #[] #[])
  fields := #[]
  methods := #[]
  instanceTypes := #[]
  staticTypes := #[]
  resolved := Array.replicate 8 none
  statics := none }

def pool4 : Array CpInfo := pool [(1, u "java/io/Serializable"), (0, .class_ 1), (0, u "java/lang/Object"), (0, .class_ 3)] 3

/-- java/io/Serializable -/
def k4 : Class := { plain "java/io/Serializable" (some 0) with
  accessFlags := 1537
  interfaces := #[]
  cf := some (fileOf pool4 2 #[] #[] 1537 4 #[] #[])
  fields := #[]
  methods := #[]
  instanceTypes := #[]
  staticTypes := #[]
  resolved := Array.replicate 8 none
  statics := none }

/-- the primitive byte -/
def k5 : Class := { plain "byte" none with kind := .primitive 'B', accessFlags := 0x411 }
/-- [B -/
def k6 : Class := { plain "[B" (some 0) with kind := .array 5 .byte, interfaces := #[3, 4], accessFlags := 1041 }

/-- the primitive int -/
def k7 : Class := { plain "int" none with kind := .primitive 'I', accessFlags := 0x411 }
/-- [I -/
def k8 : Class := { plain "[I" (some 0) with kind := .array 7 .int, interfaces := #[3, 4], accessFlags := 1041 }

def heap : Heap := #[]
def classes : Array Class := #[k0, k1, k2, k3, k4, k5, k6, k7, k8]
def interned : List (Array UInt16 × Addr) := []
def slotsUsed : Nat := 0
def theMethod : MethodId := ⟨1, 1⟩
def args0 : Array Value := #[.long 5, .long 7, .int 3]
def aboutOver (below : List Frame) : State where
  vm := { classes := classes, interned := interned.toArray }
  heap := heap
  slotsUsed := slotsUsed
  threads := #[{ frames := .invoking theMethod args0 :: below }]
def below0 : List Frame := [.native { method := ⟨0, 0⟩, args := #[] }]
def about1 : State := aboutOver below0
def p0 : Program := .bare "" "" ""
def e0 : Env := launch0.env 0 0 0
theorem w_frames : about1.frames = Frame.invoking theMethod args0 :: below0 := rfl
set_option maxRecDepth 65536 in
theorem w_args : argsFit about1.vm theMethod args0 = true := by decide +kernel
set_option maxRecDepth 65536 in
theorem w_heap : heapFits about1 = true := by decide +kernel
set_option maxRecDepth 65536 in
theorem w_runnable : about1.curStatus? = some .runnable := by decide +kernel
set_option maxRecDepth 65536 in
theorem w_alone : about1.alone = true := by decide +kernel
set_option maxRecDepth 65536 in
theorem w_named : about1.methodNamed? x = some theMethod := by decide +kernel
set_option maxRecDepth 65536 in
theorem w_hears : about1.hears theMethod below0 = true := by decide +kernel
set_option maxRecDepth 65536 in
theorem w_ripe : about1.ripe theMethod args0 below0 = true := by decide +kernel
theorem w_running : about1.status = .running := rfl
set_option maxRecDepth 65536 in
theorem w_room : about1.hasRoom e0.platform room_1 = true :=
  launch0.hasRoom_least _ room_1 (by decide +kernel) (by decide +kernel) (by decide +kernel) (by decide +kernel) (by decide +kernel) (by decide +kernel)
theorem allAtoms_all (ts : List Jvm.Cond) (a : Array Jvm.Value) (st : Jvm.State) : (allAtoms ts).before a st = ts.all (fun c => c.before a st) := by
  induction ts with
  | nil => rfl
  | cons c t ih =>
    show (Jvm.Cond.and c (allAtoms t)).before a st = _
    rw [Jvm.Cond.before_and, ih, List.all_cons]
def words1 : List Jvm.Cond := Jvm.Cond.code x code maxLocals ret :: tables_1
/-- a 'code' word, met by the world's own term for the bytes: nothing is compared byte by byte -/
theorem code_word {y : MethodName} {bytes : ByteArray} {mx : Nat} {rt : Option FieldType} {a : Array Value} {s : State} {m : MethodId} {meth : Method} {c : Code} (h1 : s.methodNamed? y = some m) (h2 : s.vm.method? m = some meth) (h3 : meth.code = some c) (h4 : c.code = bytes)
    (h5 : (c.maxLocals == mx && c.exceptionTable.isEmpty && decide (c.maxStack ≤ mostOperands) && decide (meth.sig.returnType = rt) && !meth.locks && decide (parseMethodDescriptor y.desc = some meth.sig)) = true) : (Jvm.Cond.code y bytes mx rt).before a s = true := by
  simp only [Bool.and_eq_true, beq_iff_eq, Bool.not_eq_true', decide_eq_true_eq] at h5
  obtain ⟨⟨⟨⟨⟨g1, g2⟩, g3⟩, g4⟩, g5⟩, g6⟩ := h5
  simp [Cond.before, Cond.holds, Cond.value, h1, h2, h3, h4, g1, g2, g3, g4, g5, g6]
def isCode : Jvm.Cond → Bool
  | .code _ _ _ _ => true
  | _ => false
theorem all_split {L : List Jvm.Cond} {P : Jvm.Cond → Bool} (h1 : L.all (fun c => isCode c || P c) = true) (h2 : ∀ c ∈ L.filter isCode, P c = true) : L.all P = true := by
  refine List.all_eq_true.mpr fun c hc => ?_
  have h := List.all_eq_true.mp h1 c hc
  rcases Bool.eq_false_or_eq_true (isCode c) with hi | hi
  · exact h2 c (List.mem_filter.mpr ⟨hc, hi⟩)
  · simpa [hi] using h
set_option maxRecDepth 65536 in
theorem w_c0 : (Jvm.Cond.code x code maxLocals ret).before args0 about1 = true := code_word (m := ⟨1, 1⟩) (meth := k1m1) (c := k1c1) (by decide +kernel) rfl rfl rfl (by decide +kernel)
set_option maxRecDepth 65536 in
theorem w_c1 : (Jvm.Cond.code ({ cls := "com/example/nittei/nittei/HeapRoom", name := "times", desc := "(JJ)J" } : Jvm.MethodName) prog_6_method_4_code (4 : Nat) (Option.some Jvm.ClassFile.FieldType.long)).before args0 about1 = true := code_word (m := ⟨2, 1⟩) (meth := k2m1) (c := k2c1) (by decide +kernel) rfl rfl rfl (by decide +kernel)
set_option maxRecDepth 65536 in
theorem w_c2 : (Jvm.Cond.code ({ cls := "com/example/nittei/nittei/HeapRoomTimesPinLaw", name := "expected", desc := "(JJ)J" } : Jvm.MethodName) method_3_code (22 : Nat) (Option.some Jvm.ClassFile.FieldType.long)).before args0 about1 = true := code_word (m := ⟨1, 2⟩) (meth := k1m2) (c := k1c2) (by decide +kernel) rfl rfl rfl (by decide +kernel)
def codes1 : List Jvm.Cond := [Jvm.Cond.code x code maxLocals ret, Jvm.Cond.code ({ cls := "com/example/nittei/nittei/HeapRoom", name := "times", desc := "(JJ)J" } : Jvm.MethodName) prog_6_method_4_code (4 : Nat) (Option.some Jvm.ClassFile.FieldType.long), Jvm.Cond.code ({ cls := "com/example/nittei/nittei/HeapRoomTimesPinLaw", name := "expected", desc := "(JJ)J" } : Jvm.MethodName) method_3_code (22 : Nat) (Option.some Jvm.ClassFile.FieldType.long)]
set_option maxRecDepth 65536 in
theorem codes_eq : words1.filter isCode = codes1 := rfl
theorem w_codes : ∀ c ∈ words1.filter isCode, c.before args0 about1 = true := by
  rw [codes_eq]
  intro c hc
  simp only [codes1, List.mem_cons, List.not_mem_nil, or_false] at hc
  rcases hc with rfl | rfl | rfl
  · exact w_c0
  · exact w_c1
  · exact w_c2
set_option maxRecDepth 65536 in
theorem w_t1 : words1.all (fun c => isCode c || c.before args0 about1) = true := by decide +kernel
theorem w_tables : (allAtoms (Jvm.Cond.code x code maxLocals ret :: tables_1)).before args0 about1 = true := by
  rw [allAtoms_all]
  show words1.all (fun c => c.before args0 about1) = true
  refine all_split ?_ w_codes
  rw [w_t1]
set_option maxRecDepth 65536 in
theorem w_case : (Jvm.Cond.and given_1 narrow_1).before args0 about1 = true := by decide +kernel
theorem w_applies : (headSpec (Jvm.Cond.code x code maxLocals ret :: tables_1) room_1).applies x e0.platform about1 = true :=
  (Spec.applies_iff w_frames).mpr ⟨w_running, w_runnable, w_alone, w_named, w_hears, w_ripe, w_room, w_tables⟩
theorem atStart : AtStart classFile x code maxLocals ret World_1 tables_1 room_1 Calls_1 rest_1 Pre_1 launch0 p0 e0 about1 theMethod args0 below0 :=
  ⟨lists_1, trivial, launch0.admits_env _ _ _, launch0.least_env, fairChoices_fair.cas, fairChoices_fair.clock, w_frames, w_args, w_heap, w_applies, trivial, trivial, w_case⟩
end start1
theorem witness_1 : WitnessClaimed_1 := ⟨start1.p0, start1.e0, start1.about1, start1.theMethod, start1.args0, start1.below0, start1.atStart⟩
end Jvm.Pilot.@@N@@
