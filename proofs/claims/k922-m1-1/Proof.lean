import JvmDerived
import JvmDerived.Pilot.@@N@@Statement
import JvmDerived.Pilot.@@N@@Code
set_option linter.unusedVariables false
set_option linter.unusedSimpArgs false
namespace Jvm.RoadKit
open Sem ClassFile Op Lib Jvm.Stand Jvm.Free Jvm.LawKit
section New
variable {p : Program} {l : Launch} {e : Env} {R : Room} {s : State} {m : MethodId} {args : Array Value} {below : List Frame} {meth : Method} {c : Code} {T : State} {locs : List Loc} {cells slots : Nat}
theorem retI (X : Stand p l e R s m args below meth c T locs cells slots) (hx : p.tables.exec = Jvm.exec) {pc : Nat} {Ls : Array Slot} {z : Int32} {rest : List Value} (hret : meth.sig.returnType = some .int) (hd : decode c.code pc = .ok (.ireturn, 1)) {fs : List Frame}
    (hl : ∀ (f : JFrame) (acts : List Action), f.method = m → f.locked = none → f.entered = [] → (doReturn e (T.setTop f) acts (some (.int z))).1 = T.setFrames fs) : Steps p.tables e below (T.setTop (mkF m pc Ls (.int z :: rest))) (T.setFrames fs) := by
  have hm' : T.vm.method? m = some meth := X.method'
  have hn : narrow .int (.int z) = .int z := rfl
  show Steps p.tables e below (T.setTop { method := m, pc := pc, locals := Ls, stack := _ :: rest, locked := none }) _
  jvm_step X.here [X.here.top, hx, hd, hm', hret, hn]
  first | (intro acts; rw [hl _ acts rfl rfl rfl]) | rw [hl _ _ rfl rfl rfl]
  exact Steps.refl _
end New
end Jvm.RoadKit
namespace Jvm.Pilot.@@N@@
open Jvm Jvm.ClassFile Sem Op Lib Jvm.Free Jvm.Stand Jvm.LawKit Jvm.RoadKit Bundle Jvm.Pilot.@@N@@.Jvm.D
open Jvm.Free.XT (ushr ushrL cmpL)
section GoKit
open Jvm.Free.XT (ushr ushrL cmpL)
variable {p : Program} {l : Launch} {e : Env} {R : Room} {s : State} {m : MethodId} {args : Array Value} {below : List Frame} {meth : Method} {c : Code} {T : State} {locs : List Loc} {cells slots : Nat} {Q : Option Value → Heap → List Loc → Prop} {rc rs : Nat} {Fi : Outcome → State → Prop} {bytes : ByteArray} {pc pc' : Nat} {Ls : Array Slot} {rest : List Value}
def GoE (p : Program) (e : Env) (below : List Frame) (Fi : Outcome → State → Prop) (S : State) : Prop :=
  ∃ t o, Steps p.tables e below S t ∧ t.status = .running ∧ Ended t below o ∧ Fi o t
abbrev Go (p : Program) (e : Env) (below : List Frame) (s : State) (rc rs : Nat) (Q : Option Value → Heap → List Loc → Prop) (S : State) : Prop :=
  GoE p e below (fun o t => ∃ v L, o = .returned v ∧ Q v t.heap L ∧ FrameEnd s o t L rc rs) S
theorem GoE.pull {a b : State} (h : GoE p e below Fi b) (f : ∀ t, Steps p.tables e below b t → Steps p.tables e below a t) : GoE p e below Fi a := by
  obtain ⟨t, o, h1, h2⟩ := h
  exact ⟨t, o, f t h1, h2⟩
theorem GoE.imp {Fi' : Outcome → State → Prop} {a : State} (h : GoE p e below Fi a) (f : ∀ o t, Fi o t → Fi' o t) : GoE p e below Fi' a := by
  obtain ⟨t, o, h1, h2, h3, h4⟩ := h
  exact ⟨t, o, h1, h2, h3, f _ _ h4⟩
def Ctr (l : Launch) (Z : State) (y : MethodName) (bytes : ByteArray) (ml : Nat) (ret : Option FieldType) (ws : List Jvm.Cond) (rm : Room) (as : Array Value) (h0 : Heap) (Q : Option Value → Heap → List Loc → Prop) : Prop :=
  MetFree l y (head1 (Jvm.Cond.code y bytes ml ret :: ws) rm) (fun a U => a = as ∧ Z.Warmed39 U.vm ∧ U.heap = h0) (fun _ _ _ _ _ => True) (fun _ U o U' => ∃ v L, o = .returned v ∧ Q v U'.heap L ∧ FrameEnd U o U' L rm.cells rm.slots)
theorem Ctr.enter {Z : State} {y : MethodName} {ml : Nat} {ret : Option FieldType} {ws : List Jvm.Cond} {rm : Room} {as : Array Value} {h0 : Heap} (hpl : plainFor y = true) (hef : ∀ m, entryFrame m as ml = mkF m 0 Ls [])
    (body : ∀ (p : Program) (e : Env) (s : State) (m : MethodId) (below : List Frame) (meth : Method) (c : Code) (T : State), p.tables.exec = Jvm.exec → c.code = bytes → c.maxLocals = ml → s.vm.findClass y.cls = some m.cls → meth.name = y.name → meth.sig.returnType = ret → meth.locks = false → Z.Warmed39 s.vm → s.heap = h0 →
      Stand p l e rm s m as below meth c T [] 0 0 → T.heap = h0 → Go p e below s rm.cells rm.slots Q (T.setTop (mkF m 0 Ls []))) : Ctr l Z y bytes ml ret ws rm as h0 Q := by
  refine MetFree.of_bodySF hpl hisR ?_
  intro p e s m args below meth c s₁ Bd hml0 hP hK
  obtain ⟨rfl, hZ, hh⟩ := hP
  have h := body p e s m below meth c s₁ Bd.exec Bd.bytes hml0 (findClass_of_methodNamed Bd.named) (name_of_methodNamed Bd.named Bd.method).1 Bd.returns (BodyLoose.notSynchronized Bd) hZ hh (Stand.of_body Bd) (by rw [← hh, Bd.state]; rfl)
  exact h.pull fun t k => castTop (hef m) k
theorem Ctr.imp {Z : State} {y : MethodName} {ml : Nat} {ret : Option FieldType} {ws : List Jvm.Cond} {rm : Room} {as : Array Value} {h0 : Heap} {Q' : Option Value → Heap → List Loc → Prop} (C : Ctr l Z y bytes ml ret ws rm as h0 Q) (f : ∀ v h L, Q v h L → Q' v h L) : Ctr l Z y bytes ml ret ws rm as h0 Q' := by
  intro p e ha hc hk s m args below hf happ hP hK
  obtain ⟨n, o, h1, h2, h3, v, L, h4, h5, h6⟩ := C p e ha hc hk s m args below hf happ hP hK
  exact ⟨n, o, h1, h2, h3, v, L, h4, f _ _ _ h5, h6⟩
theorem g_iload (X : Stand p l e R s m args below meth c T locs cells slots) (hx : p.tables.exec = Jvm.exec) {k : Nat} {v : Int32} (hby : c.code = bytes) (hd : decode bytes pc = .ok (.iload k, 2)) (hp : pc + 2 = pc') (hl : Ls[k]? = some (.val (.int v)))
    (H : GoE p e below Fi (T.setTop (mkF m pc' Ls (.int v :: rest)))) : GoE p e below Fi (T.setTop (mkF m pc Ls rest)) := by
  subst hp; exact H.pull fun t k => Jvm.Free.XS.iload X.here hx rfl (hb hby hd) hl k
theorem g_iloadN (X : Stand p l e R s m args below meth c T locs cells slots) (hx : p.tables.exec = Jvm.exec) {k : Fin 4} {v : Int32} (hby : c.code = bytes) (hd : decode bytes pc = .ok (.iload_n k, 1)) (hp : pc + 1 = pc') (hl : Ls[k.val]? = some (.val (.int v)))
    (H : GoE p e below Fi (T.setTop (mkF m pc' Ls (.int v :: rest)))) : GoE p e below Fi (T.setTop (mkF m pc Ls rest)) := by
  subst hp; exact H.pull fun t k => Jvm.Free.XS.iloadN X.here hx rfl (hb hby hd) hl k
theorem g_istore (X : Stand p l e R s m args below meth c T locs cells slots) (hx : p.tables.exec = Jvm.exec) {k : Nat} {x : Int32} {l' : Array Slot} (hby : c.code = bytes) (hd : decode bytes pc = .ok (.istore k, 2)) (hp : pc + 2 = pc') (hl : storeLocals Ls k (.int x) = some l')
    (H : GoE p e below Fi (T.setTop (mkF m pc' l' rest))) : GoE p e below Fi (T.setTop (mkF m pc Ls (.int x :: rest))) := by
  subst hp; exact H.pull fun t k => Jvm.Free.XS.istore X.here hx rfl (hb hby hd) rfl hl k
theorem g_istoreN (X : Stand p l e R s m args below meth c T locs cells slots) (hx : p.tables.exec = Jvm.exec) {k : Fin 4} {x : Int32} {l' : Array Slot} (hby : c.code = bytes) (hd : decode bytes pc = .ok (.istore_n k, 1)) (hp : pc + 1 = pc') (hl : storeLocals Ls k.val (.int x) = some l')
    (H : GoE p e below Fi (T.setTop (mkF m pc' l' rest))) : GoE p e below Fi (T.setTop (mkF m pc Ls (.int x :: rest))) := by
  subst hp; exact H.pull fun t k => Jvm.Free.XS.istoreN X.here hx rfl (hb hby hd) rfl hl k
theorem g_lload (X : Stand p l e R s m args below meth c T locs cells slots) (hx : p.tables.exec = Jvm.exec) {k : Nat} {v : Int64} (hby : c.code = bytes) (hd : decode bytes pc = .ok (.lload k, 2)) (hp : pc + 2 = pc') (hl : Ls[k]? = some (.val (.long v)))
    (H : GoE p e below Fi (T.setTop (mkF m pc' Ls (.long v :: rest)))) : GoE p e below Fi (T.setTop (mkF m pc Ls rest)) := by
  subst hp; exact H.pull fun t k => Jvm.Free.XT.lload X.here hx rfl (hb hby hd) hl k
theorem g_lloadN (X : Stand p l e R s m args below meth c T locs cells slots) (hx : p.tables.exec = Jvm.exec) {k : Fin 4} {v : Int64} (hby : c.code = bytes) (hd : decode bytes pc = .ok (.lload_n k, 1)) (hp : pc + 1 = pc') (hl : Ls[k.val]? = some (.val (.long v)))
    (H : GoE p e below Fi (T.setTop (mkF m pc' Ls (.long v :: rest)))) : GoE p e below Fi (T.setTop (mkF m pc Ls rest)) := by
  subst hp; exact H.pull fun t k => Jvm.Free.XT.lloadN X.here hx rfl (hb hby hd) hl k
theorem g_lstore (X : Stand p l e R s m args below meth c T locs cells slots) (hx : p.tables.exec = Jvm.exec) {k : Nat} {x : Int64} {l' : Array Slot} (hby : c.code = bytes) (hd : decode bytes pc = .ok (.lstore k, 2)) (hp : pc + 2 = pc') (hl : storeLocals Ls k (.long x) = some l')
    (H : GoE p e below Fi (T.setTop (mkF m pc' l' rest))) : GoE p e below Fi (T.setTop (mkF m pc Ls (.long x :: rest))) := by
  subst hp; exact H.pull fun t k => Jvm.Free.XT.lstore X.here hx rfl (hb hby hd) rfl hl k
theorem g_lstoreN (X : Stand p l e R s m args below meth c T locs cells slots) (hx : p.tables.exec = Jvm.exec) {k : Fin 4} {x : Int64} {l' : Array Slot} (hby : c.code = bytes) (hd : decode bytes pc = .ok (.lstore_n k, 1)) (hp : pc + 1 = pc') (hl : storeLocals Ls k.val (.long x) = some l')
    (H : GoE p e below Fi (T.setTop (mkF m pc' l' rest))) : GoE p e below Fi (T.setTop (mkF m pc Ls (.long x :: rest))) := by
  subst hp; exact H.pull fun t k => Jvm.Free.XT.lstoreN X.here hx rfl (hb hby hd) rfl hl k
theorem g_dload (X : Stand p l e R s m args below meth c T locs cells slots) (hx : p.tables.exec = Jvm.exec) {k : Nat} {v : UInt64} (hby : c.code = bytes) (hd : decode bytes pc = .ok (.dload k, 2)) (hp : pc + 2 = pc') (hl : Ls[k]? = some (.val (.double v)))
    (H : GoE p e below Fi (T.setTop (mkF m pc' Ls (.double v :: rest)))) : GoE p e below Fi (T.setTop (mkF m pc Ls rest)) := by
  subst hp; exact H.pull fun t k => Jvm.Free.XS.dload X.here hx rfl (hb hby hd) hl k
theorem g_dloadN (X : Stand p l e R s m args below meth c T locs cells slots) (hx : p.tables.exec = Jvm.exec) {k : Fin 4} {v : UInt64} (hby : c.code = bytes) (hd : decode bytes pc = .ok (.dload_n k, 1)) (hp : pc + 1 = pc') (hl : Ls[k.val]? = some (.val (.double v)))
    (H : GoE p e below Fi (T.setTop (mkF m pc' Ls (.double v :: rest)))) : GoE p e below Fi (T.setTop (mkF m pc Ls rest)) := by
  subst hp; exact H.pull fun t k => Jvm.Free.XS.dloadN X.here hx rfl (hb hby hd) hl k
theorem g_dstore (X : Stand p l e R s m args below meth c T locs cells slots) (hx : p.tables.exec = Jvm.exec) {k : Nat} {x : UInt64} {l' : Array Slot} (hby : c.code = bytes) (hd : decode bytes pc = .ok (.dstore k, 2)) (hp : pc + 2 = pc') (hl : storeLocals Ls k (.double x) = some l')
    (H : GoE p e below Fi (T.setTop (mkF m pc' l' rest))) : GoE p e below Fi (T.setTop (mkF m pc Ls (.double x :: rest))) := by
  subst hp; exact H.pull fun t k => Jvm.Free.XS.dstore X.here hx rfl (hb hby hd) rfl hl k
theorem g_dstoreN (X : Stand p l e R s m args below meth c T locs cells slots) (hx : p.tables.exec = Jvm.exec) {k : Fin 4} {x : UInt64} {l' : Array Slot} (hby : c.code = bytes) (hd : decode bytes pc = .ok (.dstore_n k, 1)) (hp : pc + 1 = pc') (hl : storeLocals Ls k.val (.double x) = some l')
    (H : GoE p e below Fi (T.setTop (mkF m pc' l' rest))) : GoE p e below Fi (T.setTop (mkF m pc Ls (.double x :: rest))) := by
  subst hp; exact H.pull fun t k => Jvm.Free.XS.dstoreN X.here hx rfl (hb hby hd) rfl hl k
theorem g_aload (X : Stand p l e R s m args below meth c T locs cells slots) (hx : p.tables.exec = Jvm.exec) {k : Nat} {v : Value} (hby : c.code = bytes) (hd : decode bytes pc = .ok (.aload k, 2)) (hp : pc + 2 = pc') (hl : Ls[k]? = some (.val v)) (hv : v.isRef = true)
    (H : GoE p e below Fi (T.setTop (mkF m pc' Ls (v :: rest)))) : GoE p e below Fi (T.setTop (mkF m pc Ls rest)) := by
  subst hp; exact H.pull fun t k => Jvm.Free.XS.aload X.here hx rfl (hb hby hd) hl hv k
theorem g_aloadN (X : Stand p l e R s m args below meth c T locs cells slots) (hx : p.tables.exec = Jvm.exec) {k : Fin 4} {v : Value} (hby : c.code = bytes) (hd : decode bytes pc = .ok (.aload_n k, 1)) (hp : pc + 1 = pc') (hl : Ls[k.val]? = some (.val v)) (hv : v.isRef = true)
    (H : GoE p e below Fi (T.setTop (mkF m pc' Ls (v :: rest)))) : GoE p e below Fi (T.setTop (mkF m pc Ls rest)) := by
  subst hp; exact H.pull fun t k => Jvm.Free.XS.aloadN X.here hx rfl (hb hby hd) hl hv k
theorem g_astore (X : Stand p l e R s m args below meth c T locs cells slots) (hx : p.tables.exec = Jvm.exec) {k : Nat} {x : Value} {l' : Array Slot} (hby : c.code = bytes) (hd : decode bytes pc = .ok (.astore k, 2)) (hp : pc + 2 = pc') (hv : x.isRef = true) (hl : storeLocals Ls k x = some l')
    (H : GoE p e below Fi (T.setTop (mkF m pc' l' rest))) : GoE p e below Fi (T.setTop (mkF m pc Ls (x :: rest))) := by
  subst hp; exact H.pull fun t k => Jvm.Free.XS.astore X.here hx rfl (hb hby hd) rfl hv hl k
theorem g_astoreN (X : Stand p l e R s m args below meth c T locs cells slots) (hx : p.tables.exec = Jvm.exec) {k : Fin 4} {x : Value} {l' : Array Slot} (hby : c.code = bytes) (hd : decode bytes pc = .ok (.astore_n k, 1)) (hp : pc + 1 = pc') (hv : x.isRef = true) (hl : storeLocals Ls k.val x = some l')
    (H : GoE p e below Fi (T.setTop (mkF m pc' l' rest))) : GoE p e below Fi (T.setTop (mkF m pc Ls (x :: rest))) := by
  subst hp; exact H.pull fun t k => Jvm.Free.XS.astoreN X.here hx rfl (hb hby hd) rfl hv hl k
theorem g_iconst (X : Stand p l e R s m args below meth c T locs cells slots) (hx : p.tables.exec = Jvm.exec) {i : Int} {z : Int32} (hby : c.code = bytes) (hd : decode bytes pc = .ok (.iconst i, 1)) (hp : pc + 1 = pc') (hz : z = Int32.ofInt i)
    (H : GoE p e below Fi (T.setTop (mkF m pc' Ls (.int z :: rest)))) : GoE p e below Fi (T.setTop (mkF m pc Ls rest)) := by
  subst hp; exact H.pull fun t k => Jvm.Free.XS.iconst X.here hx rfl (hb hby hd) (hz ▸ k)
theorem g_bipush (X : Stand p l e R s m args below meth c T locs cells slots) (hx : p.tables.exec = Jvm.exec) {i : Int} {z : Int32} (hby : c.code = bytes) (hd : decode bytes pc = .ok (.bipush i, 2)) (hp : pc + 2 = pc') (hz : z = (Int8.ofInt i).toInt32)
    (H : GoE p e below Fi (T.setTop (mkF m pc' Ls (.int z :: rest)))) : GoE p e below Fi (T.setTop (mkF m pc Ls rest)) := by
  subst hp; exact H.pull fun t k => Jvm.Free.XS.bipush X.here hx rfl (hb hby hd) (hz ▸ k)
theorem g_sipush (X : Stand p l e R s m args below meth c T locs cells slots) (hx : p.tables.exec = Jvm.exec) {i : Int} {z : Int32} (hby : c.code = bytes) (hd : decode bytes pc = .ok (.sipush i, 3)) (hp : pc + 3 = pc') (hz : z = (Int16.ofInt i).toInt32)
    (H : GoE p e below Fi (T.setTop (mkF m pc' Ls (.int z :: rest)))) : GoE p e below Fi (T.setTop (mkF m pc Ls rest)) := by
  subst hp; exact H.pull fun t k => Jvm.Free.XS.sipush X.here hx rfl (hb hby hd) (hz ▸ k)
theorem g_lconst (X : Stand p l e R s m args below meth c T locs cells slots) (hx : p.tables.exec = Jvm.exec) {i : Fin 2} {z : Int64} (hby : c.code = bytes) (hd : decode bytes pc = .ok (.lconst i, 1)) (hp : pc + 1 = pc') (hz : z = Int64.ofNat i)
    (H : GoE p e below Fi (T.setTop (mkF m pc' Ls (.long z :: rest)))) : GoE p e below Fi (T.setTop (mkF m pc Ls rest)) := by
  subst hp; exact H.pull fun t k => Jvm.Free.XT.lconst X.here hx rfl (hb hby hd) (hz ▸ k)
theorem g_aconstNull (X : Stand p l e R s m args below meth c T locs cells slots) (hx : p.tables.exec = Jvm.exec)  (hby : c.code = bytes) (hd : decode bytes pc = .ok (.aconst_null, 1)) (hp : pc + 1 = pc') 
    (H : GoE p e below Fi (T.setTop (mkF m pc' Ls (.null :: rest)))) : GoE p e below Fi (T.setTop (mkF m pc Ls rest)) := by
  subst hp; exact H.pull fun t k => Jvm.Free.XS.aconstNull X.here hx rfl (hb hby hd) k
theorem g_ldcI (X : Stand p l e R s m args below meth c T locs cells slots) (hx : p.tables.exec = Jvm.exec) {Z : State} {a0 : Array Value} (hZ : Z.Warmed39 s.vm) {own : String} (hown : s.vm.findClass own = some m.cls) {index : Nat} {v : Int32} (hby : c.code = bytes) (hd : decode bytes pc = .ok (.ldc index, 2)) (hp : pc + 2 = pc') (w : (Jvm.Cond.constant own index v).before a0 Z = true)
    (H : GoE p e below Fi (T.setTop (mkF m pc' Ls (.int v :: rest)))) : GoE p e below Fi (T.setTop (mkF m pc Ls rest)) := by
  subst hp; exact H.pull fun t k => X.ldcInt hx hown (mvT hZ w) (g := mkF m pc Ls rest) rfl (hb hby hd) _ k
theorem g_ldcL (X : Stand p l e R s m args below meth c T locs cells slots) (hx : p.tables.exec = Jvm.exec) {Z : State} {a0 : Array Value} (hZ : Z.Warmed39 s.vm) {own : String} (hown : s.vm.findClass own = some m.cls) {index : Nat} {v : Int64} (hby : c.code = bytes) (hd : decode bytes pc = .ok (.ldc2_w index, 3)) (hp : pc + 3 = pc') (w : (Jvm.Cond.constantLong own index v).before a0 Z = true)
    (H : GoE p e below Fi (T.setTop (mkF m pc' Ls (.long v :: rest)))) : GoE p e below Fi (T.setTop (mkF m pc Ls rest)) := by
  subst hp; exact H.pull fun t k => X.ldc2Long hx hown (mvT hZ w) (g := mkF m pc Ls rest) rfl (hb hby hd) _ k
theorem g_ldcD (X : Stand p l e R s m args below meth c T locs cells slots) (hx : p.tables.exec = Jvm.exec) {Z : State} {a0 : Array Value} (hZ : Z.Warmed39 s.vm) {own : String} (hown : s.vm.findClass own = some m.cls) {index : Nat} {v : UInt64} (hby : c.code = bytes) (hd : decode bytes pc = .ok (.ldc2_w index, 3)) (hp : pc + 3 = pc') (w : (Jvm.Cond.constantDouble own index v).before a0 Z = true)
    (H : GoE p e below Fi (T.setTop (mkF m pc' Ls (.double v :: rest)))) : GoE p e below Fi (T.setTop (mkF m pc Ls rest)) := by
  subst hp; exact H.pull fun t k => X.ldc2DoubleC hx hown (mvT hZ w) (g := mkF m pc Ls rest) rfl (hb hby hd) _ k
theorem g_iadd (X : Stand p l e R s m args below meth c T locs cells slots) (hx : p.tables.exec = Jvm.exec) {x y : Int32} (hby : c.code = bytes) (hd : decode bytes pc = .ok (.iadd, 1)) (hp : pc + 1 = pc') 
    (H : GoE p e below Fi (T.setTop (mkF m pc' Ls (.int (x + y) :: rest)))) : GoE p e below Fi (T.setTop (mkF m pc Ls (.int y :: .int x :: rest))) := by
  subst hp; exact H.pull fun t k => Jvm.Free.XS.iadd X.here hx rfl (hb hby hd) rfl k
theorem g_isub (X : Stand p l e R s m args below meth c T locs cells slots) (hx : p.tables.exec = Jvm.exec) {x y : Int32} (hby : c.code = bytes) (hd : decode bytes pc = .ok (.isub, 1)) (hp : pc + 1 = pc') 
    (H : GoE p e below Fi (T.setTop (mkF m pc' Ls (.int (x - y) :: rest)))) : GoE p e below Fi (T.setTop (mkF m pc Ls (.int y :: .int x :: rest))) := by
  subst hp; exact H.pull fun t k => Jvm.Free.XS.isub X.here hx rfl (hb hby hd) rfl k
theorem g_imul (X : Stand p l e R s m args below meth c T locs cells slots) (hx : p.tables.exec = Jvm.exec) {x y : Int32} (hby : c.code = bytes) (hd : decode bytes pc = .ok (.imul, 1)) (hp : pc + 1 = pc') 
    (H : GoE p e below Fi (T.setTop (mkF m pc' Ls (.int (x * y) :: rest)))) : GoE p e below Fi (T.setTop (mkF m pc Ls (.int y :: .int x :: rest))) := by
  subst hp; exact H.pull fun t k => Jvm.Free.XS.imul X.here hx rfl (hb hby hd) rfl k
theorem g_iand (X : Stand p l e R s m args below meth c T locs cells slots) (hx : p.tables.exec = Jvm.exec) {x y : Int32} (hby : c.code = bytes) (hd : decode bytes pc = .ok (.iand, 1)) (hp : pc + 1 = pc') 
    (H : GoE p e below Fi (T.setTop (mkF m pc' Ls (.int (x &&& y) :: rest)))) : GoE p e below Fi (T.setTop (mkF m pc Ls (.int y :: .int x :: rest))) := by
  subst hp; exact H.pull fun t k => Jvm.Free.XS.iand X.here hx rfl (hb hby hd) rfl k
theorem g_ior (X : Stand p l e R s m args below meth c T locs cells slots) (hx : p.tables.exec = Jvm.exec) {x y : Int32} (hby : c.code = bytes) (hd : decode bytes pc = .ok (.ior, 1)) (hp : pc + 1 = pc') 
    (H : GoE p e below Fi (T.setTop (mkF m pc' Ls (.int (x ||| y) :: rest)))) : GoE p e below Fi (T.setTop (mkF m pc Ls (.int y :: .int x :: rest))) := by
  subst hp; exact H.pull fun t k => Jvm.Free.XT.ior X.here hx rfl (hb hby hd) rfl k
theorem g_ixor (X : Stand p l e R s m args below meth c T locs cells slots) (hx : p.tables.exec = Jvm.exec) {x y : Int32} (hby : c.code = bytes) (hd : decode bytes pc = .ok (.ixor, 1)) (hp : pc + 1 = pc') 
    (H : GoE p e below Fi (T.setTop (mkF m pc' Ls (.int (x ^^^ y) :: rest)))) : GoE p e below Fi (T.setTop (mkF m pc Ls (.int y :: .int x :: rest))) := by
  subst hp; exact H.pull fun t k => Jvm.Free.XT.ixor X.here hx rfl (hb hby hd) rfl k
theorem g_ishl (X : Stand p l e R s m args below meth c T locs cells slots) (hx : p.tables.exec = Jvm.exec) {x y : Int32} (hby : c.code = bytes) (hd : decode bytes pc = .ok (.ishl, 1)) (hp : pc + 1 = pc') 
    (H : GoE p e below Fi (T.setTop (mkF m pc' Ls (.int (x <<< (y &&& 31)) :: rest)))) : GoE p e below Fi (T.setTop (mkF m pc Ls (.int y :: .int x :: rest))) := by
  subst hp; exact H.pull fun t k => Jvm.Free.XT.ishl X.here hx rfl (hb hby hd) rfl k
theorem g_ishr (X : Stand p l e R s m args below meth c T locs cells slots) (hx : p.tables.exec = Jvm.exec) {x y : Int32} (hby : c.code = bytes) (hd : decode bytes pc = .ok (.ishr, 1)) (hp : pc + 1 = pc') 
    (H : GoE p e below Fi (T.setTop (mkF m pc' Ls (.int (x >>> (y &&& 31)) :: rest)))) : GoE p e below Fi (T.setTop (mkF m pc Ls (.int y :: .int x :: rest))) := by
  subst hp; exact H.pull fun t k => Jvm.Free.XT.ishr X.here hx rfl (hb hby hd) rfl k
theorem g_iushr (X : Stand p l e R s m args below meth c T locs cells slots) (hx : p.tables.exec = Jvm.exec) {x y : Int32} (hby : c.code = bytes) (hd : decode bytes pc = .ok (.iushr, 1)) (hp : pc + 1 = pc') 
    (H : GoE p e below Fi (T.setTop (mkF m pc' Ls (.int (ushr x y) :: rest)))) : GoE p e below Fi (T.setTop (mkF m pc Ls (.int y :: .int x :: rest))) := by
  subst hp; exact H.pull fun t k => Jvm.Free.XT.iushr X.here hx rfl (hb hby hd) rfl k
theorem g_idiv (X : Stand p l e R s m args below meth c T locs cells slots) (hx : p.tables.exec = Jvm.exec) {x y : Int32} (hby : c.code = bytes) (hd : decode bytes pc = .ok (.idiv, 1)) (hp : pc + 1 = pc') (hy : y ≠ 0)
    (H : GoE p e below Fi (T.setTop (mkF m pc' Ls (.int (x / y) :: rest)))) : GoE p e below Fi (T.setTop (mkF m pc Ls (.int y :: .int x :: rest))) := by
  subst hp; exact H.pull fun t k => Jvm.Free.XS.idiv X.here hx rfl (hb hby hd) rfl hy k
theorem g_irem (X : Stand p l e R s m args below meth c T locs cells slots) (hx : p.tables.exec = Jvm.exec) {x y : Int32} (hby : c.code = bytes) (hd : decode bytes pc = .ok (.irem, 1)) (hp : pc + 1 = pc') (hy : y ≠ 0)
    (H : GoE p e below Fi (T.setTop (mkF m pc' Ls (.int (x - (x / y) * y) :: rest)))) : GoE p e below Fi (T.setTop (mkF m pc Ls (.int y :: .int x :: rest))) := by
  subst hp; exact H.pull fun t k => Jvm.Free.XS.irem X.here hx rfl (hb hby hd) rfl hy k
theorem g_ineg (X : Stand p l e R s m args below meth c T locs cells slots) (hx : p.tables.exec = Jvm.exec) {x : Int32} (hby : c.code = bytes) (hd : decode bytes pc = .ok (.ineg, 1)) (hp : pc + 1 = pc') 
    (H : GoE p e below Fi (T.setTop (mkF m pc' Ls (.int (-x) :: rest)))) : GoE p e below Fi (T.setTop (mkF m pc Ls (.int x :: rest))) := by
  subst hp; exact H.pull fun t k => Jvm.Free.XS.ineg X.here hx rfl (hb hby hd) rfl k
theorem g_ladd (X : Stand p l e R s m args below meth c T locs cells slots) (hx : p.tables.exec = Jvm.exec) {x y : Int64} (hby : c.code = bytes) (hd : decode bytes pc = .ok (.ladd, 1)) (hp : pc + 1 = pc') 
    (H : GoE p e below Fi (T.setTop (mkF m pc' Ls (.long (x + y) :: rest)))) : GoE p e below Fi (T.setTop (mkF m pc Ls (.long y :: .long x :: rest))) := by
  subst hp; exact H.pull fun t k => Jvm.Free.XT.ladd X.here hx rfl (hb hby hd) rfl k
theorem g_lsub (X : Stand p l e R s m args below meth c T locs cells slots) (hx : p.tables.exec = Jvm.exec) {x y : Int64} (hby : c.code = bytes) (hd : decode bytes pc = .ok (.lsub, 1)) (hp : pc + 1 = pc') 
    (H : GoE p e below Fi (T.setTop (mkF m pc' Ls (.long (x - y) :: rest)))) : GoE p e below Fi (T.setTop (mkF m pc Ls (.long y :: .long x :: rest))) := by
  subst hp; exact H.pull fun t k => Jvm.Free.XT.lsub X.here hx rfl (hb hby hd) rfl k
theorem g_lmul (X : Stand p l e R s m args below meth c T locs cells slots) (hx : p.tables.exec = Jvm.exec) {x y : Int64} (hby : c.code = bytes) (hd : decode bytes pc = .ok (.lmul, 1)) (hp : pc + 1 = pc') 
    (H : GoE p e below Fi (T.setTop (mkF m pc' Ls (.long (x * y) :: rest)))) : GoE p e below Fi (T.setTop (mkF m pc Ls (.long y :: .long x :: rest))) := by
  subst hp; exact H.pull fun t k => Jvm.Free.XT.lmul X.here hx rfl (hb hby hd) rfl k
theorem g_land (X : Stand p l e R s m args below meth c T locs cells slots) (hx : p.tables.exec = Jvm.exec) {x y : Int64} (hby : c.code = bytes) (hd : decode bytes pc = .ok (.land, 1)) (hp : pc + 1 = pc') 
    (H : GoE p e below Fi (T.setTop (mkF m pc' Ls (.long (x &&& y) :: rest)))) : GoE p e below Fi (T.setTop (mkF m pc Ls (.long y :: .long x :: rest))) := by
  subst hp; exact H.pull fun t k => Jvm.Free.XT.land X.here hx rfl (hb hby hd) rfl k
theorem g_lor (X : Stand p l e R s m args below meth c T locs cells slots) (hx : p.tables.exec = Jvm.exec) {x y : Int64} (hby : c.code = bytes) (hd : decode bytes pc = .ok (.lor, 1)) (hp : pc + 1 = pc') 
    (H : GoE p e below Fi (T.setTop (mkF m pc' Ls (.long (x ||| y) :: rest)))) : GoE p e below Fi (T.setTop (mkF m pc Ls (.long y :: .long x :: rest))) := by
  subst hp; exact H.pull fun t k => Jvm.Free.XT.lor X.here hx rfl (hb hby hd) rfl k
theorem g_lxor (X : Stand p l e R s m args below meth c T locs cells slots) (hx : p.tables.exec = Jvm.exec) {x y : Int64} (hby : c.code = bytes) (hd : decode bytes pc = .ok (.lxor, 1)) (hp : pc + 1 = pc') 
    (H : GoE p e below Fi (T.setTop (mkF m pc' Ls (.long (x ^^^ y) :: rest)))) : GoE p e below Fi (T.setTop (mkF m pc Ls (.long y :: .long x :: rest))) := by
  subst hp; exact H.pull fun t k => Jvm.Free.XT.lxor X.here hx rfl (hb hby hd) rfl k
theorem g_ldiv (X : Stand p l e R s m args below meth c T locs cells slots) (hx : p.tables.exec = Jvm.exec) {x y : Int64} (hby : c.code = bytes) (hd : decode bytes pc = .ok (.ldiv, 1)) (hp : pc + 1 = pc') (hy : y ≠ 0)
    (H : GoE p e below Fi (T.setTop (mkF m pc' Ls (.long (x / y) :: rest)))) : GoE p e below Fi (T.setTop (mkF m pc Ls (.long y :: .long x :: rest))) := by
  subst hp; exact H.pull fun t k => Jvm.Free.XT.ldiv X.here hx rfl (hb hby hd) rfl hy k
theorem g_lrem (X : Stand p l e R s m args below meth c T locs cells slots) (hx : p.tables.exec = Jvm.exec) {x y : Int64} (hby : c.code = bytes) (hd : decode bytes pc = .ok (.lrem, 1)) (hp : pc + 1 = pc') (hy : y ≠ 0)
    (H : GoE p e below Fi (T.setTop (mkF m pc' Ls (.long (x - (x / y) * y) :: rest)))) : GoE p e below Fi (T.setTop (mkF m pc Ls (.long y :: .long x :: rest))) := by
  subst hp; exact H.pull fun t k => Jvm.Free.XT.lrem X.here hx rfl (hb hby hd) rfl hy k
theorem g_lneg (X : Stand p l e R s m args below meth c T locs cells slots) (hx : p.tables.exec = Jvm.exec) {x : Int64} (hby : c.code = bytes) (hd : decode bytes pc = .ok (.lneg, 1)) (hp : pc + 1 = pc') 
    (H : GoE p e below Fi (T.setTop (mkF m pc' Ls (.long (-x) :: rest)))) : GoE p e below Fi (T.setTop (mkF m pc Ls (.long x :: rest))) := by
  subst hp; exact H.pull fun t k => Jvm.Free.XT.lneg X.here hx rfl (hb hby hd) rfl k
theorem g_lshl (X : Stand p l e R s m args below meth c T locs cells slots) (hx : p.tables.exec = Jvm.exec) {x : Int64} {y : Int32} (hby : c.code = bytes) (hd : decode bytes pc = .ok (.lshl, 1)) (hp : pc + 1 = pc') 
    (H : GoE p e below Fi (T.setTop (mkF m pc' Ls (.long (x <<< (y.toInt64 &&& 63)) :: rest)))) : GoE p e below Fi (T.setTop (mkF m pc Ls (.int y :: .long x :: rest))) := by
  subst hp; exact H.pull fun t k => Jvm.Free.XT.lshl X.here hx rfl (hb hby hd) rfl k
theorem g_lshr (X : Stand p l e R s m args below meth c T locs cells slots) (hx : p.tables.exec = Jvm.exec) {x : Int64} {y : Int32} (hby : c.code = bytes) (hd : decode bytes pc = .ok (.lshr, 1)) (hp : pc + 1 = pc') 
    (H : GoE p e below Fi (T.setTop (mkF m pc' Ls (.long (x >>> (y.toInt64 &&& 63)) :: rest)))) : GoE p e below Fi (T.setTop (mkF m pc Ls (.int y :: .long x :: rest))) := by
  subst hp; exact H.pull fun t k => Jvm.Free.XT.lshr X.here hx rfl (hb hby hd) rfl k
theorem g_lushr (X : Stand p l e R s m args below meth c T locs cells slots) (hx : p.tables.exec = Jvm.exec) {x : Int64} {y : Int32} (hby : c.code = bytes) (hd : decode bytes pc = .ok (.lushr, 1)) (hp : pc + 1 = pc') 
    (H : GoE p e below Fi (T.setTop (mkF m pc' Ls (.long (ushrL x y) :: rest)))) : GoE p e below Fi (T.setTop (mkF m pc Ls (.int y :: .long x :: rest))) := by
  subst hp; exact H.pull fun t k => Jvm.Free.XT.lushr X.here hx rfl (hb hby hd) rfl k
theorem g_i2l (X : Stand p l e R s m args below meth c T locs cells slots) (hx : p.tables.exec = Jvm.exec) {x : Int32} (hby : c.code = bytes) (hd : decode bytes pc = .ok (.i2l, 1)) (hp : pc + 1 = pc') 
    (H : GoE p e below Fi (T.setTop (mkF m pc' Ls (.long x.toInt64 :: rest)))) : GoE p e below Fi (T.setTop (mkF m pc Ls (.int x :: rest))) := by
  subst hp; exact H.pull fun t k => Jvm.Free.XT.i2l X.here hx rfl (hb hby hd) rfl k
theorem g_l2i (X : Stand p l e R s m args below meth c T locs cells slots) (hx : p.tables.exec = Jvm.exec) {x : Int64} (hby : c.code = bytes) (hd : decode bytes pc = .ok (.l2i, 1)) (hp : pc + 1 = pc') 
    (H : GoE p e below Fi (T.setTop (mkF m pc' Ls (.int x.toInt32 :: rest)))) : GoE p e below Fi (T.setTop (mkF m pc Ls (.long x :: rest))) := by
  subst hp; exact H.pull fun t k => Jvm.Free.XT.l2i X.here hx rfl (hb hby hd) rfl k
theorem g_i2b (X : Stand p l e R s m args below meth c T locs cells slots) (hx : p.tables.exec = Jvm.exec) {x : Int32} (hby : c.code = bytes) (hd : decode bytes pc = .ok (.i2b, 1)) (hp : pc + 1 = pc') 
    (H : GoE p e below Fi (T.setTop (mkF m pc' Ls (.int x.toInt8.toInt32 :: rest)))) : GoE p e below Fi (T.setTop (mkF m pc Ls (.int x :: rest))) := by
  subst hp; exact H.pull fun t k => Jvm.Free.XT.i2b X.here hx rfl (hb hby hd) rfl k
theorem g_i2c (X : Stand p l e R s m args below meth c T locs cells slots) (hx : p.tables.exec = Jvm.exec) {x : Int32} (hby : c.code = bytes) (hd : decode bytes pc = .ok (.i2c, 1)) (hp : pc + 1 = pc') 
    (H : GoE p e below Fi (T.setTop (mkF m pc' Ls (.int x.toUInt32.toUInt16.toUInt32.toInt32 :: rest)))) : GoE p e below Fi (T.setTop (mkF m pc Ls (.int x :: rest))) := by
  subst hp; exact H.pull fun t k => Jvm.Free.XT.i2c X.here hx rfl (hb hby hd) rfl k
theorem g_i2s (X : Stand p l e R s m args below meth c T locs cells slots) (hx : p.tables.exec = Jvm.exec) {x : Int32} (hby : c.code = bytes) (hd : decode bytes pc = .ok (.i2s, 1)) (hp : pc + 1 = pc') 
    (H : GoE p e below Fi (T.setTop (mkF m pc' Ls (.int x.toInt16.toInt32 :: rest)))) : GoE p e below Fi (T.setTop (mkF m pc Ls (.int x :: rest))) := by
  subst hp; exact H.pull fun t k => Jvm.Free.XT.i2s X.here hx rfl (hb hby hd) rfl k
theorem g_i2d (X : Stand p l e R s m args below meth c T locs cells slots) (hx : p.tables.exec = Jvm.exec) {x : Int32} (hby : c.code = bytes) (hd : decode bytes pc = .ok (.i2d, 1)) (hp : pc + 1 = pc') 
    (H : GoE p e below Fi (T.setTop (mkF m pc' Ls (.double (FP.l2d x.toInt64) :: rest)))) : GoE p e below Fi (T.setTop (mkF m pc Ls (.int x :: rest))) := by
  subst hp; exact H.pull fun t k => Jvm.Free.XS.i2dS X.here hx rfl (hb hby hd) rfl (i2d_w x) k
theorem g_l2d (X : Stand p l e R s m args below meth c T locs cells slots) (hx : p.tables.exec = Jvm.exec) {x : Int64} (hby : c.code = bytes) (hd : decode bytes pc = .ok (.l2d, 1)) (hp : pc + 1 = pc') 
    (H : GoE p e below Fi (T.setTop (mkF m pc' Ls (.double (FP.l2d x) :: rest)))) : GoE p e below Fi (T.setTop (mkF m pc Ls (.long x :: rest))) := by
  subst hp; exact H.pull fun t k => Jvm.Free.XS.l2dS X.here hx rfl (hb hby hd) rfl rfl k
theorem g_dcmp (X : Stand p l e R s m args below meth c T locs cells slots) (hx : p.tables.exec = Jvm.exec) {o : CmpOp} {x y : UInt64} {v : Int32} (hby : c.code = bytes) (hd : decode bytes pc = .ok (.dcmp o, 1)) (hp : pc + 1 = pc') (hv : cmpValue (FP.dcmp x y) o = v)
    (H : GoE p e below Fi (T.setTop (mkF m pc' Ls (.int v :: rest)))) : GoE p e below Fi (T.setTop (mkF m pc Ls (.double y :: .double x :: rest))) := by
  subst hp; exact H.pull fun t k => Jvm.Free.XS.dcmpS X.here hx rfl (hb hby hd) rfl hv k
theorem g_lcmp (X : Stand p l e R s m args below meth c T locs cells slots) (hx : p.tables.exec = Jvm.exec) {x y : Int64} (hby : c.code = bytes) (hd : decode bytes pc = .ok (.lcmp, 1)) (hp : pc + 1 = pc') 
    (H : GoE p e below Fi (T.setTop (mkF m pc' Ls (.int (cmpL x y) :: rest)))) : GoE p e below Fi (T.setTop (mkF m pc Ls (.long y :: .long x :: rest))) := by
  subst hp; exact H.pull fun t k => Jvm.Free.XT.lcmp X.here hx rfl (hb hby hd) rfl k
theorem g_dup (X : Stand p l e R s m args below meth c T locs cells slots) (hx : p.tables.exec = Jvm.exec) {x : Value} (hby : c.code = bytes) (hd : decode bytes pc = .ok (.dup, 1)) (hp : pc + 1 = pc') (hc : x.category = 1)
    (H : GoE p e below Fi (T.setTop (mkF m pc' Ls (x :: x :: rest)))) : GoE p e below Fi (T.setTop (mkF m pc Ls (x :: rest))) := by
  subst hp; exact H.pull fun t k => Jvm.Free.XS.dup X.here hx rfl (hb hby hd) rfl hc k
theorem g_pop (X : Stand p l e R s m args below meth c T locs cells slots) (hx : p.tables.exec = Jvm.exec) {x : Value} (hby : c.code = bytes) (hd : decode bytes pc = .ok (.pop, 1)) (hp : pc + 1 = pc') (hc : x.category = 1)
    (H : GoE p e below Fi (T.setTop (mkF m pc' Ls rest))) : GoE p e below Fi (T.setTop (mkF m pc Ls (x :: rest))) := by
  subst hp; exact H.pull fun t k => Jvm.Free.XT.pop X.here hx rfl (hb hby hd) rfl hc k
theorem g_iinc (X : Stand p l e R s m args below meth c T locs cells slots) (hx : p.tables.exec = Jvm.exec) {k : Nat} {cst : Int} {x : Int32} {l' : Array Slot} (hby : c.code = bytes) (hd : decode bytes pc = .ok (.iinc k cst, 3)) (hp : pc + 3 = pc') (hl : Ls[k]? = some (.val (.int x))) (hl' : storeLocals Ls k (.int (x + Int32.ofInt cst)) = some l')
    (H : GoE p e below Fi (T.setTop (mkF m pc' l' rest))) : GoE p e below Fi (T.setTop (mkF m pc Ls rest)) := by
  subst hp; exact H.pull fun t k => Jvm.Free.XS.iinc X.here hx rfl (hb hby hd) hl hl' k
theorem g_goto (X : Stand p l e R s m args below meth c T locs cells slots) (hx : p.tables.exec = Jvm.exec) {o : Int} (hby : c.code = bytes) (hd : decode bytes pc = .ok (.goto o, 3)) (ho : 0 ≤ (pc : Int) + o) (hp : ((pc : Int) + o).toNat = pc')
    (H : GoE p e below Fi (T.setTop (mkF m pc' Ls rest))) : GoE p e below Fi (T.setTop (mkF m pc Ls rest)) :=
  H.pull fun t k => Jvm.Free.XS.goto X.here hx rfl rfl (hb hby hd) ho hp k
theorem g_icmp_eq (X : Stand p l e R s m args below meth c T locs cells slots) (hx : p.tables.exec = Jvm.exec) {o : Int} {pn : Nat} (hby : c.code = bytes) {x y : Int32} (hd : decode bytes pc = .ok (.if_icmp .eq o, 3)) (ho : 0 ≤ (pc : Int) + o) (hp : ((pc : Int) + o).toNat = pc') (hn : pc + 3 = pn)
    (HY : x = y → GoE p e below Fi (T.setTop (mkF m pc' Ls rest))) (HN : ¬ (x = y) → GoE p e below Fi (T.setTop (mkF m pn Ls rest))) : GoE p e below Fi (T.setTop (mkF m pc Ls (.int y :: .int x :: rest))) := by
  subst hn
  by_cases q : x = y
  · exact (HY q).pull fun t k => Jvm.Free.XS.icmpYes X.here hx rfl rfl (hb hby hd) rfl (teq q).1 ho hp k
  · have q' : ¬ (x = y) := by first | exact q | exact Decidable.not_not.mp q
    exact (HN q').pull fun t k => Jvm.Free.XS.icmpNo X.here hx rfl (hb hby hd) rfl (feq q').1 k
theorem g_if_eq (X : Stand p l e R s m args below meth c T locs cells slots) (hx : p.tables.exec = Jvm.exec) {o : Int} {pn : Nat} (hby : c.code = bytes) {x : Int32} (hd : decode bytes pc = .ok (.ifCond .eq o, 3)) (ho : 0 ≤ (pc : Int) + o) (hp : ((pc : Int) + o).toNat = pc') (hn : pc + 3 = pn)
    (HY : x = 0 → GoE p e below Fi (T.setTop (mkF m pc' Ls rest))) (HN : ¬ (x = 0) → GoE p e below Fi (T.setTop (mkF m pn Ls rest))) : GoE p e below Fi (T.setTop (mkF m pc Ls (.int x :: rest))) := by
  subst hn
  by_cases q : x = 0
  · exact (HY q).pull fun t k => Jvm.Free.XS.ifYes X.here hx rfl rfl (hb hby hd) rfl ((if0 _ _).trans (teq q).1) ho hp k
  · have q' : ¬ (x = 0) := by first | exact q | exact Decidable.not_not.mp q
    exact (HN q').pull fun t k => Jvm.Free.XS.ifNo X.here hx rfl (hb hby hd) rfl ((if0 _ _).trans (feq q').1) k
theorem cl_W (u v : Int64) : cmpL u v = lcmpW u v := rfl
theorem cl_lt (u v : Int64) : cmpL u v < 0 ↔ u < v := by rw [cl_W]; exact lw_lt u v
theorem cl_gt (u v : Int64) : 0 < cmpL u v ↔ v < u := by rw [cl_W]; exact lw_gt u v
theorem cl_eq (u v : Int64) : cmpL u v = 0 ↔ u = v := by rw [cl_W]; exact lw_eq u v
theorem g_ifL_eq (X : Stand p l e R s m args below meth c T locs cells slots) (hx : p.tables.exec = Jvm.exec) {o : Int} {pn : Nat} (hby : c.code = bytes) {u v : Int64} (hd : decode bytes pc = .ok (.ifCond .eq o, 3)) (ho : 0 ≤ (pc : Int) + o) (hp : ((pc : Int) + o).toNat = pc') (hn : pc + 3 = pn)
    (HY : u = v → GoE p e below Fi (T.setTop (mkF m pc' Ls rest))) (HN : ¬ (u = v) → GoE p e below Fi (T.setTop (mkF m pn Ls rest))) : GoE p e below Fi (T.setTop (mkF m pc Ls (.int (cmpL u v) :: rest))) :=
  g_if_eq X hx hby hd ho hp hn (fun h => HY ((cl_eq u v).mp h)) (fun h => HN (fun z => h ((cl_eq u v).mpr z)))
theorem g_icmp_ne (X : Stand p l e R s m args below meth c T locs cells slots) (hx : p.tables.exec = Jvm.exec) {o : Int} {pn : Nat} (hby : c.code = bytes) {x y : Int32} (hd : decode bytes pc = .ok (.if_icmp .ne o, 3)) (ho : 0 ≤ (pc : Int) + o) (hp : ((pc : Int) + o).toNat = pc') (hn : pc + 3 = pn)
    (HY : ¬ (x = y) → GoE p e below Fi (T.setTop (mkF m pc' Ls rest))) (HN : x = y → GoE p e below Fi (T.setTop (mkF m pn Ls rest))) : GoE p e below Fi (T.setTop (mkF m pc Ls (.int y :: .int x :: rest))) := by
  subst hn
  by_cases q : ¬ (x = y)
  · exact (HY q).pull fun t k => Jvm.Free.XS.icmpYes X.here hx rfl rfl (hb hby hd) rfl (feq q).2 ho hp k
  · have q' : x = y := by first | exact q | exact Decidable.not_not.mp q
    exact (HN q').pull fun t k => Jvm.Free.XS.icmpNo X.here hx rfl (hb hby hd) rfl (teq q').2 k
theorem g_if_ne (X : Stand p l e R s m args below meth c T locs cells slots) (hx : p.tables.exec = Jvm.exec) {o : Int} {pn : Nat} (hby : c.code = bytes) {x : Int32} (hd : decode bytes pc = .ok (.ifCond .ne o, 3)) (ho : 0 ≤ (pc : Int) + o) (hp : ((pc : Int) + o).toNat = pc') (hn : pc + 3 = pn)
    (HY : ¬ (x = 0) → GoE p e below Fi (T.setTop (mkF m pc' Ls rest))) (HN : x = 0 → GoE p e below Fi (T.setTop (mkF m pn Ls rest))) : GoE p e below Fi (T.setTop (mkF m pc Ls (.int x :: rest))) := by
  subst hn
  by_cases q : ¬ (x = 0)
  · exact (HY q).pull fun t k => Jvm.Free.XS.ifYes X.here hx rfl rfl (hb hby hd) rfl ((if0 _ _).trans (feq q).2) ho hp k
  · have q' : x = 0 := by first | exact q | exact Decidable.not_not.mp q
    exact (HN q').pull fun t k => Jvm.Free.XS.ifNo X.here hx rfl (hb hby hd) rfl ((if0 _ _).trans (teq q').2) k
theorem g_ifL_ne (X : Stand p l e R s m args below meth c T locs cells slots) (hx : p.tables.exec = Jvm.exec) {o : Int} {pn : Nat} (hby : c.code = bytes) {u v : Int64} (hd : decode bytes pc = .ok (.ifCond .ne o, 3)) (ho : 0 ≤ (pc : Int) + o) (hp : ((pc : Int) + o).toNat = pc') (hn : pc + 3 = pn)
    (HY : ¬ (u = v) → GoE p e below Fi (T.setTop (mkF m pc' Ls rest))) (HN : u = v → GoE p e below Fi (T.setTop (mkF m pn Ls rest))) : GoE p e below Fi (T.setTop (mkF m pc Ls (.int (cmpL u v) :: rest))) :=
  g_if_ne X hx hby hd ho hp hn (fun h => HY (fun z => h ((cl_eq u v).mpr z))) (fun h => HN ((cl_eq u v).mp h))
theorem g_icmp_lt (X : Stand p l e R s m args below meth c T locs cells slots) (hx : p.tables.exec = Jvm.exec) {o : Int} {pn : Nat} (hby : c.code = bytes) {x y : Int32} (hd : decode bytes pc = .ok (.if_icmp .lt o, 3)) (ho : 0 ≤ (pc : Int) + o) (hp : ((pc : Int) + o).toNat = pc') (hn : pc + 3 = pn)
    (HY : x < y → GoE p e below Fi (T.setTop (mkF m pc' Ls rest))) (HN : ¬ (x < y) → GoE p e below Fi (T.setTop (mkF m pn Ls rest))) : GoE p e below Fi (T.setTop (mkF m pc Ls (.int y :: .int x :: rest))) := by
  subst hn
  by_cases q : x < y
  · exact (HY q).pull fun t k => Jvm.Free.XS.icmpYes X.here hx rfl rfl (hb hby hd) rfl (tlt q).1 ho hp k
  · have q' : ¬ (x < y) := by first | exact q | exact Decidable.not_not.mp q
    exact (HN q').pull fun t k => Jvm.Free.XS.icmpNo X.here hx rfl (hb hby hd) rfl (flt q').1 k
theorem g_if_lt (X : Stand p l e R s m args below meth c T locs cells slots) (hx : p.tables.exec = Jvm.exec) {o : Int} {pn : Nat} (hby : c.code = bytes) {x : Int32} (hd : decode bytes pc = .ok (.ifCond .lt o, 3)) (ho : 0 ≤ (pc : Int) + o) (hp : ((pc : Int) + o).toNat = pc') (hn : pc + 3 = pn)
    (HY : x < 0 → GoE p e below Fi (T.setTop (mkF m pc' Ls rest))) (HN : ¬ (x < 0) → GoE p e below Fi (T.setTop (mkF m pn Ls rest))) : GoE p e below Fi (T.setTop (mkF m pc Ls (.int x :: rest))) := by
  subst hn
  by_cases q : x < 0
  · exact (HY q).pull fun t k => Jvm.Free.XS.ifYes X.here hx rfl rfl (hb hby hd) rfl ((if0 _ _).trans (tlt q).1) ho hp k
  · have q' : ¬ (x < 0) := by first | exact q | exact Decidable.not_not.mp q
    exact (HN q').pull fun t k => Jvm.Free.XS.ifNo X.here hx rfl (hb hby hd) rfl ((if0 _ _).trans (flt q').1) k
theorem g_ifL_lt (X : Stand p l e R s m args below meth c T locs cells slots) (hx : p.tables.exec = Jvm.exec) {o : Int} {pn : Nat} (hby : c.code = bytes) {u v : Int64} (hd : decode bytes pc = .ok (.ifCond .lt o, 3)) (ho : 0 ≤ (pc : Int) + o) (hp : ((pc : Int) + o).toNat = pc') (hn : pc + 3 = pn)
    (HY : u < v → GoE p e below Fi (T.setTop (mkF m pc' Ls rest))) (HN : ¬ (u < v) → GoE p e below Fi (T.setTop (mkF m pn Ls rest))) : GoE p e below Fi (T.setTop (mkF m pc Ls (.int (cmpL u v) :: rest))) :=
  g_if_lt X hx hby hd ho hp hn (fun h => HY ((cl_lt u v).mp h)) (fun h => HN (fun z => h ((cl_lt u v).mpr z)))
theorem g_icmp_ge (X : Stand p l e R s m args below meth c T locs cells slots) (hx : p.tables.exec = Jvm.exec) {o : Int} {pn : Nat} (hby : c.code = bytes) {x y : Int32} (hd : decode bytes pc = .ok (.if_icmp .ge o, 3)) (ho : 0 ≤ (pc : Int) + o) (hp : ((pc : Int) + o).toNat = pc') (hn : pc + 3 = pn)
    (HY : ¬ (x < y) → GoE p e below Fi (T.setTop (mkF m pc' Ls rest))) (HN : x < y → GoE p e below Fi (T.setTop (mkF m pn Ls rest))) : GoE p e below Fi (T.setTop (mkF m pc Ls (.int y :: .int x :: rest))) := by
  subst hn
  by_cases q : ¬ (x < y)
  · exact (HY q).pull fun t k => Jvm.Free.XS.icmpYes X.here hx rfl rfl (hb hby hd) rfl (flt q).2.1 ho hp k
  · have q' : x < y := by first | exact q | exact Decidable.not_not.mp q
    exact (HN q').pull fun t k => Jvm.Free.XS.icmpNo X.here hx rfl (hb hby hd) rfl (tlt q').2.1 k
theorem g_if_ge (X : Stand p l e R s m args below meth c T locs cells slots) (hx : p.tables.exec = Jvm.exec) {o : Int} {pn : Nat} (hby : c.code = bytes) {x : Int32} (hd : decode bytes pc = .ok (.ifCond .ge o, 3)) (ho : 0 ≤ (pc : Int) + o) (hp : ((pc : Int) + o).toNat = pc') (hn : pc + 3 = pn)
    (HY : ¬ (x < 0) → GoE p e below Fi (T.setTop (mkF m pc' Ls rest))) (HN : x < 0 → GoE p e below Fi (T.setTop (mkF m pn Ls rest))) : GoE p e below Fi (T.setTop (mkF m pc Ls (.int x :: rest))) := by
  subst hn
  by_cases q : ¬ (x < 0)
  · exact (HY q).pull fun t k => Jvm.Free.XS.ifYes X.here hx rfl rfl (hb hby hd) rfl ((if0 _ _).trans (flt q).2.1) ho hp k
  · have q' : x < 0 := by first | exact q | exact Decidable.not_not.mp q
    exact (HN q').pull fun t k => Jvm.Free.XS.ifNo X.here hx rfl (hb hby hd) rfl ((if0 _ _).trans (tlt q').2.1) k
theorem g_ifL_ge (X : Stand p l e R s m args below meth c T locs cells slots) (hx : p.tables.exec = Jvm.exec) {o : Int} {pn : Nat} (hby : c.code = bytes) {u v : Int64} (hd : decode bytes pc = .ok (.ifCond .ge o, 3)) (ho : 0 ≤ (pc : Int) + o) (hp : ((pc : Int) + o).toNat = pc') (hn : pc + 3 = pn)
    (HY : ¬ (u < v) → GoE p e below Fi (T.setTop (mkF m pc' Ls rest))) (HN : u < v → GoE p e below Fi (T.setTop (mkF m pn Ls rest))) : GoE p e below Fi (T.setTop (mkF m pc Ls (.int (cmpL u v) :: rest))) :=
  g_if_ge X hx hby hd ho hp hn (fun h => HY (fun z => h ((cl_lt u v).mpr z))) (fun h => HN ((cl_lt u v).mp h))
theorem g_icmp_gt (X : Stand p l e R s m args below meth c T locs cells slots) (hx : p.tables.exec = Jvm.exec) {o : Int} {pn : Nat} (hby : c.code = bytes) {x y : Int32} (hd : decode bytes pc = .ok (.if_icmp .gt o, 3)) (ho : 0 ≤ (pc : Int) + o) (hp : ((pc : Int) + o).toNat = pc') (hn : pc + 3 = pn)
    (HY : y < x → GoE p e below Fi (T.setTop (mkF m pc' Ls rest))) (HN : ¬ (y < x) → GoE p e below Fi (T.setTop (mkF m pn Ls rest))) : GoE p e below Fi (T.setTop (mkF m pc Ls (.int y :: .int x :: rest))) := by
  subst hn
  by_cases q : y < x
  · exact (HY q).pull fun t k => Jvm.Free.XS.icmpYes X.here hx rfl rfl (hb hby hd) rfl (tlt q).2.2.1 ho hp k
  · have q' : ¬ (y < x) := by first | exact q | exact Decidable.not_not.mp q
    exact (HN q').pull fun t k => Jvm.Free.XS.icmpNo X.here hx rfl (hb hby hd) rfl (flt q').2.2.1 k
theorem g_if_gt (X : Stand p l e R s m args below meth c T locs cells slots) (hx : p.tables.exec = Jvm.exec) {o : Int} {pn : Nat} (hby : c.code = bytes) {x : Int32} (hd : decode bytes pc = .ok (.ifCond .gt o, 3)) (ho : 0 ≤ (pc : Int) + o) (hp : ((pc : Int) + o).toNat = pc') (hn : pc + 3 = pn)
    (HY : 0 < x → GoE p e below Fi (T.setTop (mkF m pc' Ls rest))) (HN : ¬ (0 < x) → GoE p e below Fi (T.setTop (mkF m pn Ls rest))) : GoE p e below Fi (T.setTop (mkF m pc Ls (.int x :: rest))) := by
  subst hn
  by_cases q : 0 < x
  · exact (HY q).pull fun t k => Jvm.Free.XS.ifYes X.here hx rfl rfl (hb hby hd) rfl ((if0 _ _).trans (tlt q).2.2.1) ho hp k
  · have q' : ¬ (0 < x) := by first | exact q | exact Decidable.not_not.mp q
    exact (HN q').pull fun t k => Jvm.Free.XS.ifNo X.here hx rfl (hb hby hd) rfl ((if0 _ _).trans (flt q').2.2.1) k
theorem g_ifL_gt (X : Stand p l e R s m args below meth c T locs cells slots) (hx : p.tables.exec = Jvm.exec) {o : Int} {pn : Nat} (hby : c.code = bytes) {u v : Int64} (hd : decode bytes pc = .ok (.ifCond .gt o, 3)) (ho : 0 ≤ (pc : Int) + o) (hp : ((pc : Int) + o).toNat = pc') (hn : pc + 3 = pn)
    (HY : v < u → GoE p e below Fi (T.setTop (mkF m pc' Ls rest))) (HN : ¬ (v < u) → GoE p e below Fi (T.setTop (mkF m pn Ls rest))) : GoE p e below Fi (T.setTop (mkF m pc Ls (.int (cmpL u v) :: rest))) :=
  g_if_gt X hx hby hd ho hp hn (fun h => HY ((cl_gt u v).mp h)) (fun h => HN (fun z => h ((cl_gt u v).mpr z)))
theorem g_icmp_le (X : Stand p l e R s m args below meth c T locs cells slots) (hx : p.tables.exec = Jvm.exec) {o : Int} {pn : Nat} (hby : c.code = bytes) {x y : Int32} (hd : decode bytes pc = .ok (.if_icmp .le o, 3)) (ho : 0 ≤ (pc : Int) + o) (hp : ((pc : Int) + o).toNat = pc') (hn : pc + 3 = pn)
    (HY : ¬ (y < x) → GoE p e below Fi (T.setTop (mkF m pc' Ls rest))) (HN : y < x → GoE p e below Fi (T.setTop (mkF m pn Ls rest))) : GoE p e below Fi (T.setTop (mkF m pc Ls (.int y :: .int x :: rest))) := by
  subst hn
  by_cases q : ¬ (y < x)
  · exact (HY q).pull fun t k => Jvm.Free.XS.icmpYes X.here hx rfl rfl (hb hby hd) rfl (flt q).2.2.2 ho hp k
  · have q' : y < x := by first | exact q | exact Decidable.not_not.mp q
    exact (HN q').pull fun t k => Jvm.Free.XS.icmpNo X.here hx rfl (hb hby hd) rfl (tlt q').2.2.2 k
theorem g_if_le (X : Stand p l e R s m args below meth c T locs cells slots) (hx : p.tables.exec = Jvm.exec) {o : Int} {pn : Nat} (hby : c.code = bytes) {x : Int32} (hd : decode bytes pc = .ok (.ifCond .le o, 3)) (ho : 0 ≤ (pc : Int) + o) (hp : ((pc : Int) + o).toNat = pc') (hn : pc + 3 = pn)
    (HY : ¬ (0 < x) → GoE p e below Fi (T.setTop (mkF m pc' Ls rest))) (HN : 0 < x → GoE p e below Fi (T.setTop (mkF m pn Ls rest))) : GoE p e below Fi (T.setTop (mkF m pc Ls (.int x :: rest))) := by
  subst hn
  by_cases q : ¬ (0 < x)
  · exact (HY q).pull fun t k => Jvm.Free.XS.ifYes X.here hx rfl rfl (hb hby hd) rfl ((if0 _ _).trans (flt q).2.2.2) ho hp k
  · have q' : 0 < x := by first | exact q | exact Decidable.not_not.mp q
    exact (HN q').pull fun t k => Jvm.Free.XS.ifNo X.here hx rfl (hb hby hd) rfl ((if0 _ _).trans (tlt q').2.2.2) k
theorem g_ifL_le (X : Stand p l e R s m args below meth c T locs cells slots) (hx : p.tables.exec = Jvm.exec) {o : Int} {pn : Nat} (hby : c.code = bytes) {u v : Int64} (hd : decode bytes pc = .ok (.ifCond .le o, 3)) (ho : 0 ≤ (pc : Int) + o) (hp : ((pc : Int) + o).toNat = pc') (hn : pc + 3 = pn)
    (HY : ¬ (v < u) → GoE p e below Fi (T.setTop (mkF m pc' Ls rest))) (HN : v < u → GoE p e below Fi (T.setTop (mkF m pn Ls rest))) : GoE p e below Fi (T.setTop (mkF m pc Ls (.int (cmpL u v) :: rest))) :=
  g_if_le X hx hby hd ho hp hn (fun h => HY (fun z => h ((cl_gt u v).mpr z))) (fun h => HN ((cl_gt u v).mp h))
theorem g_ifnull_no (X : Stand p l e R s m args below meth c T locs cells slots) (hx : p.tables.exec = Jvm.exec) {o : Int} {pn : Nat} (hby : c.code = bytes) {b : Addr} (hd : decode bytes pc = .ok (.ifnull o, 3)) (hn : pc + 3 = pn)
    (H : GoE p e below Fi (T.setTop (mkF m pn Ls rest))) : GoE p e below Fi (T.setTop (mkF m pc Ls (.ref b :: rest))) := by
  subst hn; exact H.pull fun t k => Jvm.Free.XS.ifnullNo X.here hx rfl (hb hby hd) rfl k
theorem g_ifnull_yes (X : Stand p l e R s m args below meth c T locs cells slots) (hx : p.tables.exec = Jvm.exec) {o : Int} (hby : c.code = bytes) (hd : decode bytes pc = .ok (.ifnull o, 3)) (ho : 0 ≤ (pc : Int) + o) (hp : ((pc : Int) + o).toNat = pc')
    (H : GoE p e below Fi (T.setTop (mkF m pc' Ls rest))) : GoE p e below Fi (T.setTop (mkF m pc Ls (.null :: rest))) :=
  H.pull fun t k => Jvm.Free.XS.ifnullYes X.here hx rfl rfl (hb hby hd) rfl ho hp k
theorem g_ifnonnull_yes (X : Stand p l e R s m args below meth c T locs cells slots) (hx : p.tables.exec = Jvm.exec) {o : Int} (hby : c.code = bytes) {b : Addr} (hd : decode bytes pc = .ok (.ifnonnull o, 3)) (ho : 0 ≤ (pc : Int) + o) (hp : ((pc : Int) + o).toNat = pc')
    (H : GoE p e below Fi (T.setTop (mkF m pc' Ls rest))) : GoE p e below Fi (T.setTop (mkF m pc Ls (.ref b :: rest))) :=
  H.pull fun t k => Jvm.Free.XT.ifnonnullYes X.here hx rfl rfl (hb hby hd) rfl ho hp k
theorem g_ifnonnull_no (X : Stand p l e R s m args below meth c T locs cells slots) (hx : p.tables.exec = Jvm.exec) {o : Int} {pn : Nat} (hby : c.code = bytes) (hd : decode bytes pc = .ok (.ifnonnull o, 3)) (hn : pc + 3 = pn)
    (H : GoE p e below Fi (T.setTop (mkF m pn Ls rest))) : GoE p e below Fi (T.setTop (mkF m pc Ls (.null :: rest))) := by
  subst hn; exact H.pull fun t k => Jvm.Free.XT.ifnonnullNo X.here hx rfl (hb hby hd) rfl k
theorem g_acmp_yes (X : Stand p l e R s m args below meth c T locs cells slots) (hx : p.tables.exec = Jvm.exec) {o : Int} (hby : c.code = bytes) {cd : ClassFile.ACond} {x y : Value} (hd : decode bytes pc = .ok (.if_acmp cd o, 3)) (ho : 0 ≤ (pc : Int) + o) (hp : ((pc : Int) + o).toNat = pc') (h1 : x.isRef = true) (h2 : y.isRef = true) (hc : Jvm.Free.XT.acmp cd x y = true)
    (H : GoE p e below Fi (T.setTop (mkF m pc' Ls rest))) : GoE p e below Fi (T.setTop (mkF m pc Ls (y :: x :: rest))) :=
  H.pull fun t k => Jvm.Free.XT.acmpYes X.here hx rfl rfl (hb hby hd) rfl h1 h2 hc ho hp k
theorem g_acmp_no (X : Stand p l e R s m args below meth c T locs cells slots) (hx : p.tables.exec = Jvm.exec) {o : Int} {pn : Nat} (hby : c.code = bytes) {cd : ClassFile.ACond} {x y : Value} (hd : decode bytes pc = .ok (.if_acmp cd o, 3)) (hn : pc + 3 = pn) (h1 : x.isRef = true) (h2 : y.isRef = true) (hc : Jvm.Free.XT.acmp cd x y = false)
    (H : GoE p e below Fi (T.setTop (mkF m pn Ls rest))) : GoE p e below Fi (T.setTop (mkF m pc Ls (y :: x :: rest))) := by
  subst hn; exact H.pull fun t k => Jvm.Free.XT.acmpNo X.here hx rfl (hb hby hd) rfl h1 h2 hc k
theorem g_retI (X : Stand p l e R s m args below meth c T locs cells slots) (hx : p.tables.exec = Jvm.exec) {z : Int32} (hby : c.code = bytes) (hd : decode bytes pc = .ok (.ireturn, 1)) (hret : meth.sig.returnType = some .int) (hlk : meth.locks = false) (hc : cells ≤ rc) (hs : slots ≤ rs) (hQ : Q (some (.int z)) T.heap locs) : Go p e below s rc rs Q (T.setTop (mkF m pc Ls (.int z :: rest))) := by
  obtain ⟨fs, hr, hrun, hended, hW, hsame⟩ := X.leave (v := some (.int z)) (fun h => by first | rfl | (rw [hret] at h; cases h)) hlk
  exact ⟨_, _, retI X hx hret (hb hby hd) hr, hrun, hended, _, _, rfl, hQ, ⟨_, rfl⟩, hW, hsame.mono hc hs⟩
theorem g_retN (X : Stand p l e R s m args below meth c T locs cells slots) (hx : p.tables.exec = Jvm.exec) {z w : Int32} {t : FieldType} (hby : c.code = bytes) (hd : decode bytes pc = .ok (.ireturn, 1)) (hret : meth.sig.returnType = some t) (ht : t = .boolean ∨ t = .byte ∨ t = .char ∨ t = .short) (hnar : nar t z = w) (hlk : meth.locks = false) (hc : cells ≤ rc) (hs : slots ≤ rs) (hQ : Q (some (.int w)) T.heap locs) : Go p e below s rc rs Q (T.setTop (mkF m pc Ls (.int z :: rest))) := by
  subst hnar
  obtain ⟨fs, hr, hrun, hended, hW, hsame⟩ := X.leave (v := some (.int (nar t z))) (fun h => by rw [hret] at h; cases h) hlk
  exact ⟨_, _, retN X hx hret ht (hb hby hd) hr, hrun, hended, _, _, rfl, hQ, ⟨_, rfl⟩, hW, hsame.mono hc hs⟩
theorem g_retL (X : Stand p l e R s m args below meth c T locs cells slots) (hx : p.tables.exec = Jvm.exec) {z : Int64} (hby : c.code = bytes) (hd : decode bytes pc = .ok (.lreturn, 1)) (hret : meth.sig.returnType = some .long) (hlk : meth.locks = false) (hc : cells ≤ rc) (hs : slots ≤ rs) (hQ : Q (some (.long z)) T.heap locs) : Go p e below s rc rs Q (T.setTop (mkF m pc Ls [.long z])) := by
  obtain ⟨fs, hr, hrun, hended, hW, hsame⟩ := X.leave (v := some (.long z)) (fun h => by first | rfl | (rw [hret] at h; cases h)) hlk
  exact ⟨_, _, X.lreturnOut hx hret (hb hby hd) hr, hrun, hended, _, _, rfl, hQ, ⟨_, rfl⟩, hW, hsame.mono hc hs⟩
theorem g_retA (X : Stand p l e R s m args below meth c T locs cells slots) (hx : p.tables.exec = Jvm.exec) {z : Value} {t : FieldType} (hby : c.code = bytes) (hd : decode bytes pc = .ok (.areturn, 1)) (hz : z.isRef = true) (hret : meth.sig.returnType = some t) (ht : t.isReference = true) (hlk : meth.locks = false) (hc : cells ≤ rc) (hs : slots ≤ rs) (hQ : Q (some z) T.heap locs) : Go p e below s rc rs Q (T.setTop (mkF m pc Ls [z])) := by
  obtain ⟨fs, hr, hrun, hended, hW, hsame⟩ := X.leave (v := some z) (fun h => by first | rfl | (rw [hret] at h; cases h)) hlk
  exact ⟨_, _, X.areturnOut hx hz hret ht (hb hby hd) hr, hrun, hended, _, _, rfl, hQ, ⟨_, rfl⟩, hW, hsame.mono hc hs⟩
theorem g_retV (X : Stand p l e R s m args below meth c T locs cells slots) (hx : p.tables.exec = Jvm.exec)  (hby : c.code = bytes) (hd : decode bytes pc = .ok (.return_, 1)) (hret : meth.sig.returnType = none) (hlk : meth.locks = false) (hc : cells ≤ rc) (hs : slots ≤ rs) (hQ : Q (none) T.heap locs) : Go p e below s rc rs Q (T.setTop (mkF m pc Ls [])) := by
  obtain ⟨fs, hr, hrun, hended, hW, hsame⟩ := X.leave (v := none) (fun h => by first | rfl | (rw [hret] at h; cases h)) hlk
  exact ⟨_, _, X.returnOut hx hret (hb hby hd) hr, hrun, hended, _, _, rfl, hQ, ⟨_, rfl⟩, hW, hsame.mono hc hs⟩
theorem g_callS (X : Stand p l e R s m args below meth c T locs cells slots) (hx : p.tables.exec = Jvm.exec) {Z : State} {a0 : Array Value} (hZ : Z.Warmed39 s.vm) {own : String} (hown : s.vm.findClass own = some m.cls) {y : MethodName} {cb : ByteArray} {maxL : Nat} {ret : Option FieldType} {rm : Room} {as' : Array Value} {h : Heap} {Q' : Option Value → Heap → List Loc → Prop} {W : Nat} {index : Nat} {argsL : List Value} (hby : c.code = bytes) (hd : decode bytes pc = .ok (.invokestatic index, 3)) (hp : pc + 3 = pc') (hml : Ls.size = c.maxLocals)
    (w1 : (Jvm.Cond.methodLink own index y).before a0 Z = true) (w2 : (Jvm.Cond.static y).before a0 Z = true) (w3 : (Jvm.Cond.initialized y.cls).before a0 Z = true) (w4 : (Jvm.Cond.code y cb maxL ret).before a0 Z = true) (hy : y.cls ≠ "java/lang/invoke/MethodHandle" ∧ y.cls ≠ "java/lang/invoke/VarHandle")
    (C : Ctr l Z y cb maxL ret [] rm as' h Q') (eT : T.heap = h) (hfr : rm.frames + 1 ≤ R.frames) (hlo : W + (maxL + 11) + rm.locals ≤ R.locals) (hce : cells + rm.cells ≤ R.cells) (hsl : slots + rm.slots ≤ R.slots) {stk : List Value} {psig : MethodDescriptor} (has : argsL.toArray = as') (hpd : parseMethodDescriptor y.desc = some psig) (hlen : argsL.length = psig.parameters.length) (hst : stk = argsL.reverse ++ rest) (hW : 2 * 0 + (rest.map fun v => v.category).sum ≤ W)
    (K : ∀ (v : Option Value) (T' : State) (L : List Loc), Stand p l e R s m args below meth c T' (locs ++ L) (cells + rm.cells) (slots + rm.slots) → Q' v T'.heap L → GoE p e below Fi (T'.setTop (mkF m pc' Ls (v.toList ++ rest)))) : GoE p e below Fi (T.setTop (mkF m pc Ls stk)) := by
  subst hp hst has
  obtain ⟨v, _, ⟨T4, L4, k4, n4⟩, -, X4, ⟨Lc, hQ, l4, y4, z4⟩, st⟩ := Jvm.LawKit.callS X hx (y := y) hown (mvT hZ w1) (mvT hZ w2) (mvT hZ w3) (mvT hZ w4) hy (backOf (W := W) C hZ w4 w3 hfr hlo) (g := mkF m pc Ls (argsL.reverse ++ rest)) rfl hml (argsL := argsL) (rest := rest) (fun sig h => by rw [hpd] at h; cases h; exact hlen) rfl hW (hb hby hd) (fun _ _ => ⟨rfl, eT, hce, hsl⟩)
  dsimp only [Pt.U, Pt.locs, Pt.cells, Pt.slots] at X4 l4 y4 z4 st hQ
  subst l4 y4 z4
  exact (K v T4 Lc X4 hQ).pull st
theorem g_callI (X : Stand p l e R s m args below meth c T locs cells slots) (hx : p.tables.exec = Jvm.exec) {Z : State} {a0 : Array Value} (hZ : Z.Warmed39 s.vm) {own : String} (hown : s.vm.findClass own = some m.cls) {y : MethodName} {cb : ByteArray} {maxL : Nat} {rm : Room} {as' : Array Value} {h : Heap} {Q' : Option Value → Heap → List Loc → Prop} {W : Nat} {index : Nat} {argsL : List Value} {b : Addr} (hby : c.code = bytes) (hd : decode bytes pc = .ok (.invokespecial index, 3)) (hp : pc + 3 = pc') (hml : Ls.size = c.maxLocals)
    (w1 : (Jvm.Cond.methodLink own index y).before a0 Z = true) (w2 : (Jvm.Cond.instanceMethod y).before a0 Z = true) (w3 : (Jvm.Cond.initialized y.cls).before a0 Z = true) (w4 : (Jvm.Cond.code y cb maxL none).before a0 Z = true) (hin : y.name = "<init>") (hy : y.cls ≠ "java/lang/invoke/MethodHandle" ∧ y.cls ≠ "java/lang/invoke/VarHandle")
    (C : Ctr l Z y cb maxL none [] rm as' h Q') (eT : T.heap = h) (hfr : rm.frames + 1 ≤ R.frames) (hlo : W + (maxL + 11) + rm.locals ≤ R.locals) (hce : cells + rm.cells ≤ R.cells) (hsl : slots + rm.slots ≤ R.slots) {stk : List Value} {psig : MethodDescriptor} (has : (Value.ref b :: argsL).toArray = as') (hpd : parseMethodDescriptor y.desc = some psig) (hlen : argsL.length = psig.parameters.length) (hst : stk = argsL.reverse ++ Value.ref b :: rest) (hW : 2 * 0 + (rest.map fun v => v.category).sum ≤ W)
    (K : ∀ (v : Option Value) (T' : State) (L : List Loc), Stand p l e R s m args below meth c T' (locs ++ L) (cells + rm.cells) (slots + rm.slots) → Q' v T'.heap L → GoE p e below Fi (T'.setTop (mkF m pc' Ls (v.toList ++ rest)))) : GoE p e below Fi (T.setTop (mkF m pc Ls stk)) := by
  subst hp hst has
  obtain ⟨v, _, ⟨T4, L4, k4, n4⟩, -, X4, ⟨Lc, hQ, l4, y4, z4⟩, st⟩ := X.specialBack hx (y := y) hin hown (mvT hZ w1) (mvT hZ w2) (mvT hZ w4) hy (backOf (W := W) C hZ w4 w3 hfr hlo) (g := mkF m pc Ls (argsL.reverse ++ Value.ref b :: rest)) rfl hml (Steps.refl _) (a := b) (argsL := argsL) (rest := rest) (fun sig h => by rw [hpd] at h; cases h; exact hlen) rfl hW (hb hby hd) (fun _ _ => ⟨rfl, eT, hce, hsl⟩)
  dsimp only [Pt.U, Pt.locs, Pt.cells, Pt.slots] at X4 l4 y4 z4 st hQ
  subst l4 y4 z4
  exact (K v T4 Lc X4 hQ).pull fun t k => st.trans k
theorem g_callV (X : Stand p l e R s m args below meth c T locs cells slots) (hx : p.tables.exec = Jvm.exec) {Z : State} {a0 : Array Value} (hZ : Z.Warmed39 s.vm) {own : String} (hown : s.vm.findClass own = some m.cls) {y : MethodName} {cb : ByteArray} {maxL : Nat} {ret : Option FieldType} {rm : Room} {as' : Array Value} {h : Heap} {Q' : Option Value → Heap → List Loc → Prop} {W : Nat} {index : Nat} {argsL : List Value} {b : Addr} {z : MethodName} {C0 : String} (hby : c.code = bytes) (hd : decode bytes pc = .ok (.invokevirtual index, 3)) (hp : pc + 3 = pc') (hml : Ls.size = c.maxLocals)
    (w1 : (Jvm.Cond.methodLink own index y).before a0 Z = true) (w2 : (Jvm.Cond.declares y).before a0 Z = true) (w5 : (Jvm.Cond.selects C0 y z).before a0 Z = true) (nf : NotFace s y) (w6 : (Jvm.Cond.instanceMethod z).before a0 Z = true) (w3 : (Jvm.Cond.initialized z.cls).before a0 Z = true) (w4 : (Jvm.Cond.code z cb maxL ret).before a0 Z = true) (hy : y.cls ≠ "java/lang/invoke/MethodHandle" ∧ y.cls ≠ "java/lang/invoke/VarHandle")
    (C : Ctr l Z z cb maxL ret [] rm as' h Q') (eT : T.heap = h) (E : Exa Z h b C0) (hfr : rm.frames + 1 ≤ R.frames) (hlo : W + (maxL + 11) + rm.locals ≤ R.locals) (hce : cells + rm.cells ≤ R.cells) (hsl : slots + rm.slots ≤ R.slots) {stk : List Value} {psig : MethodDescriptor} (has : (Value.ref b :: argsL).toArray = as') (hpd : parseMethodDescriptor y.desc = some psig) (hlen : argsL.length = psig.parameters.length) (hst : stk = argsL.reverse ++ Value.ref b :: rest) (hW : 2 * 0 + (rest.map fun v => v.category).sum ≤ W)
    (K : ∀ (v : Option Value) (T' : State) (L : List Loc), Stand p l e R s m args below meth c T' (locs ++ L) (cells + rm.cells) (slots + rm.slots) → Q' v T'.heap L → GoE p e below Fi (T'.setTop (mkF m pc' Ls (v.toList ++ rest)))) : GoE p e below Fi (T.setTop (mkF m pc Ls stk)) := by
  subst hp hst has
  obtain ⟨cq, kq, qa, qb, qc⟩ := isOf hZ eT E
  obtain ⟨v, _, ⟨T4, L4, k4, n4⟩, -, X4, ⟨Lc, hQ, l4, y4, z4⟩, st⟩ := X.virtualBack hx (y := y) (z := z) hown (mvT hZ w1) (mvT hZ w2) nf (mvT hZ w5) (mvT hZ w6) hy (backOf (W := W) C hZ w4 w3 hfr hlo) qa qc (g := mkF m pc Ls (argsL.reverse ++ Value.ref b :: rest)) rfl hml (Steps.refl _) (argsL := argsL) (rest := rest) (fun sig h => by rw [hpd] at h; cases h; exact hlen) rfl hW (hb hby hd) (fun _ _ => ⟨rfl, eT, hce, hsl⟩)
  dsimp only [Pt.U, Pt.locs, Pt.cells, Pt.slots] at X4 l4 y4 z4 st hQ
  subst l4 y4 z4
  exact (K v T4 Lc X4 hQ).pull fun t k => st.trans k
theorem g_new (X : Stand p l e R s m args below meth c T locs cells slots) (hx : p.tables.exec = Jvm.exec) {Z : State} {a0 : Array Value} (hZ : Z.Warmed39 s.vm) {own : String} (hown : s.vm.findClass own = some m.cls) {C : String} {index n : Nat} {h : Heap} (hby : c.code = bytes) (hd : decode bytes pc = .ok (.new index, 3)) (hp : pc + 3 = pc') (w1 : (Jvm.Cond.classLink own index C).before a0 Z = true) (w2 : (Jvm.Cond.instantiable C n).before a0 Z = true) (w3 : (Jvm.Cond.initialized C).before a0 Z = true) (eT : T.heap = h) (hce : cells + 1 ≤ R.cells) (hsl : slots + n ≤ R.slots)
    (K : ∀ (T' : State) (b : Addr), b = h.size → Stand p l e R s m args below meth c T' locs (cells + 1) (slots + n) → Ext h T'.heap → Exa Z T'.heap b C → (∀ {O nm d : String} {ty : FieldType}, Laid Z a0 C O nm d → parseFieldDescriptor d = some ty → Fld Z T'.heap b O nm d (defaultValue ty)) → GoE p e below Fi (T'.setTop (mkF m pc' Ls (.ref b :: rest)))) : GoE p e below Fi (T.setTop (mkF m pc Ls rest)) := by
  subst hp
  obtain ⟨T2, h2, X2, e2, E2, A2, D2, -, st2⟩ := newO X hx hZ hown w1 w2 w3 eT (g := mkF m pc Ls rest) rfl (hb hby hd) hce hsl
  subst e2
  exact (K T2 _ rfl X2 E2 A2 D2).pull st2
theorem g_initO (X : Stand p l e R s m args below meth c T locs cells slots) (hx : p.tables.exec = Jvm.exec) {Z : State} {a0 : Array Value} (hZ : Z.Warmed39 s.vm) {own : String} (hown : s.vm.findClass own = some m.cls) {index : Nat} {h : Heap} {cb : ByteArray} {b : Addr} {W maxL : Nat} (hby : c.code = bytes) (hd : decode bytes pc = .ok (.invokespecial index, 3)) (hp : pc + 3 = pc') (hml : Ls.size = c.maxLocals)
    (F : ∃ T', Stand p l e R s m args below meth c T' locs cells slots ∧ T'.heap = h ∧ ∀ target, Steps p.tables e below (T'.setTop (mkF m (pc + 3) Ls rest)) target → Steps p.tables e below (T.setTop (mkF m pc Ls (.ref b :: rest))) target)
    (K : ∀ T' : State, Stand p l e R s m args below meth c T' locs cells slots → T'.heap = h → GoE p e below Fi (T'.setTop (mkF m pc' Ls rest))) : GoE p e below Fi (T.setTop (mkF m pc Ls (.ref b :: rest))) := by
  subst hp
  obtain ⟨T2, X2, e2, st2⟩ := F
  exact (K T2 X2 e2).pull st2
theorem g_get (X : Stand p l e R s m args below meth c T locs cells slots) (hx : p.tables.exec = Jvm.exec) {Z : State} {a0 : Array Value} (hZ : Z.Warmed39 s.vm) {own : String} (hown : s.vm.findClass own = some m.cls) {O n d : String} {index : Nat} {h : Heap} {a : Addr} {v : Value} (hby : c.code = bytes) (hd : decode bytes pc = .ok (.getfield index, 3)) (hp : pc + 3 = pc') (w : (Jvm.Cond.fieldLink own index O n d).before a0 Z = true) (eT : T.heap = h) (F : Fld Z h a O n d v)
    (K : ∀ T' : State, Stand p l e R s m args below meth c T' locs cells slots → T'.heap = h → GoE p e below Fi (T'.setTop (mkF m pc' Ls (v :: rest)))) : GoE p e below Fi (T.setTop (mkF m pc Ls (.ref a :: rest))) := by
  subst hp
  obtain ⟨T2, X2, e2, st2⟩ := getF X hx hZ hown (host := "") (Or.inl w) Via.refl eT F (g := mkF m pc Ls (.ref a :: rest)) rfl rfl (hb hby hd)
  exact (K T2 X2 e2).pull st2
theorem g_put (X : Stand p l e R s m args below meth c T locs cells slots) (hx : p.tables.exec = Jvm.exec) {Z : State} {a0 : Array Value} (hZ : Z.Warmed39 s.vm) {own : String} (hown : s.vm.findClass own = some m.cls) {O n d C : String} {index kk : Nat} {ty : FieldType} {h : Heap} {a : Addr} {v old : Value} (hby : c.code = bytes) (hd : decode bytes pc = .ok (.putfield index, 3)) (hp : pc + 3 = pc') (w : (Jvm.Cond.fieldLink own index O n d).before a0 Z = true) (eT : T.heap = h) (F : Fld Z h a O n d old) (E : Exa Z h a C) (Lf : (Jvm.Cond.lays C O n d).before a0 Z = true ∨ ((Jvm.Cond.laysFinal C O n d).before a0 Z = true ∧ own = O ∧ meth.name = "<init>")) (wi : (Jvm.Cond.instantiable C kk).before a0 Z = true) (hty : parseFieldDescriptor d = some ty) (hn : narrow ty v = v) (hf : fits ty v = true)
    (K : ∀ T' : State, Stand p l e R s m args below meth c T' (locs ++ [⟨a, RoadKit.slotOf Z O n d⟩]) cells slots → Wr h T'.heap a (RoadKit.slotOf Z O n d) v → GoE p e below Fi (T'.setTop (mkF m pc' Ls rest))) : GoE p e below Fi (T.setTop (mkF m pc Ls (v :: .ref a :: rest))) := by
  subst hp
  obtain ⟨T2, h2, X2, e2, W2, st2⟩ := putF X hx hZ hown (host := "") (Or.inl w) Via.refl eT F E Lf wi hty hn hf (g := mkF m pc Ls (v :: .ref a :: rest)) rfl rfl (hb hby hd)
  subst e2
  exact (K T2 X2 W2).pull st2
theorem g_getS (X : Stand p l e R s m args below meth c T locs cells slots) (hx : p.tables.exec = Jvm.exec) {Z : State} {a0 : Array Value} (hZ : Z.Warmed39 s.vm) {own : String} (hown : s.vm.findClass own = some m.cls) {O n d : String} {index : Nat} {h : Heap} {v : Value} (hby : c.code = bytes) (hd : decode bytes pc = .ok (.getstatic index, 3)) (hp : pc + 3 = pc') (w : (Jvm.Cond.fieldLink own index O n d).before a0 Z = true) (eT : T.heap = h) (F : Sta Z h O n d v)
    (K : ∀ T' : State, Stand p l e R s m args below meth c T' locs cells slots → T'.heap = h → GoE p e below Fi (T'.setTop (mkF m pc' Ls (v :: rest)))) : GoE p e below Fi (T.setTop (mkF m pc Ls rest)) := by
  subst hp
  obtain ⟨T2, X2, e2, st2⟩ := getS X hx hZ hown (host := "") w Via.refl eT F (g := mkF m pc Ls rest) rfl (hb hby hd)
  exact (K T2 X2 e2).pull st2
theorem g_iaload (X : Stand p l e R s m args below meth c T locs cells slots) (hx : p.tables.exec = Jvm.exec) {Z : State} (hZ : Z.Warmed39 s.vm) {h : Heap} {a : Addr} {k : ClassId} {n : Int32} {vs : List Value} {dv : Value} {j : Int32} {v : Value} (hby : c.code = bytes) (hd : decode bytes pc = .ok (.iaload, 1)) (hp : pc + 1 = pc') (eT : T.heap = h) (F : Arv Z h a k .int n vs dv) (hj : ¬ j < 0 ∧ j < n) (u : vs.getD j.toNatClampNeg dv = v)
    (H : GoE p e below Fi (T.setTop (mkF m pc' Ls (v :: rest)))) : GoE p e below Fi (T.setTop (mkF m pc Ls (.int j :: .ref a :: rest))) := by
  subst hp
  obtain ⟨cl, A, q1, S, q3, Hh, G⟩ := F
  exact H.pull fun t k => X.iaload hx (by rw [eT]; exact A.1) (State.isArrayOf_alike hZ.alike A.2.1) A.2.2 (inb_of S hj) (Hh.at (inb_of S hj) u) (g := mkF m pc Ls (.int j :: .ref a :: rest)) rfl rfl (hb hby hd) _ k
theorem g_laload (X : Stand p l e R s m args below meth c T locs cells slots) (hx : p.tables.exec = Jvm.exec) {Z : State} (hZ : Z.Warmed39 s.vm) {h : Heap} {a : Addr} {k : ClassId} {n : Int32} {vs : List Value} {dv : Value} {j : Int32} {v : Value} (hby : c.code = bytes) (hd : decode bytes pc = .ok (.laload, 1)) (hp : pc + 1 = pc') (eT : T.heap = h) (F : Arv Z h a k .long n vs dv) (hj : ¬ j < 0 ∧ j < n) (u : vs.getD j.toNatClampNeg dv = v)
    (H : GoE p e below Fi (T.setTop (mkF m pc' Ls (v :: rest)))) : GoE p e below Fi (T.setTop (mkF m pc Ls (.int j :: .ref a :: rest))) := by
  subst hp
  obtain ⟨cl, A, q1, S, q3, Hh, G⟩ := F
  exact H.pull fun t k => X.laload hx (by rw [eT]; exact A.1) (State.isArrayOf_alike hZ.alike A.2.1) A.2.2 (inb_of S hj) (Hh.at (inb_of S hj) u) (g := mkF m pc Ls (.int j :: .ref a :: rest)) rfl rfl (hb hby hd) _ k
theorem g_caload (X : Stand p l e R s m args below meth c T locs cells slots) (hx : p.tables.exec = Jvm.exec) {Z : State} (hZ : Z.Warmed39 s.vm) {h : Heap} {a : Addr} {k : ClassId} {n : Int32} {vs : List Value} {dv : Value} {j : Int32} {v : Value} (hby : c.code = bytes) (hd : decode bytes pc = .ok (.caload, 1)) (hp : pc + 1 = pc') (eT : T.heap = h) (F : Arv Z h a k .char n vs dv) (hj : ¬ j < 0 ∧ j < n) (u : vs.getD j.toNatClampNeg dv = v)
    (H : GoE p e below Fi (T.setTop (mkF m pc' Ls (v :: rest)))) : GoE p e below Fi (T.setTop (mkF m pc Ls (.int j :: .ref a :: rest))) := by
  subst hp
  obtain ⟨cl, A, q1, S, q3, Hh, G⟩ := F
  exact H.pull fun t k => X.caload hx (by rw [eT]; exact A.1) (State.isArrayOf_alike hZ.alike A.2.1) A.2.2 (inb_of S hj) (Hh.at (inb_of S hj) u) (g := mkF m pc Ls (.int j :: .ref a :: rest)) rfl rfl (hb hby hd) _ k
theorem g_baload (X : Stand p l e R s m args below meth c T locs cells slots) (hx : p.tables.exec = Jvm.exec) {Z : State} (hZ : Z.Warmed39 s.vm) {h : Heap} {a : Addr} {k : ClassId} {n : Int32} {vs : List Value} {dv : Value} {j : Int32} {v : Value} (hby : c.code = bytes) (hd : decode bytes pc = .ok (.baload, 1)) (hp : pc + 1 = pc') (eT : T.heap = h) (F : Arv Z h a k .byte n vs dv) (hj : ¬ j < 0 ∧ j < n) (u : vs.getD j.toNatClampNeg dv = v)
    (H : GoE p e below Fi (T.setTop (mkF m pc' Ls (v :: rest)))) : GoE p e below Fi (T.setTop (mkF m pc Ls (.int j :: .ref a :: rest))) := by
  subst hp
  obtain ⟨cl, A, q1, S, q3, Hh, G⟩ := F
  exact H.pull fun t k => X.baloadBytes hx (by rw [eT]; exact A.1) (State.isArrayOf_alike hZ.alike A.2.1) A.2.2 (inb_of S hj) (Hh.at (inb_of S hj) u) (g := mkF m pc Ls (.int j :: .ref a :: rest)) rfl rfl (hb hby hd) _ k
theorem g_daload (X : Stand p l e R s m args below meth c T locs cells slots) (hx : p.tables.exec = Jvm.exec) {Z : State} (hZ : Z.Warmed39 s.vm) {h : Heap} {a : Addr} {k : ClassId} {n : Int32} {vs : List Value} {dv : Value} {j : Int32} {v : Value} (hby : c.code = bytes) (hd : decode bytes pc = .ok (.daload, 1)) (hp : pc + 1 = pc') (eT : T.heap = h) (F : Arv Z h a k .double n vs dv) (hj : ¬ j < 0 ∧ j < n) (u : vs.getD j.toNatClampNeg dv = v)
    (H : GoE p e below Fi (T.setTop (mkF m pc' Ls (v :: rest)))) : GoE p e below Fi (T.setTop (mkF m pc Ls (.int j :: .ref a :: rest))) := by
  subst hp
  obtain ⟨cl, A, q1, S, q3, Hh, G⟩ := F
  exact H.pull fun t k => X.daload hx (by rw [eT]; exact A.1) (State.isArrayOf_alike hZ.alike A.2.1) A.2.2 (inb_of S hj) (Hh.at (inb_of S hj) u) (g := mkF m pc Ls (.int j :: .ref a :: rest)) rfl rfl (hb hby hd) _ k
theorem g_aaload (X : Stand p l e R s m args below meth c T locs cells slots) (hx : p.tables.exec = Jvm.exec) {Z : State} (hZ : Z.Warmed39 s.vm) {h : Heap} {a : Addr} {k : ClassId} {n : Int32} {vs : List Value} {dv : Value} {ty : FieldType} {j : Int32} {v : Value} (hby : c.code = bytes) (hd : decode bytes pc = .ok (.aaload, 1)) (hp : pc + 1 = pc') (eT : T.heap = h) (F : Arv Z h a k ty n vs dv) (hty : ty.isReference = true) (hj : ¬ j < 0 ∧ j < n) (u : vs.getD j.toNatClampNeg dv = v)
    (H : GoE p e below Fi (T.setTop (mkF m pc' Ls (v :: rest)))) : GoE p e below Fi (T.setTop (mkF m pc Ls (.int j :: .ref a :: rest))) := by
  subst hp
  obtain ⟨cl, A, q1, S, q3, Hh, G⟩ := F
  exact H.pull fun t k => X.aaload hx (by rw [eT]; exact A.1) (State.isArrayOf_alike hZ.alike A.2.1) hty A.2.2 (inb_of S hj) (Hh.at (inb_of S hj) u) (g := mkF m pc Ls (.int j :: .ref a :: rest)) rfl rfl (hb hby hd) _ k
theorem g_alen (X : Stand p l e R s m args below meth c T locs cells slots) (hx : p.tables.exec = Jvm.exec) {Z : State} (hZ : Z.Warmed39 s.vm) {h : Heap} {a : Addr} {k : ClassId} {n : Int32} {vs : List Value} {dv : Value} {ty : FieldType} (hby : c.code = bytes) (hd : decode bytes pc = .ok (.arraylength, 1)) (hp : pc + 1 = pc') (eT : T.heap = h) (F : Arv Z h a k ty n vs dv)
    (H : GoE p e below Fi (T.setTop (mkF m pc' Ls (.int n :: rest)))) : GoE p e below Fi (T.setTop (mkF m pc Ls (.ref a :: rest))) := by
  subst hp
  obtain ⟨cl, A, q1, S, q3, Hh, G⟩ := F
  exact H.pull fun t k => X.arraylength hx (by rw [eT]; exact A.1) (State.isArrayOf_alike hZ.alike A.2.1) (g := mkF m pc Ls (.ref a :: rest)) rfl rfl (hb hby hd) _ (by rw [len_of S q3]; exact k)
theorem g_iastore (X : Stand p l e R s m args below meth c T locs cells slots) (hx : p.tables.exec = Jvm.exec) {Z : State} (hZ : Z.Warmed39 s.vm) {h : Heap} {a : Addr} {k : ClassId} {n : Int32} {vs : List Value} {dv : Value} {j : Int32} {x : Int32} (i : Nat) (hby : c.code = bytes) (hd : decode bytes pc = .ok (.iastore, 1)) (hp : pc + 1 = pc') (eT : T.heap = h) (F : Arv Z h a k .int n vs dv) (hj : ¬ j < 0 ∧ j < n) (hji : j.toNatClampNeg = i) (hi : i < vs.length)
    (K : ∀ T' : State, Stand p l e R s m args below meth c T' (locs ++ [⟨a, j.toNatClampNeg⟩]) cells slots → Wr h T'.heap a j.toNatClampNeg (.int x) → Arv Z T'.heap a k .int n (vs.set i (.int x)) dv → GoE p e below Fi (T'.setTop (mkF m pc' Ls rest))) : GoE p e below Fi (T.setTop (mkF m pc Ls (.int x :: .int j :: .ref a :: rest))) := by
  subst hp
  obtain ⟨cl, A, q1, S, q3, Hh, G⟩ := F
  obtain ⟨T2, h2, X2, e2, W2, st2⟩ := stI X hx hZ eT A (inb_of S hj) (g := mkF m pc Ls (.int x :: .int j :: .ref a :: rest)) rfl rfl (hb hby hd)
  subst e2
  exact (K T2 X2 W2 (Arv.set A q1 S q3 Hh G rfl W2 i hji hi)).pull st2
theorem g_lastore (X : Stand p l e R s m args below meth c T locs cells slots) (hx : p.tables.exec = Jvm.exec) {Z : State} (hZ : Z.Warmed39 s.vm) {h : Heap} {a : Addr} {k : ClassId} {n : Int32} {vs : List Value} {dv : Value} {j : Int32} {x : Int64} (i : Nat) (hby : c.code = bytes) (hd : decode bytes pc = .ok (.lastore, 1)) (hp : pc + 1 = pc') (eT : T.heap = h) (F : Arv Z h a k .long n vs dv) (hj : ¬ j < 0 ∧ j < n) (hji : j.toNatClampNeg = i) (hi : i < vs.length)
    (K : ∀ T' : State, Stand p l e R s m args below meth c T' (locs ++ [⟨a, j.toNatClampNeg⟩]) cells slots → Wr h T'.heap a j.toNatClampNeg (.long x) → Arv Z T'.heap a k .long n (vs.set i (.long x)) dv → GoE p e below Fi (T'.setTop (mkF m pc' Ls rest))) : GoE p e below Fi (T.setTop (mkF m pc Ls (.long x :: .int j :: .ref a :: rest))) := by
  subst hp
  obtain ⟨cl, A, q1, S, q3, Hh, G⟩ := F
  obtain ⟨T2, h2, X2, e2, W2, st2⟩ := stJ X hx hZ eT A (inb_of S hj) (g := mkF m pc Ls (.long x :: .int j :: .ref a :: rest)) rfl rfl (hb hby hd)
  subst e2
  exact (K T2 X2 W2 (Arv.set A q1 S q3 Hh G rfl W2 i hji hi)).pull st2
theorem g_castore (X : Stand p l e R s m args below meth c T locs cells slots) (hx : p.tables.exec = Jvm.exec) {Z : State} (hZ : Z.Warmed39 s.vm) {h : Heap} {a : Addr} {k : ClassId} {n : Int32} {vs : List Value} {dv : Value} {j : Int32} {x : Int32} (i : Nat) (hby : c.code = bytes) (hd : decode bytes pc = .ok (.castore, 1)) (hp : pc + 1 = pc') (eT : T.heap = h) (F : Arv Z h a k .char n vs dv) (hj : ¬ j < 0 ∧ j < n) (hji : j.toNatClampNeg = i) (hi : i < vs.length)
    (K : ∀ T' : State, Stand p l e R s m args below meth c T' (locs ++ [⟨a, j.toNatClampNeg⟩]) cells slots → Wr h T'.heap a j.toNatClampNeg (.int (nar .char x)) → Arv Z T'.heap a k .char n (vs.set i (.int (nar .char x))) dv → GoE p e below Fi (T'.setTop (mkF m pc' Ls rest))) : GoE p e below Fi (T.setTop (mkF m pc Ls (.int x :: .int j :: .ref a :: rest))) := by
  subst hp
  obtain ⟨cl, A, q1, S, q3, Hh, G⟩ := F
  obtain ⟨T2, h2, X2, e2, W2, st2⟩ := stC X hx hZ eT A (inb_of S hj) (g := mkF m pc Ls (.int x :: .int j :: .ref a :: rest)) rfl rfl (hb hby hd)
  subst e2
  exact (K T2 X2 W2 (Arv.set A q1 S q3 Hh G (fits_nar_char x) W2 i hji hi)).pull st2
theorem g_bastore (X : Stand p l e R s m args below meth c T locs cells slots) (hx : p.tables.exec = Jvm.exec) {Z : State} (hZ : Z.Warmed39 s.vm) {h : Heap} {a : Addr} {k : ClassId} {n : Int32} {vs : List Value} {dv : Value} {j : Int32} {x : Int32} (i : Nat) (hby : c.code = bytes) (hd : decode bytes pc = .ok (.bastore, 1)) (hp : pc + 1 = pc') (eT : T.heap = h) (F : Arv Z h a k .byte n vs dv) (hj : ¬ j < 0 ∧ j < n) (hji : j.toNatClampNeg = i) (hi : i < vs.length)
    (K : ∀ T' : State, Stand p l e R s m args below meth c T' (locs ++ [⟨a, j.toNatClampNeg⟩]) cells slots → Wr h T'.heap a j.toNatClampNeg (.int (nar .byte x)) → Arv Z T'.heap a k .byte n (vs.set i (.int (nar .byte x))) dv → GoE p e below Fi (T'.setTop (mkF m pc' Ls rest))) : GoE p e below Fi (T.setTop (mkF m pc Ls (.int x :: .int j :: .ref a :: rest))) := by
  subst hp
  obtain ⟨cl, A, q1, S, q3, Hh, G⟩ := F
  obtain ⟨T2, h2, X2, e2, W2, st2⟩ := stB X hx hZ eT A (inb_of S hj) (g := mkF m pc Ls (.int x :: .int j :: .ref a :: rest)) rfl rfl (hb hby hd)
  subst e2
  exact (K T2 X2 W2 (Arv.set A q1 S q3 Hh G (fits_nar_byte x) W2 i hji hi)).pull st2
theorem g_dastore (X : Stand p l e R s m args below meth c T locs cells slots) (hx : p.tables.exec = Jvm.exec) {Z : State} (hZ : Z.Warmed39 s.vm) {h : Heap} {a : Addr} {k : ClassId} {n : Int32} {vs : List Value} {dv : Value} {j : Int32} {x : UInt64} (i : Nat) (hby : c.code = bytes) (hd : decode bytes pc = .ok (.dastore, 1)) (hp : pc + 1 = pc') (eT : T.heap = h) (F : Arv Z h a k .double n vs dv) (hj : ¬ j < 0 ∧ j < n) (hji : j.toNatClampNeg = i) (hi : i < vs.length)
    (K : ∀ T' : State, Stand p l e R s m args below meth c T' (locs ++ [⟨a, j.toNatClampNeg⟩]) cells slots → Wr h T'.heap a j.toNatClampNeg (.double x) → Arv Z T'.heap a k .double n (vs.set i (.double x)) dv → GoE p e below Fi (T'.setTop (mkF m pc' Ls rest))) : GoE p e below Fi (T.setTop (mkF m pc Ls (.double x :: .int j :: .ref a :: rest))) := by
  subst hp
  obtain ⟨cl, A, q1, S, q3, Hh, G⟩ := F
  obtain ⟨T2, h2, X2, e2, W2, st2⟩ := stD X hx hZ eT A (inb_of S hj) (g := mkF m pc Ls (.double x :: .int j :: .ref a :: rest)) rfl rfl (hb hby hd)
  subst e2
  exact (K T2 X2 W2 (Arv.set A q1 S q3 Hh G rfl W2 i hji hi)).pull st2
theorem g_newarray (X : Stand p l e R s m args below meth c T locs cells slots) (hx : p.tables.exec = Jvm.exec) {Z : State} {a0 : Array Value} (hZ : Z.Warmed39 s.vm) {aty : ArrayType} {h : Heap} {n : Int32} (cap : Nat) (ad : String) (hby : c.code = bytes) (hd : decode bytes pc = .ok (.newarray aty, 2)) (hp : pc + 2 = pc') (w : (Jvm.Cond.arrayClass (newarray.typeOf aty)).before a0 Z = true) (eT : T.heap = h) (hn : ¬ n < 0) (hcap : n.toNatClampNeg ≤ cap) (hbg : cap * 8 ≤ 536870912) (hce : cells + 1 ≤ R.cells) (hsl : slots + cap ≤ R.slots) (had : "[" ++ (newarray.typeOf aty).toString = ad)
    (K : ∀ (T' : State) (b : Addr) (cA : ClassId), b = h.size → Stand p l e R s m args below meth c T' locs (cells + 1) (slots + cap) → Ext h T'.heap → Arv Z T'.heap b cA (newarray.typeOf aty) n (List.replicate cap (defaultValue (newarray.typeOf aty))) (defaultValue (newarray.typeOf aty)) → Exa Z T'.heap b ad → GoE p e below Fi (T'.setTop (mkF m pc' Ls (.ref b :: rest)))) : GoE p e below Fi (T.setTop (mkF m pc Ls (.int n :: rest))) := by
  subst hp
  obtain ⟨T2, h2, cA, X2, e2, E2, A2, Ex2, st2⟩ := newPE X hx hZ w eT (g := mkF m pc Ls (.int n :: rest)) rfl (hb hby hd) rfl hn hcap hbg hce hsl had
  subst e2
  exact (K T2 _ cA rfl X2 E2 ((Arv.new A2 hn).pad (pad_rep [] _ cap)) Ex2).pull st2
theorem g_lswHit (X : Stand p l e R s m args below meth c T locs cells slots) (hx : p.tables.exec = Jvm.exec) {k : Int32} {dflt : Int} {pairs : Array (Int × Int)} {len : Nat} {a off : Int} (hby : c.code = bytes) (hd : decode bytes pc = .ok (.lookupswitch dflt pairs, len)) (hs : (pairs.toList.zip (pairs.toList.drop 1)).all (fun (a, next) => a.1 < next.1) = true) (hf : pairs.find? (·.1 == k.toInt) = some (a, off)) (ho : 0 ≤ (pc : Int) + off) (hp : ((pc : Int) + off).toNat = pc')
    (H : GoE p e below Fi (T.setTop (mkF m pc' Ls rest))) : GoE p e below Fi (T.setTop (mkF m pc Ls (.int k :: rest))) := by
  subst hp
  exact H.pull fun t q => X.lookupswitchHit hx (g := mkF m pc Ls (.int k :: rest)) rfl rfl (hb hby hd) hs hf ho _ q
theorem g_lswMiss (X : Stand p l e R s m args below meth c T locs cells slots) (hx : p.tables.exec = Jvm.exec) {k : Int32} {dflt : Int} {pairs : Array (Int × Int)} {len : Nat} (hby : c.code = bytes) (hd : decode bytes pc = .ok (.lookupswitch dflt pairs, len)) (hs : (pairs.toList.zip (pairs.toList.drop 1)).all (fun (a, next) => a.1 < next.1) = true) (hf : pairs.find? (·.1 == k.toInt) = none) (ho : 0 ≤ (pc : Int) + dflt) (hp : ((pc : Int) + dflt).toNat = pc')
    (H : GoE p e below Fi (T.setTop (mkF m pc' Ls rest))) : GoE p e below Fi (T.setTop (mkF m pc Ls (.int k :: rest))) := by
  subst hp
  exact H.pull fun t q => X.lookupswitchMiss hx (g := mkF m pc Ls (.int k :: rest)) rfl rfl (hb hby hd) hs hf ho _ q
theorem g_castY (X : Stand p l e R s m args below meth c T locs cells slots) (hx : p.tables.exec = Jvm.exec) {Z : State} {a0 : Array Value} (hZ : Z.Warmed39 s.vm) {own : String} (hown : s.vm.findClass own = some m.cls) {C : String} {index : Nat} {h : Heap} {a : Addr} (hby : c.code = bytes) (hd : decode bytes pc = .ok (.checkcast index, 3)) (hp : pc + 3 = pc') (w : (Jvm.Cond.classLink own index C).before a0 Z = true) (eT : T.heap = h) (F : Ins Z h a C true)
    (K : ∀ T' : State, Stand p l e R s m args below meth c T' locs cells slots → T'.heap = h → GoE p e below Fi (T'.setTop (mkF m pc' Ls (.ref a :: rest)))) : GoE p e below Fi (T.setTop (mkF m pc Ls (.ref a :: rest))) := by
  subst hp
  obtain ⟨T2, X2, e2, st2⟩ := castY X hx hZ hown w eT F (g := mkF m pc Ls (.ref a :: rest)) rfl rfl (hb hby hd)
  exact (K T2 X2 e2).pull st2
theorem g_instY (X : Stand p l e R s m args below meth c T locs cells slots) (hx : p.tables.exec = Jvm.exec) {Z : State} {a0 : Array Value} (hZ : Z.Warmed39 s.vm) {own : String} (hown : s.vm.findClass own = some m.cls) {C : String} {index : Nat} {h : Heap} {a : Addr} (hby : c.code = bytes) (hd : decode bytes pc = .ok (.instanceof index, 3)) (hp : pc + 3 = pc') (w : (Jvm.Cond.classLink own index C).before a0 Z = true) (eT : T.heap = h) (F : Ins Z h a C true)
    (K : ∀ T' : State, Stand p l e R s m args below meth c T' locs cells slots → T'.heap = h → GoE p e below Fi (T'.setTop (mkF m pc' Ls (.int 1 :: rest)))) : GoE p e below Fi (T.setTop (mkF m pc Ls (.ref a :: rest))) := by
  subst hp
  obtain ⟨T2, X2, e2, st2⟩ := instY X hx hZ hown w eT F (g := mkF m pc Ls (.ref a :: rest)) rfl rfl (hb hby hd)
  exact (K T2 X2 e2).pull st2
theorem g_instNo (X : Stand p l e R s m args below meth c T locs cells slots) (hx : p.tables.exec = Jvm.exec) {Z : State} {a0 : Array Value} (hZ : Z.Warmed39 s.vm) {own : String} (hown : s.vm.findClass own = some m.cls) {C D : String} {index : Nat} {h : Heap} {a : Addr} (hby : c.code = bytes) (hd : decode bytes pc = .ok (.instanceof index, 3)) (hp : pc + 3 = pc') (w : (Jvm.Cond.classLink own index C).before a0 Z = true) (eT : T.heap = h) (E : Exa Z h a D) (F : ∃ c t, Z.vm.findClass D = some c ∧ Z.vm.findClass C = some t ∧ Z.vm.assignable c t = false)
    (K : ∀ T' : State, Stand p l e R s m args below meth c T' locs cells slots → T'.heap = h → GoE p e below Fi (T'.setTop (mkF m pc' Ls (.int 0 :: rest)))) : GoE p e below Fi (T.setTop (mkF m pc Ls (.ref a :: rest))) := by
  subst hp
  obtain ⟨T2, X2, e2, st2⟩ := instNo X hx hZ hown w eT E F (g := mkF m pc Ls (.ref a :: rest)) rfl rfl (hb hby hd)
  exact (K T2 X2 e2).pull st2
theorem g_callIf (X : Stand p l e R s m args below meth c T locs cells slots) (hx : p.tables.exec = Jvm.exec) {Z : State} {a0 : Array Value} (hZ : Z.Warmed39 s.vm) {own : String} (hown : s.vm.findClass own = some m.cls) {y : MethodName} {cb : ByteArray} {maxL : Nat} {ret : Option FieldType} {rm : Room} {as' : Array Value} {h : Heap} {Q' : Option Value → Heap → List Loc → Prop} {W : Nat} {index : Nat} {argsL : List Value} {b : Addr} {z : MethodName} {C0 : String} {count : Nat} (hby : c.code = bytes) (hd : decode bytes pc = .ok (.invokeinterface index count, 5)) (hp : pc + 5 = pc') (hml : Ls.size = c.maxLocals)
    (w1 : (Jvm.Cond.methodLink own index y).before a0 Z = true) (w2 : (Jvm.Cond.declares y).before a0 Z = true) (w7 : (Jvm.Cond.interfaceMethod y.cls y.cls y.name y.desc).before a0 Z = true) (hd7 : ((Jvm.Cond.interfaceMethod y.cls y.cls y.name y.desc).onTables && (Jvm.Cond.interfaceMethod y.cls y.cls y.name y.desc).keepsFace) = true) (w5 : (Jvm.Cond.selects C0 y z).before a0 Z = true) (w6 : (Jvm.Cond.instanceMethod z).before a0 Z = true) (w8 : (Jvm.Cond.publicMethod z).before a0 Z = true) (w9 : (Jvm.Cond.unhidden C0 y.name y.desc).before a0 Z = true) (w10 : (Jvm.Cond.castable C0 y.cls).before a0 Z = true) (w3 : (Jvm.Cond.initialized z.cls).before a0 Z = true) (w4 : (Jvm.Cond.code z cb maxL ret).before a0 Z = true) (hy : y.cls ≠ "java/lang/invoke/MethodHandle" ∧ y.cls ≠ "java/lang/invoke/VarHandle")
    (C : Ctr l Z z cb maxL ret [] rm as' h Q') (eT : T.heap = h) (E : Exa Z h b C0) (hfr : rm.frames + 1 ≤ R.frames) (hlo : W + (maxL + 11) + rm.locals ≤ R.locals) (hce : cells + rm.cells ≤ R.cells) (hsl : slots + rm.slots ≤ R.slots) {stk : List Value} {psig : MethodDescriptor} (has : (Value.ref b :: argsL).toArray = as') (hpd : parseMethodDescriptor y.desc = some psig) (hlen : argsL.length = psig.parameters.length) (hst : stk = argsL.reverse ++ Value.ref b :: rest) (hW : 2 * 0 + (rest.map fun v => v.category).sum ≤ W)
    (K : ∀ (v : Option Value) (T' : State) (L : List Loc), Stand p l e R s m args below meth c T' (locs ++ L) (cells + rm.cells) (slots + rm.slots) → Q' v T'.heap L → GoE p e below Fi (T'.setTop (mkF m pc' Ls (v.toList ++ rest)))) : GoE p e below Fi (T.setTop (mkF m pc Ls stk)) := by
  subst hp hst has
  obtain ⟨cq, kq, qa, qb, qc⟩ := isOf hZ eT E
  obtain ⟨v, _, ⟨T4, L4, k4, n4⟩, -, X4, ⟨Lc, hQ, l4, y4, z4⟩, st⟩ := X.interfaceBack hx (xi := y) (y := z) hown (mvT hZ w1) (mvT hZ w2) (mvT hZ w7 hd7) (mvT hZ w5) (mvT hZ w6) (mvT hZ w8) (mvT hZ w9) (mvT hZ w10) hy (backOf (W := W) C hZ w4 w3 hfr hlo) qa qb qc (g := mkF m pc Ls (argsL.reverse ++ Value.ref b :: rest)) rfl hml (Steps.refl _) (argsL := argsL) (rest := rest) (fun sig h => by rw [hpd] at h; cases h; exact hlen) rfl hW (hb hby hd) (fun _ _ => ⟨rfl, eT, hce, hsl⟩)
  dsimp only [Pt.U, Pt.locs, Pt.cells, Pt.slots] at X4 l4 y4 z4 st hQ
  subst l4 y4 z4
  exact (K v T4 Lc X4 hQ).pull fun t k => st.trans k
theorem g_anewarrayA (X : Stand p l e R s m args below meth c T locs cells slots) (hx : p.tables.exec = Jvm.exec) {Z : State} {a0 : Array Value} (hZ : Z.Warmed39 s.vm) {own : String} (hown : s.vm.findClass own = some m.cls) {C : String} {ty : FieldType} {index : Nat} {h : Heap} {n : Int32} (cap : Nat) (ad : String) (hby : c.code = bytes) (hd : decode bytes pc = .ok (.anewarray index, 3)) (hp : pc + 3 = pc') (hC : (FieldType.array ty).toString = C) (w1 : (Jvm.Cond.classLink own index C).before a0 Z = true) (w2 : (Jvm.Cond.arrayOver (.array ty)).before a0 Z = true) (eT : T.heap = h) (hn : ¬ n < 0) (hcap : n.toNatClampNeg ≤ cap) (hbg : cap * 8 ≤ 536870912) (hce : cells + 1 ≤ R.cells) (hsl : slots + cap ≤ R.slots) (had : "[" ++ C = ad)
    (K : ∀ (T' : State) (b : Addr) (cA : ClassId), b = h.size → Stand p l e R s m args below meth c T' locs (cells + 1) (slots + cap) → Ext h T'.heap → Arv Z T'.heap b cA (.array ty) n (List.replicate cap .null) .null → Exa Z T'.heap b ad → OvrA Z cA ty C → GoE p e below Fi (T'.setTop (mkF m pc' Ls (.ref b :: rest)))) : GoE p e below Fi (T.setTop (mkF m pc Ls (.int n :: rest))) := by
  subst hp
  obtain ⟨T2, h2, cA, X2, e2, E2, A2, Ex2, O2, st2⟩ := newRA X hx hZ hown hC w1 w2 eT (g := mkF m pc Ls (.int n :: rest)) rfl (hb hby hd) rfl hn hcap hbg hce hsl had
  subst e2
  exact (K T2 _ cA rfl X2 E2 ((Arv.new A2 hn).pad (pad_rep [] _ cap)) Ex2 O2).pull st2
theorem g_aastore (X : Stand p l e R s m args below meth c T locs cells slots) (hx : p.tables.exec = Jvm.exec) {Z : State} (hZ : Z.Warmed39 s.vm) {h : Heap} {a : Addr} {k : ClassId} {n : Int32} {vs : List Value} {dv : Value} {ty : FieldType} {j : Int32} {v : Value} (i : Nat) (hby : c.code = bytes) (hd : decode bytes pc = .ok (.aastore, 1)) (hp : pc + 1 = pc') (eT : T.heap = h) (F : Arv Z h a k ty n vs dv) (hty : ty.isReference = true) (hS : ∀ cl : Cell, Arr Z h a cl ty → cl.cls = k → Sto Z h a v) (hfv : fits ty v = true) (hj : ¬ j < 0 ∧ j < n) (hji : j.toNatClampNeg = i) (hi : i < vs.length)
    (K : ∀ T' : State, Stand p l e R s m args below meth c T' (locs ++ [⟨a, j.toNatClampNeg⟩]) cells slots → Wr h T'.heap a j.toNatClampNeg v → Arv Z T'.heap a k ty n (vs.set i v) dv → GoE p e below Fi (T'.setTop (mkF m pc' Ls rest))) : GoE p e below Fi (T.setTop (mkF m pc Ls (v :: .int j :: .ref a :: rest))) := by
  subst hp
  obtain ⟨cl, A, q1, S, q3, Hh, G⟩ := F
  obtain ⟨T2, h2, X2, e2, W2, st2⟩ := stR X hx hZ eT A (inb_of S hj) hty (hS cl A q1) (g := mkF m pc Ls (v :: .int j :: .ref a :: rest)) rfl rfl (hb hby hd)
  subst e2
  exact (K T2 X2 W2 (Arv.set A q1 S q3 Hh G hfv W2 i hji hi)).pull st2
theorem g_instNull (X : Stand p l e R s m args below meth c T locs cells slots) (hx : p.tables.exec = Jvm.exec) {index : Nat} (hby : c.code = bytes) (hd : decode bytes pc = .ok (.instanceof index, 3)) (hp : pc + 3 = pc') (H : GoE p e below Fi (T.setTop (mkF m pc' Ls (.int 0 :: rest)))) : GoE p e below Fi (T.setTop (mkF m pc Ls (.null :: rest))) := by
  subst hp
  exact H.pull fun t k => X.instanceofNull hx (g := mkF m pc Ls (.null :: rest)) rfl rfl (hb hby hd) _ k
theorem g_eqI {a b : Int32} (h : a = b) (K : GoE p e below Fi (T.setTop (mkF m pc Ls (.int b :: rest)))) : GoE p e below Fi (T.setTop (mkF m pc Ls (.int a :: rest))) := h ▸ K
theorem g_eqL {a b : Int64} (h : a = b) (K : GoE p e below Fi (T.setTop (mkF m pc Ls (.long b :: rest)))) : GoE p e below Fi (T.setTop (mkF m pc Ls (.long a :: rest))) := h ▸ K
theorem g_newarrayV (X : Stand p l e R s m args below meth c T locs cells slots) (hx : p.tables.exec = Jvm.exec) {Z : State} {a0 : Array Value} (hZ : Z.Warmed39 s.vm) {aty : ArrayType} {h : Heap} {n : Int32} (cap vc : Nat) (ad : String) (hby : c.code = bytes) (hd : decode bytes pc = .ok (.newarray aty, 2)) (hp : pc + 2 = pc') (w : (Jvm.Cond.arrayClass (newarray.typeOf aty)).before a0 Z = true) (eT : T.heap = h) (hn : ¬ n < 0) (hcap : n.toNatClampNeg ≤ cap) (hbg : cap * 8 ≤ 536870912) (hce : cells + 1 ≤ R.cells) (hsl : slots + cap ≤ R.slots) (had : "[" ++ (newarray.typeOf aty).toString = ad)
    (K : ∀ (T' : State) (b : Addr) (cA : ClassId), b = h.size → Stand p l e R s m args below meth c T' locs (cells + 1) (slots + cap) → Ext h T'.heap → Arv Z T'.heap b cA (newarray.typeOf aty) n (List.replicate vc (defaultValue (newarray.typeOf aty))) (defaultValue (newarray.typeOf aty)) → Exa Z T'.heap b ad → GoE p e below Fi (T'.setTop (mkF m pc' Ls (.ref b :: rest)))) : GoE p e below Fi (T.setTop (mkF m pc Ls (.int n :: rest))) := by
  subst hp
  obtain ⟨T2, h2, cA, X2, e2, E2, A2, Ex2, st2⟩ := newPE X hx hZ w eT (g := mkF m pc Ls (.int n :: rest)) rfl (hb hby hd) rfl hn hcap hbg hce hsl had
  subst e2
  exact (K T2 _ cA rfl X2 E2 ((Arv.new A2 hn).pad (pad_rep [] _ vc)) Ex2).pull st2
theorem g_arraycopy (X : Stand p l e R s m args below meth c T locs cells slots) (hx : p.tables.exec = Jvm.exec) {Z : State} {a0 : Array Value} (hZ : Z.Warmed39 s.vm) {own : String} (hown : s.vm.findClass own = some m.cls) {index : Nat} {h : Heap} {a b : Addr} {k k' : ClassId} {ty : FieldType} {n z' sp dp nn : Int32} {vs vd us : List Value} {dv dd : Value} {W n0 : Nat} (hby : c.code = bytes) (hd : decode bytes pc = .ok (.invokestatic index, 3)) (hp : pc + 3 = pc') (hml : Ls.size = c.maxLocals)
    (w1 : (Jvm.Cond.methodLink own index Jvm.Stand.acN).before a0 Z = true) (w2 : (Jvm.Cond.native Jvm.Stand.acN).before a0 Z = true) (w3 : (Jvm.Cond.static Jvm.Stand.acN).before a0 Z = true) (w4 : (Jvm.Cond.initialized "java/lang/System").before a0 Z = true) (eT : T.heap = h) (A : Arv Z h a k ty n vs dv) (B : Arv Z h b k' ty z' vd dd) (hr : refKind ty = false)
    (h1 : ¬ sp < 0) (h2 : ¬ dp < 0) (h3 : ¬ nn < 0) (h4 : sp.toNatClampNeg + nn.toNatClampNeg ≤ n.toNatClampNeg) (h5 : dp.toNatClampNeg + nn.toNatClampNeg ≤ z'.toNatClampNeg) (hus : us = (List.range nn.toNatClampNeg).map fun i => vs.getD (sp.toNatClampNeg + i) dv) (hl : dp.toNatClampNeg + nn.toNatClampNeg ≤ vd.length) (N : Fr n0 locs) (ge : n0 ≤ b)
    (hf : 1 ≤ R.frames) (hW : 2 * 0 + (rest.map fun v => v.category).sum ≤ W) (hlo : W + (nativeFrameWords "java/lang/System" "arraycopy" 5 + 11) ≤ R.locals)
    (K : ∀ (T' : State) (L : List Loc), Stand p l e R s m args below meth c T' L cells slots → Fr n0 L → Keep h T'.heap [b] → Arv Z T'.heap b k' ty z' (vd.take dp.toNatClampNeg ++ us ++ vd.drop (dp.toNatClampNeg + nn.toNatClampNeg)) dd → GoE p e below Fi (T'.setTop (mkF m pc' Ls rest))) : GoE p e below Fi (T.setTop (mkF m pc Ls (.int nn :: .int dp :: .ref b :: .int sp :: .ref a :: rest))) := by
  subst hp
  obtain ⟨T2, h2', L2, X2, e2, N2, K2, A2, st2⟩ := cpA X hx hZ hown w1 w2 w3 w4 eT A B (Or.inl ⟨rfl, hr⟩) h1 h2 h3 h4 h5 hus hl N ge (g := mkF m pc Ls (.int nn :: .int dp :: .ref b :: .int sp :: .ref a :: rest)) rfl hml rfl (hb hby hd) hf hW hlo
  subst e2
  exact (K T2 L2 X2 N2 K2 A2).pull st2
end GoKit
section GoHKit
variable {p : Program} {l : Launch} {e : Env} {R : Room} {s : State} {m : MethodId} {args : Array Value} {below : List Frame} {meth : Method} {c : Code} {T : State} {locs : List Loc} {cells slots : Nat} {Q : Option Value → Heap → List Loc → Prop} {rc rs : Nat} {Fi : Outcome → State → Prop} {bytes : ByteArray} {pc pc' : Nat} {Ls : Array Slot} {rest : List Value} {Z : State} {EL : List (String × Nat)}
abbrev GoH (Z : State) (EL : List (String × Nat)) (p : Program) (e : Env) (below : List Frame) (s : State) (rc rs : Nat) (Q : Option Value → Heap → List Loc → Prop) (S : State) : Prop :=
  GoE p e below (fun o t => ∃ v L, o = .returned v ∧ Q v t.heap L ∧ CHr Z EL s.vm s.heap t.vm t.heap ∧ ReturnedEndW s o t L rc rs) S
theorem GoH.of_go {vm0 : Vm} {k0 : Nat} {S : State} {a0 : Array Value} (Q : Option Value → Heap → List Loc → Prop) (hS : s.Since vm0 k0) (hZ : Z.Warmed39 (s.setVm vm0).vm) (w : EW Z a0 EL) (h : Go p e below (s.setVm vm0) rc rs (fun v h L => Q v h L ∧ k0 ≤ h.size ∧ CHr Z EL s.vm s.heap vm0 h) S) : GoH Z EL p e below s rc rs Q S :=
  h.imp fun o t ⟨v, L, h1, h2, h3⟩ => by
    obtain ⟨a, b, d⟩ := hS.ended h3.2.1 h2.2.1 h3.2.2
    have q := CHv.later (h := t.heap) (h' := t.heap) hZ (show (Wst Z vm0 t.heap).Warmed39 t.vm from h3.2.1.wide) w ⟨Nat.le_refl _, fun _ _ q => q⟩ (Or.inl h3.2.1.interned_eq) h2.2.2.1
    exact ⟨v, L, h1, h2.1, h2.2.2.trans ⟨q.1, Nat.le_refl _, q.2⟩, h3.1, a, b, d⟩
def CtrH (EL : List (String × Nat)) (l : Launch) (Z : State) (y : MethodName) (bytes : ByteArray) (ml : Nat) (ret : Option FieldType) (ws : List Jvm.Cond) (rm : Room) (as : Array Value) (h0 : Heap) (Q : Option Value → Heap → List Loc → Prop) : Prop :=
  MetFree l y (head1 (Jvm.Cond.code y bytes ml ret :: ws) rm) (fun a U => a = as ∧ Z.Warmed39 U.vm ∧ U.heap = h0 ∧ CHv Z EL U.vm h0) (fun _ _ _ _ _ => True) (fun _ U o U' => ∃ v L, o = .returned v ∧ Q v U'.heap L ∧ CHr Z EL U.vm U.heap U'.vm U'.heap ∧ ReturnedEndW U o U' L rm.cells rm.slots)
theorem CtrH.enter {y : MethodName} {ml : Nat} {ret : Option FieldType} {ws : List Jvm.Cond} {rm : Room} {as : Array Value} {h0 : Heap} (hpl : plainFor y = true) (hef : ∀ m, entryFrame m as ml = mkF m 0 Ls [])
    (body : ∀ (p : Program) (e : Env) (s : State) (m : MethodId) (below : List Frame) (meth : Method) (c : Code) (T : State), p.tables.exec = Jvm.exec → c.code = bytes → c.maxLocals = ml → (s.setVm s.vm).vm.findClass y.cls = some m.cls → meth.name = y.name → meth.sig.returnType = ret → meth.locks = false → Z.Warmed39 (s.setVm s.vm).vm → s.heap = h0 →
      Stand p l e rm (s.setVm s.vm) m as below meth c T [] 0 0 → T.heap = h0 → s.Since s.vm h0.size → CHr Z EL s.vm s.heap s.vm h0 → GoH Z EL p e below s rm.cells rm.slots Q (T.setTop (mkF m 0 Ls []))) : CtrH EL l Z y bytes ml ret ws rm as h0 Q := by
  refine MetFree.of_bodySF hpl hisR ?_
  intro p e s m args below meth c s₁ Bd hml0 hP hK
  obtain ⟨rfl, hZ, hh, hC⟩ := hP
  have h := body p e s m below meth c s₁ Bd.exec Bd.bytes hml0 (findClass_of_methodNamed Bd.named) (name_of_methodNamed Bd.named Bd.method).1 Bd.returns (BodyLoose.notSynchronized Bd) hZ hh (Stand.of_body Bd) (by rw [← hh, Bd.state]; rfl) ((State.WarmedH.refl s).since _) (by rw [hh]; exact CHr.refl hC)
  exact h.pull fun t k => castTop (hef m) k
theorem g_ldcO {vm0 : Vm} (X : Stand p l e R (s.setVm vm0) m args below meth c T locs cells slots) (hx : p.tables.exec = Jvm.exec) {a0 : Array Value} (hZ : Z.Warmed39 (s.setVm vm0).vm) {own : String} (hown : (s.setVm vm0).vm.findClass own = some m.cls) {text : String} {index : Nat} {h : Heap} {k0 : Nat} (n : Nat) (hby : c.code = bytes) (hd : decode bytes pc = .ok (.ldc index, 2)) (hp : pc + 2 = pc') (w : (Jvm.Cond.stringLink own index text).before a0 Z = true) (wS : ∀ a ∈ Bundle.stringAtoms, a.before a0 Z = true) (eT : T.heap = h) (hS : s.Since vm0 k0) (hk : k0 ≤ h.size) (hEL : EW Z a0 EL) (C : CHv Z EL vm0 h) (hn : 4 * text.toList.length ≤ n) (hbig : n ≤ 536870912) (hc : cells + 2 ≤ R.cells) (hl : slots + (n + 4) ≤ R.slots)
    (K : ∀ (a : Addr) (T' : State) (k1 : Nat), Stand p l e R (s.setVm T'.vm) m args below meth c T' locs (cells + 2) (slots + (n + 4)) → Ext h T'.heap → s.Since T'.vm k1 → k1 ≤ T'.heap.size → Z.Warmed39 (s.setVm T'.vm).vm → (s.setVm T'.vm).vm.findClass own = some m.cls → CHr Z EL vm0 h T'.vm T'.heap → GoE p e below Fi (T'.setTop (mkF m pc' Ls (.ref a :: rest)))) : GoE p e below Fi (T.setTop (mkF m pc Ls rest)) := by
  subst hp
  obtain ⟨a, T2, h2, k1, X2, e2, E2, S2, q2, Z2, o2, C2, L2, st2⟩ := ldcOH X hx hZ hown w wS eT hS hk hEL C (g := mkF m pc Ls rest) rfl (hb hby hd) hn hbig hc hl
  subst e2
  exact (K a T2 k1 X2 E2 S2 q2 Z2 o2 C2).pull st2
theorem g_ldcH {vm0 : Vm} (X : Stand p l e R (s.setVm vm0) m args below meth c T locs cells slots) (hx : p.tables.exec = Jvm.exec) {a0 : Array Value} (hZ : Z.Warmed39 (s.setVm vm0).vm) {own : String} (hown : (s.setVm vm0).vm.findClass own = some m.cls) {text : String} {index : Nat} {h : Heap} {k0 : Nat} (n : Nat) (vs : List Value) (z : Int32) (hby : c.code = bytes) (hd : decode bytes pc = .ok (.ldc index, 2)) (hp : pc + 2 = pc') (w : (Jvm.Cond.stringLink own index text).before a0 Z = true) (wS : ∀ a ∈ Bundle.stringAtoms, a.before a0 Z = true) (eT : T.heap = h) (hS : s.Since vm0 k0) (hk : k0 ≤ h.size) (hEL : EW Z a0 EL) (hmem : (own, index) ∈ EL) (C : CHv Z EL vm0 h) (ht : (∀ c ∈ text.toList, c.toNat < 256) ∧ text.toList.map (fun c => Value.int (Jvm.Lit.byteI c.toNat.toUInt16)) = vs) (hz : ¬ z < 0) (hl : z.toNatClampNeg = vs.length) (hn : 4 * text.toList.length ≤ n) (hbig : n ≤ 536870912) (hc : cells + 2 ≤ R.cells) (hl' : slots + (n + 4) ≤ R.slots)
    (K : ∀ (a : Addr) (T' : State) (k1 : Nat) (b : Addr) (k : ClassId), Stand p l e R (s.setVm T'.vm) m args below meth c T' locs (cells + 2) (slots + (n + 4)) → Ext h T'.heap → s.Since T'.vm k1 → k1 ≤ T'.heap.size → Z.Warmed39 (s.setVm T'.vm).vm → (s.setVm T'.vm).vm.findClass own = some m.cls → Exa Z T'.heap a "java/lang/String" → Fld Z T'.heap a "java/lang/String" "coder" "B" (.int 0) → Fld Z T'.heap a "java/lang/String" "value" "[B" (.ref b) → Arv Z T'.heap b k .byte z vs (.int 0) → CHr Z EL vm0 h T'.vm T'.heap → (∀ x, Safe Z EL T'.vm T'.heap x → x ≠ a ∧ x ≠ b) → GoE p e below Fi (T'.setTop (mkF m pc' Ls (.ref a :: rest)))) : GoE p e below Fi (T.setTop (mkF m pc Ls rest)) := by
  subst hp
  obtain ⟨a, T2, h2, k1, b, k, X2, e2, E2, S2, q2, Z2, o2, x1, f1, f2, v1, -, -, C2, L2, sf, st2⟩ := ldcCH X hx hZ hown w wS eT hS hk hEL hmem C ht hz hl (g := mkF m pc Ls rest) rfl (hb hby hd) hn hbig hc hl'
  subst e2
  exact (K a T2 k1 b k X2 E2 S2 q2 Z2 o2 x1 f1 f2 v1 C2 sf).pull st2
theorem g_callSH {vm0 : Vm} (X : Stand p l e R (s.setVm vm0) m args below meth c T locs cells slots) (hx : p.tables.exec = Jvm.exec) {a0 : Array Value} (hZ : Z.Warmed39 (s.setVm vm0).vm) {own : String} (hown : (s.setVm vm0).vm.findClass own = some m.cls) {y : MethodName} {cb : ByteArray} {maxL : Nat} {ret : Option FieldType} {rm : Room} {as' : Array Value} {h : Heap} {Q' : Option Value → Heap → List Loc → Prop} {W : Nat} {index : Nat} {argsL : List Value} {k0 : Nat} (hby : c.code = bytes) (hd : decode bytes pc = .ok (.invokestatic index, 3)) (hp : pc + 3 = pc') (hml : Ls.size = c.maxLocals)
    (w1 : (Jvm.Cond.methodLink own index y).before a0 Z = true) (w2 : (Jvm.Cond.static y).before a0 Z = true) (w3 : (Jvm.Cond.initialized y.cls).before a0 Z = true) (w4 : (Jvm.Cond.code y cb maxL ret).before a0 Z = true) (hy : y.cls ≠ "java/lang/invoke/MethodHandle" ∧ y.cls ≠ "java/lang/invoke/VarHandle")
    (C : CtrH EL l Z y cb maxL ret [] rm as' h Q') (eT : T.heap = h) (hS : s.Since vm0 k0) (hk : k0 ≤ h.size) (hEL : EW Z a0 EL) (hC : CHv Z EL vm0 h) (hfr : rm.frames + 1 ≤ R.frames) (hlo : W + (maxL + 11) + rm.locals ≤ R.locals) (hce : cells + rm.cells ≤ R.cells) (hsl : slots + rm.slots ≤ R.slots) {stk : List Value} {psig : MethodDescriptor} (has : argsL.toArray = as') (hpd : parseMethodDescriptor y.desc = some psig) (hlen : argsL.length = psig.parameters.length) (hst : stk = argsL.reverse ++ rest) (hW : 2 * 0 + (rest.map fun v => v.category).sum ≤ W)
    (K : ∀ (v : Option Value) (T' : State) (L : List Loc), Stand p l e R (s.setVm T'.vm) m args below meth c T' (locs ++ L) (cells + rm.cells) (slots + rm.slots) → Q' v T'.heap L → s.Since T'.vm T'.heap.size → Z.Warmed39 (s.setVm T'.vm).vm → (s.setVm T'.vm).vm.findClass own = some m.cls → CHr Z EL vm0 h T'.vm T'.heap → GoE p e below Fi (T'.setTop (mkF m pc' Ls (v.toList ++ rest)))) : GoE p e below Fi (T.setTop (mkF m pc Ls stk)) := by
  subst hp hst has
  obtain ⟨v, _, ⟨T4, L4, k4, n4⟩, -, X4, S4, g4, ⟨Lc, hQ, l4, y4, z4, C4⟩, st⟩ := callSS X hx (y := y) hown (mvT hZ w1) (mvT hZ w2) (mvT hZ w3) (mvT hZ w4) hy (backOfSH (W := W) C hZ w4 w3 hfr hlo hEL hC) (g := mkF m pc Ls (argsL.reverse ++ rest)) rfl hml (argsL := argsL) (rest := rest) (fun sig h => by rw [hpd] at h; cases h; exact hlen) rfl hW (hb hby hd) (fun _ _ => ⟨rfl, eT, hce, hsl⟩)
  dsimp only [Pt.U, Pt.locs, Pt.cells, Pt.slots] at X4 l4 y4 z4 st hQ S4 g4 C4
  subst l4 y4 z4
  exact (K v T4 Lc X4 hQ (hS.trans S4 (Nat.le_trans hk (by rw [← eT]; exact g4))) (State.Warmed39.trans hZ S4.1) ((S4.1.alike.findClass _ _).trans hown) C4).pull fun t k => st.trans k
theorem g_callIH {vm0 : Vm} (X : Stand p l e R (s.setVm vm0) m args below meth c T locs cells slots) (hx : p.tables.exec = Jvm.exec) {a0 : Array Value} (hZ : Z.Warmed39 (s.setVm vm0).vm) {own : String} (hown : (s.setVm vm0).vm.findClass own = some m.cls) {y : MethodName} {cb : ByteArray} {maxL : Nat} {rm : Room} {as' : Array Value} {h : Heap} {Q' : Option Value → Heap → List Loc → Prop} {W : Nat} {index : Nat} {argsL : List Value} {b : Addr} {k0 : Nat} (hby : c.code = bytes) (hd : decode bytes pc = .ok (.invokespecial index, 3)) (hp : pc + 3 = pc') (hml : Ls.size = c.maxLocals)
    (w1 : (Jvm.Cond.methodLink own index y).before a0 Z = true) (w2 : (Jvm.Cond.instanceMethod y).before a0 Z = true) (w3 : (Jvm.Cond.initialized y.cls).before a0 Z = true) (w4 : (Jvm.Cond.code y cb maxL none).before a0 Z = true) (hin : y.name = "<init>") (hy : y.cls ≠ "java/lang/invoke/MethodHandle" ∧ y.cls ≠ "java/lang/invoke/VarHandle")
    (C : CtrH EL l Z y cb maxL none [] rm as' h Q') (eT : T.heap = h) (hS : s.Since vm0 k0) (hk : k0 ≤ h.size) (hEL : EW Z a0 EL) (hC : CHv Z EL vm0 h) (hfr : rm.frames + 1 ≤ R.frames) (hlo : W + (maxL + 11) + rm.locals ≤ R.locals) (hce : cells + rm.cells ≤ R.cells) (hsl : slots + rm.slots ≤ R.slots) {stk : List Value} {psig : MethodDescriptor} (has : (Value.ref b :: argsL).toArray = as') (hpd : parseMethodDescriptor y.desc = some psig) (hlen : argsL.length = psig.parameters.length) (hst : stk = argsL.reverse ++ Value.ref b :: rest) (hW : 2 * 0 + (rest.map fun v => v.category).sum ≤ W)
    (K : ∀ (v : Option Value) (T' : State) (L : List Loc), Stand p l e R (s.setVm T'.vm) m args below meth c T' (locs ++ L) (cells + rm.cells) (slots + rm.slots) → Q' v T'.heap L → s.Since T'.vm T'.heap.size → Z.Warmed39 (s.setVm T'.vm).vm → (s.setVm T'.vm).vm.findClass own = some m.cls → CHr Z EL vm0 h T'.vm T'.heap → GoE p e below Fi (T'.setTop (mkF m pc' Ls (v.toList ++ rest)))) : GoE p e below Fi (T.setTop (mkF m pc Ls stk)) := by
  subst hp hst has
  obtain ⟨v, _, ⟨T4, L4, k4, n4⟩, -, X4, S4, g4, ⟨Lc, hQ, l4, y4, z4, C4⟩, st⟩ := X.specialBackS hx (y := y) hin hown (mvT hZ w1) (mvT hZ w2) (mvT hZ w4) hy (backOfSH (W := W) C hZ w4 w3 hfr hlo hEL hC) (g := mkF m pc Ls (argsL.reverse ++ Value.ref b :: rest)) rfl hml (Steps.refl _) (a := b) (argsL := argsL) (rest := rest) (fun sig h => by rw [hpd] at h; cases h; exact hlen) rfl hW (hb hby hd) (fun _ _ => ⟨rfl, eT, hce, hsl⟩)
  dsimp only [Pt.U, Pt.locs, Pt.cells, Pt.slots] at X4 l4 y4 z4 st hQ S4 g4 C4
  subst l4 y4 z4
  exact (K v T4 Lc X4 hQ (hS.trans S4 (Nat.le_trans hk (by rw [← eT]; exact g4))) (State.Warmed39.trans hZ S4.1) ((S4.1.alike.findClass _ _).trans hown) C4).pull fun t k => st.trans k
end GoHKit
theorem own_lenS {args : Array Value} {s : State} {t : Term} {b : Addr} {cl : Cell} {ty : FieldType} {n : Int32} (ht : t.eval args s none [] s = some (.ref b)) (A : Arr s s.heap b cl ty) (h : (Jvm.Cond.eq (.length t) (.int n)).value args s none s [] = some true) : cl.slots.size < 2 ^ 31 ∧ cl.slots.size.toInt32 = n := by
  obtain ⟨x, y, h1, h2, -, -⟩ := cmp_v (Or.inl h)
  have hA : s.arrayAt? b = some cl := A.fin (Vm.Alike.refl _)
  by_cases q : cl.slots.size < 2 ^ 31
  · exact ⟨q, gotT (Cond.eq_ints (len_f ht hA q) (Term.int_eval n)) h⟩
  · exfalso
    have h3 : (Term.length t).eval args s none [] s = none := by
      simp only [Term.eval, ht, Option.bind_eq_bind, Option.bind_some, hA]
      exact if_neg q
    rw [h3] at h1; cases h1
theorem own_elemI {args : Array Value} {s : State} {t : Term} {b : Addr} {cl : Cell} {i v : Int32} (ht : t.eval args s none [] s = some (.ref b)) (hc : s.heap[b]? = some cl) (h : (Jvm.Cond.eq (.elem t (.int i)) (.int v)).value args s none s [] = some true) : cl.slots[i.toNatClampNeg]? = some (.int v) := by
  obtain ⟨x, y, h1, h2, -, hk⟩ := cmp_v (Or.inl h)
  cases (Term.int_eval v).symm.trans h2
  obtain ⟨c2, e1, -, e3⟩ := elem_at h1 ht (Term.int_eval i)
  cases hc.symm.trans e1
  obtain ⟨x, rfl⟩ : ∃ z, x = Value.int z := hk
  rw [e3]
  have := gotT (Cond.eq_ints h1 (Term.int_eval v)) h
  rw [this]
theorem own_elemL {args : Array Value} {s : State} {t : Term} {b : Addr} {cl : Cell} {i : Int32} {v : Int64} (ht : t.eval args s none [] s = some (.ref b)) (hc : s.heap[b]? = some cl) (h : (Jvm.Cond.eq (.elem t (.int i)) (.long v)).value args s none s [] = some true) : cl.slots[i.toNatClampNeg]? = some (.long v) := by
  obtain ⟨x, y, h1, h2, -, hk⟩ := cmp_v (Or.inl h)
  have h2' : (Term.long v).eval args s none [] s = some (.long v) := by simp [Term.eval]
  cases h2'.symm.trans h2
  obtain ⟨c2, e1, -, e3⟩ := elem_at h1 ht (Term.int_eval i)
  cases hc.symm.trans e1
  obtain ⟨x, rfl⟩ : ∃ z, x = Value.long z := hk
  rw [e3]
  have := gotT (eq_L h1 h2') h
  rw [this]
theorem own_fldI {args : Array Value} {s : State} {t : Term} {b : Addr} {C n : String} {v : Int32} (ht : t.eval args s none [] s = some (.ref b)) (h : (Jvm.Cond.eq (.field t C n "I") (.int v)).value args s none s [] = some true) : Fld s s.heap b C n "I" (.int v) := by
  obtain ⟨x, y, h1, h2, -, hk⟩ := cmp_v (Or.inl h)
  cases (Term.int_eval v).symm.trans h2
  have h3 := h1
  rw [fld_at ht] at h3
  obtain ⟨x, rfl⟩ : ∃ z, x = Value.int z := hk
  have := gotT (Cond.eq_ints h1 (Term.int_eval v)) h
  rw [this] at h3
  exact Fld.start h3
theorem own_fldN {args : Array Value} {s : State} {t : Term} {b : Addr} {C n d : String} (ht : t.eval args s none [] s = some (.ref b)) (h : (Jvm.Cond.eq (.field t C n d) .null).value args s none s [] = some true) : Fld s s.heap b C n d .null := by
  have h1 := null_v h
  rw [fld_at ht] at h1
  exact Fld.start h1
theorem own_stI {args : Array Value} {s : State} {t : Term} {v : Int32} (h : (Jvm.Cond.eq t (.int v)).value args s none s [] = some true) : t.eval args s none [] s = some (.int v) := by
  obtain ⟨x, y, h1, h2, -, hk⟩ := cmp_v (Or.inl h)
  cases (Term.int_eval v).symm.trans h2
  obtain ⟨x, rfl⟩ : ∃ z, x = Value.int z := hk
  have := gotT (Cond.eq_ints h1 (Term.int_eval v)) h
  rw [this] at h1
  exact h1
theorem own_stR {args : Array Value} {s : State} {t u : Term} {a b : Addr} (h1 : t.eval args s none [] s = some (.ref a)) (h2 : u.eval args s none [] s = some (.ref b)) (h : (Jvm.Cond.eq t u).value args s none s [] = some true) : a = b := by
  have := gotT (eq_R h1 h2 rfl rfl) h
  cases this
  rfl

def ELs : List (String × Nat) := [("java/lang/String", 7)]
def BY (c : Int32) : Prop := 0 ≤ c.toInt ∧ c.toInt < 256
def lat (c : Int32) : Int32 := nar .byte (c.toInt8.toInt32)
def cA (q : Int32) : Int32 := (q &&& (255 : Int32)).toUInt32.toUInt16.toUInt32.toInt32
def cB (q : Int32) : Int32 := ((ushr q (8 : Int32)) &&& (255 : Int32)).toUInt32.toUInt16.toUInt32.toInt32
def chars (q l : Int32) : List Int32 := if l = 0 then [] else if l = (1 : Int32) then [cA q] else [cA q, cB q]
def K3 (l : Int32) : Prop := l = 0 ∨ l = 1 ∨ l = 2
theorem own_tl (a b : Int32) : (a < b) = (a.toInt < b.toInt) := propext Int32.lt_iff_toInt_lt
theorem own_byte (x : Int32) : ((x &&& (255 : Int32)).toUInt32.toUInt16.toUInt32.toInt32) = x &&& (255 : Int32) ∧ BY (x &&& (255 : Int32)) := by
  have e8 : ((2 ^ 8 : Nat) : Int) = 256 := rfl
  have a := c_mask x 255 8 (by decide) (by decide)
  rw [e8] at a
  generalize x &&& (255 : Int32) = y at a ⊢
  have q := c_i2c y
  refine ⟨Int32.toInt_inj.mp (by omega), ?_⟩
  unfold BY
  omega
theorem own_cA (q : Int32) : cA q = q &&& (255 : Int32) := (own_byte q).1
theorem own_cB (q : Int32) : cB q = (ushr q (8 : Int32)) &&& (255 : Int32) := (own_byte _).1
theorem own_bA (q : Int32) : BY (cA q) := by rw [own_cA]; exact (own_byte q).2
theorem own_bB (q : Int32) : BY (cB q) := by rw [own_cB]; exact (own_byte _).2
theorem own_narc {c : Int32} (h : BY c) : nar .char c = c := by
  obtain ⟨a, b⟩ := h
  have q := c_i2c c
  exact Int32.toInt_inj.mp (show c.toUInt32.toUInt16.toUInt32.toInt32.toInt = _ by omega)
theorem own_le255 {c : Int32} (h : BY c) : ¬ (255 : Int32) < c := by
  obtain ⟨a, b⟩ := h
  rw [own_tl]
  have e : (255 : Int32).toInt = 255 := by decide
  omega
theorem own_bb (x : Int32) : x.toInt8.toInt32.toInt8.toInt32 = x.toInt8.toInt32 := by
  have a := c_i2b x
  have b := c_i2b x.toInt8.toInt32
  exact Int32.toInt_inj.mp (by omega)
theorem own_latinj {a b : Int32} (h1 : BY a) (h2 : BY b) : lat a = lat b ↔ a = b := by
  constructor
  · intro h
    have e1 : lat a = a.toInt8.toInt32 := own_bb a
    have e2 : lat b = b.toInt8.toInt32 := own_bb b
    rw [e1, e2] at h
    have q1 := c_i2b a
    have q2 := c_i2b b
    have h' := congrArg Int32.toInt h
    obtain ⟨u1, u2⟩ := h1
    obtain ⟨v1, v2⟩ := h2
    exact Int32.toInt_inj.mp (by omega)
  · intro h; rw [h]
def Txt (Z : State) (h : Heap) (s : Addr) (cs : List Int32) : Prop := Exa Z h s "java/lang/String" ∧ (∀ c ∈ cs, BY c) ∧ cs.length ≤ 2 ∧ ∃ (b : Addr) (k : ClassId), Fld Z h s "java/lang/String" "value" "[B" (.ref b) ∧ Fld Z h s "java/lang/String" "coder" "B" (.int (0 : Int32)) ∧ Arv Z h b k .byte (Int32.ofNat cs.length) (cs.map fun c => Value.int (lat c)) (.int 0)
theorem Txt.lt {Z : State} {h : Heap} {s : Addr} {cs : List Int32} (T : Txt Z h s cs) : s < h.size := T.1.lt
theorem Txt.ext {Z : State} {h h' : Heap} {s : Addr} {cs : List Int32} (T : Txt Z h s cs) (E : Ext h h') : Txt Z h' s cs := by
  obtain ⟨a, a1, a2, b, k, f1, f2, v⟩ := T
  exact ⟨a.ext E, a1, a2, b, k, f1.ext E, f2.ext E, v.ext E⟩
theorem Txt.keep0 {Z : State} {h h' : Heap} {s : Addr} {cs : List Int32} (T : Txt Z h s cs) (K : Keep h h' []) : Txt Z h' s cs := by
  obtain ⟨a, a1, a2, b, k, f1, f2, v⟩ := T
  exact ⟨a.keep K, a1, a2, b, k, f1.keep K nin0, f2.keep K nin0, v.keep K nin0⟩
theorem Txt.keep1 {Z : State} {h h' : Heap} {s w : Addr} {cs : List Int32} {C : String} {n : Nat} {a0 : Array Value} (T : Txt Z h s cs) (K : Keep h h' [w]) (E : Exa Z h w C) (wi : (Jvm.Cond.instantiable C n).before a0 Z = true) (ne : s ≠ w) : Txt Z h' s cs := by
  obtain ⟨a, a1, a2, b, k, f1, f2, v⟩ := T
  exact ⟨a.keep K, a1, a2, b, k, f1.keep K (ninS ne nin0), f2.keep K (ninS ne nin0), v.keep K (ninS (E.neArv v wi).symm nin0)⟩
theorem own_safe0 {Z : State} {EL : List (String × Nat)} {vm : Vm} {h : Heap} {x : Addr} (hal : Z.vm.Alike vm) (E : Exa Z h x "java/lang/String") (F : Fld Z h x "java/lang/String" "value" "[B" .null) : Safe Z EL vm h x := fun B => by
  obtain ⟨cell, k, e1, e2, e3, -, -⟩ := E
  have nm : ∀ {n : String} {c : ClassId}, vm.findClass n = some c → c = cell.cls → n = "java/lang/String" := fun {n c} f e => by
    subst e
    rw [hal.findClass] at f
    obtain ⟨k1, q1, q2⟩ := Vm.findClass_spec f
    obtain ⟨k2, q3, q4⟩ := Vm.findClass_spec e2
    cases q1.symm.trans q3
    exact q2.symm.trans q4
  obtain ⟨p, -, u, a, -, q, -, F', rfl | rfl⟩ := B
  · have ha : h[q.sa]? = some q.sC := F'.ha
    cases ha.symm.trans e1
    obtain ⟨cS, ⟨⟨s1, s2, s3, ⟨cv, kv, iv, s4, s4'⟩, -, s6, s7, s8, -⟩, -⟩, -⟩ := F'
    obtain ⟨c2, cf, kf, i, fl, g1, g2, g3, g4, g5, g6, g7⟩ := F
    cases ha.symm.trans g1
    obtain ⟨kv', z4⟩ := ff_back hal s4
    cases g2.symm.trans z4
    cases g7.symm.trans s8
  · cases (show h[q.sd]? = some q.SA from F'.hd).symm.trans e1
    obtain ⟨cS, -, -, f, -⟩ := F'
    exact absurd (nm f rfl) (by decide)
def eqT (cs ds : List Int32) : Int32 := if cs = ds then 1 else 0
def e1V (x y : Int32) : Int32 := if lat x = lat y then 1 else 0
def e2V (x y u v : Int32) : Int32 := if lat x = lat y then (if lat u = lat v then 1 else 0) else 0
theorem own_e1 {x y : Int32} (hx : BY x) (hy : BY y) : e1V x y = eqT [x] [y] := by
  unfold e1V eqT
  simp only [own_latinj hx hy, List.cons.injEq, and_true]
theorem own_e2 {x y u v : Int32} (hx : BY x) (hy : BY y) (hu : BY u) (hv : BY v) : e2V x y u v = eqT [x, u] [y, v] := by
  unfold e2V eqT
  simp only [own_latinj hx hy, own_latinj hu hv, List.cons.injEq, and_true]
  by_cases a : x = y <;> by_cases b : u = v <;> simp [a, b]
theorem own_01a (x y : Int32) (h : ¬ e1V x y = 0) : (1 : Int32) = e1V x y := by unfold e1V at h ⊢; split <;> simp_all
theorem own_01b (x y u v : Int32) (h : ¬ e2V x y u v = 0) : (1 : Int32) = e2V x y u v := by unfold e2V at h ⊢; (repeat' split) <;> simp_all
def SE (e1 e2 : Int32) : Int32 := if e1 = 0 then 0 else if e2 = 0 then 0 else 1
def tS (a la b : Int32) : Int32 := if la < (2 : Int32) then 1 else if ((ushr a (8 : Int32)) &&& (255 : Int32)) = ((ushr b (8 : Int32)) &&& (255 : Int32)) then 1 else 0
def sameV (a la b lb : Int32) : Int32 := if la = lb then (if la < (1 : Int32) then tS a la b else if (a &&& (255 : Int32)) = (b &&& (255 : Int32)) then tS a la b else 0) else 0
theorem own_same {a la b lb : Int32} (h1 : K3 la) (h2 : K3 lb) : sameV a la b lb = eqT (chars a la) (chars b lb) := by
  unfold sameV eqT chars tS
  rw [own_cA, own_cA, own_cB, own_cB]
  rcases h1 with rfl | rfl | rfl <;> rcases h2 with rfl | rfl | rfl <;> simp
  all_goals try (by_cases p : a &&& 255 = b &&& 255 <;> by_cases q : ushr a 8 &&& 255 = ushr b 8 &&& 255 <;> simp [p, q])
theorem own_sN {a la b lb : Int32} : nar .boolean (sameV a la b lb) = sameV a la b lb := by
  unfold sameV tS
  (repeat' split) <;> decide
def lenV (x : Int32) : Int32 := ((x &&& (3 : Int32)) - ((x &&& (3 : Int32)) / (3 : Int32)) * (3 : Int32))
theorem own_len (x : Int32) : K3 (lenV x) := by
  have e2 : ((2 ^ 2 : Nat) : Int) = 4 := rfl
  have a := c_mask x 3 2 (by decide) (by decide)
  rw [e2] at a
  unfold lenV K3
  generalize x &&& (3 : Int32) = y at a ⊢
  have hy : y = 0 ∨ y = 1 ∨ y = 2 ∨ y = 3 := by
    simp only [← Int32.toInt_inj, Int32.reduceToInt]
    omega
  rcases hy with rfl | rfl | rfl | rfl <;> decide
theorem own_noSide {Z : State} {a0 : Array Value} (w1 : (Jvm.Cond.superclass "java/lang/String" "java/lang/Object").before a0 Z = true) (w2 : (Jvm.Cond.noSuperclass "java/lang/Object").before a0 Z = true) (w3 : (Jvm.Cond.instantiable "com/example/phaseline/phaseline/game/Side" 2).before a0 Z = true) : ∃ c t, Z.vm.findClass "java/lang/String" = some c ∧ Z.vm.findClass "com/example/phaseline/phaseline/game/Side" = some t ∧ Z.vm.assignable c t = false := by
  obtain ⟨t, kt, g0, g2, g5, g6, -, -⟩ := Cond.instantiable_spec w3
  obtain ⟨o, ko, h1, h2, h3, -, -⟩ := Cond.noSuperclass_spec w2
  obtain ⟨c, h0⟩ := found_sup w1
  obtain ⟨p, k, kp, i1, i2, i3, i4, i5, -, i7⟩ := Cond.superclass_spec h0 w1
  cases h1.symm.trans i1
  have neO := ids_ne h1 g0 (by decide)
  have ne := ids_ne h0 g0 (by decide)
  have n1 : ∀ fuel, Z.vm.isSubclassAux fuel o t = false := fun fuel => by
    cases fuel with
    | zero => rfl
    | succ f => simp [Vm.isSubclassAux, neO, h2, h3]
  have n2 : ∀ fuel, Z.vm.isSubclassAux fuel c t = false := fun fuel => by
    cases fuel with
    | zero => rfl
    | succ f => simp [Vm.isSubclassAux, ne, i2, i4, n1]
  have g7 : kt.isInterface = false := by
    cases q : kt.isInterface with
    | false => rfl
    | true => rw [q] at g6; simp at g6
  refine ⟨c, t, h0, g0, ?_⟩
  show Z.vm.assignableAux (255 + 1) c t = false
  simp [Vm.assignableAux, ne, i2, g2, i5, g5, g7, Vm.isSubclass, n2]
def SSt (Z : State) (cs : Int32) : Prop := ¬ cs = 0 ∧ Sta Z Z.heap "java/lang/String" "COMPACT_STRINGS" "Z" (.int cs)

theorem w_0 {Z : State} {a0 : Array Value} (hw : ∀ d ∈ tables_1, d.before a0 Z = true) : (Jvm.Cond.constant "com/example/phaseline/phaseline/game/SideEqualsPinLaw" (12 : Nat) (65535 : Int32)).before a0 Z = true := hw _ (List.mem_of_getElem? (i := 0) rfl)
theorem w_1 {Z : State} {a0 : Array Value} (hw : ∀ d ∈ tables_1, d.before a0 Z = true) : (Jvm.Cond.methodLink "com/example/phaseline/phaseline/game/SideEqualsPinLaw" (13 : Nat) ({ cls := "com/example/phaseline/phaseline/game/SideEqualsPinLaw", name := "mk", desc := "(II)Ljava/lang/String;" } : Jvm.MethodName)).before a0 Z = true := hw _ (List.mem_of_getElem? (i := 1) rfl)
theorem w_2 {Z : State} {a0 : Array Value} (hw : ∀ d ∈ tables_1, d.before a0 Z = true) : (Jvm.Cond.static ({ cls := "com/example/phaseline/phaseline/game/SideEqualsPinLaw", name := "mk", desc := "(II)Ljava/lang/String;" } : Jvm.MethodName)).before a0 Z = true := hw _ (List.mem_of_getElem? (i := 2) rfl)
theorem w_3 {Z : State} {a0 : Array Value} (hw : ∀ d ∈ tables_1, d.before a0 Z = true) : (Jvm.Cond.initialized "com/example/phaseline/phaseline/game/SideEqualsPinLaw").before a0 Z = true := hw _ (List.mem_of_getElem? (i := 3) rfl)
theorem w_4 {Z : State} {a0 : Array Value} (hw : ∀ d ∈ tables_1, d.before a0 Z = true) : (Jvm.Cond.code ({ cls := "com/example/phaseline/phaseline/game/SideEqualsPinLaw", name := "mk", desc := "(II)Ljava/lang/String;" } : Jvm.MethodName) method_2_code (3 : Nat) (Option.some (Jvm.ClassFile.FieldType.object "java/lang/String"))).before a0 Z = true := hw _ (List.mem_of_getElem? (i := 4) rfl)
theorem w_5 {Z : State} {a0 : Array Value} (hw : ∀ d ∈ tables_1, d.before a0 Z = true) : (Jvm.Cond.arrayClass Jvm.ClassFile.FieldType.char).before a0 Z = true := hw _ (List.mem_of_getElem? (i := 5) rfl)
theorem w_6 {Z : State} {a0 : Array Value} (hw : ∀ d ∈ tables_1, d.before a0 Z = true) : (Jvm.Cond.classLink "com/example/phaseline/phaseline/game/SideEqualsPinLaw" (7 : Nat) "java/lang/String").before a0 Z = true := hw _ (List.mem_of_getElem? (i := 6) rfl)
theorem w_7 {Z : State} {a0 : Array Value} (hw : ∀ d ∈ tables_1, d.before a0 Z = true) : (Jvm.Cond.instantiable "java/lang/String" (4 : Nat)).before a0 Z = true := hw _ (List.mem_of_getElem? (i := 7) rfl)
theorem w_8 {Z : State} {a0 : Array Value} (hw : ∀ d ∈ tables_1, d.before a0 Z = true) : (Jvm.Cond.initialized "java/lang/String").before a0 Z = true := hw _ (List.mem_of_getElem? (i := 8) rfl)
theorem w_9 {Z : State} {a0 : Array Value} (hw : ∀ d ∈ tables_1, d.before a0 Z = true) : (Jvm.Cond.methodLink "com/example/phaseline/phaseline/game/SideEqualsPinLaw" (9 : Nat) ({ cls := "java/lang/String", name := "<init>", desc := "([C)V" } : Jvm.MethodName)).before a0 Z = true := hw _ (List.mem_of_getElem? (i := 9) rfl)
theorem w_10 {Z : State} {a0 : Array Value} (hw : ∀ d ∈ tables_1, d.before a0 Z = true) : (Jvm.Cond.instanceMethod ({ cls := "java/lang/String", name := "<init>", desc := "([C)V" } : Jvm.MethodName)).before a0 Z = true := hw _ (List.mem_of_getElem? (i := 10) rfl)
theorem w_11 {Z : State} {a0 : Array Value} (hw : ∀ d ∈ tables_1, d.before a0 Z = true) : (Jvm.Cond.code ({ cls := "java/lang/String", name := "<init>", desc := "([C)V" } : Jvm.MethodName) jdk_42_method_3_code (2 : Nat) (Option.none : Option Jvm.ClassFile.FieldType)).before a0 Z = true := hw _ (List.mem_of_getElem? (i := 11) rfl)
theorem w_12 {Z : State} {a0 : Array Value} (hw : ∀ d ∈ tables_1, d.before a0 Z = true) : (Jvm.Cond.methodLink "java/lang/String" (27 : Nat) ({ cls := "java/lang/String", name := "<init>", desc := "([CIILjava/lang/Void;)V" } : Jvm.MethodName)).before a0 Z = true := hw _ (List.mem_of_getElem? (i := 12) rfl)
theorem w_13 {Z : State} {a0 : Array Value} (hw : ∀ d ∈ tables_1, d.before a0 Z = true) : (Jvm.Cond.instanceMethod ({ cls := "java/lang/String", name := "<init>", desc := "([CIILjava/lang/Void;)V" } : Jvm.MethodName)).before a0 Z = true := hw _ (List.mem_of_getElem? (i := 13) rfl)
theorem w_15 {Z : State} {a0 : Array Value} (hw : ∀ d ∈ tables_1, d.before a0 Z = true) : (Jvm.Cond.code ({ cls := "java/lang/String", name := "<init>", desc := "([CIILjava/lang/Void;)V" } : Jvm.MethodName) jdk_42_method_149_code (6 : Nat) (Option.none : Option Jvm.ClassFile.FieldType)).before a0 Z = true := hw _ (List.mem_of_getElem? (i := 15) rfl)
theorem w_16 {Z : State} {a0 : Array Value} (hw : ∀ d ∈ tables_1, d.before a0 Z = true) : (Jvm.Cond.methodLink "java/lang/String" (1 : Nat) ({ cls := "java/lang/Object", name := "<init>", desc := "()V" } : Jvm.MethodName)).before a0 Z = true := hw _ (List.mem_of_getElem? (i := 16) rfl)
theorem w_17 {Z : State} {a0 : Array Value} (hw : ∀ d ∈ tables_1, d.before a0 Z = true) : (Jvm.Cond.instanceMethod ({ cls := "java/lang/Object", name := "<init>", desc := "()V" } : Jvm.MethodName)).before a0 Z = true := hw _ (List.mem_of_getElem? (i := 17) rfl)
theorem w_18 {Z : State} {a0 : Array Value} (hw : ∀ d ∈ tables_1, d.before a0 Z = true) : (Jvm.Cond.code ({ cls := "java/lang/Object", name := "<init>", desc := "()V" } : Jvm.MethodName) object_method_1_code (1 : Nat) (Option.none : Option Jvm.ClassFile.FieldType)).before a0 Z = true := hw _ (List.mem_of_getElem? (i := 18) rfl)
theorem w_19 {Z : State} {a0 : Array Value} (hw : ∀ d ∈ tables_1, d.before a0 Z = true) : (Jvm.Cond.fieldLink "java/lang/String" (38 : Nat) "java/lang/String" "COMPACT_STRINGS" "Z").before a0 Z = true := hw _ (List.mem_of_getElem? (i := 19) rfl)
theorem w_20 {Z : State} {a0 : Array Value} (hw : ∀ d ∈ tables_1, d.before a0 Z = true) : (Jvm.Cond.methodLink "java/lang/String" (177 : Nat) ({ cls := "java/lang/StringUTF16", name := "compress", desc := "([CII)[B" } : Jvm.MethodName)).before a0 Z = true := hw _ (List.mem_of_getElem? (i := 20) rfl)
theorem w_21 {Z : State} {a0 : Array Value} (hw : ∀ d ∈ tables_1, d.before a0 Z = true) : (Jvm.Cond.static ({ cls := "java/lang/StringUTF16", name := "compress", desc := "([CII)[B" } : Jvm.MethodName)).before a0 Z = true := hw _ (List.mem_of_getElem? (i := 21) rfl)
theorem w_22 {Z : State} {a0 : Array Value} (hw : ∀ d ∈ tables_1, d.before a0 Z = true) : (Jvm.Cond.initialized "java/lang/StringUTF16").before a0 Z = true := hw _ (List.mem_of_getElem? (i := 22) rfl)
theorem w_23 {Z : State} {a0 : Array Value} (hw : ∀ d ∈ tables_1, d.before a0 Z = true) : (Jvm.Cond.code ({ cls := "java/lang/StringUTF16", name := "compress", desc := "([CII)[B" } : Jvm.MethodName) jdk_52_method_16_code (6 : Nat) (Option.some (Jvm.ClassFile.FieldType.array Jvm.ClassFile.FieldType.byte))).before a0 Z = true := hw _ (List.mem_of_getElem? (i := 23) rfl)
theorem w_24 {Z : State} {a0 : Array Value} (hw : ∀ d ∈ tables_1, d.before a0 Z = true) : (Jvm.Cond.arrayClass Jvm.ClassFile.FieldType.byte).before a0 Z = true := hw _ (List.mem_of_getElem? (i := 24) rfl)
theorem w_25 {Z : State} {a0 : Array Value} (hw : ∀ d ∈ tables_1, d.before a0 Z = true) : (Jvm.Cond.methodLink "java/lang/StringUTF16" (115 : Nat) ({ cls := "java/lang/StringUTF16", name := "compress", desc := "([CI[BII)I" } : Jvm.MethodName)).before a0 Z = true := hw _ (List.mem_of_getElem? (i := 25) rfl)
theorem w_26 {Z : State} {a0 : Array Value} (hw : ∀ d ∈ tables_1, d.before a0 Z = true) : (Jvm.Cond.static ({ cls := "java/lang/StringUTF16", name := "compress", desc := "([CI[BII)I" } : Jvm.MethodName)).before a0 Z = true := hw _ (List.mem_of_getElem? (i := 26) rfl)
theorem w_27 {Z : State} {a0 : Array Value} (hw : ∀ d ∈ tables_1, d.before a0 Z = true) : (Jvm.Cond.code ({ cls := "java/lang/StringUTF16", name := "compress", desc := "([CI[BII)I" } : Jvm.MethodName) jdk_52_method_21_code (7 : Nat) (Option.some Jvm.ClassFile.FieldType.int)).before a0 Z = true := hw _ (List.mem_of_getElem? (i := 27) rfl)
theorem w_28 {Z : State} {a0 : Array Value} (hw : ∀ d ∈ tables_1, d.before a0 Z = true) : (Jvm.Cond.methodLink "java/lang/String" (47 : Nat) ({ cls := "java/lang/StringUTF16", name := "coderFromArrayLen", desc := "([BI)B" } : Jvm.MethodName)).before a0 Z = true := hw _ (List.mem_of_getElem? (i := 28) rfl)
theorem w_29 {Z : State} {a0 : Array Value} (hw : ∀ d ∈ tables_1, d.before a0 Z = true) : (Jvm.Cond.static ({ cls := "java/lang/StringUTF16", name := "coderFromArrayLen", desc := "([BI)B" } : Jvm.MethodName)).before a0 Z = true := hw _ (List.mem_of_getElem? (i := 29) rfl)
theorem w_30 {Z : State} {a0 : Array Value} (hw : ∀ d ∈ tables_1, d.before a0 Z = true) : (Jvm.Cond.code ({ cls := "java/lang/StringUTF16", name := "coderFromArrayLen", desc := "([BI)B" } : Jvm.MethodName) jdk_52_method_15_code (2 : Nat) (Option.some Jvm.ClassFile.FieldType.byte)).before a0 Z = true := hw _ (List.mem_of_getElem? (i := 30) rfl)
theorem w_31 {Z : State} {a0 : Array Value} (hw : ∀ d ∈ tables_1, d.before a0 Z = true) : (Jvm.Cond.fieldLink "java/lang/String" (15 : Nat) "java/lang/String" "coder" "B").before a0 Z = true := hw _ (List.mem_of_getElem? (i := 31) rfl)
theorem w_32 {Z : State} {a0 : Array Value} (hw : ∀ d ∈ tables_1, d.before a0 Z = true) : (Jvm.Cond.laysFinal "java/lang/String" "java/lang/String" "coder" "B").before a0 Z = true := hw _ (List.mem_of_getElem? (i := 32) rfl)
theorem w_33 {Z : State} {a0 : Array Value} (hw : ∀ d ∈ tables_1, d.before a0 Z = true) : (Jvm.Cond.fieldLink "java/lang/String" (9 : Nat) "java/lang/String" "value" "[B").before a0 Z = true := hw _ (List.mem_of_getElem? (i := 33) rfl)
theorem w_34 {Z : State} {a0 : Array Value} (hw : ∀ d ∈ tables_1, d.before a0 Z = true) : (Jvm.Cond.laysFinal "java/lang/String" "java/lang/String" "value" "[B").before a0 Z = true := hw _ (List.mem_of_getElem? (i := 34) rfl)
theorem w_35 {Z : State} {a0 : Array Value} (hw : ∀ d ∈ tables_1, d.before a0 Z = true) : (Jvm.Cond.stringLink "java/lang/String" (7 : Nat) "").before a0 Z = true := hw _ (List.mem_of_getElem? (i := 35) rfl)
theorem w_36 {Z : State} {a0 : Array Value} (hw : ∀ d ∈ tables_1, d.before a0 Z = true) : (Jvm.Cond.soleField "java/lang/String" "value").before a0 Z = true := hw _ (List.mem_of_getElem? (i := 36) rfl)
theorem w_37 {Z : State} {a0 : Array Value} (hw : ∀ d ∈ tables_1, d.before a0 Z = true) : (Jvm.Cond.soleField "java/lang/String" "coder").before a0 Z = true := hw _ (List.mem_of_getElem? (i := 37) rfl)
theorem w_38 {Z : State} {a0 : Array Value} (hw : ∀ d ∈ tables_1, d.before a0 Z = true) : (Jvm.Cond.classLink "com/example/phaseline/phaseline/game/SideEqualsPinLaw" (19 : Nat) "com/example/phaseline/phaseline/game/Side").before a0 Z = true := hw _ (List.mem_of_getElem? (i := 38) rfl)
theorem w_39 {Z : State} {a0 : Array Value} (hw : ∀ d ∈ tables_1, d.before a0 Z = true) : (Jvm.Cond.instantiable "com/example/phaseline/phaseline/game/Side" (2 : Nat)).before a0 Z = true := hw _ (List.mem_of_getElem? (i := 39) rfl)
theorem w_40 {Z : State} {a0 : Array Value} (hw : ∀ d ∈ tables_1, d.before a0 Z = true) : (Jvm.Cond.initialized "com/example/phaseline/phaseline/game/Side").before a0 Z = true := hw _ (List.mem_of_getElem? (i := 40) rfl)
theorem w_41 {Z : State} {a0 : Array Value} (hw : ∀ d ∈ tables_1, d.before a0 Z = true) : (Jvm.Cond.methodLink "com/example/phaseline/phaseline/game/SideEqualsPinLaw" (21 : Nat) ({ cls := "com/example/phaseline/phaseline/game/Side", name := "<init>", desc := "(Ljava/lang/String;Ljava/lang/String;)V" } : Jvm.MethodName)).before a0 Z = true := hw _ (List.mem_of_getElem? (i := 41) rfl)
theorem w_42 {Z : State} {a0 : Array Value} (hw : ∀ d ∈ tables_1, d.before a0 Z = true) : (Jvm.Cond.instanceMethod ({ cls := "com/example/phaseline/phaseline/game/Side", name := "<init>", desc := "(Ljava/lang/String;Ljava/lang/String;)V" } : Jvm.MethodName)).before a0 Z = true := hw _ (List.mem_of_getElem? (i := 42) rfl)
theorem w_43 {Z : State} {a0 : Array Value} (hw : ∀ d ∈ tables_1, d.before a0 Z = true) : (Jvm.Cond.code ({ cls := "com/example/phaseline/phaseline/game/Side", name := "<init>", desc := "(Ljava/lang/String;Ljava/lang/String;)V" } : Jvm.MethodName) prog_21_method_1_code (3 : Nat) (Option.none : Option Jvm.ClassFile.FieldType)).before a0 Z = true := hw _ (List.mem_of_getElem? (i := 43) rfl)
theorem w_44 {Z : State} {a0 : Array Value} (hw : ∀ d ∈ tables_1, d.before a0 Z = true) : (Jvm.Cond.methodLink "com/example/phaseline/phaseline/game/Side" (1 : Nat) ({ cls := "java/lang/Record", name := "<init>", desc := "()V" } : Jvm.MethodName)).before a0 Z = true := hw _ (List.mem_of_getElem? (i := 44) rfl)
theorem w_45 {Z : State} {a0 : Array Value} (hw : ∀ d ∈ tables_1, d.before a0 Z = true) : (Jvm.Cond.instanceMethod ({ cls := "java/lang/Record", name := "<init>", desc := "()V" } : Jvm.MethodName)).before a0 Z = true := hw _ (List.mem_of_getElem? (i := 45) rfl)
theorem w_47 {Z : State} {a0 : Array Value} (hw : ∀ d ∈ tables_1, d.before a0 Z = true) : (Jvm.Cond.initialized "java/lang/Record").before a0 Z = true := hw _ (List.mem_of_getElem? (i := 47) rfl)
theorem w_48 {Z : State} {a0 : Array Value} (hw : ∀ d ∈ tables_1, d.before a0 Z = true) : (Jvm.Cond.code ({ cls := "java/lang/Record", name := "<init>", desc := "()V" } : Jvm.MethodName) jdk_30_method_1_code (1 : Nat) (Option.none : Option Jvm.ClassFile.FieldType)).before a0 Z = true := hw _ (List.mem_of_getElem? (i := 48) rfl)
theorem w_49 {Z : State} {a0 : Array Value} (hw : ∀ d ∈ tables_1, d.before a0 Z = true) : (Jvm.Cond.methodLink "java/lang/Record" (1 : Nat) ({ cls := "java/lang/Object", name := "<init>", desc := "()V" } : Jvm.MethodName)).before a0 Z = true := hw _ (List.mem_of_getElem? (i := 49) rfl)
theorem w_50 {Z : State} {a0 : Array Value} (hw : ∀ d ∈ tables_1, d.before a0 Z = true) : (Jvm.Cond.stringLink "com/example/phaseline/phaseline/game/Side" (7 : Nat) "id").before a0 Z = true := hw _ (List.mem_of_getElem? (i := 50) rfl)
theorem w_51 {Z : State} {a0 : Array Value} (hw : ∀ d ∈ tables_1, d.before a0 Z = true) : (Jvm.Cond.methodLink "com/example/phaseline/phaseline/game/Side" (9 : Nat) ({ cls := "java/util/Objects", name := "requireNonNull", desc := "(Ljava/lang/Object;Ljava/lang/String;)Ljava/lang/Object;" } : Jvm.MethodName)).before a0 Z = true := hw _ (List.mem_of_getElem? (i := 51) rfl)
theorem w_52 {Z : State} {a0 : Array Value} (hw : ∀ d ∈ tables_1, d.before a0 Z = true) : (Jvm.Cond.static ({ cls := "java/util/Objects", name := "requireNonNull", desc := "(Ljava/lang/Object;Ljava/lang/String;)Ljava/lang/Object;" } : Jvm.MethodName)).before a0 Z = true := hw _ (List.mem_of_getElem? (i := 52) rfl)
theorem w_53 {Z : State} {a0 : Array Value} (hw : ∀ d ∈ tables_1, d.before a0 Z = true) : (Jvm.Cond.initialized "java/util/Objects").before a0 Z = true := hw _ (List.mem_of_getElem? (i := 53) rfl)
theorem w_54 {Z : State} {a0 : Array Value} (hw : ∀ d ∈ tables_1, d.before a0 Z = true) : (Jvm.Cond.code ({ cls := "java/util/Objects", name := "requireNonNull", desc := "(Ljava/lang/Object;Ljava/lang/String;)Ljava/lang/Object;" } : Jvm.MethodName) jdk_31_method_11_code (2 : Nat) (Option.some (Jvm.ClassFile.FieldType.object "java/lang/Object"))).before a0 Z = true := hw _ (List.mem_of_getElem? (i := 54) rfl)
theorem w_55 {Z : State} {a0 : Array Value} (hw : ∀ d ∈ tables_1, d.before a0 Z = true) : (Jvm.Cond.stringLink "com/example/phaseline/phaseline/game/Side" (15 : Nat) "name").before a0 Z = true := hw _ (List.mem_of_getElem? (i := 55) rfl)
theorem w_56 {Z : State} {a0 : Array Value} (hw : ∀ d ∈ tables_1, d.before a0 Z = true) : (Jvm.Cond.fieldLink "com/example/phaseline/phaseline/game/Side" (17 : Nat) "com/example/phaseline/phaseline/game/Side" "id" "Ljava/lang/String;").before a0 Z = true := hw _ (List.mem_of_getElem? (i := 56) rfl)
theorem w_57 {Z : State} {a0 : Array Value} (hw : ∀ d ∈ tables_1, d.before a0 Z = true) : (Jvm.Cond.laysFinal "com/example/phaseline/phaseline/game/Side" "com/example/phaseline/phaseline/game/Side" "id" "Ljava/lang/String;").before a0 Z = true := hw _ (List.mem_of_getElem? (i := 57) rfl)
theorem w_58 {Z : State} {a0 : Array Value} (hw : ∀ d ∈ tables_1, d.before a0 Z = true) : (Jvm.Cond.fieldLink "com/example/phaseline/phaseline/game/Side" (22 : Nat) "com/example/phaseline/phaseline/game/Side" "name" "Ljava/lang/String;").before a0 Z = true := hw _ (List.mem_of_getElem? (i := 58) rfl)
theorem w_59 {Z : State} {a0 : Array Value} (hw : ∀ d ∈ tables_1, d.before a0 Z = true) : (Jvm.Cond.laysFinal "com/example/phaseline/phaseline/game/Side" "com/example/phaseline/phaseline/game/Side" "name" "Ljava/lang/String;").before a0 Z = true := hw _ (List.mem_of_getElem? (i := 59) rfl)
theorem w_60 {Z : State} {a0 : Array Value} (hw : ∀ d ∈ tables_1, d.before a0 Z = true) : (Jvm.Cond.methodLink "com/example/phaseline/phaseline/game/SideEqualsPinLaw" (28 : Nat) ({ cls := "com/example/phaseline/phaseline/game/SideEqualsPinLaw", name := "same", desc := "(IIII)Z" } : Jvm.MethodName)).before a0 Z = true := hw _ (List.mem_of_getElem? (i := 60) rfl)
theorem w_61 {Z : State} {a0 : Array Value} (hw : ∀ d ∈ tables_1, d.before a0 Z = true) : (Jvm.Cond.static ({ cls := "com/example/phaseline/phaseline/game/SideEqualsPinLaw", name := "same", desc := "(IIII)Z" } : Jvm.MethodName)).before a0 Z = true := hw _ (List.mem_of_getElem? (i := 61) rfl)
theorem w_62 {Z : State} {a0 : Array Value} (hw : ∀ d ∈ tables_1, d.before a0 Z = true) : (Jvm.Cond.code ({ cls := "com/example/phaseline/phaseline/game/SideEqualsPinLaw", name := "same", desc := "(IIII)Z" } : Jvm.MethodName) method_3_code (4 : Nat) (Option.some Jvm.ClassFile.FieldType.boolean)).before a0 Z = true := hw _ (List.mem_of_getElem? (i := 62) rfl)
theorem w_63 {Z : State} {a0 : Array Value} (hw : ∀ d ∈ tables_1, d.before a0 Z = true) : (Jvm.Cond.methodLink "com/example/phaseline/phaseline/game/SideEqualsPinLaw" (24 : Nat) ({ cls := "com/example/phaseline/phaseline/game/Side", name := "equals", desc := "(Ljava/lang/Object;)Z" } : Jvm.MethodName)).before a0 Z = true := hw _ (List.mem_of_getElem? (i := 63) rfl)
theorem w_64 {Z : State} {a0 : Array Value} (hw : ∀ d ∈ tables_1, d.before a0 Z = true) : (Jvm.Cond.declares ({ cls := "com/example/phaseline/phaseline/game/Side", name := "equals", desc := "(Ljava/lang/Object;)Z" } : Jvm.MethodName)).before a0 Z = true := hw _ (List.mem_of_getElem? (i := 64) rfl)
theorem w_65 {Z : State} {a0 : Array Value} (hw : ∀ d ∈ tables_1, d.before a0 Z = true) : (Jvm.Cond.instanceMethod ({ cls := "com/example/phaseline/phaseline/game/Side", name := "equals", desc := "(Ljava/lang/Object;)Z" } : Jvm.MethodName)).before a0 Z = true := hw _ (List.mem_of_getElem? (i := 65) rfl)
theorem w_66 {Z : State} {a0 : Array Value} (hw : ∀ d ∈ tables_1, d.before a0 Z = true) : (Jvm.Cond.selects "com/example/phaseline/phaseline/game/Side" ({ cls := "com/example/phaseline/phaseline/game/Side", name := "equals", desc := "(Ljava/lang/Object;)Z" } : Jvm.MethodName) ({ cls := "com/example/phaseline/phaseline/game/Side", name := "equals", desc := "(Ljava/lang/Object;)Z" } : Jvm.MethodName)).before a0 Z = true := hw _ (List.mem_of_getElem? (i := 66) rfl)
theorem w_67 {Z : State} {a0 : Array Value} (hw : ∀ d ∈ tables_1, d.before a0 Z = true) : (Jvm.Cond.code ({ cls := "com/example/phaseline/phaseline/game/Side", name := "equals", desc := "(Ljava/lang/Object;)Z" } : Jvm.MethodName) prog_21_method_2_code (3 : Nat) (Option.some Jvm.ClassFile.FieldType.boolean)).before a0 Z = true := hw _ (List.mem_of_getElem? (i := 67) rfl)
theorem w_68 {Z : State} {a0 : Array Value} (hw : ∀ d ∈ tables_1, d.before a0 Z = true) : (Jvm.Cond.classLink "com/example/phaseline/phaseline/game/Side" (18 : Nat) "com/example/phaseline/phaseline/game/Side").before a0 Z = true := hw _ (List.mem_of_getElem? (i := 68) rfl)
theorem w_70 {Z : State} {a0 : Array Value} (hw : ∀ d ∈ tables_1, d.before a0 Z = true) : (Jvm.Cond.methodLink "com/example/phaseline/phaseline/game/Side" (24 : Nat) ({ cls := "java/lang/String", name := "equals", desc := "(Ljava/lang/Object;)Z" } : Jvm.MethodName)).before a0 Z = true := hw _ (List.mem_of_getElem? (i := 70) rfl)
theorem w_71 {Z : State} {a0 : Array Value} (hw : ∀ d ∈ tables_1, d.before a0 Z = true) : (Jvm.Cond.declares ({ cls := "java/lang/String", name := "equals", desc := "(Ljava/lang/Object;)Z" } : Jvm.MethodName)).before a0 Z = true := hw _ (List.mem_of_getElem? (i := 71) rfl)
theorem w_72 {Z : State} {a0 : Array Value} (hw : ∀ d ∈ tables_1, d.before a0 Z = true) : (Jvm.Cond.instanceMethod ({ cls := "java/lang/String", name := "equals", desc := "(Ljava/lang/Object;)Z" } : Jvm.MethodName)).before a0 Z = true := hw _ (List.mem_of_getElem? (i := 72) rfl)
theorem w_73 {Z : State} {a0 : Array Value} (hw : ∀ d ∈ tables_1, d.before a0 Z = true) : (Jvm.Cond.selects "java/lang/String" ({ cls := "java/lang/String", name := "equals", desc := "(Ljava/lang/Object;)Z" } : Jvm.MethodName) ({ cls := "java/lang/String", name := "equals", desc := "(Ljava/lang/Object;)Z" } : Jvm.MethodName)).before a0 Z = true := hw _ (List.mem_of_getElem? (i := 73) rfl)
theorem w_74 {Z : State} {a0 : Array Value} (hw : ∀ d ∈ tables_1, d.before a0 Z = true) : (Jvm.Cond.code ({ cls := "java/lang/String", name := "equals", desc := "(Ljava/lang/Object;)Z" } : Jvm.MethodName) jdk_42_method_66_code (3 : Nat) (Option.some Jvm.ClassFile.FieldType.boolean)).before a0 Z = true := hw _ (List.mem_of_getElem? (i := 74) rfl)
theorem w_75 {Z : State} {a0 : Array Value} (hw : ∀ d ∈ tables_1, d.before a0 Z = true) : (Jvm.Cond.classLink "java/lang/String" (10 : Nat) "java/lang/String").before a0 Z = true := hw _ (List.mem_of_getElem? (i := 75) rfl)
theorem w_76 {Z : State} {a0 : Array Value} (hw : ∀ d ∈ tables_1, d.before a0 Z = true) : (Jvm.Cond.methodLink "java/lang/String" (541 : Nat) ({ cls := "java/lang/StringLatin1", name := "equals", desc := "([B[B)Z" } : Jvm.MethodName)).before a0 Z = true := hw _ (List.mem_of_getElem? (i := 76) rfl)
theorem w_77 {Z : State} {a0 : Array Value} (hw : ∀ d ∈ tables_1, d.before a0 Z = true) : (Jvm.Cond.static ({ cls := "java/lang/StringLatin1", name := "equals", desc := "([B[B)Z" } : Jvm.MethodName)).before a0 Z = true := hw _ (List.mem_of_getElem? (i := 77) rfl)
theorem w_78 {Z : State} {a0 : Array Value} (hw : ∀ d ∈ tables_1, d.before a0 Z = true) : (Jvm.Cond.initialized "java/lang/StringLatin1").before a0 Z = true := hw _ (List.mem_of_getElem? (i := 78) rfl)
theorem w_79 {Z : State} {a0 : Array Value} (hw : ∀ d ∈ tables_1, d.before a0 Z = true) : (Jvm.Cond.code ({ cls := "java/lang/StringLatin1", name := "equals", desc := "([B[B)Z" } : Jvm.MethodName) jdk_43_method_13_code (3 : Nat) (Option.some Jvm.ClassFile.FieldType.boolean)).before a0 Z = true := hw _ (List.mem_of_getElem? (i := 79) rfl)
theorem w_80 {Z : State} {a0 : Array Value} (hw : ∀ d ∈ tables_1, d.before a0 Z = true) : (Jvm.Cond.superclass "java/lang/String" "java/lang/Object").before a0 Z = true := hw _ (List.mem_of_getElem? (i := 80) rfl)
theorem w_81 {Z : State} {a0 : Array Value} (hw : ∀ d ∈ tables_1, d.before a0 Z = true) : (Jvm.Cond.noSuperclass "java/lang/Object").before a0 Z = true := hw _ (List.mem_of_getElem? (i := 81) rfl)
theorem own_str {Z : State} {a0 : Array Value} (hw : ∀ d ∈ tables_1, d.before a0 Z = true) : ∀ a ∈ Bundle.stringAtoms, a.before a0 Z = true := by
  intro a ha
  simp only [Bundle.stringAtoms, List.mem_cons, List.not_mem_nil, or_false] at ha
  rcases ha with rfl | rfl | rfl | rfl | rfl | rfl | rfl
  · exact w_8 hw
  · exact w_7 hw
  · exact w_24 hw
  · exact w_34 hw
  · exact w_32 hw
  · exact w_36 hw
  · exact w_37 hw
theorem own_EL {Z : State} {a0 : Array Value} (hw : ∀ d ∈ tables_1, d.before a0 Z = true) : EW Z a0 ELs := EW.cons (w_35 hw) (by decide) EW.nil
theorem d6_0 : decode jdk_52_method_21_code 0 = .ok (.iconst 0, 1) := by decide +kernel
theorem d6_1 : decode jdk_52_method_21_code 1 = .ok (.istore 5, 2) := by decide +kernel
theorem d6_3 : decode jdk_52_method_21_code 3 = .ok (.iload 5, 2) := by decide +kernel
theorem d6_5 : decode jdk_52_method_21_code 5 = .ok (.iload 4, 2) := by decide +kernel
theorem d6_7 : decode jdk_52_method_21_code 7 = .ok (.if_icmp .ge 37, 3) := by decide +kernel
theorem d6_10 : decode jdk_52_method_21_code 10 = .ok (.aload_n 0, 1) := by decide +kernel
theorem d6_11 : decode jdk_52_method_21_code 11 = .ok (.iload_n 1, 1) := by decide +kernel
theorem d6_12 : decode jdk_52_method_21_code 12 = .ok (.caload, 1) := by decide +kernel
theorem d6_13 : decode jdk_52_method_21_code 13 = .ok (.istore 6, 2) := by decide +kernel
theorem d6_15 : decode jdk_52_method_21_code 15 = .ok (.iload 6, 2) := by decide +kernel
theorem d6_17 : decode jdk_52_method_21_code 17 = .ok (.sipush 255, 3) := by decide +kernel
theorem d6_20 : decode jdk_52_method_21_code 20 = .ok (.if_icmp .le 6, 3) := by decide +kernel
theorem d6_23 : decode jdk_52_method_21_code 23 = .ok (.iload 5, 2) := by decide +kernel
theorem d6_25 : decode jdk_52_method_21_code 25 = .ok (.ireturn, 1) := by decide +kernel
theorem d6_26 : decode jdk_52_method_21_code 26 = .ok (.aload_n 2, 1) := by decide +kernel
theorem d6_27 : decode jdk_52_method_21_code 27 = .ok (.iload_n 3, 1) := by decide +kernel
theorem d6_28 : decode jdk_52_method_21_code 28 = .ok (.iload 6, 2) := by decide +kernel
theorem d6_30 : decode jdk_52_method_21_code 30 = .ok (.i2b, 1) := by decide +kernel
theorem d6_31 : decode jdk_52_method_21_code 31 = .ok (.bastore, 1) := by decide +kernel
theorem d6_32 : decode jdk_52_method_21_code 32 = .ok (.iinc 1 1, 3) := by decide +kernel
theorem d6_35 : decode jdk_52_method_21_code 35 = .ok (.iinc 3 1, 3) := by decide +kernel
theorem d6_38 : decode jdk_52_method_21_code 38 = .ok (.iinc 5 1, 3) := by decide +kernel
theorem d6_41 : decode jdk_52_method_21_code 41 = .ok (.goto (-38), 3) := by decide +kernel
theorem d6_44 : decode jdk_52_method_21_code 44 = .ok (.iload 4, 2) := by decide +kernel
theorem d6_46 : decode jdk_52_method_21_code 46 = .ok (.ireturn, 1) := by decide +kernel
theorem d5_0 : decode jdk_52_method_16_code 0 = .ok (.iload_n 2, 1) := by decide +kernel
theorem d5_1 : decode jdk_52_method_16_code 1 = .ok (.newarray .byte, 2) := by decide +kernel
theorem d5_3 : decode jdk_52_method_16_code 3 = .ok (.astore_n 3, 1) := by decide +kernel
theorem d5_4 : decode jdk_52_method_16_code 4 = .ok (.aload_n 0, 1) := by decide +kernel
theorem d5_5 : decode jdk_52_method_16_code 5 = .ok (.iload_n 1, 1) := by decide +kernel
theorem d5_6 : decode jdk_52_method_16_code 6 = .ok (.aload_n 3, 1) := by decide +kernel
theorem d5_7 : decode jdk_52_method_16_code 7 = .ok (.iconst 0, 1) := by decide +kernel
theorem d5_8 : decode jdk_52_method_16_code 8 = .ok (.iload_n 2, 1) := by decide +kernel
theorem d5_9 : decode jdk_52_method_16_code 9 = .ok (.invokestatic 115, 3) := by decide +kernel
theorem d5_12 : decode jdk_52_method_16_code 12 = .ok (.istore 4, 2) := by decide +kernel
theorem d5_14 : decode jdk_52_method_16_code 14 = .ok (.iload 4, 2) := by decide +kernel
theorem d5_16 : decode jdk_52_method_16_code 16 = .ok (.iload_n 2, 1) := by decide +kernel
theorem d5_17 : decode jdk_52_method_16_code 17 = .ok (.if_icmp .eq 40, 3) := by decide +kernel
theorem d5_20 : decode jdk_52_method_16_code 20 = .ok (.aload_n 0, 1) := by decide +kernel
theorem d5_21 : decode jdk_52_method_16_code 21 = .ok (.iload_n 1, 1) := by decide +kernel
theorem d5_22 : decode jdk_52_method_16_code 22 = .ok (.iload_n 2, 1) := by decide +kernel
theorem d5_23 : decode jdk_52_method_16_code 23 = .ok (.invokestatic 119, 3) := by decide +kernel
theorem d5_26 : decode jdk_52_method_16_code 26 = .ok (.astore 5, 2) := by decide +kernel
theorem d5_28 : decode jdk_52_method_16_code 28 = .ok (.aload 5, 2) := by decide +kernel
theorem d5_30 : decode jdk_52_method_16_code 30 = .ok (.iload 4, 2) := by decide +kernel
theorem d5_32 : decode jdk_52_method_16_code 32 = .ok (.invokestatic 71, 3) := by decide +kernel
theorem d5_35 : decode jdk_52_method_16_code 35 = .ok (.sipush 255, 3) := by decide +kernel
theorem d5_38 : decode jdk_52_method_16_code 38 = .ok (.if_icmp .gt 16, 3) := by decide +kernel
theorem d5_41 : decode jdk_52_method_16_code 41 = .ok (.aload 5, 2) := by decide +kernel
theorem d5_43 : decode jdk_52_method_16_code 43 = .ok (.iconst 0, 1) := by decide +kernel
theorem d5_44 : decode jdk_52_method_16_code 44 = .ok (.aload_n 3, 1) := by decide +kernel
theorem d5_45 : decode jdk_52_method_16_code 45 = .ok (.iconst 0, 1) := by decide +kernel
theorem d5_46 : decode jdk_52_method_16_code 46 = .ok (.iload_n 2, 1) := by decide +kernel
theorem d5_47 : decode jdk_52_method_16_code 47 = .ok (.invokestatic 123, 3) := by decide +kernel
theorem d5_50 : decode jdk_52_method_16_code 50 = .ok (.iload_n 2, 1) := by decide +kernel
theorem d5_51 : decode jdk_52_method_16_code 51 = .ok (.if_icmp .eq 6, 3) := by decide +kernel
theorem d5_54 : decode jdk_52_method_16_code 54 = .ok (.aload 5, 2) := by decide +kernel
theorem d5_56 : decode jdk_52_method_16_code 56 = .ok (.areturn, 1) := by decide +kernel
theorem d5_57 : decode jdk_52_method_16_code 57 = .ok (.aload_n 3, 1) := by decide +kernel
theorem d5_58 : decode jdk_52_method_16_code 58 = .ok (.areturn, 1) := by decide +kernel
theorem d7_0 : decode jdk_52_method_15_code 0 = .ok (.iload_n 1, 1) := by decide +kernel
theorem d7_1 : decode jdk_52_method_15_code 1 = .ok (.aload_n 0, 1) := by decide +kernel
theorem d7_2 : decode jdk_52_method_15_code 2 = .ok (.arraylength, 1) := by decide +kernel
theorem d7_3 : decode jdk_52_method_15_code 3 = .ok (.isub, 1) := by decide +kernel
theorem d7_4 : decode jdk_52_method_15_code 4 = .ok (.bipush 31, 2) := by decide +kernel
theorem d7_6 : decode jdk_52_method_15_code 6 = .ok (.iushr, 1) := by decide +kernel
theorem d7_7 : decode jdk_52_method_15_code 7 = .ok (.i2b, 1) := by decide +kernel
theorem d7_8 : decode jdk_52_method_15_code 8 = .ok (.ireturn, 1) := by decide +kernel
theorem d3_0 : decode jdk_42_method_149_code 0 = .ok (.aload_n 0, 1) := by decide +kernel
theorem d3_1 : decode jdk_42_method_149_code 1 = .ok (.invokespecial 1, 3) := by decide +kernel
theorem d3_4 : decode jdk_42_method_149_code 4 = .ok (.iload_n 3, 1) := by decide +kernel
theorem d3_5 : decode jdk_42_method_149_code 5 = .ok (.ifCond .ne 22, 3) := by decide +kernel
theorem d3_8 : decode jdk_42_method_149_code 8 = .ok (.aload_n 0, 1) := by decide +kernel
theorem d3_9 : decode jdk_42_method_149_code 9 = .ok (.ldc 7, 2) := by decide +kernel
theorem d3_11 : decode jdk_42_method_149_code 11 = .ok (.getfield 9, 3) := by decide +kernel
theorem d3_14 : decode jdk_42_method_149_code 14 = .ok (.putfield 9, 3) := by decide +kernel
theorem d3_17 : decode jdk_42_method_149_code 17 = .ok (.aload_n 0, 1) := by decide +kernel
theorem d3_18 : decode jdk_42_method_149_code 18 = .ok (.ldc 7, 2) := by decide +kernel
theorem d3_20 : decode jdk_42_method_149_code 20 = .ok (.getfield 15, 3) := by decide +kernel
theorem d3_23 : decode jdk_42_method_149_code 23 = .ok (.putfield 15, 3) := by decide +kernel
theorem d3_26 : decode jdk_42_method_149_code 26 = .ok (.return_, 1) := by decide +kernel
theorem d3_27 : decode jdk_42_method_149_code 27 = .ok (.getstatic 38, 3) := by decide +kernel
theorem d3_30 : decode jdk_42_method_149_code 30 = .ok (.ifCond .eq 28, 3) := by decide +kernel
theorem d3_33 : decode jdk_42_method_149_code 33 = .ok (.aload_n 1, 1) := by decide +kernel
theorem d3_34 : decode jdk_42_method_149_code 34 = .ok (.iload_n 2, 1) := by decide +kernel
theorem d3_35 : decode jdk_42_method_149_code 35 = .ok (.iload_n 3, 1) := by decide +kernel
theorem d3_36 : decode jdk_42_method_149_code 36 = .ok (.invokestatic 177, 3) := by decide +kernel
theorem d3_39 : decode jdk_42_method_149_code 39 = .ok (.astore 5, 2) := by decide +kernel
theorem d3_41 : decode jdk_42_method_149_code 41 = .ok (.aload_n 0, 1) := by decide +kernel
theorem d3_42 : decode jdk_42_method_149_code 42 = .ok (.aload 5, 2) := by decide +kernel
theorem d3_44 : decode jdk_42_method_149_code 44 = .ok (.iload_n 3, 1) := by decide +kernel
theorem d3_45 : decode jdk_42_method_149_code 45 = .ok (.invokestatic 47, 3) := by decide +kernel
theorem d3_48 : decode jdk_42_method_149_code 48 = .ok (.putfield 15, 3) := by decide +kernel
theorem d3_51 : decode jdk_42_method_149_code 51 = .ok (.aload_n 0, 1) := by decide +kernel
theorem d3_52 : decode jdk_42_method_149_code 52 = .ok (.aload 5, 2) := by decide +kernel
theorem d3_54 : decode jdk_42_method_149_code 54 = .ok (.putfield 9, 3) := by decide +kernel
theorem d3_57 : decode jdk_42_method_149_code 57 = .ok (.return_, 1) := by decide +kernel
theorem d3_58 : decode jdk_42_method_149_code 58 = .ok (.aload_n 0, 1) := by decide +kernel
theorem d3_59 : decode jdk_42_method_149_code 59 = .ok (.iconst 1, 1) := by decide +kernel
theorem d3_60 : decode jdk_42_method_149_code 60 = .ok (.putfield 15, 3) := by decide +kernel
theorem d3_63 : decode jdk_42_method_149_code 63 = .ok (.aload_n 0, 1) := by decide +kernel
theorem d3_64 : decode jdk_42_method_149_code 64 = .ok (.aload_n 1, 1) := by decide +kernel
theorem d3_65 : decode jdk_42_method_149_code 65 = .ok (.iload_n 2, 1) := by decide +kernel
theorem d3_66 : decode jdk_42_method_149_code 66 = .ok (.iload_n 3, 1) := by decide +kernel
theorem d3_67 : decode jdk_42_method_149_code 67 = .ok (.invokestatic 180, 3) := by decide +kernel
theorem d3_70 : decode jdk_42_method_149_code 70 = .ok (.putfield 9, 3) := by decide +kernel
theorem d3_73 : decode jdk_42_method_149_code 73 = .ok (.return_, 1) := by decide +kernel
theorem d2_0 : decode jdk_42_method_3_code 0 = .ok (.aload_n 0, 1) := by decide +kernel
theorem d2_1 : decode jdk_42_method_3_code 1 = .ok (.aload_n 1, 1) := by decide +kernel
theorem d2_2 : decode jdk_42_method_3_code 2 = .ok (.iconst 0, 1) := by decide +kernel
theorem d2_3 : decode jdk_42_method_3_code 3 = .ok (.aload_n 1, 1) := by decide +kernel
theorem d2_4 : decode jdk_42_method_3_code 4 = .ok (.arraylength, 1) := by decide +kernel
theorem d2_5 : decode jdk_42_method_3_code 5 = .ok (.aconst_null, 1) := by decide +kernel
theorem d2_6 : decode jdk_42_method_3_code 6 = .ok (.invokespecial 27, 3) := by decide +kernel
theorem d2_9 : decode jdk_42_method_3_code 9 = .ok (.return_, 1) := by decide +kernel
theorem d1_0 : decode method_2_code 0 = .ok (.iload_n 1, 1) := by decide +kernel
theorem d1_1 : decode method_2_code 1 = .ok (.ifCond .ne 14, 3) := by decide +kernel
theorem d1_4 : decode method_2_code 4 = .ok (.new 7, 3) := by decide +kernel
theorem d1_7 : decode method_2_code 7 = .ok (.dup, 1) := by decide +kernel
theorem d1_8 : decode method_2_code 8 = .ok (.iconst 0, 1) := by decide +kernel
theorem d1_9 : decode method_2_code 9 = .ok (.newarray .char, 2) := by decide +kernel
theorem d1_11 : decode method_2_code 11 = .ok (.invokespecial 9, 3) := by decide +kernel
theorem d1_14 : decode method_2_code 14 = .ok (.areturn, 1) := by decide +kernel
theorem d1_15 : decode method_2_code 15 = .ok (.iload_n 1, 1) := by decide +kernel
theorem d1_16 : decode method_2_code 16 = .ok (.iconst 1, 1) := by decide +kernel
theorem d1_17 : decode method_2_code 17 = .ok (.if_icmp .ne 25, 3) := by decide +kernel
theorem d1_20 : decode method_2_code 20 = .ok (.iconst 1, 1) := by decide +kernel
theorem d1_21 : decode method_2_code 21 = .ok (.newarray .char, 2) := by decide +kernel
theorem d1_23 : decode method_2_code 23 = .ok (.astore_n 2, 1) := by decide +kernel
theorem d1_24 : decode method_2_code 24 = .ok (.aload_n 2, 1) := by decide +kernel
theorem d1_25 : decode method_2_code 25 = .ok (.iconst 0, 1) := by decide +kernel
theorem d1_26 : decode method_2_code 26 = .ok (.iload_n 0, 1) := by decide +kernel
theorem d1_27 : decode method_2_code 27 = .ok (.sipush 255, 3) := by decide +kernel
theorem d1_30 : decode method_2_code 30 = .ok (.iand, 1) := by decide +kernel
theorem d1_31 : decode method_2_code 31 = .ok (.i2c, 1) := by decide +kernel
theorem d1_32 : decode method_2_code 32 = .ok (.castore, 1) := by decide +kernel
theorem d1_33 : decode method_2_code 33 = .ok (.new 7, 3) := by decide +kernel
theorem d1_36 : decode method_2_code 36 = .ok (.dup, 1) := by decide +kernel
theorem d1_37 : decode method_2_code 37 = .ok (.aload_n 2, 1) := by decide +kernel
theorem d1_38 : decode method_2_code 38 = .ok (.invokespecial 9, 3) := by decide +kernel
theorem d1_41 : decode method_2_code 41 = .ok (.areturn, 1) := by decide +kernel
theorem d1_42 : decode method_2_code 42 = .ok (.iconst 2, 1) := by decide +kernel
theorem d1_43 : decode method_2_code 43 = .ok (.newarray .char, 2) := by decide +kernel
theorem d1_45 : decode method_2_code 45 = .ok (.astore_n 2, 1) := by decide +kernel
theorem d1_46 : decode method_2_code 46 = .ok (.aload_n 2, 1) := by decide +kernel
theorem d1_47 : decode method_2_code 47 = .ok (.iconst 0, 1) := by decide +kernel
theorem d1_48 : decode method_2_code 48 = .ok (.iload_n 0, 1) := by decide +kernel
theorem d1_49 : decode method_2_code 49 = .ok (.sipush 255, 3) := by decide +kernel
theorem d1_52 : decode method_2_code 52 = .ok (.iand, 1) := by decide +kernel
theorem d1_53 : decode method_2_code 53 = .ok (.i2c, 1) := by decide +kernel
theorem d1_54 : decode method_2_code 54 = .ok (.castore, 1) := by decide +kernel
theorem d1_55 : decode method_2_code 55 = .ok (.aload_n 2, 1) := by decide +kernel
theorem d1_56 : decode method_2_code 56 = .ok (.iconst 1, 1) := by decide +kernel
theorem d1_57 : decode method_2_code 57 = .ok (.iload_n 0, 1) := by decide +kernel
theorem d1_58 : decode method_2_code 58 = .ok (.bipush 8, 2) := by decide +kernel
theorem d1_60 : decode method_2_code 60 = .ok (.iushr, 1) := by decide +kernel
theorem d1_61 : decode method_2_code 61 = .ok (.sipush 255, 3) := by decide +kernel
theorem d1_64 : decode method_2_code 64 = .ok (.iand, 1) := by decide +kernel
theorem d1_65 : decode method_2_code 65 = .ok (.i2c, 1) := by decide +kernel
theorem d1_66 : decode method_2_code 66 = .ok (.castore, 1) := by decide +kernel
theorem d1_67 : decode method_2_code 67 = .ok (.new 7, 3) := by decide +kernel
theorem d1_70 : decode method_2_code 70 = .ok (.dup, 1) := by decide +kernel
theorem d1_71 : decode method_2_code 71 = .ok (.aload_n 2, 1) := by decide +kernel
theorem d1_72 : decode method_2_code 72 = .ok (.invokespecial 9, 3) := by decide +kernel
theorem d1_75 : decode method_2_code 75 = .ok (.areturn, 1) := by decide +kernel
theorem d9_0 : decode jdk_30_method_1_code 0 = .ok (.aload_n 0, 1) := by decide +kernel
theorem d9_1 : decode jdk_30_method_1_code 1 = .ok (.invokespecial 1, 3) := by decide +kernel
theorem d9_4 : decode jdk_30_method_1_code 4 = .ok (.return_, 1) := by decide +kernel
theorem d10_0 : decode jdk_31_method_11_code 0 = .ok (.aload_n 0, 1) := by decide +kernel
theorem d10_1 : decode jdk_31_method_11_code 1 = .ok (.ifnonnull 12, 3) := by decide +kernel
theorem d10_4 : decode jdk_31_method_11_code 4 = .ok (.new 84, 3) := by decide +kernel
theorem d10_7 : decode jdk_31_method_11_code 7 = .ok (.dup, 1) := by decide +kernel
theorem d10_8 : decode jdk_31_method_11_code 8 = .ok (.aload_n 1, 1) := by decide +kernel
theorem d10_9 : decode jdk_31_method_11_code 9 = .ok (.invokespecial 87, 3) := by decide +kernel
theorem d10_12 : decode jdk_31_method_11_code 12 = .ok (.athrow, 1) := by decide +kernel
theorem d10_13 : decode jdk_31_method_11_code 13 = .ok (.aload_n 0, 1) := by decide +kernel
theorem d10_14 : decode jdk_31_method_11_code 14 = .ok (.areturn, 1) := by decide +kernel
theorem d8_0 : decode prog_21_method_1_code 0 = .ok (.aload_n 0, 1) := by decide +kernel
theorem d8_1 : decode prog_21_method_1_code 1 = .ok (.invokespecial 1, 3) := by decide +kernel
theorem d8_4 : decode prog_21_method_1_code 4 = .ok (.aload_n 1, 1) := by decide +kernel
theorem d8_5 : decode prog_21_method_1_code 5 = .ok (.ldc 7, 2) := by decide +kernel
theorem d8_7 : decode prog_21_method_1_code 7 = .ok (.invokestatic 9, 3) := by decide +kernel
theorem d8_10 : decode prog_21_method_1_code 10 = .ok (.pop, 1) := by decide +kernel
theorem d8_11 : decode prog_21_method_1_code 11 = .ok (.aload_n 2, 1) := by decide +kernel
theorem d8_12 : decode prog_21_method_1_code 12 = .ok (.ldc 15, 2) := by decide +kernel
theorem d8_14 : decode prog_21_method_1_code 14 = .ok (.invokestatic 9, 3) := by decide +kernel
theorem d8_17 : decode prog_21_method_1_code 17 = .ok (.pop, 1) := by decide +kernel
theorem d8_18 : decode prog_21_method_1_code 18 = .ok (.aload_n 0, 1) := by decide +kernel
theorem d8_19 : decode prog_21_method_1_code 19 = .ok (.aload_n 1, 1) := by decide +kernel
theorem d8_20 : decode prog_21_method_1_code 20 = .ok (.putfield 17, 3) := by decide +kernel
theorem d8_23 : decode prog_21_method_1_code 23 = .ok (.aload_n 0, 1) := by decide +kernel
theorem d8_24 : decode prog_21_method_1_code 24 = .ok (.aload_n 2, 1) := by decide +kernel
theorem d8_25 : decode prog_21_method_1_code 25 = .ok (.putfield 22, 3) := by decide +kernel
theorem d8_28 : decode prog_21_method_1_code 28 = .ok (.return_, 1) := by decide +kernel
theorem d11_0 : decode method_3_code 0 = .ok (.iload_n 1, 1) := by decide +kernel
theorem d11_1 : decode method_3_code 1 = .ok (.iload_n 3, 1) := by decide +kernel
theorem d11_2 : decode method_3_code 2 = .ok (.if_icmp .eq 5, 3) := by decide +kernel
theorem d11_5 : decode method_3_code 5 = .ok (.iconst 0, 1) := by decide +kernel
theorem d11_6 : decode method_3_code 6 = .ok (.ireturn, 1) := by decide +kernel
theorem d11_7 : decode method_3_code 7 = .ok (.iload_n 1, 1) := by decide +kernel
theorem d11_8 : decode method_3_code 8 = .ok (.iconst 1, 1) := by decide +kernel
theorem d11_9 : decode method_3_code 9 = .ok (.if_icmp .lt 18, 3) := by decide +kernel
theorem d11_12 : decode method_3_code 12 = .ok (.iload_n 0, 1) := by decide +kernel
theorem d11_13 : decode method_3_code 13 = .ok (.sipush 255, 3) := by decide +kernel
theorem d11_16 : decode method_3_code 16 = .ok (.iand, 1) := by decide +kernel
theorem d11_17 : decode method_3_code 17 = .ok (.iload_n 2, 1) := by decide +kernel
theorem d11_18 : decode method_3_code 18 = .ok (.sipush 255, 3) := by decide +kernel
theorem d11_21 : decode method_3_code 21 = .ok (.iand, 1) := by decide +kernel
theorem d11_22 : decode method_3_code 22 = .ok (.if_icmp .eq 5, 3) := by decide +kernel
theorem d11_25 : decode method_3_code 25 = .ok (.iconst 0, 1) := by decide +kernel
theorem d11_26 : decode method_3_code 26 = .ok (.ireturn, 1) := by decide +kernel
theorem d11_27 : decode method_3_code 27 = .ok (.iload_n 1, 1) := by decide +kernel
theorem d11_28 : decode method_3_code 28 = .ok (.iconst 2, 1) := by decide +kernel
theorem d11_29 : decode method_3_code 29 = .ok (.if_icmp .lt 24, 3) := by decide +kernel
theorem d11_32 : decode method_3_code 32 = .ok (.iload_n 0, 1) := by decide +kernel
theorem d11_33 : decode method_3_code 33 = .ok (.bipush 8, 2) := by decide +kernel
theorem d11_35 : decode method_3_code 35 = .ok (.iushr, 1) := by decide +kernel
theorem d11_36 : decode method_3_code 36 = .ok (.sipush 255, 3) := by decide +kernel
theorem d11_39 : decode method_3_code 39 = .ok (.iand, 1) := by decide +kernel
theorem d11_40 : decode method_3_code 40 = .ok (.iload_n 2, 1) := by decide +kernel
theorem d11_41 : decode method_3_code 41 = .ok (.bipush 8, 2) := by decide +kernel
theorem d11_43 : decode method_3_code 43 = .ok (.iushr, 1) := by decide +kernel
theorem d11_44 : decode method_3_code 44 = .ok (.sipush 255, 3) := by decide +kernel
theorem d11_47 : decode method_3_code 47 = .ok (.iand, 1) := by decide +kernel
theorem d11_48 : decode method_3_code 48 = .ok (.if_icmp .eq 5, 3) := by decide +kernel
theorem d11_51 : decode method_3_code 51 = .ok (.iconst 0, 1) := by decide +kernel
theorem d11_52 : decode method_3_code 52 = .ok (.ireturn, 1) := by decide +kernel
theorem d11_53 : decode method_3_code 53 = .ok (.iconst 1, 1) := by decide +kernel
theorem d11_54 : decode method_3_code 54 = .ok (.ireturn, 1) := by decide +kernel
theorem d14_0 : decode jdk_43_method_13_code 0 = .ok (.aload_n 0, 1) := by decide +kernel
theorem d14_1 : decode jdk_43_method_13_code 1 = .ok (.arraylength, 1) := by decide +kernel
theorem d14_2 : decode jdk_43_method_13_code 2 = .ok (.aload_n 1, 1) := by decide +kernel
theorem d14_3 : decode jdk_43_method_13_code 3 = .ok (.arraylength, 1) := by decide +kernel
theorem d14_4 : decode jdk_43_method_13_code 4 = .ok (.if_icmp .ne 30, 3) := by decide +kernel
theorem d14_7 : decode jdk_43_method_13_code 7 = .ok (.iconst 0, 1) := by decide +kernel
theorem d14_8 : decode jdk_43_method_13_code 8 = .ok (.istore_n 2, 1) := by decide +kernel
theorem d14_9 : decode jdk_43_method_13_code 9 = .ok (.iload_n 2, 1) := by decide +kernel
theorem d14_10 : decode jdk_43_method_13_code 10 = .ok (.aload_n 0, 1) := by decide +kernel
theorem d14_11 : decode jdk_43_method_13_code 11 = .ok (.arraylength, 1) := by decide +kernel
theorem d14_12 : decode jdk_43_method_13_code 12 = .ok (.if_icmp .ge 20, 3) := by decide +kernel
theorem d14_15 : decode jdk_43_method_13_code 15 = .ok (.aload_n 0, 1) := by decide +kernel
theorem d14_16 : decode jdk_43_method_13_code 16 = .ok (.iload_n 2, 1) := by decide +kernel
theorem d14_17 : decode jdk_43_method_13_code 17 = .ok (.baload, 1) := by decide +kernel
theorem d14_18 : decode jdk_43_method_13_code 18 = .ok (.aload_n 1, 1) := by decide +kernel
theorem d14_19 : decode jdk_43_method_13_code 19 = .ok (.iload_n 2, 1) := by decide +kernel
theorem d14_20 : decode jdk_43_method_13_code 20 = .ok (.baload, 1) := by decide +kernel
theorem d14_21 : decode jdk_43_method_13_code 21 = .ok (.if_icmp .eq 5, 3) := by decide +kernel
theorem d14_24 : decode jdk_43_method_13_code 24 = .ok (.iconst 0, 1) := by decide +kernel
theorem d14_25 : decode jdk_43_method_13_code 25 = .ok (.ireturn, 1) := by decide +kernel
theorem d14_26 : decode jdk_43_method_13_code 26 = .ok (.iinc 2 1, 3) := by decide +kernel
theorem d14_29 : decode jdk_43_method_13_code 29 = .ok (.goto (-20), 3) := by decide +kernel
theorem d14_32 : decode jdk_43_method_13_code 32 = .ok (.iconst 1, 1) := by decide +kernel
theorem d14_33 : decode jdk_43_method_13_code 33 = .ok (.ireturn, 1) := by decide +kernel
theorem d14_34 : decode jdk_43_method_13_code 34 = .ok (.iconst 0, 1) := by decide +kernel
theorem d14_35 : decode jdk_43_method_13_code 35 = .ok (.ireturn, 1) := by decide +kernel
theorem d13_0 : decode jdk_42_method_66_code 0 = .ok (.aload_n 0, 1) := by decide +kernel
theorem d13_1 : decode jdk_42_method_66_code 1 = .ok (.aload_n 1, 1) := by decide +kernel
theorem d13_2 : decode jdk_42_method_66_code 2 = .ok (.if_acmp .ne 5, 3) := by decide +kernel
theorem d13_5 : decode jdk_42_method_66_code 5 = .ok (.iconst 1, 1) := by decide +kernel
theorem d13_6 : decode jdk_42_method_66_code 6 = .ok (.ireturn, 1) := by decide +kernel
theorem d13_7 : decode jdk_42_method_66_code 7 = .ok (.aload_n 1, 1) := by decide +kernel
theorem d13_8 : decode jdk_42_method_66_code 8 = .ok (.instanceof 10, 3) := by decide +kernel
theorem d13_11 : decode jdk_42_method_66_code 11 = .ok (.ifCond .eq 43, 3) := by decide +kernel
theorem d13_14 : decode jdk_42_method_66_code 14 = .ok (.aload_n 1, 1) := by decide +kernel
theorem d13_15 : decode jdk_42_method_66_code 15 = .ok (.checkcast 10, 3) := by decide +kernel
theorem d13_18 : decode jdk_42_method_66_code 18 = .ok (.astore_n 2, 1) := by decide +kernel
theorem d13_19 : decode jdk_42_method_66_code 19 = .ok (.getstatic 38, 3) := by decide +kernel
theorem d13_22 : decode jdk_42_method_66_code 22 = .ok (.ifCond .eq 14, 3) := by decide +kernel
theorem d13_25 : decode jdk_42_method_66_code 25 = .ok (.aload_n 0, 1) := by decide +kernel
theorem d13_26 : decode jdk_42_method_66_code 26 = .ok (.getfield 15, 3) := by decide +kernel
theorem d13_29 : decode jdk_42_method_66_code 29 = .ok (.aload_n 2, 1) := by decide +kernel
theorem d13_30 : decode jdk_42_method_66_code 30 = .ok (.getfield 15, 3) := by decide +kernel
theorem d13_33 : decode jdk_42_method_66_code 33 = .ok (.if_icmp .ne 21, 3) := by decide +kernel
theorem d13_36 : decode jdk_42_method_66_code 36 = .ok (.aload_n 0, 1) := by decide +kernel
theorem d13_37 : decode jdk_42_method_66_code 37 = .ok (.getfield 9, 3) := by decide +kernel
theorem d13_40 : decode jdk_42_method_66_code 40 = .ok (.aload_n 2, 1) := by decide +kernel
theorem d13_41 : decode jdk_42_method_66_code 41 = .ok (.getfield 9, 3) := by decide +kernel
theorem d13_44 : decode jdk_42_method_66_code 44 = .ok (.invokestatic 541, 3) := by decide +kernel
theorem d13_47 : decode jdk_42_method_66_code 47 = .ok (.ifCond .eq 7, 3) := by decide +kernel
theorem d13_50 : decode jdk_42_method_66_code 50 = .ok (.iconst 1, 1) := by decide +kernel
theorem d13_51 : decode jdk_42_method_66_code 51 = .ok (.goto 4, 3) := by decide +kernel
theorem d13_54 : decode jdk_42_method_66_code 54 = .ok (.iconst 0, 1) := by decide +kernel
theorem d13_55 : decode jdk_42_method_66_code 55 = .ok (.ireturn, 1) := by decide +kernel
theorem d12_0 : decode prog_21_method_2_code 0 = .ok (.aload_n 1, 1) := by decide +kernel
theorem d12_1 : decode prog_21_method_2_code 1 = .ok (.instanceof 18, 3) := by decide +kernel
theorem d12_4 : decode prog_21_method_2_code 4 = .ok (.ifCond .eq 40, 3) := by decide +kernel
theorem d12_7 : decode prog_21_method_2_code 7 = .ok (.aload_n 1, 1) := by decide +kernel
theorem d12_8 : decode prog_21_method_2_code 8 = .ok (.checkcast 18, 3) := by decide +kernel
theorem d12_11 : decode prog_21_method_2_code 11 = .ok (.astore_n 2, 1) := by decide +kernel
theorem d12_12 : decode prog_21_method_2_code 12 = .ok (.aload_n 0, 1) := by decide +kernel
theorem d12_13 : decode prog_21_method_2_code 13 = .ok (.getfield 17, 3) := by decide +kernel
theorem d12_16 : decode prog_21_method_2_code 16 = .ok (.aload_n 2, 1) := by decide +kernel
theorem d12_17 : decode prog_21_method_2_code 17 = .ok (.getfield 17, 3) := by decide +kernel
theorem d12_20 : decode prog_21_method_2_code 20 = .ok (.invokevirtual 24, 3) := by decide +kernel
theorem d12_23 : decode prog_21_method_2_code 23 = .ok (.ifCond .eq 21, 3) := by decide +kernel
theorem d12_26 : decode prog_21_method_2_code 26 = .ok (.aload_n 0, 1) := by decide +kernel
theorem d12_27 : decode prog_21_method_2_code 27 = .ok (.getfield 22, 3) := by decide +kernel
theorem d12_30 : decode prog_21_method_2_code 30 = .ok (.aload_n 2, 1) := by decide +kernel
theorem d12_31 : decode prog_21_method_2_code 31 = .ok (.getfield 22, 3) := by decide +kernel
theorem d12_34 : decode prog_21_method_2_code 34 = .ok (.invokevirtual 24, 3) := by decide +kernel
theorem d12_37 : decode prog_21_method_2_code 37 = .ok (.ifCond .eq 7, 3) := by decide +kernel
theorem d12_40 : decode prog_21_method_2_code 40 = .ok (.iconst 1, 1) := by decide +kernel
theorem d12_41 : decode prog_21_method_2_code 41 = .ok (.goto 4, 3) := by decide +kernel
theorem d12_44 : decode prog_21_method_2_code 44 = .ok (.iconst 0, 1) := by decide +kernel
theorem d12_45 : decode prog_21_method_2_code 45 = .ok (.ireturn, 1) := by decide +kernel
theorem pd__28_5bCI_5bBII_29I : parseMethodDescriptor "([CI[BII)I" = some ⟨[(.array .char), .int, (.array .byte), .int, .int], some .int⟩ := by decide +kernel
theorem pd__28_5bCII_29_5bB : parseMethodDescriptor "([CII)[B" = some ⟨[(.array .char), .int, .int], some (.array .byte)⟩ := by decide +kernel
theorem pd__28_5bBI_29B : parseMethodDescriptor "([BI)B" = some ⟨[(.array .byte), .int], some .byte⟩ := by decide +kernel
theorem pd__28_5bCIILjava_2flang_2fVoid_3b_29V : parseMethodDescriptor "([CIILjava/lang/Void;)V" = some ⟨[(.array .char), .int, .int, (.object "java/lang/Void")], none⟩ := by decide +kernel
theorem pd__28_5bC_29V : parseMethodDescriptor "([C)V" = some ⟨[(.array .char)], none⟩ := by decide +kernel
theorem pd__28_29V : parseMethodDescriptor "()V" = some ⟨[], none⟩ := by decide +kernel
theorem pd__28Ljava_2flang_2fObject_3bLjava_2flang_2fString_3b_29Ljava_2flang_2fObject_3b : parseMethodDescriptor "(Ljava/lang/Object;Ljava/lang/String;)Ljava/lang/Object;" = some ⟨[(.object "java/lang/Object"), (.object "java/lang/String")], some (.object "java/lang/Object")⟩ := by decide +kernel
theorem pd__28_5bB_5bB_29Z : parseMethodDescriptor "([B[B)Z" = some ⟨[(.array .byte), (.array .byte)], some .boolean⟩ := by decide +kernel
theorem pd__28Ljava_2flang_2fObject_3b_29Z : parseMethodDescriptor "(Ljava/lang/Object;)Z" = some ⟨[(.object "java/lang/Object")], some .boolean⟩ := by decide +kernel
theorem pd__28II_29Ljava_2flang_2fString_3b : parseMethodDescriptor "(II)Ljava/lang/String;" = some ⟨[.int, .int], some (.object "java/lang/String")⟩ := by decide +kernel
theorem pd__28Ljava_2flang_2fString_3bLjava_2flang_2fString_3b_29V : parseMethodDescriptor "(Ljava/lang/String;Ljava/lang/String;)V" = some ⟨[(.object "java/lang/String"), (.object "java/lang/String")], none⟩ := by decide +kernel
theorem pd__28IIII_29Z : parseMethodDescriptor "(IIII)Z" = some ⟨[.int, .int, .int, .int], some .boolean⟩ := by decide +kernel
theorem ef_rmC51 (q1 : Addr) (q3 : Addr) (m : MethodId) : entryFrame m #[.ref q1, .int (0 : Int32), .ref q3, .int (0 : Int32), .int (1 : Int32)] 7 = mkF m 0 #[.val (.ref q1), .val (.int (0 : Int32)), .val (.ref q3), .val (.int (0 : Int32)), .val (.int (1 : Int32)), .unset, .unset] [] := by
  first | (simp [entryFrame, mkF, argsToLocals, Value.category]; done) | rfl
set_option maxRecDepth 65536 in
set_option maxHeartbeats 40000000 in
theorem rmC51 (l : Launch) (Z : State) (a0 : Array Value) (hw : ∀ d ∈ tables_1, d.before a0 Z = true) (ws : List Jvm.Cond) (q1 : Addr) (q3 : Addr) (h0 : Heap) (n0 : Nat) (x0 : Int32) (kc : ClassId) (A_c : Arv Z h0 q1 kc .char (1 : Int32) [.int x0] (.int 0)) (hx0 : BY x0) (kb : ClassId) (A_b : Arv Z h0 q3 kb .byte (1 : Int32) [.int 0] (.int 0)) (n_cb : q1 ≠ q3) (g_b : n0 ≤ q3) :
    Ctr l Z ({ cls := "java/lang/StringUTF16", name := "compress", desc := "([CI[BII)I" } : Jvm.MethodName) jdk_52_method_21_code 7 (some .int) ws ({ frames := 0, cells := 0, slots := 0, locals := 0 } : Room) #[.ref q1, .int (0 : Int32), .ref q3, .int (0 : Int32), .int (1 : Int32)] h0 (fun v h L => v = some (.int (1 : Int32)) ∧ Fr n0 L ∧ Keep h0 h [q3] ∧ Arv Z h q3 kb .byte (1 : Int32) [.int (lat x0)] (.int 0)) := by
  refine Ctr.enter (Ls := #[.val (.ref q1), .val (.int (0 : Int32)), .val (.ref q3), .val (.int (0 : Int32)), .val (.int (1 : Int32)), .unset, .unset]) (by decide +kernel) (fun m => ef_rmC51 q1 q3 m) ?_
  intro p e s m below meth c T hx hby hml hown hnm hret hlk hZ hh X0 e0
  have N0 := Fr.nil n0
  refine g_iconst X0 hx hby d6_0 (pc' := 1) rfl (z := (0 : Int32)) rfl ?_
  refine g_istore X0 hx hby d6_1 (pc' := 3) rfl (l' := #[.val (.ref q1), .val (.int (0 : Int32)), .val (.ref q3), .val (.int (0 : Int32)), .val (.int (1 : Int32)), .val (.int (0 : Int32)), .unset]) rfl ?_
  refine g_iload X0 hx hby d6_3 (pc' := 5) rfl rfl ?_
  refine g_iload X0 hx hby d6_5 (pc' := 7) rfl rfl ?_
  refine g_icmp_ge X0 hx hby d6_7 (by decide) (pc' := 44) (by decide) (pn := 10) rfl (fun z => absurd z (by decide)) (fun _ => ?_)
  refine g_aloadN X0 hx hby d6_10 (pc' := 11) rfl rfl rfl ?_
  refine g_iloadN X0 hx hby d6_11 (pc' := 12) rfl rfl ?_
  refine g_caload X0 hx hZ hby d6_12 (pc' := 13) rfl e0 A_c (by decide) (v := .int x0) rfl ?_
  refine g_istore X0 hx hby d6_13 (pc' := 15) rfl (l' := #[.val (.ref q1), .val (.int (0 : Int32)), .val (.ref q3), .val (.int (0 : Int32)), .val (.int (1 : Int32)), .val (.int (0 : Int32)), .val (.int x0)]) rfl ?_
  refine g_iload X0 hx hby d6_15 (pc' := 17) rfl rfl ?_
  refine g_sipush X0 hx hby d6_17 (pc' := 20) rfl (z := (255 : Int32)) rfl ?_
  refine g_icmp_le X0 hx hby d6_20 (by decide) (pc' := 26) (by decide) (pn := 23) rfl (fun hc20_1 => ?_) (fun z => absurd z (own_le255 hx0))
  refine g_aloadN X0 hx hby d6_26 (pc' := 27) rfl rfl rfl ?_
  refine g_iloadN X0 hx hby d6_27 (pc' := 28) rfl rfl ?_
  refine g_iload X0 hx hby d6_28 (pc' := 30) rfl rfl ?_
  refine g_i2b X0 hx hby d6_30 (pc' := 31) rfl ?_
  refine g_bastore X0 hx hZ 0 hby d6_31 (pc' := 32) rfl e0 A_b (by decide) (by decide) (by first | decide | simp) ?_
  intro T2 X2 W2 A2v
  have N2 := Fr.snoc X2 N0 g_b
  have A2_q1 := A_c.other W2 n_cb
  have K2 := (Keep.refl h0 [q3]).wr W2 (Or.inl (List.mem_of_getElem? (i := 0) rfl))
  have A2 : Arv Z T2.heap q3 kb .byte (1 : Int32) [.int (nar .byte x0.toInt8.toInt32)] (.int 0) := A2v
  refine g_iinc X2 hx hby d6_32 (pc' := 35) rfl rfl (l' := #[.val (.ref q1), .val (.int (1 : Int32)), .val (.ref q3), .val (.int (0 : Int32)), .val (.int (1 : Int32)), .val (.int (0 : Int32)), .val (.int x0)]) rfl ?_
  refine g_iinc X2 hx hby d6_35 (pc' := 38) rfl rfl (l' := #[.val (.ref q1), .val (.int (1 : Int32)), .val (.ref q3), .val (.int (1 : Int32)), .val (.int (1 : Int32)), .val (.int (0 : Int32)), .val (.int x0)]) rfl ?_
  refine g_iinc X2 hx hby d6_38 (pc' := 41) rfl rfl (l' := #[.val (.ref q1), .val (.int (1 : Int32)), .val (.ref q3), .val (.int (1 : Int32)), .val (.int (1 : Int32)), .val (.int (1 : Int32)), .val (.int x0)]) rfl ?_
  refine g_goto X2 hx hby d6_41 (by decide) (pc' := 3) (by decide) ?_
  refine g_iload X2 hx hby d6_3 (pc' := 5) rfl rfl ?_
  refine g_iload X2 hx hby d6_5 (pc' := 7) rfl rfl ?_
  refine g_icmp_ge X2 hx hby d6_7 (by decide) (pc' := 44) (by decide) (pn := 10) rfl (fun _ => ?_) (fun z => absurd z (by decide))
  refine g_iload X2 hx hby d6_44 (pc' := 46) rfl rfl ?_
  exact g_retI (Q := (fun v h L => v = some (.int (1 : Int32)) ∧ Fr n0 L ∧ Keep h0 h [q3] ∧ Arv Z h q3 kb .byte (1 : Int32) [.int (lat x0)] (.int 0))) X2 hx hby d6_46 hret hlk (by decide) (by decide) ⟨rfl, N2, K2, A2⟩
theorem ef_rmC52 (q1 : Addr) (q3 : Addr) (m : MethodId) : entryFrame m #[.ref q1, .int (0 : Int32), .ref q3, .int (0 : Int32), .int (2 : Int32)] 7 = mkF m 0 #[.val (.ref q1), .val (.int (0 : Int32)), .val (.ref q3), .val (.int (0 : Int32)), .val (.int (2 : Int32)), .unset, .unset] [] := by
  first | (simp [entryFrame, mkF, argsToLocals, Value.category]; done) | rfl
set_option maxRecDepth 65536 in
set_option maxHeartbeats 40000000 in
theorem rmC52 (l : Launch) (Z : State) (a0 : Array Value) (hw : ∀ d ∈ tables_1, d.before a0 Z = true) (ws : List Jvm.Cond) (q1 : Addr) (q3 : Addr) (h0 : Heap) (n0 : Nat) (x0 x1 : Int32) (kc : ClassId) (A_c : Arv Z h0 q1 kc .char (2 : Int32) [.int x0, .int x1] (.int 0)) (hx0 : BY x0) (hx1 : BY x1) (kb : ClassId) (A_b : Arv Z h0 q3 kb .byte (2 : Int32) [.int 0, .int 0] (.int 0)) (n_cb : q1 ≠ q3) (g_b : n0 ≤ q3) :
    Ctr l Z ({ cls := "java/lang/StringUTF16", name := "compress", desc := "([CI[BII)I" } : Jvm.MethodName) jdk_52_method_21_code 7 (some .int) ws ({ frames := 0, cells := 0, slots := 0, locals := 0 } : Room) #[.ref q1, .int (0 : Int32), .ref q3, .int (0 : Int32), .int (2 : Int32)] h0 (fun v h L => v = some (.int (2 : Int32)) ∧ Fr n0 L ∧ Keep h0 h [q3] ∧ Arv Z h q3 kb .byte (2 : Int32) [.int (lat x0), .int (lat x1)] (.int 0)) := by
  refine Ctr.enter (Ls := #[.val (.ref q1), .val (.int (0 : Int32)), .val (.ref q3), .val (.int (0 : Int32)), .val (.int (2 : Int32)), .unset, .unset]) (by decide +kernel) (fun m => ef_rmC52 q1 q3 m) ?_
  intro p e s m below meth c T hx hby hml hown hnm hret hlk hZ hh X0 e0
  have N0 := Fr.nil n0
  refine g_iconst X0 hx hby d6_0 (pc' := 1) rfl (z := (0 : Int32)) rfl ?_
  refine g_istore X0 hx hby d6_1 (pc' := 3) rfl (l' := #[.val (.ref q1), .val (.int (0 : Int32)), .val (.ref q3), .val (.int (0 : Int32)), .val (.int (2 : Int32)), .val (.int (0 : Int32)), .unset]) rfl ?_
  refine g_iload X0 hx hby d6_3 (pc' := 5) rfl rfl ?_
  refine g_iload X0 hx hby d6_5 (pc' := 7) rfl rfl ?_
  refine g_icmp_ge X0 hx hby d6_7 (by decide) (pc' := 44) (by decide) (pn := 10) rfl (fun z => absurd z (by decide)) (fun _ => ?_)
  refine g_aloadN X0 hx hby d6_10 (pc' := 11) rfl rfl rfl ?_
  refine g_iloadN X0 hx hby d6_11 (pc' := 12) rfl rfl ?_
  refine g_caload X0 hx hZ hby d6_12 (pc' := 13) rfl e0 A_c (by decide) (v := .int x0) rfl ?_
  refine g_istore X0 hx hby d6_13 (pc' := 15) rfl (l' := #[.val (.ref q1), .val (.int (0 : Int32)), .val (.ref q3), .val (.int (0 : Int32)), .val (.int (2 : Int32)), .val (.int (0 : Int32)), .val (.int x0)]) rfl ?_
  refine g_iload X0 hx hby d6_15 (pc' := 17) rfl rfl ?_
  refine g_sipush X0 hx hby d6_17 (pc' := 20) rfl (z := (255 : Int32)) rfl ?_
  refine g_icmp_le X0 hx hby d6_20 (by decide) (pc' := 26) (by decide) (pn := 23) rfl (fun hc20_1 => ?_) (fun z => absurd z (own_le255 hx0))
  refine g_aloadN X0 hx hby d6_26 (pc' := 27) rfl rfl rfl ?_
  refine g_iloadN X0 hx hby d6_27 (pc' := 28) rfl rfl ?_
  refine g_iload X0 hx hby d6_28 (pc' := 30) rfl rfl ?_
  refine g_i2b X0 hx hby d6_30 (pc' := 31) rfl ?_
  refine g_bastore X0 hx hZ 0 hby d6_31 (pc' := 32) rfl e0 A_b (by decide) (by decide) (by first | decide | simp) ?_
  intro T2 X2 W2 A2v
  have N2 := Fr.snoc X2 N0 g_b
  have A2_q1 := A_c.other W2 n_cb
  have K2 := (Keep.refl h0 [q3]).wr W2 (Or.inl (List.mem_of_getElem? (i := 0) rfl))
  have A2 : Arv Z T2.heap q3 kb .byte (2 : Int32) [.int (nar .byte x0.toInt8.toInt32), .int 0] (.int 0) := A2v
  refine g_iinc X2 hx hby d6_32 (pc' := 35) rfl rfl (l' := #[.val (.ref q1), .val (.int (1 : Int32)), .val (.ref q3), .val (.int (0 : Int32)), .val (.int (2 : Int32)), .val (.int (0 : Int32)), .val (.int x0)]) rfl ?_
  refine g_iinc X2 hx hby d6_35 (pc' := 38) rfl rfl (l' := #[.val (.ref q1), .val (.int (1 : Int32)), .val (.ref q3), .val (.int (1 : Int32)), .val (.int (2 : Int32)), .val (.int (0 : Int32)), .val (.int x0)]) rfl ?_
  refine g_iinc X2 hx hby d6_38 (pc' := 41) rfl rfl (l' := #[.val (.ref q1), .val (.int (1 : Int32)), .val (.ref q3), .val (.int (1 : Int32)), .val (.int (2 : Int32)), .val (.int (1 : Int32)), .val (.int x0)]) rfl ?_
  refine g_goto X2 hx hby d6_41 (by decide) (pc' := 3) (by decide) ?_
  refine g_iload X2 hx hby d6_3 (pc' := 5) rfl rfl ?_
  refine g_iload X2 hx hby d6_5 (pc' := 7) rfl rfl ?_
  refine g_icmp_ge X2 hx hby d6_7 (by decide) (pc' := 44) (by decide) (pn := 10) rfl (fun z => absurd z (by decide)) (fun _ => ?_)
  refine g_aloadN X2 hx hby d6_10 (pc' := 11) rfl rfl rfl ?_
  refine g_iloadN X2 hx hby d6_11 (pc' := 12) rfl rfl ?_
  refine g_caload X2 hx hZ hby d6_12 (pc' := 13) rfl rfl A2_q1 (by decide) (v := .int x1) rfl ?_
  refine g_istore X2 hx hby d6_13 (pc' := 15) rfl (l' := #[.val (.ref q1), .val (.int (1 : Int32)), .val (.ref q3), .val (.int (1 : Int32)), .val (.int (2 : Int32)), .val (.int (1 : Int32)), .val (.int x1)]) rfl ?_
  refine g_iload X2 hx hby d6_15 (pc' := 17) rfl rfl ?_
  refine g_sipush X2 hx hby d6_17 (pc' := 20) rfl (z := (255 : Int32)) rfl ?_
  refine g_icmp_le X2 hx hby d6_20 (by decide) (pc' := 26) (by decide) (pn := 23) rfl (fun hc20_3 => ?_) (fun z => absurd z (own_le255 hx1))
  refine g_aloadN X2 hx hby d6_26 (pc' := 27) rfl rfl rfl ?_
  refine g_iloadN X2 hx hby d6_27 (pc' := 28) rfl rfl ?_
  refine g_iload X2 hx hby d6_28 (pc' := 30) rfl rfl ?_
  refine g_i2b X2 hx hby d6_30 (pc' := 31) rfl ?_
  refine g_bastore X2 hx hZ 1 hby d6_31 (pc' := 32) rfl rfl A2 (by decide) (by decide) (by first | decide | simp) ?_
  intro T4 X4 W4 A4v
  have N4 := Fr.snoc X4 N2 g_b
  have A4_q1 := A2_q1.other W4 n_cb
  have K4 := K2.wr W4 (Or.inl (List.mem_of_getElem? (i := 0) rfl))
  have A4 : Arv Z T4.heap q3 kb .byte (2 : Int32) [.int (nar .byte x0.toInt8.toInt32), .int (nar .byte x1.toInt8.toInt32)] (.int 0) := A4v
  refine g_iinc X4 hx hby d6_32 (pc' := 35) rfl rfl (l' := #[.val (.ref q1), .val (.int (2 : Int32)), .val (.ref q3), .val (.int (1 : Int32)), .val (.int (2 : Int32)), .val (.int (1 : Int32)), .val (.int x1)]) rfl ?_
  refine g_iinc X4 hx hby d6_35 (pc' := 38) rfl rfl (l' := #[.val (.ref q1), .val (.int (2 : Int32)), .val (.ref q3), .val (.int (2 : Int32)), .val (.int (2 : Int32)), .val (.int (1 : Int32)), .val (.int x1)]) rfl ?_
  refine g_iinc X4 hx hby d6_38 (pc' := 41) rfl rfl (l' := #[.val (.ref q1), .val (.int (2 : Int32)), .val (.ref q3), .val (.int (2 : Int32)), .val (.int (2 : Int32)), .val (.int (2 : Int32)), .val (.int x1)]) rfl ?_
  refine g_goto X4 hx hby d6_41 (by decide) (pc' := 3) (by decide) ?_
  refine g_iload X4 hx hby d6_3 (pc' := 5) rfl rfl ?_
  refine g_iload X4 hx hby d6_5 (pc' := 7) rfl rfl ?_
  refine g_icmp_ge X4 hx hby d6_7 (by decide) (pc' := 44) (by decide) (pn := 10) rfl (fun _ => ?_) (fun z => absurd z (by decide))
  refine g_iload X4 hx hby d6_44 (pc' := 46) rfl rfl ?_
  exact g_retI (Q := (fun v h L => v = some (.int (2 : Int32)) ∧ Fr n0 L ∧ Keep h0 h [q3] ∧ Arv Z h q3 kb .byte (2 : Int32) [.int (lat x0), .int (lat x1)] (.int 0))) X4 hx hby d6_46 hret hlk (by decide) (by decide) ⟨rfl, N4, K4, A4⟩
theorem ef_rmC31 (q1 : Addr) (m : MethodId) : entryFrame m #[.ref q1, .int (0 : Int32), .int (1 : Int32)] 6 = mkF m 0 #[.val (.ref q1), .val (.int (0 : Int32)), .val (.int (1 : Int32)), .unset, .unset, .unset] [] := by
  first | (simp [entryFrame, mkF, argsToLocals, Value.category]; done) | rfl
set_option maxRecDepth 65536 in
set_option maxHeartbeats 40000000 in
theorem rmC31 (l : Launch) (Z : State) (a0 : Array Value) (hw : ∀ d ∈ tables_1, d.before a0 Z = true) (ws : List Jvm.Cond) (q1 : Addr) (h0 : Heap) (n0 : Nat) (x0 : Int32) (kc : ClassId) (A_c : Arv Z h0 q1 kc .char (1 : Int32) [.int x0] (.int 0)) (hx0 : BY x0) (Z0 : n0 ≤ h0.size) :
    Ctr l Z ({ cls := "java/lang/StringUTF16", name := "compress", desc := "([CII)[B" } : Jvm.MethodName) jdk_52_method_16_code 6 (some (.array .byte)) ws ({ frames := 1, cells := 1, slots := 2, locals := 18 } : Room) #[.ref q1, .int (0 : Int32), .int (1 : Int32)] h0 (fun v h L => ∃ (b : Addr) (k : ClassId), v = some (.ref b) ∧ Fr n0 L ∧ Keep h0 h [] ∧ h0.size ≤ b ∧ Arv Z h b k .byte (1 : Int32) [.int (lat x0)] (.int 0)) := by
  refine Ctr.enter (Ls := #[.val (.ref q1), .val (.int (0 : Int32)), .val (.int (1 : Int32)), .unset, .unset, .unset]) (by decide +kernel) (fun m => ef_rmC31 q1 m) ?_
  intro p e s m below meth c T hx hby hml hown hnm hret hlk hZ hh X0 e0
  have N0 := Fr.nil n0
  refine g_iloadN X0 hx hby d5_0 (pc' := 1) rfl rfl ?_
  refine g_newarray X0 hx hZ 1  "[B" hby d5_1 (pc' := 3) rfl (w_24 hw) e0 (by decide) (by decide) (by decide) (by decide) (by decide) rfl ?_
  intro T1 b1 c1 hb1 X1 E1 A1v A1x
  have K1 := (Keep.refl h0 []).ext E1
  have Z1 := Nat.le_trans Z0 E1.1
  have A1_q1 := A_c.ext E1
  have ne1_q1 : q1 ≠ b1 := hb1 ▸ Nat.ne_of_lt A_c.lt
  have A1 : Arv Z T1.heap b1 c1 .byte (1 : Int32) [.int 0] (.int 0) := A1v
  refine g_astoreN X1 hx hby d5_3 (pc' := 4) rfl rfl (l' := #[.val (.ref q1), .val (.int (0 : Int32)), .val (.int (1 : Int32)), .val (.ref b1), .unset, .unset]) rfl ?_
  refine g_aloadN X1 hx hby d5_4 (pc' := 5) rfl rfl rfl ?_
  refine g_iloadN X1 hx hby d5_5 (pc' := 6) rfl rfl ?_
  refine g_aloadN X1 hx hby d5_6 (pc' := 7) rfl rfl rfl ?_
  refine g_iconst X1 hx hby d5_7 (pc' := 8) rfl (z := (0 : Int32)) rfl ?_
  refine g_iloadN X1 hx hby d5_8 (pc' := 9) rfl rfl ?_
  refine g_callS X1 hx hZ hown (W := 0) (argsL := [.ref q1, .int (0 : Int32), .ref b1, .int (0 : Int32), .int (1 : Int32)]) (rest := []) hby d5_9 (pc' := 12) rfl (by rw [hml]; rfl) (w_25 hw) (w_26 hw) (w_22 hw) (w_27 hw) (by decide) (rmC51 l Z a0 hw [] q1 b1 T1.heap n0 x0 _ A1_q1 hx0 _ A1 ne1_q1 (Nat.le_trans Z0 (Nat.le_of_eq hb1.symm))) rfl (by decide) (by decide) (by decide) (by decide) rfl pd__28_5bCI_5bBII_29I rfl rfl (Nat.le_of_eq rfl) ?_
  rintro _ T2 L2 X2 ⟨rfl, N2q, K2, A2⟩
  have N2 := Fr.app N0 N2q
  have K2t := K1.trans K2 (allS (Or.inr (Nat.le_trans (Keep.refl h0 []).1 (Nat.le_of_eq hb1.symm))) all0)
  have Z2 := Nat.le_trans Z1 K2.1
  have A2_q1 := A1_q1.keep K2 (ninS ne1_q1 nin0)
  have E2_b1 := A1x.keep K2
  show GoE p e below _ (T2.setTop (mkF m 12 #[.val (.ref q1), .val (.int (0 : Int32)), .val (.int (1 : Int32)), .val (.ref b1), .unset, .unset] [.int (1 : Int32)]))
  refine g_istore X2 hx hby d5_12 (pc' := 14) rfl (l' := #[.val (.ref q1), .val (.int (0 : Int32)), .val (.int (1 : Int32)), .val (.ref b1), .val (.int (1 : Int32)), .unset]) rfl ?_
  refine g_iload X2 hx hby d5_14 (pc' := 16) rfl rfl ?_
  refine g_iloadN X2 hx hby d5_16 (pc' := 17) rfl rfl ?_
  refine g_icmp_eq X2 hx hby d5_17 (by decide) (pc' := 57) (by decide) (pn := 20) rfl (fun _ => ?_) (fun z => absurd z (by decide))
  refine g_aloadN X2 hx hby d5_57 (pc' := 58) rfl rfl rfl ?_
  exact g_retA (Q := (fun v h L => ∃ (b : Addr) (k : ClassId), v = some (.ref b) ∧ Fr n0 L ∧ Keep h0 h [] ∧ h0.size ≤ b ∧ Arv Z h b k .byte (1 : Int32) [.int (lat x0)] (.int 0))) X2 hx hby d5_58 rfl hret rfl hlk (by decide) (by decide) ⟨b1, c1, rfl, N2, K2t, (Nat.le_trans (Keep.refl h0 []).1 (Nat.le_of_eq hb1.symm)), A2⟩
theorem ef_rmC32 (q1 : Addr) (m : MethodId) : entryFrame m #[.ref q1, .int (0 : Int32), .int (2 : Int32)] 6 = mkF m 0 #[.val (.ref q1), .val (.int (0 : Int32)), .val (.int (2 : Int32)), .unset, .unset, .unset] [] := by
  first | (simp [entryFrame, mkF, argsToLocals, Value.category]; done) | rfl
set_option maxRecDepth 65536 in
set_option maxHeartbeats 40000000 in
theorem rmC32 (l : Launch) (Z : State) (a0 : Array Value) (hw : ∀ d ∈ tables_1, d.before a0 Z = true) (ws : List Jvm.Cond) (q1 : Addr) (h0 : Heap) (n0 : Nat) (x0 x1 : Int32) (kc : ClassId) (A_c : Arv Z h0 q1 kc .char (2 : Int32) [.int x0, .int x1] (.int 0)) (hx0 : BY x0) (hx1 : BY x1) (Z0 : n0 ≤ h0.size) :
    Ctr l Z ({ cls := "java/lang/StringUTF16", name := "compress", desc := "([CII)[B" } : Jvm.MethodName) jdk_52_method_16_code 6 (some (.array .byte)) ws ({ frames := 1, cells := 1, slots := 2, locals := 18 } : Room) #[.ref q1, .int (0 : Int32), .int (2 : Int32)] h0 (fun v h L => ∃ (b : Addr) (k : ClassId), v = some (.ref b) ∧ Fr n0 L ∧ Keep h0 h [] ∧ h0.size ≤ b ∧ Arv Z h b k .byte (2 : Int32) [.int (lat x0), .int (lat x1)] (.int 0)) := by
  refine Ctr.enter (Ls := #[.val (.ref q1), .val (.int (0 : Int32)), .val (.int (2 : Int32)), .unset, .unset, .unset]) (by decide +kernel) (fun m => ef_rmC32 q1 m) ?_
  intro p e s m below meth c T hx hby hml hown hnm hret hlk hZ hh X0 e0
  have N0 := Fr.nil n0
  refine g_iloadN X0 hx hby d5_0 (pc' := 1) rfl rfl ?_
  refine g_newarray X0 hx hZ 2  "[B" hby d5_1 (pc' := 3) rfl (w_24 hw) e0 (by decide) (by decide) (by decide) (by decide) (by decide) rfl ?_
  intro T1 b1 c1 hb1 X1 E1 A1v A1x
  have K1 := (Keep.refl h0 []).ext E1
  have Z1 := Nat.le_trans Z0 E1.1
  have A1_q1 := A_c.ext E1
  have ne1_q1 : q1 ≠ b1 := hb1 ▸ Nat.ne_of_lt A_c.lt
  have A1 : Arv Z T1.heap b1 c1 .byte (2 : Int32) [.int 0, .int 0] (.int 0) := A1v
  refine g_astoreN X1 hx hby d5_3 (pc' := 4) rfl rfl (l' := #[.val (.ref q1), .val (.int (0 : Int32)), .val (.int (2 : Int32)), .val (.ref b1), .unset, .unset]) rfl ?_
  refine g_aloadN X1 hx hby d5_4 (pc' := 5) rfl rfl rfl ?_
  refine g_iloadN X1 hx hby d5_5 (pc' := 6) rfl rfl ?_
  refine g_aloadN X1 hx hby d5_6 (pc' := 7) rfl rfl rfl ?_
  refine g_iconst X1 hx hby d5_7 (pc' := 8) rfl (z := (0 : Int32)) rfl ?_
  refine g_iloadN X1 hx hby d5_8 (pc' := 9) rfl rfl ?_
  refine g_callS X1 hx hZ hown (W := 0) (argsL := [.ref q1, .int (0 : Int32), .ref b1, .int (0 : Int32), .int (2 : Int32)]) (rest := []) hby d5_9 (pc' := 12) rfl (by rw [hml]; rfl) (w_25 hw) (w_26 hw) (w_22 hw) (w_27 hw) (by decide) (rmC52 l Z a0 hw [] q1 b1 T1.heap n0 x0 x1 _ A1_q1 hx0 hx1 _ A1 ne1_q1 (Nat.le_trans Z0 (Nat.le_of_eq hb1.symm))) rfl (by decide) (by decide) (by decide) (by decide) rfl pd__28_5bCI_5bBII_29I rfl rfl (Nat.le_of_eq rfl) ?_
  rintro _ T2 L2 X2 ⟨rfl, N2q, K2, A2⟩
  have N2 := Fr.app N0 N2q
  have K2t := K1.trans K2 (allS (Or.inr (Nat.le_trans (Keep.refl h0 []).1 (Nat.le_of_eq hb1.symm))) all0)
  have Z2 := Nat.le_trans Z1 K2.1
  have A2_q1 := A1_q1.keep K2 (ninS ne1_q1 nin0)
  have E2_b1 := A1x.keep K2
  show GoE p e below _ (T2.setTop (mkF m 12 #[.val (.ref q1), .val (.int (0 : Int32)), .val (.int (2 : Int32)), .val (.ref b1), .unset, .unset] [.int (2 : Int32)]))
  refine g_istore X2 hx hby d5_12 (pc' := 14) rfl (l' := #[.val (.ref q1), .val (.int (0 : Int32)), .val (.int (2 : Int32)), .val (.ref b1), .val (.int (2 : Int32)), .unset]) rfl ?_
  refine g_iload X2 hx hby d5_14 (pc' := 16) rfl rfl ?_
  refine g_iloadN X2 hx hby d5_16 (pc' := 17) rfl rfl ?_
  refine g_icmp_eq X2 hx hby d5_17 (by decide) (pc' := 57) (by decide) (pn := 20) rfl (fun _ => ?_) (fun z => absurd z (by decide))
  refine g_aloadN X2 hx hby d5_57 (pc' := 58) rfl rfl rfl ?_
  exact g_retA (Q := (fun v h L => ∃ (b : Addr) (k : ClassId), v = some (.ref b) ∧ Fr n0 L ∧ Keep h0 h [] ∧ h0.size ≤ b ∧ Arv Z h b k .byte (2 : Int32) [.int (lat x0), .int (lat x1)] (.int 0))) X2 hx hby d5_58 rfl hret rfl hlk (by decide) (by decide) ⟨b1, c1, rfl, N2, K2t, (Nat.le_trans (Keep.refl h0 []).1 (Nat.le_of_eq hb1.symm)), A2⟩
theorem ef_rmF1 (q1 : Addr) (m : MethodId) : entryFrame m #[.ref q1, .int (1 : Int32)] 2 = mkF m 0 #[.val (.ref q1), .val (.int (1 : Int32))] [] := by
  first | (simp [entryFrame, mkF, argsToLocals, Value.category]; done) | rfl
set_option maxRecDepth 65536 in
set_option maxHeartbeats 40000000 in
theorem rmF1 (l : Launch) (Z : State) (a0 : Array Value) (hw : ∀ d ∈ tables_1, d.before a0 Z = true) (ws : List Jvm.Cond) (q1 : Addr) (h0 : Heap) (n0 : Nat) (kq : ClassId) (vs : List Value) (A_q : Arv Z h0 q1 kq .byte (1 : Int32) vs (.int 0)) :
    Ctr l Z ({ cls := "java/lang/StringUTF16", name := "coderFromArrayLen", desc := "([BI)B" } : Jvm.MethodName) jdk_52_method_15_code 2 (some .byte) ws ({ frames := 0, cells := 0, slots := 0, locals := 0 } : Room) #[.ref q1, .int (1 : Int32)] h0 (fun v h L => v = some (.int (0 : Int32)) ∧ Fr n0 L ∧ h = h0) := by
  refine Ctr.enter (Ls := #[.val (.ref q1), .val (.int (1 : Int32))]) (by decide +kernel) (fun m => ef_rmF1 q1 m) ?_
  intro p e s m below meth c T hx hby hml hown hnm hret hlk hZ hh X0 e0
  have N0 := Fr.nil n0
  refine g_iloadN X0 hx hby d7_0 (pc' := 1) rfl rfl ?_
  refine g_aloadN X0 hx hby d7_1 (pc' := 2) rfl rfl rfl ?_
  refine g_alen X0 hx hZ hby d7_2 (pc' := 3) rfl e0 A_q ?_
  refine g_isub X0 hx hby d7_3 (pc' := 4) rfl ?_
  refine g_eqI (b := (0 : Int32)) (by decide +kernel) ?_
  refine g_bipush X0 hx hby d7_4 (pc' := 6) rfl (z := (31 : Int32)) rfl ?_
  refine g_iushr X0 hx hby d7_6 (pc' := 7) rfl ?_
  refine g_eqI (b := (0 : Int32)) (by decide +kernel) ?_
  refine g_i2b X0 hx hby d7_7 (pc' := 8) rfl ?_
  refine g_eqI (b := (0 : Int32)) (by decide +kernel) ?_
  exact g_retN (Q := (fun v h L => v = some (.int (0 : Int32)) ∧ Fr n0 L ∧ h = h0)) (w := (0 : Int32)) X0 hx hby d7_8 hret (by simp) (by first | decide | rfl) hlk (by decide) (by decide) ⟨rfl, N0, e0⟩
theorem ef_rmF2 (q1 : Addr) (m : MethodId) : entryFrame m #[.ref q1, .int (2 : Int32)] 2 = mkF m 0 #[.val (.ref q1), .val (.int (2 : Int32))] [] := by
  first | (simp [entryFrame, mkF, argsToLocals, Value.category]; done) | rfl
set_option maxRecDepth 65536 in
set_option maxHeartbeats 40000000 in
theorem rmF2 (l : Launch) (Z : State) (a0 : Array Value) (hw : ∀ d ∈ tables_1, d.before a0 Z = true) (ws : List Jvm.Cond) (q1 : Addr) (h0 : Heap) (n0 : Nat) (kq : ClassId) (vs : List Value) (A_q : Arv Z h0 q1 kq .byte (2 : Int32) vs (.int 0)) :
    Ctr l Z ({ cls := "java/lang/StringUTF16", name := "coderFromArrayLen", desc := "([BI)B" } : Jvm.MethodName) jdk_52_method_15_code 2 (some .byte) ws ({ frames := 0, cells := 0, slots := 0, locals := 0 } : Room) #[.ref q1, .int (2 : Int32)] h0 (fun v h L => v = some (.int (0 : Int32)) ∧ Fr n0 L ∧ h = h0) := by
  refine Ctr.enter (Ls := #[.val (.ref q1), .val (.int (2 : Int32))]) (by decide +kernel) (fun m => ef_rmF2 q1 m) ?_
  intro p e s m below meth c T hx hby hml hown hnm hret hlk hZ hh X0 e0
  have N0 := Fr.nil n0
  refine g_iloadN X0 hx hby d7_0 (pc' := 1) rfl rfl ?_
  refine g_aloadN X0 hx hby d7_1 (pc' := 2) rfl rfl rfl ?_
  refine g_alen X0 hx hZ hby d7_2 (pc' := 3) rfl e0 A_q ?_
  refine g_isub X0 hx hby d7_3 (pc' := 4) rfl ?_
  refine g_eqI (b := (0 : Int32)) (by decide +kernel) ?_
  refine g_bipush X0 hx hby d7_4 (pc' := 6) rfl (z := (31 : Int32)) rfl ?_
  refine g_iushr X0 hx hby d7_6 (pc' := 7) rfl ?_
  refine g_eqI (b := (0 : Int32)) (by decide +kernel) ?_
  refine g_i2b X0 hx hby d7_7 (pc' := 8) rfl ?_
  refine g_eqI (b := (0 : Int32)) (by decide +kernel) ?_
  exact g_retN (Q := (fun v h L => v = some (.int (0 : Int32)) ∧ Fr n0 L ∧ h = h0)) (w := (0 : Int32)) X0 hx hby d7_8 hret (by simp) (by first | decide | rfl) hlk (by decide) (by decide) ⟨rfl, N0, e0⟩
theorem ef_rmS41 (q1 : Addr) (q2 : Addr) (m : MethodId) : entryFrame m #[.ref q1, .ref q2, .int (0 : Int32), .int (1 : Int32), .null] 6 = mkF m 0 #[.val (.ref q1), .val (.ref q2), .val (.int (0 : Int32)), .val (.int (1 : Int32)), .val (.null), .unset] [] := by
  first | (simp [entryFrame, mkF, argsToLocals, Value.category]; done) | rfl
set_option maxRecDepth 65536 in
set_option maxHeartbeats 40000000 in
theorem rmS41 (l : Launch) (Z : State) (a0 : Array Value) (hw : ∀ d ∈ tables_1, d.before a0 Z = true) (ws : List Jvm.Cond) (q1 : Addr) (q2 : Addr) (h0 : Heap) (n0 : Nat) (x0 : Int32) (kc : ClassId) (A_c : Arv Z h0 q2 kc .char (1 : Int32) [.int x0] (.int 0)) (hx0 : BY x0) (Z0 : n0 ≤ h0.size) (E_a : Exa Z h0 q1 "java/lang/String") (F_v : Fld Z h0 q1 "java/lang/String" "value" "[B" (.null)) (F_c : Fld Z h0 q1 "java/lang/String" "coder" "B" (.int (0 : Int32))) (n_c : q2 ≠ q1) (g_a : n0 ≤ q1) (cs : Int32) (SS : SSt Z cs) (O0 : Old Z n0 h0) :
    Ctr l Z ({ cls := "java/lang/String", name := "<init>", desc := "([CIILjava/lang/Void;)V" } : Jvm.MethodName) jdk_42_method_149_code 6 none ws ({ frames := 2, cells := 1, slots := 2, locals := 35 } : Room) #[.ref q1, .ref q2, .int (0 : Int32), .int (1 : Int32), .null] h0 (fun v h L => ∃ (b : Addr) (k : ClassId), v = none ∧ Fr n0 L ∧ Keep h0 h [q1] ∧ Exa Z h q1 "java/lang/String" ∧ Fld Z h q1 "java/lang/String" "value" "[B" (.ref b) ∧ Fld Z h q1 "java/lang/String" "coder" "B" (.int (0 : Int32)) ∧ Arv Z h b k .byte (1 : Int32) [.int (lat x0)] (.int 0)) := by
  refine Ctr.enter (Ls := #[.val (.ref q1), .val (.ref q2), .val (.int (0 : Int32)), .val (.int (1 : Int32)), .val (.null), .unset]) (by decide +kernel) (fun m => ef_rmS41 q1 q2 m) ?_
  intro p e s m below meth c T hx hby hml hown hnm hret hlk hZ hh X0 e0
  have N0 := Fr.nil n0
  refine g_aloadN X0 hx hby d3_0 (pc' := 1) rfl rfl rfl ?_
  obtain ⟨T1, X1, e1, st1⟩ := initO X0 hx hZ hown (w_16 hw) (w_17 hw) (w_18 hw) e0 (g := (mkF m 1 #[.val (.ref q1), .val (.ref q2), .val (.int (0 : Int32)), .val (.int (1 : Int32)), .val (.null), .unset] [.ref q1])) rfl (by rw [hml]; rfl) rfl (hb hby d3_1) (by decide) (W := 0) (by show 2 * 0 + _ ≤ _; exact Nat.le_of_eq rfl) (by decide)
  refine GoE.pull (b := T1.setTop (mkF m 4 #[.val (.ref q1), .val (.ref q2), .val (.int (0 : Int32)), .val (.int (1 : Int32)), .val (.null), .unset] [])) ?_ st1
  refine g_iloadN X1 hx hby d3_4 (pc' := 5) rfl rfl ?_
  refine g_if_ne X1 hx hby d3_5 (by decide) (pc' := 27) (by decide) (pn := 8) rfl (fun _ => ?_) (fun z => absurd z (by decide))
  refine g_getS X1 hx hZ hown hby d3_27 (pc' := 30) rfl (w_19 hw) e1 (SS.2.ext O0.2) ?_
  intro T2 X2 e2
  refine g_if_eq X2 hx hby d3_30 (by decide) (pc' := 58) (by decide) (pn := 33) rfl (fun z => absurd z SS.1) (fun hc30_3 => ?_)
  refine g_aloadN X2 hx hby d3_33 (pc' := 34) rfl rfl rfl ?_
  refine g_iloadN X2 hx hby d3_34 (pc' := 35) rfl rfl ?_
  refine g_iloadN X2 hx hby d3_35 (pc' := 36) rfl rfl ?_
  refine g_callS X2 hx hZ hown (W := 0) (argsL := [.ref q2, .int (0 : Int32), .int (1 : Int32)]) (rest := []) hby d3_36 (pc' := 39) rfl (by rw [hml]; rfl) (w_20 hw) (w_21 hw) (w_22 hw) (w_23 hw) (by decide) (rmC31 l Z a0 hw [] q2 h0 n0 x0 _ A_c hx0 Z0) e2 (by decide) (by decide) (by decide) (by decide) rfl pd__28_5bCII_29_5bB rfl rfl (Nat.le_of_eq rfl) ?_
  rintro _ T4 L4 X4 (⟨b4, k4, rfl, N4q, K4, G4, A4⟩)
  · have N4 := Fr.app N0 N4q
    have nb4_q1 : q1 ≠ b4 := Nat.ne_of_lt (Nat.lt_of_lt_of_le E_a.lt G4)
    have nb4_q2 : q2 ≠ b4 := Nat.ne_of_lt (Nat.lt_of_lt_of_le A_c.lt G4)
    have O4 := O0.keep K4 all0
    have Z4 := Nat.le_trans Z0 K4.1
    have E4_q1 := E_a.keep K4
    have A4_q2 := A_c.keep K4 nin0
    have K4t := (Keep.refl h0 [q1]).trans K4 all0
    have F4_q1_value := F_v.keep K4 nin0
    have F4_q1_coder := F_c.keep K4 nin0
    show GoE p e below _ (T4.setTop (mkF m 39 #[.val (.ref q1), .val (.ref q2), .val (.int (0 : Int32)), .val (.int (1 : Int32)), .val (.null), .unset] [.ref b4]))
    refine g_astore X4 hx hby d3_39 (pc' := 41) rfl rfl (l' := #[.val (.ref q1), .val (.ref q2), .val (.int (0 : Int32)), .val (.int (1 : Int32)), .val (.null), .val (.ref b4)]) rfl ?_
    refine g_aloadN X4 hx hby d3_41 (pc' := 42) rfl rfl rfl ?_
    refine g_aload X4 hx hby d3_42 (pc' := 44) rfl rfl rfl ?_
    refine g_iloadN X4 hx hby d3_44 (pc' := 45) rfl rfl ?_
    refine g_callS X4 hx hZ hown (W := 1) (argsL := [.ref b4, .int (1 : Int32)]) (rest := [.ref q1]) hby d3_45 (pc' := 48) rfl (by rw [hml]; rfl) (w_28 hw) (w_29 hw) (w_22 hw) (w_30 hw) (by decide) (rmF1 l Z a0 hw [] b4 T4.heap n0 _ _ A4) rfl (by decide) (by decide) (by decide) (by decide) rfl pd__28_5bBI_29B rfl rfl (Nat.le_of_eq rfl) ?_
    rintro _ T5 L5 X5 ⟨rfl, N5q, e5⟩
    have N5 := Fr.app N4 N5q
    show GoE p e below _ (T5.setTop (mkF m 48 #[.val (.ref q1), .val (.ref q2), .val (.int (0 : Int32)), .val (.int (1 : Int32)), .val (.null), .val (.ref b4)] [.int (0 : Int32), .ref q1]))
    refine g_put X5 hx hZ hown hby d3_48 (pc' := 51) rfl (w_31 hw) e5 F4_q1_coder E4_q1 (Or.inr ⟨(w_32 hw), rfl, hnm⟩) (w_7 hw) (ty := .byte) (by decide) rfl rfl ?_
    intro T6 X6 W6
    have N6 := Fr.snoc X6 N5 g_a
    have O6 := O4.wr W6 g_a
    have Z6 : n0 ≤ T6.heap.size := (W6.size ▸ Z4)
    have E6_q1 := E4_q1.wr W6
    have A6_q2 := A4_q2.other W6 n_c
    have K6 := K4t.wr W6 (Or.inl (List.mem_of_getElem? (i := 0) rfl))
    have F6_q1_value := F4_q1_value.other W6 (Or.inr (slot_ne (Or.inr (w_34 hw)) (Or.inr (w_32 hw)) (by decide) (t := (.array .byte)) (t' := .byte) (by decide) (by decide)))
    have F6_q1_coder := F4_q1_coder.same W6
    have A6_b4 := A4.other W6 nb4_q1.symm
    refine g_aloadN X6 hx hby d3_51 (pc' := 52) rfl rfl rfl ?_
    refine g_aload X6 hx hby d3_52 (pc' := 54) rfl rfl rfl ?_
    refine g_put X6 hx hZ hown hby d3_54 (pc' := 57) rfl (w_33 hw) rfl F6_q1_value E6_q1 (Or.inr ⟨(w_34 hw), rfl, hnm⟩) (w_7 hw) (ty := (.array .byte)) (by decide) rfl rfl ?_
    intro T7 X7 W7
    have N7 := Fr.snoc X7 N6 g_a
    have O7 := O6.wr W7 g_a
    have Z7 : n0 ≤ T7.heap.size := (W7.size ▸ Z6)
    have E7_q1 := E6_q1.wr W7
    have A7_q2 := A6_q2.other W7 n_c
    have K7 := K6.wr W7 (Or.inl (List.mem_of_getElem? (i := 0) rfl))
    have F7_q1_value := F6_q1_value.same W7
    have F7_q1_coder := F6_q1_coder.other W7 (Or.inr (slot_ne (Or.inr (w_32 hw)) (Or.inr (w_34 hw)) (by decide) (t := .byte) (t' := (.array .byte)) (by decide) (by decide)))
    have A7_b4 := A6_b4.other W7 nb4_q1.symm
    exact g_retV (Q := (fun v h L => ∃ (b : Addr) (k : ClassId), v = none ∧ Fr n0 L ∧ Keep h0 h [q1] ∧ Exa Z h q1 "java/lang/String" ∧ Fld Z h q1 "java/lang/String" "value" "[B" (.ref b) ∧ Fld Z h q1 "java/lang/String" "coder" "B" (.int (0 : Int32)) ∧ Arv Z h b k .byte (1 : Int32) [.int (lat x0)] (.int 0))) X7 hx hby d3_57 hret hlk (by decide) (by decide) ⟨b4, k4, rfl, N7, K7, E7_q1, F7_q1_value, F7_q1_coder, A7_b4⟩
theorem ef_rmS42 (q1 : Addr) (q2 : Addr) (m : MethodId) : entryFrame m #[.ref q1, .ref q2, .int (0 : Int32), .int (2 : Int32), .null] 6 = mkF m 0 #[.val (.ref q1), .val (.ref q2), .val (.int (0 : Int32)), .val (.int (2 : Int32)), .val (.null), .unset] [] := by
  first | (simp [entryFrame, mkF, argsToLocals, Value.category]; done) | rfl
set_option maxRecDepth 65536 in
set_option maxHeartbeats 40000000 in
theorem rmS42 (l : Launch) (Z : State) (a0 : Array Value) (hw : ∀ d ∈ tables_1, d.before a0 Z = true) (ws : List Jvm.Cond) (q1 : Addr) (q2 : Addr) (h0 : Heap) (n0 : Nat) (x0 x1 : Int32) (kc : ClassId) (A_c : Arv Z h0 q2 kc .char (2 : Int32) [.int x0, .int x1] (.int 0)) (hx0 : BY x0) (hx1 : BY x1) (Z0 : n0 ≤ h0.size) (E_a : Exa Z h0 q1 "java/lang/String") (F_v : Fld Z h0 q1 "java/lang/String" "value" "[B" (.null)) (F_c : Fld Z h0 q1 "java/lang/String" "coder" "B" (.int (0 : Int32))) (n_c : q2 ≠ q1) (g_a : n0 ≤ q1) (cs : Int32) (SS : SSt Z cs) (O0 : Old Z n0 h0) :
    Ctr l Z ({ cls := "java/lang/String", name := "<init>", desc := "([CIILjava/lang/Void;)V" } : Jvm.MethodName) jdk_42_method_149_code 6 none ws ({ frames := 2, cells := 1, slots := 2, locals := 35 } : Room) #[.ref q1, .ref q2, .int (0 : Int32), .int (2 : Int32), .null] h0 (fun v h L => ∃ (b : Addr) (k : ClassId), v = none ∧ Fr n0 L ∧ Keep h0 h [q1] ∧ Exa Z h q1 "java/lang/String" ∧ Fld Z h q1 "java/lang/String" "value" "[B" (.ref b) ∧ Fld Z h q1 "java/lang/String" "coder" "B" (.int (0 : Int32)) ∧ Arv Z h b k .byte (2 : Int32) [.int (lat x0), .int (lat x1)] (.int 0)) := by
  refine Ctr.enter (Ls := #[.val (.ref q1), .val (.ref q2), .val (.int (0 : Int32)), .val (.int (2 : Int32)), .val (.null), .unset]) (by decide +kernel) (fun m => ef_rmS42 q1 q2 m) ?_
  intro p e s m below meth c T hx hby hml hown hnm hret hlk hZ hh X0 e0
  have N0 := Fr.nil n0
  refine g_aloadN X0 hx hby d3_0 (pc' := 1) rfl rfl rfl ?_
  obtain ⟨T1, X1, e1, st1⟩ := initO X0 hx hZ hown (w_16 hw) (w_17 hw) (w_18 hw) e0 (g := (mkF m 1 #[.val (.ref q1), .val (.ref q2), .val (.int (0 : Int32)), .val (.int (2 : Int32)), .val (.null), .unset] [.ref q1])) rfl (by rw [hml]; rfl) rfl (hb hby d3_1) (by decide) (W := 0) (by show 2 * 0 + _ ≤ _; exact Nat.le_of_eq rfl) (by decide)
  refine GoE.pull (b := T1.setTop (mkF m 4 #[.val (.ref q1), .val (.ref q2), .val (.int (0 : Int32)), .val (.int (2 : Int32)), .val (.null), .unset] [])) ?_ st1
  refine g_iloadN X1 hx hby d3_4 (pc' := 5) rfl rfl ?_
  refine g_if_ne X1 hx hby d3_5 (by decide) (pc' := 27) (by decide) (pn := 8) rfl (fun _ => ?_) (fun z => absurd z (by decide))
  refine g_getS X1 hx hZ hown hby d3_27 (pc' := 30) rfl (w_19 hw) e1 (SS.2.ext O0.2) ?_
  intro T2 X2 e2
  refine g_if_eq X2 hx hby d3_30 (by decide) (pc' := 58) (by decide) (pn := 33) rfl (fun z => absurd z SS.1) (fun hc30_3 => ?_)
  refine g_aloadN X2 hx hby d3_33 (pc' := 34) rfl rfl rfl ?_
  refine g_iloadN X2 hx hby d3_34 (pc' := 35) rfl rfl ?_
  refine g_iloadN X2 hx hby d3_35 (pc' := 36) rfl rfl ?_
  refine g_callS X2 hx hZ hown (W := 0) (argsL := [.ref q2, .int (0 : Int32), .int (2 : Int32)]) (rest := []) hby d3_36 (pc' := 39) rfl (by rw [hml]; rfl) (w_20 hw) (w_21 hw) (w_22 hw) (w_23 hw) (by decide) (rmC32 l Z a0 hw [] q2 h0 n0 x0 x1 _ A_c hx0 hx1 Z0) e2 (by decide) (by decide) (by decide) (by decide) rfl pd__28_5bCII_29_5bB rfl rfl (Nat.le_of_eq rfl) ?_
  rintro _ T4 L4 X4 (⟨b4, k4, rfl, N4q, K4, G4, A4⟩)
  · have N4 := Fr.app N0 N4q
    have nb4_q1 : q1 ≠ b4 := Nat.ne_of_lt (Nat.lt_of_lt_of_le E_a.lt G4)
    have nb4_q2 : q2 ≠ b4 := Nat.ne_of_lt (Nat.lt_of_lt_of_le A_c.lt G4)
    have O4 := O0.keep K4 all0
    have Z4 := Nat.le_trans Z0 K4.1
    have E4_q1 := E_a.keep K4
    have A4_q2 := A_c.keep K4 nin0
    have K4t := (Keep.refl h0 [q1]).trans K4 all0
    have F4_q1_value := F_v.keep K4 nin0
    have F4_q1_coder := F_c.keep K4 nin0
    show GoE p e below _ (T4.setTop (mkF m 39 #[.val (.ref q1), .val (.ref q2), .val (.int (0 : Int32)), .val (.int (2 : Int32)), .val (.null), .unset] [.ref b4]))
    refine g_astore X4 hx hby d3_39 (pc' := 41) rfl rfl (l' := #[.val (.ref q1), .val (.ref q2), .val (.int (0 : Int32)), .val (.int (2 : Int32)), .val (.null), .val (.ref b4)]) rfl ?_
    refine g_aloadN X4 hx hby d3_41 (pc' := 42) rfl rfl rfl ?_
    refine g_aload X4 hx hby d3_42 (pc' := 44) rfl rfl rfl ?_
    refine g_iloadN X4 hx hby d3_44 (pc' := 45) rfl rfl ?_
    refine g_callS X4 hx hZ hown (W := 1) (argsL := [.ref b4, .int (2 : Int32)]) (rest := [.ref q1]) hby d3_45 (pc' := 48) rfl (by rw [hml]; rfl) (w_28 hw) (w_29 hw) (w_22 hw) (w_30 hw) (by decide) (rmF2 l Z a0 hw [] b4 T4.heap n0 _ _ A4) rfl (by decide) (by decide) (by decide) (by decide) rfl pd__28_5bBI_29B rfl rfl (Nat.le_of_eq rfl) ?_
    rintro _ T5 L5 X5 ⟨rfl, N5q, e5⟩
    have N5 := Fr.app N4 N5q
    show GoE p e below _ (T5.setTop (mkF m 48 #[.val (.ref q1), .val (.ref q2), .val (.int (0 : Int32)), .val (.int (2 : Int32)), .val (.null), .val (.ref b4)] [.int (0 : Int32), .ref q1]))
    refine g_put X5 hx hZ hown hby d3_48 (pc' := 51) rfl (w_31 hw) e5 F4_q1_coder E4_q1 (Or.inr ⟨(w_32 hw), rfl, hnm⟩) (w_7 hw) (ty := .byte) (by decide) rfl rfl ?_
    intro T6 X6 W6
    have N6 := Fr.snoc X6 N5 g_a
    have O6 := O4.wr W6 g_a
    have Z6 : n0 ≤ T6.heap.size := (W6.size ▸ Z4)
    have E6_q1 := E4_q1.wr W6
    have A6_q2 := A4_q2.other W6 n_c
    have K6 := K4t.wr W6 (Or.inl (List.mem_of_getElem? (i := 0) rfl))
    have F6_q1_value := F4_q1_value.other W6 (Or.inr (slot_ne (Or.inr (w_34 hw)) (Or.inr (w_32 hw)) (by decide) (t := (.array .byte)) (t' := .byte) (by decide) (by decide)))
    have F6_q1_coder := F4_q1_coder.same W6
    have A6_b4 := A4.other W6 nb4_q1.symm
    refine g_aloadN X6 hx hby d3_51 (pc' := 52) rfl rfl rfl ?_
    refine g_aload X6 hx hby d3_52 (pc' := 54) rfl rfl rfl ?_
    refine g_put X6 hx hZ hown hby d3_54 (pc' := 57) rfl (w_33 hw) rfl F6_q1_value E6_q1 (Or.inr ⟨(w_34 hw), rfl, hnm⟩) (w_7 hw) (ty := (.array .byte)) (by decide) rfl rfl ?_
    intro T7 X7 W7
    have N7 := Fr.snoc X7 N6 g_a
    have O7 := O6.wr W7 g_a
    have Z7 : n0 ≤ T7.heap.size := (W7.size ▸ Z6)
    have E7_q1 := E6_q1.wr W7
    have A7_q2 := A6_q2.other W7 n_c
    have K7 := K6.wr W7 (Or.inl (List.mem_of_getElem? (i := 0) rfl))
    have F7_q1_value := F6_q1_value.same W7
    have F7_q1_coder := F6_q1_coder.other W7 (Or.inr (slot_ne (Or.inr (w_32 hw)) (Or.inr (w_34 hw)) (by decide) (t := .byte) (t' := (.array .byte)) (by decide) (by decide)))
    have A7_b4 := A6_b4.other W7 nb4_q1.symm
    exact g_retV (Q := (fun v h L => ∃ (b : Addr) (k : ClassId), v = none ∧ Fr n0 L ∧ Keep h0 h [q1] ∧ Exa Z h q1 "java/lang/String" ∧ Fld Z h q1 "java/lang/String" "value" "[B" (.ref b) ∧ Fld Z h q1 "java/lang/String" "coder" "B" (.int (0 : Int32)) ∧ Arv Z h b k .byte (2 : Int32) [.int (lat x0), .int (lat x1)] (.int 0))) X7 hx hby d3_57 hret hlk (by decide) (by decide) ⟨b4, k4, rfl, N7, K7, E7_q1, F7_q1_value, F7_q1_coder, A7_b4⟩
theorem ef_rmS40 (q1 : Addr) (q2 : Addr) (m : MethodId) : entryFrame m #[.ref q1, .ref q2, .int (0 : Int32), .int (0 : Int32), .null] 6 = mkF m 0 #[.val (.ref q1), .val (.ref q2), .val (.int (0 : Int32)), .val (.int (0 : Int32)), .val (.null), .unset] [] := by
  first | (simp [entryFrame, mkF, argsToLocals, Value.category]; done) | rfl
set_option maxRecDepth 65536 in
set_option maxHeartbeats 40000000 in
theorem rmS40 (l : Launch) (Z : State) (a0 : Array Value) (hw : ∀ d ∈ tables_1, d.before a0 Z = true) (ws : List Jvm.Cond) (q1 : Addr) (q2 : Addr) (h0 : Heap) (n0 : Nat) (kc : ClassId) (A_c : Arv Z h0 q2 kc .char (0 : Int32) [] (.int 0))  (Z0 : n0 ≤ h0.size) (E_a : Exa Z h0 q1 "java/lang/String") (F_v : Fld Z h0 q1 "java/lang/String" "value" "[B" (.null)) (F_c : Fld Z h0 q1 "java/lang/String" "coder" "B" (.int (0 : Int32))) (n_c : q2 ≠ q1) (g_a : n0 ≤ q1) (cs : Int32) (SS : SSt Z cs) (O0 : Old Z n0 h0) :
    CtrH ELs l Z ({ cls := "java/lang/String", name := "<init>", desc := "([CIILjava/lang/Void;)V" } : Jvm.MethodName) jdk_42_method_149_code 6 none ws ({ frames := 1, cells := 4, slots := 8, locals := 12 } : Room) #[.ref q1, .ref q2, .int (0 : Int32), .int (0 : Int32), .null] h0 (fun v h L => ∃ (b : Addr) (k : ClassId), v = none ∧ Fr n0 L ∧ Keep h0 h [q1] ∧ Exa Z h q1 "java/lang/String" ∧ Fld Z h q1 "java/lang/String" "value" "[B" (.ref b) ∧ Fld Z h q1 "java/lang/String" "coder" "B" (.int (0 : Int32)) ∧ Arv Z h b k .byte (0 : Int32) [] (.int 0)) := by
  refine CtrH.enter (Ls := #[.val (.ref q1), .val (.ref q2), .val (.int (0 : Int32)), .val (.int (0 : Int32)), .val (.null), .unset]) (by decide +kernel) (fun m => ef_rmS40 q1 q2 m) ?_
  intro p e s m below meth c T hx hby hml hown hnm hret hlk hZ hh X0 e0 hS0 C0h
  have N0 := Fr.nil n0
  have S0q : Safe Z ELs s.vm h0 q1 := own_safe0 hZ.alike E_a F_v
  refine g_aloadN X0 hx hby d3_0 (pc' := 1) rfl rfl rfl ?_
  obtain ⟨T1, X1, e1, st1⟩ := initO X0 hx hZ hown (w_16 hw) (w_17 hw) (w_18 hw) e0 (g := (mkF m 1 #[.val (.ref q1), .val (.ref q2), .val (.int (0 : Int32)), .val (.int (0 : Int32)), .val (.null), .unset] [.ref q1])) rfl (by rw [hml]; rfl) rfl (hb hby d3_1) (by decide) (W := 0) (by show 2 * 0 + _ ≤ _; exact Nat.le_of_eq rfl) (by decide)
  refine GoE.pull (b := T1.setTop (mkF m 4 #[.val (.ref q1), .val (.ref q2), .val (.int (0 : Int32)), .val (.int (0 : Int32)), .val (.null), .unset] [])) ?_ st1
  refine g_iloadN X1 hx hby d3_4 (pc' := 5) rfl rfl ?_
  refine g_if_ne X1 hx hby d3_5 (by decide) (pc' := 27) (by decide) (pn := 8) rfl (fun z => absurd z (by decide)) (fun _ => ?_)
  refine g_aloadN X1 hx hby d3_8 (pc' := 9) rfl rfl rfl ?_
  refine g_ldcH X1 hx hZ hown 0 [] (0 : Int32) hby d3_9 (pc' := 11) rfl (w_35 hw) (own_str hw) e1 hS0 (Nat.le_refl h0.size) (own_EL hw) (List.mem_of_getElem? (i := 0) rfl) C0h.1 (by decide) (by decide) (by decide) (by decide) (by decide) (by decide) (by decide) ?_
  intro b2 T2 k2 v2 c2 X2 E2 hS2 hk2 hZ2 hown2 Ex2 Fc2 Fv2 Av2 C2h sn2
  have sf2_q1 := C2h.safe E_a.lt S0q
  have C2c := C0h.trans C2h
  have O2o := O0.ext E2
  have Z2 := Nat.le_trans Z0 E2.1
  have E2_q1 := E_a.ext E2
  have A2_q2 := A_c.ext E2
  have K2 := (Keep.refl h0 [q1]).ext E2
  have F2_q1_value := F_v.ext E2
  have F2_q1_coder := F_c.ext E2
  have Y2 := Nat.le_trans (Nat.le_refl h0.size) E2.1
  refine g_get X2 hx hZ2 hown2 hby d3_11 (pc' := 14) rfl (w_33 hw) rfl Fv2 ?_
  intro T3 X3 e3
  refine g_put X3 hx hZ2 hown2 hby d3_14 (pc' := 17) rfl (w_33 hw) e3 F2_q1_value E2_q1 (Or.inr ⟨(w_34 hw), rfl, hnm⟩) (w_7 hw) (ty := (.array .byte)) (by decide) rfl rfl ?_
  intro T4 X4 W4
  have N4 := Fr.snoc X4 N0 g_a
  have sf4_q1 := Safe.wr W4 sf2_q1 C2c.1 sf2_q1
  have C4c := C2c.trans (CHr.wr W4 sf2_q1 C2c.1)
  have O4 := O2o.wr W4 g_a
  have Z4 : n0 ≤ T4.heap.size := (W4.size ▸ Z2)
  have E4_q1 := E2_q1.wr W4
  have A4_q2 := A2_q2.other W4 n_c
  have K4 := K2.wr W4 (Or.inl (List.mem_of_getElem? (i := 0) rfl))
  have F4_q1_value := F2_q1_value.same W4
  have F4_q1_coder := F2_q1_coder.other W4 (Or.inr (slot_ne (Or.inr (w_32 hw)) (Or.inr (w_34 hw)) (by decide) (t := .byte) (t' := (.array .byte)) (by decide) (by decide)))
  have Y4 := Nat.le_trans hk2 (Nat.le_of_eq W4.size.symm)
  have E4_b2 := Ex2.wr W4
  have F4_b2_coder := Fc2.other W4 (Or.inl (sn2 _ sf2_q1).1.symm)
  have F4_b2_value := Fv2.other W4 (Or.inl (sn2 _ sf2_q1).1.symm)
  have A4_v2 := Av2.other W4 (sn2 _ sf2_q1).2.symm
  refine g_aloadN X4 hx hby d3_17 (pc' := 18) rfl rfl rfl ?_
  refine g_ldcH X4 hx hZ2 hown2 0 [] (0 : Int32) hby d3_18 (pc' := 20) rfl (w_35 hw) (own_str hw) rfl hS2 Y4 (own_EL hw) (List.mem_of_getElem? (i := 0) rfl) C4c.1 (by decide) (by decide) (by decide) (by decide) (by decide) (by decide) (by decide) ?_
  intro b5 T5 k5 v5 c5 X5 E5 hS5 hk5 hZ5 hown5 Ex5 Fc5 Fv5 Av5 C5h sn5
  have sf5_q1 := C5h.safe E4_q1.lt sf4_q1
  have C5c := C4c.trans C5h
  have O5o := O4.ext E5
  have Z5 := Nat.le_trans Z4 E5.1
  have E5_q1 := E4_q1.ext E5
  have A5_q2 := A4_q2.ext E5
  have K5 := K4.ext E5
  have F5_q1_value := F4_q1_value.ext E5
  have F5_q1_coder := F4_q1_coder.ext E5
  have Y5 := Nat.le_trans Y4 E5.1
  have E5_b2 := E4_b2.ext E5
  have F5_b2_coder := F4_b2_coder.ext E5
  have F5_b2_value := F4_b2_value.ext E5
  have A5_v2 := A4_v2.ext E5
  refine g_get X5 hx hZ5 hown5 hby d3_20 (pc' := 23) rfl (w_31 hw) rfl Fc5 ?_
  intro T6 X6 e6
  refine g_put X6 hx hZ5 hown5 hby d3_23 (pc' := 26) rfl (w_31 hw) e6 F5_q1_coder E5_q1 (Or.inr ⟨(w_32 hw), rfl, hnm⟩) (w_7 hw) (ty := .byte) (by decide) rfl rfl ?_
  intro T7 X7 W7
  have N7 := Fr.snoc X7 N4 g_a
  have sf7_q1 := Safe.wr W7 sf5_q1 C5c.1 sf5_q1
  have C7c := C5c.trans (CHr.wr W7 sf5_q1 C5c.1)
  have O7 := O5o.wr W7 g_a
  have Z7 : n0 ≤ T7.heap.size := (W7.size ▸ Z5)
  have E7_q1 := E5_q1.wr W7
  have A7_q2 := A5_q2.other W7 n_c
  have K7 := K5.wr W7 (Or.inl (List.mem_of_getElem? (i := 0) rfl))
  have F7_q1_value := F5_q1_value.other W7 (Or.inr (slot_ne (Or.inr (w_34 hw)) (Or.inr (w_32 hw)) (by decide) (t := (.array .byte)) (t' := .byte) (by decide) (by decide)))
  have F7_q1_coder := F5_q1_coder.same W7
  have Y7 := Nat.le_trans hk5 (Nat.le_of_eq W7.size.symm)
  have E7_b2 := E5_b2.wr W7
  have F7_b2_coder := F5_b2_coder.other W7 (Or.inl (sn2 _ sf2_q1).1.symm)
  have F7_b2_value := F5_b2_value.other W7 (Or.inl (sn2 _ sf2_q1).1.symm)
  have A7_v2 := A5_v2.other W7 (sn2 _ sf2_q1).2.symm
  have E7_b5 := Ex5.wr W7
  have F7_b5_coder := Fc5.other W7 (Or.inl (sn5 _ sf5_q1).1.symm)
  have F7_b5_value := Fv5.other W7 (Or.inl (sn5 _ sf5_q1).1.symm)
  have A7_v5 := Av5.other W7 (sn5 _ sf5_q1).2.symm
  refine GoH.of_go (a0 := a0) (fun v h L => ∃ (b : Addr) (k : ClassId), v = none ∧ Fr n0 L ∧ Keep h0 h [q1] ∧ Exa Z h q1 "java/lang/String" ∧ Fld Z h q1 "java/lang/String" "value" "[B" (.ref b) ∧ Fld Z h q1 "java/lang/String" "coder" "B" (.int (0 : Int32)) ∧ Arv Z h b k .byte (0 : Int32) [] (.int 0)) hS5 hZ5 (own_EL hw) ?_
  exact g_retV (Q := _) X7 hx hby d3_26 hret hlk (by decide) (by decide) ⟨⟨v2, c2, rfl, N7, K7, E7_q1, F7_q1_value, F7_q1_coder, A7_v2⟩, Y7, C7c⟩
theorem ef_rmS11 (q1 : Addr) (q2 : Addr) (m : MethodId) : entryFrame m #[.ref q1, .ref q2] 2 = mkF m 0 #[.val (.ref q1), .val (.ref q2)] [] := by
  first | (simp [entryFrame, mkF, argsToLocals, Value.category]; done) | rfl
set_option maxRecDepth 65536 in
set_option maxHeartbeats 40000000 in
theorem rmS11 (l : Launch) (Z : State) (a0 : Array Value) (hw : ∀ d ∈ tables_1, d.before a0 Z = true) (ws : List Jvm.Cond) (q1 : Addr) (q2 : Addr) (h0 : Heap) (n0 : Nat) (x0 : Int32) (kc : ClassId) (A_c : Arv Z h0 q2 kc .char (1 : Int32) [.int x0] (.int 0)) (hx0 : BY x0) (Z0 : n0 ≤ h0.size) (E_a : Exa Z h0 q1 "java/lang/String") (F_v : Fld Z h0 q1 "java/lang/String" "value" "[B" (.null)) (F_c : Fld Z h0 q1 "java/lang/String" "coder" "B" (.int (0 : Int32))) (n_c : q2 ≠ q1) (g_a : n0 ≤ q1) (cs : Int32) (SS : SSt Z cs) (O0 : Old Z n0 h0) :
    Ctr l Z ({ cls := "java/lang/String", name := "<init>", desc := "([C)V" } : Jvm.MethodName) jdk_42_method_3_code 2 none ws ({ frames := 3, cells := 1, slots := 2, locals := 52 } : Room) #[.ref q1, .ref q2] h0 (fun v h L => ∃ (b : Addr) (k : ClassId), v = none ∧ Fr n0 L ∧ Keep h0 h [q1] ∧ Exa Z h q1 "java/lang/String" ∧ Fld Z h q1 "java/lang/String" "value" "[B" (.ref b) ∧ Fld Z h q1 "java/lang/String" "coder" "B" (.int (0 : Int32)) ∧ Arv Z h b k .byte (1 : Int32) [.int (lat x0)] (.int 0)) := by
  refine Ctr.enter (Ls := #[.val (.ref q1), .val (.ref q2)]) (by decide +kernel) (fun m => ef_rmS11 q1 q2 m) ?_
  intro p e s m below meth c T hx hby hml hown hnm hret hlk hZ hh X0 e0
  have N0 := Fr.nil n0
  refine g_aloadN X0 hx hby d2_0 (pc' := 1) rfl rfl rfl ?_
  refine g_aloadN X0 hx hby d2_1 (pc' := 2) rfl rfl rfl ?_
  refine g_iconst X0 hx hby d2_2 (pc' := 3) rfl (z := (0 : Int32)) rfl ?_
  refine g_aloadN X0 hx hby d2_3 (pc' := 4) rfl rfl rfl ?_
  refine g_alen X0 hx hZ hby d2_4 (pc' := 5) rfl e0 A_c ?_
  refine g_aconstNull X0 hx hby d2_5 (pc' := 6) rfl ?_
  refine g_callI X0 hx hZ hown (W := 0) (argsL := [.ref q2, .int (0 : Int32), .int (1 : Int32), .null]) (b := q1) (rest := []) hby d2_6 (pc' := 9) rfl (by rw [hml]; rfl) (w_12 hw) (w_13 hw) (w_8 hw) (w_15 hw) rfl (by decide) (rmS41 l Z a0 hw [] q1 q2 h0 n0 x0 _ A_c hx0 Z0 E_a F_v F_c n_c g_a cs SS O0) e0 (by decide) (by decide) (by decide) (by decide) rfl pd__28_5bCIILjava_2flang_2fVoid_3b_29V rfl rfl (Nat.le_of_eq rfl) ?_
  rintro _ T1 L1 X1 (⟨b1, k1, rfl, N1q, K1, Ei1, Fv1, Fc1, A1⟩)
  · have N1 := Fr.app N0 N1q
    have O1 := O0.keep K1 (allS g_a all0)
    have Z1 := Nat.le_trans Z0 K1.1
    have E1_q1 := E_a.keep K1
    have A1_q2 := A_c.keep K1 (ninS n_c nin0)
    have K1t := (Keep.refl h0 [q1]).trans K1 (allS (Or.inl (List.mem_of_getElem? (i := 0) rfl)) all0)
    show GoE p e below _ (T1.setTop (mkF m 9 #[.val (.ref q1), .val (.ref q2)] []))
    exact g_retV (Q := (fun v h L => ∃ (b : Addr) (k : ClassId), v = none ∧ Fr n0 L ∧ Keep h0 h [q1] ∧ Exa Z h q1 "java/lang/String" ∧ Fld Z h q1 "java/lang/String" "value" "[B" (.ref b) ∧ Fld Z h q1 "java/lang/String" "coder" "B" (.int (0 : Int32)) ∧ Arv Z h b k .byte (1 : Int32) [.int (lat x0)] (.int 0))) X1 hx hby d2_9 hret hlk (by decide) (by decide) ⟨b1, k1, rfl, N1, K1t, Ei1, Fv1, Fc1, A1⟩
theorem ef_rmS12 (q1 : Addr) (q2 : Addr) (m : MethodId) : entryFrame m #[.ref q1, .ref q2] 2 = mkF m 0 #[.val (.ref q1), .val (.ref q2)] [] := by
  first | (simp [entryFrame, mkF, argsToLocals, Value.category]; done) | rfl
set_option maxRecDepth 65536 in
set_option maxHeartbeats 40000000 in
theorem rmS12 (l : Launch) (Z : State) (a0 : Array Value) (hw : ∀ d ∈ tables_1, d.before a0 Z = true) (ws : List Jvm.Cond) (q1 : Addr) (q2 : Addr) (h0 : Heap) (n0 : Nat) (x0 x1 : Int32) (kc : ClassId) (A_c : Arv Z h0 q2 kc .char (2 : Int32) [.int x0, .int x1] (.int 0)) (hx0 : BY x0) (hx1 : BY x1) (Z0 : n0 ≤ h0.size) (E_a : Exa Z h0 q1 "java/lang/String") (F_v : Fld Z h0 q1 "java/lang/String" "value" "[B" (.null)) (F_c : Fld Z h0 q1 "java/lang/String" "coder" "B" (.int (0 : Int32))) (n_c : q2 ≠ q1) (g_a : n0 ≤ q1) (cs : Int32) (SS : SSt Z cs) (O0 : Old Z n0 h0) :
    Ctr l Z ({ cls := "java/lang/String", name := "<init>", desc := "([C)V" } : Jvm.MethodName) jdk_42_method_3_code 2 none ws ({ frames := 3, cells := 1, slots := 2, locals := 52 } : Room) #[.ref q1, .ref q2] h0 (fun v h L => ∃ (b : Addr) (k : ClassId), v = none ∧ Fr n0 L ∧ Keep h0 h [q1] ∧ Exa Z h q1 "java/lang/String" ∧ Fld Z h q1 "java/lang/String" "value" "[B" (.ref b) ∧ Fld Z h q1 "java/lang/String" "coder" "B" (.int (0 : Int32)) ∧ Arv Z h b k .byte (2 : Int32) [.int (lat x0), .int (lat x1)] (.int 0)) := by
  refine Ctr.enter (Ls := #[.val (.ref q1), .val (.ref q2)]) (by decide +kernel) (fun m => ef_rmS12 q1 q2 m) ?_
  intro p e s m below meth c T hx hby hml hown hnm hret hlk hZ hh X0 e0
  have N0 := Fr.nil n0
  refine g_aloadN X0 hx hby d2_0 (pc' := 1) rfl rfl rfl ?_
  refine g_aloadN X0 hx hby d2_1 (pc' := 2) rfl rfl rfl ?_
  refine g_iconst X0 hx hby d2_2 (pc' := 3) rfl (z := (0 : Int32)) rfl ?_
  refine g_aloadN X0 hx hby d2_3 (pc' := 4) rfl rfl rfl ?_
  refine g_alen X0 hx hZ hby d2_4 (pc' := 5) rfl e0 A_c ?_
  refine g_aconstNull X0 hx hby d2_5 (pc' := 6) rfl ?_
  refine g_callI X0 hx hZ hown (W := 0) (argsL := [.ref q2, .int (0 : Int32), .int (2 : Int32), .null]) (b := q1) (rest := []) hby d2_6 (pc' := 9) rfl (by rw [hml]; rfl) (w_12 hw) (w_13 hw) (w_8 hw) (w_15 hw) rfl (by decide) (rmS42 l Z a0 hw [] q1 q2 h0 n0 x0 x1 _ A_c hx0 hx1 Z0 E_a F_v F_c n_c g_a cs SS O0) e0 (by decide) (by decide) (by decide) (by decide) rfl pd__28_5bCIILjava_2flang_2fVoid_3b_29V rfl rfl (Nat.le_of_eq rfl) ?_
  rintro _ T1 L1 X1 (⟨b1, k1, rfl, N1q, K1, Ei1, Fv1, Fc1, A1⟩)
  · have N1 := Fr.app N0 N1q
    have O1 := O0.keep K1 (allS g_a all0)
    have Z1 := Nat.le_trans Z0 K1.1
    have E1_q1 := E_a.keep K1
    have A1_q2 := A_c.keep K1 (ninS n_c nin0)
    have K1t := (Keep.refl h0 [q1]).trans K1 (allS (Or.inl (List.mem_of_getElem? (i := 0) rfl)) all0)
    show GoE p e below _ (T1.setTop (mkF m 9 #[.val (.ref q1), .val (.ref q2)] []))
    exact g_retV (Q := (fun v h L => ∃ (b : Addr) (k : ClassId), v = none ∧ Fr n0 L ∧ Keep h0 h [q1] ∧ Exa Z h q1 "java/lang/String" ∧ Fld Z h q1 "java/lang/String" "value" "[B" (.ref b) ∧ Fld Z h q1 "java/lang/String" "coder" "B" (.int (0 : Int32)) ∧ Arv Z h b k .byte (2 : Int32) [.int (lat x0), .int (lat x1)] (.int 0))) X1 hx hby d2_9 hret hlk (by decide) (by decide) ⟨b1, k1, rfl, N1, K1t, Ei1, Fv1, Fc1, A1⟩
theorem ef_rmS10 (q1 : Addr) (q2 : Addr) (m : MethodId) : entryFrame m #[.ref q1, .ref q2] 2 = mkF m 0 #[.val (.ref q1), .val (.ref q2)] [] := by
  first | (simp [entryFrame, mkF, argsToLocals, Value.category]; done) | rfl
set_option maxRecDepth 65536 in
set_option maxHeartbeats 40000000 in
theorem rmS10 (l : Launch) (Z : State) (a0 : Array Value) (hw : ∀ d ∈ tables_1, d.before a0 Z = true) (ws : List Jvm.Cond) (q1 : Addr) (q2 : Addr) (h0 : Heap) (n0 : Nat) (kc : ClassId) (A_c : Arv Z h0 q2 kc .char (0 : Int32) [] (.int 0))  (Z0 : n0 ≤ h0.size) (E_a : Exa Z h0 q1 "java/lang/String") (F_v : Fld Z h0 q1 "java/lang/String" "value" "[B" (.null)) (F_c : Fld Z h0 q1 "java/lang/String" "coder" "B" (.int (0 : Int32))) (n_c : q2 ≠ q1) (g_a : n0 ≤ q1) (cs : Int32) (SS : SSt Z cs) (O0 : Old Z n0 h0) :
    CtrH ELs l Z ({ cls := "java/lang/String", name := "<init>", desc := "([C)V" } : Jvm.MethodName) jdk_42_method_3_code 2 none ws ({ frames := 2, cells := 4, slots := 8, locals := 29 } : Room) #[.ref q1, .ref q2] h0 (fun v h L => ∃ (b : Addr) (k : ClassId), v = none ∧ Fr n0 L ∧ Keep h0 h [q1] ∧ Exa Z h q1 "java/lang/String" ∧ Fld Z h q1 "java/lang/String" "value" "[B" (.ref b) ∧ Fld Z h q1 "java/lang/String" "coder" "B" (.int (0 : Int32)) ∧ Arv Z h b k .byte (0 : Int32) [] (.int 0)) := by
  refine CtrH.enter (Ls := #[.val (.ref q1), .val (.ref q2)]) (by decide +kernel) (fun m => ef_rmS10 q1 q2 m) ?_
  intro p e s m below meth c T hx hby hml hown hnm hret hlk hZ hh X0 e0 hS0 C0h
  have N0 := Fr.nil n0
  have S0q : Safe Z ELs s.vm h0 q1 := own_safe0 hZ.alike E_a F_v
  refine g_aloadN X0 hx hby d2_0 (pc' := 1) rfl rfl rfl ?_
  refine g_aloadN X0 hx hby d2_1 (pc' := 2) rfl rfl rfl ?_
  refine g_iconst X0 hx hby d2_2 (pc' := 3) rfl (z := (0 : Int32)) rfl ?_
  refine g_aloadN X0 hx hby d2_3 (pc' := 4) rfl rfl rfl ?_
  refine g_alen X0 hx hZ hby d2_4 (pc' := 5) rfl e0 A_c ?_
  refine g_aconstNull X0 hx hby d2_5 (pc' := 6) rfl ?_
  refine g_callIH X0 hx hZ hown (W := 0) (argsL := [.ref q2, .int (0 : Int32), .int (0 : Int32), .null]) (b := q1) (rest := []) hby d2_6 (pc' := 9) rfl (by rw [hml]; rfl) (w_12 hw) (w_13 hw) (w_8 hw) (w_15 hw) rfl (by decide) (rmS40 l Z a0 hw [] q1 q2 h0 n0  _ A_c  Z0 E_a F_v F_c n_c g_a cs SS O0) e0 hS0 (Nat.le_refl h0.size) (own_EL hw) C0h.1 (by decide) (by decide) (by decide) (by decide) rfl pd__28_5bCIILjava_2flang_2fVoid_3b_29V rfl rfl (Nat.le_of_eq rfl) ?_
  rintro _ T1 L1 X1 (⟨b1, k1, rfl, N1q, K1, Ei1, Fv1, Fc1, A1⟩) hS1 hZ1 hown1 C1h
  have N1 := Fr.app N0 N1q
  have sf1_q1 := C1h.safe E_a.lt S0q
  have C1c := C0h.trans C1h
  have O1 := O0.keep K1 (allS g_a all0)
  have Z1 := Nat.le_trans Z0 K1.1
  have E1_q1 := E_a.keep K1
  have A1_q2 := A_c.keep K1 (ninS n_c nin0)
  have K1t := (Keep.refl h0 [q1]).trans K1 (allS (Or.inl (List.mem_of_getElem? (i := 0) rfl)) all0)
  have Y1 := Nat.le_trans (Nat.le_refl h0.size) K1.1
  show GoE p e below _ (T1.setTop (mkF m 9 #[.val (.ref q1), .val (.ref q2)] []))
  refine GoH.of_go (a0 := a0) (fun v h L => ∃ (b : Addr) (k : ClassId), v = none ∧ Fr n0 L ∧ Keep h0 h [q1] ∧ Exa Z h q1 "java/lang/String" ∧ Fld Z h q1 "java/lang/String" "value" "[B" (.ref b) ∧ Fld Z h q1 "java/lang/String" "coder" "B" (.int (0 : Int32)) ∧ Arv Z h b k .byte (0 : Int32) [] (.int 0)) hS1 hZ1 (own_EL hw) ?_
  exact g_retV (Q := _) X1 hx hby d2_9 hret hlk (by decide) (by decide) ⟨⟨b1, k1, rfl, N1, K1t, Ei1, Fv1, Fc1, A1⟩, (Nat.le_refl T1.heap.size), C1c⟩
theorem ef_rmM (q1 : Int32) (q2 : Int32) (m : MethodId) : entryFrame m #[.int q1, .int q2] 3 = mkF m 0 #[.val (.int q1), .val (.int q2), .unset] [] := by
  first | (simp [entryFrame, mkF, argsToLocals, Value.category]; done) | rfl
theorem pn_rmM : plainName "com/example/phaseline/phaseline/game/SideEqualsPinLaw" = true := by first | (simp [plainName, overriddenIn]; done) | decide +kernel
set_option maxRecDepth 65536 in
set_option maxHeartbeats 40000000 in
theorem rmM (l : Launch) (Z : State) (a0 : Array Value) (hw : ∀ d ∈ tables_1, d.before a0 Z = true) (ws : List Jvm.Cond) (q1 : Int32) (q2 : Int32) (h0 : Heap) (n0 : Nat) (Z0 : n0 ≤ h0.size) (cs : Int32) (SS : SSt Z cs) (O0 : Old Z n0 h0) :
    CtrH ELs l Z ({ cls := "com/example/phaseline/phaseline/game/SideEqualsPinLaw", name := "mk", desc := "(II)Ljava/lang/String;" } : Jvm.MethodName) method_2_code 3 (some (.object "java/lang/String")) ws ({ frames := 4, cells := 6, slots := 12, locals := 66 } : Room) #[.int q1, .int q2] h0 (fun v h L => ∃ b : Addr, v = some (.ref b) ∧ Fr n0 L ∧ Keep h0 h [] ∧ h0.size ≤ b ∧ Txt Z h b (chars q1 q2)) := by
  refine CtrH.enter (Ls := #[.val (.int q1), .val (.int q2), .unset]) (plainFor_of_name pn_rmM) (fun m => ef_rmM q1 q2 m) ?_
  intro p e s m below meth c T hx hby hml hown hnm hret hlk hZ hh X0 e0 hS0 C0h
  have N0 := Fr.nil n0
  refine g_iloadN X0 hx hby d1_0 (pc' := 1) rfl rfl ?_
  refine g_if_ne X0 hx hby d1_1 (by decide) (pc' := 15) (by decide) (pn := 4) rfl (fun hc1_1 => ?_) (fun hc1_1 => ?_)
  · refine g_iloadN X0 hx hby d1_15 (pc' := 16) rfl rfl ?_
    refine g_iconst X0 hx hby d1_16 (pc' := 17) rfl (z := (1 : Int32)) rfl ?_
    refine g_icmp_ne X0 hx hby d1_17 (by decide) (pc' := 42) (by decide) (pn := 20) rfl (fun hc17_2 => ?_) (fun hc17_2 => ?_)
    · refine g_iconst X0 hx hby d1_42 (pc' := 43) rfl (z := (2 : Int32)) rfl ?_
      refine g_newarray X0 hx hZ 2  "[C" hby d1_43 (pc' := 45) rfl (w_5 hw) e0 (by decide) (by decide) (by decide) (by decide) (by decide) rfl ?_
      intro T3 b3 c3 hb3 X3 E3 A3v A3x
      have sf3_b3 := Safe.ext E3 C0h.1 (Safe.new (Nat.le_of_eq hb3.symm))
      have C3c := C0h.trans (CHr.ext E3 C0h.1)
      have O3o := O0.ext E3
      have K3 := (Keep.refl h0 []).ext E3
      have Z3 := Nat.le_trans Z0 E3.1
      have Y3 := Nat.le_trans (Nat.le_refl h0.size) E3.1
      have A3 : Arv Z T3.heap b3 c3 .char (2 : Int32) [.int 0, .int 0] (.int 0) := A3v
      refine g_astoreN X3 hx hby d1_45 (pc' := 46) rfl rfl (l' := #[.val (.int q1), .val (.int q2), .val (.ref b3)]) rfl ?_
      refine g_aloadN X3 hx hby d1_46 (pc' := 47) rfl rfl rfl ?_
      refine g_iconst X3 hx hby d1_47 (pc' := 48) rfl (z := (0 : Int32)) rfl ?_
      refine g_iloadN X3 hx hby d1_48 (pc' := 49) rfl rfl ?_
      refine g_sipush X3 hx hby d1_49 (pc' := 52) rfl (z := (255 : Int32)) rfl ?_
      refine g_iand X3 hx hby d1_52 (pc' := 53) rfl ?_
      refine g_i2c X3 hx hby d1_53 (pc' := 54) rfl ?_
      refine g_castore X3 hx hZ 0 hby d1_54 (pc' := 55) rfl rfl A3 (by decide) (by decide) (by first | decide | simp) ?_
      intro T4 X4 W4 A4v
      have N4 := Fr.snoc X4 N0 (Nat.le_trans Z0 (Nat.le_of_eq hb3.symm))
      have sf4_b3 := Safe.wr W4 sf3_b3 C3c.1 sf3_b3
      have C4c := C3c.trans (CHr.wr W4 sf3_b3 C3c.1)
      have O4 := O3o.wr W4 (Nat.le_trans Z0 (Nat.le_of_eq hb3.symm))
      have K4 := K3.wr W4 (Or.inr (Nat.le_trans (Keep.refl h0 []).1 (Nat.le_of_eq hb3.symm)))
      have Z4 : n0 ≤ T4.heap.size := (W4.size ▸ Z3)
      have Y4 := Nat.le_trans Y3 (Nat.le_of_eq W4.size.symm)
      have E4_b3 := A3x.wr W4
      have A4 : Arv Z T4.heap b3 c3 .char (2 : Int32) [.int (nar .char (q1 &&& (255 : Int32)).toUInt32.toUInt16.toUInt32.toInt32), .int 0] (.int 0) := A4v
      refine g_aloadN X4 hx hby d1_55 (pc' := 56) rfl rfl rfl ?_
      refine g_iconst X4 hx hby d1_56 (pc' := 57) rfl (z := (1 : Int32)) rfl ?_
      refine g_iloadN X4 hx hby d1_57 (pc' := 58) rfl rfl ?_
      refine g_bipush X4 hx hby d1_58 (pc' := 60) rfl (z := (8 : Int32)) rfl ?_
      refine g_iushr X4 hx hby d1_60 (pc' := 61) rfl ?_
      refine g_sipush X4 hx hby d1_61 (pc' := 64) rfl (z := (255 : Int32)) rfl ?_
      refine g_iand X4 hx hby d1_64 (pc' := 65) rfl ?_
      refine g_i2c X4 hx hby d1_65 (pc' := 66) rfl ?_
      refine g_castore X4 hx hZ 1 hby d1_66 (pc' := 67) rfl rfl A4 (by decide) (by decide) (by first | decide | simp) ?_
      intro T5 X5 W5 A5v
      have N5 := Fr.snoc X5 N4 (Nat.le_trans Z0 (Nat.le_of_eq hb3.symm))
      have sf5_b3 := Safe.wr W5 sf4_b3 C4c.1 sf4_b3
      have C5c := C4c.trans (CHr.wr W5 sf4_b3 C4c.1)
      have O5 := O4.wr W5 (Nat.le_trans Z0 (Nat.le_of_eq hb3.symm))
      have K5 := K4.wr W5 (Or.inr (Nat.le_trans (Keep.refl h0 []).1 (Nat.le_of_eq hb3.symm)))
      have Z5 : n0 ≤ T5.heap.size := (W5.size ▸ Z4)
      have Y5 := Nat.le_trans Y4 (Nat.le_of_eq W5.size.symm)
      have E5_b3 := E4_b3.wr W5
      have A5 : Arv Z T5.heap b3 c3 .char (2 : Int32) [.int (nar .char (q1 &&& (255 : Int32)).toUInt32.toUInt16.toUInt32.toInt32), .int (nar .char ((ushr q1 (8 : Int32)) &&& (255 : Int32)).toUInt32.toUInt16.toUInt32.toInt32)] (.int 0) := A5v
      have A6 : Arv Z T5.heap b3 c3 .char (2 : Int32) [.int (cA q1), .int (cB q1)] (.int 0) := by
        have z : Arv Z T5.heap b3 c3 .char (2 : Int32) [.int (nar .char (cA q1)), .int (nar .char (cB q1))] (.int 0) := A5
        rw [own_narc (own_bA q1), own_narc (own_bB q1)] at z
        exact z
      refine g_new X5 hx hZ hown hby d1_67 (pc' := 70) rfl (w_6 hw) (w_7 hw) (w_8 hw) rfl (by decide) (by decide) ?_
      intro T7 b7 hb7 X7 E7 A7 D7
      have sf7_b3 := Safe.ext E7 C5c.1 sf5_b3
      have sf7_b7 := Safe.ext E7 C5c.1 (Safe.new (Nat.le_of_eq hb7.symm))
      have C7c := C5c.trans (CHr.ext E7 C5c.1)
      have O7o := O5.ext E7
      have K7 := K5.ext E7
      have Z7 := Nat.le_trans Z5 E7.1
      have Y7 := Nat.le_trans Y5 E7.1
      have E7_b3 := E5_b3.ext E7
      have ne7_b3 : b3 ≠ b7 := hb7 ▸ Nat.ne_of_lt E5_b3.lt
      have A7_b3 := A6.ext E7
      have F7_coder : Fld Z T7.heap b7 "java/lang/String" "coder" "B" (.int (0 : Int32)) := D7 (Or.inr (w_32 hw)) (ty := .byte) (by decide)
      have F7_value : Fld Z T7.heap b7 "java/lang/String" "value" "[B" (.null) := D7 (Or.inr (w_34 hw)) (ty := (.array .byte)) (by decide)
      refine g_dup X7 hx hby d1_70 (pc' := 71) rfl rfl ?_
      refine g_aloadN X7 hx hby d1_71 (pc' := 72) rfl rfl rfl ?_
      refine g_callI X7 hx hZ hown (W := 1) (argsL := [.ref b3]) (b := b7) (rest := [.ref b7]) hby d1_72 (pc' := 75) rfl (by rw [hml]; rfl) (w_9 hw) (w_10 hw) (w_8 hw) (w_11 hw) rfl (by decide) (rmS12 l Z a0 hw [] b7 b3 T7.heap n0 (cA q1) (cB q1) _ A7_b3 (own_bA q1) (own_bB q1) Z7 A7 F7_value F7_coder ne7_b3 (Nat.le_trans Z5 (Nat.le_of_eq hb7.symm)) cs SS O7o) rfl (by decide) (by decide) (by decide) (by decide) rfl pd__28_5bC_29V rfl rfl (Nat.le_of_eq rfl) ?_
      rintro _ T8 L8 X8 (⟨b8, k8, rfl, N8q, K8, Ei8, Fv8, Fc8, A8⟩)
      · have N8 := Fr.app N5 N8q
        have C8h := CHr.keep K8 (allS sf7_b7 all0) C7c.1
        have sf8_b3 := Safe.keep K8 (allS sf7_b7 all0) C7c.1 sf7_b3
        have sf8_b7 := Safe.keep K8 (allS sf7_b7 all0) C7c.1 sf7_b7
        have C8c := C7c.trans C8h
        have O8 := O7o.keep K8 (allS (Nat.le_trans Z5 (Nat.le_of_eq hb7.symm)) all0)
        have K8t := K7.trans K8 (allS (Or.inr (Nat.le_trans K5.1 (Nat.le_of_eq hb7.symm))) all0)
        have Z8 := Nat.le_trans Z7 K8.1
        have Y8 := Nat.le_trans Y7 K8.1
        have E8_b3 := E7_b3.keep K8
        have A8_b3 := A7_b3.keep K8 (ninS ne7_b3 nin0)
        have E8_b7 := A7.keep K8
        show GoE p e below _ (T8.setTop (mkF m 75 #[.val (.int q1), .val (.int q2), .val (.ref b3)] [.ref b7]))
        refine GoH.of_go (a0 := a0) (fun v h L => ∃ b : Addr, v = some (.ref b) ∧ Fr n0 L ∧ Keep h0 h [] ∧ h0.size ≤ b ∧ Txt Z h b (chars q1 q2)) hS0 hZ (own_EL hw) ?_
        exact g_retA (Q := _) X8 hx hby d1_75 rfl hret rfl hlk (by decide) (by decide) ⟨⟨b7, rfl, N8, K8t, (Nat.le_trans K5.1 (Nat.le_of_eq hb7.symm)), (by unfold chars; rw [if_neg hc1_1, if_neg hc17_2]; exact ⟨Ei8, (fun c hc => by simp only [List.mem_cons, List.not_mem_nil, or_false] at hc; rcases hc with rfl | rfl; exact own_bA q1; exact own_bB q1), by simp, b8, _, Fv8, Fc8, A8⟩)⟩, Y8, C8c⟩
    · refine g_iconst X0 hx hby d1_20 (pc' := 21) rfl (z := (1 : Int32)) rfl ?_
      refine g_newarray X0 hx hZ 1  "[C" hby d1_21 (pc' := 23) rfl (w_5 hw) e0 (by decide) (by decide) (by decide) (by decide) (by decide) rfl ?_
      intro T9 b9 c9 hb9 X9 E9 A9v A9x
      have sf9_b9 := Safe.ext E9 C0h.1 (Safe.new (Nat.le_of_eq hb9.symm))
      have C9c := C0h.trans (CHr.ext E9 C0h.1)
      have O9o := O0.ext E9
      have K9 := (Keep.refl h0 []).ext E9
      have Z9 := Nat.le_trans Z0 E9.1
      have Y9 := Nat.le_trans (Nat.le_refl h0.size) E9.1
      have A9 : Arv Z T9.heap b9 c9 .char (1 : Int32) [.int 0] (.int 0) := A9v
      refine g_astoreN X9 hx hby d1_23 (pc' := 24) rfl rfl (l' := #[.val (.int q1), .val (.int q2), .val (.ref b9)]) rfl ?_
      refine g_aloadN X9 hx hby d1_24 (pc' := 25) rfl rfl rfl ?_
      refine g_iconst X9 hx hby d1_25 (pc' := 26) rfl (z := (0 : Int32)) rfl ?_
      refine g_iloadN X9 hx hby d1_26 (pc' := 27) rfl rfl ?_
      refine g_sipush X9 hx hby d1_27 (pc' := 30) rfl (z := (255 : Int32)) rfl ?_
      refine g_iand X9 hx hby d1_30 (pc' := 31) rfl ?_
      refine g_i2c X9 hx hby d1_31 (pc' := 32) rfl ?_
      refine g_castore X9 hx hZ 0 hby d1_32 (pc' := 33) rfl rfl A9 (by decide) (by decide) (by first | decide | simp) ?_
      intro T10 X10 W10 A10v
      have N10 := Fr.snoc X10 N0 (Nat.le_trans Z0 (Nat.le_of_eq hb9.symm))
      have sf10_b9 := Safe.wr W10 sf9_b9 C9c.1 sf9_b9
      have C10c := C9c.trans (CHr.wr W10 sf9_b9 C9c.1)
      have O10 := O9o.wr W10 (Nat.le_trans Z0 (Nat.le_of_eq hb9.symm))
      have K10 := K9.wr W10 (Or.inr (Nat.le_trans (Keep.refl h0 []).1 (Nat.le_of_eq hb9.symm)))
      have Z10 : n0 ≤ T10.heap.size := (W10.size ▸ Z9)
      have Y10 := Nat.le_trans Y9 (Nat.le_of_eq W10.size.symm)
      have E10_b9 := A9x.wr W10
      have A10 : Arv Z T10.heap b9 c9 .char (1 : Int32) [.int (nar .char (q1 &&& (255 : Int32)).toUInt32.toUInt16.toUInt32.toInt32)] (.int 0) := A10v
      have A11 : Arv Z T10.heap b9 c9 .char (1 : Int32) [.int (cA q1)] (.int 0) := by
        have z : Arv Z T10.heap b9 c9 .char (1 : Int32) [.int (nar .char (cA q1))] (.int 0) := A10
        rw [own_narc (own_bA q1)] at z
        exact z
      refine g_new X10 hx hZ hown hby d1_33 (pc' := 36) rfl (w_6 hw) (w_7 hw) (w_8 hw) rfl (by decide) (by decide) ?_
      intro T12 b12 hb12 X12 E12 A12 D12
      have sf12_b9 := Safe.ext E12 C10c.1 sf10_b9
      have sf12_b12 := Safe.ext E12 C10c.1 (Safe.new (Nat.le_of_eq hb12.symm))
      have C12c := C10c.trans (CHr.ext E12 C10c.1)
      have O12o := O10.ext E12
      have K12 := K10.ext E12
      have Z12 := Nat.le_trans Z10 E12.1
      have Y12 := Nat.le_trans Y10 E12.1
      have E12_b9 := E10_b9.ext E12
      have ne12_b9 : b9 ≠ b12 := hb12 ▸ Nat.ne_of_lt E10_b9.lt
      have A12_b9 := A11.ext E12
      have F12_coder : Fld Z T12.heap b12 "java/lang/String" "coder" "B" (.int (0 : Int32)) := D12 (Or.inr (w_32 hw)) (ty := .byte) (by decide)
      have F12_value : Fld Z T12.heap b12 "java/lang/String" "value" "[B" (.null) := D12 (Or.inr (w_34 hw)) (ty := (.array .byte)) (by decide)
      refine g_dup X12 hx hby d1_36 (pc' := 37) rfl rfl ?_
      refine g_aloadN X12 hx hby d1_37 (pc' := 38) rfl rfl rfl ?_
      refine g_callI X12 hx hZ hown (W := 1) (argsL := [.ref b9]) (b := b12) (rest := [.ref b12]) hby d1_38 (pc' := 41) rfl (by rw [hml]; rfl) (w_9 hw) (w_10 hw) (w_8 hw) (w_11 hw) rfl (by decide) (rmS11 l Z a0 hw [] b12 b9 T12.heap n0 (cA q1) _ A12_b9 (own_bA q1) Z12 A12 F12_value F12_coder ne12_b9 (Nat.le_trans Z10 (Nat.le_of_eq hb12.symm)) cs SS O12o) rfl (by decide) (by decide) (by decide) (by decide) rfl pd__28_5bC_29V rfl rfl (Nat.le_of_eq rfl) ?_
      rintro _ T13 L13 X13 (⟨b13, k13, rfl, N13q, K13, Ei13, Fv13, Fc13, A13⟩)
      · have N13 := Fr.app N10 N13q
        have C13h := CHr.keep K13 (allS sf12_b12 all0) C12c.1
        have sf13_b9 := Safe.keep K13 (allS sf12_b12 all0) C12c.1 sf12_b9
        have sf13_b12 := Safe.keep K13 (allS sf12_b12 all0) C12c.1 sf12_b12
        have C13c := C12c.trans C13h
        have O13 := O12o.keep K13 (allS (Nat.le_trans Z10 (Nat.le_of_eq hb12.symm)) all0)
        have K13t := K12.trans K13 (allS (Or.inr (Nat.le_trans K10.1 (Nat.le_of_eq hb12.symm))) all0)
        have Z13 := Nat.le_trans Z12 K13.1
        have Y13 := Nat.le_trans Y12 K13.1
        have E13_b9 := E12_b9.keep K13
        have A13_b9 := A12_b9.keep K13 (ninS ne12_b9 nin0)
        have E13_b12 := A12.keep K13
        show GoE p e below _ (T13.setTop (mkF m 41 #[.val (.int q1), .val (.int q2), .val (.ref b9)] [.ref b12]))
        refine GoH.of_go (a0 := a0) (fun v h L => ∃ b : Addr, v = some (.ref b) ∧ Fr n0 L ∧ Keep h0 h [] ∧ h0.size ≤ b ∧ Txt Z h b (chars q1 q2)) hS0 hZ (own_EL hw) ?_
        exact g_retA (Q := _) X13 hx hby d1_41 rfl hret rfl hlk (by decide) (by decide) ⟨⟨b12, rfl, N13, K13t, (Nat.le_trans K10.1 (Nat.le_of_eq hb12.symm)), (by unfold chars; rw [if_neg hc1_1, if_pos hc17_2]; exact ⟨Ei13, (fun c hc => by simp only [List.mem_cons, List.not_mem_nil, or_false] at hc; subst hc; exact own_bA q1), by simp, b13, _, Fv13, Fc13, A13⟩)⟩, Y13, C13c⟩
  · refine g_new X0 hx hZ hown hby d1_4 (pc' := 7) rfl (w_6 hw) (w_7 hw) (w_8 hw) e0 (by decide) (by decide) ?_
    intro T14 b14 hb14 X14 E14 A14 D14
    have sf14_b14 := Safe.ext E14 C0h.1 (Safe.new (Nat.le_of_eq hb14.symm))
    have C14c := C0h.trans (CHr.ext E14 C0h.1)
    have O14o := O0.ext E14
    have K14 := (Keep.refl h0 []).ext E14
    have Z14 := Nat.le_trans Z0 E14.1
    have Y14 := Nat.le_trans (Nat.le_refl h0.size) E14.1
    have F14_coder : Fld Z T14.heap b14 "java/lang/String" "coder" "B" (.int (0 : Int32)) := D14 (Or.inr (w_32 hw)) (ty := .byte) (by decide)
    have F14_value : Fld Z T14.heap b14 "java/lang/String" "value" "[B" (.null) := D14 (Or.inr (w_34 hw)) (ty := (.array .byte)) (by decide)
    refine g_dup X14 hx hby d1_7 (pc' := 8) rfl rfl ?_
    refine g_iconst X14 hx hby d1_8 (pc' := 9) rfl (z := (0 : Int32)) rfl ?_
    refine g_newarray X14 hx hZ 0  "[C" hby d1_9 (pc' := 11) rfl (w_5 hw) rfl (by decide) (by decide) (by decide) (by decide) (by decide) rfl ?_
    intro T15 b15 c15 hb15 X15 E15 A15v A15x
    have sf15_b14 := Safe.ext E15 C14c.1 sf14_b14
    have sf15_b15 := Safe.ext E15 C14c.1 (Safe.new (Nat.le_of_eq hb15.symm))
    have C15c := C14c.trans (CHr.ext E15 C14c.1)
    have O15o := O14o.ext E15
    have K15 := K14.ext E15
    have Z15 := Nat.le_trans Z14 E15.1
    have Y15 := Nat.le_trans Y14 E15.1
    have E15_b14 := A14.ext E15
    have ne15_b14 : b14 ≠ b15 := hb15 ▸ Nat.ne_of_lt A14.lt
    have F15_b14_coder := F14_coder.ext E15
    have F15_b14_value := F14_value.ext E15
    have A15 : Arv Z T15.heap b15 c15 .char (0 : Int32) [] (.int 0) := A15v
    refine g_callIH X15 hx hZ hown (W := 1) (argsL := [.ref b15]) (b := b14) (rest := [.ref b14]) hby d1_11 (pc' := 14) rfl (by rw [hml]; rfl) (w_9 hw) (w_10 hw) (w_8 hw) (w_11 hw) rfl (by decide) (rmS10 l Z a0 hw [] b14 b15 T15.heap n0  _ A15  Z15 E15_b14 F15_b14_value F15_b14_coder ne15_b14.symm (Nat.le_trans Z0 (Nat.le_of_eq hb14.symm)) cs SS O15o) rfl hS0 Y15 (own_EL hw) C15c.1 (by decide) (by decide) (by decide) (by decide) rfl pd__28_5bC_29V rfl rfl (Nat.le_of_eq rfl) ?_
    rintro _ T16 L16 X16 (⟨b16, k16, rfl, N16q, K16, Ei16, Fv16, Fc16, A16⟩) hS16 hZ16 hown16 C16h
    have N16 := Fr.app N0 N16q
    have sf16_b14 := C16h.safe E15_b14.lt sf15_b14
    have sf16_b15 := C16h.safe A15x.lt sf15_b15
    have C16c := C15c.trans C16h
    have O16 := O15o.keep K16 (allS (Nat.le_trans Z0 (Nat.le_of_eq hb14.symm)) all0)
    have K16t := K15.trans K16 (allS (Or.inr (Nat.le_trans (Keep.refl h0 []).1 (Nat.le_of_eq hb14.symm))) all0)
    have Z16 := Nat.le_trans Z15 K16.1
    have Y16 := Nat.le_trans Y15 K16.1
    have E16_b14 := E15_b14.keep K16
    have A16_b15 := A15.keep K16 (ninS ne15_b14.symm nin0)
    have E16_b15 := A15x.keep K16
    show GoE p e below _ (T16.setTop (mkF m 14 #[.val (.int q1), .val (.int q2), .unset] [.ref b14]))
    refine GoH.of_go (a0 := a0) (fun v h L => ∃ b : Addr, v = some (.ref b) ∧ Fr n0 L ∧ Keep h0 h [] ∧ h0.size ≤ b ∧ Txt Z h b (chars q1 q2)) hS16 hZ16 (own_EL hw) ?_
    exact g_retA (Q := _) X16 hx hby d1_14 rfl hret rfl hlk (by decide) (by decide) ⟨⟨b14, rfl, N16, K16t, (Nat.le_trans (Keep.refl h0 []).1 (Nat.le_of_eq hb14.symm)), (by unfold chars; rw [if_pos hc1_1]; exact ⟨Ei16, (fun c hc => by cases hc), by simp, b16, _, Fv16, Fc16, A16⟩)⟩, (Nat.le_refl T16.heap.size), C16c⟩
theorem ef_rmR (q1 : Addr) (m : MethodId) : entryFrame m #[.ref q1] 1 = mkF m 0 #[.val (.ref q1)] [] := by
  first | (simp [entryFrame, mkF, argsToLocals, Value.category]; done) | rfl
set_option maxRecDepth 65536 in
set_option maxHeartbeats 40000000 in
theorem rmR (l : Launch) (Z : State) (a0 : Array Value) (hw : ∀ d ∈ tables_1, d.before a0 Z = true) (ws : List Jvm.Cond) (q1 : Addr) (h0 : Heap) (n0 : Nat)  :
    Ctr l Z ({ cls := "java/lang/Record", name := "<init>", desc := "()V" } : Jvm.MethodName) jdk_30_method_1_code 1 none ws ({ frames := 1, cells := 0, slots := 0, locals := 12 } : Room) #[.ref q1] h0 (fun v h L => v = none ∧ Fr n0 L ∧ h = h0) := by
  refine Ctr.enter (Ls := #[.val (.ref q1)]) (by decide +kernel) (fun m => ef_rmR q1 m) ?_
  intro p e s m below meth c T hx hby hml hown hnm hret hlk hZ hh X0 e0
  have N0 := Fr.nil n0
  refine g_aloadN X0 hx hby d9_0 (pc' := 1) rfl rfl rfl ?_
  obtain ⟨T1, X1, e1, st1⟩ := initO X0 hx hZ hown (w_49 hw) (w_17 hw) (w_18 hw) e0 (g := (mkF m 1 #[.val (.ref q1)] [.ref q1])) rfl (by rw [hml]; rfl) rfl (hb hby d9_1) (by decide) (W := 0) (by show 2 * 0 + _ ≤ _; exact Nat.le_of_eq rfl) (by decide)
  refine GoE.pull (b := T1.setTop (mkF m 4 #[.val (.ref q1)] [])) ?_ st1
  exact g_retV (Q := (fun v h L => v = none ∧ Fr n0 L ∧ h = h0)) X1 hx hby d9_4 hret hlk (by decide) (by decide) ⟨rfl, N0, e1⟩
theorem ef_rmNN (q1 : Addr) (q2 : Addr) (m : MethodId) : entryFrame m #[.ref q1, .ref q2] 2 = mkF m 0 #[.val (.ref q1), .val (.ref q2)] [] := by
  first | (simp [entryFrame, mkF, argsToLocals, Value.category]; done) | rfl
set_option maxRecDepth 65536 in
set_option maxHeartbeats 40000000 in
theorem rmNN (l : Launch) (Z : State) (a0 : Array Value) (hw : ∀ d ∈ tables_1, d.before a0 Z = true) (ws : List Jvm.Cond) (q1 : Addr) (q2 : Addr) (h0 : Heap) (n0 : Nat)  :
    Ctr l Z ({ cls := "java/util/Objects", name := "requireNonNull", desc := "(Ljava/lang/Object;Ljava/lang/String;)Ljava/lang/Object;" } : Jvm.MethodName) jdk_31_method_11_code 2 (some (.object "java/lang/Object")) ws ({ frames := 0, cells := 0, slots := 0, locals := 0 } : Room) #[.ref q1, .ref q2] h0 (fun v h L => v = some (.ref q1) ∧ Fr n0 L ∧ h = h0) := by
  refine Ctr.enter (Ls := #[.val (.ref q1), .val (.ref q2)]) (by decide +kernel) (fun m => ef_rmNN q1 q2 m) ?_
  intro p e s m below meth c T hx hby hml hown hnm hret hlk hZ hh X0 e0
  have N0 := Fr.nil n0
  refine g_aloadN X0 hx hby d10_0 (pc' := 1) rfl rfl rfl ?_
  refine g_ifnonnull_yes X0 hx hby d10_1 (by decide) (pc' := 13) (by decide) ?_
  refine g_aloadN X0 hx hby d10_13 (pc' := 14) rfl rfl rfl ?_
  exact g_retA (Q := (fun v h L => v = some (.ref q1) ∧ Fr n0 L ∧ h = h0)) X0 hx hby d10_14 rfl hret rfl hlk (by decide) (by decide) ⟨rfl, N0, e0⟩
theorem ef_rmSD (q1 : Addr) (q2 : Addr) (q3 : Addr) (m : MethodId) : entryFrame m #[.ref q1, .ref q2, .ref q3] 3 = mkF m 0 #[.val (.ref q1), .val (.ref q2), .val (.ref q3)] [] := by
  first | (simp [entryFrame, mkF, argsToLocals, Value.category]; done) | rfl
theorem pn_rmSD : plainName "com/example/phaseline/phaseline/game/Side" = true := by first | (simp [plainName, overriddenIn]; done) | decide +kernel
set_option maxRecDepth 65536 in
set_option maxHeartbeats 40000000 in
theorem rmSD (l : Launch) (Z : State) (a0 : Array Value) (hw : ∀ d ∈ tables_1, d.before a0 Z = true) (ws : List Jvm.Cond) (q1 : Addr) (q2 : Addr) (q3 : Addr) (h0 : Heap) (n0 : Nat) (w0 w1 : Value) (Z0 : n0 ≤ h0.size) (E_a : Exa Z h0 q1 "com/example/phaseline/phaseline/game/Side") (F_id : Fld Z h0 q1 "com/example/phaseline/phaseline/game/Side" "id" "Ljava/lang/String;" (w0)) (F_name : Fld Z h0 q1 "com/example/phaseline/phaseline/game/Side" "name" "Ljava/lang/String;" (w1)) (g_a : n0 ≤ q1) (cs : Int32) (SS : SSt Z cs) (O0 : Old Z n0 h0) :
    CtrH ELs l Z ({ cls := "com/example/phaseline/phaseline/game/Side", name := "<init>", desc := "(Ljava/lang/String;Ljava/lang/String;)V" } : Jvm.MethodName) prog_21_method_1_code 3 none ws ({ frames := 2, cells := 4, slots := 32, locals := 24 } : Room) #[.ref q1, .ref q2, .ref q3] h0 (fun v h L => v = none ∧ Fr n0 L ∧ Keep h0 h [q1] ∧ Exa Z h q1 "com/example/phaseline/phaseline/game/Side" ∧ Fld Z h q1 "com/example/phaseline/phaseline/game/Side" "id" "Ljava/lang/String;" (.ref q2) ∧ Fld Z h q1 "com/example/phaseline/phaseline/game/Side" "name" "Ljava/lang/String;" (.ref q3)) := by
  refine CtrH.enter (Ls := #[.val (.ref q1), .val (.ref q2), .val (.ref q3)]) (plainFor_of_name pn_rmSD) (fun m => ef_rmSD q1 q2 q3 m) ?_
  intro p e s m below meth c T hx hby hml hown hnm hret hlk hZ hh X0 e0 hS0 C0h
  have N0 := Fr.nil n0
  have S0q : Safe Z ELs s.vm h0 q1 := Safe.exa hZ.alike E_a (by decide) (by decide)
  refine g_aloadN X0 hx hby d8_0 (pc' := 1) rfl rfl rfl ?_
  refine g_callI X0 hx hZ hown (W := 0) (argsL := []) (b := q1) (rest := []) hby d8_1 (pc' := 4) rfl (by rw [hml]; rfl) (w_44 hw) (w_45 hw) (w_47 hw) (w_48 hw) rfl (by decide) (rmR l Z a0 hw [] q1  h0 n0) e0 (by decide) (by decide) (by decide) (by decide) rfl pd__28_29V rfl rfl (Nat.le_of_eq rfl) ?_
  rintro _ T1 L1 X1 ⟨rfl, N1q, e1⟩
  have N1 := Fr.app N0 N1q
  show GoE p e below _ (T1.setTop (mkF m 4 #[.val (.ref q1), .val (.ref q2), .val (.ref q3)] []))
  refine g_aloadN X1 hx hby d8_4 (pc' := 5) rfl rfl rfl ?_
  refine g_ldcO X1 hx hZ hown 8 hby d8_5 (pc' := 7) rfl (w_50 hw) (own_str hw) e1 hS0 (Nat.le_refl h0.size) (own_EL hw) C0h.1 (by decide) (by decide) (by decide) (by decide) ?_
  intro b2 T2 k2 X2 E2 hS2 hk2 hZ2 hown2 C2h
  have sf2_q1 := C2h.safe E_a.lt S0q
  have C2c := C0h.trans C2h
  have O2o := O0.ext E2
  have Z2 := Nat.le_trans Z0 E2.1
  have E2_q1 := E_a.ext E2
  have K2 := (Keep.refl h0 [q1]).ext E2
  have F2_q1_id := F_id.ext E2
  have F2_q1_name := F_name.ext E2
  have Y2 := Nat.le_trans (Nat.le_refl h0.size) E2.1
  refine g_callS X2 hx hZ2 hown2 (W := 0) (argsL := [.ref q2, .ref b2]) (rest := []) hby d8_7 (pc' := 10) rfl (by rw [hml]; rfl) (w_51 hw) (w_52 hw) (w_53 hw) (w_54 hw) (by decide) (rmNN l Z a0 hw [] q2 b2 T2.heap n0) rfl (by decide) (by decide) (by decide) (by decide) rfl pd__28Ljava_2flang_2fObject_3bLjava_2flang_2fString_3b_29Ljava_2flang_2fObject_3b rfl rfl (Nat.le_of_eq rfl) ?_
  rintro _ T3 L3 X3 ⟨rfl, N3q, e3⟩
  have N3 := Fr.app N1 N3q
  show GoE p e below _ (T3.setTop (mkF m 10 #[.val (.ref q1), .val (.ref q2), .val (.ref q3)] [.ref q2]))
  refine g_pop X3 hx hby d8_10 (pc' := 11) rfl rfl ?_
  refine g_aloadN X3 hx hby d8_11 (pc' := 12) rfl rfl rfl ?_
  refine g_ldcO X3 hx hZ2 hown2 16 hby d8_12 (pc' := 14) rfl (w_55 hw) (own_str hw) e3 hS2 hk2 (own_EL hw) C2c.1 (by decide) (by decide) (by decide) (by decide) ?_
  intro b4 T4 k4 X4 E4 hS4 hk4 hZ4 hown4 C4h
  have sf4_q1 := C4h.safe E2_q1.lt sf2_q1
  have C4c := C2c.trans C4h
  have O4o := O2o.ext E4
  have Z4 := Nat.le_trans Z2 E4.1
  have E4_q1 := E2_q1.ext E4
  have K4 := K2.ext E4
  have F4_q1_id := F2_q1_id.ext E4
  have F4_q1_name := F2_q1_name.ext E4
  have Y4 := Nat.le_trans hk2 E4.1
  refine g_callS X4 hx hZ4 hown4 (W := 0) (argsL := [.ref q3, .ref b4]) (rest := []) hby d8_14 (pc' := 17) rfl (by rw [hml]; rfl) (w_51 hw) (w_52 hw) (w_53 hw) (w_54 hw) (by decide) (rmNN l Z a0 hw [] q3 b4 T4.heap n0) rfl (by decide) (by decide) (by decide) (by decide) rfl pd__28Ljava_2flang_2fObject_3bLjava_2flang_2fString_3b_29Ljava_2flang_2fObject_3b rfl rfl (Nat.le_of_eq rfl) ?_
  rintro _ T5 L5 X5 ⟨rfl, N5q, e5⟩
  have N5 := Fr.app N3 N5q
  show GoE p e below _ (T5.setTop (mkF m 17 #[.val (.ref q1), .val (.ref q2), .val (.ref q3)] [.ref q3]))
  refine g_pop X5 hx hby d8_17 (pc' := 18) rfl rfl ?_
  refine g_aloadN X5 hx hby d8_18 (pc' := 19) rfl rfl rfl ?_
  refine g_aloadN X5 hx hby d8_19 (pc' := 20) rfl rfl rfl ?_
  refine g_put X5 hx hZ4 hown4 hby d8_20 (pc' := 23) rfl (w_56 hw) e5 F4_q1_id E4_q1 (Or.inr ⟨(w_57 hw), rfl, hnm⟩) (w_39 hw) (ty := (.object "java/lang/String")) (by decide) rfl rfl ?_
  intro T6 X6 W6
  have N6 := Fr.snoc X6 N5 g_a
  have sf6_q1 := Safe.wr W6 sf4_q1 C4c.1 sf4_q1
  have C6c := C4c.trans (CHr.wr W6 sf4_q1 C4c.1)
  have O6 := O4o.wr W6 g_a
  have Z6 : n0 ≤ T6.heap.size := (W6.size ▸ Z4)
  have E6_q1 := E4_q1.wr W6
  have K6 := K4.wr W6 (Or.inl (List.mem_of_getElem? (i := 0) rfl))
  have F6_q1_id := F4_q1_id.same W6
  have F6_q1_name := F4_q1_name.other W6 (Or.inr (slot_ne (Or.inr (w_59 hw)) (Or.inr (w_57 hw)) (by decide) (t := (.object "java/lang/String")) (t' := (.object "java/lang/String")) (by decide) (by decide)))
  have Y6 := Nat.le_trans hk4 (Nat.le_of_eq W6.size.symm)
  refine g_aloadN X6 hx hby d8_23 (pc' := 24) rfl rfl rfl ?_
  refine g_aloadN X6 hx hby d8_24 (pc' := 25) rfl rfl rfl ?_
  refine g_put X6 hx hZ4 hown4 hby d8_25 (pc' := 28) rfl (w_58 hw) rfl F6_q1_name E6_q1 (Or.inr ⟨(w_59 hw), rfl, hnm⟩) (w_39 hw) (ty := (.object "java/lang/String")) (by decide) rfl rfl ?_
  intro T7 X7 W7
  have N7 := Fr.snoc X7 N6 g_a
  have sf7_q1 := Safe.wr W7 sf6_q1 C6c.1 sf6_q1
  have C7c := C6c.trans (CHr.wr W7 sf6_q1 C6c.1)
  have O7 := O6.wr W7 g_a
  have Z7 : n0 ≤ T7.heap.size := (W7.size ▸ Z6)
  have E7_q1 := E6_q1.wr W7
  have K7 := K6.wr W7 (Or.inl (List.mem_of_getElem? (i := 0) rfl))
  have F7_q1_id := F6_q1_id.other W7 (Or.inr (slot_ne (Or.inr (w_57 hw)) (Or.inr (w_59 hw)) (by decide) (t := (.object "java/lang/String")) (t' := (.object "java/lang/String")) (by decide) (by decide)))
  have F7_q1_name := F6_q1_name.same W7
  have Y7 := Nat.le_trans Y6 (Nat.le_of_eq W7.size.symm)
  refine GoH.of_go (a0 := a0) (fun v h L => v = none ∧ Fr n0 L ∧ Keep h0 h [q1] ∧ Exa Z h q1 "com/example/phaseline/phaseline/game/Side" ∧ Fld Z h q1 "com/example/phaseline/phaseline/game/Side" "id" "Ljava/lang/String;" (.ref q2) ∧ Fld Z h q1 "com/example/phaseline/phaseline/game/Side" "name" "Ljava/lang/String;" (.ref q3)) hS4 hZ4 (own_EL hw) ?_
  exact g_retV (Q := _) X7 hx hby d8_28 hret hlk (by decide) (by decide) ⟨⟨rfl, N7, K7, E7_q1, F7_q1_id, F7_q1_name⟩, Y7, C7c⟩
theorem ef_rmSA (q1 : Int32) (q2 : Int32) (q3 : Int32) (q4 : Int32) (m : MethodId) : entryFrame m #[.int q1, .int q2, .int q3, .int q4] 4 = mkF m 0 #[.val (.int q1), .val (.int q2), .val (.int q3), .val (.int q4)] [] := by
  first | (simp [entryFrame, mkF, argsToLocals, Value.category]; done) | rfl
theorem pn_rmSA : plainName "com/example/phaseline/phaseline/game/SideEqualsPinLaw" = true := by first | (simp [plainName, overriddenIn]; done) | decide +kernel
set_option maxRecDepth 65536 in
set_option maxHeartbeats 40000000 in
theorem rmSA (l : Launch) (Z : State) (a0 : Array Value) (hw : ∀ d ∈ tables_1, d.before a0 Z = true) (ws : List Jvm.Cond) (q1 : Int32) (q2 : Int32) (q3 : Int32) (q4 : Int32) (h0 : Heap) (n0 : Nat)  :
    Ctr l Z ({ cls := "com/example/phaseline/phaseline/game/SideEqualsPinLaw", name := "same", desc := "(IIII)Z" } : Jvm.MethodName) method_3_code 4 (some .boolean) ws ({ frames := 0, cells := 0, slots := 0, locals := 0 } : Room) #[.int q1, .int q2, .int q3, .int q4] h0 (fun v h L => v = some (.int (sameV q1 q2 q3 q4)) ∧ Fr n0 L ∧ h = h0) := by
  refine Ctr.enter (Ls := #[.val (.int q1), .val (.int q2), .val (.int q3), .val (.int q4)]) (plainFor_of_name pn_rmSA) (fun m => ef_rmSA q1 q2 q3 q4 m) ?_
  intro p e s m below meth c T hx hby hml hown hnm hret hlk hZ hh X0 e0
  have N0 := Fr.nil n0
  refine g_iloadN X0 hx hby d11_0 (pc' := 1) rfl rfl ?_
  refine g_iloadN X0 hx hby d11_1 (pc' := 2) rfl rfl ?_
  refine g_icmp_eq X0 hx hby d11_2 (by decide) (pc' := 7) (by decide) (pn := 5) rfl (fun hc2_1 => ?_) (fun hc2_1 => ?_)
  · refine g_iloadN X0 hx hby d11_7 (pc' := 8) rfl rfl ?_
    refine g_iconst X0 hx hby d11_8 (pc' := 9) rfl (z := (1 : Int32)) rfl ?_
    refine g_icmp_lt X0 hx hby d11_9 (by decide) (pc' := 27) (by decide) (pn := 12) rfl (fun hc9_2 => ?_) (fun hc9_2 => ?_)
    · refine g_iloadN X0 hx hby d11_27 (pc' := 28) rfl rfl ?_
      refine g_iconst X0 hx hby d11_28 (pc' := 29) rfl (z := (2 : Int32)) rfl ?_
      refine g_icmp_lt X0 hx hby d11_29 (by decide) (pc' := 53) (by decide) (pn := 32) rfl (fun hc29_3 => ?_) (fun hc29_3 => ?_)
      · refine g_iconst X0 hx hby d11_53 (pc' := 54) rfl (z := (1 : Int32)) rfl ?_
        exact g_retN (Q := (fun v h L => v = some (.int (sameV q1 q2 q3 q4)) ∧ Fr n0 L ∧ h = h0)) (w := (1 : Int32)) X0 hx hby d11_54 hret (by simp) (by first | decide | rfl) hlk (by decide) (by decide) ⟨congrArg (fun z : Int32 => some (Value.int z)) (by unfold sameV tS; rw [if_pos hc2_1, if_pos hc9_2, if_pos hc29_3]), N0, e0⟩
      · refine g_iloadN X0 hx hby d11_32 (pc' := 33) rfl rfl ?_
        refine g_bipush X0 hx hby d11_33 (pc' := 35) rfl (z := (8 : Int32)) rfl ?_
        refine g_iushr X0 hx hby d11_35 (pc' := 36) rfl ?_
        refine g_sipush X0 hx hby d11_36 (pc' := 39) rfl (z := (255 : Int32)) rfl ?_
        refine g_iand X0 hx hby d11_39 (pc' := 40) rfl ?_
        refine g_iloadN X0 hx hby d11_40 (pc' := 41) rfl rfl ?_
        refine g_bipush X0 hx hby d11_41 (pc' := 43) rfl (z := (8 : Int32)) rfl ?_
        refine g_iushr X0 hx hby d11_43 (pc' := 44) rfl ?_
        refine g_sipush X0 hx hby d11_44 (pc' := 47) rfl (z := (255 : Int32)) rfl ?_
        refine g_iand X0 hx hby d11_47 (pc' := 48) rfl ?_
        refine g_icmp_eq X0 hx hby d11_48 (by decide) (pc' := 53) (by decide) (pn := 51) rfl (fun hc48_4 => ?_) (fun hc48_4 => ?_)
        · refine g_iconst X0 hx hby d11_53 (pc' := 54) rfl (z := (1 : Int32)) rfl ?_
          exact g_retN (Q := (fun v h L => v = some (.int (sameV q1 q2 q3 q4)) ∧ Fr n0 L ∧ h = h0)) (w := (1 : Int32)) X0 hx hby d11_54 hret (by simp) (by first | decide | rfl) hlk (by decide) (by decide) ⟨congrArg (fun z : Int32 => some (Value.int z)) (by unfold sameV tS; rw [if_pos hc2_1, if_pos hc9_2, if_neg hc29_3, if_pos hc48_4]), N0, e0⟩
        · refine g_iconst X0 hx hby d11_51 (pc' := 52) rfl (z := (0 : Int32)) rfl ?_
          exact g_retN (Q := (fun v h L => v = some (.int (sameV q1 q2 q3 q4)) ∧ Fr n0 L ∧ h = h0)) (w := (0 : Int32)) X0 hx hby d11_52 hret (by simp) (by first | decide | rfl) hlk (by decide) (by decide) ⟨congrArg (fun z : Int32 => some (Value.int z)) (by unfold sameV tS; rw [if_pos hc2_1, if_pos hc9_2, if_neg hc29_3, if_neg hc48_4]), N0, e0⟩
    · refine g_iloadN X0 hx hby d11_12 (pc' := 13) rfl rfl ?_
      refine g_sipush X0 hx hby d11_13 (pc' := 16) rfl (z := (255 : Int32)) rfl ?_
      refine g_iand X0 hx hby d11_16 (pc' := 17) rfl ?_
      refine g_iloadN X0 hx hby d11_17 (pc' := 18) rfl rfl ?_
      refine g_sipush X0 hx hby d11_18 (pc' := 21) rfl (z := (255 : Int32)) rfl ?_
      refine g_iand X0 hx hby d11_21 (pc' := 22) rfl ?_
      refine g_icmp_eq X0 hx hby d11_22 (by decide) (pc' := 27) (by decide) (pn := 25) rfl (fun hc22_5 => ?_) (fun hc22_5 => ?_)
      · refine g_iloadN X0 hx hby d11_27 (pc' := 28) rfl rfl ?_
        refine g_iconst X0 hx hby d11_28 (pc' := 29) rfl (z := (2 : Int32)) rfl ?_
        refine g_icmp_lt X0 hx hby d11_29 (by decide) (pc' := 53) (by decide) (pn := 32) rfl (fun hc29_6 => ?_) (fun hc29_6 => ?_)
        · refine g_iconst X0 hx hby d11_53 (pc' := 54) rfl (z := (1 : Int32)) rfl ?_
          exact g_retN (Q := (fun v h L => v = some (.int (sameV q1 q2 q3 q4)) ∧ Fr n0 L ∧ h = h0)) (w := (1 : Int32)) X0 hx hby d11_54 hret (by simp) (by first | decide | rfl) hlk (by decide) (by decide) ⟨congrArg (fun z : Int32 => some (Value.int z)) (by unfold sameV tS; rw [if_pos hc2_1, if_neg hc9_2, if_pos hc22_5, if_pos hc29_6]), N0, e0⟩
        · refine g_iloadN X0 hx hby d11_32 (pc' := 33) rfl rfl ?_
          refine g_bipush X0 hx hby d11_33 (pc' := 35) rfl (z := (8 : Int32)) rfl ?_
          refine g_iushr X0 hx hby d11_35 (pc' := 36) rfl ?_
          refine g_sipush X0 hx hby d11_36 (pc' := 39) rfl (z := (255 : Int32)) rfl ?_
          refine g_iand X0 hx hby d11_39 (pc' := 40) rfl ?_
          refine g_iloadN X0 hx hby d11_40 (pc' := 41) rfl rfl ?_
          refine g_bipush X0 hx hby d11_41 (pc' := 43) rfl (z := (8 : Int32)) rfl ?_
          refine g_iushr X0 hx hby d11_43 (pc' := 44) rfl ?_
          refine g_sipush X0 hx hby d11_44 (pc' := 47) rfl (z := (255 : Int32)) rfl ?_
          refine g_iand X0 hx hby d11_47 (pc' := 48) rfl ?_
          refine g_icmp_eq X0 hx hby d11_48 (by decide) (pc' := 53) (by decide) (pn := 51) rfl (fun hc48_7 => ?_) (fun hc48_7 => ?_)
          · refine g_iconst X0 hx hby d11_53 (pc' := 54) rfl (z := (1 : Int32)) rfl ?_
            exact g_retN (Q := (fun v h L => v = some (.int (sameV q1 q2 q3 q4)) ∧ Fr n0 L ∧ h = h0)) (w := (1 : Int32)) X0 hx hby d11_54 hret (by simp) (by first | decide | rfl) hlk (by decide) (by decide) ⟨congrArg (fun z : Int32 => some (Value.int z)) (by unfold sameV tS; rw [if_pos hc2_1, if_neg hc9_2, if_pos hc22_5, if_neg hc29_6, if_pos hc48_7]), N0, e0⟩
          · refine g_iconst X0 hx hby d11_51 (pc' := 52) rfl (z := (0 : Int32)) rfl ?_
            exact g_retN (Q := (fun v h L => v = some (.int (sameV q1 q2 q3 q4)) ∧ Fr n0 L ∧ h = h0)) (w := (0 : Int32)) X0 hx hby d11_52 hret (by simp) (by first | decide | rfl) hlk (by decide) (by decide) ⟨congrArg (fun z : Int32 => some (Value.int z)) (by unfold sameV tS; rw [if_pos hc2_1, if_neg hc9_2, if_pos hc22_5, if_neg hc29_6, if_neg hc48_7]), N0, e0⟩
      · refine g_iconst X0 hx hby d11_25 (pc' := 26) rfl (z := (0 : Int32)) rfl ?_
        exact g_retN (Q := (fun v h L => v = some (.int (sameV q1 q2 q3 q4)) ∧ Fr n0 L ∧ h = h0)) (w := (0 : Int32)) X0 hx hby d11_26 hret (by simp) (by first | decide | rfl) hlk (by decide) (by decide) ⟨congrArg (fun z : Int32 => some (Value.int z)) (by unfold sameV tS; rw [if_pos hc2_1, if_neg hc9_2, if_neg hc22_5]), N0, e0⟩
  · refine g_iconst X0 hx hby d11_5 (pc' := 6) rfl (z := (0 : Int32)) rfl ?_
    exact g_retN (Q := (fun v h L => v = some (.int (sameV q1 q2 q3 q4)) ∧ Fr n0 L ∧ h = h0)) (w := (0 : Int32)) X0 hx hby d11_6 hret (by simp) (by first | decide | rfl) hlk (by decide) (by decide) ⟨congrArg (fun z : Int32 => some (Value.int z)) (by unfold sameV tS; rw [if_neg hc2_1]), N0, e0⟩
theorem ef_rmLE00 (q1 : Addr) (q2 : Addr) (m : MethodId) : entryFrame m #[.ref q1, .ref q2] 3 = mkF m 0 #[.val (.ref q1), .val (.ref q2), .unset] [] := by
  first | (simp [entryFrame, mkF, argsToLocals, Value.category]; done) | rfl
set_option maxRecDepth 65536 in
set_option maxHeartbeats 40000000 in
theorem rmLE00 (l : Launch) (Z : State) (a0 : Array Value) (hw : ∀ d ∈ tables_1, d.before a0 Z = true) (ws : List Jvm.Cond) (q1 : Addr) (q2 : Addr) (h0 : Heap) (n0 : Nat) (k1 k2 : ClassId) (A_1 : Arv Z h0 q1 k1 .byte (0 : Int32) [] (.int 0)) (A_2 : Arv Z h0 q2 k2 .byte (0 : Int32) [] (.int 0)) :
    Ctr l Z ({ cls := "java/lang/StringLatin1", name := "equals", desc := "([B[B)Z" } : Jvm.MethodName) jdk_43_method_13_code 3 (some .boolean) ws ({ frames := 0, cells := 0, slots := 0, locals := 0 } : Room) #[.ref q1, .ref q2] h0 (fun v h L => v = some (.int (1 : Int32)) ∧ Fr n0 L ∧ h = h0) := by
  refine Ctr.enter (Ls := #[.val (.ref q1), .val (.ref q2), .unset]) (by decide +kernel) (fun m => ef_rmLE00 q1 q2 m) ?_
  intro p e s m below meth c T hx hby hml hown hnm hret hlk hZ hh X0 e0
  have N0 := Fr.nil n0
  refine g_aloadN X0 hx hby d14_0 (pc' := 1) rfl rfl rfl ?_
  refine g_alen X0 hx hZ hby d14_1 (pc' := 2) rfl e0 A_1 ?_
  refine g_aloadN X0 hx hby d14_2 (pc' := 3) rfl rfl rfl ?_
  refine g_alen X0 hx hZ hby d14_3 (pc' := 4) rfl e0 A_2 ?_
  refine g_icmp_ne X0 hx hby d14_4 (by decide) (pc' := 34) (by decide) (pn := 7) rfl (fun z => absurd z (by decide)) (fun _ => ?_)
  refine g_iconst X0 hx hby d14_7 (pc' := 8) rfl (z := (0 : Int32)) rfl ?_
  refine g_istoreN X0 hx hby d14_8 (pc' := 9) rfl (l' := #[.val (.ref q1), .val (.ref q2), .val (.int (0 : Int32))]) rfl ?_
  refine g_iloadN X0 hx hby d14_9 (pc' := 10) rfl rfl ?_
  refine g_aloadN X0 hx hby d14_10 (pc' := 11) rfl rfl rfl ?_
  refine g_alen X0 hx hZ hby d14_11 (pc' := 12) rfl e0 A_1 ?_
  refine g_icmp_ge X0 hx hby d14_12 (by decide) (pc' := 32) (by decide) (pn := 15) rfl (fun _ => ?_) (fun z => absurd z (by decide))
  refine g_iconst X0 hx hby d14_32 (pc' := 33) rfl (z := (1 : Int32)) rfl ?_
  exact g_retN (Q := (fun v h L => v = some (.int (1 : Int32)) ∧ Fr n0 L ∧ h = h0)) (w := (1 : Int32)) X0 hx hby d14_33 hret (by simp) (by first | decide | rfl) hlk (by decide) (by decide) ⟨rfl, N0, e0⟩
theorem ef_rmLE01 (q1 : Addr) (q2 : Addr) (m : MethodId) : entryFrame m #[.ref q1, .ref q2] 3 = mkF m 0 #[.val (.ref q1), .val (.ref q2), .unset] [] := by
  first | (simp [entryFrame, mkF, argsToLocals, Value.category]; done) | rfl
set_option maxRecDepth 65536 in
set_option maxHeartbeats 40000000 in
theorem rmLE01 (l : Launch) (Z : State) (a0 : Array Value) (hw : ∀ d ∈ tables_1, d.before a0 Z = true) (ws : List Jvm.Cond) (q1 : Addr) (q2 : Addr) (h0 : Heap) (n0 : Nat) (y0 : Int32) (k1 k2 : ClassId) (A_1 : Arv Z h0 q1 k1 .byte (0 : Int32) [] (.int 0)) (A_2 : Arv Z h0 q2 k2 .byte (1 : Int32) [.int (lat y0)] (.int 0)) :
    Ctr l Z ({ cls := "java/lang/StringLatin1", name := "equals", desc := "([B[B)Z" } : Jvm.MethodName) jdk_43_method_13_code 3 (some .boolean) ws ({ frames := 0, cells := 0, slots := 0, locals := 0 } : Room) #[.ref q1, .ref q2] h0 (fun v h L => v = some (.int (0 : Int32)) ∧ Fr n0 L ∧ h = h0) := by
  refine Ctr.enter (Ls := #[.val (.ref q1), .val (.ref q2), .unset]) (by decide +kernel) (fun m => ef_rmLE01 q1 q2 m) ?_
  intro p e s m below meth c T hx hby hml hown hnm hret hlk hZ hh X0 e0
  have N0 := Fr.nil n0
  refine g_aloadN X0 hx hby d14_0 (pc' := 1) rfl rfl rfl ?_
  refine g_alen X0 hx hZ hby d14_1 (pc' := 2) rfl e0 A_1 ?_
  refine g_aloadN X0 hx hby d14_2 (pc' := 3) rfl rfl rfl ?_
  refine g_alen X0 hx hZ hby d14_3 (pc' := 4) rfl e0 A_2 ?_
  refine g_icmp_ne X0 hx hby d14_4 (by decide) (pc' := 34) (by decide) (pn := 7) rfl (fun _ => ?_) (fun z => absurd z (by decide))
  refine g_iconst X0 hx hby d14_34 (pc' := 35) rfl (z := (0 : Int32)) rfl ?_
  exact g_retN (Q := (fun v h L => v = some (.int (0 : Int32)) ∧ Fr n0 L ∧ h = h0)) (w := (0 : Int32)) X0 hx hby d14_35 hret (by simp) (by first | decide | rfl) hlk (by decide) (by decide) ⟨rfl, N0, e0⟩
theorem ef_rmLE02 (q1 : Addr) (q2 : Addr) (m : MethodId) : entryFrame m #[.ref q1, .ref q2] 3 = mkF m 0 #[.val (.ref q1), .val (.ref q2), .unset] [] := by
  first | (simp [entryFrame, mkF, argsToLocals, Value.category]; done) | rfl
set_option maxRecDepth 65536 in
set_option maxHeartbeats 40000000 in
theorem rmLE02 (l : Launch) (Z : State) (a0 : Array Value) (hw : ∀ d ∈ tables_1, d.before a0 Z = true) (ws : List Jvm.Cond) (q1 : Addr) (q2 : Addr) (h0 : Heap) (n0 : Nat) (y0 y1 : Int32) (k1 k2 : ClassId) (A_1 : Arv Z h0 q1 k1 .byte (0 : Int32) [] (.int 0)) (A_2 : Arv Z h0 q2 k2 .byte (2 : Int32) [.int (lat y0), .int (lat y1)] (.int 0)) :
    Ctr l Z ({ cls := "java/lang/StringLatin1", name := "equals", desc := "([B[B)Z" } : Jvm.MethodName) jdk_43_method_13_code 3 (some .boolean) ws ({ frames := 0, cells := 0, slots := 0, locals := 0 } : Room) #[.ref q1, .ref q2] h0 (fun v h L => v = some (.int (0 : Int32)) ∧ Fr n0 L ∧ h = h0) := by
  refine Ctr.enter (Ls := #[.val (.ref q1), .val (.ref q2), .unset]) (by decide +kernel) (fun m => ef_rmLE02 q1 q2 m) ?_
  intro p e s m below meth c T hx hby hml hown hnm hret hlk hZ hh X0 e0
  have N0 := Fr.nil n0
  refine g_aloadN X0 hx hby d14_0 (pc' := 1) rfl rfl rfl ?_
  refine g_alen X0 hx hZ hby d14_1 (pc' := 2) rfl e0 A_1 ?_
  refine g_aloadN X0 hx hby d14_2 (pc' := 3) rfl rfl rfl ?_
  refine g_alen X0 hx hZ hby d14_3 (pc' := 4) rfl e0 A_2 ?_
  refine g_icmp_ne X0 hx hby d14_4 (by decide) (pc' := 34) (by decide) (pn := 7) rfl (fun _ => ?_) (fun z => absurd z (by decide))
  refine g_iconst X0 hx hby d14_34 (pc' := 35) rfl (z := (0 : Int32)) rfl ?_
  exact g_retN (Q := (fun v h L => v = some (.int (0 : Int32)) ∧ Fr n0 L ∧ h = h0)) (w := (0 : Int32)) X0 hx hby d14_35 hret (by simp) (by first | decide | rfl) hlk (by decide) (by decide) ⟨rfl, N0, e0⟩
theorem ef_rmLE10 (q1 : Addr) (q2 : Addr) (m : MethodId) : entryFrame m #[.ref q1, .ref q2] 3 = mkF m 0 #[.val (.ref q1), .val (.ref q2), .unset] [] := by
  first | (simp [entryFrame, mkF, argsToLocals, Value.category]; done) | rfl
set_option maxRecDepth 65536 in
set_option maxHeartbeats 40000000 in
theorem rmLE10 (l : Launch) (Z : State) (a0 : Array Value) (hw : ∀ d ∈ tables_1, d.before a0 Z = true) (ws : List Jvm.Cond) (q1 : Addr) (q2 : Addr) (h0 : Heap) (n0 : Nat) (x0 : Int32) (k1 k2 : ClassId) (A_1 : Arv Z h0 q1 k1 .byte (1 : Int32) [.int (lat x0)] (.int 0)) (A_2 : Arv Z h0 q2 k2 .byte (0 : Int32) [] (.int 0)) :
    Ctr l Z ({ cls := "java/lang/StringLatin1", name := "equals", desc := "([B[B)Z" } : Jvm.MethodName) jdk_43_method_13_code 3 (some .boolean) ws ({ frames := 0, cells := 0, slots := 0, locals := 0 } : Room) #[.ref q1, .ref q2] h0 (fun v h L => v = some (.int (0 : Int32)) ∧ Fr n0 L ∧ h = h0) := by
  refine Ctr.enter (Ls := #[.val (.ref q1), .val (.ref q2), .unset]) (by decide +kernel) (fun m => ef_rmLE10 q1 q2 m) ?_
  intro p e s m below meth c T hx hby hml hown hnm hret hlk hZ hh X0 e0
  have N0 := Fr.nil n0
  refine g_aloadN X0 hx hby d14_0 (pc' := 1) rfl rfl rfl ?_
  refine g_alen X0 hx hZ hby d14_1 (pc' := 2) rfl e0 A_1 ?_
  refine g_aloadN X0 hx hby d14_2 (pc' := 3) rfl rfl rfl ?_
  refine g_alen X0 hx hZ hby d14_3 (pc' := 4) rfl e0 A_2 ?_
  refine g_icmp_ne X0 hx hby d14_4 (by decide) (pc' := 34) (by decide) (pn := 7) rfl (fun _ => ?_) (fun z => absurd z (by decide))
  refine g_iconst X0 hx hby d14_34 (pc' := 35) rfl (z := (0 : Int32)) rfl ?_
  exact g_retN (Q := (fun v h L => v = some (.int (0 : Int32)) ∧ Fr n0 L ∧ h = h0)) (w := (0 : Int32)) X0 hx hby d14_35 hret (by simp) (by first | decide | rfl) hlk (by decide) (by decide) ⟨rfl, N0, e0⟩
theorem ef_rmLE11 (q1 : Addr) (q2 : Addr) (m : MethodId) : entryFrame m #[.ref q1, .ref q2] 3 = mkF m 0 #[.val (.ref q1), .val (.ref q2), .unset] [] := by
  first | (simp [entryFrame, mkF, argsToLocals, Value.category]; done) | rfl
set_option maxRecDepth 65536 in
set_option maxHeartbeats 40000000 in
theorem rmLE11 (l : Launch) (Z : State) (a0 : Array Value) (hw : ∀ d ∈ tables_1, d.before a0 Z = true) (ws : List Jvm.Cond) (q1 : Addr) (q2 : Addr) (h0 : Heap) (n0 : Nat) (x0 : Int32) (y0 : Int32) (k1 k2 : ClassId) (A_1 : Arv Z h0 q1 k1 .byte (1 : Int32) [.int (lat x0)] (.int 0)) (A_2 : Arv Z h0 q2 k2 .byte (1 : Int32) [.int (lat y0)] (.int 0)) :
    Ctr l Z ({ cls := "java/lang/StringLatin1", name := "equals", desc := "([B[B)Z" } : Jvm.MethodName) jdk_43_method_13_code 3 (some .boolean) ws ({ frames := 0, cells := 0, slots := 0, locals := 0 } : Room) #[.ref q1, .ref q2] h0 (fun v h L => v = some (.int (e1V x0 y0)) ∧ Fr n0 L ∧ h = h0) := by
  refine Ctr.enter (Ls := #[.val (.ref q1), .val (.ref q2), .unset]) (by decide +kernel) (fun m => ef_rmLE11 q1 q2 m) ?_
  intro p e s m below meth c T hx hby hml hown hnm hret hlk hZ hh X0 e0
  have N0 := Fr.nil n0
  refine g_aloadN X0 hx hby d14_0 (pc' := 1) rfl rfl rfl ?_
  refine g_alen X0 hx hZ hby d14_1 (pc' := 2) rfl e0 A_1 ?_
  refine g_aloadN X0 hx hby d14_2 (pc' := 3) rfl rfl rfl ?_
  refine g_alen X0 hx hZ hby d14_3 (pc' := 4) rfl e0 A_2 ?_
  refine g_icmp_ne X0 hx hby d14_4 (by decide) (pc' := 34) (by decide) (pn := 7) rfl (fun z => absurd z (by decide)) (fun _ => ?_)
  refine g_iconst X0 hx hby d14_7 (pc' := 8) rfl (z := (0 : Int32)) rfl ?_
  refine g_istoreN X0 hx hby d14_8 (pc' := 9) rfl (l' := #[.val (.ref q1), .val (.ref q2), .val (.int (0 : Int32))]) rfl ?_
  refine g_iloadN X0 hx hby d14_9 (pc' := 10) rfl rfl ?_
  refine g_aloadN X0 hx hby d14_10 (pc' := 11) rfl rfl rfl ?_
  refine g_alen X0 hx hZ hby d14_11 (pc' := 12) rfl e0 A_1 ?_
  refine g_icmp_ge X0 hx hby d14_12 (by decide) (pc' := 32) (by decide) (pn := 15) rfl (fun z => absurd z (by decide)) (fun _ => ?_)
  refine g_aloadN X0 hx hby d14_15 (pc' := 16) rfl rfl rfl ?_
  refine g_iloadN X0 hx hby d14_16 (pc' := 17) rfl rfl ?_
  refine g_baload X0 hx hZ hby d14_17 (pc' := 18) rfl e0 A_1 (by decide) (v := .int (lat x0)) rfl ?_
  refine g_aloadN X0 hx hby d14_18 (pc' := 19) rfl rfl rfl ?_
  refine g_iloadN X0 hx hby d14_19 (pc' := 20) rfl rfl ?_
  refine g_baload X0 hx hZ hby d14_20 (pc' := 21) rfl e0 A_2 (by decide) (v := .int (lat y0)) rfl ?_
  refine g_icmp_eq X0 hx hby d14_21 (by decide) (pc' := 26) (by decide) (pn := 24) rfl (fun hc21_1 => ?_) (fun hc21_1 => ?_)
  · refine g_iinc X0 hx hby d14_26 (pc' := 29) rfl rfl (l' := #[.val (.ref q1), .val (.ref q2), .val (.int (1 : Int32))]) rfl ?_
    refine g_goto X0 hx hby d14_29 (by decide) (pc' := 9) (by decide) ?_
    refine g_iloadN X0 hx hby d14_9 (pc' := 10) rfl rfl ?_
    refine g_aloadN X0 hx hby d14_10 (pc' := 11) rfl rfl rfl ?_
    refine g_alen X0 hx hZ hby d14_11 (pc' := 12) rfl e0 A_1 ?_
    refine g_icmp_ge X0 hx hby d14_12 (by decide) (pc' := 32) (by decide) (pn := 15) rfl (fun _ => ?_) (fun z => absurd z (by decide))
    refine g_iconst X0 hx hby d14_32 (pc' := 33) rfl (z := (1 : Int32)) rfl ?_
    exact g_retN (Q := (fun v h L => v = some (.int (e1V x0 y0)) ∧ Fr n0 L ∧ h = h0)) (w := (1 : Int32)) X0 hx hby d14_33 hret (by simp) (by first | decide | rfl) hlk (by decide) (by decide) ⟨congrArg (fun z : Int32 => some (Value.int z)) (by simp only [e1V, e2V, hc21_1, if_true, if_false, ↓reduceIte]), N0, e0⟩
  · refine g_iconst X0 hx hby d14_24 (pc' := 25) rfl (z := (0 : Int32)) rfl ?_
    exact g_retN (Q := (fun v h L => v = some (.int (e1V x0 y0)) ∧ Fr n0 L ∧ h = h0)) (w := (0 : Int32)) X0 hx hby d14_25 hret (by simp) (by first | decide | rfl) hlk (by decide) (by decide) ⟨congrArg (fun z : Int32 => some (Value.int z)) (by simp only [e1V, e2V, hc21_1, if_true, if_false, ↓reduceIte]), N0, e0⟩
theorem ef_rmLE12 (q1 : Addr) (q2 : Addr) (m : MethodId) : entryFrame m #[.ref q1, .ref q2] 3 = mkF m 0 #[.val (.ref q1), .val (.ref q2), .unset] [] := by
  first | (simp [entryFrame, mkF, argsToLocals, Value.category]; done) | rfl
set_option maxRecDepth 65536 in
set_option maxHeartbeats 40000000 in
theorem rmLE12 (l : Launch) (Z : State) (a0 : Array Value) (hw : ∀ d ∈ tables_1, d.before a0 Z = true) (ws : List Jvm.Cond) (q1 : Addr) (q2 : Addr) (h0 : Heap) (n0 : Nat) (x0 : Int32) (y0 y1 : Int32) (k1 k2 : ClassId) (A_1 : Arv Z h0 q1 k1 .byte (1 : Int32) [.int (lat x0)] (.int 0)) (A_2 : Arv Z h0 q2 k2 .byte (2 : Int32) [.int (lat y0), .int (lat y1)] (.int 0)) :
    Ctr l Z ({ cls := "java/lang/StringLatin1", name := "equals", desc := "([B[B)Z" } : Jvm.MethodName) jdk_43_method_13_code 3 (some .boolean) ws ({ frames := 0, cells := 0, slots := 0, locals := 0 } : Room) #[.ref q1, .ref q2] h0 (fun v h L => v = some (.int (0 : Int32)) ∧ Fr n0 L ∧ h = h0) := by
  refine Ctr.enter (Ls := #[.val (.ref q1), .val (.ref q2), .unset]) (by decide +kernel) (fun m => ef_rmLE12 q1 q2 m) ?_
  intro p e s m below meth c T hx hby hml hown hnm hret hlk hZ hh X0 e0
  have N0 := Fr.nil n0
  refine g_aloadN X0 hx hby d14_0 (pc' := 1) rfl rfl rfl ?_
  refine g_alen X0 hx hZ hby d14_1 (pc' := 2) rfl e0 A_1 ?_
  refine g_aloadN X0 hx hby d14_2 (pc' := 3) rfl rfl rfl ?_
  refine g_alen X0 hx hZ hby d14_3 (pc' := 4) rfl e0 A_2 ?_
  refine g_icmp_ne X0 hx hby d14_4 (by decide) (pc' := 34) (by decide) (pn := 7) rfl (fun _ => ?_) (fun z => absurd z (by decide))
  refine g_iconst X0 hx hby d14_34 (pc' := 35) rfl (z := (0 : Int32)) rfl ?_
  exact g_retN (Q := (fun v h L => v = some (.int (0 : Int32)) ∧ Fr n0 L ∧ h = h0)) (w := (0 : Int32)) X0 hx hby d14_35 hret (by simp) (by first | decide | rfl) hlk (by decide) (by decide) ⟨rfl, N0, e0⟩
theorem ef_rmLE20 (q1 : Addr) (q2 : Addr) (m : MethodId) : entryFrame m #[.ref q1, .ref q2] 3 = mkF m 0 #[.val (.ref q1), .val (.ref q2), .unset] [] := by
  first | (simp [entryFrame, mkF, argsToLocals, Value.category]; done) | rfl
set_option maxRecDepth 65536 in
set_option maxHeartbeats 40000000 in
theorem rmLE20 (l : Launch) (Z : State) (a0 : Array Value) (hw : ∀ d ∈ tables_1, d.before a0 Z = true) (ws : List Jvm.Cond) (q1 : Addr) (q2 : Addr) (h0 : Heap) (n0 : Nat) (x0 x1 : Int32) (k1 k2 : ClassId) (A_1 : Arv Z h0 q1 k1 .byte (2 : Int32) [.int (lat x0), .int (lat x1)] (.int 0)) (A_2 : Arv Z h0 q2 k2 .byte (0 : Int32) [] (.int 0)) :
    Ctr l Z ({ cls := "java/lang/StringLatin1", name := "equals", desc := "([B[B)Z" } : Jvm.MethodName) jdk_43_method_13_code 3 (some .boolean) ws ({ frames := 0, cells := 0, slots := 0, locals := 0 } : Room) #[.ref q1, .ref q2] h0 (fun v h L => v = some (.int (0 : Int32)) ∧ Fr n0 L ∧ h = h0) := by
  refine Ctr.enter (Ls := #[.val (.ref q1), .val (.ref q2), .unset]) (by decide +kernel) (fun m => ef_rmLE20 q1 q2 m) ?_
  intro p e s m below meth c T hx hby hml hown hnm hret hlk hZ hh X0 e0
  have N0 := Fr.nil n0
  refine g_aloadN X0 hx hby d14_0 (pc' := 1) rfl rfl rfl ?_
  refine g_alen X0 hx hZ hby d14_1 (pc' := 2) rfl e0 A_1 ?_
  refine g_aloadN X0 hx hby d14_2 (pc' := 3) rfl rfl rfl ?_
  refine g_alen X0 hx hZ hby d14_3 (pc' := 4) rfl e0 A_2 ?_
  refine g_icmp_ne X0 hx hby d14_4 (by decide) (pc' := 34) (by decide) (pn := 7) rfl (fun _ => ?_) (fun z => absurd z (by decide))
  refine g_iconst X0 hx hby d14_34 (pc' := 35) rfl (z := (0 : Int32)) rfl ?_
  exact g_retN (Q := (fun v h L => v = some (.int (0 : Int32)) ∧ Fr n0 L ∧ h = h0)) (w := (0 : Int32)) X0 hx hby d14_35 hret (by simp) (by first | decide | rfl) hlk (by decide) (by decide) ⟨rfl, N0, e0⟩
theorem ef_rmLE21 (q1 : Addr) (q2 : Addr) (m : MethodId) : entryFrame m #[.ref q1, .ref q2] 3 = mkF m 0 #[.val (.ref q1), .val (.ref q2), .unset] [] := by
  first | (simp [entryFrame, mkF, argsToLocals, Value.category]; done) | rfl
set_option maxRecDepth 65536 in
set_option maxHeartbeats 40000000 in
theorem rmLE21 (l : Launch) (Z : State) (a0 : Array Value) (hw : ∀ d ∈ tables_1, d.before a0 Z = true) (ws : List Jvm.Cond) (q1 : Addr) (q2 : Addr) (h0 : Heap) (n0 : Nat) (x0 x1 : Int32) (y0 : Int32) (k1 k2 : ClassId) (A_1 : Arv Z h0 q1 k1 .byte (2 : Int32) [.int (lat x0), .int (lat x1)] (.int 0)) (A_2 : Arv Z h0 q2 k2 .byte (1 : Int32) [.int (lat y0)] (.int 0)) :
    Ctr l Z ({ cls := "java/lang/StringLatin1", name := "equals", desc := "([B[B)Z" } : Jvm.MethodName) jdk_43_method_13_code 3 (some .boolean) ws ({ frames := 0, cells := 0, slots := 0, locals := 0 } : Room) #[.ref q1, .ref q2] h0 (fun v h L => v = some (.int (0 : Int32)) ∧ Fr n0 L ∧ h = h0) := by
  refine Ctr.enter (Ls := #[.val (.ref q1), .val (.ref q2), .unset]) (by decide +kernel) (fun m => ef_rmLE21 q1 q2 m) ?_
  intro p e s m below meth c T hx hby hml hown hnm hret hlk hZ hh X0 e0
  have N0 := Fr.nil n0
  refine g_aloadN X0 hx hby d14_0 (pc' := 1) rfl rfl rfl ?_
  refine g_alen X0 hx hZ hby d14_1 (pc' := 2) rfl e0 A_1 ?_
  refine g_aloadN X0 hx hby d14_2 (pc' := 3) rfl rfl rfl ?_
  refine g_alen X0 hx hZ hby d14_3 (pc' := 4) rfl e0 A_2 ?_
  refine g_icmp_ne X0 hx hby d14_4 (by decide) (pc' := 34) (by decide) (pn := 7) rfl (fun _ => ?_) (fun z => absurd z (by decide))
  refine g_iconst X0 hx hby d14_34 (pc' := 35) rfl (z := (0 : Int32)) rfl ?_
  exact g_retN (Q := (fun v h L => v = some (.int (0 : Int32)) ∧ Fr n0 L ∧ h = h0)) (w := (0 : Int32)) X0 hx hby d14_35 hret (by simp) (by first | decide | rfl) hlk (by decide) (by decide) ⟨rfl, N0, e0⟩
theorem ef_rmLE22 (q1 : Addr) (q2 : Addr) (m : MethodId) : entryFrame m #[.ref q1, .ref q2] 3 = mkF m 0 #[.val (.ref q1), .val (.ref q2), .unset] [] := by
  first | (simp [entryFrame, mkF, argsToLocals, Value.category]; done) | rfl
set_option maxRecDepth 65536 in
set_option maxHeartbeats 40000000 in
theorem rmLE22 (l : Launch) (Z : State) (a0 : Array Value) (hw : ∀ d ∈ tables_1, d.before a0 Z = true) (ws : List Jvm.Cond) (q1 : Addr) (q2 : Addr) (h0 : Heap) (n0 : Nat) (x0 x1 : Int32) (y0 y1 : Int32) (k1 k2 : ClassId) (A_1 : Arv Z h0 q1 k1 .byte (2 : Int32) [.int (lat x0), .int (lat x1)] (.int 0)) (A_2 : Arv Z h0 q2 k2 .byte (2 : Int32) [.int (lat y0), .int (lat y1)] (.int 0)) :
    Ctr l Z ({ cls := "java/lang/StringLatin1", name := "equals", desc := "([B[B)Z" } : Jvm.MethodName) jdk_43_method_13_code 3 (some .boolean) ws ({ frames := 0, cells := 0, slots := 0, locals := 0 } : Room) #[.ref q1, .ref q2] h0 (fun v h L => v = some (.int (e2V x0 y0 x1 y1)) ∧ Fr n0 L ∧ h = h0) := by
  refine Ctr.enter (Ls := #[.val (.ref q1), .val (.ref q2), .unset]) (by decide +kernel) (fun m => ef_rmLE22 q1 q2 m) ?_
  intro p e s m below meth c T hx hby hml hown hnm hret hlk hZ hh X0 e0
  have N0 := Fr.nil n0
  refine g_aloadN X0 hx hby d14_0 (pc' := 1) rfl rfl rfl ?_
  refine g_alen X0 hx hZ hby d14_1 (pc' := 2) rfl e0 A_1 ?_
  refine g_aloadN X0 hx hby d14_2 (pc' := 3) rfl rfl rfl ?_
  refine g_alen X0 hx hZ hby d14_3 (pc' := 4) rfl e0 A_2 ?_
  refine g_icmp_ne X0 hx hby d14_4 (by decide) (pc' := 34) (by decide) (pn := 7) rfl (fun z => absurd z (by decide)) (fun _ => ?_)
  refine g_iconst X0 hx hby d14_7 (pc' := 8) rfl (z := (0 : Int32)) rfl ?_
  refine g_istoreN X0 hx hby d14_8 (pc' := 9) rfl (l' := #[.val (.ref q1), .val (.ref q2), .val (.int (0 : Int32))]) rfl ?_
  refine g_iloadN X0 hx hby d14_9 (pc' := 10) rfl rfl ?_
  refine g_aloadN X0 hx hby d14_10 (pc' := 11) rfl rfl rfl ?_
  refine g_alen X0 hx hZ hby d14_11 (pc' := 12) rfl e0 A_1 ?_
  refine g_icmp_ge X0 hx hby d14_12 (by decide) (pc' := 32) (by decide) (pn := 15) rfl (fun z => absurd z (by decide)) (fun _ => ?_)
  refine g_aloadN X0 hx hby d14_15 (pc' := 16) rfl rfl rfl ?_
  refine g_iloadN X0 hx hby d14_16 (pc' := 17) rfl rfl ?_
  refine g_baload X0 hx hZ hby d14_17 (pc' := 18) rfl e0 A_1 (by decide) (v := .int (lat x0)) rfl ?_
  refine g_aloadN X0 hx hby d14_18 (pc' := 19) rfl rfl rfl ?_
  refine g_iloadN X0 hx hby d14_19 (pc' := 20) rfl rfl ?_
  refine g_baload X0 hx hZ hby d14_20 (pc' := 21) rfl e0 A_2 (by decide) (v := .int (lat y0)) rfl ?_
  refine g_icmp_eq X0 hx hby d14_21 (by decide) (pc' := 26) (by decide) (pn := 24) rfl (fun hc21_1 => ?_) (fun hc21_1 => ?_)
  · refine g_iinc X0 hx hby d14_26 (pc' := 29) rfl rfl (l' := #[.val (.ref q1), .val (.ref q2), .val (.int (1 : Int32))]) rfl ?_
    refine g_goto X0 hx hby d14_29 (by decide) (pc' := 9) (by decide) ?_
    refine g_iloadN X0 hx hby d14_9 (pc' := 10) rfl rfl ?_
    refine g_aloadN X0 hx hby d14_10 (pc' := 11) rfl rfl rfl ?_
    refine g_alen X0 hx hZ hby d14_11 (pc' := 12) rfl e0 A_1 ?_
    refine g_icmp_ge X0 hx hby d14_12 (by decide) (pc' := 32) (by decide) (pn := 15) rfl (fun z => absurd z (by decide)) (fun _ => ?_)
    refine g_aloadN X0 hx hby d14_15 (pc' := 16) rfl rfl rfl ?_
    refine g_iloadN X0 hx hby d14_16 (pc' := 17) rfl rfl ?_
    refine g_baload X0 hx hZ hby d14_17 (pc' := 18) rfl e0 A_1 (by decide) (v := .int (lat x1)) rfl ?_
    refine g_aloadN X0 hx hby d14_18 (pc' := 19) rfl rfl rfl ?_
    refine g_iloadN X0 hx hby d14_19 (pc' := 20) rfl rfl ?_
    refine g_baload X0 hx hZ hby d14_20 (pc' := 21) rfl e0 A_2 (by decide) (v := .int (lat y1)) rfl ?_
    refine g_icmp_eq X0 hx hby d14_21 (by decide) (pc' := 26) (by decide) (pn := 24) rfl (fun hc21_2 => ?_) (fun hc21_2 => ?_)
    · refine g_iinc X0 hx hby d14_26 (pc' := 29) rfl rfl (l' := #[.val (.ref q1), .val (.ref q2), .val (.int (2 : Int32))]) rfl ?_
      refine g_goto X0 hx hby d14_29 (by decide) (pc' := 9) (by decide) ?_
      refine g_iloadN X0 hx hby d14_9 (pc' := 10) rfl rfl ?_
      refine g_aloadN X0 hx hby d14_10 (pc' := 11) rfl rfl rfl ?_
      refine g_alen X0 hx hZ hby d14_11 (pc' := 12) rfl e0 A_1 ?_
      refine g_icmp_ge X0 hx hby d14_12 (by decide) (pc' := 32) (by decide) (pn := 15) rfl (fun _ => ?_) (fun z => absurd z (by decide))
      refine g_iconst X0 hx hby d14_32 (pc' := 33) rfl (z := (1 : Int32)) rfl ?_
      exact g_retN (Q := (fun v h L => v = some (.int (e2V x0 y0 x1 y1)) ∧ Fr n0 L ∧ h = h0)) (w := (1 : Int32)) X0 hx hby d14_33 hret (by simp) (by first | decide | rfl) hlk (by decide) (by decide) ⟨congrArg (fun z : Int32 => some (Value.int z)) (by simp only [e1V, e2V, hc21_1, hc21_2, if_true, if_false, ↓reduceIte]), N0, e0⟩
    · refine g_iconst X0 hx hby d14_24 (pc' := 25) rfl (z := (0 : Int32)) rfl ?_
      exact g_retN (Q := (fun v h L => v = some (.int (e2V x0 y0 x1 y1)) ∧ Fr n0 L ∧ h = h0)) (w := (0 : Int32)) X0 hx hby d14_25 hret (by simp) (by first | decide | rfl) hlk (by decide) (by decide) ⟨congrArg (fun z : Int32 => some (Value.int z)) (by simp only [e1V, e2V, hc21_1, hc21_2, if_true, if_false, ↓reduceIte]), N0, e0⟩
  · refine g_iconst X0 hx hby d14_24 (pc' := 25) rfl (z := (0 : Int32)) rfl ?_
    exact g_retN (Q := (fun v h L => v = some (.int (e2V x0 y0 x1 y1)) ∧ Fr n0 L ∧ h = h0)) (w := (0 : Int32)) X0 hx hby d14_25 hret (by simp) (by first | decide | rfl) hlk (by decide) (by decide) ⟨congrArg (fun z : Int32 => some (Value.int z)) (by simp only [e1V, e2V, hc21_1, if_true, if_false, ↓reduceIte]), N0, e0⟩
theorem ef_rmEQ00 (q1 : Addr) (q2 : Addr) (m : MethodId) : entryFrame m #[.ref q1, .ref q2] 3 = mkF m 0 #[.val (.ref q1), .val (.ref q2), .unset] [] := by
  first | (simp [entryFrame, mkF, argsToLocals, Value.category]; done) | rfl
set_option maxRecDepth 65536 in
set_option maxHeartbeats 40000000 in
theorem rmEQ00 (l : Launch) (Z : State) (a0 : Array Value) (hw : ∀ d ∈ tables_1, d.before a0 Z = true) (ws : List Jvm.Cond) (q1 : Addr) (q2 : Addr) (h0 : Heap) (n0 : Nat) (b1 b2 : Addr) (k1 k2 : ClassId) (E_1 : Exa Z h0 q1 "java/lang/String") (E_2 : Exa Z h0 q2 "java/lang/String") (V_1 : Fld Z h0 q1 "java/lang/String" "value" "[B" (.ref b1)) (V_2 : Fld Z h0 q2 "java/lang/String" "value" "[B" (.ref b2)) (C_1 : Fld Z h0 q1 "java/lang/String" "coder" "B" (.int (0 : Int32))) (C_2 : Fld Z h0 q2 "java/lang/String" "coder" "B" (.int (0 : Int32))) (A_1 : Arv Z h0 b1 k1 .byte (0 : Int32) [] (.int 0)) (A_2 : Arv Z h0 b2 k2 .byte (0 : Int32) [] (.int 0)) (hne : q1 ≠ q2) (cs : Int32) (SS : SSt Z cs) (O0 : Old Z n0 h0) :
    Ctr l Z ({ cls := "java/lang/String", name := "equals", desc := "(Ljava/lang/Object;)Z" } : Jvm.MethodName) jdk_42_method_66_code 3 (some .boolean) ws ({ frames := 1, cells := 0, slots := 0, locals := 14 } : Room) #[.ref q1, .ref q2] h0 (fun v h L => v = some (.int (1 : Int32)) ∧ Fr n0 L ∧ h = h0) := by
  refine Ctr.enter (Ls := #[.val (.ref q1), .val (.ref q2), .unset]) (by decide +kernel) (fun m => ef_rmEQ00 q1 q2 m) ?_
  intro p e s m below meth c T hx hby hml hown hnm hret hlk hZ hh X0 e0
  have N0 := Fr.nil n0
  refine g_aloadN X0 hx hby d13_0 (pc' := 1) rfl rfl rfl ?_
  refine g_aloadN X0 hx hby d13_1 (pc' := 2) rfl rfl rfl ?_
  refine g_acmp_yes X0 hx hby d13_2 (by decide) (pc' := 7) (by decide) rfl rfl (by simp [Jvm.Free.XT.acmp, hne]) ?_
  refine g_aloadN X0 hx hby d13_7 (pc' := 8) rfl rfl rfl ?_
  refine g_instY X0 hx hZ hown hby d13_8 (pc' := 11) rfl (w_75 hw) e0 (Ins.self E_2) ?_
  intro T1 X1 e1
  refine g_if_eq X1 hx hby d13_11 (by decide) (pc' := 54) (by decide) (pn := 14) rfl (fun z => absurd z (by decide)) (fun _ => ?_)
  refine g_aloadN X1 hx hby d13_14 (pc' := 15) rfl rfl rfl ?_
  refine g_castY X1 hx hZ hown hby d13_15 (pc' := 18) rfl (w_75 hw) e1 (Ins.self E_2) ?_
  intro T2 X2 e2
  refine g_astoreN X2 hx hby d13_18 (pc' := 19) rfl rfl (l' := #[.val (.ref q1), .val (.ref q2), .val (.ref q2)]) rfl ?_
  refine g_getS X2 hx hZ hown hby d13_19 (pc' := 22) rfl (w_19 hw) e2 (SS.2.ext O0.2) ?_
  intro T3 X3 e3
  refine g_if_eq X3 hx hby d13_22 (by decide) (pc' := 36) (by decide) (pn := 25) rfl (fun z => absurd z SS.1) (fun hc22_4 => ?_)
  refine g_aloadN X3 hx hby d13_25 (pc' := 26) rfl rfl rfl ?_
  refine g_get X3 hx hZ hown hby d13_26 (pc' := 29) rfl (w_31 hw) e3 C_1 ?_
  intro T5 X5 e5
  refine g_aloadN X5 hx hby d13_29 (pc' := 30) rfl rfl rfl ?_
  refine g_get X5 hx hZ hown hby d13_30 (pc' := 33) rfl (w_31 hw) e5 C_2 ?_
  intro T6 X6 e6
  refine g_icmp_ne X6 hx hby d13_33 (by decide) (pc' := 54) (by decide) (pn := 36) rfl (fun z => absurd z (by decide)) (fun _ => ?_)
  refine g_aloadN X6 hx hby d13_36 (pc' := 37) rfl rfl rfl ?_
  refine g_get X6 hx hZ hown hby d13_37 (pc' := 40) rfl (w_33 hw) e6 V_1 ?_
  intro T7 X7 e7
  refine g_aloadN X7 hx hby d13_40 (pc' := 41) rfl rfl rfl ?_
  refine g_get X7 hx hZ hown hby d13_41 (pc' := 44) rfl (w_33 hw) e7 V_2 ?_
  intro T8 X8 e8
  refine g_callS X8 hx hZ hown (W := 0) (argsL := [.ref b1, .ref b2]) (rest := []) hby d13_44 (pc' := 47) rfl (by rw [hml]; rfl) (w_76 hw) (w_77 hw) (w_78 hw) (w_79 hw) (by decide) (rmLE00 l Z a0 hw [] b1 b2 h0 n0  _ _ A_1 A_2) e8 (by decide) (by decide) (by decide) (by decide) rfl pd__28_5bB_5bB_29Z rfl rfl (Nat.le_of_eq rfl) ?_
  rintro _ T9 L9 X9 ⟨rfl, N9q, e9⟩
  have N9 := Fr.app N0 N9q
  show GoE p e below _ (T9.setTop (mkF m 47 #[.val (.ref q1), .val (.ref q2), .val (.ref q2)] [.int (1 : Int32)]))
  refine g_if_eq X9 hx hby d13_47 (by decide) (pc' := 54) (by decide) (pn := 50) rfl (fun z => absurd z (by decide)) (fun _ => ?_)
  refine g_iconst X9 hx hby d13_50 (pc' := 51) rfl (z := (1 : Int32)) rfl ?_
  refine g_goto X9 hx hby d13_51 (by decide) (pc' := 55) (by decide) ?_
  exact g_retN (Q := (fun v h L => v = some (.int (1 : Int32)) ∧ Fr n0 L ∧ h = h0)) (w := (1 : Int32)) X9 hx hby d13_55 hret (by simp) (by first | decide | rfl) hlk (by decide) (by decide) ⟨rfl, N9, e9⟩
theorem ef_rmEQ01 (q1 : Addr) (q2 : Addr) (m : MethodId) : entryFrame m #[.ref q1, .ref q2] 3 = mkF m 0 #[.val (.ref q1), .val (.ref q2), .unset] [] := by
  first | (simp [entryFrame, mkF, argsToLocals, Value.category]; done) | rfl
set_option maxRecDepth 65536 in
set_option maxHeartbeats 40000000 in
theorem rmEQ01 (l : Launch) (Z : State) (a0 : Array Value) (hw : ∀ d ∈ tables_1, d.before a0 Z = true) (ws : List Jvm.Cond) (q1 : Addr) (q2 : Addr) (h0 : Heap) (n0 : Nat) (y0 : Int32) (b1 b2 : Addr) (k1 k2 : ClassId) (E_1 : Exa Z h0 q1 "java/lang/String") (E_2 : Exa Z h0 q2 "java/lang/String") (V_1 : Fld Z h0 q1 "java/lang/String" "value" "[B" (.ref b1)) (V_2 : Fld Z h0 q2 "java/lang/String" "value" "[B" (.ref b2)) (C_1 : Fld Z h0 q1 "java/lang/String" "coder" "B" (.int (0 : Int32))) (C_2 : Fld Z h0 q2 "java/lang/String" "coder" "B" (.int (0 : Int32))) (A_1 : Arv Z h0 b1 k1 .byte (0 : Int32) [] (.int 0)) (A_2 : Arv Z h0 b2 k2 .byte (1 : Int32) [.int (lat y0)] (.int 0)) (hne : q1 ≠ q2) (cs : Int32) (SS : SSt Z cs) (O0 : Old Z n0 h0) :
    Ctr l Z ({ cls := "java/lang/String", name := "equals", desc := "(Ljava/lang/Object;)Z" } : Jvm.MethodName) jdk_42_method_66_code 3 (some .boolean) ws ({ frames := 1, cells := 0, slots := 0, locals := 14 } : Room) #[.ref q1, .ref q2] h0 (fun v h L => v = some (.int (0 : Int32)) ∧ Fr n0 L ∧ h = h0) := by
  refine Ctr.enter (Ls := #[.val (.ref q1), .val (.ref q2), .unset]) (by decide +kernel) (fun m => ef_rmEQ01 q1 q2 m) ?_
  intro p e s m below meth c T hx hby hml hown hnm hret hlk hZ hh X0 e0
  have N0 := Fr.nil n0
  refine g_aloadN X0 hx hby d13_0 (pc' := 1) rfl rfl rfl ?_
  refine g_aloadN X0 hx hby d13_1 (pc' := 2) rfl rfl rfl ?_
  refine g_acmp_yes X0 hx hby d13_2 (by decide) (pc' := 7) (by decide) rfl rfl (by simp [Jvm.Free.XT.acmp, hne]) ?_
  refine g_aloadN X0 hx hby d13_7 (pc' := 8) rfl rfl rfl ?_
  refine g_instY X0 hx hZ hown hby d13_8 (pc' := 11) rfl (w_75 hw) e0 (Ins.self E_2) ?_
  intro T1 X1 e1
  refine g_if_eq X1 hx hby d13_11 (by decide) (pc' := 54) (by decide) (pn := 14) rfl (fun z => absurd z (by decide)) (fun _ => ?_)
  refine g_aloadN X1 hx hby d13_14 (pc' := 15) rfl rfl rfl ?_
  refine g_castY X1 hx hZ hown hby d13_15 (pc' := 18) rfl (w_75 hw) e1 (Ins.self E_2) ?_
  intro T2 X2 e2
  refine g_astoreN X2 hx hby d13_18 (pc' := 19) rfl rfl (l' := #[.val (.ref q1), .val (.ref q2), .val (.ref q2)]) rfl ?_
  refine g_getS X2 hx hZ hown hby d13_19 (pc' := 22) rfl (w_19 hw) e2 (SS.2.ext O0.2) ?_
  intro T3 X3 e3
  refine g_if_eq X3 hx hby d13_22 (by decide) (pc' := 36) (by decide) (pn := 25) rfl (fun z => absurd z SS.1) (fun hc22_4 => ?_)
  refine g_aloadN X3 hx hby d13_25 (pc' := 26) rfl rfl rfl ?_
  refine g_get X3 hx hZ hown hby d13_26 (pc' := 29) rfl (w_31 hw) e3 C_1 ?_
  intro T5 X5 e5
  refine g_aloadN X5 hx hby d13_29 (pc' := 30) rfl rfl rfl ?_
  refine g_get X5 hx hZ hown hby d13_30 (pc' := 33) rfl (w_31 hw) e5 C_2 ?_
  intro T6 X6 e6
  refine g_icmp_ne X6 hx hby d13_33 (by decide) (pc' := 54) (by decide) (pn := 36) rfl (fun z => absurd z (by decide)) (fun _ => ?_)
  refine g_aloadN X6 hx hby d13_36 (pc' := 37) rfl rfl rfl ?_
  refine g_get X6 hx hZ hown hby d13_37 (pc' := 40) rfl (w_33 hw) e6 V_1 ?_
  intro T7 X7 e7
  refine g_aloadN X7 hx hby d13_40 (pc' := 41) rfl rfl rfl ?_
  refine g_get X7 hx hZ hown hby d13_41 (pc' := 44) rfl (w_33 hw) e7 V_2 ?_
  intro T8 X8 e8
  refine g_callS X8 hx hZ hown (W := 0) (argsL := [.ref b1, .ref b2]) (rest := []) hby d13_44 (pc' := 47) rfl (by rw [hml]; rfl) (w_76 hw) (w_77 hw) (w_78 hw) (w_79 hw) (by decide) (rmLE01 l Z a0 hw [] b1 b2 h0 n0 y0 _ _ A_1 A_2) e8 (by decide) (by decide) (by decide) (by decide) rfl pd__28_5bB_5bB_29Z rfl rfl (Nat.le_of_eq rfl) ?_
  rintro _ T9 L9 X9 ⟨rfl, N9q, e9⟩
  have N9 := Fr.app N0 N9q
  show GoE p e below _ (T9.setTop (mkF m 47 #[.val (.ref q1), .val (.ref q2), .val (.ref q2)] [.int (0 : Int32)]))
  refine g_if_eq X9 hx hby d13_47 (by decide) (pc' := 54) (by decide) (pn := 50) rfl (fun _ => ?_) (fun z => absurd z (by decide))
  refine g_iconst X9 hx hby d13_54 (pc' := 55) rfl (z := (0 : Int32)) rfl ?_
  exact g_retN (Q := (fun v h L => v = some (.int (0 : Int32)) ∧ Fr n0 L ∧ h = h0)) (w := (0 : Int32)) X9 hx hby d13_55 hret (by simp) (by first | decide | rfl) hlk (by decide) (by decide) ⟨rfl, N9, e9⟩
theorem ef_rmEQ02 (q1 : Addr) (q2 : Addr) (m : MethodId) : entryFrame m #[.ref q1, .ref q2] 3 = mkF m 0 #[.val (.ref q1), .val (.ref q2), .unset] [] := by
  first | (simp [entryFrame, mkF, argsToLocals, Value.category]; done) | rfl
set_option maxRecDepth 65536 in
set_option maxHeartbeats 40000000 in
theorem rmEQ02 (l : Launch) (Z : State) (a0 : Array Value) (hw : ∀ d ∈ tables_1, d.before a0 Z = true) (ws : List Jvm.Cond) (q1 : Addr) (q2 : Addr) (h0 : Heap) (n0 : Nat) (y0 y1 : Int32) (b1 b2 : Addr) (k1 k2 : ClassId) (E_1 : Exa Z h0 q1 "java/lang/String") (E_2 : Exa Z h0 q2 "java/lang/String") (V_1 : Fld Z h0 q1 "java/lang/String" "value" "[B" (.ref b1)) (V_2 : Fld Z h0 q2 "java/lang/String" "value" "[B" (.ref b2)) (C_1 : Fld Z h0 q1 "java/lang/String" "coder" "B" (.int (0 : Int32))) (C_2 : Fld Z h0 q2 "java/lang/String" "coder" "B" (.int (0 : Int32))) (A_1 : Arv Z h0 b1 k1 .byte (0 : Int32) [] (.int 0)) (A_2 : Arv Z h0 b2 k2 .byte (2 : Int32) [.int (lat y0), .int (lat y1)] (.int 0)) (hne : q1 ≠ q2) (cs : Int32) (SS : SSt Z cs) (O0 : Old Z n0 h0) :
    Ctr l Z ({ cls := "java/lang/String", name := "equals", desc := "(Ljava/lang/Object;)Z" } : Jvm.MethodName) jdk_42_method_66_code 3 (some .boolean) ws ({ frames := 1, cells := 0, slots := 0, locals := 14 } : Room) #[.ref q1, .ref q2] h0 (fun v h L => v = some (.int (0 : Int32)) ∧ Fr n0 L ∧ h = h0) := by
  refine Ctr.enter (Ls := #[.val (.ref q1), .val (.ref q2), .unset]) (by decide +kernel) (fun m => ef_rmEQ02 q1 q2 m) ?_
  intro p e s m below meth c T hx hby hml hown hnm hret hlk hZ hh X0 e0
  have N0 := Fr.nil n0
  refine g_aloadN X0 hx hby d13_0 (pc' := 1) rfl rfl rfl ?_
  refine g_aloadN X0 hx hby d13_1 (pc' := 2) rfl rfl rfl ?_
  refine g_acmp_yes X0 hx hby d13_2 (by decide) (pc' := 7) (by decide) rfl rfl (by simp [Jvm.Free.XT.acmp, hne]) ?_
  refine g_aloadN X0 hx hby d13_7 (pc' := 8) rfl rfl rfl ?_
  refine g_instY X0 hx hZ hown hby d13_8 (pc' := 11) rfl (w_75 hw) e0 (Ins.self E_2) ?_
  intro T1 X1 e1
  refine g_if_eq X1 hx hby d13_11 (by decide) (pc' := 54) (by decide) (pn := 14) rfl (fun z => absurd z (by decide)) (fun _ => ?_)
  refine g_aloadN X1 hx hby d13_14 (pc' := 15) rfl rfl rfl ?_
  refine g_castY X1 hx hZ hown hby d13_15 (pc' := 18) rfl (w_75 hw) e1 (Ins.self E_2) ?_
  intro T2 X2 e2
  refine g_astoreN X2 hx hby d13_18 (pc' := 19) rfl rfl (l' := #[.val (.ref q1), .val (.ref q2), .val (.ref q2)]) rfl ?_
  refine g_getS X2 hx hZ hown hby d13_19 (pc' := 22) rfl (w_19 hw) e2 (SS.2.ext O0.2) ?_
  intro T3 X3 e3
  refine g_if_eq X3 hx hby d13_22 (by decide) (pc' := 36) (by decide) (pn := 25) rfl (fun z => absurd z SS.1) (fun hc22_4 => ?_)
  refine g_aloadN X3 hx hby d13_25 (pc' := 26) rfl rfl rfl ?_
  refine g_get X3 hx hZ hown hby d13_26 (pc' := 29) rfl (w_31 hw) e3 C_1 ?_
  intro T5 X5 e5
  refine g_aloadN X5 hx hby d13_29 (pc' := 30) rfl rfl rfl ?_
  refine g_get X5 hx hZ hown hby d13_30 (pc' := 33) rfl (w_31 hw) e5 C_2 ?_
  intro T6 X6 e6
  refine g_icmp_ne X6 hx hby d13_33 (by decide) (pc' := 54) (by decide) (pn := 36) rfl (fun z => absurd z (by decide)) (fun _ => ?_)
  refine g_aloadN X6 hx hby d13_36 (pc' := 37) rfl rfl rfl ?_
  refine g_get X6 hx hZ hown hby d13_37 (pc' := 40) rfl (w_33 hw) e6 V_1 ?_
  intro T7 X7 e7
  refine g_aloadN X7 hx hby d13_40 (pc' := 41) rfl rfl rfl ?_
  refine g_get X7 hx hZ hown hby d13_41 (pc' := 44) rfl (w_33 hw) e7 V_2 ?_
  intro T8 X8 e8
  refine g_callS X8 hx hZ hown (W := 0) (argsL := [.ref b1, .ref b2]) (rest := []) hby d13_44 (pc' := 47) rfl (by rw [hml]; rfl) (w_76 hw) (w_77 hw) (w_78 hw) (w_79 hw) (by decide) (rmLE02 l Z a0 hw [] b1 b2 h0 n0 y0 y1 _ _ A_1 A_2) e8 (by decide) (by decide) (by decide) (by decide) rfl pd__28_5bB_5bB_29Z rfl rfl (Nat.le_of_eq rfl) ?_
  rintro _ T9 L9 X9 ⟨rfl, N9q, e9⟩
  have N9 := Fr.app N0 N9q
  show GoE p e below _ (T9.setTop (mkF m 47 #[.val (.ref q1), .val (.ref q2), .val (.ref q2)] [.int (0 : Int32)]))
  refine g_if_eq X9 hx hby d13_47 (by decide) (pc' := 54) (by decide) (pn := 50) rfl (fun _ => ?_) (fun z => absurd z (by decide))
  refine g_iconst X9 hx hby d13_54 (pc' := 55) rfl (z := (0 : Int32)) rfl ?_
  exact g_retN (Q := (fun v h L => v = some (.int (0 : Int32)) ∧ Fr n0 L ∧ h = h0)) (w := (0 : Int32)) X9 hx hby d13_55 hret (by simp) (by first | decide | rfl) hlk (by decide) (by decide) ⟨rfl, N9, e9⟩
theorem ef_rmEQ10 (q1 : Addr) (q2 : Addr) (m : MethodId) : entryFrame m #[.ref q1, .ref q2] 3 = mkF m 0 #[.val (.ref q1), .val (.ref q2), .unset] [] := by
  first | (simp [entryFrame, mkF, argsToLocals, Value.category]; done) | rfl
set_option maxRecDepth 65536 in
set_option maxHeartbeats 40000000 in
theorem rmEQ10 (l : Launch) (Z : State) (a0 : Array Value) (hw : ∀ d ∈ tables_1, d.before a0 Z = true) (ws : List Jvm.Cond) (q1 : Addr) (q2 : Addr) (h0 : Heap) (n0 : Nat) (x0 : Int32) (b1 b2 : Addr) (k1 k2 : ClassId) (E_1 : Exa Z h0 q1 "java/lang/String") (E_2 : Exa Z h0 q2 "java/lang/String") (V_1 : Fld Z h0 q1 "java/lang/String" "value" "[B" (.ref b1)) (V_2 : Fld Z h0 q2 "java/lang/String" "value" "[B" (.ref b2)) (C_1 : Fld Z h0 q1 "java/lang/String" "coder" "B" (.int (0 : Int32))) (C_2 : Fld Z h0 q2 "java/lang/String" "coder" "B" (.int (0 : Int32))) (A_1 : Arv Z h0 b1 k1 .byte (1 : Int32) [.int (lat x0)] (.int 0)) (A_2 : Arv Z h0 b2 k2 .byte (0 : Int32) [] (.int 0)) (hne : q1 ≠ q2) (cs : Int32) (SS : SSt Z cs) (O0 : Old Z n0 h0) :
    Ctr l Z ({ cls := "java/lang/String", name := "equals", desc := "(Ljava/lang/Object;)Z" } : Jvm.MethodName) jdk_42_method_66_code 3 (some .boolean) ws ({ frames := 1, cells := 0, slots := 0, locals := 14 } : Room) #[.ref q1, .ref q2] h0 (fun v h L => v = some (.int (0 : Int32)) ∧ Fr n0 L ∧ h = h0) := by
  refine Ctr.enter (Ls := #[.val (.ref q1), .val (.ref q2), .unset]) (by decide +kernel) (fun m => ef_rmEQ10 q1 q2 m) ?_
  intro p e s m below meth c T hx hby hml hown hnm hret hlk hZ hh X0 e0
  have N0 := Fr.nil n0
  refine g_aloadN X0 hx hby d13_0 (pc' := 1) rfl rfl rfl ?_
  refine g_aloadN X0 hx hby d13_1 (pc' := 2) rfl rfl rfl ?_
  refine g_acmp_yes X0 hx hby d13_2 (by decide) (pc' := 7) (by decide) rfl rfl (by simp [Jvm.Free.XT.acmp, hne]) ?_
  refine g_aloadN X0 hx hby d13_7 (pc' := 8) rfl rfl rfl ?_
  refine g_instY X0 hx hZ hown hby d13_8 (pc' := 11) rfl (w_75 hw) e0 (Ins.self E_2) ?_
  intro T1 X1 e1
  refine g_if_eq X1 hx hby d13_11 (by decide) (pc' := 54) (by decide) (pn := 14) rfl (fun z => absurd z (by decide)) (fun _ => ?_)
  refine g_aloadN X1 hx hby d13_14 (pc' := 15) rfl rfl rfl ?_
  refine g_castY X1 hx hZ hown hby d13_15 (pc' := 18) rfl (w_75 hw) e1 (Ins.self E_2) ?_
  intro T2 X2 e2
  refine g_astoreN X2 hx hby d13_18 (pc' := 19) rfl rfl (l' := #[.val (.ref q1), .val (.ref q2), .val (.ref q2)]) rfl ?_
  refine g_getS X2 hx hZ hown hby d13_19 (pc' := 22) rfl (w_19 hw) e2 (SS.2.ext O0.2) ?_
  intro T3 X3 e3
  refine g_if_eq X3 hx hby d13_22 (by decide) (pc' := 36) (by decide) (pn := 25) rfl (fun z => absurd z SS.1) (fun hc22_4 => ?_)
  refine g_aloadN X3 hx hby d13_25 (pc' := 26) rfl rfl rfl ?_
  refine g_get X3 hx hZ hown hby d13_26 (pc' := 29) rfl (w_31 hw) e3 C_1 ?_
  intro T5 X5 e5
  refine g_aloadN X5 hx hby d13_29 (pc' := 30) rfl rfl rfl ?_
  refine g_get X5 hx hZ hown hby d13_30 (pc' := 33) rfl (w_31 hw) e5 C_2 ?_
  intro T6 X6 e6
  refine g_icmp_ne X6 hx hby d13_33 (by decide) (pc' := 54) (by decide) (pn := 36) rfl (fun z => absurd z (by decide)) (fun _ => ?_)
  refine g_aloadN X6 hx hby d13_36 (pc' := 37) rfl rfl rfl ?_
  refine g_get X6 hx hZ hown hby d13_37 (pc' := 40) rfl (w_33 hw) e6 V_1 ?_
  intro T7 X7 e7
  refine g_aloadN X7 hx hby d13_40 (pc' := 41) rfl rfl rfl ?_
  refine g_get X7 hx hZ hown hby d13_41 (pc' := 44) rfl (w_33 hw) e7 V_2 ?_
  intro T8 X8 e8
  refine g_callS X8 hx hZ hown (W := 0) (argsL := [.ref b1, .ref b2]) (rest := []) hby d13_44 (pc' := 47) rfl (by rw [hml]; rfl) (w_76 hw) (w_77 hw) (w_78 hw) (w_79 hw) (by decide) (rmLE10 l Z a0 hw [] b1 b2 h0 n0 x0 _ _ A_1 A_2) e8 (by decide) (by decide) (by decide) (by decide) rfl pd__28_5bB_5bB_29Z rfl rfl (Nat.le_of_eq rfl) ?_
  rintro _ T9 L9 X9 ⟨rfl, N9q, e9⟩
  have N9 := Fr.app N0 N9q
  show GoE p e below _ (T9.setTop (mkF m 47 #[.val (.ref q1), .val (.ref q2), .val (.ref q2)] [.int (0 : Int32)]))
  refine g_if_eq X9 hx hby d13_47 (by decide) (pc' := 54) (by decide) (pn := 50) rfl (fun _ => ?_) (fun z => absurd z (by decide))
  refine g_iconst X9 hx hby d13_54 (pc' := 55) rfl (z := (0 : Int32)) rfl ?_
  exact g_retN (Q := (fun v h L => v = some (.int (0 : Int32)) ∧ Fr n0 L ∧ h = h0)) (w := (0 : Int32)) X9 hx hby d13_55 hret (by simp) (by first | decide | rfl) hlk (by decide) (by decide) ⟨rfl, N9, e9⟩
theorem ef_rmEQ11 (q1 : Addr) (q2 : Addr) (m : MethodId) : entryFrame m #[.ref q1, .ref q2] 3 = mkF m 0 #[.val (.ref q1), .val (.ref q2), .unset] [] := by
  first | (simp [entryFrame, mkF, argsToLocals, Value.category]; done) | rfl
set_option maxRecDepth 65536 in
set_option maxHeartbeats 40000000 in
theorem rmEQ11 (l : Launch) (Z : State) (a0 : Array Value) (hw : ∀ d ∈ tables_1, d.before a0 Z = true) (ws : List Jvm.Cond) (q1 : Addr) (q2 : Addr) (h0 : Heap) (n0 : Nat) (x0 : Int32) (y0 : Int32) (b1 b2 : Addr) (k1 k2 : ClassId) (E_1 : Exa Z h0 q1 "java/lang/String") (E_2 : Exa Z h0 q2 "java/lang/String") (V_1 : Fld Z h0 q1 "java/lang/String" "value" "[B" (.ref b1)) (V_2 : Fld Z h0 q2 "java/lang/String" "value" "[B" (.ref b2)) (C_1 : Fld Z h0 q1 "java/lang/String" "coder" "B" (.int (0 : Int32))) (C_2 : Fld Z h0 q2 "java/lang/String" "coder" "B" (.int (0 : Int32))) (A_1 : Arv Z h0 b1 k1 .byte (1 : Int32) [.int (lat x0)] (.int 0)) (A_2 : Arv Z h0 b2 k2 .byte (1 : Int32) [.int (lat y0)] (.int 0)) (hne : q1 ≠ q2) (cs : Int32) (SS : SSt Z cs) (O0 : Old Z n0 h0) :
    Ctr l Z ({ cls := "java/lang/String", name := "equals", desc := "(Ljava/lang/Object;)Z" } : Jvm.MethodName) jdk_42_method_66_code 3 (some .boolean) ws ({ frames := 1, cells := 0, slots := 0, locals := 14 } : Room) #[.ref q1, .ref q2] h0 (fun v h L => v = some (.int (e1V x0 y0)) ∧ Fr n0 L ∧ h = h0) := by
  refine Ctr.enter (Ls := #[.val (.ref q1), .val (.ref q2), .unset]) (by decide +kernel) (fun m => ef_rmEQ11 q1 q2 m) ?_
  intro p e s m below meth c T hx hby hml hown hnm hret hlk hZ hh X0 e0
  have N0 := Fr.nil n0
  refine g_aloadN X0 hx hby d13_0 (pc' := 1) rfl rfl rfl ?_
  refine g_aloadN X0 hx hby d13_1 (pc' := 2) rfl rfl rfl ?_
  refine g_acmp_yes X0 hx hby d13_2 (by decide) (pc' := 7) (by decide) rfl rfl (by simp [Jvm.Free.XT.acmp, hne]) ?_
  refine g_aloadN X0 hx hby d13_7 (pc' := 8) rfl rfl rfl ?_
  refine g_instY X0 hx hZ hown hby d13_8 (pc' := 11) rfl (w_75 hw) e0 (Ins.self E_2) ?_
  intro T1 X1 e1
  refine g_if_eq X1 hx hby d13_11 (by decide) (pc' := 54) (by decide) (pn := 14) rfl (fun z => absurd z (by decide)) (fun _ => ?_)
  refine g_aloadN X1 hx hby d13_14 (pc' := 15) rfl rfl rfl ?_
  refine g_castY X1 hx hZ hown hby d13_15 (pc' := 18) rfl (w_75 hw) e1 (Ins.self E_2) ?_
  intro T2 X2 e2
  refine g_astoreN X2 hx hby d13_18 (pc' := 19) rfl rfl (l' := #[.val (.ref q1), .val (.ref q2), .val (.ref q2)]) rfl ?_
  refine g_getS X2 hx hZ hown hby d13_19 (pc' := 22) rfl (w_19 hw) e2 (SS.2.ext O0.2) ?_
  intro T3 X3 e3
  refine g_if_eq X3 hx hby d13_22 (by decide) (pc' := 36) (by decide) (pn := 25) rfl (fun z => absurd z SS.1) (fun hc22_4 => ?_)
  refine g_aloadN X3 hx hby d13_25 (pc' := 26) rfl rfl rfl ?_
  refine g_get X3 hx hZ hown hby d13_26 (pc' := 29) rfl (w_31 hw) e3 C_1 ?_
  intro T5 X5 e5
  refine g_aloadN X5 hx hby d13_29 (pc' := 30) rfl rfl rfl ?_
  refine g_get X5 hx hZ hown hby d13_30 (pc' := 33) rfl (w_31 hw) e5 C_2 ?_
  intro T6 X6 e6
  refine g_icmp_ne X6 hx hby d13_33 (by decide) (pc' := 54) (by decide) (pn := 36) rfl (fun z => absurd z (by decide)) (fun _ => ?_)
  refine g_aloadN X6 hx hby d13_36 (pc' := 37) rfl rfl rfl ?_
  refine g_get X6 hx hZ hown hby d13_37 (pc' := 40) rfl (w_33 hw) e6 V_1 ?_
  intro T7 X7 e7
  refine g_aloadN X7 hx hby d13_40 (pc' := 41) rfl rfl rfl ?_
  refine g_get X7 hx hZ hown hby d13_41 (pc' := 44) rfl (w_33 hw) e7 V_2 ?_
  intro T8 X8 e8
  refine g_callS X8 hx hZ hown (W := 0) (argsL := [.ref b1, .ref b2]) (rest := []) hby d13_44 (pc' := 47) rfl (by rw [hml]; rfl) (w_76 hw) (w_77 hw) (w_78 hw) (w_79 hw) (by decide) (rmLE11 l Z a0 hw [] b1 b2 h0 n0 x0 y0 _ _ A_1 A_2) e8 (by decide) (by decide) (by decide) (by decide) rfl pd__28_5bB_5bB_29Z rfl rfl (Nat.le_of_eq rfl) ?_
  rintro _ T9 L9 X9 ⟨rfl, N9q, e9⟩
  have N9 := Fr.app N0 N9q
  show GoE p e below _ (T9.setTop (mkF m 47 #[.val (.ref q1), .val (.ref q2), .val (.ref q2)] [.int (e1V x0 y0)]))
  refine g_if_eq X9 hx hby d13_47 (by decide) (pc' := 54) (by decide) (pn := 50) rfl (fun hc47_10 => ?_) (fun hc47_10 => ?_)
  · refine g_iconst X9 hx hby d13_54 (pc' := 55) rfl (z := (0 : Int32)) rfl ?_
    exact g_retN (Q := (fun v h L => v = some (.int (e1V x0 y0)) ∧ Fr n0 L ∧ h = h0)) (w := (0 : Int32)) X9 hx hby d13_55 hret (by simp) (by first | decide | rfl) hlk (by decide) (by decide) ⟨congrArg (fun z : Int32 => some (Value.int z)) (hc47_10.symm), N9, e9⟩
  · refine g_iconst X9 hx hby d13_50 (pc' := 51) rfl (z := (1 : Int32)) rfl ?_
    refine g_goto X9 hx hby d13_51 (by decide) (pc' := 55) (by decide) ?_
    exact g_retN (Q := (fun v h L => v = some (.int (e1V x0 y0)) ∧ Fr n0 L ∧ h = h0)) (w := (1 : Int32)) X9 hx hby d13_55 hret (by simp) (by first | decide | rfl) hlk (by decide) (by decide) ⟨congrArg (fun z : Int32 => some (Value.int z)) (own_01a _ _ hc47_10), N9, e9⟩
theorem ef_rmEQ12 (q1 : Addr) (q2 : Addr) (m : MethodId) : entryFrame m #[.ref q1, .ref q2] 3 = mkF m 0 #[.val (.ref q1), .val (.ref q2), .unset] [] := by
  first | (simp [entryFrame, mkF, argsToLocals, Value.category]; done) | rfl
set_option maxRecDepth 65536 in
set_option maxHeartbeats 40000000 in
theorem rmEQ12 (l : Launch) (Z : State) (a0 : Array Value) (hw : ∀ d ∈ tables_1, d.before a0 Z = true) (ws : List Jvm.Cond) (q1 : Addr) (q2 : Addr) (h0 : Heap) (n0 : Nat) (x0 : Int32) (y0 y1 : Int32) (b1 b2 : Addr) (k1 k2 : ClassId) (E_1 : Exa Z h0 q1 "java/lang/String") (E_2 : Exa Z h0 q2 "java/lang/String") (V_1 : Fld Z h0 q1 "java/lang/String" "value" "[B" (.ref b1)) (V_2 : Fld Z h0 q2 "java/lang/String" "value" "[B" (.ref b2)) (C_1 : Fld Z h0 q1 "java/lang/String" "coder" "B" (.int (0 : Int32))) (C_2 : Fld Z h0 q2 "java/lang/String" "coder" "B" (.int (0 : Int32))) (A_1 : Arv Z h0 b1 k1 .byte (1 : Int32) [.int (lat x0)] (.int 0)) (A_2 : Arv Z h0 b2 k2 .byte (2 : Int32) [.int (lat y0), .int (lat y1)] (.int 0)) (hne : q1 ≠ q2) (cs : Int32) (SS : SSt Z cs) (O0 : Old Z n0 h0) :
    Ctr l Z ({ cls := "java/lang/String", name := "equals", desc := "(Ljava/lang/Object;)Z" } : Jvm.MethodName) jdk_42_method_66_code 3 (some .boolean) ws ({ frames := 1, cells := 0, slots := 0, locals := 14 } : Room) #[.ref q1, .ref q2] h0 (fun v h L => v = some (.int (0 : Int32)) ∧ Fr n0 L ∧ h = h0) := by
  refine Ctr.enter (Ls := #[.val (.ref q1), .val (.ref q2), .unset]) (by decide +kernel) (fun m => ef_rmEQ12 q1 q2 m) ?_
  intro p e s m below meth c T hx hby hml hown hnm hret hlk hZ hh X0 e0
  have N0 := Fr.nil n0
  refine g_aloadN X0 hx hby d13_0 (pc' := 1) rfl rfl rfl ?_
  refine g_aloadN X0 hx hby d13_1 (pc' := 2) rfl rfl rfl ?_
  refine g_acmp_yes X0 hx hby d13_2 (by decide) (pc' := 7) (by decide) rfl rfl (by simp [Jvm.Free.XT.acmp, hne]) ?_
  refine g_aloadN X0 hx hby d13_7 (pc' := 8) rfl rfl rfl ?_
  refine g_instY X0 hx hZ hown hby d13_8 (pc' := 11) rfl (w_75 hw) e0 (Ins.self E_2) ?_
  intro T1 X1 e1
  refine g_if_eq X1 hx hby d13_11 (by decide) (pc' := 54) (by decide) (pn := 14) rfl (fun z => absurd z (by decide)) (fun _ => ?_)
  refine g_aloadN X1 hx hby d13_14 (pc' := 15) rfl rfl rfl ?_
  refine g_castY X1 hx hZ hown hby d13_15 (pc' := 18) rfl (w_75 hw) e1 (Ins.self E_2) ?_
  intro T2 X2 e2
  refine g_astoreN X2 hx hby d13_18 (pc' := 19) rfl rfl (l' := #[.val (.ref q1), .val (.ref q2), .val (.ref q2)]) rfl ?_
  refine g_getS X2 hx hZ hown hby d13_19 (pc' := 22) rfl (w_19 hw) e2 (SS.2.ext O0.2) ?_
  intro T3 X3 e3
  refine g_if_eq X3 hx hby d13_22 (by decide) (pc' := 36) (by decide) (pn := 25) rfl (fun z => absurd z SS.1) (fun hc22_4 => ?_)
  refine g_aloadN X3 hx hby d13_25 (pc' := 26) rfl rfl rfl ?_
  refine g_get X3 hx hZ hown hby d13_26 (pc' := 29) rfl (w_31 hw) e3 C_1 ?_
  intro T5 X5 e5
  refine g_aloadN X5 hx hby d13_29 (pc' := 30) rfl rfl rfl ?_
  refine g_get X5 hx hZ hown hby d13_30 (pc' := 33) rfl (w_31 hw) e5 C_2 ?_
  intro T6 X6 e6
  refine g_icmp_ne X6 hx hby d13_33 (by decide) (pc' := 54) (by decide) (pn := 36) rfl (fun z => absurd z (by decide)) (fun _ => ?_)
  refine g_aloadN X6 hx hby d13_36 (pc' := 37) rfl rfl rfl ?_
  refine g_get X6 hx hZ hown hby d13_37 (pc' := 40) rfl (w_33 hw) e6 V_1 ?_
  intro T7 X7 e7
  refine g_aloadN X7 hx hby d13_40 (pc' := 41) rfl rfl rfl ?_
  refine g_get X7 hx hZ hown hby d13_41 (pc' := 44) rfl (w_33 hw) e7 V_2 ?_
  intro T8 X8 e8
  refine g_callS X8 hx hZ hown (W := 0) (argsL := [.ref b1, .ref b2]) (rest := []) hby d13_44 (pc' := 47) rfl (by rw [hml]; rfl) (w_76 hw) (w_77 hw) (w_78 hw) (w_79 hw) (by decide) (rmLE12 l Z a0 hw [] b1 b2 h0 n0 x0 y0 y1 _ _ A_1 A_2) e8 (by decide) (by decide) (by decide) (by decide) rfl pd__28_5bB_5bB_29Z rfl rfl (Nat.le_of_eq rfl) ?_
  rintro _ T9 L9 X9 ⟨rfl, N9q, e9⟩
  have N9 := Fr.app N0 N9q
  show GoE p e below _ (T9.setTop (mkF m 47 #[.val (.ref q1), .val (.ref q2), .val (.ref q2)] [.int (0 : Int32)]))
  refine g_if_eq X9 hx hby d13_47 (by decide) (pc' := 54) (by decide) (pn := 50) rfl (fun _ => ?_) (fun z => absurd z (by decide))
  refine g_iconst X9 hx hby d13_54 (pc' := 55) rfl (z := (0 : Int32)) rfl ?_
  exact g_retN (Q := (fun v h L => v = some (.int (0 : Int32)) ∧ Fr n0 L ∧ h = h0)) (w := (0 : Int32)) X9 hx hby d13_55 hret (by simp) (by first | decide | rfl) hlk (by decide) (by decide) ⟨rfl, N9, e9⟩
theorem ef_rmEQ20 (q1 : Addr) (q2 : Addr) (m : MethodId) : entryFrame m #[.ref q1, .ref q2] 3 = mkF m 0 #[.val (.ref q1), .val (.ref q2), .unset] [] := by
  first | (simp [entryFrame, mkF, argsToLocals, Value.category]; done) | rfl
set_option maxRecDepth 65536 in
set_option maxHeartbeats 40000000 in
theorem rmEQ20 (l : Launch) (Z : State) (a0 : Array Value) (hw : ∀ d ∈ tables_1, d.before a0 Z = true) (ws : List Jvm.Cond) (q1 : Addr) (q2 : Addr) (h0 : Heap) (n0 : Nat) (x0 x1 : Int32) (b1 b2 : Addr) (k1 k2 : ClassId) (E_1 : Exa Z h0 q1 "java/lang/String") (E_2 : Exa Z h0 q2 "java/lang/String") (V_1 : Fld Z h0 q1 "java/lang/String" "value" "[B" (.ref b1)) (V_2 : Fld Z h0 q2 "java/lang/String" "value" "[B" (.ref b2)) (C_1 : Fld Z h0 q1 "java/lang/String" "coder" "B" (.int (0 : Int32))) (C_2 : Fld Z h0 q2 "java/lang/String" "coder" "B" (.int (0 : Int32))) (A_1 : Arv Z h0 b1 k1 .byte (2 : Int32) [.int (lat x0), .int (lat x1)] (.int 0)) (A_2 : Arv Z h0 b2 k2 .byte (0 : Int32) [] (.int 0)) (hne : q1 ≠ q2) (cs : Int32) (SS : SSt Z cs) (O0 : Old Z n0 h0) :
    Ctr l Z ({ cls := "java/lang/String", name := "equals", desc := "(Ljava/lang/Object;)Z" } : Jvm.MethodName) jdk_42_method_66_code 3 (some .boolean) ws ({ frames := 1, cells := 0, slots := 0, locals := 14 } : Room) #[.ref q1, .ref q2] h0 (fun v h L => v = some (.int (0 : Int32)) ∧ Fr n0 L ∧ h = h0) := by
  refine Ctr.enter (Ls := #[.val (.ref q1), .val (.ref q2), .unset]) (by decide +kernel) (fun m => ef_rmEQ20 q1 q2 m) ?_
  intro p e s m below meth c T hx hby hml hown hnm hret hlk hZ hh X0 e0
  have N0 := Fr.nil n0
  refine g_aloadN X0 hx hby d13_0 (pc' := 1) rfl rfl rfl ?_
  refine g_aloadN X0 hx hby d13_1 (pc' := 2) rfl rfl rfl ?_
  refine g_acmp_yes X0 hx hby d13_2 (by decide) (pc' := 7) (by decide) rfl rfl (by simp [Jvm.Free.XT.acmp, hne]) ?_
  refine g_aloadN X0 hx hby d13_7 (pc' := 8) rfl rfl rfl ?_
  refine g_instY X0 hx hZ hown hby d13_8 (pc' := 11) rfl (w_75 hw) e0 (Ins.self E_2) ?_
  intro T1 X1 e1
  refine g_if_eq X1 hx hby d13_11 (by decide) (pc' := 54) (by decide) (pn := 14) rfl (fun z => absurd z (by decide)) (fun _ => ?_)
  refine g_aloadN X1 hx hby d13_14 (pc' := 15) rfl rfl rfl ?_
  refine g_castY X1 hx hZ hown hby d13_15 (pc' := 18) rfl (w_75 hw) e1 (Ins.self E_2) ?_
  intro T2 X2 e2
  refine g_astoreN X2 hx hby d13_18 (pc' := 19) rfl rfl (l' := #[.val (.ref q1), .val (.ref q2), .val (.ref q2)]) rfl ?_
  refine g_getS X2 hx hZ hown hby d13_19 (pc' := 22) rfl (w_19 hw) e2 (SS.2.ext O0.2) ?_
  intro T3 X3 e3
  refine g_if_eq X3 hx hby d13_22 (by decide) (pc' := 36) (by decide) (pn := 25) rfl (fun z => absurd z SS.1) (fun hc22_4 => ?_)
  refine g_aloadN X3 hx hby d13_25 (pc' := 26) rfl rfl rfl ?_
  refine g_get X3 hx hZ hown hby d13_26 (pc' := 29) rfl (w_31 hw) e3 C_1 ?_
  intro T5 X5 e5
  refine g_aloadN X5 hx hby d13_29 (pc' := 30) rfl rfl rfl ?_
  refine g_get X5 hx hZ hown hby d13_30 (pc' := 33) rfl (w_31 hw) e5 C_2 ?_
  intro T6 X6 e6
  refine g_icmp_ne X6 hx hby d13_33 (by decide) (pc' := 54) (by decide) (pn := 36) rfl (fun z => absurd z (by decide)) (fun _ => ?_)
  refine g_aloadN X6 hx hby d13_36 (pc' := 37) rfl rfl rfl ?_
  refine g_get X6 hx hZ hown hby d13_37 (pc' := 40) rfl (w_33 hw) e6 V_1 ?_
  intro T7 X7 e7
  refine g_aloadN X7 hx hby d13_40 (pc' := 41) rfl rfl rfl ?_
  refine g_get X7 hx hZ hown hby d13_41 (pc' := 44) rfl (w_33 hw) e7 V_2 ?_
  intro T8 X8 e8
  refine g_callS X8 hx hZ hown (W := 0) (argsL := [.ref b1, .ref b2]) (rest := []) hby d13_44 (pc' := 47) rfl (by rw [hml]; rfl) (w_76 hw) (w_77 hw) (w_78 hw) (w_79 hw) (by decide) (rmLE20 l Z a0 hw [] b1 b2 h0 n0 x0 x1 _ _ A_1 A_2) e8 (by decide) (by decide) (by decide) (by decide) rfl pd__28_5bB_5bB_29Z rfl rfl (Nat.le_of_eq rfl) ?_
  rintro _ T9 L9 X9 ⟨rfl, N9q, e9⟩
  have N9 := Fr.app N0 N9q
  show GoE p e below _ (T9.setTop (mkF m 47 #[.val (.ref q1), .val (.ref q2), .val (.ref q2)] [.int (0 : Int32)]))
  refine g_if_eq X9 hx hby d13_47 (by decide) (pc' := 54) (by decide) (pn := 50) rfl (fun _ => ?_) (fun z => absurd z (by decide))
  refine g_iconst X9 hx hby d13_54 (pc' := 55) rfl (z := (0 : Int32)) rfl ?_
  exact g_retN (Q := (fun v h L => v = some (.int (0 : Int32)) ∧ Fr n0 L ∧ h = h0)) (w := (0 : Int32)) X9 hx hby d13_55 hret (by simp) (by first | decide | rfl) hlk (by decide) (by decide) ⟨rfl, N9, e9⟩
theorem ef_rmEQ21 (q1 : Addr) (q2 : Addr) (m : MethodId) : entryFrame m #[.ref q1, .ref q2] 3 = mkF m 0 #[.val (.ref q1), .val (.ref q2), .unset] [] := by
  first | (simp [entryFrame, mkF, argsToLocals, Value.category]; done) | rfl
set_option maxRecDepth 65536 in
set_option maxHeartbeats 40000000 in
theorem rmEQ21 (l : Launch) (Z : State) (a0 : Array Value) (hw : ∀ d ∈ tables_1, d.before a0 Z = true) (ws : List Jvm.Cond) (q1 : Addr) (q2 : Addr) (h0 : Heap) (n0 : Nat) (x0 x1 : Int32) (y0 : Int32) (b1 b2 : Addr) (k1 k2 : ClassId) (E_1 : Exa Z h0 q1 "java/lang/String") (E_2 : Exa Z h0 q2 "java/lang/String") (V_1 : Fld Z h0 q1 "java/lang/String" "value" "[B" (.ref b1)) (V_2 : Fld Z h0 q2 "java/lang/String" "value" "[B" (.ref b2)) (C_1 : Fld Z h0 q1 "java/lang/String" "coder" "B" (.int (0 : Int32))) (C_2 : Fld Z h0 q2 "java/lang/String" "coder" "B" (.int (0 : Int32))) (A_1 : Arv Z h0 b1 k1 .byte (2 : Int32) [.int (lat x0), .int (lat x1)] (.int 0)) (A_2 : Arv Z h0 b2 k2 .byte (1 : Int32) [.int (lat y0)] (.int 0)) (hne : q1 ≠ q2) (cs : Int32) (SS : SSt Z cs) (O0 : Old Z n0 h0) :
    Ctr l Z ({ cls := "java/lang/String", name := "equals", desc := "(Ljava/lang/Object;)Z" } : Jvm.MethodName) jdk_42_method_66_code 3 (some .boolean) ws ({ frames := 1, cells := 0, slots := 0, locals := 14 } : Room) #[.ref q1, .ref q2] h0 (fun v h L => v = some (.int (0 : Int32)) ∧ Fr n0 L ∧ h = h0) := by
  refine Ctr.enter (Ls := #[.val (.ref q1), .val (.ref q2), .unset]) (by decide +kernel) (fun m => ef_rmEQ21 q1 q2 m) ?_
  intro p e s m below meth c T hx hby hml hown hnm hret hlk hZ hh X0 e0
  have N0 := Fr.nil n0
  refine g_aloadN X0 hx hby d13_0 (pc' := 1) rfl rfl rfl ?_
  refine g_aloadN X0 hx hby d13_1 (pc' := 2) rfl rfl rfl ?_
  refine g_acmp_yes X0 hx hby d13_2 (by decide) (pc' := 7) (by decide) rfl rfl (by simp [Jvm.Free.XT.acmp, hne]) ?_
  refine g_aloadN X0 hx hby d13_7 (pc' := 8) rfl rfl rfl ?_
  refine g_instY X0 hx hZ hown hby d13_8 (pc' := 11) rfl (w_75 hw) e0 (Ins.self E_2) ?_
  intro T1 X1 e1
  refine g_if_eq X1 hx hby d13_11 (by decide) (pc' := 54) (by decide) (pn := 14) rfl (fun z => absurd z (by decide)) (fun _ => ?_)
  refine g_aloadN X1 hx hby d13_14 (pc' := 15) rfl rfl rfl ?_
  refine g_castY X1 hx hZ hown hby d13_15 (pc' := 18) rfl (w_75 hw) e1 (Ins.self E_2) ?_
  intro T2 X2 e2
  refine g_astoreN X2 hx hby d13_18 (pc' := 19) rfl rfl (l' := #[.val (.ref q1), .val (.ref q2), .val (.ref q2)]) rfl ?_
  refine g_getS X2 hx hZ hown hby d13_19 (pc' := 22) rfl (w_19 hw) e2 (SS.2.ext O0.2) ?_
  intro T3 X3 e3
  refine g_if_eq X3 hx hby d13_22 (by decide) (pc' := 36) (by decide) (pn := 25) rfl (fun z => absurd z SS.1) (fun hc22_4 => ?_)
  refine g_aloadN X3 hx hby d13_25 (pc' := 26) rfl rfl rfl ?_
  refine g_get X3 hx hZ hown hby d13_26 (pc' := 29) rfl (w_31 hw) e3 C_1 ?_
  intro T5 X5 e5
  refine g_aloadN X5 hx hby d13_29 (pc' := 30) rfl rfl rfl ?_
  refine g_get X5 hx hZ hown hby d13_30 (pc' := 33) rfl (w_31 hw) e5 C_2 ?_
  intro T6 X6 e6
  refine g_icmp_ne X6 hx hby d13_33 (by decide) (pc' := 54) (by decide) (pn := 36) rfl (fun z => absurd z (by decide)) (fun _ => ?_)
  refine g_aloadN X6 hx hby d13_36 (pc' := 37) rfl rfl rfl ?_
  refine g_get X6 hx hZ hown hby d13_37 (pc' := 40) rfl (w_33 hw) e6 V_1 ?_
  intro T7 X7 e7
  refine g_aloadN X7 hx hby d13_40 (pc' := 41) rfl rfl rfl ?_
  refine g_get X7 hx hZ hown hby d13_41 (pc' := 44) rfl (w_33 hw) e7 V_2 ?_
  intro T8 X8 e8
  refine g_callS X8 hx hZ hown (W := 0) (argsL := [.ref b1, .ref b2]) (rest := []) hby d13_44 (pc' := 47) rfl (by rw [hml]; rfl) (w_76 hw) (w_77 hw) (w_78 hw) (w_79 hw) (by decide) (rmLE21 l Z a0 hw [] b1 b2 h0 n0 x0 x1 y0 _ _ A_1 A_2) e8 (by decide) (by decide) (by decide) (by decide) rfl pd__28_5bB_5bB_29Z rfl rfl (Nat.le_of_eq rfl) ?_
  rintro _ T9 L9 X9 ⟨rfl, N9q, e9⟩
  have N9 := Fr.app N0 N9q
  show GoE p e below _ (T9.setTop (mkF m 47 #[.val (.ref q1), .val (.ref q2), .val (.ref q2)] [.int (0 : Int32)]))
  refine g_if_eq X9 hx hby d13_47 (by decide) (pc' := 54) (by decide) (pn := 50) rfl (fun _ => ?_) (fun z => absurd z (by decide))
  refine g_iconst X9 hx hby d13_54 (pc' := 55) rfl (z := (0 : Int32)) rfl ?_
  exact g_retN (Q := (fun v h L => v = some (.int (0 : Int32)) ∧ Fr n0 L ∧ h = h0)) (w := (0 : Int32)) X9 hx hby d13_55 hret (by simp) (by first | decide | rfl) hlk (by decide) (by decide) ⟨rfl, N9, e9⟩
theorem ef_rmEQ22 (q1 : Addr) (q2 : Addr) (m : MethodId) : entryFrame m #[.ref q1, .ref q2] 3 = mkF m 0 #[.val (.ref q1), .val (.ref q2), .unset] [] := by
  first | (simp [entryFrame, mkF, argsToLocals, Value.category]; done) | rfl
set_option maxRecDepth 65536 in
set_option maxHeartbeats 40000000 in
theorem rmEQ22 (l : Launch) (Z : State) (a0 : Array Value) (hw : ∀ d ∈ tables_1, d.before a0 Z = true) (ws : List Jvm.Cond) (q1 : Addr) (q2 : Addr) (h0 : Heap) (n0 : Nat) (x0 x1 : Int32) (y0 y1 : Int32) (b1 b2 : Addr) (k1 k2 : ClassId) (E_1 : Exa Z h0 q1 "java/lang/String") (E_2 : Exa Z h0 q2 "java/lang/String") (V_1 : Fld Z h0 q1 "java/lang/String" "value" "[B" (.ref b1)) (V_2 : Fld Z h0 q2 "java/lang/String" "value" "[B" (.ref b2)) (C_1 : Fld Z h0 q1 "java/lang/String" "coder" "B" (.int (0 : Int32))) (C_2 : Fld Z h0 q2 "java/lang/String" "coder" "B" (.int (0 : Int32))) (A_1 : Arv Z h0 b1 k1 .byte (2 : Int32) [.int (lat x0), .int (lat x1)] (.int 0)) (A_2 : Arv Z h0 b2 k2 .byte (2 : Int32) [.int (lat y0), .int (lat y1)] (.int 0)) (hne : q1 ≠ q2) (cs : Int32) (SS : SSt Z cs) (O0 : Old Z n0 h0) :
    Ctr l Z ({ cls := "java/lang/String", name := "equals", desc := "(Ljava/lang/Object;)Z" } : Jvm.MethodName) jdk_42_method_66_code 3 (some .boolean) ws ({ frames := 1, cells := 0, slots := 0, locals := 14 } : Room) #[.ref q1, .ref q2] h0 (fun v h L => v = some (.int (e2V x0 y0 x1 y1)) ∧ Fr n0 L ∧ h = h0) := by
  refine Ctr.enter (Ls := #[.val (.ref q1), .val (.ref q2), .unset]) (by decide +kernel) (fun m => ef_rmEQ22 q1 q2 m) ?_
  intro p e s m below meth c T hx hby hml hown hnm hret hlk hZ hh X0 e0
  have N0 := Fr.nil n0
  refine g_aloadN X0 hx hby d13_0 (pc' := 1) rfl rfl rfl ?_
  refine g_aloadN X0 hx hby d13_1 (pc' := 2) rfl rfl rfl ?_
  refine g_acmp_yes X0 hx hby d13_2 (by decide) (pc' := 7) (by decide) rfl rfl (by simp [Jvm.Free.XT.acmp, hne]) ?_
  refine g_aloadN X0 hx hby d13_7 (pc' := 8) rfl rfl rfl ?_
  refine g_instY X0 hx hZ hown hby d13_8 (pc' := 11) rfl (w_75 hw) e0 (Ins.self E_2) ?_
  intro T1 X1 e1
  refine g_if_eq X1 hx hby d13_11 (by decide) (pc' := 54) (by decide) (pn := 14) rfl (fun z => absurd z (by decide)) (fun _ => ?_)
  refine g_aloadN X1 hx hby d13_14 (pc' := 15) rfl rfl rfl ?_
  refine g_castY X1 hx hZ hown hby d13_15 (pc' := 18) rfl (w_75 hw) e1 (Ins.self E_2) ?_
  intro T2 X2 e2
  refine g_astoreN X2 hx hby d13_18 (pc' := 19) rfl rfl (l' := #[.val (.ref q1), .val (.ref q2), .val (.ref q2)]) rfl ?_
  refine g_getS X2 hx hZ hown hby d13_19 (pc' := 22) rfl (w_19 hw) e2 (SS.2.ext O0.2) ?_
  intro T3 X3 e3
  refine g_if_eq X3 hx hby d13_22 (by decide) (pc' := 36) (by decide) (pn := 25) rfl (fun z => absurd z SS.1) (fun hc22_4 => ?_)
  refine g_aloadN X3 hx hby d13_25 (pc' := 26) rfl rfl rfl ?_
  refine g_get X3 hx hZ hown hby d13_26 (pc' := 29) rfl (w_31 hw) e3 C_1 ?_
  intro T5 X5 e5
  refine g_aloadN X5 hx hby d13_29 (pc' := 30) rfl rfl rfl ?_
  refine g_get X5 hx hZ hown hby d13_30 (pc' := 33) rfl (w_31 hw) e5 C_2 ?_
  intro T6 X6 e6
  refine g_icmp_ne X6 hx hby d13_33 (by decide) (pc' := 54) (by decide) (pn := 36) rfl (fun z => absurd z (by decide)) (fun _ => ?_)
  refine g_aloadN X6 hx hby d13_36 (pc' := 37) rfl rfl rfl ?_
  refine g_get X6 hx hZ hown hby d13_37 (pc' := 40) rfl (w_33 hw) e6 V_1 ?_
  intro T7 X7 e7
  refine g_aloadN X7 hx hby d13_40 (pc' := 41) rfl rfl rfl ?_
  refine g_get X7 hx hZ hown hby d13_41 (pc' := 44) rfl (w_33 hw) e7 V_2 ?_
  intro T8 X8 e8
  refine g_callS X8 hx hZ hown (W := 0) (argsL := [.ref b1, .ref b2]) (rest := []) hby d13_44 (pc' := 47) rfl (by rw [hml]; rfl) (w_76 hw) (w_77 hw) (w_78 hw) (w_79 hw) (by decide) (rmLE22 l Z a0 hw [] b1 b2 h0 n0 x0 x1 y0 y1 _ _ A_1 A_2) e8 (by decide) (by decide) (by decide) (by decide) rfl pd__28_5bB_5bB_29Z rfl rfl (Nat.le_of_eq rfl) ?_
  rintro _ T9 L9 X9 ⟨rfl, N9q, e9⟩
  have N9 := Fr.app N0 N9q
  show GoE p e below _ (T9.setTop (mkF m 47 #[.val (.ref q1), .val (.ref q2), .val (.ref q2)] [.int (e2V x0 y0 x1 y1)]))
  refine g_if_eq X9 hx hby d13_47 (by decide) (pc' := 54) (by decide) (pn := 50) rfl (fun hc47_10 => ?_) (fun hc47_10 => ?_)
  · refine g_iconst X9 hx hby d13_54 (pc' := 55) rfl (z := (0 : Int32)) rfl ?_
    exact g_retN (Q := (fun v h L => v = some (.int (e2V x0 y0 x1 y1)) ∧ Fr n0 L ∧ h = h0)) (w := (0 : Int32)) X9 hx hby d13_55 hret (by simp) (by first | decide | rfl) hlk (by decide) (by decide) ⟨congrArg (fun z : Int32 => some (Value.int z)) (hc47_10.symm), N9, e9⟩
  · refine g_iconst X9 hx hby d13_50 (pc' := 51) rfl (z := (1 : Int32)) rfl ?_
    refine g_goto X9 hx hby d13_51 (by decide) (pc' := 55) (by decide) ?_
    exact g_retN (Q := (fun v h L => v = some (.int (e2V x0 y0 x1 y1)) ∧ Fr n0 L ∧ h = h0)) (w := (1 : Int32)) X9 hx hby d13_55 hret (by simp) (by first | decide | rfl) hlk (by decide) (by decide) ⟨congrArg (fun z : Int32 => some (Value.int z)) (own_01b _ _ _ _ hc47_10), N9, e9⟩
theorem rmEQ (l : Launch) (Z : State) (a0 : Array Value) (hw : ∀ d ∈ tables_1, d.before a0 Z = true) (ws : List Jvm.Cond) (q1 q2 : Addr) (h0 : Heap) (n0 : Nat) (xs ys : List Int32) (T1 : Txt Z h0 q1 xs) (T2 : Txt Z h0 q2 ys) (hne : q1 ≠ q2) (cs : Int32) (SS : SSt Z cs) (O0 : Old Z n0 h0) : Ctr l Z ({ cls := "java/lang/String", name := "equals", desc := "(Ljava/lang/Object;)Z" } : Jvm.MethodName) jdk_42_method_66_code 3 (some .boolean) ws ({ frames := 1, cells := 0, slots := 0, locals := 14 } : Room) #[.ref q1, .ref q2] h0 (fun v h L => v = some (.int (eqT xs ys)) ∧ Fr n0 L ∧ h = h0) := by
  obtain ⟨E1, hx, hl1, b1, k1, V1, C1, A1⟩ := T1
  obtain ⟨E2, hy, hl2, b2, k2, V2, C2, A2⟩ := T2
  match xs, ys, hx, hy, hl1, hl2, A1, A2 with
  | [], [], hx, hy, _, _, A1, A2 => exact (rmEQ00 l Z a0 hw ws q1 q2 h0 n0  b1 b2 k1 k2 E1 E2 V1 V2 C1 C2 A1 A2 hne cs SS O0).imp fun v h L z => ⟨z.1.trans (congrArg (fun z : Int32 => some (Value.int z)) ((by simp [eqT]))), z.2⟩
  | [], [y0], hx, hy, _, _, A1, A2 => exact (rmEQ01 l Z a0 hw ws q1 q2 h0 n0 y0 b1 b2 k1 k2 E1 E2 V1 V2 C1 C2 A1 A2 hne cs SS O0).imp fun v h L z => ⟨z.1.trans (congrArg (fun z : Int32 => some (Value.int z)) ((by simp [eqT]))), z.2⟩
  | [], [y0, y1], hx, hy, _, _, A1, A2 => exact (rmEQ02 l Z a0 hw ws q1 q2 h0 n0 y0 y1 b1 b2 k1 k2 E1 E2 V1 V2 C1 C2 A1 A2 hne cs SS O0).imp fun v h L z => ⟨z.1.trans (congrArg (fun z : Int32 => some (Value.int z)) ((by simp [eqT]))), z.2⟩
  | [x0], [], hx, hy, _, _, A1, A2 => exact (rmEQ10 l Z a0 hw ws q1 q2 h0 n0 x0 b1 b2 k1 k2 E1 E2 V1 V2 C1 C2 A1 A2 hne cs SS O0).imp fun v h L z => ⟨z.1.trans (congrArg (fun z : Int32 => some (Value.int z)) ((by simp [eqT]))), z.2⟩
  | [x0], [y0], hx, hy, _, _, A1, A2 => exact (rmEQ11 l Z a0 hw ws q1 q2 h0 n0 x0 y0 b1 b2 k1 k2 E1 E2 V1 V2 C1 C2 A1 A2 hne cs SS O0).imp fun v h L z => ⟨z.1.trans (congrArg (fun z : Int32 => some (Value.int z)) (own_e1 (hx x0 (by simp)) (hy y0 (by simp)))), z.2⟩
  | [x0], [y0, y1], hx, hy, _, _, A1, A2 => exact (rmEQ12 l Z a0 hw ws q1 q2 h0 n0 x0 y0 y1 b1 b2 k1 k2 E1 E2 V1 V2 C1 C2 A1 A2 hne cs SS O0).imp fun v h L z => ⟨z.1.trans (congrArg (fun z : Int32 => some (Value.int z)) ((by simp [eqT]))), z.2⟩
  | [x0, x1], [], hx, hy, _, _, A1, A2 => exact (rmEQ20 l Z a0 hw ws q1 q2 h0 n0 x0 x1 b1 b2 k1 k2 E1 E2 V1 V2 C1 C2 A1 A2 hne cs SS O0).imp fun v h L z => ⟨z.1.trans (congrArg (fun z : Int32 => some (Value.int z)) ((by simp [eqT]))), z.2⟩
  | [x0, x1], [y0], hx, hy, _, _, A1, A2 => exact (rmEQ21 l Z a0 hw ws q1 q2 h0 n0 x0 x1 y0 b1 b2 k1 k2 E1 E2 V1 V2 C1 C2 A1 A2 hne cs SS O0).imp fun v h L z => ⟨z.1.trans (congrArg (fun z : Int32 => some (Value.int z)) ((by simp [eqT]))), z.2⟩
  | [x0, x1], [y0, y1], hx, hy, _, _, A1, A2 => exact (rmEQ22 l Z a0 hw ws q1 q2 h0 n0 x0 x1 y0 y1 b1 b2 k1 k2 E1 E2 V1 V2 C1 C2 A1 A2 hne cs SS O0).imp fun v h L z => ⟨z.1.trans (congrArg (fun z : Int32 => some (Value.int z)) (own_e2 (hx x0 (by simp)) (hy y0 (by simp)) (hx x1 (by simp)) (hy y1 (by simp)))), z.2⟩
  | _ :: _ :: _ :: _, _, _, _, hl, _, _, _ => exact absurd hl (by simp)
  | _, _ :: _ :: _ :: _, _, _, _, hl, _, _ => exact absurd hl (by simp)
theorem ef_rmEQs (q1 : Addr) (m : MethodId) : entryFrame m #[.ref q1, .ref q1] 3 = mkF m 0 #[.val (.ref q1), .val (.ref q1), .unset] [] := by
  first | (simp [entryFrame, mkF, argsToLocals, Value.category]; done) | rfl
set_option maxRecDepth 65536 in
set_option maxHeartbeats 40000000 in
theorem rmEQs (l : Launch) (Z : State) (a0 : Array Value) (hw : ∀ d ∈ tables_1, d.before a0 Z = true) (ws : List Jvm.Cond) (q1 : Addr) (h0 : Heap) (n0 : Nat)  :
    Ctr l Z ({ cls := "java/lang/String", name := "equals", desc := "(Ljava/lang/Object;)Z" } : Jvm.MethodName) jdk_42_method_66_code 3 (some .boolean) ws ({ frames := 1, cells := 0, slots := 0, locals := 14 } : Room) #[.ref q1, .ref q1] h0 (fun v h L => v = some (.int (1 : Int32)) ∧ Fr n0 L ∧ h = h0) := by
  refine Ctr.enter (Ls := #[.val (.ref q1), .val (.ref q1), .unset]) (by decide +kernel) (fun m => ef_rmEQs q1 m) ?_
  intro p e s m below meth c T hx hby hml hown hnm hret hlk hZ hh X0 e0
  have N0 := Fr.nil n0
  refine g_aloadN X0 hx hby d13_0 (pc' := 1) rfl rfl rfl ?_
  refine g_aloadN X0 hx hby d13_1 (pc' := 2) rfl rfl rfl ?_
  refine g_acmp_no X0 hx hby d13_2 (pn := 5) rfl rfl rfl (by simp [Jvm.Free.XT.acmp]) ?_
  refine g_iconst X0 hx hby d13_5 (pc' := 6) rfl (z := (1 : Int32)) rfl ?_
  exact g_retN (Q := (fun v h L => v = some (.int (1 : Int32)) ∧ Fr n0 L ∧ h = h0)) (w := (1 : Int32)) X0 hx hby d13_6 hret (by simp) (by first | decide | rfl) hlk (by decide) (by decide) ⟨rfl, N0, e0⟩
theorem ef_rmQs (q1 : Addr) (m : MethodId) : entryFrame m #[.ref q1, .ref q1] 3 = mkF m 0 #[.val (.ref q1), .val (.ref q1), .unset] [] := by
  first | (simp [entryFrame, mkF, argsToLocals, Value.category]; done) | rfl
theorem pn_rmQs : plainName "com/example/phaseline/phaseline/game/Side" = true := by first | (simp [plainName, overriddenIn]; done) | decide +kernel
set_option maxRecDepth 65536 in
set_option maxHeartbeats 40000000 in
theorem rmQs (l : Launch) (Z : State) (a0 : Array Value) (hw : ∀ d ∈ tables_1, d.before a0 Z = true) (ws : List Jvm.Cond) (q1 : Addr) (h0 : Heap) (n0 : Nat) (i1 m1 : Addr) (E_q1 : Exa Z h0 q1 "com/example/phaseline/phaseline/game/Side") (I_q1 : Fld Z h0 q1 "com/example/phaseline/phaseline/game/Side" "id" "Ljava/lang/String;" (.ref i1)) (M_q1 : Fld Z h0 q1 "com/example/phaseline/phaseline/game/Side" "name" "Ljava/lang/String;" (.ref m1)) (E_i : Exa Z h0 i1 "java/lang/String") (E_m : Exa Z h0 m1 "java/lang/String") (cs : Int32) (SS : SSt Z cs) (O0 : Old Z n0 h0) :
    Ctr l Z ({ cls := "com/example/phaseline/phaseline/game/Side", name := "equals", desc := "(Ljava/lang/Object;)Z" } : Jvm.MethodName) prog_21_method_2_code 3 (some .boolean) ws ({ frames := 2, cells := 0, slots := 0, locals := 28 } : Room) #[.ref q1, .ref q1] h0 (fun v h L => v = some (.int (1 : Int32)) ∧ Fr n0 L ∧ h = h0) := by
  refine Ctr.enter (Ls := #[.val (.ref q1), .val (.ref q1), .unset]) (plainFor_of_name pn_rmQs) (fun m => ef_rmQs q1 m) ?_
  intro p e s m below meth c T hx hby hml hown hnm hret hlk hZ hh X0 e0
  have N0 := Fr.nil n0
  refine g_aloadN X0 hx hby d12_0 (pc' := 1) rfl rfl rfl ?_
  refine g_instY X0 hx hZ hown hby d12_1 (pc' := 4) rfl (w_68 hw) e0 (Ins.self E_q1) ?_
  intro T1 X1 e1
  refine g_if_eq X1 hx hby d12_4 (by decide) (pc' := 44) (by decide) (pn := 7) rfl (fun z => absurd z (by decide)) (fun _ => ?_)
  refine g_aloadN X1 hx hby d12_7 (pc' := 8) rfl rfl rfl ?_
  refine g_castY X1 hx hZ hown hby d12_8 (pc' := 11) rfl (w_68 hw) e1 (Ins.self E_q1) ?_
  intro T2 X2 e2
  refine g_astoreN X2 hx hby d12_11 (pc' := 12) rfl rfl (l' := #[.val (.ref q1), .val (.ref q1), .val (.ref q1)]) rfl ?_
  refine g_aloadN X2 hx hby d12_12 (pc' := 13) rfl rfl rfl ?_
  refine g_get X2 hx hZ hown hby d12_13 (pc' := 16) rfl (w_56 hw) e2 I_q1 ?_
  intro T3 X3 e3
  refine g_aloadN X3 hx hby d12_16 (pc' := 17) rfl rfl rfl ?_
  refine g_get X3 hx hZ hown hby d12_17 (pc' := 20) rfl (w_56 hw) e3 I_q1 ?_
  intro T4 X4 e4
  refine g_callV X4 hx hZ hown (W := 0) (argsL := [.ref i1]) (b := i1) (rest := []) hby d12_20 (pc' := 23) rfl (by rw [hml]; rfl) (w_70 hw) (w_71 hw) (w_73 hw) (notFace_of_selects (args := #[]) (mvT hZ (w_73 hw))) (w_72 hw) (w_8 hw) (w_74 hw) (by decide) (rmEQs l Z a0 hw [] i1 h0 n0) e4 E_i (by decide) (by decide) (by decide) (by decide) rfl pd__28Ljava_2flang_2fObject_3b_29Z rfl rfl (Nat.le_of_eq rfl) ?_
  rintro _ T5 L5 X5 ⟨rfl, N5q, e5⟩
  have N5 := Fr.app N0 N5q
  show GoE p e below _ (T5.setTop (mkF m 23 #[.val (.ref q1), .val (.ref q1), .val (.ref q1)] [.int (1 : Int32)]))
  refine g_if_eq X5 hx hby d12_23 (by decide) (pc' := 44) (by decide) (pn := 26) rfl (fun z => absurd z (by decide)) (fun _ => ?_)
  refine g_aloadN X5 hx hby d12_26 (pc' := 27) rfl rfl rfl ?_
  refine g_get X5 hx hZ hown hby d12_27 (pc' := 30) rfl (w_58 hw) e5 M_q1 ?_
  intro T6 X6 e6
  refine g_aloadN X6 hx hby d12_30 (pc' := 31) rfl rfl rfl ?_
  refine g_get X6 hx hZ hown hby d12_31 (pc' := 34) rfl (w_58 hw) e6 M_q1 ?_
  intro T7 X7 e7
  refine g_callV X7 hx hZ hown (W := 0) (argsL := [.ref m1]) (b := m1) (rest := []) hby d12_34 (pc' := 37) rfl (by rw [hml]; rfl) (w_70 hw) (w_71 hw) (w_73 hw) (notFace_of_selects (args := #[]) (mvT hZ (w_73 hw))) (w_72 hw) (w_8 hw) (w_74 hw) (by decide) (rmEQs l Z a0 hw [] m1 h0 n0) e7 E_m (by decide) (by decide) (by decide) (by decide) rfl pd__28Ljava_2flang_2fObject_3b_29Z rfl rfl (Nat.le_of_eq rfl) ?_
  rintro _ T8 L8 X8 ⟨rfl, N8q, e8⟩
  have N8 := Fr.app N5 N8q
  show GoE p e below _ (T8.setTop (mkF m 37 #[.val (.ref q1), .val (.ref q1), .val (.ref q1)] [.int (1 : Int32)]))
  refine g_if_eq X8 hx hby d12_37 (by decide) (pc' := 44) (by decide) (pn := 40) rfl (fun z => absurd z (by decide)) (fun _ => ?_)
  refine g_iconst X8 hx hby d12_40 (pc' := 41) rfl (z := (1 : Int32)) rfl ?_
  refine g_goto X8 hx hby d12_41 (by decide) (pc' := 45) (by decide) ?_
  exact g_retN (Q := (fun v h L => v = some (.int (1 : Int32)) ∧ Fr n0 L ∧ h = h0)) (w := (1 : Int32)) X8 hx hby d12_45 hret (by simp) (by first | decide | rfl) hlk (by decide) (by decide) ⟨rfl, N8, e8⟩
theorem ef_rmQd (q1 : Addr) (q2 : Addr) (m : MethodId) : entryFrame m #[.ref q1, .ref q2] 3 = mkF m 0 #[.val (.ref q1), .val (.ref q2), .unset] [] := by
  first | (simp [entryFrame, mkF, argsToLocals, Value.category]; done) | rfl
theorem pn_rmQd : plainName "com/example/phaseline/phaseline/game/Side" = true := by first | (simp [plainName, overriddenIn]; done) | decide +kernel
set_option maxRecDepth 65536 in
set_option maxHeartbeats 40000000 in
theorem rmQd (l : Launch) (Z : State) (a0 : Array Value) (hw : ∀ d ∈ tables_1, d.before a0 Z = true) (ws : List Jvm.Cond) (q1 : Addr) (q2 : Addr) (h0 : Heap) (n0 : Nat) (i1 m1 i2 m2 : Addr) (li1 li2 lm1 lm2 : List Int32) (E_q1 : Exa Z h0 q1 "com/example/phaseline/phaseline/game/Side") (I_q1 : Fld Z h0 q1 "com/example/phaseline/phaseline/game/Side" "id" "Ljava/lang/String;" (.ref i1)) (M_q1 : Fld Z h0 q1 "com/example/phaseline/phaseline/game/Side" "name" "Ljava/lang/String;" (.ref m1)) (E_q2 : Exa Z h0 q2 "com/example/phaseline/phaseline/game/Side") (I_q2 : Fld Z h0 q2 "com/example/phaseline/phaseline/game/Side" "id" "Ljava/lang/String;" (.ref i2)) (M_q2 : Fld Z h0 q2 "com/example/phaseline/phaseline/game/Side" "name" "Ljava/lang/String;" (.ref m2)) (T_i1 : Txt Z h0 i1 li1) (T_m1 : Txt Z h0 m1 lm1) (T_i2 : Txt Z h0 i2 li2) (T_m2 : Txt Z h0 m2 lm2) (n_i : i1 ≠ i2) (n_m : m1 ≠ m2) (cs : Int32) (SS : SSt Z cs) (O0 : Old Z n0 h0) :
    Ctr l Z ({ cls := "com/example/phaseline/phaseline/game/Side", name := "equals", desc := "(Ljava/lang/Object;)Z" } : Jvm.MethodName) prog_21_method_2_code 3 (some .boolean) ws ({ frames := 2, cells := 0, slots := 0, locals := 28 } : Room) #[.ref q1, .ref q2] h0 (fun v h L => v = some (.int (SE (eqT li1 li2) (eqT lm1 lm2))) ∧ Fr n0 L ∧ h = h0) := by
  refine Ctr.enter (Ls := #[.val (.ref q1), .val (.ref q2), .unset]) (plainFor_of_name pn_rmQd) (fun m => ef_rmQd q1 q2 m) ?_
  intro p e s m below meth c T hx hby hml hown hnm hret hlk hZ hh X0 e0
  have N0 := Fr.nil n0
  refine g_aloadN X0 hx hby d12_0 (pc' := 1) rfl rfl rfl ?_
  refine g_instY X0 hx hZ hown hby d12_1 (pc' := 4) rfl (w_68 hw) e0 (Ins.self E_q2) ?_
  intro T1 X1 e1
  refine g_if_eq X1 hx hby d12_4 (by decide) (pc' := 44) (by decide) (pn := 7) rfl (fun z => absurd z (by decide)) (fun _ => ?_)
  refine g_aloadN X1 hx hby d12_7 (pc' := 8) rfl rfl rfl ?_
  refine g_castY X1 hx hZ hown hby d12_8 (pc' := 11) rfl (w_68 hw) e1 (Ins.self E_q2) ?_
  intro T2 X2 e2
  refine g_astoreN X2 hx hby d12_11 (pc' := 12) rfl rfl (l' := #[.val (.ref q1), .val (.ref q2), .val (.ref q2)]) rfl ?_
  refine g_aloadN X2 hx hby d12_12 (pc' := 13) rfl rfl rfl ?_
  refine g_get X2 hx hZ hown hby d12_13 (pc' := 16) rfl (w_56 hw) e2 I_q1 ?_
  intro T3 X3 e3
  refine g_aloadN X3 hx hby d12_16 (pc' := 17) rfl rfl rfl ?_
  refine g_get X3 hx hZ hown hby d12_17 (pc' := 20) rfl (w_56 hw) e3 I_q2 ?_
  intro T4 X4 e4
  refine g_callV X4 hx hZ hown (W := 0) (argsL := [.ref i2]) (b := i1) (rest := []) hby d12_20 (pc' := 23) rfl (by rw [hml]; rfl) (w_70 hw) (w_71 hw) (w_73 hw) (notFace_of_selects (args := #[]) (mvT hZ (w_73 hw))) (w_72 hw) (w_8 hw) (w_74 hw) (by decide) (rmEQ l Z a0 hw [] i1 i2 h0 n0 _ _ T_i1 T_i2 n_i cs SS O0) e4 T_i1.1 (by decide) (by decide) (by decide) (by decide) rfl pd__28Ljava_2flang_2fObject_3b_29Z rfl rfl (Nat.le_of_eq rfl) ?_
  rintro _ T5 L5 X5 ⟨rfl, N5q, e5⟩
  have N5 := Fr.app N0 N5q
  show GoE p e below _ (T5.setTop (mkF m 23 #[.val (.ref q1), .val (.ref q2), .val (.ref q2)] [.int (eqT li1 li2)]))
  refine g_if_eq X5 hx hby d12_23 (by decide) (pc' := 44) (by decide) (pn := 26) rfl (fun hc23_6 => ?_) (fun hc23_6 => ?_)
  · refine g_iconst X5 hx hby d12_44 (pc' := 45) rfl (z := (0 : Int32)) rfl ?_
    exact g_retN (Q := (fun v h L => v = some (.int (SE (eqT li1 li2) (eqT lm1 lm2))) ∧ Fr n0 L ∧ h = h0)) (w := (0 : Int32)) X5 hx hby d12_45 hret (by simp) (by first | decide | rfl) hlk (by decide) (by decide) ⟨congrArg (fun z : Int32 => some (Value.int z)) (by simp only [SE, hc23_6, if_true, if_false, ↓reduceIte]), N5, e5⟩
  · refine g_aloadN X5 hx hby d12_26 (pc' := 27) rfl rfl rfl ?_
    refine g_get X5 hx hZ hown hby d12_27 (pc' := 30) rfl (w_58 hw) e5 M_q1 ?_
    intro T7 X7 e7
    refine g_aloadN X7 hx hby d12_30 (pc' := 31) rfl rfl rfl ?_
    refine g_get X7 hx hZ hown hby d12_31 (pc' := 34) rfl (w_58 hw) e7 M_q2 ?_
    intro T8 X8 e8
    refine g_callV X8 hx hZ hown (W := 0) (argsL := [.ref m2]) (b := m1) (rest := []) hby d12_34 (pc' := 37) rfl (by rw [hml]; rfl) (w_70 hw) (w_71 hw) (w_73 hw) (notFace_of_selects (args := #[]) (mvT hZ (w_73 hw))) (w_72 hw) (w_8 hw) (w_74 hw) (by decide) (rmEQ l Z a0 hw [] m1 m2 h0 n0 _ _ T_m1 T_m2 n_m cs SS O0) e8 T_m1.1 (by decide) (by decide) (by decide) (by decide) rfl pd__28Ljava_2flang_2fObject_3b_29Z rfl rfl (Nat.le_of_eq rfl) ?_
    rintro _ T9 L9 X9 ⟨rfl, N9q, e9⟩
    have N9 := Fr.app N5 N9q
    show GoE p e below _ (T9.setTop (mkF m 37 #[.val (.ref q1), .val (.ref q2), .val (.ref q2)] [.int (eqT lm1 lm2)]))
    refine g_if_eq X9 hx hby d12_37 (by decide) (pc' := 44) (by decide) (pn := 40) rfl (fun hc37_10 => ?_) (fun hc37_10 => ?_)
    · refine g_iconst X9 hx hby d12_44 (pc' := 45) rfl (z := (0 : Int32)) rfl ?_
      exact g_retN (Q := (fun v h L => v = some (.int (SE (eqT li1 li2) (eqT lm1 lm2))) ∧ Fr n0 L ∧ h = h0)) (w := (0 : Int32)) X9 hx hby d12_45 hret (by simp) (by first | decide | rfl) hlk (by decide) (by decide) ⟨congrArg (fun z : Int32 => some (Value.int z)) (by simp only [SE, hc23_6, hc37_10, if_true, if_false, ↓reduceIte]), N9, e9⟩
    · refine g_iconst X9 hx hby d12_40 (pc' := 41) rfl (z := (1 : Int32)) rfl ?_
      refine g_goto X9 hx hby d12_41 (by decide) (pc' := 45) (by decide) ?_
      exact g_retN (Q := (fun v h L => v = some (.int (SE (eqT li1 li2) (eqT lm1 lm2))) ∧ Fr n0 L ∧ h = h0)) (w := (1 : Int32)) X9 hx hby d12_45 hret (by simp) (by first | decide | rfl) hlk (by decide) (by decide) ⟨congrArg (fun z : Int32 => some (Value.int z)) (by simp only [SE, hc23_6, hc37_10, if_true, if_false, ↓reduceIte]), N9, e9⟩
theorem ef_rmQn (q1 : Addr) (m : MethodId) : entryFrame m #[.ref q1, .null] 3 = mkF m 0 #[.val (.ref q1), .val (.null), .unset] [] := by
  first | (simp [entryFrame, mkF, argsToLocals, Value.category]; done) | rfl
theorem pn_rmQn : plainName "com/example/phaseline/phaseline/game/Side" = true := by first | (simp [plainName, overriddenIn]; done) | decide +kernel
set_option maxRecDepth 65536 in
set_option maxHeartbeats 40000000 in
theorem rmQn (l : Launch) (Z : State) (a0 : Array Value) (hw : ∀ d ∈ tables_1, d.before a0 Z = true) (ws : List Jvm.Cond) (q1 : Addr) (h0 : Heap) (n0 : Nat)  :
    Ctr l Z ({ cls := "com/example/phaseline/phaseline/game/Side", name := "equals", desc := "(Ljava/lang/Object;)Z" } : Jvm.MethodName) prog_21_method_2_code 3 (some .boolean) ws ({ frames := 2, cells := 0, slots := 0, locals := 28 } : Room) #[.ref q1, .null] h0 (fun v h L => v = some (.int (0 : Int32)) ∧ Fr n0 L ∧ h = h0) := by
  refine Ctr.enter (Ls := #[.val (.ref q1), .val (.null), .unset]) (plainFor_of_name pn_rmQn) (fun m => ef_rmQn q1 m) ?_
  intro p e s m below meth c T hx hby hml hown hnm hret hlk hZ hh X0 e0
  have N0 := Fr.nil n0
  refine g_aloadN X0 hx hby d12_0 (pc' := 1) rfl rfl rfl ?_
  refine g_instNull X0 hx hby d12_1 (pc' := 4) rfl ?_
  refine g_if_eq X0 hx hby d12_4 (by decide) (pc' := 44) (by decide) (pn := 7) rfl (fun _ => ?_) (fun z => absurd z (by decide))
  refine g_iconst X0 hx hby d12_44 (pc' := 45) rfl (z := (0 : Int32)) rfl ?_
  exact g_retN (Q := (fun v h L => v = some (.int (0 : Int32)) ∧ Fr n0 L ∧ h = h0)) (w := (0 : Int32)) X0 hx hby d12_45 hret (by simp) (by first | decide | rfl) hlk (by decide) (by decide) ⟨rfl, N0, e0⟩
theorem ef_rmQt (q1 : Addr) (q2 : Addr) (m : MethodId) : entryFrame m #[.ref q1, .ref q2] 3 = mkF m 0 #[.val (.ref q1), .val (.ref q2), .unset] [] := by
  first | (simp [entryFrame, mkF, argsToLocals, Value.category]; done) | rfl
theorem pn_rmQt : plainName "com/example/phaseline/phaseline/game/Side" = true := by first | (simp [plainName, overriddenIn]; done) | decide +kernel
set_option maxRecDepth 65536 in
set_option maxHeartbeats 40000000 in
theorem rmQt (l : Launch) (Z : State) (a0 : Array Value) (hw : ∀ d ∈ tables_1, d.before a0 Z = true) (ws : List Jvm.Cond) (q1 : Addr) (q2 : Addr) (h0 : Heap) (n0 : Nat) (E_2 : Exa Z h0 q2 "java/lang/String") :
    Ctr l Z ({ cls := "com/example/phaseline/phaseline/game/Side", name := "equals", desc := "(Ljava/lang/Object;)Z" } : Jvm.MethodName) prog_21_method_2_code 3 (some .boolean) ws ({ frames := 2, cells := 0, slots := 0, locals := 28 } : Room) #[.ref q1, .ref q2] h0 (fun v h L => v = some (.int (0 : Int32)) ∧ Fr n0 L ∧ h = h0) := by
  refine Ctr.enter (Ls := #[.val (.ref q1), .val (.ref q2), .unset]) (plainFor_of_name pn_rmQt) (fun m => ef_rmQt q1 q2 m) ?_
  intro p e s m below meth c T hx hby hml hown hnm hret hlk hZ hh X0 e0
  have N0 := Fr.nil n0
  refine g_aloadN X0 hx hby d12_0 (pc' := 1) rfl rfl rfl ?_
  refine g_instNo X0 hx hZ hown hby d12_1 (pc' := 4) rfl (w_68 hw) e0 E_2 (own_noSide (w_80 hw) (w_81 hw) (w_39 hw)) ?_
  intro T1 X1 e1
  refine g_if_eq X1 hx hby d12_4 (by decide) (pc' := 44) (by decide) (pn := 7) rfl (fun _ => ?_) (fun z => absurd z (by decide))
  refine g_iconst X1 hx hby d12_44 (pc' := 45) rfl (z := (0 : Int32)) rfl ?_
  exact g_retN (Q := (fun v h L => v = some (.int (0 : Int32)) ∧ Fr n0 L ∧ h = h0)) (w := (0 : Int32)) X1 hx hby d12_45 hret (by simp) (by first | decide | rfl) hlk (by decide) (by decide) ⟨rfl, N0, e1⟩
theorem ef_rm0 (q1 : Int32) (q2 : Int32) (q3 : Int32) (m : MethodId) : entryFrame m #[.int q1, .int q2, .int q3] maxLocals = mkF m 0 #[.val (.int q1), .val (.int q2), .val (.int q3), .unset, .unset, .unset, .unset, .unset, .unset, .unset, .unset, .unset, .unset, .unset, .unset, .unset, .unset, .unset, .unset] [] := by
  first | (simp [entryFrame, mkF, argsToLocals, Value.category, maxLocals]; done) | rfl
theorem pn_rm0 : plainName "com/example/phaseline/phaseline/game/SideEqualsPinLaw" = true := by first | (simp [plainName, overriddenIn]; done) | decide +kernel
set_option maxRecDepth 65536 in
set_option maxHeartbeats 40000000 in
theorem rm0 (l : Launch) (Z : State) (a0 : Array Value) (hw : ∀ d ∈ tables_1, d.before a0 Z = true) (ws : List Jvm.Cond) (q1 : Int32) (q2 : Int32) (q3 : Int32) (h0 : Heap) (n0 : Nat) (Z0 : n0 ≤ h0.size) (cs : Int32) (SS : SSt Z cs) (O0 : Old Z n0 h0) :
    CtrH ELs l Z x code maxLocals ret ws room_1 #[.int q1, .int q2, .int q3] h0 (fun v h L => v = some (.int 1) ∧ Fr n0 L) := by
  refine CtrH.enter (Ls := #[.val (.int q1), .val (.int q2), .val (.int q3), .unset, .unset, .unset, .unset, .unset, .unset, .unset, .unset, .unset, .unset, .unset, .unset, .unset, .unset, .unset, .unset]) (plainFor_of_name pn_rm0) (fun m => ef_rm0 q1 q2 q3 m) ?_
  intro p e s m below meth c T hx hby hml hown hnm hret hlk hZ hh X0 e0 hS0 C0h
  have N0 := Fr.nil n0
  refine g_iloadN X0 hx hby at_0 (pc' := 1) rfl rfl ?_
  refine g_ldcI X0 hx hZ hown hby at_1 (pc' := 3) rfl (w_0 hw) ?_
  refine g_iand X0 hx hby at_3 (pc' := 4) rfl ?_
  refine g_istoreN X0 hx hby at_4 (pc' := 5) rfl (l' := #[.val (.int q1), .val (.int q2), .val (.int q3), .val (.int (q1 &&& (65535 : Int32))), .unset, .unset, .unset, .unset, .unset, .unset, .unset, .unset, .unset, .unset, .unset, .unset, .unset, .unset, .unset]) rfl ?_
  refine g_iloadN X0 hx hby at_5 (pc' := 6) rfl rfl ?_
  refine g_bipush X0 hx hby at_6 (pc' := 8) rfl (z := (16 : Int32)) rfl ?_
  refine g_iushr X0 hx hby at_8 (pc' := 9) rfl ?_
  refine g_ldcI X0 hx hZ hown hby at_9 (pc' := 11) rfl (w_0 hw) ?_
  refine g_iand X0 hx hby at_11 (pc' := 12) rfl ?_
  refine g_istore X0 hx hby at_12 (pc' := 14) rfl (l' := #[.val (.int q1), .val (.int q2), .val (.int q3), .val (.int (q1 &&& (65535 : Int32))), .val (.int ((ushr q1 (16 : Int32)) &&& (65535 : Int32))), .unset, .unset, .unset, .unset, .unset, .unset, .unset, .unset, .unset, .unset, .unset, .unset, .unset, .unset]) rfl ?_
  refine g_iloadN X0 hx hby at_14 (pc' := 15) rfl rfl ?_
  refine g_ldcI X0 hx hZ hown hby at_15 (pc' := 17) rfl (w_0 hw) ?_
  refine g_iand X0 hx hby at_17 (pc' := 18) rfl ?_
  refine g_istore X0 hx hby at_18 (pc' := 20) rfl (l' := #[.val (.int q1), .val (.int q2), .val (.int q3), .val (.int (q1 &&& (65535 : Int32))), .val (.int ((ushr q1 (16 : Int32)) &&& (65535 : Int32))), .val (.int (q2 &&& (65535 : Int32))), .unset, .unset, .unset, .unset, .unset, .unset, .unset, .unset, .unset, .unset, .unset, .unset, .unset]) rfl ?_
  refine g_iloadN X0 hx hby at_20 (pc' := 21) rfl rfl ?_
  refine g_bipush X0 hx hby at_21 (pc' := 23) rfl (z := (16 : Int32)) rfl ?_
  refine g_iushr X0 hx hby at_23 (pc' := 24) rfl ?_
  refine g_ldcI X0 hx hZ hown hby at_24 (pc' := 26) rfl (w_0 hw) ?_
  refine g_iand X0 hx hby at_26 (pc' := 27) rfl ?_
  refine g_istore X0 hx hby at_27 (pc' := 29) rfl (l' := #[.val (.int q1), .val (.int q2), .val (.int q3), .val (.int (q1 &&& (65535 : Int32))), .val (.int ((ushr q1 (16 : Int32)) &&& (65535 : Int32))), .val (.int (q2 &&& (65535 : Int32))), .val (.int ((ushr q2 (16 : Int32)) &&& (65535 : Int32))), .unset, .unset, .unset, .unset, .unset, .unset, .unset, .unset, .unset, .unset, .unset, .unset]) rfl ?_
  refine g_iloadN X0 hx hby at_29 (pc' := 30) rfl rfl ?_
  refine g_iconst X0 hx hby at_30 (pc' := 31) rfl (z := (3 : Int32)) rfl ?_
  refine g_iand X0 hx hby at_31 (pc' := 32) rfl ?_
  refine g_iconst X0 hx hby at_32 (pc' := 33) rfl (z := (3 : Int32)) rfl ?_
  refine g_irem X0 hx hby at_33 (pc' := 34) rfl (by decide) ?_
  refine g_istore X0 hx hby at_34 (pc' := 36) rfl (l' := #[.val (.int q1), .val (.int q2), .val (.int q3), .val (.int (q1 &&& (65535 : Int32))), .val (.int ((ushr q1 (16 : Int32)) &&& (65535 : Int32))), .val (.int (q2 &&& (65535 : Int32))), .val (.int ((ushr q2 (16 : Int32)) &&& (65535 : Int32))), .val (.int (lenV q3)), .unset, .unset, .unset, .unset, .unset, .unset, .unset, .unset, .unset, .unset, .unset]) rfl ?_
  refine g_iloadN X0 hx hby at_36 (pc' := 37) rfl rfl ?_
  refine g_iconst X0 hx hby at_37 (pc' := 38) rfl (z := (2 : Int32)) rfl ?_
  refine g_iushr X0 hx hby at_38 (pc' := 39) rfl ?_
  refine g_iconst X0 hx hby at_39 (pc' := 40) rfl (z := (3 : Int32)) rfl ?_
  refine g_iand X0 hx hby at_40 (pc' := 41) rfl ?_
  refine g_iconst X0 hx hby at_41 (pc' := 42) rfl (z := (3 : Int32)) rfl ?_
  refine g_irem X0 hx hby at_42 (pc' := 43) rfl (by decide) ?_
  refine g_istore X0 hx hby at_43 (pc' := 45) rfl (l' := #[.val (.int q1), .val (.int q2), .val (.int q3), .val (.int (q1 &&& (65535 : Int32))), .val (.int ((ushr q1 (16 : Int32)) &&& (65535 : Int32))), .val (.int (q2 &&& (65535 : Int32))), .val (.int ((ushr q2 (16 : Int32)) &&& (65535 : Int32))), .val (.int (lenV q3)), .val (.int (lenV (ushr q3 (2 : Int32)))), .unset, .unset, .unset, .unset, .unset, .unset, .unset, .unset, .unset, .unset]) rfl ?_
  refine g_iloadN X0 hx hby at_45 (pc' := 46) rfl rfl ?_
  refine g_iconst X0 hx hby at_46 (pc' := 47) rfl (z := (4 : Int32)) rfl ?_
  refine g_iushr X0 hx hby at_47 (pc' := 48) rfl ?_
  refine g_iconst X0 hx hby at_48 (pc' := 49) rfl (z := (3 : Int32)) rfl ?_
  refine g_iand X0 hx hby at_49 (pc' := 50) rfl ?_
  refine g_iconst X0 hx hby at_50 (pc' := 51) rfl (z := (3 : Int32)) rfl ?_
  refine g_irem X0 hx hby at_51 (pc' := 52) rfl (by decide) ?_
  refine g_istore X0 hx hby at_52 (pc' := 54) rfl (l' := #[.val (.int q1), .val (.int q2), .val (.int q3), .val (.int (q1 &&& (65535 : Int32))), .val (.int ((ushr q1 (16 : Int32)) &&& (65535 : Int32))), .val (.int (q2 &&& (65535 : Int32))), .val (.int ((ushr q2 (16 : Int32)) &&& (65535 : Int32))), .val (.int (lenV q3)), .val (.int (lenV (ushr q3 (2 : Int32)))), .val (.int (lenV (ushr q3 (4 : Int32)))), .unset, .unset, .unset, .unset, .unset, .unset, .unset, .unset, .unset]) rfl ?_
  refine g_iloadN X0 hx hby at_54 (pc' := 55) rfl rfl ?_
  refine g_bipush X0 hx hby at_55 (pc' := 57) rfl (z := (6 : Int32)) rfl ?_
  refine g_iushr X0 hx hby at_57 (pc' := 58) rfl ?_
  refine g_iconst X0 hx hby at_58 (pc' := 59) rfl (z := (3 : Int32)) rfl ?_
  refine g_iand X0 hx hby at_59 (pc' := 60) rfl ?_
  refine g_iconst X0 hx hby at_60 (pc' := 61) rfl (z := (3 : Int32)) rfl ?_
  refine g_irem X0 hx hby at_61 (pc' := 62) rfl (by decide) ?_
  refine g_istore X0 hx hby at_62 (pc' := 64) rfl (l' := #[.val (.int q1), .val (.int q2), .val (.int q3), .val (.int (q1 &&& (65535 : Int32))), .val (.int ((ushr q1 (16 : Int32)) &&& (65535 : Int32))), .val (.int (q2 &&& (65535 : Int32))), .val (.int ((ushr q2 (16 : Int32)) &&& (65535 : Int32))), .val (.int (lenV q3)), .val (.int (lenV (ushr q3 (2 : Int32)))), .val (.int (lenV (ushr q3 (4 : Int32)))), .val (.int (lenV (ushr q3 (6 : Int32)))), .unset, .unset, .unset, .unset, .unset, .unset, .unset, .unset]) rfl ?_
  refine g_iloadN X0 hx hby at_64 (pc' := 65) rfl rfl ?_
  refine g_sipush X0 hx hby at_65 (pc' := 68) rfl (z := (256 : Int32)) rfl ?_
  refine g_iand X0 hx hby at_68 (pc' := 69) rfl ?_
  refine g_if_eq X0 hx hby at_69 (by decide) (pc' := 79) (by decide) (pn := 72) rfl (fun hc69_1 => ?_) (fun hc69_1 => ?_)
  · refine g_iloadN X0 hx hby at_79 (pc' := 80) rfl rfl ?_
    refine g_sipush X0 hx hby at_80 (pc' := 83) rfl (z := (512 : Int32)) rfl ?_
    refine g_iand X0 hx hby at_83 (pc' := 84) rfl ?_
    refine g_if_eq X0 hx hby at_84 (by decide) (pc' := 95) (by decide) (pn := 87) rfl (fun hc84_2 => ?_) (fun hc84_2 => ?_)
    · refine g_iloadN X0 hx hby at_95 (pc' := 96) rfl rfl ?_
      refine g_bipush X0 hx hby at_96 (pc' := 98) rfl (z := (10 : Int32)) rfl ?_
      refine g_iushr X0 hx hby at_98 (pc' := 99) rfl ?_
      refine g_iconst X0 hx hby at_99 (pc' := 100) rfl (z := (3 : Int32)) rfl ?_
      refine g_iand X0 hx hby at_100 (pc' := 101) rfl ?_
      refine g_istore X0 hx hby at_101 (pc' := 103) rfl (l' := #[.val (.int q1), .val (.int q2), .val (.int q3), .val (.int (q1 &&& (65535 : Int32))), .val (.int ((ushr q1 (16 : Int32)) &&& (65535 : Int32))), .val (.int (q2 &&& (65535 : Int32))), .val (.int ((ushr q2 (16 : Int32)) &&& (65535 : Int32))), .val (.int (lenV q3)), .val (.int (lenV (ushr q3 (2 : Int32)))), .val (.int (lenV (ushr q3 (4 : Int32)))), .val (.int (lenV (ushr q3 (6 : Int32)))), .val (.int ((ushr q3 (10 : Int32)) &&& (3 : Int32))), .unset, .unset, .unset, .unset, .unset, .unset, .unset]) rfl ?_
      refine g_iloadN X0 hx hby at_103 (pc' := 104) rfl rfl ?_
      refine g_iload X0 hx hby at_104 (pc' := 106) rfl rfl ?_
      refine g_callSH X0 hx hZ hown (W := 0) (argsL := [.int (q1 &&& (65535 : Int32)), .int (lenV q3)]) (rest := []) hby at_106 (pc' := 109) rfl (by rw [hml]; rfl) (w_1 hw) (w_2 hw) (w_3 hw) (w_4 hw) (by decide) (rmM l Z a0 hw [] (q1 &&& (65535 : Int32)) (lenV q3) h0 n0 Z0 cs SS O0) e0 hS0 (Nat.le_refl h0.size) (own_EL hw) C0h.1 (by decide) (by decide) (by decide) (by decide) rfl pd__28II_29Ljava_2flang_2fString_3b rfl rfl (Nat.le_of_eq rfl) ?_
      rintro _ T3 L3 X3 (⟨b3, rfl, N3q, K3, G3, Tx3⟩) hS3 hZ3 hown3 C3h
      have N3 := Fr.app N0 N3q
      have C3c := C0h.trans C3h
      have O3 := O0.keep K3 all0
      have Z3 := Nat.le_trans Z0 K3.1
      have Y3 := Nat.le_trans (Nat.le_refl h0.size) K3.1
      show GoE p e below _ (T3.setTop (mkF m 109 #[.val (.int q1), .val (.int q2), .val (.int q3), .val (.int (q1 &&& (65535 : Int32))), .val (.int ((ushr q1 (16 : Int32)) &&& (65535 : Int32))), .val (.int (q2 &&& (65535 : Int32))), .val (.int ((ushr q2 (16 : Int32)) &&& (65535 : Int32))), .val (.int (lenV q3)), .val (.int (lenV (ushr q3 (2 : Int32)))), .val (.int (lenV (ushr q3 (4 : Int32)))), .val (.int (lenV (ushr q3 (6 : Int32)))), .val (.int ((ushr q3 (10 : Int32)) &&& (3 : Int32))), .unset, .unset, .unset, .unset, .unset, .unset, .unset] [.ref b3]))
      refine g_astore X3 hx hby at_109 (pc' := 111) rfl rfl (l' := #[.val (.int q1), .val (.int q2), .val (.int q3), .val (.int (q1 &&& (65535 : Int32))), .val (.int ((ushr q1 (16 : Int32)) &&& (65535 : Int32))), .val (.int (q2 &&& (65535 : Int32))), .val (.int ((ushr q2 (16 : Int32)) &&& (65535 : Int32))), .val (.int (lenV q3)), .val (.int (lenV (ushr q3 (2 : Int32)))), .val (.int (lenV (ushr q3 (4 : Int32)))), .val (.int (lenV (ushr q3 (6 : Int32)))), .val (.int ((ushr q3 (10 : Int32)) &&& (3 : Int32))), .val (.ref b3), .unset, .unset, .unset, .unset, .unset, .unset]) rfl ?_
      refine g_iload X3 hx hby at_111 (pc' := 113) rfl rfl ?_
      refine g_iload X3 hx hby at_113 (pc' := 115) rfl rfl ?_
      refine g_callSH X3 hx hZ3 hown3 (W := 0) (argsL := [.int ((ushr q1 (16 : Int32)) &&& (65535 : Int32)), .int (lenV (ushr q3 (4 : Int32)))]) (rest := []) hby at_115 (pc' := 118) rfl (by rw [hml]; rfl) (w_1 hw) (w_2 hw) (w_3 hw) (w_4 hw) (by decide) (rmM l Z a0 hw [] ((ushr q1 (16 : Int32)) &&& (65535 : Int32)) (lenV (ushr q3 (4 : Int32))) T3.heap n0 Z3 cs SS O3) rfl hS3 (Nat.le_refl T3.heap.size) (own_EL hw) C3c.1 (by decide) (by decide) (by decide) (by decide) rfl pd__28II_29Ljava_2flang_2fString_3b rfl rfl (Nat.le_of_eq rfl) ?_
      rintro _ T4 L4 X4 (⟨b4, rfl, N4q, K4, G4, Tx4⟩) hS4 hZ4 hown4 C4h
      have N4 := Fr.app N3 N4q
      have C4c := C3c.trans C4h
      have nb4_b3 : b3 ≠ b4 := Nat.ne_of_lt (Nat.lt_of_lt_of_le Tx3.lt G4)
      have O4 := O3.keep K4 all0
      have Z4 := Nat.le_trans Z3 K4.1
      have Y4 := Nat.le_trans (Nat.le_refl T3.heap.size) K4.1
      have X4t_b3 := Tx3.keep0 K4
      show GoE p e below _ (T4.setTop (mkF m 118 #[.val (.int q1), .val (.int q2), .val (.int q3), .val (.int (q1 &&& (65535 : Int32))), .val (.int ((ushr q1 (16 : Int32)) &&& (65535 : Int32))), .val (.int (q2 &&& (65535 : Int32))), .val (.int ((ushr q2 (16 : Int32)) &&& (65535 : Int32))), .val (.int (lenV q3)), .val (.int (lenV (ushr q3 (2 : Int32)))), .val (.int (lenV (ushr q3 (4 : Int32)))), .val (.int (lenV (ushr q3 (6 : Int32)))), .val (.int ((ushr q3 (10 : Int32)) &&& (3 : Int32))), .val (.ref b3), .unset, .unset, .unset, .unset, .unset, .unset] [.ref b4]))
      refine g_astore X4 hx hby at_118 (pc' := 120) rfl rfl (l' := #[.val (.int q1), .val (.int q2), .val (.int q3), .val (.int (q1 &&& (65535 : Int32))), .val (.int ((ushr q1 (16 : Int32)) &&& (65535 : Int32))), .val (.int (q2 &&& (65535 : Int32))), .val (.int ((ushr q2 (16 : Int32)) &&& (65535 : Int32))), .val (.int (lenV q3)), .val (.int (lenV (ushr q3 (2 : Int32)))), .val (.int (lenV (ushr q3 (4 : Int32)))), .val (.int (lenV (ushr q3 (6 : Int32)))), .val (.int ((ushr q3 (10 : Int32)) &&& (3 : Int32))), .val (.ref b3), .val (.ref b4), .unset, .unset, .unset, .unset, .unset]) rfl ?_
      refine g_iload X4 hx hby at_120 (pc' := 122) rfl rfl ?_
      refine g_iload X4 hx hby at_122 (pc' := 124) rfl rfl ?_
      refine g_callSH X4 hx hZ4 hown4 (W := 0) (argsL := [.int (q2 &&& (65535 : Int32)), .int (lenV (ushr q3 (2 : Int32)))]) (rest := []) hby at_124 (pc' := 127) rfl (by rw [hml]; rfl) (w_1 hw) (w_2 hw) (w_3 hw) (w_4 hw) (by decide) (rmM l Z a0 hw [] (q2 &&& (65535 : Int32)) (lenV (ushr q3 (2 : Int32))) T4.heap n0 Z4 cs SS O4) rfl hS4 (Nat.le_refl T4.heap.size) (own_EL hw) C4c.1 (by decide) (by decide) (by decide) (by decide) rfl pd__28II_29Ljava_2flang_2fString_3b rfl rfl (Nat.le_of_eq rfl) ?_
      rintro _ T5 L5 X5 (⟨b5, rfl, N5q, K5, G5, Tx5⟩) hS5 hZ5 hown5 C5h
      have N5 := Fr.app N4 N5q
      have C5c := C4c.trans C5h
      have nb5_b3 : b3 ≠ b5 := Nat.ne_of_lt (Nat.lt_of_lt_of_le X4t_b3.lt G5)
      have nb5_b4 : b4 ≠ b5 := Nat.ne_of_lt (Nat.lt_of_lt_of_le Tx4.lt G5)
      have O5 := O4.keep K5 all0
      have Z5 := Nat.le_trans Z4 K5.1
      have Y5 := Nat.le_trans (Nat.le_refl T4.heap.size) K5.1
      have X5t_b3 := X4t_b3.keep0 K5
      have X5t_b4 := Tx4.keep0 K5
      show GoE p e below _ (T5.setTop (mkF m 127 #[.val (.int q1), .val (.int q2), .val (.int q3), .val (.int (q1 &&& (65535 : Int32))), .val (.int ((ushr q1 (16 : Int32)) &&& (65535 : Int32))), .val (.int (q2 &&& (65535 : Int32))), .val (.int ((ushr q2 (16 : Int32)) &&& (65535 : Int32))), .val (.int (lenV q3)), .val (.int (lenV (ushr q3 (2 : Int32)))), .val (.int (lenV (ushr q3 (4 : Int32)))), .val (.int (lenV (ushr q3 (6 : Int32)))), .val (.int ((ushr q3 (10 : Int32)) &&& (3 : Int32))), .val (.ref b3), .val (.ref b4), .unset, .unset, .unset, .unset, .unset] [.ref b5]))
      refine g_astore X5 hx hby at_127 (pc' := 129) rfl rfl (l' := #[.val (.int q1), .val (.int q2), .val (.int q3), .val (.int (q1 &&& (65535 : Int32))), .val (.int ((ushr q1 (16 : Int32)) &&& (65535 : Int32))), .val (.int (q2 &&& (65535 : Int32))), .val (.int ((ushr q2 (16 : Int32)) &&& (65535 : Int32))), .val (.int (lenV q3)), .val (.int (lenV (ushr q3 (2 : Int32)))), .val (.int (lenV (ushr q3 (4 : Int32)))), .val (.int (lenV (ushr q3 (6 : Int32)))), .val (.int ((ushr q3 (10 : Int32)) &&& (3 : Int32))), .val (.ref b3), .val (.ref b4), .val (.ref b5), .unset, .unset, .unset, .unset]) rfl ?_
      refine g_iload X5 hx hby at_129 (pc' := 131) rfl rfl ?_
      refine g_iload X5 hx hby at_131 (pc' := 133) rfl rfl ?_
      refine g_callSH X5 hx hZ5 hown5 (W := 0) (argsL := [.int ((ushr q2 (16 : Int32)) &&& (65535 : Int32)), .int (lenV (ushr q3 (6 : Int32)))]) (rest := []) hby at_133 (pc' := 136) rfl (by rw [hml]; rfl) (w_1 hw) (w_2 hw) (w_3 hw) (w_4 hw) (by decide) (rmM l Z a0 hw [] ((ushr q2 (16 : Int32)) &&& (65535 : Int32)) (lenV (ushr q3 (6 : Int32))) T5.heap n0 Z5 cs SS O5) rfl hS5 (Nat.le_refl T5.heap.size) (own_EL hw) C5c.1 (by decide) (by decide) (by decide) (by decide) rfl pd__28II_29Ljava_2flang_2fString_3b rfl rfl (Nat.le_of_eq rfl) ?_
      rintro _ T6 L6 X6 (⟨b6, rfl, N6q, K6, G6, Tx6⟩) hS6 hZ6 hown6 C6h
      have N6 := Fr.app N5 N6q
      have C6c := C5c.trans C6h
      have nb6_b3 : b3 ≠ b6 := Nat.ne_of_lt (Nat.lt_of_lt_of_le X5t_b3.lt G6)
      have nb6_b4 : b4 ≠ b6 := Nat.ne_of_lt (Nat.lt_of_lt_of_le X5t_b4.lt G6)
      have nb6_b5 : b5 ≠ b6 := Nat.ne_of_lt (Nat.lt_of_lt_of_le Tx5.lt G6)
      have O6 := O5.keep K6 all0
      have Z6 := Nat.le_trans Z5 K6.1
      have Y6 := Nat.le_trans (Nat.le_refl T5.heap.size) K6.1
      have X6t_b3 := X5t_b3.keep0 K6
      have X6t_b4 := X5t_b4.keep0 K6
      have X6t_b5 := Tx5.keep0 K6
      show GoE p e below _ (T6.setTop (mkF m 136 #[.val (.int q1), .val (.int q2), .val (.int q3), .val (.int (q1 &&& (65535 : Int32))), .val (.int ((ushr q1 (16 : Int32)) &&& (65535 : Int32))), .val (.int (q2 &&& (65535 : Int32))), .val (.int ((ushr q2 (16 : Int32)) &&& (65535 : Int32))), .val (.int (lenV q3)), .val (.int (lenV (ushr q3 (2 : Int32)))), .val (.int (lenV (ushr q3 (4 : Int32)))), .val (.int (lenV (ushr q3 (6 : Int32)))), .val (.int ((ushr q3 (10 : Int32)) &&& (3 : Int32))), .val (.ref b3), .val (.ref b4), .val (.ref b5), .unset, .unset, .unset, .unset] [.ref b6]))
      refine g_astore X6 hx hby at_136 (pc' := 138) rfl rfl (l' := #[.val (.int q1), .val (.int q2), .val (.int q3), .val (.int (q1 &&& (65535 : Int32))), .val (.int ((ushr q1 (16 : Int32)) &&& (65535 : Int32))), .val (.int (q2 &&& (65535 : Int32))), .val (.int ((ushr q2 (16 : Int32)) &&& (65535 : Int32))), .val (.int (lenV q3)), .val (.int (lenV (ushr q3 (2 : Int32)))), .val (.int (lenV (ushr q3 (4 : Int32)))), .val (.int (lenV (ushr q3 (6 : Int32)))), .val (.int ((ushr q3 (10 : Int32)) &&& (3 : Int32))), .val (.ref b3), .val (.ref b4), .val (.ref b5), .val (.ref b6), .unset, .unset, .unset]) rfl ?_
      refine g_new X6 hx hZ6 hown6 hby at_138 (pc' := 141) rfl (w_38 hw) (w_39 hw) (w_40 hw) rfl (by decide) (by decide) ?_
      intro T7 b7 hb7 X7 E7 A7 D7
      have sf7_b7 := Safe.ext E7 C6c.1 (Safe.new (Nat.le_of_eq hb7.symm))
      have C7c := C6c.trans (CHr.ext E7 C6c.1)
      have O7o := O6.ext E7
      have Z7 := Nat.le_trans Z6 E7.1
      have Y7 := Nat.le_trans (Nat.le_refl T6.heap.size) E7.1
      have X7t_b3 := X6t_b3.ext E7
      have ne7_b3 : b3 ≠ b7 := hb7 ▸ Nat.ne_of_lt X6t_b3.lt
      have X7t_b4 := X6t_b4.ext E7
      have ne7_b4 : b4 ≠ b7 := hb7 ▸ Nat.ne_of_lt X6t_b4.lt
      have X7t_b5 := X6t_b5.ext E7
      have ne7_b5 : b5 ≠ b7 := hb7 ▸ Nat.ne_of_lt X6t_b5.lt
      have X7t_b6 := Tx6.ext E7
      have ne7_b6 : b6 ≠ b7 := hb7 ▸ Nat.ne_of_lt Tx6.lt
      have F7_id : Fld Z T7.heap b7 "com/example/phaseline/phaseline/game/Side" "id" "Ljava/lang/String;" (.null) := D7 (Or.inr (w_57 hw)) (ty := (.object "java/lang/String")) (by decide)
      have F7_name : Fld Z T7.heap b7 "com/example/phaseline/phaseline/game/Side" "name" "Ljava/lang/String;" (.null) := D7 (Or.inr (w_59 hw)) (ty := (.object "java/lang/String")) (by decide)
      refine g_dup X7 hx hby at_141 (pc' := 142) rfl rfl ?_
      refine g_aload X7 hx hby at_142 (pc' := 144) rfl rfl rfl ?_
      refine g_aload X7 hx hby at_144 (pc' := 146) rfl rfl rfl ?_
      refine g_callIH X7 hx hZ6 hown6 (W := 1) (argsL := [.ref b3, .ref b4]) (b := b7) (rest := [.ref b7]) hby at_146 (pc' := 149) rfl (by rw [hml]; rfl) (w_41 hw) (w_42 hw) (w_40 hw) (w_43 hw) rfl (by decide) (rmSD l Z a0 hw [] b7 b3 b4 T7.heap n0 _ _ Z7 A7 F7_id F7_name (Nat.le_trans Z6 (Nat.le_of_eq hb7.symm)) cs SS O7o) rfl hS6 Y7 (own_EL hw) C7c.1 (by decide) (by decide) (by decide) (by decide) rfl pd__28Ljava_2flang_2fString_3bLjava_2flang_2fString_3b_29V rfl rfl (Nat.le_of_eq rfl) ?_
      rintro _ T8 L8 X8 (⟨rfl, N8q, K8, Ei8, Fa8, Fb8⟩) hS8 hZ8 hown8 C8h
      have N8 := Fr.app N6 N8q
      have sf8_b7 := C8h.safe A7.lt sf7_b7
      have C8c := C7c.trans C8h
      have O8 := O7o.keep K8 (allS (Nat.le_trans Z6 (Nat.le_of_eq hb7.symm)) all0)
      have Z8 := Nat.le_trans Z7 K8.1
      have Y8 := Nat.le_trans Y7 K8.1
      have X8t_b3 := X7t_b3.keep1 K8 A7 (w_39 hw) ne7_b3
      have X8t_b4 := X7t_b4.keep1 K8 A7 (w_39 hw) ne7_b4
      have X8t_b5 := X7t_b5.keep1 K8 A7 (w_39 hw) ne7_b5
      have X8t_b6 := X7t_b6.keep1 K8 A7 (w_39 hw) ne7_b6
      have E8_b7 := A7.keep K8
      show GoE p e below _ (T8.setTop (mkF m 149 #[.val (.int q1), .val (.int q2), .val (.int q3), .val (.int (q1 &&& (65535 : Int32))), .val (.int ((ushr q1 (16 : Int32)) &&& (65535 : Int32))), .val (.int (q2 &&& (65535 : Int32))), .val (.int ((ushr q2 (16 : Int32)) &&& (65535 : Int32))), .val (.int (lenV q3)), .val (.int (lenV (ushr q3 (2 : Int32)))), .val (.int (lenV (ushr q3 (4 : Int32)))), .val (.int (lenV (ushr q3 (6 : Int32)))), .val (.int ((ushr q3 (10 : Int32)) &&& (3 : Int32))), .val (.ref b3), .val (.ref b4), .val (.ref b5), .val (.ref b6), .unset, .unset, .unset] [.ref b7]))
      refine g_astore X8 hx hby at_149 (pc' := 151) rfl rfl (l' := #[.val (.int q1), .val (.int q2), .val (.int q3), .val (.int (q1 &&& (65535 : Int32))), .val (.int ((ushr q1 (16 : Int32)) &&& (65535 : Int32))), .val (.int (q2 &&& (65535 : Int32))), .val (.int ((ushr q2 (16 : Int32)) &&& (65535 : Int32))), .val (.int (lenV q3)), .val (.int (lenV (ushr q3 (2 : Int32)))), .val (.int (lenV (ushr q3 (4 : Int32)))), .val (.int (lenV (ushr q3 (6 : Int32)))), .val (.int ((ushr q3 (10 : Int32)) &&& (3 : Int32))), .val (.ref b3), .val (.ref b4), .val (.ref b5), .val (.ref b6), .val (.ref b7), .unset, .unset]) rfl ?_
      refine g_iload X8 hx hby at_151 (pc' := 153) rfl rfl ?_
      refine g_iconst X8 hx hby at_153 (pc' := 154) rfl (z := (1 : Int32)) rfl ?_
      refine g_icmp_ne X8 hx hby at_154 (by decide) (pc' := 165) (by decide) (pn := 157) rfl (fun hc154_9 => ?_) (fun hc154_9 => ?_)
      · refine g_iload X8 hx hby at_165 (pc' := 167) rfl rfl ?_
        refine g_iconst X8 hx hby at_167 (pc' := 168) rfl (z := (2 : Int32)) rfl ?_
        refine g_icmp_ne X8 hx hby at_168 (by decide) (pc' := 186) (by decide) (pn := 171) rfl (fun hc168_10 => ?_) (fun hc168_10 => ?_)
        · refine g_iload X8 hx hby at_186 (pc' := 188) rfl rfl ?_
          refine g_iconst X8 hx hby at_188 (pc' := 189) rfl (z := (3 : Int32)) rfl ?_
          refine g_icmp_ne X8 hx hby at_189 (by decide) (pc' := 212) (by decide) (pn := 192) rfl (fun hc189_11 => ?_) (fun hc189_11 => ?_)
          · refine g_new X8 hx hZ8 hown8 hby at_212 (pc' := 215) rfl (w_38 hw) (w_39 hw) (w_40 hw) rfl (by decide) (by decide) ?_
            intro T12 b12 hb12 X12 E12 A12 D12
            have sf12_b7 := Safe.ext E12 C8c.1 sf8_b7
            have sf12_b12 := Safe.ext E12 C8c.1 (Safe.new (Nat.le_of_eq hb12.symm))
            have C12c := C8c.trans (CHr.ext E12 C8c.1)
            have O12o := O8.ext E12
            have Z12 := Nat.le_trans Z8 E12.1
            have Y12 := Nat.le_trans (Nat.le_refl T8.heap.size) E12.1
            have X12t_b3 := X8t_b3.ext E12
            have ne12_b3 : b3 ≠ b12 := hb12 ▸ Nat.ne_of_lt X8t_b3.lt
            have X12t_b4 := X8t_b4.ext E12
            have ne12_b4 : b4 ≠ b12 := hb12 ▸ Nat.ne_of_lt X8t_b4.lt
            have X12t_b5 := X8t_b5.ext E12
            have ne12_b5 : b5 ≠ b12 := hb12 ▸ Nat.ne_of_lt X8t_b5.lt
            have X12t_b6 := X8t_b6.ext E12
            have ne12_b6 : b6 ≠ b12 := hb12 ▸ Nat.ne_of_lt X8t_b6.lt
            have E12_b7 := Ei8.ext E12
            have ne12_b7 : b7 ≠ b12 := hb12 ▸ Nat.ne_of_lt Ei8.lt
            have F12_b7_id := Fa8.ext E12
            have F12_b7_name := Fb8.ext E12
            have F12_id : Fld Z T12.heap b12 "com/example/phaseline/phaseline/game/Side" "id" "Ljava/lang/String;" (.null) := D12 (Or.inr (w_57 hw)) (ty := (.object "java/lang/String")) (by decide)
            have F12_name : Fld Z T12.heap b12 "com/example/phaseline/phaseline/game/Side" "name" "Ljava/lang/String;" (.null) := D12 (Or.inr (w_59 hw)) (ty := (.object "java/lang/String")) (by decide)
            refine g_dup X12 hx hby at_215 (pc' := 216) rfl rfl ?_
            refine g_aload X12 hx hby at_216 (pc' := 218) rfl rfl rfl ?_
            refine g_aload X12 hx hby at_218 (pc' := 220) rfl rfl rfl ?_
            refine g_callIH X12 hx hZ8 hown8 (W := 1) (argsL := [.ref b5, .ref b6]) (b := b12) (rest := [.ref b12]) hby at_220 (pc' := 223) rfl (by rw [hml]; rfl) (w_41 hw) (w_42 hw) (w_40 hw) (w_43 hw) rfl (by decide) (rmSD l Z a0 hw [] b12 b5 b6 T12.heap n0 _ _ Z12 A12 F12_id F12_name (Nat.le_trans Z8 (Nat.le_of_eq hb12.symm)) cs SS O12o) rfl hS8 Y12 (own_EL hw) C12c.1 (by decide) (by decide) (by decide) (by decide) rfl pd__28Ljava_2flang_2fString_3bLjava_2flang_2fString_3b_29V rfl rfl (Nat.le_of_eq rfl) ?_
            rintro _ T13 L13 X13 (⟨rfl, N13q, K13, Ei13, Fa13, Fb13⟩) hS13 hZ13 hown13 C13h
            have N13 := Fr.app N8 N13q
            have sf13_b7 := C13h.safe E12_b7.lt sf12_b7
            have sf13_b12 := C13h.safe A12.lt sf12_b12
            have C13c := C12c.trans C13h
            have O13 := O12o.keep K13 (allS (Nat.le_trans Z8 (Nat.le_of_eq hb12.symm)) all0)
            have Z13 := Nat.le_trans Z12 K13.1
            have Y13 := Nat.le_trans Y12 K13.1
            have X13t_b3 := X12t_b3.keep1 K13 A12 (w_39 hw) ne12_b3
            have X13t_b4 := X12t_b4.keep1 K13 A12 (w_39 hw) ne12_b4
            have X13t_b5 := X12t_b5.keep1 K13 A12 (w_39 hw) ne12_b5
            have X13t_b6 := X12t_b6.keep1 K13 A12 (w_39 hw) ne12_b6
            have E13_b7 := E12_b7.keep K13
            have F13_b7_id := F12_b7_id.keep K13 (ninS ne12_b7 nin0)
            have F13_b7_name := F12_b7_name.keep K13 (ninS ne12_b7 nin0)
            have E13_b12 := A12.keep K13
            show GoE p e below _ (T13.setTop (mkF m 223 #[.val (.int q1), .val (.int q2), .val (.int q3), .val (.int (q1 &&& (65535 : Int32))), .val (.int ((ushr q1 (16 : Int32)) &&& (65535 : Int32))), .val (.int (q2 &&& (65535 : Int32))), .val (.int ((ushr q2 (16 : Int32)) &&& (65535 : Int32))), .val (.int (lenV q3)), .val (.int (lenV (ushr q3 (2 : Int32)))), .val (.int (lenV (ushr q3 (4 : Int32)))), .val (.int (lenV (ushr q3 (6 : Int32)))), .val (.int ((ushr q3 (10 : Int32)) &&& (3 : Int32))), .val (.ref b3), .val (.ref b4), .val (.ref b5), .val (.ref b6), .val (.ref b7), .unset, .unset] [.ref b12]))
            refine g_astore X13 hx hby at_223 (pc' := 225) rfl rfl (l' := #[.val (.int q1), .val (.int q2), .val (.int q3), .val (.int (q1 &&& (65535 : Int32))), .val (.int ((ushr q1 (16 : Int32)) &&& (65535 : Int32))), .val (.int (q2 &&& (65535 : Int32))), .val (.int ((ushr q2 (16 : Int32)) &&& (65535 : Int32))), .val (.int (lenV q3)), .val (.int (lenV (ushr q3 (2 : Int32)))), .val (.int (lenV (ushr q3 (4 : Int32)))), .val (.int (lenV (ushr q3 (6 : Int32)))), .val (.int ((ushr q3 (10 : Int32)) &&& (3 : Int32))), .val (.ref b3), .val (.ref b4), .val (.ref b5), .val (.ref b6), .val (.ref b7), .val (.ref b12), .unset]) rfl ?_
            refine g_iloadN X13 hx hby at_225 (pc' := 226) rfl rfl ?_
            refine g_iload X13 hx hby at_226 (pc' := 228) rfl rfl ?_
            refine g_iload X13 hx hby at_228 (pc' := 230) rfl rfl ?_
            refine g_iload X13 hx hby at_230 (pc' := 232) rfl rfl ?_
            refine g_callS X13 hx hZ13 hown13 (W := 0) (argsL := [.int (q1 &&& (65535 : Int32)), .int (lenV q3), .int (q2 &&& (65535 : Int32)), .int (lenV (ushr q3 (2 : Int32)))]) (rest := []) hby at_232 (pc' := 235) rfl (by rw [hml]; rfl) (w_60 hw) (w_61 hw) (w_3 hw) (w_62 hw) (by decide) (rmSA l Z a0 hw [] (q1 &&& (65535 : Int32)) (lenV q3) (q2 &&& (65535 : Int32)) (lenV (ushr q3 (2 : Int32))) T13.heap n0) rfl (by decide) (by decide) (by decide) (by decide) rfl pd__28IIII_29Z rfl rfl (Nat.le_of_eq rfl) ?_
            rintro _ T14 L14 X14 ⟨rfl, N14q, e14⟩
            have N14 := Fr.app N13 N14q
            show GoE p e below _ (T14.setTop (mkF m 235 #[.val (.int q1), .val (.int q2), .val (.int q3), .val (.int (q1 &&& (65535 : Int32))), .val (.int ((ushr q1 (16 : Int32)) &&& (65535 : Int32))), .val (.int (q2 &&& (65535 : Int32))), .val (.int ((ushr q2 (16 : Int32)) &&& (65535 : Int32))), .val (.int (lenV q3)), .val (.int (lenV (ushr q3 (2 : Int32)))), .val (.int (lenV (ushr q3 (4 : Int32)))), .val (.int (lenV (ushr q3 (6 : Int32)))), .val (.int ((ushr q3 (10 : Int32)) &&& (3 : Int32))), .val (.ref b3), .val (.ref b4), .val (.ref b5), .val (.ref b6), .val (.ref b7), .val (.ref b12), .unset] [.int (sameV (q1 &&& (65535 : Int32)) (lenV q3) (q2 &&& (65535 : Int32)) (lenV (ushr q3 (2 : Int32))))]))
            refine g_if_eq X14 hx hby at_235 (by decide) (pc' := 256) (by decide) (pn := 238) rfl (fun hc235_15 => ?_) (fun hc235_15 => ?_)
            · refine g_iconst X14 hx hby at_256 (pc' := 257) rfl (z := (0 : Int32)) rfl ?_
              refine g_istore X14 hx hby at_257 (pc' := 259) rfl (l' := #[.val (.int q1), .val (.int q2), .val (.int q3), .val (.int (q1 &&& (65535 : Int32))), .val (.int ((ushr q1 (16 : Int32)) &&& (65535 : Int32))), .val (.int (q2 &&& (65535 : Int32))), .val (.int ((ushr q2 (16 : Int32)) &&& (65535 : Int32))), .val (.int (lenV q3)), .val (.int (lenV (ushr q3 (2 : Int32)))), .val (.int (lenV (ushr q3 (4 : Int32)))), .val (.int (lenV (ushr q3 (6 : Int32)))), .val (.int ((ushr q3 (10 : Int32)) &&& (3 : Int32))), .val (.ref b3), .val (.ref b4), .val (.ref b5), .val (.ref b6), .val (.ref b7), .val (.ref b12), .val (.int (0 : Int32))]) rfl ?_
              refine g_aload X14 hx hby at_259 (pc' := 261) rfl rfl rfl ?_
              refine g_aload X14 hx hby at_261 (pc' := 263) rfl rfl rfl ?_
              refine g_callV X14 hx hZ13 hown13 (W := 0) (argsL := [.ref b12]) (b := b7) (rest := []) hby at_263 (pc' := 266) rfl (by rw [hml]; rfl) (w_63 hw) (w_64 hw) (w_66 hw) (notFace_of_selects (args := #[]) (mvT hZ13 (w_66 hw))) (w_65 hw) (w_40 hw) (w_67 hw) (by decide) (rmQd l Z a0 hw [] b7 b12 T13.heap n0 b3 b4 b5 b6 _ _ _ _ E13_b7 F13_b7_id F13_b7_name Ei13 Fa13 Fb13 X13t_b3 X13t_b4 X13t_b5 X13t_b6 nb5_b3 nb6_b4 cs SS O13) e14 E13_b7 (by decide) (by decide) (by decide) (by decide) rfl pd__28Ljava_2flang_2fObject_3b_29Z rfl rfl (Nat.le_of_eq rfl) ?_
              rintro _ T16 L16 X16 ⟨rfl, N16q, e16⟩
              have N16 := Fr.app N14 N16q
              show GoE p e below _ (T16.setTop (mkF m 266 #[.val (.int q1), .val (.int q2), .val (.int q3), .val (.int (q1 &&& (65535 : Int32))), .val (.int ((ushr q1 (16 : Int32)) &&& (65535 : Int32))), .val (.int (q2 &&& (65535 : Int32))), .val (.int ((ushr q2 (16 : Int32)) &&& (65535 : Int32))), .val (.int (lenV q3)), .val (.int (lenV (ushr q3 (2 : Int32)))), .val (.int (lenV (ushr q3 (4 : Int32)))), .val (.int (lenV (ushr q3 (6 : Int32)))), .val (.int ((ushr q3 (10 : Int32)) &&& (3 : Int32))), .val (.ref b3), .val (.ref b4), .val (.ref b5), .val (.ref b6), .val (.ref b7), .val (.ref b12), .val (.int (0 : Int32))] [.int (SE (eqT (chars (q1 &&& (65535 : Int32)) (lenV q3)) (chars (q2 &&& (65535 : Int32)) (lenV (ushr q3 (2 : Int32))))) (eqT (chars ((ushr q1 (16 : Int32)) &&& (65535 : Int32)) (lenV (ushr q3 (4 : Int32)))) (chars ((ushr q2 (16 : Int32)) &&& (65535 : Int32)) (lenV (ushr q3 (6 : Int32))))))]))
              refine g_iload X16 hx hby at_266 (pc' := 268) rfl rfl ?_
              refine g_icmp_ne X16 hx hby at_268 (by decide) (pc' := 275) (by decide) (pn := 271) rfl (fun z => absurd z (fun z => z (by simp only [SE, ← own_same (own_len _) (own_len _), hc235_15, if_true, if_false, ↓reduceIte]))) (fun hc268_17 => ?_)
              refine g_iconst X16 hx hby at_271 (pc' := 272) rfl (z := (1 : Int32)) rfl ?_
              refine g_goto X16 hx hby at_272 (by decide) (pc' := 276) (by decide) ?_
              refine GoH.of_go (a0 := a0) (fun v h L => v = some (.int 1) ∧ Fr n0 L) hS13 hZ13 (own_EL hw) ?_
              exact g_retN (Q := _) (w := (1 : Int32)) X16 hx hby at_276 hret (by simp) (by first | decide | rfl) hlk (by decide) (by decide) (by rw [e16]; exact ⟨⟨rfl, N16⟩, (Nat.le_refl T13.heap.size), C13c⟩)
            · refine g_iload X14 hx hby at_238 (pc' := 240) rfl rfl ?_
              refine g_iload X14 hx hby at_240 (pc' := 242) rfl rfl ?_
              refine g_iload X14 hx hby at_242 (pc' := 244) rfl rfl ?_
              refine g_iload X14 hx hby at_244 (pc' := 246) rfl rfl ?_
              refine g_callS X14 hx hZ13 hown13 (W := 0) (argsL := [.int ((ushr q1 (16 : Int32)) &&& (65535 : Int32)), .int (lenV (ushr q3 (4 : Int32))), .int ((ushr q2 (16 : Int32)) &&& (65535 : Int32)), .int (lenV (ushr q3 (6 : Int32)))]) (rest := []) hby at_246 (pc' := 249) rfl (by rw [hml]; rfl) (w_60 hw) (w_61 hw) (w_3 hw) (w_62 hw) (by decide) (rmSA l Z a0 hw [] ((ushr q1 (16 : Int32)) &&& (65535 : Int32)) (lenV (ushr q3 (4 : Int32))) ((ushr q2 (16 : Int32)) &&& (65535 : Int32)) (lenV (ushr q3 (6 : Int32))) T13.heap n0) e14 (by decide) (by decide) (by decide) (by decide) rfl pd__28IIII_29Z rfl rfl (Nat.le_of_eq rfl) ?_
              rintro _ T18 L18 X18 ⟨rfl, N18q, e18⟩
              have N18 := Fr.app N14 N18q
              show GoE p e below _ (T18.setTop (mkF m 249 #[.val (.int q1), .val (.int q2), .val (.int q3), .val (.int (q1 &&& (65535 : Int32))), .val (.int ((ushr q1 (16 : Int32)) &&& (65535 : Int32))), .val (.int (q2 &&& (65535 : Int32))), .val (.int ((ushr q2 (16 : Int32)) &&& (65535 : Int32))), .val (.int (lenV q3)), .val (.int (lenV (ushr q3 (2 : Int32)))), .val (.int (lenV (ushr q3 (4 : Int32)))), .val (.int (lenV (ushr q3 (6 : Int32)))), .val (.int ((ushr q3 (10 : Int32)) &&& (3 : Int32))), .val (.ref b3), .val (.ref b4), .val (.ref b5), .val (.ref b6), .val (.ref b7), .val (.ref b12), .unset] [.int (sameV ((ushr q1 (16 : Int32)) &&& (65535 : Int32)) (lenV (ushr q3 (4 : Int32))) ((ushr q2 (16 : Int32)) &&& (65535 : Int32)) (lenV (ushr q3 (6 : Int32))))]))
              refine g_if_eq X18 hx hby at_249 (by decide) (pc' := 256) (by decide) (pn := 252) rfl (fun hc249_19 => ?_) (fun hc249_19 => ?_)
              · refine g_iconst X18 hx hby at_256 (pc' := 257) rfl (z := (0 : Int32)) rfl ?_
                refine g_istore X18 hx hby at_257 (pc' := 259) rfl (l' := #[.val (.int q1), .val (.int q2), .val (.int q3), .val (.int (q1 &&& (65535 : Int32))), .val (.int ((ushr q1 (16 : Int32)) &&& (65535 : Int32))), .val (.int (q2 &&& (65535 : Int32))), .val (.int ((ushr q2 (16 : Int32)) &&& (65535 : Int32))), .val (.int (lenV q3)), .val (.int (lenV (ushr q3 (2 : Int32)))), .val (.int (lenV (ushr q3 (4 : Int32)))), .val (.int (lenV (ushr q3 (6 : Int32)))), .val (.int ((ushr q3 (10 : Int32)) &&& (3 : Int32))), .val (.ref b3), .val (.ref b4), .val (.ref b5), .val (.ref b6), .val (.ref b7), .val (.ref b12), .val (.int (0 : Int32))]) rfl ?_
                refine g_aload X18 hx hby at_259 (pc' := 261) rfl rfl rfl ?_
                refine g_aload X18 hx hby at_261 (pc' := 263) rfl rfl rfl ?_
                refine g_callV X18 hx hZ13 hown13 (W := 0) (argsL := [.ref b12]) (b := b7) (rest := []) hby at_263 (pc' := 266) rfl (by rw [hml]; rfl) (w_63 hw) (w_64 hw) (w_66 hw) (notFace_of_selects (args := #[]) (mvT hZ13 (w_66 hw))) (w_65 hw) (w_40 hw) (w_67 hw) (by decide) (rmQd l Z a0 hw [] b7 b12 T13.heap n0 b3 b4 b5 b6 _ _ _ _ E13_b7 F13_b7_id F13_b7_name Ei13 Fa13 Fb13 X13t_b3 X13t_b4 X13t_b5 X13t_b6 nb5_b3 nb6_b4 cs SS O13) e18 E13_b7 (by decide) (by decide) (by decide) (by decide) rfl pd__28Ljava_2flang_2fObject_3b_29Z rfl rfl (Nat.le_of_eq rfl) ?_
                rintro _ T20 L20 X20 ⟨rfl, N20q, e20⟩
                have N20 := Fr.app N18 N20q
                show GoE p e below _ (T20.setTop (mkF m 266 #[.val (.int q1), .val (.int q2), .val (.int q3), .val (.int (q1 &&& (65535 : Int32))), .val (.int ((ushr q1 (16 : Int32)) &&& (65535 : Int32))), .val (.int (q2 &&& (65535 : Int32))), .val (.int ((ushr q2 (16 : Int32)) &&& (65535 : Int32))), .val (.int (lenV q3)), .val (.int (lenV (ushr q3 (2 : Int32)))), .val (.int (lenV (ushr q3 (4 : Int32)))), .val (.int (lenV (ushr q3 (6 : Int32)))), .val (.int ((ushr q3 (10 : Int32)) &&& (3 : Int32))), .val (.ref b3), .val (.ref b4), .val (.ref b5), .val (.ref b6), .val (.ref b7), .val (.ref b12), .val (.int (0 : Int32))] [.int (SE (eqT (chars (q1 &&& (65535 : Int32)) (lenV q3)) (chars (q2 &&& (65535 : Int32)) (lenV (ushr q3 (2 : Int32))))) (eqT (chars ((ushr q1 (16 : Int32)) &&& (65535 : Int32)) (lenV (ushr q3 (4 : Int32)))) (chars ((ushr q2 (16 : Int32)) &&& (65535 : Int32)) (lenV (ushr q3 (6 : Int32))))))]))
                refine g_iload X20 hx hby at_266 (pc' := 268) rfl rfl ?_
                refine g_icmp_ne X20 hx hby at_268 (by decide) (pc' := 275) (by decide) (pn := 271) rfl (fun z => absurd z (fun z => z (by simp only [SE, ← own_same (own_len _) (own_len _), hc235_15, hc249_19, if_true, if_false, ↓reduceIte]))) (fun hc268_21 => ?_)
                refine g_iconst X20 hx hby at_271 (pc' := 272) rfl (z := (1 : Int32)) rfl ?_
                refine g_goto X20 hx hby at_272 (by decide) (pc' := 276) (by decide) ?_
                refine GoH.of_go (a0 := a0) (fun v h L => v = some (.int 1) ∧ Fr n0 L) hS13 hZ13 (own_EL hw) ?_
                exact g_retN (Q := _) (w := (1 : Int32)) X20 hx hby at_276 hret (by simp) (by first | decide | rfl) hlk (by decide) (by decide) (by rw [e20]; exact ⟨⟨rfl, N20⟩, (Nat.le_refl T13.heap.size), C13c⟩)
              · refine g_iconst X18 hx hby at_252 (pc' := 253) rfl (z := (1 : Int32)) rfl ?_
                refine g_goto X18 hx hby at_253 (by decide) (pc' := 257) (by decide) ?_
                refine g_istore X18 hx hby at_257 (pc' := 259) rfl (l' := #[.val (.int q1), .val (.int q2), .val (.int q3), .val (.int (q1 &&& (65535 : Int32))), .val (.int ((ushr q1 (16 : Int32)) &&& (65535 : Int32))), .val (.int (q2 &&& (65535 : Int32))), .val (.int ((ushr q2 (16 : Int32)) &&& (65535 : Int32))), .val (.int (lenV q3)), .val (.int (lenV (ushr q3 (2 : Int32)))), .val (.int (lenV (ushr q3 (4 : Int32)))), .val (.int (lenV (ushr q3 (6 : Int32)))), .val (.int ((ushr q3 (10 : Int32)) &&& (3 : Int32))), .val (.ref b3), .val (.ref b4), .val (.ref b5), .val (.ref b6), .val (.ref b7), .val (.ref b12), .val (.int (1 : Int32))]) rfl ?_
                refine g_aload X18 hx hby at_259 (pc' := 261) rfl rfl rfl ?_
                refine g_aload X18 hx hby at_261 (pc' := 263) rfl rfl rfl ?_
                refine g_callV X18 hx hZ13 hown13 (W := 0) (argsL := [.ref b12]) (b := b7) (rest := []) hby at_263 (pc' := 266) rfl (by rw [hml]; rfl) (w_63 hw) (w_64 hw) (w_66 hw) (notFace_of_selects (args := #[]) (mvT hZ13 (w_66 hw))) (w_65 hw) (w_40 hw) (w_67 hw) (by decide) (rmQd l Z a0 hw [] b7 b12 T13.heap n0 b3 b4 b5 b6 _ _ _ _ E13_b7 F13_b7_id F13_b7_name Ei13 Fa13 Fb13 X13t_b3 X13t_b4 X13t_b5 X13t_b6 nb5_b3 nb6_b4 cs SS O13) e18 E13_b7 (by decide) (by decide) (by decide) (by decide) rfl pd__28Ljava_2flang_2fObject_3b_29Z rfl rfl (Nat.le_of_eq rfl) ?_
                rintro _ T22 L22 X22 ⟨rfl, N22q, e22⟩
                have N22 := Fr.app N18 N22q
                show GoE p e below _ (T22.setTop (mkF m 266 #[.val (.int q1), .val (.int q2), .val (.int q3), .val (.int (q1 &&& (65535 : Int32))), .val (.int ((ushr q1 (16 : Int32)) &&& (65535 : Int32))), .val (.int (q2 &&& (65535 : Int32))), .val (.int ((ushr q2 (16 : Int32)) &&& (65535 : Int32))), .val (.int (lenV q3)), .val (.int (lenV (ushr q3 (2 : Int32)))), .val (.int (lenV (ushr q3 (4 : Int32)))), .val (.int (lenV (ushr q3 (6 : Int32)))), .val (.int ((ushr q3 (10 : Int32)) &&& (3 : Int32))), .val (.ref b3), .val (.ref b4), .val (.ref b5), .val (.ref b6), .val (.ref b7), .val (.ref b12), .val (.int (1 : Int32))] [.int (SE (eqT (chars (q1 &&& (65535 : Int32)) (lenV q3)) (chars (q2 &&& (65535 : Int32)) (lenV (ushr q3 (2 : Int32))))) (eqT (chars ((ushr q1 (16 : Int32)) &&& (65535 : Int32)) (lenV (ushr q3 (4 : Int32)))) (chars ((ushr q2 (16 : Int32)) &&& (65535 : Int32)) (lenV (ushr q3 (6 : Int32))))))]))
                refine g_iload X22 hx hby at_266 (pc' := 268) rfl rfl ?_
                refine g_icmp_ne X22 hx hby at_268 (by decide) (pc' := 275) (by decide) (pn := 271) rfl (fun z => absurd z (fun z => z (by simp only [SE, ← own_same (own_len _) (own_len _), hc235_15, hc249_19, if_true, if_false, ↓reduceIte]))) (fun hc268_23 => ?_)
                refine g_iconst X22 hx hby at_271 (pc' := 272) rfl (z := (1 : Int32)) rfl ?_
                refine g_goto X22 hx hby at_272 (by decide) (pc' := 276) (by decide) ?_
                refine GoH.of_go (a0 := a0) (fun v h L => v = some (.int 1) ∧ Fr n0 L) hS13 hZ13 (own_EL hw) ?_
                exact g_retN (Q := _) (w := (1 : Int32)) X22 hx hby at_276 hret (by simp) (by first | decide | rfl) hlk (by decide) (by decide) (by rw [e22]; exact ⟨⟨rfl, N22⟩, (Nat.le_refl T13.heap.size), C13c⟩)
          · refine g_aload X8 hx hby at_192 (pc' := 194) rfl rfl rfl ?_
            refine g_astore X8 hx hby at_194 (pc' := 196) rfl rfl (l' := #[.val (.int q1), .val (.int q2), .val (.int q3), .val (.int (q1 &&& (65535 : Int32))), .val (.int ((ushr q1 (16 : Int32)) &&& (65535 : Int32))), .val (.int (q2 &&& (65535 : Int32))), .val (.int ((ushr q2 (16 : Int32)) &&& (65535 : Int32))), .val (.int (lenV q3)), .val (.int (lenV (ushr q3 (2 : Int32)))), .val (.int (lenV (ushr q3 (4 : Int32)))), .val (.int (lenV (ushr q3 (6 : Int32)))), .val (.int ((ushr q3 (10 : Int32)) &&& (3 : Int32))), .val (.ref b3), .val (.ref b4), .val (.ref b5), .val (.ref b6), .val (.ref b7), .val (.ref b3), .unset]) rfl ?_
            refine g_aload X8 hx hby at_196 (pc' := 198) rfl rfl rfl ?_
            refine g_aload X8 hx hby at_198 (pc' := 200) rfl rfl rfl ?_
            refine g_callV X8 hx hZ8 hown8 (W := 0) (argsL := [.ref b3]) (b := b7) (rest := []) hby at_200 (pc' := 203) rfl (by rw [hml]; rfl) (w_63 hw) (w_64 hw) (w_66 hw) (notFace_of_selects (args := #[]) (mvT hZ8 (w_66 hw))) (w_65 hw) (w_40 hw) (w_67 hw) (by decide) (rmQt l Z a0 hw [] b7 b3 T8.heap n0 X8t_b3.1) rfl Ei8 (by decide) (by decide) (by decide) (by decide) rfl pd__28Ljava_2flang_2fObject_3b_29Z rfl rfl (Nat.le_of_eq rfl) ?_
            rintro _ T24 L24 X24 ⟨rfl, N24q, e24⟩
            have N24 := Fr.app N8 N24q
            show GoE p e below _ (T24.setTop (mkF m 203 #[.val (.int q1), .val (.int q2), .val (.int q3), .val (.int (q1 &&& (65535 : Int32))), .val (.int ((ushr q1 (16 : Int32)) &&& (65535 : Int32))), .val (.int (q2 &&& (65535 : Int32))), .val (.int ((ushr q2 (16 : Int32)) &&& (65535 : Int32))), .val (.int (lenV q3)), .val (.int (lenV (ushr q3 (2 : Int32)))), .val (.int (lenV (ushr q3 (4 : Int32)))), .val (.int (lenV (ushr q3 (6 : Int32)))), .val (.int ((ushr q3 (10 : Int32)) &&& (3 : Int32))), .val (.ref b3), .val (.ref b4), .val (.ref b5), .val (.ref b6), .val (.ref b7), .val (.ref b3), .unset] [.int (0 : Int32)]))
            refine g_if_ne X24 hx hby at_203 (by decide) (pc' := 210) (by decide) (pn := 206) rfl (fun z => absurd z (by decide)) (fun _ => ?_)
            refine g_iconst X24 hx hby at_206 (pc' := 207) rfl (z := (1 : Int32)) rfl ?_
            refine g_goto X24 hx hby at_207 (by decide) (pc' := 211) (by decide) ?_
            refine GoH.of_go (a0 := a0) (fun v h L => v = some (.int 1) ∧ Fr n0 L) hS8 hZ8 (own_EL hw) ?_
            exact g_retN (Q := _) (w := (1 : Int32)) X24 hx hby at_211 hret (by simp) (by first | decide | rfl) hlk (by decide) (by decide) (by rw [e24]; exact ⟨⟨rfl, N24⟩, (Nat.le_refl T8.heap.size), C8c⟩)
        · refine g_aload X8 hx hby at_171 (pc' := 173) rfl rfl rfl ?_
          refine g_aconstNull X8 hx hby at_173 (pc' := 174) rfl ?_
          refine g_callV X8 hx hZ8 hown8 (W := 0) (argsL := [.null]) (b := b7) (rest := []) hby at_174 (pc' := 177) rfl (by rw [hml]; rfl) (w_63 hw) (w_64 hw) (w_66 hw) (notFace_of_selects (args := #[]) (mvT hZ8 (w_66 hw))) (w_65 hw) (w_40 hw) (w_67 hw) (by decide) (rmQn l Z a0 hw [] b7 T8.heap n0) rfl Ei8 (by decide) (by decide) (by decide) (by decide) rfl pd__28Ljava_2flang_2fObject_3b_29Z rfl rfl (Nat.le_of_eq rfl) ?_
          rintro _ T25 L25 X25 ⟨rfl, N25q, e25⟩
          have N25 := Fr.app N8 N25q
          show GoE p e below _ (T25.setTop (mkF m 177 #[.val (.int q1), .val (.int q2), .val (.int q3), .val (.int (q1 &&& (65535 : Int32))), .val (.int ((ushr q1 (16 : Int32)) &&& (65535 : Int32))), .val (.int (q2 &&& (65535 : Int32))), .val (.int ((ushr q2 (16 : Int32)) &&& (65535 : Int32))), .val (.int (lenV q3)), .val (.int (lenV (ushr q3 (2 : Int32)))), .val (.int (lenV (ushr q3 (4 : Int32)))), .val (.int (lenV (ushr q3 (6 : Int32)))), .val (.int ((ushr q3 (10 : Int32)) &&& (3 : Int32))), .val (.ref b3), .val (.ref b4), .val (.ref b5), .val (.ref b6), .val (.ref b7), .unset, .unset] [.int (0 : Int32)]))
          refine g_if_ne X25 hx hby at_177 (by decide) (pc' := 184) (by decide) (pn := 180) rfl (fun z => absurd z (by decide)) (fun _ => ?_)
          refine g_iconst X25 hx hby at_180 (pc' := 181) rfl (z := (1 : Int32)) rfl ?_
          refine g_goto X25 hx hby at_181 (by decide) (pc' := 185) (by decide) ?_
          refine GoH.of_go (a0 := a0) (fun v h L => v = some (.int 1) ∧ Fr n0 L) hS8 hZ8 (own_EL hw) ?_
          exact g_retN (Q := _) (w := (1 : Int32)) X25 hx hby at_185 hret (by simp) (by first | decide | rfl) hlk (by decide) (by decide) (by rw [e25]; exact ⟨⟨rfl, N25⟩, (Nat.le_refl T8.heap.size), C8c⟩)
      · refine g_aload X8 hx hby at_157 (pc' := 159) rfl rfl rfl ?_
        refine g_aload X8 hx hby at_159 (pc' := 161) rfl rfl rfl ?_
        refine g_callV X8 hx hZ8 hown8 (W := 0) (argsL := [.ref b7]) (b := b7) (rest := []) hby at_161 (pc' := 164) rfl (by rw [hml]; rfl) (w_63 hw) (w_64 hw) (w_66 hw) (notFace_of_selects (args := #[]) (mvT hZ8 (w_66 hw))) (w_65 hw) (w_40 hw) (w_67 hw) (by decide) (rmQs l Z a0 hw [] b7 T8.heap n0 b3 b4 Ei8 Fa8 Fb8 X8t_b3.1 X8t_b4.1 cs SS O8) rfl Ei8 (by decide) (by decide) (by decide) (by decide) rfl pd__28Ljava_2flang_2fObject_3b_29Z rfl rfl (Nat.le_of_eq rfl) ?_
        rintro _ T26 L26 X26 ⟨rfl, N26q, e26⟩
        have N26 := Fr.app N8 N26q
        show GoE p e below _ (T26.setTop (mkF m 164 #[.val (.int q1), .val (.int q2), .val (.int q3), .val (.int (q1 &&& (65535 : Int32))), .val (.int ((ushr q1 (16 : Int32)) &&& (65535 : Int32))), .val (.int (q2 &&& (65535 : Int32))), .val (.int ((ushr q2 (16 : Int32)) &&& (65535 : Int32))), .val (.int (lenV q3)), .val (.int (lenV (ushr q3 (2 : Int32)))), .val (.int (lenV (ushr q3 (4 : Int32)))), .val (.int (lenV (ushr q3 (6 : Int32)))), .val (.int ((ushr q3 (10 : Int32)) &&& (3 : Int32))), .val (.ref b3), .val (.ref b4), .val (.ref b5), .val (.ref b6), .val (.ref b7), .unset, .unset] [.int (1 : Int32)]))
        refine GoH.of_go (a0 := a0) (fun v h L => v = some (.int 1) ∧ Fr n0 L) hS8 hZ8 (own_EL hw) ?_
        exact g_retN (Q := _) (w := (1 : Int32)) X26 hx hby at_164 hret (by simp) (by first | decide | rfl) hlk (by decide) (by decide) (by rw [e26]; exact ⟨⟨rfl, N26⟩, (Nat.le_refl T8.heap.size), C8c⟩)
    · refine g_iload X0 hx hby at_87 (pc' := 89) rfl rfl ?_
      refine g_istore X0 hx hby at_89 (pc' := 91) rfl (l' := #[.val (.int q1), .val (.int q2), .val (.int q3), .val (.int (q1 &&& (65535 : Int32))), .val (.int ((ushr q1 (16 : Int32)) &&& (65535 : Int32))), .val (.int (q2 &&& (65535 : Int32))), .val (.int ((ushr q1 (16 : Int32)) &&& (65535 : Int32))), .val (.int (lenV q3)), .val (.int (lenV (ushr q3 (2 : Int32)))), .val (.int (lenV (ushr q3 (4 : Int32)))), .val (.int (lenV (ushr q3 (6 : Int32)))), .unset, .unset, .unset, .unset, .unset, .unset, .unset, .unset]) rfl ?_
      refine g_iload X0 hx hby at_91 (pc' := 93) rfl rfl ?_
      refine g_istore X0 hx hby at_93 (pc' := 95) rfl (l' := #[.val (.int q1), .val (.int q2), .val (.int q3), .val (.int (q1 &&& (65535 : Int32))), .val (.int ((ushr q1 (16 : Int32)) &&& (65535 : Int32))), .val (.int (q2 &&& (65535 : Int32))), .val (.int ((ushr q1 (16 : Int32)) &&& (65535 : Int32))), .val (.int (lenV q3)), .val (.int (lenV (ushr q3 (2 : Int32)))), .val (.int (lenV (ushr q3 (4 : Int32)))), .val (.int (lenV (ushr q3 (4 : Int32)))), .unset, .unset, .unset, .unset, .unset, .unset, .unset, .unset]) rfl ?_
      refine g_iloadN X0 hx hby at_95 (pc' := 96) rfl rfl ?_
      refine g_bipush X0 hx hby at_96 (pc' := 98) rfl (z := (10 : Int32)) rfl ?_
      refine g_iushr X0 hx hby at_98 (pc' := 99) rfl ?_
      refine g_iconst X0 hx hby at_99 (pc' := 100) rfl (z := (3 : Int32)) rfl ?_
      refine g_iand X0 hx hby at_100 (pc' := 101) rfl ?_
      refine g_istore X0 hx hby at_101 (pc' := 103) rfl (l' := #[.val (.int q1), .val (.int q2), .val (.int q3), .val (.int (q1 &&& (65535 : Int32))), .val (.int ((ushr q1 (16 : Int32)) &&& (65535 : Int32))), .val (.int (q2 &&& (65535 : Int32))), .val (.int ((ushr q1 (16 : Int32)) &&& (65535 : Int32))), .val (.int (lenV q3)), .val (.int (lenV (ushr q3 (2 : Int32)))), .val (.int (lenV (ushr q3 (4 : Int32)))), .val (.int (lenV (ushr q3 (4 : Int32)))), .val (.int ((ushr q3 (10 : Int32)) &&& (3 : Int32))), .unset, .unset, .unset, .unset, .unset, .unset, .unset]) rfl ?_
      refine g_iloadN X0 hx hby at_103 (pc' := 104) rfl rfl ?_
      refine g_iload X0 hx hby at_104 (pc' := 106) rfl rfl ?_
      refine g_callSH X0 hx hZ hown (W := 0) (argsL := [.int (q1 &&& (65535 : Int32)), .int (lenV q3)]) (rest := []) hby at_106 (pc' := 109) rfl (by rw [hml]; rfl) (w_1 hw) (w_2 hw) (w_3 hw) (w_4 hw) (by decide) (rmM l Z a0 hw [] (q1 &&& (65535 : Int32)) (lenV q3) h0 n0 Z0 cs SS O0) e0 hS0 (Nat.le_refl h0.size) (own_EL hw) C0h.1 (by decide) (by decide) (by decide) (by decide) rfl pd__28II_29Ljava_2flang_2fString_3b rfl rfl (Nat.le_of_eq rfl) ?_
      rintro _ T27 L27 X27 (⟨b27, rfl, N27q, K27, G27, Tx27⟩) hS27 hZ27 hown27 C27h
      have N27 := Fr.app N0 N27q
      have C27c := C0h.trans C27h
      have O27 := O0.keep K27 all0
      have Z27 := Nat.le_trans Z0 K27.1
      have Y27 := Nat.le_trans (Nat.le_refl h0.size) K27.1
      show GoE p e below _ (T27.setTop (mkF m 109 #[.val (.int q1), .val (.int q2), .val (.int q3), .val (.int (q1 &&& (65535 : Int32))), .val (.int ((ushr q1 (16 : Int32)) &&& (65535 : Int32))), .val (.int (q2 &&& (65535 : Int32))), .val (.int ((ushr q1 (16 : Int32)) &&& (65535 : Int32))), .val (.int (lenV q3)), .val (.int (lenV (ushr q3 (2 : Int32)))), .val (.int (lenV (ushr q3 (4 : Int32)))), .val (.int (lenV (ushr q3 (4 : Int32)))), .val (.int ((ushr q3 (10 : Int32)) &&& (3 : Int32))), .unset, .unset, .unset, .unset, .unset, .unset, .unset] [.ref b27]))
      refine g_astore X27 hx hby at_109 (pc' := 111) rfl rfl (l' := #[.val (.int q1), .val (.int q2), .val (.int q3), .val (.int (q1 &&& (65535 : Int32))), .val (.int ((ushr q1 (16 : Int32)) &&& (65535 : Int32))), .val (.int (q2 &&& (65535 : Int32))), .val (.int ((ushr q1 (16 : Int32)) &&& (65535 : Int32))), .val (.int (lenV q3)), .val (.int (lenV (ushr q3 (2 : Int32)))), .val (.int (lenV (ushr q3 (4 : Int32)))), .val (.int (lenV (ushr q3 (4 : Int32)))), .val (.int ((ushr q3 (10 : Int32)) &&& (3 : Int32))), .val (.ref b27), .unset, .unset, .unset, .unset, .unset, .unset]) rfl ?_
      refine g_iload X27 hx hby at_111 (pc' := 113) rfl rfl ?_
      refine g_iload X27 hx hby at_113 (pc' := 115) rfl rfl ?_
      refine g_callSH X27 hx hZ27 hown27 (W := 0) (argsL := [.int ((ushr q1 (16 : Int32)) &&& (65535 : Int32)), .int (lenV (ushr q3 (4 : Int32)))]) (rest := []) hby at_115 (pc' := 118) rfl (by rw [hml]; rfl) (w_1 hw) (w_2 hw) (w_3 hw) (w_4 hw) (by decide) (rmM l Z a0 hw [] ((ushr q1 (16 : Int32)) &&& (65535 : Int32)) (lenV (ushr q3 (4 : Int32))) T27.heap n0 Z27 cs SS O27) rfl hS27 (Nat.le_refl T27.heap.size) (own_EL hw) C27c.1 (by decide) (by decide) (by decide) (by decide) rfl pd__28II_29Ljava_2flang_2fString_3b rfl rfl (Nat.le_of_eq rfl) ?_
      rintro _ T28 L28 X28 (⟨b28, rfl, N28q, K28, G28, Tx28⟩) hS28 hZ28 hown28 C28h
      have N28 := Fr.app N27 N28q
      have C28c := C27c.trans C28h
      have nb28_b27 : b27 ≠ b28 := Nat.ne_of_lt (Nat.lt_of_lt_of_le Tx27.lt G28)
      have O28 := O27.keep K28 all0
      have Z28 := Nat.le_trans Z27 K28.1
      have Y28 := Nat.le_trans (Nat.le_refl T27.heap.size) K28.1
      have X28t_b27 := Tx27.keep0 K28
      show GoE p e below _ (T28.setTop (mkF m 118 #[.val (.int q1), .val (.int q2), .val (.int q3), .val (.int (q1 &&& (65535 : Int32))), .val (.int ((ushr q1 (16 : Int32)) &&& (65535 : Int32))), .val (.int (q2 &&& (65535 : Int32))), .val (.int ((ushr q1 (16 : Int32)) &&& (65535 : Int32))), .val (.int (lenV q3)), .val (.int (lenV (ushr q3 (2 : Int32)))), .val (.int (lenV (ushr q3 (4 : Int32)))), .val (.int (lenV (ushr q3 (4 : Int32)))), .val (.int ((ushr q3 (10 : Int32)) &&& (3 : Int32))), .val (.ref b27), .unset, .unset, .unset, .unset, .unset, .unset] [.ref b28]))
      refine g_astore X28 hx hby at_118 (pc' := 120) rfl rfl (l' := #[.val (.int q1), .val (.int q2), .val (.int q3), .val (.int (q1 &&& (65535 : Int32))), .val (.int ((ushr q1 (16 : Int32)) &&& (65535 : Int32))), .val (.int (q2 &&& (65535 : Int32))), .val (.int ((ushr q1 (16 : Int32)) &&& (65535 : Int32))), .val (.int (lenV q3)), .val (.int (lenV (ushr q3 (2 : Int32)))), .val (.int (lenV (ushr q3 (4 : Int32)))), .val (.int (lenV (ushr q3 (4 : Int32)))), .val (.int ((ushr q3 (10 : Int32)) &&& (3 : Int32))), .val (.ref b27), .val (.ref b28), .unset, .unset, .unset, .unset, .unset]) rfl ?_
      refine g_iload X28 hx hby at_120 (pc' := 122) rfl rfl ?_
      refine g_iload X28 hx hby at_122 (pc' := 124) rfl rfl ?_
      refine g_callSH X28 hx hZ28 hown28 (W := 0) (argsL := [.int (q2 &&& (65535 : Int32)), .int (lenV (ushr q3 (2 : Int32)))]) (rest := []) hby at_124 (pc' := 127) rfl (by rw [hml]; rfl) (w_1 hw) (w_2 hw) (w_3 hw) (w_4 hw) (by decide) (rmM l Z a0 hw [] (q2 &&& (65535 : Int32)) (lenV (ushr q3 (2 : Int32))) T28.heap n0 Z28 cs SS O28) rfl hS28 (Nat.le_refl T28.heap.size) (own_EL hw) C28c.1 (by decide) (by decide) (by decide) (by decide) rfl pd__28II_29Ljava_2flang_2fString_3b rfl rfl (Nat.le_of_eq rfl) ?_
      rintro _ T29 L29 X29 (⟨b29, rfl, N29q, K29, G29, Tx29⟩) hS29 hZ29 hown29 C29h
      have N29 := Fr.app N28 N29q
      have C29c := C28c.trans C29h
      have nb29_b27 : b27 ≠ b29 := Nat.ne_of_lt (Nat.lt_of_lt_of_le X28t_b27.lt G29)
      have nb29_b28 : b28 ≠ b29 := Nat.ne_of_lt (Nat.lt_of_lt_of_le Tx28.lt G29)
      have O29 := O28.keep K29 all0
      have Z29 := Nat.le_trans Z28 K29.1
      have Y29 := Nat.le_trans (Nat.le_refl T28.heap.size) K29.1
      have X29t_b27 := X28t_b27.keep0 K29
      have X29t_b28 := Tx28.keep0 K29
      show GoE p e below _ (T29.setTop (mkF m 127 #[.val (.int q1), .val (.int q2), .val (.int q3), .val (.int (q1 &&& (65535 : Int32))), .val (.int ((ushr q1 (16 : Int32)) &&& (65535 : Int32))), .val (.int (q2 &&& (65535 : Int32))), .val (.int ((ushr q1 (16 : Int32)) &&& (65535 : Int32))), .val (.int (lenV q3)), .val (.int (lenV (ushr q3 (2 : Int32)))), .val (.int (lenV (ushr q3 (4 : Int32)))), .val (.int (lenV (ushr q3 (4 : Int32)))), .val (.int ((ushr q3 (10 : Int32)) &&& (3 : Int32))), .val (.ref b27), .val (.ref b28), .unset, .unset, .unset, .unset, .unset] [.ref b29]))
      refine g_astore X29 hx hby at_127 (pc' := 129) rfl rfl (l' := #[.val (.int q1), .val (.int q2), .val (.int q3), .val (.int (q1 &&& (65535 : Int32))), .val (.int ((ushr q1 (16 : Int32)) &&& (65535 : Int32))), .val (.int (q2 &&& (65535 : Int32))), .val (.int ((ushr q1 (16 : Int32)) &&& (65535 : Int32))), .val (.int (lenV q3)), .val (.int (lenV (ushr q3 (2 : Int32)))), .val (.int (lenV (ushr q3 (4 : Int32)))), .val (.int (lenV (ushr q3 (4 : Int32)))), .val (.int ((ushr q3 (10 : Int32)) &&& (3 : Int32))), .val (.ref b27), .val (.ref b28), .val (.ref b29), .unset, .unset, .unset, .unset]) rfl ?_
      refine g_iload X29 hx hby at_129 (pc' := 131) rfl rfl ?_
      refine g_iload X29 hx hby at_131 (pc' := 133) rfl rfl ?_
      refine g_callSH X29 hx hZ29 hown29 (W := 0) (argsL := [.int ((ushr q1 (16 : Int32)) &&& (65535 : Int32)), .int (lenV (ushr q3 (4 : Int32)))]) (rest := []) hby at_133 (pc' := 136) rfl (by rw [hml]; rfl) (w_1 hw) (w_2 hw) (w_3 hw) (w_4 hw) (by decide) (rmM l Z a0 hw [] ((ushr q1 (16 : Int32)) &&& (65535 : Int32)) (lenV (ushr q3 (4 : Int32))) T29.heap n0 Z29 cs SS O29) rfl hS29 (Nat.le_refl T29.heap.size) (own_EL hw) C29c.1 (by decide) (by decide) (by decide) (by decide) rfl pd__28II_29Ljava_2flang_2fString_3b rfl rfl (Nat.le_of_eq rfl) ?_
      rintro _ T30 L30 X30 (⟨b30, rfl, N30q, K30, G30, Tx30⟩) hS30 hZ30 hown30 C30h
      have N30 := Fr.app N29 N30q
      have C30c := C29c.trans C30h
      have nb30_b27 : b27 ≠ b30 := Nat.ne_of_lt (Nat.lt_of_lt_of_le X29t_b27.lt G30)
      have nb30_b28 : b28 ≠ b30 := Nat.ne_of_lt (Nat.lt_of_lt_of_le X29t_b28.lt G30)
      have nb30_b29 : b29 ≠ b30 := Nat.ne_of_lt (Nat.lt_of_lt_of_le Tx29.lt G30)
      have O30 := O29.keep K30 all0
      have Z30 := Nat.le_trans Z29 K30.1
      have Y30 := Nat.le_trans (Nat.le_refl T29.heap.size) K30.1
      have X30t_b27 := X29t_b27.keep0 K30
      have X30t_b28 := X29t_b28.keep0 K30
      have X30t_b29 := Tx29.keep0 K30
      show GoE p e below _ (T30.setTop (mkF m 136 #[.val (.int q1), .val (.int q2), .val (.int q3), .val (.int (q1 &&& (65535 : Int32))), .val (.int ((ushr q1 (16 : Int32)) &&& (65535 : Int32))), .val (.int (q2 &&& (65535 : Int32))), .val (.int ((ushr q1 (16 : Int32)) &&& (65535 : Int32))), .val (.int (lenV q3)), .val (.int (lenV (ushr q3 (2 : Int32)))), .val (.int (lenV (ushr q3 (4 : Int32)))), .val (.int (lenV (ushr q3 (4 : Int32)))), .val (.int ((ushr q3 (10 : Int32)) &&& (3 : Int32))), .val (.ref b27), .val (.ref b28), .val (.ref b29), .unset, .unset, .unset, .unset] [.ref b30]))
      refine g_astore X30 hx hby at_136 (pc' := 138) rfl rfl (l' := #[.val (.int q1), .val (.int q2), .val (.int q3), .val (.int (q1 &&& (65535 : Int32))), .val (.int ((ushr q1 (16 : Int32)) &&& (65535 : Int32))), .val (.int (q2 &&& (65535 : Int32))), .val (.int ((ushr q1 (16 : Int32)) &&& (65535 : Int32))), .val (.int (lenV q3)), .val (.int (lenV (ushr q3 (2 : Int32)))), .val (.int (lenV (ushr q3 (4 : Int32)))), .val (.int (lenV (ushr q3 (4 : Int32)))), .val (.int ((ushr q3 (10 : Int32)) &&& (3 : Int32))), .val (.ref b27), .val (.ref b28), .val (.ref b29), .val (.ref b30), .unset, .unset, .unset]) rfl ?_
      refine g_new X30 hx hZ30 hown30 hby at_138 (pc' := 141) rfl (w_38 hw) (w_39 hw) (w_40 hw) rfl (by decide) (by decide) ?_
      intro T31 b31 hb31 X31 E31 A31 D31
      have sf31_b31 := Safe.ext E31 C30c.1 (Safe.new (Nat.le_of_eq hb31.symm))
      have C31c := C30c.trans (CHr.ext E31 C30c.1)
      have O31o := O30.ext E31
      have Z31 := Nat.le_trans Z30 E31.1
      have Y31 := Nat.le_trans (Nat.le_refl T30.heap.size) E31.1
      have X31t_b27 := X30t_b27.ext E31
      have ne31_b27 : b27 ≠ b31 := hb31 ▸ Nat.ne_of_lt X30t_b27.lt
      have X31t_b28 := X30t_b28.ext E31
      have ne31_b28 : b28 ≠ b31 := hb31 ▸ Nat.ne_of_lt X30t_b28.lt
      have X31t_b29 := X30t_b29.ext E31
      have ne31_b29 : b29 ≠ b31 := hb31 ▸ Nat.ne_of_lt X30t_b29.lt
      have X31t_b30 := Tx30.ext E31
      have ne31_b30 : b30 ≠ b31 := hb31 ▸ Nat.ne_of_lt Tx30.lt
      have F31_id : Fld Z T31.heap b31 "com/example/phaseline/phaseline/game/Side" "id" "Ljava/lang/String;" (.null) := D31 (Or.inr (w_57 hw)) (ty := (.object "java/lang/String")) (by decide)
      have F31_name : Fld Z T31.heap b31 "com/example/phaseline/phaseline/game/Side" "name" "Ljava/lang/String;" (.null) := D31 (Or.inr (w_59 hw)) (ty := (.object "java/lang/String")) (by decide)
      refine g_dup X31 hx hby at_141 (pc' := 142) rfl rfl ?_
      refine g_aload X31 hx hby at_142 (pc' := 144) rfl rfl rfl ?_
      refine g_aload X31 hx hby at_144 (pc' := 146) rfl rfl rfl ?_
      refine g_callIH X31 hx hZ30 hown30 (W := 1) (argsL := [.ref b27, .ref b28]) (b := b31) (rest := [.ref b31]) hby at_146 (pc' := 149) rfl (by rw [hml]; rfl) (w_41 hw) (w_42 hw) (w_40 hw) (w_43 hw) rfl (by decide) (rmSD l Z a0 hw [] b31 b27 b28 T31.heap n0 _ _ Z31 A31 F31_id F31_name (Nat.le_trans Z30 (Nat.le_of_eq hb31.symm)) cs SS O31o) rfl hS30 Y31 (own_EL hw) C31c.1 (by decide) (by decide) (by decide) (by decide) rfl pd__28Ljava_2flang_2fString_3bLjava_2flang_2fString_3b_29V rfl rfl (Nat.le_of_eq rfl) ?_
      rintro _ T32 L32 X32 (⟨rfl, N32q, K32, Ei32, Fa32, Fb32⟩) hS32 hZ32 hown32 C32h
      have N32 := Fr.app N30 N32q
      have sf32_b31 := C32h.safe A31.lt sf31_b31
      have C32c := C31c.trans C32h
      have O32 := O31o.keep K32 (allS (Nat.le_trans Z30 (Nat.le_of_eq hb31.symm)) all0)
      have Z32 := Nat.le_trans Z31 K32.1
      have Y32 := Nat.le_trans Y31 K32.1
      have X32t_b27 := X31t_b27.keep1 K32 A31 (w_39 hw) ne31_b27
      have X32t_b28 := X31t_b28.keep1 K32 A31 (w_39 hw) ne31_b28
      have X32t_b29 := X31t_b29.keep1 K32 A31 (w_39 hw) ne31_b29
      have X32t_b30 := X31t_b30.keep1 K32 A31 (w_39 hw) ne31_b30
      have E32_b31 := A31.keep K32
      show GoE p e below _ (T32.setTop (mkF m 149 #[.val (.int q1), .val (.int q2), .val (.int q3), .val (.int (q1 &&& (65535 : Int32))), .val (.int ((ushr q1 (16 : Int32)) &&& (65535 : Int32))), .val (.int (q2 &&& (65535 : Int32))), .val (.int ((ushr q1 (16 : Int32)) &&& (65535 : Int32))), .val (.int (lenV q3)), .val (.int (lenV (ushr q3 (2 : Int32)))), .val (.int (lenV (ushr q3 (4 : Int32)))), .val (.int (lenV (ushr q3 (4 : Int32)))), .val (.int ((ushr q3 (10 : Int32)) &&& (3 : Int32))), .val (.ref b27), .val (.ref b28), .val (.ref b29), .val (.ref b30), .unset, .unset, .unset] [.ref b31]))
      refine g_astore X32 hx hby at_149 (pc' := 151) rfl rfl (l' := #[.val (.int q1), .val (.int q2), .val (.int q3), .val (.int (q1 &&& (65535 : Int32))), .val (.int ((ushr q1 (16 : Int32)) &&& (65535 : Int32))), .val (.int (q2 &&& (65535 : Int32))), .val (.int ((ushr q1 (16 : Int32)) &&& (65535 : Int32))), .val (.int (lenV q3)), .val (.int (lenV (ushr q3 (2 : Int32)))), .val (.int (lenV (ushr q3 (4 : Int32)))), .val (.int (lenV (ushr q3 (4 : Int32)))), .val (.int ((ushr q3 (10 : Int32)) &&& (3 : Int32))), .val (.ref b27), .val (.ref b28), .val (.ref b29), .val (.ref b30), .val (.ref b31), .unset, .unset]) rfl ?_
      refine g_iload X32 hx hby at_151 (pc' := 153) rfl rfl ?_
      refine g_iconst X32 hx hby at_153 (pc' := 154) rfl (z := (1 : Int32)) rfl ?_
      refine g_icmp_ne X32 hx hby at_154 (by decide) (pc' := 165) (by decide) (pn := 157) rfl (fun hc154_33 => ?_) (fun hc154_33 => ?_)
      · refine g_iload X32 hx hby at_165 (pc' := 167) rfl rfl ?_
        refine g_iconst X32 hx hby at_167 (pc' := 168) rfl (z := (2 : Int32)) rfl ?_
        refine g_icmp_ne X32 hx hby at_168 (by decide) (pc' := 186) (by decide) (pn := 171) rfl (fun hc168_34 => ?_) (fun hc168_34 => ?_)
        · refine g_iload X32 hx hby at_186 (pc' := 188) rfl rfl ?_
          refine g_iconst X32 hx hby at_188 (pc' := 189) rfl (z := (3 : Int32)) rfl ?_
          refine g_icmp_ne X32 hx hby at_189 (by decide) (pc' := 212) (by decide) (pn := 192) rfl (fun hc189_35 => ?_) (fun hc189_35 => ?_)
          · refine g_new X32 hx hZ32 hown32 hby at_212 (pc' := 215) rfl (w_38 hw) (w_39 hw) (w_40 hw) rfl (by decide) (by decide) ?_
            intro T36 b36 hb36 X36 E36 A36 D36
            have sf36_b31 := Safe.ext E36 C32c.1 sf32_b31
            have sf36_b36 := Safe.ext E36 C32c.1 (Safe.new (Nat.le_of_eq hb36.symm))
            have C36c := C32c.trans (CHr.ext E36 C32c.1)
            have O36o := O32.ext E36
            have Z36 := Nat.le_trans Z32 E36.1
            have Y36 := Nat.le_trans (Nat.le_refl T32.heap.size) E36.1
            have X36t_b27 := X32t_b27.ext E36
            have ne36_b27 : b27 ≠ b36 := hb36 ▸ Nat.ne_of_lt X32t_b27.lt
            have X36t_b28 := X32t_b28.ext E36
            have ne36_b28 : b28 ≠ b36 := hb36 ▸ Nat.ne_of_lt X32t_b28.lt
            have X36t_b29 := X32t_b29.ext E36
            have ne36_b29 : b29 ≠ b36 := hb36 ▸ Nat.ne_of_lt X32t_b29.lt
            have X36t_b30 := X32t_b30.ext E36
            have ne36_b30 : b30 ≠ b36 := hb36 ▸ Nat.ne_of_lt X32t_b30.lt
            have E36_b31 := Ei32.ext E36
            have ne36_b31 : b31 ≠ b36 := hb36 ▸ Nat.ne_of_lt Ei32.lt
            have F36_b31_id := Fa32.ext E36
            have F36_b31_name := Fb32.ext E36
            have F36_id : Fld Z T36.heap b36 "com/example/phaseline/phaseline/game/Side" "id" "Ljava/lang/String;" (.null) := D36 (Or.inr (w_57 hw)) (ty := (.object "java/lang/String")) (by decide)
            have F36_name : Fld Z T36.heap b36 "com/example/phaseline/phaseline/game/Side" "name" "Ljava/lang/String;" (.null) := D36 (Or.inr (w_59 hw)) (ty := (.object "java/lang/String")) (by decide)
            refine g_dup X36 hx hby at_215 (pc' := 216) rfl rfl ?_
            refine g_aload X36 hx hby at_216 (pc' := 218) rfl rfl rfl ?_
            refine g_aload X36 hx hby at_218 (pc' := 220) rfl rfl rfl ?_
            refine g_callIH X36 hx hZ32 hown32 (W := 1) (argsL := [.ref b29, .ref b30]) (b := b36) (rest := [.ref b36]) hby at_220 (pc' := 223) rfl (by rw [hml]; rfl) (w_41 hw) (w_42 hw) (w_40 hw) (w_43 hw) rfl (by decide) (rmSD l Z a0 hw [] b36 b29 b30 T36.heap n0 _ _ Z36 A36 F36_id F36_name (Nat.le_trans Z32 (Nat.le_of_eq hb36.symm)) cs SS O36o) rfl hS32 Y36 (own_EL hw) C36c.1 (by decide) (by decide) (by decide) (by decide) rfl pd__28Ljava_2flang_2fString_3bLjava_2flang_2fString_3b_29V rfl rfl (Nat.le_of_eq rfl) ?_
            rintro _ T37 L37 X37 (⟨rfl, N37q, K37, Ei37, Fa37, Fb37⟩) hS37 hZ37 hown37 C37h
            have N37 := Fr.app N32 N37q
            have sf37_b31 := C37h.safe E36_b31.lt sf36_b31
            have sf37_b36 := C37h.safe A36.lt sf36_b36
            have C37c := C36c.trans C37h
            have O37 := O36o.keep K37 (allS (Nat.le_trans Z32 (Nat.le_of_eq hb36.symm)) all0)
            have Z37 := Nat.le_trans Z36 K37.1
            have Y37 := Nat.le_trans Y36 K37.1
            have X37t_b27 := X36t_b27.keep1 K37 A36 (w_39 hw) ne36_b27
            have X37t_b28 := X36t_b28.keep1 K37 A36 (w_39 hw) ne36_b28
            have X37t_b29 := X36t_b29.keep1 K37 A36 (w_39 hw) ne36_b29
            have X37t_b30 := X36t_b30.keep1 K37 A36 (w_39 hw) ne36_b30
            have E37_b31 := E36_b31.keep K37
            have F37_b31_id := F36_b31_id.keep K37 (ninS ne36_b31 nin0)
            have F37_b31_name := F36_b31_name.keep K37 (ninS ne36_b31 nin0)
            have E37_b36 := A36.keep K37
            show GoE p e below _ (T37.setTop (mkF m 223 #[.val (.int q1), .val (.int q2), .val (.int q3), .val (.int (q1 &&& (65535 : Int32))), .val (.int ((ushr q1 (16 : Int32)) &&& (65535 : Int32))), .val (.int (q2 &&& (65535 : Int32))), .val (.int ((ushr q1 (16 : Int32)) &&& (65535 : Int32))), .val (.int (lenV q3)), .val (.int (lenV (ushr q3 (2 : Int32)))), .val (.int (lenV (ushr q3 (4 : Int32)))), .val (.int (lenV (ushr q3 (4 : Int32)))), .val (.int ((ushr q3 (10 : Int32)) &&& (3 : Int32))), .val (.ref b27), .val (.ref b28), .val (.ref b29), .val (.ref b30), .val (.ref b31), .unset, .unset] [.ref b36]))
            refine g_astore X37 hx hby at_223 (pc' := 225) rfl rfl (l' := #[.val (.int q1), .val (.int q2), .val (.int q3), .val (.int (q1 &&& (65535 : Int32))), .val (.int ((ushr q1 (16 : Int32)) &&& (65535 : Int32))), .val (.int (q2 &&& (65535 : Int32))), .val (.int ((ushr q1 (16 : Int32)) &&& (65535 : Int32))), .val (.int (lenV q3)), .val (.int (lenV (ushr q3 (2 : Int32)))), .val (.int (lenV (ushr q3 (4 : Int32)))), .val (.int (lenV (ushr q3 (4 : Int32)))), .val (.int ((ushr q3 (10 : Int32)) &&& (3 : Int32))), .val (.ref b27), .val (.ref b28), .val (.ref b29), .val (.ref b30), .val (.ref b31), .val (.ref b36), .unset]) rfl ?_
            refine g_iloadN X37 hx hby at_225 (pc' := 226) rfl rfl ?_
            refine g_iload X37 hx hby at_226 (pc' := 228) rfl rfl ?_
            refine g_iload X37 hx hby at_228 (pc' := 230) rfl rfl ?_
            refine g_iload X37 hx hby at_230 (pc' := 232) rfl rfl ?_
            refine g_callS X37 hx hZ37 hown37 (W := 0) (argsL := [.int (q1 &&& (65535 : Int32)), .int (lenV q3), .int (q2 &&& (65535 : Int32)), .int (lenV (ushr q3 (2 : Int32)))]) (rest := []) hby at_232 (pc' := 235) rfl (by rw [hml]; rfl) (w_60 hw) (w_61 hw) (w_3 hw) (w_62 hw) (by decide) (rmSA l Z a0 hw [] (q1 &&& (65535 : Int32)) (lenV q3) (q2 &&& (65535 : Int32)) (lenV (ushr q3 (2 : Int32))) T37.heap n0) rfl (by decide) (by decide) (by decide) (by decide) rfl pd__28IIII_29Z rfl rfl (Nat.le_of_eq rfl) ?_
            rintro _ T38 L38 X38 ⟨rfl, N38q, e38⟩
            have N38 := Fr.app N37 N38q
            show GoE p e below _ (T38.setTop (mkF m 235 #[.val (.int q1), .val (.int q2), .val (.int q3), .val (.int (q1 &&& (65535 : Int32))), .val (.int ((ushr q1 (16 : Int32)) &&& (65535 : Int32))), .val (.int (q2 &&& (65535 : Int32))), .val (.int ((ushr q1 (16 : Int32)) &&& (65535 : Int32))), .val (.int (lenV q3)), .val (.int (lenV (ushr q3 (2 : Int32)))), .val (.int (lenV (ushr q3 (4 : Int32)))), .val (.int (lenV (ushr q3 (4 : Int32)))), .val (.int ((ushr q3 (10 : Int32)) &&& (3 : Int32))), .val (.ref b27), .val (.ref b28), .val (.ref b29), .val (.ref b30), .val (.ref b31), .val (.ref b36), .unset] [.int (sameV (q1 &&& (65535 : Int32)) (lenV q3) (q2 &&& (65535 : Int32)) (lenV (ushr q3 (2 : Int32))))]))
            refine g_if_eq X38 hx hby at_235 (by decide) (pc' := 256) (by decide) (pn := 238) rfl (fun hc235_39 => ?_) (fun hc235_39 => ?_)
            · refine g_iconst X38 hx hby at_256 (pc' := 257) rfl (z := (0 : Int32)) rfl ?_
              refine g_istore X38 hx hby at_257 (pc' := 259) rfl (l' := #[.val (.int q1), .val (.int q2), .val (.int q3), .val (.int (q1 &&& (65535 : Int32))), .val (.int ((ushr q1 (16 : Int32)) &&& (65535 : Int32))), .val (.int (q2 &&& (65535 : Int32))), .val (.int ((ushr q1 (16 : Int32)) &&& (65535 : Int32))), .val (.int (lenV q3)), .val (.int (lenV (ushr q3 (2 : Int32)))), .val (.int (lenV (ushr q3 (4 : Int32)))), .val (.int (lenV (ushr q3 (4 : Int32)))), .val (.int ((ushr q3 (10 : Int32)) &&& (3 : Int32))), .val (.ref b27), .val (.ref b28), .val (.ref b29), .val (.ref b30), .val (.ref b31), .val (.ref b36), .val (.int (0 : Int32))]) rfl ?_
              refine g_aload X38 hx hby at_259 (pc' := 261) rfl rfl rfl ?_
              refine g_aload X38 hx hby at_261 (pc' := 263) rfl rfl rfl ?_
              refine g_callV X38 hx hZ37 hown37 (W := 0) (argsL := [.ref b36]) (b := b31) (rest := []) hby at_263 (pc' := 266) rfl (by rw [hml]; rfl) (w_63 hw) (w_64 hw) (w_66 hw) (notFace_of_selects (args := #[]) (mvT hZ37 (w_66 hw))) (w_65 hw) (w_40 hw) (w_67 hw) (by decide) (rmQd l Z a0 hw [] b31 b36 T37.heap n0 b27 b28 b29 b30 _ _ _ _ E37_b31 F37_b31_id F37_b31_name Ei37 Fa37 Fb37 X37t_b27 X37t_b28 X37t_b29 X37t_b30 nb29_b27 nb30_b28 cs SS O37) e38 E37_b31 (by decide) (by decide) (by decide) (by decide) rfl pd__28Ljava_2flang_2fObject_3b_29Z rfl rfl (Nat.le_of_eq rfl) ?_
              rintro _ T40 L40 X40 ⟨rfl, N40q, e40⟩
              have N40 := Fr.app N38 N40q
              show GoE p e below _ (T40.setTop (mkF m 266 #[.val (.int q1), .val (.int q2), .val (.int q3), .val (.int (q1 &&& (65535 : Int32))), .val (.int ((ushr q1 (16 : Int32)) &&& (65535 : Int32))), .val (.int (q2 &&& (65535 : Int32))), .val (.int ((ushr q1 (16 : Int32)) &&& (65535 : Int32))), .val (.int (lenV q3)), .val (.int (lenV (ushr q3 (2 : Int32)))), .val (.int (lenV (ushr q3 (4 : Int32)))), .val (.int (lenV (ushr q3 (4 : Int32)))), .val (.int ((ushr q3 (10 : Int32)) &&& (3 : Int32))), .val (.ref b27), .val (.ref b28), .val (.ref b29), .val (.ref b30), .val (.ref b31), .val (.ref b36), .val (.int (0 : Int32))] [.int (SE (eqT (chars (q1 &&& (65535 : Int32)) (lenV q3)) (chars (q2 &&& (65535 : Int32)) (lenV (ushr q3 (2 : Int32))))) (eqT (chars ((ushr q1 (16 : Int32)) &&& (65535 : Int32)) (lenV (ushr q3 (4 : Int32)))) (chars ((ushr q1 (16 : Int32)) &&& (65535 : Int32)) (lenV (ushr q3 (4 : Int32))))))]))
              refine g_iload X40 hx hby at_266 (pc' := 268) rfl rfl ?_
              refine g_icmp_ne X40 hx hby at_268 (by decide) (pc' := 275) (by decide) (pn := 271) rfl (fun z => absurd z (fun z => z (by simp only [SE, ← own_same (own_len _) (own_len _), hc235_39, if_true, if_false, ↓reduceIte]))) (fun hc268_41 => ?_)
              refine g_iconst X40 hx hby at_271 (pc' := 272) rfl (z := (1 : Int32)) rfl ?_
              refine g_goto X40 hx hby at_272 (by decide) (pc' := 276) (by decide) ?_
              refine GoH.of_go (a0 := a0) (fun v h L => v = some (.int 1) ∧ Fr n0 L) hS37 hZ37 (own_EL hw) ?_
              exact g_retN (Q := _) (w := (1 : Int32)) X40 hx hby at_276 hret (by simp) (by first | decide | rfl) hlk (by decide) (by decide) (by rw [e40]; exact ⟨⟨rfl, N40⟩, (Nat.le_refl T37.heap.size), C37c⟩)
            · refine g_iload X38 hx hby at_238 (pc' := 240) rfl rfl ?_
              refine g_iload X38 hx hby at_240 (pc' := 242) rfl rfl ?_
              refine g_iload X38 hx hby at_242 (pc' := 244) rfl rfl ?_
              refine g_iload X38 hx hby at_244 (pc' := 246) rfl rfl ?_
              refine g_callS X38 hx hZ37 hown37 (W := 0) (argsL := [.int ((ushr q1 (16 : Int32)) &&& (65535 : Int32)), .int (lenV (ushr q3 (4 : Int32))), .int ((ushr q1 (16 : Int32)) &&& (65535 : Int32)), .int (lenV (ushr q3 (4 : Int32)))]) (rest := []) hby at_246 (pc' := 249) rfl (by rw [hml]; rfl) (w_60 hw) (w_61 hw) (w_3 hw) (w_62 hw) (by decide) (rmSA l Z a0 hw [] ((ushr q1 (16 : Int32)) &&& (65535 : Int32)) (lenV (ushr q3 (4 : Int32))) ((ushr q1 (16 : Int32)) &&& (65535 : Int32)) (lenV (ushr q3 (4 : Int32))) T37.heap n0) e38 (by decide) (by decide) (by decide) (by decide) rfl pd__28IIII_29Z rfl rfl (Nat.le_of_eq rfl) ?_
              rintro _ T42 L42 X42 ⟨rfl, N42q, e42⟩
              have N42 := Fr.app N38 N42q
              show GoE p e below _ (T42.setTop (mkF m 249 #[.val (.int q1), .val (.int q2), .val (.int q3), .val (.int (q1 &&& (65535 : Int32))), .val (.int ((ushr q1 (16 : Int32)) &&& (65535 : Int32))), .val (.int (q2 &&& (65535 : Int32))), .val (.int ((ushr q1 (16 : Int32)) &&& (65535 : Int32))), .val (.int (lenV q3)), .val (.int (lenV (ushr q3 (2 : Int32)))), .val (.int (lenV (ushr q3 (4 : Int32)))), .val (.int (lenV (ushr q3 (4 : Int32)))), .val (.int ((ushr q3 (10 : Int32)) &&& (3 : Int32))), .val (.ref b27), .val (.ref b28), .val (.ref b29), .val (.ref b30), .val (.ref b31), .val (.ref b36), .unset] [.int (sameV ((ushr q1 (16 : Int32)) &&& (65535 : Int32)) (lenV (ushr q3 (4 : Int32))) ((ushr q1 (16 : Int32)) &&& (65535 : Int32)) (lenV (ushr q3 (4 : Int32))))]))
              refine g_if_eq X42 hx hby at_249 (by decide) (pc' := 256) (by decide) (pn := 252) rfl (fun hc249_43 => ?_) (fun hc249_43 => ?_)
              · refine g_iconst X42 hx hby at_256 (pc' := 257) rfl (z := (0 : Int32)) rfl ?_
                refine g_istore X42 hx hby at_257 (pc' := 259) rfl (l' := #[.val (.int q1), .val (.int q2), .val (.int q3), .val (.int (q1 &&& (65535 : Int32))), .val (.int ((ushr q1 (16 : Int32)) &&& (65535 : Int32))), .val (.int (q2 &&& (65535 : Int32))), .val (.int ((ushr q1 (16 : Int32)) &&& (65535 : Int32))), .val (.int (lenV q3)), .val (.int (lenV (ushr q3 (2 : Int32)))), .val (.int (lenV (ushr q3 (4 : Int32)))), .val (.int (lenV (ushr q3 (4 : Int32)))), .val (.int ((ushr q3 (10 : Int32)) &&& (3 : Int32))), .val (.ref b27), .val (.ref b28), .val (.ref b29), .val (.ref b30), .val (.ref b31), .val (.ref b36), .val (.int (0 : Int32))]) rfl ?_
                refine g_aload X42 hx hby at_259 (pc' := 261) rfl rfl rfl ?_
                refine g_aload X42 hx hby at_261 (pc' := 263) rfl rfl rfl ?_
                refine g_callV X42 hx hZ37 hown37 (W := 0) (argsL := [.ref b36]) (b := b31) (rest := []) hby at_263 (pc' := 266) rfl (by rw [hml]; rfl) (w_63 hw) (w_64 hw) (w_66 hw) (notFace_of_selects (args := #[]) (mvT hZ37 (w_66 hw))) (w_65 hw) (w_40 hw) (w_67 hw) (by decide) (rmQd l Z a0 hw [] b31 b36 T37.heap n0 b27 b28 b29 b30 _ _ _ _ E37_b31 F37_b31_id F37_b31_name Ei37 Fa37 Fb37 X37t_b27 X37t_b28 X37t_b29 X37t_b30 nb29_b27 nb30_b28 cs SS O37) e42 E37_b31 (by decide) (by decide) (by decide) (by decide) rfl pd__28Ljava_2flang_2fObject_3b_29Z rfl rfl (Nat.le_of_eq rfl) ?_
                rintro _ T44 L44 X44 ⟨rfl, N44q, e44⟩
                have N44 := Fr.app N42 N44q
                show GoE p e below _ (T44.setTop (mkF m 266 #[.val (.int q1), .val (.int q2), .val (.int q3), .val (.int (q1 &&& (65535 : Int32))), .val (.int ((ushr q1 (16 : Int32)) &&& (65535 : Int32))), .val (.int (q2 &&& (65535 : Int32))), .val (.int ((ushr q1 (16 : Int32)) &&& (65535 : Int32))), .val (.int (lenV q3)), .val (.int (lenV (ushr q3 (2 : Int32)))), .val (.int (lenV (ushr q3 (4 : Int32)))), .val (.int (lenV (ushr q3 (4 : Int32)))), .val (.int ((ushr q3 (10 : Int32)) &&& (3 : Int32))), .val (.ref b27), .val (.ref b28), .val (.ref b29), .val (.ref b30), .val (.ref b31), .val (.ref b36), .val (.int (0 : Int32))] [.int (SE (eqT (chars (q1 &&& (65535 : Int32)) (lenV q3)) (chars (q2 &&& (65535 : Int32)) (lenV (ushr q3 (2 : Int32))))) (eqT (chars ((ushr q1 (16 : Int32)) &&& (65535 : Int32)) (lenV (ushr q3 (4 : Int32)))) (chars ((ushr q1 (16 : Int32)) &&& (65535 : Int32)) (lenV (ushr q3 (4 : Int32))))))]))
                refine g_iload X44 hx hby at_266 (pc' := 268) rfl rfl ?_
                refine g_icmp_ne X44 hx hby at_268 (by decide) (pc' := 275) (by decide) (pn := 271) rfl (fun z => absurd z (fun z => z (by simp only [SE, ← own_same (own_len _) (own_len _), hc235_39, hc249_43, if_true, if_false, ↓reduceIte]))) (fun hc268_45 => ?_)
                refine g_iconst X44 hx hby at_271 (pc' := 272) rfl (z := (1 : Int32)) rfl ?_
                refine g_goto X44 hx hby at_272 (by decide) (pc' := 276) (by decide) ?_
                refine GoH.of_go (a0 := a0) (fun v h L => v = some (.int 1) ∧ Fr n0 L) hS37 hZ37 (own_EL hw) ?_
                exact g_retN (Q := _) (w := (1 : Int32)) X44 hx hby at_276 hret (by simp) (by first | decide | rfl) hlk (by decide) (by decide) (by rw [e44]; exact ⟨⟨rfl, N44⟩, (Nat.le_refl T37.heap.size), C37c⟩)
              · refine g_iconst X42 hx hby at_252 (pc' := 253) rfl (z := (1 : Int32)) rfl ?_
                refine g_goto X42 hx hby at_253 (by decide) (pc' := 257) (by decide) ?_
                refine g_istore X42 hx hby at_257 (pc' := 259) rfl (l' := #[.val (.int q1), .val (.int q2), .val (.int q3), .val (.int (q1 &&& (65535 : Int32))), .val (.int ((ushr q1 (16 : Int32)) &&& (65535 : Int32))), .val (.int (q2 &&& (65535 : Int32))), .val (.int ((ushr q1 (16 : Int32)) &&& (65535 : Int32))), .val (.int (lenV q3)), .val (.int (lenV (ushr q3 (2 : Int32)))), .val (.int (lenV (ushr q3 (4 : Int32)))), .val (.int (lenV (ushr q3 (4 : Int32)))), .val (.int ((ushr q3 (10 : Int32)) &&& (3 : Int32))), .val (.ref b27), .val (.ref b28), .val (.ref b29), .val (.ref b30), .val (.ref b31), .val (.ref b36), .val (.int (1 : Int32))]) rfl ?_
                refine g_aload X42 hx hby at_259 (pc' := 261) rfl rfl rfl ?_
                refine g_aload X42 hx hby at_261 (pc' := 263) rfl rfl rfl ?_
                refine g_callV X42 hx hZ37 hown37 (W := 0) (argsL := [.ref b36]) (b := b31) (rest := []) hby at_263 (pc' := 266) rfl (by rw [hml]; rfl) (w_63 hw) (w_64 hw) (w_66 hw) (notFace_of_selects (args := #[]) (mvT hZ37 (w_66 hw))) (w_65 hw) (w_40 hw) (w_67 hw) (by decide) (rmQd l Z a0 hw [] b31 b36 T37.heap n0 b27 b28 b29 b30 _ _ _ _ E37_b31 F37_b31_id F37_b31_name Ei37 Fa37 Fb37 X37t_b27 X37t_b28 X37t_b29 X37t_b30 nb29_b27 nb30_b28 cs SS O37) e42 E37_b31 (by decide) (by decide) (by decide) (by decide) rfl pd__28Ljava_2flang_2fObject_3b_29Z rfl rfl (Nat.le_of_eq rfl) ?_
                rintro _ T46 L46 X46 ⟨rfl, N46q, e46⟩
                have N46 := Fr.app N42 N46q
                show GoE p e below _ (T46.setTop (mkF m 266 #[.val (.int q1), .val (.int q2), .val (.int q3), .val (.int (q1 &&& (65535 : Int32))), .val (.int ((ushr q1 (16 : Int32)) &&& (65535 : Int32))), .val (.int (q2 &&& (65535 : Int32))), .val (.int ((ushr q1 (16 : Int32)) &&& (65535 : Int32))), .val (.int (lenV q3)), .val (.int (lenV (ushr q3 (2 : Int32)))), .val (.int (lenV (ushr q3 (4 : Int32)))), .val (.int (lenV (ushr q3 (4 : Int32)))), .val (.int ((ushr q3 (10 : Int32)) &&& (3 : Int32))), .val (.ref b27), .val (.ref b28), .val (.ref b29), .val (.ref b30), .val (.ref b31), .val (.ref b36), .val (.int (1 : Int32))] [.int (SE (eqT (chars (q1 &&& (65535 : Int32)) (lenV q3)) (chars (q2 &&& (65535 : Int32)) (lenV (ushr q3 (2 : Int32))))) (eqT (chars ((ushr q1 (16 : Int32)) &&& (65535 : Int32)) (lenV (ushr q3 (4 : Int32)))) (chars ((ushr q1 (16 : Int32)) &&& (65535 : Int32)) (lenV (ushr q3 (4 : Int32))))))]))
                refine g_iload X46 hx hby at_266 (pc' := 268) rfl rfl ?_
                refine g_icmp_ne X46 hx hby at_268 (by decide) (pc' := 275) (by decide) (pn := 271) rfl (fun z => absurd z (fun z => z (by simp only [SE, ← own_same (own_len _) (own_len _), hc235_39, hc249_43, if_true, if_false, ↓reduceIte]))) (fun hc268_47 => ?_)
                refine g_iconst X46 hx hby at_271 (pc' := 272) rfl (z := (1 : Int32)) rfl ?_
                refine g_goto X46 hx hby at_272 (by decide) (pc' := 276) (by decide) ?_
                refine GoH.of_go (a0 := a0) (fun v h L => v = some (.int 1) ∧ Fr n0 L) hS37 hZ37 (own_EL hw) ?_
                exact g_retN (Q := _) (w := (1 : Int32)) X46 hx hby at_276 hret (by simp) (by first | decide | rfl) hlk (by decide) (by decide) (by rw [e46]; exact ⟨⟨rfl, N46⟩, (Nat.le_refl T37.heap.size), C37c⟩)
          · refine g_aload X32 hx hby at_192 (pc' := 194) rfl rfl rfl ?_
            refine g_astore X32 hx hby at_194 (pc' := 196) rfl rfl (l' := #[.val (.int q1), .val (.int q2), .val (.int q3), .val (.int (q1 &&& (65535 : Int32))), .val (.int ((ushr q1 (16 : Int32)) &&& (65535 : Int32))), .val (.int (q2 &&& (65535 : Int32))), .val (.int ((ushr q1 (16 : Int32)) &&& (65535 : Int32))), .val (.int (lenV q3)), .val (.int (lenV (ushr q3 (2 : Int32)))), .val (.int (lenV (ushr q3 (4 : Int32)))), .val (.int (lenV (ushr q3 (4 : Int32)))), .val (.int ((ushr q3 (10 : Int32)) &&& (3 : Int32))), .val (.ref b27), .val (.ref b28), .val (.ref b29), .val (.ref b30), .val (.ref b31), .val (.ref b27), .unset]) rfl ?_
            refine g_aload X32 hx hby at_196 (pc' := 198) rfl rfl rfl ?_
            refine g_aload X32 hx hby at_198 (pc' := 200) rfl rfl rfl ?_
            refine g_callV X32 hx hZ32 hown32 (W := 0) (argsL := [.ref b27]) (b := b31) (rest := []) hby at_200 (pc' := 203) rfl (by rw [hml]; rfl) (w_63 hw) (w_64 hw) (w_66 hw) (notFace_of_selects (args := #[]) (mvT hZ32 (w_66 hw))) (w_65 hw) (w_40 hw) (w_67 hw) (by decide) (rmQt l Z a0 hw [] b31 b27 T32.heap n0 X32t_b27.1) rfl Ei32 (by decide) (by decide) (by decide) (by decide) rfl pd__28Ljava_2flang_2fObject_3b_29Z rfl rfl (Nat.le_of_eq rfl) ?_
            rintro _ T48 L48 X48 ⟨rfl, N48q, e48⟩
            have N48 := Fr.app N32 N48q
            show GoE p e below _ (T48.setTop (mkF m 203 #[.val (.int q1), .val (.int q2), .val (.int q3), .val (.int (q1 &&& (65535 : Int32))), .val (.int ((ushr q1 (16 : Int32)) &&& (65535 : Int32))), .val (.int (q2 &&& (65535 : Int32))), .val (.int ((ushr q1 (16 : Int32)) &&& (65535 : Int32))), .val (.int (lenV q3)), .val (.int (lenV (ushr q3 (2 : Int32)))), .val (.int (lenV (ushr q3 (4 : Int32)))), .val (.int (lenV (ushr q3 (4 : Int32)))), .val (.int ((ushr q3 (10 : Int32)) &&& (3 : Int32))), .val (.ref b27), .val (.ref b28), .val (.ref b29), .val (.ref b30), .val (.ref b31), .val (.ref b27), .unset] [.int (0 : Int32)]))
            refine g_if_ne X48 hx hby at_203 (by decide) (pc' := 210) (by decide) (pn := 206) rfl (fun z => absurd z (by decide)) (fun _ => ?_)
            refine g_iconst X48 hx hby at_206 (pc' := 207) rfl (z := (1 : Int32)) rfl ?_
            refine g_goto X48 hx hby at_207 (by decide) (pc' := 211) (by decide) ?_
            refine GoH.of_go (a0 := a0) (fun v h L => v = some (.int 1) ∧ Fr n0 L) hS32 hZ32 (own_EL hw) ?_
            exact g_retN (Q := _) (w := (1 : Int32)) X48 hx hby at_211 hret (by simp) (by first | decide | rfl) hlk (by decide) (by decide) (by rw [e48]; exact ⟨⟨rfl, N48⟩, (Nat.le_refl T32.heap.size), C32c⟩)
        · refine g_aload X32 hx hby at_171 (pc' := 173) rfl rfl rfl ?_
          refine g_aconstNull X32 hx hby at_173 (pc' := 174) rfl ?_
          refine g_callV X32 hx hZ32 hown32 (W := 0) (argsL := [.null]) (b := b31) (rest := []) hby at_174 (pc' := 177) rfl (by rw [hml]; rfl) (w_63 hw) (w_64 hw) (w_66 hw) (notFace_of_selects (args := #[]) (mvT hZ32 (w_66 hw))) (w_65 hw) (w_40 hw) (w_67 hw) (by decide) (rmQn l Z a0 hw [] b31 T32.heap n0) rfl Ei32 (by decide) (by decide) (by decide) (by decide) rfl pd__28Ljava_2flang_2fObject_3b_29Z rfl rfl (Nat.le_of_eq rfl) ?_
          rintro _ T49 L49 X49 ⟨rfl, N49q, e49⟩
          have N49 := Fr.app N32 N49q
          show GoE p e below _ (T49.setTop (mkF m 177 #[.val (.int q1), .val (.int q2), .val (.int q3), .val (.int (q1 &&& (65535 : Int32))), .val (.int ((ushr q1 (16 : Int32)) &&& (65535 : Int32))), .val (.int (q2 &&& (65535 : Int32))), .val (.int ((ushr q1 (16 : Int32)) &&& (65535 : Int32))), .val (.int (lenV q3)), .val (.int (lenV (ushr q3 (2 : Int32)))), .val (.int (lenV (ushr q3 (4 : Int32)))), .val (.int (lenV (ushr q3 (4 : Int32)))), .val (.int ((ushr q3 (10 : Int32)) &&& (3 : Int32))), .val (.ref b27), .val (.ref b28), .val (.ref b29), .val (.ref b30), .val (.ref b31), .unset, .unset] [.int (0 : Int32)]))
          refine g_if_ne X49 hx hby at_177 (by decide) (pc' := 184) (by decide) (pn := 180) rfl (fun z => absurd z (by decide)) (fun _ => ?_)
          refine g_iconst X49 hx hby at_180 (pc' := 181) rfl (z := (1 : Int32)) rfl ?_
          refine g_goto X49 hx hby at_181 (by decide) (pc' := 185) (by decide) ?_
          refine GoH.of_go (a0 := a0) (fun v h L => v = some (.int 1) ∧ Fr n0 L) hS32 hZ32 (own_EL hw) ?_
          exact g_retN (Q := _) (w := (1 : Int32)) X49 hx hby at_185 hret (by simp) (by first | decide | rfl) hlk (by decide) (by decide) (by rw [e49]; exact ⟨⟨rfl, N49⟩, (Nat.le_refl T32.heap.size), C32c⟩)
      · refine g_aload X32 hx hby at_157 (pc' := 159) rfl rfl rfl ?_
        refine g_aload X32 hx hby at_159 (pc' := 161) rfl rfl rfl ?_
        refine g_callV X32 hx hZ32 hown32 (W := 0) (argsL := [.ref b31]) (b := b31) (rest := []) hby at_161 (pc' := 164) rfl (by rw [hml]; rfl) (w_63 hw) (w_64 hw) (w_66 hw) (notFace_of_selects (args := #[]) (mvT hZ32 (w_66 hw))) (w_65 hw) (w_40 hw) (w_67 hw) (by decide) (rmQs l Z a0 hw [] b31 T32.heap n0 b27 b28 Ei32 Fa32 Fb32 X32t_b27.1 X32t_b28.1 cs SS O32) rfl Ei32 (by decide) (by decide) (by decide) (by decide) rfl pd__28Ljava_2flang_2fObject_3b_29Z rfl rfl (Nat.le_of_eq rfl) ?_
        rintro _ T50 L50 X50 ⟨rfl, N50q, e50⟩
        have N50 := Fr.app N32 N50q
        show GoE p e below _ (T50.setTop (mkF m 164 #[.val (.int q1), .val (.int q2), .val (.int q3), .val (.int (q1 &&& (65535 : Int32))), .val (.int ((ushr q1 (16 : Int32)) &&& (65535 : Int32))), .val (.int (q2 &&& (65535 : Int32))), .val (.int ((ushr q1 (16 : Int32)) &&& (65535 : Int32))), .val (.int (lenV q3)), .val (.int (lenV (ushr q3 (2 : Int32)))), .val (.int (lenV (ushr q3 (4 : Int32)))), .val (.int (lenV (ushr q3 (4 : Int32)))), .val (.int ((ushr q3 (10 : Int32)) &&& (3 : Int32))), .val (.ref b27), .val (.ref b28), .val (.ref b29), .val (.ref b30), .val (.ref b31), .unset, .unset] [.int (1 : Int32)]))
        refine GoH.of_go (a0 := a0) (fun v h L => v = some (.int 1) ∧ Fr n0 L) hS32 hZ32 (own_EL hw) ?_
        exact g_retN (Q := _) (w := (1 : Int32)) X50 hx hby at_164 hret (by simp) (by first | decide | rfl) hlk (by decide) (by decide) (by rw [e50]; exact ⟨⟨rfl, N50⟩, (Nat.le_refl T32.heap.size), C32c⟩)
  · refine g_iloadN X0 hx hby at_72 (pc' := 73) rfl rfl ?_
    refine g_istore X0 hx hby at_73 (pc' := 75) rfl (l' := #[.val (.int q1), .val (.int q2), .val (.int q3), .val (.int (q1 &&& (65535 : Int32))), .val (.int ((ushr q1 (16 : Int32)) &&& (65535 : Int32))), .val (.int (q1 &&& (65535 : Int32))), .val (.int ((ushr q2 (16 : Int32)) &&& (65535 : Int32))), .val (.int (lenV q3)), .val (.int (lenV (ushr q3 (2 : Int32)))), .val (.int (lenV (ushr q3 (4 : Int32)))), .val (.int (lenV (ushr q3 (6 : Int32)))), .unset, .unset, .unset, .unset, .unset, .unset, .unset, .unset]) rfl ?_
    refine g_iload X0 hx hby at_75 (pc' := 77) rfl rfl ?_
    refine g_istore X0 hx hby at_77 (pc' := 79) rfl (l' := #[.val (.int q1), .val (.int q2), .val (.int q3), .val (.int (q1 &&& (65535 : Int32))), .val (.int ((ushr q1 (16 : Int32)) &&& (65535 : Int32))), .val (.int (q1 &&& (65535 : Int32))), .val (.int ((ushr q2 (16 : Int32)) &&& (65535 : Int32))), .val (.int (lenV q3)), .val (.int (lenV q3)), .val (.int (lenV (ushr q3 (4 : Int32)))), .val (.int (lenV (ushr q3 (6 : Int32)))), .unset, .unset, .unset, .unset, .unset, .unset, .unset, .unset]) rfl ?_
    refine g_iloadN X0 hx hby at_79 (pc' := 80) rfl rfl ?_
    refine g_sipush X0 hx hby at_80 (pc' := 83) rfl (z := (512 : Int32)) rfl ?_
    refine g_iand X0 hx hby at_83 (pc' := 84) rfl ?_
    refine g_if_eq X0 hx hby at_84 (by decide) (pc' := 95) (by decide) (pn := 87) rfl (fun hc84_51 => ?_) (fun hc84_51 => ?_)
    · refine g_iloadN X0 hx hby at_95 (pc' := 96) rfl rfl ?_
      refine g_bipush X0 hx hby at_96 (pc' := 98) rfl (z := (10 : Int32)) rfl ?_
      refine g_iushr X0 hx hby at_98 (pc' := 99) rfl ?_
      refine g_iconst X0 hx hby at_99 (pc' := 100) rfl (z := (3 : Int32)) rfl ?_
      refine g_iand X0 hx hby at_100 (pc' := 101) rfl ?_
      refine g_istore X0 hx hby at_101 (pc' := 103) rfl (l' := #[.val (.int q1), .val (.int q2), .val (.int q3), .val (.int (q1 &&& (65535 : Int32))), .val (.int ((ushr q1 (16 : Int32)) &&& (65535 : Int32))), .val (.int (q1 &&& (65535 : Int32))), .val (.int ((ushr q2 (16 : Int32)) &&& (65535 : Int32))), .val (.int (lenV q3)), .val (.int (lenV q3)), .val (.int (lenV (ushr q3 (4 : Int32)))), .val (.int (lenV (ushr q3 (6 : Int32)))), .val (.int ((ushr q3 (10 : Int32)) &&& (3 : Int32))), .unset, .unset, .unset, .unset, .unset, .unset, .unset]) rfl ?_
      refine g_iloadN X0 hx hby at_103 (pc' := 104) rfl rfl ?_
      refine g_iload X0 hx hby at_104 (pc' := 106) rfl rfl ?_
      refine g_callSH X0 hx hZ hown (W := 0) (argsL := [.int (q1 &&& (65535 : Int32)), .int (lenV q3)]) (rest := []) hby at_106 (pc' := 109) rfl (by rw [hml]; rfl) (w_1 hw) (w_2 hw) (w_3 hw) (w_4 hw) (by decide) (rmM l Z a0 hw [] (q1 &&& (65535 : Int32)) (lenV q3) h0 n0 Z0 cs SS O0) e0 hS0 (Nat.le_refl h0.size) (own_EL hw) C0h.1 (by decide) (by decide) (by decide) (by decide) rfl pd__28II_29Ljava_2flang_2fString_3b rfl rfl (Nat.le_of_eq rfl) ?_
      rintro _ T52 L52 X52 (⟨b52, rfl, N52q, K52, G52, Tx52⟩) hS52 hZ52 hown52 C52h
      have N52 := Fr.app N0 N52q
      have C52c := C0h.trans C52h
      have O52 := O0.keep K52 all0
      have Z52 := Nat.le_trans Z0 K52.1
      have Y52 := Nat.le_trans (Nat.le_refl h0.size) K52.1
      show GoE p e below _ (T52.setTop (mkF m 109 #[.val (.int q1), .val (.int q2), .val (.int q3), .val (.int (q1 &&& (65535 : Int32))), .val (.int ((ushr q1 (16 : Int32)) &&& (65535 : Int32))), .val (.int (q1 &&& (65535 : Int32))), .val (.int ((ushr q2 (16 : Int32)) &&& (65535 : Int32))), .val (.int (lenV q3)), .val (.int (lenV q3)), .val (.int (lenV (ushr q3 (4 : Int32)))), .val (.int (lenV (ushr q3 (6 : Int32)))), .val (.int ((ushr q3 (10 : Int32)) &&& (3 : Int32))), .unset, .unset, .unset, .unset, .unset, .unset, .unset] [.ref b52]))
      refine g_astore X52 hx hby at_109 (pc' := 111) rfl rfl (l' := #[.val (.int q1), .val (.int q2), .val (.int q3), .val (.int (q1 &&& (65535 : Int32))), .val (.int ((ushr q1 (16 : Int32)) &&& (65535 : Int32))), .val (.int (q1 &&& (65535 : Int32))), .val (.int ((ushr q2 (16 : Int32)) &&& (65535 : Int32))), .val (.int (lenV q3)), .val (.int (lenV q3)), .val (.int (lenV (ushr q3 (4 : Int32)))), .val (.int (lenV (ushr q3 (6 : Int32)))), .val (.int ((ushr q3 (10 : Int32)) &&& (3 : Int32))), .val (.ref b52), .unset, .unset, .unset, .unset, .unset, .unset]) rfl ?_
      refine g_iload X52 hx hby at_111 (pc' := 113) rfl rfl ?_
      refine g_iload X52 hx hby at_113 (pc' := 115) rfl rfl ?_
      refine g_callSH X52 hx hZ52 hown52 (W := 0) (argsL := [.int ((ushr q1 (16 : Int32)) &&& (65535 : Int32)), .int (lenV (ushr q3 (4 : Int32)))]) (rest := []) hby at_115 (pc' := 118) rfl (by rw [hml]; rfl) (w_1 hw) (w_2 hw) (w_3 hw) (w_4 hw) (by decide) (rmM l Z a0 hw [] ((ushr q1 (16 : Int32)) &&& (65535 : Int32)) (lenV (ushr q3 (4 : Int32))) T52.heap n0 Z52 cs SS O52) rfl hS52 (Nat.le_refl T52.heap.size) (own_EL hw) C52c.1 (by decide) (by decide) (by decide) (by decide) rfl pd__28II_29Ljava_2flang_2fString_3b rfl rfl (Nat.le_of_eq rfl) ?_
      rintro _ T53 L53 X53 (⟨b53, rfl, N53q, K53, G53, Tx53⟩) hS53 hZ53 hown53 C53h
      have N53 := Fr.app N52 N53q
      have C53c := C52c.trans C53h
      have nb53_b52 : b52 ≠ b53 := Nat.ne_of_lt (Nat.lt_of_lt_of_le Tx52.lt G53)
      have O53 := O52.keep K53 all0
      have Z53 := Nat.le_trans Z52 K53.1
      have Y53 := Nat.le_trans (Nat.le_refl T52.heap.size) K53.1
      have X53t_b52 := Tx52.keep0 K53
      show GoE p e below _ (T53.setTop (mkF m 118 #[.val (.int q1), .val (.int q2), .val (.int q3), .val (.int (q1 &&& (65535 : Int32))), .val (.int ((ushr q1 (16 : Int32)) &&& (65535 : Int32))), .val (.int (q1 &&& (65535 : Int32))), .val (.int ((ushr q2 (16 : Int32)) &&& (65535 : Int32))), .val (.int (lenV q3)), .val (.int (lenV q3)), .val (.int (lenV (ushr q3 (4 : Int32)))), .val (.int (lenV (ushr q3 (6 : Int32)))), .val (.int ((ushr q3 (10 : Int32)) &&& (3 : Int32))), .val (.ref b52), .unset, .unset, .unset, .unset, .unset, .unset] [.ref b53]))
      refine g_astore X53 hx hby at_118 (pc' := 120) rfl rfl (l' := #[.val (.int q1), .val (.int q2), .val (.int q3), .val (.int (q1 &&& (65535 : Int32))), .val (.int ((ushr q1 (16 : Int32)) &&& (65535 : Int32))), .val (.int (q1 &&& (65535 : Int32))), .val (.int ((ushr q2 (16 : Int32)) &&& (65535 : Int32))), .val (.int (lenV q3)), .val (.int (lenV q3)), .val (.int (lenV (ushr q3 (4 : Int32)))), .val (.int (lenV (ushr q3 (6 : Int32)))), .val (.int ((ushr q3 (10 : Int32)) &&& (3 : Int32))), .val (.ref b52), .val (.ref b53), .unset, .unset, .unset, .unset, .unset]) rfl ?_
      refine g_iload X53 hx hby at_120 (pc' := 122) rfl rfl ?_
      refine g_iload X53 hx hby at_122 (pc' := 124) rfl rfl ?_
      refine g_callSH X53 hx hZ53 hown53 (W := 0) (argsL := [.int (q1 &&& (65535 : Int32)), .int (lenV q3)]) (rest := []) hby at_124 (pc' := 127) rfl (by rw [hml]; rfl) (w_1 hw) (w_2 hw) (w_3 hw) (w_4 hw) (by decide) (rmM l Z a0 hw [] (q1 &&& (65535 : Int32)) (lenV q3) T53.heap n0 Z53 cs SS O53) rfl hS53 (Nat.le_refl T53.heap.size) (own_EL hw) C53c.1 (by decide) (by decide) (by decide) (by decide) rfl pd__28II_29Ljava_2flang_2fString_3b rfl rfl (Nat.le_of_eq rfl) ?_
      rintro _ T54 L54 X54 (⟨b54, rfl, N54q, K54, G54, Tx54⟩) hS54 hZ54 hown54 C54h
      have N54 := Fr.app N53 N54q
      have C54c := C53c.trans C54h
      have nb54_b52 : b52 ≠ b54 := Nat.ne_of_lt (Nat.lt_of_lt_of_le X53t_b52.lt G54)
      have nb54_b53 : b53 ≠ b54 := Nat.ne_of_lt (Nat.lt_of_lt_of_le Tx53.lt G54)
      have O54 := O53.keep K54 all0
      have Z54 := Nat.le_trans Z53 K54.1
      have Y54 := Nat.le_trans (Nat.le_refl T53.heap.size) K54.1
      have X54t_b52 := X53t_b52.keep0 K54
      have X54t_b53 := Tx53.keep0 K54
      show GoE p e below _ (T54.setTop (mkF m 127 #[.val (.int q1), .val (.int q2), .val (.int q3), .val (.int (q1 &&& (65535 : Int32))), .val (.int ((ushr q1 (16 : Int32)) &&& (65535 : Int32))), .val (.int (q1 &&& (65535 : Int32))), .val (.int ((ushr q2 (16 : Int32)) &&& (65535 : Int32))), .val (.int (lenV q3)), .val (.int (lenV q3)), .val (.int (lenV (ushr q3 (4 : Int32)))), .val (.int (lenV (ushr q3 (6 : Int32)))), .val (.int ((ushr q3 (10 : Int32)) &&& (3 : Int32))), .val (.ref b52), .val (.ref b53), .unset, .unset, .unset, .unset, .unset] [.ref b54]))
      refine g_astore X54 hx hby at_127 (pc' := 129) rfl rfl (l' := #[.val (.int q1), .val (.int q2), .val (.int q3), .val (.int (q1 &&& (65535 : Int32))), .val (.int ((ushr q1 (16 : Int32)) &&& (65535 : Int32))), .val (.int (q1 &&& (65535 : Int32))), .val (.int ((ushr q2 (16 : Int32)) &&& (65535 : Int32))), .val (.int (lenV q3)), .val (.int (lenV q3)), .val (.int (lenV (ushr q3 (4 : Int32)))), .val (.int (lenV (ushr q3 (6 : Int32)))), .val (.int ((ushr q3 (10 : Int32)) &&& (3 : Int32))), .val (.ref b52), .val (.ref b53), .val (.ref b54), .unset, .unset, .unset, .unset]) rfl ?_
      refine g_iload X54 hx hby at_129 (pc' := 131) rfl rfl ?_
      refine g_iload X54 hx hby at_131 (pc' := 133) rfl rfl ?_
      refine g_callSH X54 hx hZ54 hown54 (W := 0) (argsL := [.int ((ushr q2 (16 : Int32)) &&& (65535 : Int32)), .int (lenV (ushr q3 (6 : Int32)))]) (rest := []) hby at_133 (pc' := 136) rfl (by rw [hml]; rfl) (w_1 hw) (w_2 hw) (w_3 hw) (w_4 hw) (by decide) (rmM l Z a0 hw [] ((ushr q2 (16 : Int32)) &&& (65535 : Int32)) (lenV (ushr q3 (6 : Int32))) T54.heap n0 Z54 cs SS O54) rfl hS54 (Nat.le_refl T54.heap.size) (own_EL hw) C54c.1 (by decide) (by decide) (by decide) (by decide) rfl pd__28II_29Ljava_2flang_2fString_3b rfl rfl (Nat.le_of_eq rfl) ?_
      rintro _ T55 L55 X55 (⟨b55, rfl, N55q, K55, G55, Tx55⟩) hS55 hZ55 hown55 C55h
      have N55 := Fr.app N54 N55q
      have C55c := C54c.trans C55h
      have nb55_b52 : b52 ≠ b55 := Nat.ne_of_lt (Nat.lt_of_lt_of_le X54t_b52.lt G55)
      have nb55_b53 : b53 ≠ b55 := Nat.ne_of_lt (Nat.lt_of_lt_of_le X54t_b53.lt G55)
      have nb55_b54 : b54 ≠ b55 := Nat.ne_of_lt (Nat.lt_of_lt_of_le Tx54.lt G55)
      have O55 := O54.keep K55 all0
      have Z55 := Nat.le_trans Z54 K55.1
      have Y55 := Nat.le_trans (Nat.le_refl T54.heap.size) K55.1
      have X55t_b52 := X54t_b52.keep0 K55
      have X55t_b53 := X54t_b53.keep0 K55
      have X55t_b54 := Tx54.keep0 K55
      show GoE p e below _ (T55.setTop (mkF m 136 #[.val (.int q1), .val (.int q2), .val (.int q3), .val (.int (q1 &&& (65535 : Int32))), .val (.int ((ushr q1 (16 : Int32)) &&& (65535 : Int32))), .val (.int (q1 &&& (65535 : Int32))), .val (.int ((ushr q2 (16 : Int32)) &&& (65535 : Int32))), .val (.int (lenV q3)), .val (.int (lenV q3)), .val (.int (lenV (ushr q3 (4 : Int32)))), .val (.int (lenV (ushr q3 (6 : Int32)))), .val (.int ((ushr q3 (10 : Int32)) &&& (3 : Int32))), .val (.ref b52), .val (.ref b53), .val (.ref b54), .unset, .unset, .unset, .unset] [.ref b55]))
      refine g_astore X55 hx hby at_136 (pc' := 138) rfl rfl (l' := #[.val (.int q1), .val (.int q2), .val (.int q3), .val (.int (q1 &&& (65535 : Int32))), .val (.int ((ushr q1 (16 : Int32)) &&& (65535 : Int32))), .val (.int (q1 &&& (65535 : Int32))), .val (.int ((ushr q2 (16 : Int32)) &&& (65535 : Int32))), .val (.int (lenV q3)), .val (.int (lenV q3)), .val (.int (lenV (ushr q3 (4 : Int32)))), .val (.int (lenV (ushr q3 (6 : Int32)))), .val (.int ((ushr q3 (10 : Int32)) &&& (3 : Int32))), .val (.ref b52), .val (.ref b53), .val (.ref b54), .val (.ref b55), .unset, .unset, .unset]) rfl ?_
      refine g_new X55 hx hZ55 hown55 hby at_138 (pc' := 141) rfl (w_38 hw) (w_39 hw) (w_40 hw) rfl (by decide) (by decide) ?_
      intro T56 b56 hb56 X56 E56 A56 D56
      have sf56_b56 := Safe.ext E56 C55c.1 (Safe.new (Nat.le_of_eq hb56.symm))
      have C56c := C55c.trans (CHr.ext E56 C55c.1)
      have O56o := O55.ext E56
      have Z56 := Nat.le_trans Z55 E56.1
      have Y56 := Nat.le_trans (Nat.le_refl T55.heap.size) E56.1
      have X56t_b52 := X55t_b52.ext E56
      have ne56_b52 : b52 ≠ b56 := hb56 ▸ Nat.ne_of_lt X55t_b52.lt
      have X56t_b53 := X55t_b53.ext E56
      have ne56_b53 : b53 ≠ b56 := hb56 ▸ Nat.ne_of_lt X55t_b53.lt
      have X56t_b54 := X55t_b54.ext E56
      have ne56_b54 : b54 ≠ b56 := hb56 ▸ Nat.ne_of_lt X55t_b54.lt
      have X56t_b55 := Tx55.ext E56
      have ne56_b55 : b55 ≠ b56 := hb56 ▸ Nat.ne_of_lt Tx55.lt
      have F56_id : Fld Z T56.heap b56 "com/example/phaseline/phaseline/game/Side" "id" "Ljava/lang/String;" (.null) := D56 (Or.inr (w_57 hw)) (ty := (.object "java/lang/String")) (by decide)
      have F56_name : Fld Z T56.heap b56 "com/example/phaseline/phaseline/game/Side" "name" "Ljava/lang/String;" (.null) := D56 (Or.inr (w_59 hw)) (ty := (.object "java/lang/String")) (by decide)
      refine g_dup X56 hx hby at_141 (pc' := 142) rfl rfl ?_
      refine g_aload X56 hx hby at_142 (pc' := 144) rfl rfl rfl ?_
      refine g_aload X56 hx hby at_144 (pc' := 146) rfl rfl rfl ?_
      refine g_callIH X56 hx hZ55 hown55 (W := 1) (argsL := [.ref b52, .ref b53]) (b := b56) (rest := [.ref b56]) hby at_146 (pc' := 149) rfl (by rw [hml]; rfl) (w_41 hw) (w_42 hw) (w_40 hw) (w_43 hw) rfl (by decide) (rmSD l Z a0 hw [] b56 b52 b53 T56.heap n0 _ _ Z56 A56 F56_id F56_name (Nat.le_trans Z55 (Nat.le_of_eq hb56.symm)) cs SS O56o) rfl hS55 Y56 (own_EL hw) C56c.1 (by decide) (by decide) (by decide) (by decide) rfl pd__28Ljava_2flang_2fString_3bLjava_2flang_2fString_3b_29V rfl rfl (Nat.le_of_eq rfl) ?_
      rintro _ T57 L57 X57 (⟨rfl, N57q, K57, Ei57, Fa57, Fb57⟩) hS57 hZ57 hown57 C57h
      have N57 := Fr.app N55 N57q
      have sf57_b56 := C57h.safe A56.lt sf56_b56
      have C57c := C56c.trans C57h
      have O57 := O56o.keep K57 (allS (Nat.le_trans Z55 (Nat.le_of_eq hb56.symm)) all0)
      have Z57 := Nat.le_trans Z56 K57.1
      have Y57 := Nat.le_trans Y56 K57.1
      have X57t_b52 := X56t_b52.keep1 K57 A56 (w_39 hw) ne56_b52
      have X57t_b53 := X56t_b53.keep1 K57 A56 (w_39 hw) ne56_b53
      have X57t_b54 := X56t_b54.keep1 K57 A56 (w_39 hw) ne56_b54
      have X57t_b55 := X56t_b55.keep1 K57 A56 (w_39 hw) ne56_b55
      have E57_b56 := A56.keep K57
      show GoE p e below _ (T57.setTop (mkF m 149 #[.val (.int q1), .val (.int q2), .val (.int q3), .val (.int (q1 &&& (65535 : Int32))), .val (.int ((ushr q1 (16 : Int32)) &&& (65535 : Int32))), .val (.int (q1 &&& (65535 : Int32))), .val (.int ((ushr q2 (16 : Int32)) &&& (65535 : Int32))), .val (.int (lenV q3)), .val (.int (lenV q3)), .val (.int (lenV (ushr q3 (4 : Int32)))), .val (.int (lenV (ushr q3 (6 : Int32)))), .val (.int ((ushr q3 (10 : Int32)) &&& (3 : Int32))), .val (.ref b52), .val (.ref b53), .val (.ref b54), .val (.ref b55), .unset, .unset, .unset] [.ref b56]))
      refine g_astore X57 hx hby at_149 (pc' := 151) rfl rfl (l' := #[.val (.int q1), .val (.int q2), .val (.int q3), .val (.int (q1 &&& (65535 : Int32))), .val (.int ((ushr q1 (16 : Int32)) &&& (65535 : Int32))), .val (.int (q1 &&& (65535 : Int32))), .val (.int ((ushr q2 (16 : Int32)) &&& (65535 : Int32))), .val (.int (lenV q3)), .val (.int (lenV q3)), .val (.int (lenV (ushr q3 (4 : Int32)))), .val (.int (lenV (ushr q3 (6 : Int32)))), .val (.int ((ushr q3 (10 : Int32)) &&& (3 : Int32))), .val (.ref b52), .val (.ref b53), .val (.ref b54), .val (.ref b55), .val (.ref b56), .unset, .unset]) rfl ?_
      refine g_iload X57 hx hby at_151 (pc' := 153) rfl rfl ?_
      refine g_iconst X57 hx hby at_153 (pc' := 154) rfl (z := (1 : Int32)) rfl ?_
      refine g_icmp_ne X57 hx hby at_154 (by decide) (pc' := 165) (by decide) (pn := 157) rfl (fun hc154_58 => ?_) (fun hc154_58 => ?_)
      · refine g_iload X57 hx hby at_165 (pc' := 167) rfl rfl ?_
        refine g_iconst X57 hx hby at_167 (pc' := 168) rfl (z := (2 : Int32)) rfl ?_
        refine g_icmp_ne X57 hx hby at_168 (by decide) (pc' := 186) (by decide) (pn := 171) rfl (fun hc168_59 => ?_) (fun hc168_59 => ?_)
        · refine g_iload X57 hx hby at_186 (pc' := 188) rfl rfl ?_
          refine g_iconst X57 hx hby at_188 (pc' := 189) rfl (z := (3 : Int32)) rfl ?_
          refine g_icmp_ne X57 hx hby at_189 (by decide) (pc' := 212) (by decide) (pn := 192) rfl (fun hc189_60 => ?_) (fun hc189_60 => ?_)
          · refine g_new X57 hx hZ57 hown57 hby at_212 (pc' := 215) rfl (w_38 hw) (w_39 hw) (w_40 hw) rfl (by decide) (by decide) ?_
            intro T61 b61 hb61 X61 E61 A61 D61
            have sf61_b56 := Safe.ext E61 C57c.1 sf57_b56
            have sf61_b61 := Safe.ext E61 C57c.1 (Safe.new (Nat.le_of_eq hb61.symm))
            have C61c := C57c.trans (CHr.ext E61 C57c.1)
            have O61o := O57.ext E61
            have Z61 := Nat.le_trans Z57 E61.1
            have Y61 := Nat.le_trans (Nat.le_refl T57.heap.size) E61.1
            have X61t_b52 := X57t_b52.ext E61
            have ne61_b52 : b52 ≠ b61 := hb61 ▸ Nat.ne_of_lt X57t_b52.lt
            have X61t_b53 := X57t_b53.ext E61
            have ne61_b53 : b53 ≠ b61 := hb61 ▸ Nat.ne_of_lt X57t_b53.lt
            have X61t_b54 := X57t_b54.ext E61
            have ne61_b54 : b54 ≠ b61 := hb61 ▸ Nat.ne_of_lt X57t_b54.lt
            have X61t_b55 := X57t_b55.ext E61
            have ne61_b55 : b55 ≠ b61 := hb61 ▸ Nat.ne_of_lt X57t_b55.lt
            have E61_b56 := Ei57.ext E61
            have ne61_b56 : b56 ≠ b61 := hb61 ▸ Nat.ne_of_lt Ei57.lt
            have F61_b56_id := Fa57.ext E61
            have F61_b56_name := Fb57.ext E61
            have F61_id : Fld Z T61.heap b61 "com/example/phaseline/phaseline/game/Side" "id" "Ljava/lang/String;" (.null) := D61 (Or.inr (w_57 hw)) (ty := (.object "java/lang/String")) (by decide)
            have F61_name : Fld Z T61.heap b61 "com/example/phaseline/phaseline/game/Side" "name" "Ljava/lang/String;" (.null) := D61 (Or.inr (w_59 hw)) (ty := (.object "java/lang/String")) (by decide)
            refine g_dup X61 hx hby at_215 (pc' := 216) rfl rfl ?_
            refine g_aload X61 hx hby at_216 (pc' := 218) rfl rfl rfl ?_
            refine g_aload X61 hx hby at_218 (pc' := 220) rfl rfl rfl ?_
            refine g_callIH X61 hx hZ57 hown57 (W := 1) (argsL := [.ref b54, .ref b55]) (b := b61) (rest := [.ref b61]) hby at_220 (pc' := 223) rfl (by rw [hml]; rfl) (w_41 hw) (w_42 hw) (w_40 hw) (w_43 hw) rfl (by decide) (rmSD l Z a0 hw [] b61 b54 b55 T61.heap n0 _ _ Z61 A61 F61_id F61_name (Nat.le_trans Z57 (Nat.le_of_eq hb61.symm)) cs SS O61o) rfl hS57 Y61 (own_EL hw) C61c.1 (by decide) (by decide) (by decide) (by decide) rfl pd__28Ljava_2flang_2fString_3bLjava_2flang_2fString_3b_29V rfl rfl (Nat.le_of_eq rfl) ?_
            rintro _ T62 L62 X62 (⟨rfl, N62q, K62, Ei62, Fa62, Fb62⟩) hS62 hZ62 hown62 C62h
            have N62 := Fr.app N57 N62q
            have sf62_b56 := C62h.safe E61_b56.lt sf61_b56
            have sf62_b61 := C62h.safe A61.lt sf61_b61
            have C62c := C61c.trans C62h
            have O62 := O61o.keep K62 (allS (Nat.le_trans Z57 (Nat.le_of_eq hb61.symm)) all0)
            have Z62 := Nat.le_trans Z61 K62.1
            have Y62 := Nat.le_trans Y61 K62.1
            have X62t_b52 := X61t_b52.keep1 K62 A61 (w_39 hw) ne61_b52
            have X62t_b53 := X61t_b53.keep1 K62 A61 (w_39 hw) ne61_b53
            have X62t_b54 := X61t_b54.keep1 K62 A61 (w_39 hw) ne61_b54
            have X62t_b55 := X61t_b55.keep1 K62 A61 (w_39 hw) ne61_b55
            have E62_b56 := E61_b56.keep K62
            have F62_b56_id := F61_b56_id.keep K62 (ninS ne61_b56 nin0)
            have F62_b56_name := F61_b56_name.keep K62 (ninS ne61_b56 nin0)
            have E62_b61 := A61.keep K62
            show GoE p e below _ (T62.setTop (mkF m 223 #[.val (.int q1), .val (.int q2), .val (.int q3), .val (.int (q1 &&& (65535 : Int32))), .val (.int ((ushr q1 (16 : Int32)) &&& (65535 : Int32))), .val (.int (q1 &&& (65535 : Int32))), .val (.int ((ushr q2 (16 : Int32)) &&& (65535 : Int32))), .val (.int (lenV q3)), .val (.int (lenV q3)), .val (.int (lenV (ushr q3 (4 : Int32)))), .val (.int (lenV (ushr q3 (6 : Int32)))), .val (.int ((ushr q3 (10 : Int32)) &&& (3 : Int32))), .val (.ref b52), .val (.ref b53), .val (.ref b54), .val (.ref b55), .val (.ref b56), .unset, .unset] [.ref b61]))
            refine g_astore X62 hx hby at_223 (pc' := 225) rfl rfl (l' := #[.val (.int q1), .val (.int q2), .val (.int q3), .val (.int (q1 &&& (65535 : Int32))), .val (.int ((ushr q1 (16 : Int32)) &&& (65535 : Int32))), .val (.int (q1 &&& (65535 : Int32))), .val (.int ((ushr q2 (16 : Int32)) &&& (65535 : Int32))), .val (.int (lenV q3)), .val (.int (lenV q3)), .val (.int (lenV (ushr q3 (4 : Int32)))), .val (.int (lenV (ushr q3 (6 : Int32)))), .val (.int ((ushr q3 (10 : Int32)) &&& (3 : Int32))), .val (.ref b52), .val (.ref b53), .val (.ref b54), .val (.ref b55), .val (.ref b56), .val (.ref b61), .unset]) rfl ?_
            refine g_iloadN X62 hx hby at_225 (pc' := 226) rfl rfl ?_
            refine g_iload X62 hx hby at_226 (pc' := 228) rfl rfl ?_
            refine g_iload X62 hx hby at_228 (pc' := 230) rfl rfl ?_
            refine g_iload X62 hx hby at_230 (pc' := 232) rfl rfl ?_
            refine g_callS X62 hx hZ62 hown62 (W := 0) (argsL := [.int (q1 &&& (65535 : Int32)), .int (lenV q3), .int (q1 &&& (65535 : Int32)), .int (lenV q3)]) (rest := []) hby at_232 (pc' := 235) rfl (by rw [hml]; rfl) (w_60 hw) (w_61 hw) (w_3 hw) (w_62 hw) (by decide) (rmSA l Z a0 hw [] (q1 &&& (65535 : Int32)) (lenV q3) (q1 &&& (65535 : Int32)) (lenV q3) T62.heap n0) rfl (by decide) (by decide) (by decide) (by decide) rfl pd__28IIII_29Z rfl rfl (Nat.le_of_eq rfl) ?_
            rintro _ T63 L63 X63 ⟨rfl, N63q, e63⟩
            have N63 := Fr.app N62 N63q
            show GoE p e below _ (T63.setTop (mkF m 235 #[.val (.int q1), .val (.int q2), .val (.int q3), .val (.int (q1 &&& (65535 : Int32))), .val (.int ((ushr q1 (16 : Int32)) &&& (65535 : Int32))), .val (.int (q1 &&& (65535 : Int32))), .val (.int ((ushr q2 (16 : Int32)) &&& (65535 : Int32))), .val (.int (lenV q3)), .val (.int (lenV q3)), .val (.int (lenV (ushr q3 (4 : Int32)))), .val (.int (lenV (ushr q3 (6 : Int32)))), .val (.int ((ushr q3 (10 : Int32)) &&& (3 : Int32))), .val (.ref b52), .val (.ref b53), .val (.ref b54), .val (.ref b55), .val (.ref b56), .val (.ref b61), .unset] [.int (sameV (q1 &&& (65535 : Int32)) (lenV q3) (q1 &&& (65535 : Int32)) (lenV q3))]))
            refine g_if_eq X63 hx hby at_235 (by decide) (pc' := 256) (by decide) (pn := 238) rfl (fun hc235_64 => ?_) (fun hc235_64 => ?_)
            · refine g_iconst X63 hx hby at_256 (pc' := 257) rfl (z := (0 : Int32)) rfl ?_
              refine g_istore X63 hx hby at_257 (pc' := 259) rfl (l' := #[.val (.int q1), .val (.int q2), .val (.int q3), .val (.int (q1 &&& (65535 : Int32))), .val (.int ((ushr q1 (16 : Int32)) &&& (65535 : Int32))), .val (.int (q1 &&& (65535 : Int32))), .val (.int ((ushr q2 (16 : Int32)) &&& (65535 : Int32))), .val (.int (lenV q3)), .val (.int (lenV q3)), .val (.int (lenV (ushr q3 (4 : Int32)))), .val (.int (lenV (ushr q3 (6 : Int32)))), .val (.int ((ushr q3 (10 : Int32)) &&& (3 : Int32))), .val (.ref b52), .val (.ref b53), .val (.ref b54), .val (.ref b55), .val (.ref b56), .val (.ref b61), .val (.int (0 : Int32))]) rfl ?_
              refine g_aload X63 hx hby at_259 (pc' := 261) rfl rfl rfl ?_
              refine g_aload X63 hx hby at_261 (pc' := 263) rfl rfl rfl ?_
              refine g_callV X63 hx hZ62 hown62 (W := 0) (argsL := [.ref b61]) (b := b56) (rest := []) hby at_263 (pc' := 266) rfl (by rw [hml]; rfl) (w_63 hw) (w_64 hw) (w_66 hw) (notFace_of_selects (args := #[]) (mvT hZ62 (w_66 hw))) (w_65 hw) (w_40 hw) (w_67 hw) (by decide) (rmQd l Z a0 hw [] b56 b61 T62.heap n0 b52 b53 b54 b55 _ _ _ _ E62_b56 F62_b56_id F62_b56_name Ei62 Fa62 Fb62 X62t_b52 X62t_b53 X62t_b54 X62t_b55 nb54_b52 nb55_b53 cs SS O62) e63 E62_b56 (by decide) (by decide) (by decide) (by decide) rfl pd__28Ljava_2flang_2fObject_3b_29Z rfl rfl (Nat.le_of_eq rfl) ?_
              rintro _ T65 L65 X65 ⟨rfl, N65q, e65⟩
              have N65 := Fr.app N63 N65q
              show GoE p e below _ (T65.setTop (mkF m 266 #[.val (.int q1), .val (.int q2), .val (.int q3), .val (.int (q1 &&& (65535 : Int32))), .val (.int ((ushr q1 (16 : Int32)) &&& (65535 : Int32))), .val (.int (q1 &&& (65535 : Int32))), .val (.int ((ushr q2 (16 : Int32)) &&& (65535 : Int32))), .val (.int (lenV q3)), .val (.int (lenV q3)), .val (.int (lenV (ushr q3 (4 : Int32)))), .val (.int (lenV (ushr q3 (6 : Int32)))), .val (.int ((ushr q3 (10 : Int32)) &&& (3 : Int32))), .val (.ref b52), .val (.ref b53), .val (.ref b54), .val (.ref b55), .val (.ref b56), .val (.ref b61), .val (.int (0 : Int32))] [.int (SE (eqT (chars (q1 &&& (65535 : Int32)) (lenV q3)) (chars (q1 &&& (65535 : Int32)) (lenV q3))) (eqT (chars ((ushr q1 (16 : Int32)) &&& (65535 : Int32)) (lenV (ushr q3 (4 : Int32)))) (chars ((ushr q2 (16 : Int32)) &&& (65535 : Int32)) (lenV (ushr q3 (6 : Int32))))))]))
              refine g_iload X65 hx hby at_266 (pc' := 268) rfl rfl ?_
              refine g_icmp_ne X65 hx hby at_268 (by decide) (pc' := 275) (by decide) (pn := 271) rfl (fun z => absurd z (fun z => z (by simp only [SE, ← own_same (own_len _) (own_len _), hc235_64, if_true, if_false, ↓reduceIte]))) (fun hc268_66 => ?_)
              refine g_iconst X65 hx hby at_271 (pc' := 272) rfl (z := (1 : Int32)) rfl ?_
              refine g_goto X65 hx hby at_272 (by decide) (pc' := 276) (by decide) ?_
              refine GoH.of_go (a0 := a0) (fun v h L => v = some (.int 1) ∧ Fr n0 L) hS62 hZ62 (own_EL hw) ?_
              exact g_retN (Q := _) (w := (1 : Int32)) X65 hx hby at_276 hret (by simp) (by first | decide | rfl) hlk (by decide) (by decide) (by rw [e65]; exact ⟨⟨rfl, N65⟩, (Nat.le_refl T62.heap.size), C62c⟩)
            · refine g_iload X63 hx hby at_238 (pc' := 240) rfl rfl ?_
              refine g_iload X63 hx hby at_240 (pc' := 242) rfl rfl ?_
              refine g_iload X63 hx hby at_242 (pc' := 244) rfl rfl ?_
              refine g_iload X63 hx hby at_244 (pc' := 246) rfl rfl ?_
              refine g_callS X63 hx hZ62 hown62 (W := 0) (argsL := [.int ((ushr q1 (16 : Int32)) &&& (65535 : Int32)), .int (lenV (ushr q3 (4 : Int32))), .int ((ushr q2 (16 : Int32)) &&& (65535 : Int32)), .int (lenV (ushr q3 (6 : Int32)))]) (rest := []) hby at_246 (pc' := 249) rfl (by rw [hml]; rfl) (w_60 hw) (w_61 hw) (w_3 hw) (w_62 hw) (by decide) (rmSA l Z a0 hw [] ((ushr q1 (16 : Int32)) &&& (65535 : Int32)) (lenV (ushr q3 (4 : Int32))) ((ushr q2 (16 : Int32)) &&& (65535 : Int32)) (lenV (ushr q3 (6 : Int32))) T62.heap n0) e63 (by decide) (by decide) (by decide) (by decide) rfl pd__28IIII_29Z rfl rfl (Nat.le_of_eq rfl) ?_
              rintro _ T67 L67 X67 ⟨rfl, N67q, e67⟩
              have N67 := Fr.app N63 N67q
              show GoE p e below _ (T67.setTop (mkF m 249 #[.val (.int q1), .val (.int q2), .val (.int q3), .val (.int (q1 &&& (65535 : Int32))), .val (.int ((ushr q1 (16 : Int32)) &&& (65535 : Int32))), .val (.int (q1 &&& (65535 : Int32))), .val (.int ((ushr q2 (16 : Int32)) &&& (65535 : Int32))), .val (.int (lenV q3)), .val (.int (lenV q3)), .val (.int (lenV (ushr q3 (4 : Int32)))), .val (.int (lenV (ushr q3 (6 : Int32)))), .val (.int ((ushr q3 (10 : Int32)) &&& (3 : Int32))), .val (.ref b52), .val (.ref b53), .val (.ref b54), .val (.ref b55), .val (.ref b56), .val (.ref b61), .unset] [.int (sameV ((ushr q1 (16 : Int32)) &&& (65535 : Int32)) (lenV (ushr q3 (4 : Int32))) ((ushr q2 (16 : Int32)) &&& (65535 : Int32)) (lenV (ushr q3 (6 : Int32))))]))
              refine g_if_eq X67 hx hby at_249 (by decide) (pc' := 256) (by decide) (pn := 252) rfl (fun hc249_68 => ?_) (fun hc249_68 => ?_)
              · refine g_iconst X67 hx hby at_256 (pc' := 257) rfl (z := (0 : Int32)) rfl ?_
                refine g_istore X67 hx hby at_257 (pc' := 259) rfl (l' := #[.val (.int q1), .val (.int q2), .val (.int q3), .val (.int (q1 &&& (65535 : Int32))), .val (.int ((ushr q1 (16 : Int32)) &&& (65535 : Int32))), .val (.int (q1 &&& (65535 : Int32))), .val (.int ((ushr q2 (16 : Int32)) &&& (65535 : Int32))), .val (.int (lenV q3)), .val (.int (lenV q3)), .val (.int (lenV (ushr q3 (4 : Int32)))), .val (.int (lenV (ushr q3 (6 : Int32)))), .val (.int ((ushr q3 (10 : Int32)) &&& (3 : Int32))), .val (.ref b52), .val (.ref b53), .val (.ref b54), .val (.ref b55), .val (.ref b56), .val (.ref b61), .val (.int (0 : Int32))]) rfl ?_
                refine g_aload X67 hx hby at_259 (pc' := 261) rfl rfl rfl ?_
                refine g_aload X67 hx hby at_261 (pc' := 263) rfl rfl rfl ?_
                refine g_callV X67 hx hZ62 hown62 (W := 0) (argsL := [.ref b61]) (b := b56) (rest := []) hby at_263 (pc' := 266) rfl (by rw [hml]; rfl) (w_63 hw) (w_64 hw) (w_66 hw) (notFace_of_selects (args := #[]) (mvT hZ62 (w_66 hw))) (w_65 hw) (w_40 hw) (w_67 hw) (by decide) (rmQd l Z a0 hw [] b56 b61 T62.heap n0 b52 b53 b54 b55 _ _ _ _ E62_b56 F62_b56_id F62_b56_name Ei62 Fa62 Fb62 X62t_b52 X62t_b53 X62t_b54 X62t_b55 nb54_b52 nb55_b53 cs SS O62) e67 E62_b56 (by decide) (by decide) (by decide) (by decide) rfl pd__28Ljava_2flang_2fObject_3b_29Z rfl rfl (Nat.le_of_eq rfl) ?_
                rintro _ T69 L69 X69 ⟨rfl, N69q, e69⟩
                have N69 := Fr.app N67 N69q
                show GoE p e below _ (T69.setTop (mkF m 266 #[.val (.int q1), .val (.int q2), .val (.int q3), .val (.int (q1 &&& (65535 : Int32))), .val (.int ((ushr q1 (16 : Int32)) &&& (65535 : Int32))), .val (.int (q1 &&& (65535 : Int32))), .val (.int ((ushr q2 (16 : Int32)) &&& (65535 : Int32))), .val (.int (lenV q3)), .val (.int (lenV q3)), .val (.int (lenV (ushr q3 (4 : Int32)))), .val (.int (lenV (ushr q3 (6 : Int32)))), .val (.int ((ushr q3 (10 : Int32)) &&& (3 : Int32))), .val (.ref b52), .val (.ref b53), .val (.ref b54), .val (.ref b55), .val (.ref b56), .val (.ref b61), .val (.int (0 : Int32))] [.int (SE (eqT (chars (q1 &&& (65535 : Int32)) (lenV q3)) (chars (q1 &&& (65535 : Int32)) (lenV q3))) (eqT (chars ((ushr q1 (16 : Int32)) &&& (65535 : Int32)) (lenV (ushr q3 (4 : Int32)))) (chars ((ushr q2 (16 : Int32)) &&& (65535 : Int32)) (lenV (ushr q3 (6 : Int32))))))]))
                refine g_iload X69 hx hby at_266 (pc' := 268) rfl rfl ?_
                refine g_icmp_ne X69 hx hby at_268 (by decide) (pc' := 275) (by decide) (pn := 271) rfl (fun z => absurd z (fun z => z (by simp only [SE, ← own_same (own_len _) (own_len _), hc235_64, hc249_68, if_true, if_false, ↓reduceIte]))) (fun hc268_70 => ?_)
                refine g_iconst X69 hx hby at_271 (pc' := 272) rfl (z := (1 : Int32)) rfl ?_
                refine g_goto X69 hx hby at_272 (by decide) (pc' := 276) (by decide) ?_
                refine GoH.of_go (a0 := a0) (fun v h L => v = some (.int 1) ∧ Fr n0 L) hS62 hZ62 (own_EL hw) ?_
                exact g_retN (Q := _) (w := (1 : Int32)) X69 hx hby at_276 hret (by simp) (by first | decide | rfl) hlk (by decide) (by decide) (by rw [e69]; exact ⟨⟨rfl, N69⟩, (Nat.le_refl T62.heap.size), C62c⟩)
              · refine g_iconst X67 hx hby at_252 (pc' := 253) rfl (z := (1 : Int32)) rfl ?_
                refine g_goto X67 hx hby at_253 (by decide) (pc' := 257) (by decide) ?_
                refine g_istore X67 hx hby at_257 (pc' := 259) rfl (l' := #[.val (.int q1), .val (.int q2), .val (.int q3), .val (.int (q1 &&& (65535 : Int32))), .val (.int ((ushr q1 (16 : Int32)) &&& (65535 : Int32))), .val (.int (q1 &&& (65535 : Int32))), .val (.int ((ushr q2 (16 : Int32)) &&& (65535 : Int32))), .val (.int (lenV q3)), .val (.int (lenV q3)), .val (.int (lenV (ushr q3 (4 : Int32)))), .val (.int (lenV (ushr q3 (6 : Int32)))), .val (.int ((ushr q3 (10 : Int32)) &&& (3 : Int32))), .val (.ref b52), .val (.ref b53), .val (.ref b54), .val (.ref b55), .val (.ref b56), .val (.ref b61), .val (.int (1 : Int32))]) rfl ?_
                refine g_aload X67 hx hby at_259 (pc' := 261) rfl rfl rfl ?_
                refine g_aload X67 hx hby at_261 (pc' := 263) rfl rfl rfl ?_
                refine g_callV X67 hx hZ62 hown62 (W := 0) (argsL := [.ref b61]) (b := b56) (rest := []) hby at_263 (pc' := 266) rfl (by rw [hml]; rfl) (w_63 hw) (w_64 hw) (w_66 hw) (notFace_of_selects (args := #[]) (mvT hZ62 (w_66 hw))) (w_65 hw) (w_40 hw) (w_67 hw) (by decide) (rmQd l Z a0 hw [] b56 b61 T62.heap n0 b52 b53 b54 b55 _ _ _ _ E62_b56 F62_b56_id F62_b56_name Ei62 Fa62 Fb62 X62t_b52 X62t_b53 X62t_b54 X62t_b55 nb54_b52 nb55_b53 cs SS O62) e67 E62_b56 (by decide) (by decide) (by decide) (by decide) rfl pd__28Ljava_2flang_2fObject_3b_29Z rfl rfl (Nat.le_of_eq rfl) ?_
                rintro _ T71 L71 X71 ⟨rfl, N71q, e71⟩
                have N71 := Fr.app N67 N71q
                show GoE p e below _ (T71.setTop (mkF m 266 #[.val (.int q1), .val (.int q2), .val (.int q3), .val (.int (q1 &&& (65535 : Int32))), .val (.int ((ushr q1 (16 : Int32)) &&& (65535 : Int32))), .val (.int (q1 &&& (65535 : Int32))), .val (.int ((ushr q2 (16 : Int32)) &&& (65535 : Int32))), .val (.int (lenV q3)), .val (.int (lenV q3)), .val (.int (lenV (ushr q3 (4 : Int32)))), .val (.int (lenV (ushr q3 (6 : Int32)))), .val (.int ((ushr q3 (10 : Int32)) &&& (3 : Int32))), .val (.ref b52), .val (.ref b53), .val (.ref b54), .val (.ref b55), .val (.ref b56), .val (.ref b61), .val (.int (1 : Int32))] [.int (SE (eqT (chars (q1 &&& (65535 : Int32)) (lenV q3)) (chars (q1 &&& (65535 : Int32)) (lenV q3))) (eqT (chars ((ushr q1 (16 : Int32)) &&& (65535 : Int32)) (lenV (ushr q3 (4 : Int32)))) (chars ((ushr q2 (16 : Int32)) &&& (65535 : Int32)) (lenV (ushr q3 (6 : Int32))))))]))
                refine g_iload X71 hx hby at_266 (pc' := 268) rfl rfl ?_
                refine g_icmp_ne X71 hx hby at_268 (by decide) (pc' := 275) (by decide) (pn := 271) rfl (fun z => absurd z (fun z => z (by simp only [SE, ← own_same (own_len _) (own_len _), hc235_64, hc249_68, if_true, if_false, ↓reduceIte]))) (fun hc268_72 => ?_)
                refine g_iconst X71 hx hby at_271 (pc' := 272) rfl (z := (1 : Int32)) rfl ?_
                refine g_goto X71 hx hby at_272 (by decide) (pc' := 276) (by decide) ?_
                refine GoH.of_go (a0 := a0) (fun v h L => v = some (.int 1) ∧ Fr n0 L) hS62 hZ62 (own_EL hw) ?_
                exact g_retN (Q := _) (w := (1 : Int32)) X71 hx hby at_276 hret (by simp) (by first | decide | rfl) hlk (by decide) (by decide) (by rw [e71]; exact ⟨⟨rfl, N71⟩, (Nat.le_refl T62.heap.size), C62c⟩)
          · refine g_aload X57 hx hby at_192 (pc' := 194) rfl rfl rfl ?_
            refine g_astore X57 hx hby at_194 (pc' := 196) rfl rfl (l' := #[.val (.int q1), .val (.int q2), .val (.int q3), .val (.int (q1 &&& (65535 : Int32))), .val (.int ((ushr q1 (16 : Int32)) &&& (65535 : Int32))), .val (.int (q1 &&& (65535 : Int32))), .val (.int ((ushr q2 (16 : Int32)) &&& (65535 : Int32))), .val (.int (lenV q3)), .val (.int (lenV q3)), .val (.int (lenV (ushr q3 (4 : Int32)))), .val (.int (lenV (ushr q3 (6 : Int32)))), .val (.int ((ushr q3 (10 : Int32)) &&& (3 : Int32))), .val (.ref b52), .val (.ref b53), .val (.ref b54), .val (.ref b55), .val (.ref b56), .val (.ref b52), .unset]) rfl ?_
            refine g_aload X57 hx hby at_196 (pc' := 198) rfl rfl rfl ?_
            refine g_aload X57 hx hby at_198 (pc' := 200) rfl rfl rfl ?_
            refine g_callV X57 hx hZ57 hown57 (W := 0) (argsL := [.ref b52]) (b := b56) (rest := []) hby at_200 (pc' := 203) rfl (by rw [hml]; rfl) (w_63 hw) (w_64 hw) (w_66 hw) (notFace_of_selects (args := #[]) (mvT hZ57 (w_66 hw))) (w_65 hw) (w_40 hw) (w_67 hw) (by decide) (rmQt l Z a0 hw [] b56 b52 T57.heap n0 X57t_b52.1) rfl Ei57 (by decide) (by decide) (by decide) (by decide) rfl pd__28Ljava_2flang_2fObject_3b_29Z rfl rfl (Nat.le_of_eq rfl) ?_
            rintro _ T73 L73 X73 ⟨rfl, N73q, e73⟩
            have N73 := Fr.app N57 N73q
            show GoE p e below _ (T73.setTop (mkF m 203 #[.val (.int q1), .val (.int q2), .val (.int q3), .val (.int (q1 &&& (65535 : Int32))), .val (.int ((ushr q1 (16 : Int32)) &&& (65535 : Int32))), .val (.int (q1 &&& (65535 : Int32))), .val (.int ((ushr q2 (16 : Int32)) &&& (65535 : Int32))), .val (.int (lenV q3)), .val (.int (lenV q3)), .val (.int (lenV (ushr q3 (4 : Int32)))), .val (.int (lenV (ushr q3 (6 : Int32)))), .val (.int ((ushr q3 (10 : Int32)) &&& (3 : Int32))), .val (.ref b52), .val (.ref b53), .val (.ref b54), .val (.ref b55), .val (.ref b56), .val (.ref b52), .unset] [.int (0 : Int32)]))
            refine g_if_ne X73 hx hby at_203 (by decide) (pc' := 210) (by decide) (pn := 206) rfl (fun z => absurd z (by decide)) (fun _ => ?_)
            refine g_iconst X73 hx hby at_206 (pc' := 207) rfl (z := (1 : Int32)) rfl ?_
            refine g_goto X73 hx hby at_207 (by decide) (pc' := 211) (by decide) ?_
            refine GoH.of_go (a0 := a0) (fun v h L => v = some (.int 1) ∧ Fr n0 L) hS57 hZ57 (own_EL hw) ?_
            exact g_retN (Q := _) (w := (1 : Int32)) X73 hx hby at_211 hret (by simp) (by first | decide | rfl) hlk (by decide) (by decide) (by rw [e73]; exact ⟨⟨rfl, N73⟩, (Nat.le_refl T57.heap.size), C57c⟩)
        · refine g_aload X57 hx hby at_171 (pc' := 173) rfl rfl rfl ?_
          refine g_aconstNull X57 hx hby at_173 (pc' := 174) rfl ?_
          refine g_callV X57 hx hZ57 hown57 (W := 0) (argsL := [.null]) (b := b56) (rest := []) hby at_174 (pc' := 177) rfl (by rw [hml]; rfl) (w_63 hw) (w_64 hw) (w_66 hw) (notFace_of_selects (args := #[]) (mvT hZ57 (w_66 hw))) (w_65 hw) (w_40 hw) (w_67 hw) (by decide) (rmQn l Z a0 hw [] b56 T57.heap n0) rfl Ei57 (by decide) (by decide) (by decide) (by decide) rfl pd__28Ljava_2flang_2fObject_3b_29Z rfl rfl (Nat.le_of_eq rfl) ?_
          rintro _ T74 L74 X74 ⟨rfl, N74q, e74⟩
          have N74 := Fr.app N57 N74q
          show GoE p e below _ (T74.setTop (mkF m 177 #[.val (.int q1), .val (.int q2), .val (.int q3), .val (.int (q1 &&& (65535 : Int32))), .val (.int ((ushr q1 (16 : Int32)) &&& (65535 : Int32))), .val (.int (q1 &&& (65535 : Int32))), .val (.int ((ushr q2 (16 : Int32)) &&& (65535 : Int32))), .val (.int (lenV q3)), .val (.int (lenV q3)), .val (.int (lenV (ushr q3 (4 : Int32)))), .val (.int (lenV (ushr q3 (6 : Int32)))), .val (.int ((ushr q3 (10 : Int32)) &&& (3 : Int32))), .val (.ref b52), .val (.ref b53), .val (.ref b54), .val (.ref b55), .val (.ref b56), .unset, .unset] [.int (0 : Int32)]))
          refine g_if_ne X74 hx hby at_177 (by decide) (pc' := 184) (by decide) (pn := 180) rfl (fun z => absurd z (by decide)) (fun _ => ?_)
          refine g_iconst X74 hx hby at_180 (pc' := 181) rfl (z := (1 : Int32)) rfl ?_
          refine g_goto X74 hx hby at_181 (by decide) (pc' := 185) (by decide) ?_
          refine GoH.of_go (a0 := a0) (fun v h L => v = some (.int 1) ∧ Fr n0 L) hS57 hZ57 (own_EL hw) ?_
          exact g_retN (Q := _) (w := (1 : Int32)) X74 hx hby at_185 hret (by simp) (by first | decide | rfl) hlk (by decide) (by decide) (by rw [e74]; exact ⟨⟨rfl, N74⟩, (Nat.le_refl T57.heap.size), C57c⟩)
      · refine g_aload X57 hx hby at_157 (pc' := 159) rfl rfl rfl ?_
        refine g_aload X57 hx hby at_159 (pc' := 161) rfl rfl rfl ?_
        refine g_callV X57 hx hZ57 hown57 (W := 0) (argsL := [.ref b56]) (b := b56) (rest := []) hby at_161 (pc' := 164) rfl (by rw [hml]; rfl) (w_63 hw) (w_64 hw) (w_66 hw) (notFace_of_selects (args := #[]) (mvT hZ57 (w_66 hw))) (w_65 hw) (w_40 hw) (w_67 hw) (by decide) (rmQs l Z a0 hw [] b56 T57.heap n0 b52 b53 Ei57 Fa57 Fb57 X57t_b52.1 X57t_b53.1 cs SS O57) rfl Ei57 (by decide) (by decide) (by decide) (by decide) rfl pd__28Ljava_2flang_2fObject_3b_29Z rfl rfl (Nat.le_of_eq rfl) ?_
        rintro _ T75 L75 X75 ⟨rfl, N75q, e75⟩
        have N75 := Fr.app N57 N75q
        show GoE p e below _ (T75.setTop (mkF m 164 #[.val (.int q1), .val (.int q2), .val (.int q3), .val (.int (q1 &&& (65535 : Int32))), .val (.int ((ushr q1 (16 : Int32)) &&& (65535 : Int32))), .val (.int (q1 &&& (65535 : Int32))), .val (.int ((ushr q2 (16 : Int32)) &&& (65535 : Int32))), .val (.int (lenV q3)), .val (.int (lenV q3)), .val (.int (lenV (ushr q3 (4 : Int32)))), .val (.int (lenV (ushr q3 (6 : Int32)))), .val (.int ((ushr q3 (10 : Int32)) &&& (3 : Int32))), .val (.ref b52), .val (.ref b53), .val (.ref b54), .val (.ref b55), .val (.ref b56), .unset, .unset] [.int (1 : Int32)]))
        refine GoH.of_go (a0 := a0) (fun v h L => v = some (.int 1) ∧ Fr n0 L) hS57 hZ57 (own_EL hw) ?_
        exact g_retN (Q := _) (w := (1 : Int32)) X75 hx hby at_164 hret (by simp) (by first | decide | rfl) hlk (by decide) (by decide) (by rw [e75]; exact ⟨⟨rfl, N75⟩, (Nat.le_refl T57.heap.size), C57c⟩)
    · refine g_iload X0 hx hby at_87 (pc' := 89) rfl rfl ?_
      refine g_istore X0 hx hby at_89 (pc' := 91) rfl (l' := #[.val (.int q1), .val (.int q2), .val (.int q3), .val (.int (q1 &&& (65535 : Int32))), .val (.int ((ushr q1 (16 : Int32)) &&& (65535 : Int32))), .val (.int (q1 &&& (65535 : Int32))), .val (.int ((ushr q1 (16 : Int32)) &&& (65535 : Int32))), .val (.int (lenV q3)), .val (.int (lenV q3)), .val (.int (lenV (ushr q3 (4 : Int32)))), .val (.int (lenV (ushr q3 (6 : Int32)))), .unset, .unset, .unset, .unset, .unset, .unset, .unset, .unset]) rfl ?_
      refine g_iload X0 hx hby at_91 (pc' := 93) rfl rfl ?_
      refine g_istore X0 hx hby at_93 (pc' := 95) rfl (l' := #[.val (.int q1), .val (.int q2), .val (.int q3), .val (.int (q1 &&& (65535 : Int32))), .val (.int ((ushr q1 (16 : Int32)) &&& (65535 : Int32))), .val (.int (q1 &&& (65535 : Int32))), .val (.int ((ushr q1 (16 : Int32)) &&& (65535 : Int32))), .val (.int (lenV q3)), .val (.int (lenV q3)), .val (.int (lenV (ushr q3 (4 : Int32)))), .val (.int (lenV (ushr q3 (4 : Int32)))), .unset, .unset, .unset, .unset, .unset, .unset, .unset, .unset]) rfl ?_
      refine g_iloadN X0 hx hby at_95 (pc' := 96) rfl rfl ?_
      refine g_bipush X0 hx hby at_96 (pc' := 98) rfl (z := (10 : Int32)) rfl ?_
      refine g_iushr X0 hx hby at_98 (pc' := 99) rfl ?_
      refine g_iconst X0 hx hby at_99 (pc' := 100) rfl (z := (3 : Int32)) rfl ?_
      refine g_iand X0 hx hby at_100 (pc' := 101) rfl ?_
      refine g_istore X0 hx hby at_101 (pc' := 103) rfl (l' := #[.val (.int q1), .val (.int q2), .val (.int q3), .val (.int (q1 &&& (65535 : Int32))), .val (.int ((ushr q1 (16 : Int32)) &&& (65535 : Int32))), .val (.int (q1 &&& (65535 : Int32))), .val (.int ((ushr q1 (16 : Int32)) &&& (65535 : Int32))), .val (.int (lenV q3)), .val (.int (lenV q3)), .val (.int (lenV (ushr q3 (4 : Int32)))), .val (.int (lenV (ushr q3 (4 : Int32)))), .val (.int ((ushr q3 (10 : Int32)) &&& (3 : Int32))), .unset, .unset, .unset, .unset, .unset, .unset, .unset]) rfl ?_
      refine g_iloadN X0 hx hby at_103 (pc' := 104) rfl rfl ?_
      refine g_iload X0 hx hby at_104 (pc' := 106) rfl rfl ?_
      refine g_callSH X0 hx hZ hown (W := 0) (argsL := [.int (q1 &&& (65535 : Int32)), .int (lenV q3)]) (rest := []) hby at_106 (pc' := 109) rfl (by rw [hml]; rfl) (w_1 hw) (w_2 hw) (w_3 hw) (w_4 hw) (by decide) (rmM l Z a0 hw [] (q1 &&& (65535 : Int32)) (lenV q3) h0 n0 Z0 cs SS O0) e0 hS0 (Nat.le_refl h0.size) (own_EL hw) C0h.1 (by decide) (by decide) (by decide) (by decide) rfl pd__28II_29Ljava_2flang_2fString_3b rfl rfl (Nat.le_of_eq rfl) ?_
      rintro _ T76 L76 X76 (⟨b76, rfl, N76q, K76, G76, Tx76⟩) hS76 hZ76 hown76 C76h
      have N76 := Fr.app N0 N76q
      have C76c := C0h.trans C76h
      have O76 := O0.keep K76 all0
      have Z76 := Nat.le_trans Z0 K76.1
      have Y76 := Nat.le_trans (Nat.le_refl h0.size) K76.1
      show GoE p e below _ (T76.setTop (mkF m 109 #[.val (.int q1), .val (.int q2), .val (.int q3), .val (.int (q1 &&& (65535 : Int32))), .val (.int ((ushr q1 (16 : Int32)) &&& (65535 : Int32))), .val (.int (q1 &&& (65535 : Int32))), .val (.int ((ushr q1 (16 : Int32)) &&& (65535 : Int32))), .val (.int (lenV q3)), .val (.int (lenV q3)), .val (.int (lenV (ushr q3 (4 : Int32)))), .val (.int (lenV (ushr q3 (4 : Int32)))), .val (.int ((ushr q3 (10 : Int32)) &&& (3 : Int32))), .unset, .unset, .unset, .unset, .unset, .unset, .unset] [.ref b76]))
      refine g_astore X76 hx hby at_109 (pc' := 111) rfl rfl (l' := #[.val (.int q1), .val (.int q2), .val (.int q3), .val (.int (q1 &&& (65535 : Int32))), .val (.int ((ushr q1 (16 : Int32)) &&& (65535 : Int32))), .val (.int (q1 &&& (65535 : Int32))), .val (.int ((ushr q1 (16 : Int32)) &&& (65535 : Int32))), .val (.int (lenV q3)), .val (.int (lenV q3)), .val (.int (lenV (ushr q3 (4 : Int32)))), .val (.int (lenV (ushr q3 (4 : Int32)))), .val (.int ((ushr q3 (10 : Int32)) &&& (3 : Int32))), .val (.ref b76), .unset, .unset, .unset, .unset, .unset, .unset]) rfl ?_
      refine g_iload X76 hx hby at_111 (pc' := 113) rfl rfl ?_
      refine g_iload X76 hx hby at_113 (pc' := 115) rfl rfl ?_
      refine g_callSH X76 hx hZ76 hown76 (W := 0) (argsL := [.int ((ushr q1 (16 : Int32)) &&& (65535 : Int32)), .int (lenV (ushr q3 (4 : Int32)))]) (rest := []) hby at_115 (pc' := 118) rfl (by rw [hml]; rfl) (w_1 hw) (w_2 hw) (w_3 hw) (w_4 hw) (by decide) (rmM l Z a0 hw [] ((ushr q1 (16 : Int32)) &&& (65535 : Int32)) (lenV (ushr q3 (4 : Int32))) T76.heap n0 Z76 cs SS O76) rfl hS76 (Nat.le_refl T76.heap.size) (own_EL hw) C76c.1 (by decide) (by decide) (by decide) (by decide) rfl pd__28II_29Ljava_2flang_2fString_3b rfl rfl (Nat.le_of_eq rfl) ?_
      rintro _ T77 L77 X77 (⟨b77, rfl, N77q, K77, G77, Tx77⟩) hS77 hZ77 hown77 C77h
      have N77 := Fr.app N76 N77q
      have C77c := C76c.trans C77h
      have nb77_b76 : b76 ≠ b77 := Nat.ne_of_lt (Nat.lt_of_lt_of_le Tx76.lt G77)
      have O77 := O76.keep K77 all0
      have Z77 := Nat.le_trans Z76 K77.1
      have Y77 := Nat.le_trans (Nat.le_refl T76.heap.size) K77.1
      have X77t_b76 := Tx76.keep0 K77
      show GoE p e below _ (T77.setTop (mkF m 118 #[.val (.int q1), .val (.int q2), .val (.int q3), .val (.int (q1 &&& (65535 : Int32))), .val (.int ((ushr q1 (16 : Int32)) &&& (65535 : Int32))), .val (.int (q1 &&& (65535 : Int32))), .val (.int ((ushr q1 (16 : Int32)) &&& (65535 : Int32))), .val (.int (lenV q3)), .val (.int (lenV q3)), .val (.int (lenV (ushr q3 (4 : Int32)))), .val (.int (lenV (ushr q3 (4 : Int32)))), .val (.int ((ushr q3 (10 : Int32)) &&& (3 : Int32))), .val (.ref b76), .unset, .unset, .unset, .unset, .unset, .unset] [.ref b77]))
      refine g_astore X77 hx hby at_118 (pc' := 120) rfl rfl (l' := #[.val (.int q1), .val (.int q2), .val (.int q3), .val (.int (q1 &&& (65535 : Int32))), .val (.int ((ushr q1 (16 : Int32)) &&& (65535 : Int32))), .val (.int (q1 &&& (65535 : Int32))), .val (.int ((ushr q1 (16 : Int32)) &&& (65535 : Int32))), .val (.int (lenV q3)), .val (.int (lenV q3)), .val (.int (lenV (ushr q3 (4 : Int32)))), .val (.int (lenV (ushr q3 (4 : Int32)))), .val (.int ((ushr q3 (10 : Int32)) &&& (3 : Int32))), .val (.ref b76), .val (.ref b77), .unset, .unset, .unset, .unset, .unset]) rfl ?_
      refine g_iload X77 hx hby at_120 (pc' := 122) rfl rfl ?_
      refine g_iload X77 hx hby at_122 (pc' := 124) rfl rfl ?_
      refine g_callSH X77 hx hZ77 hown77 (W := 0) (argsL := [.int (q1 &&& (65535 : Int32)), .int (lenV q3)]) (rest := []) hby at_124 (pc' := 127) rfl (by rw [hml]; rfl) (w_1 hw) (w_2 hw) (w_3 hw) (w_4 hw) (by decide) (rmM l Z a0 hw [] (q1 &&& (65535 : Int32)) (lenV q3) T77.heap n0 Z77 cs SS O77) rfl hS77 (Nat.le_refl T77.heap.size) (own_EL hw) C77c.1 (by decide) (by decide) (by decide) (by decide) rfl pd__28II_29Ljava_2flang_2fString_3b rfl rfl (Nat.le_of_eq rfl) ?_
      rintro _ T78 L78 X78 (⟨b78, rfl, N78q, K78, G78, Tx78⟩) hS78 hZ78 hown78 C78h
      have N78 := Fr.app N77 N78q
      have C78c := C77c.trans C78h
      have nb78_b76 : b76 ≠ b78 := Nat.ne_of_lt (Nat.lt_of_lt_of_le X77t_b76.lt G78)
      have nb78_b77 : b77 ≠ b78 := Nat.ne_of_lt (Nat.lt_of_lt_of_le Tx77.lt G78)
      have O78 := O77.keep K78 all0
      have Z78 := Nat.le_trans Z77 K78.1
      have Y78 := Nat.le_trans (Nat.le_refl T77.heap.size) K78.1
      have X78t_b76 := X77t_b76.keep0 K78
      have X78t_b77 := Tx77.keep0 K78
      show GoE p e below _ (T78.setTop (mkF m 127 #[.val (.int q1), .val (.int q2), .val (.int q3), .val (.int (q1 &&& (65535 : Int32))), .val (.int ((ushr q1 (16 : Int32)) &&& (65535 : Int32))), .val (.int (q1 &&& (65535 : Int32))), .val (.int ((ushr q1 (16 : Int32)) &&& (65535 : Int32))), .val (.int (lenV q3)), .val (.int (lenV q3)), .val (.int (lenV (ushr q3 (4 : Int32)))), .val (.int (lenV (ushr q3 (4 : Int32)))), .val (.int ((ushr q3 (10 : Int32)) &&& (3 : Int32))), .val (.ref b76), .val (.ref b77), .unset, .unset, .unset, .unset, .unset] [.ref b78]))
      refine g_astore X78 hx hby at_127 (pc' := 129) rfl rfl (l' := #[.val (.int q1), .val (.int q2), .val (.int q3), .val (.int (q1 &&& (65535 : Int32))), .val (.int ((ushr q1 (16 : Int32)) &&& (65535 : Int32))), .val (.int (q1 &&& (65535 : Int32))), .val (.int ((ushr q1 (16 : Int32)) &&& (65535 : Int32))), .val (.int (lenV q3)), .val (.int (lenV q3)), .val (.int (lenV (ushr q3 (4 : Int32)))), .val (.int (lenV (ushr q3 (4 : Int32)))), .val (.int ((ushr q3 (10 : Int32)) &&& (3 : Int32))), .val (.ref b76), .val (.ref b77), .val (.ref b78), .unset, .unset, .unset, .unset]) rfl ?_
      refine g_iload X78 hx hby at_129 (pc' := 131) rfl rfl ?_
      refine g_iload X78 hx hby at_131 (pc' := 133) rfl rfl ?_
      refine g_callSH X78 hx hZ78 hown78 (W := 0) (argsL := [.int ((ushr q1 (16 : Int32)) &&& (65535 : Int32)), .int (lenV (ushr q3 (4 : Int32)))]) (rest := []) hby at_133 (pc' := 136) rfl (by rw [hml]; rfl) (w_1 hw) (w_2 hw) (w_3 hw) (w_4 hw) (by decide) (rmM l Z a0 hw [] ((ushr q1 (16 : Int32)) &&& (65535 : Int32)) (lenV (ushr q3 (4 : Int32))) T78.heap n0 Z78 cs SS O78) rfl hS78 (Nat.le_refl T78.heap.size) (own_EL hw) C78c.1 (by decide) (by decide) (by decide) (by decide) rfl pd__28II_29Ljava_2flang_2fString_3b rfl rfl (Nat.le_of_eq rfl) ?_
      rintro _ T79 L79 X79 (⟨b79, rfl, N79q, K79, G79, Tx79⟩) hS79 hZ79 hown79 C79h
      have N79 := Fr.app N78 N79q
      have C79c := C78c.trans C79h
      have nb79_b76 : b76 ≠ b79 := Nat.ne_of_lt (Nat.lt_of_lt_of_le X78t_b76.lt G79)
      have nb79_b77 : b77 ≠ b79 := Nat.ne_of_lt (Nat.lt_of_lt_of_le X78t_b77.lt G79)
      have nb79_b78 : b78 ≠ b79 := Nat.ne_of_lt (Nat.lt_of_lt_of_le Tx78.lt G79)
      have O79 := O78.keep K79 all0
      have Z79 := Nat.le_trans Z78 K79.1
      have Y79 := Nat.le_trans (Nat.le_refl T78.heap.size) K79.1
      have X79t_b76 := X78t_b76.keep0 K79
      have X79t_b77 := X78t_b77.keep0 K79
      have X79t_b78 := Tx78.keep0 K79
      show GoE p e below _ (T79.setTop (mkF m 136 #[.val (.int q1), .val (.int q2), .val (.int q3), .val (.int (q1 &&& (65535 : Int32))), .val (.int ((ushr q1 (16 : Int32)) &&& (65535 : Int32))), .val (.int (q1 &&& (65535 : Int32))), .val (.int ((ushr q1 (16 : Int32)) &&& (65535 : Int32))), .val (.int (lenV q3)), .val (.int (lenV q3)), .val (.int (lenV (ushr q3 (4 : Int32)))), .val (.int (lenV (ushr q3 (4 : Int32)))), .val (.int ((ushr q3 (10 : Int32)) &&& (3 : Int32))), .val (.ref b76), .val (.ref b77), .val (.ref b78), .unset, .unset, .unset, .unset] [.ref b79]))
      refine g_astore X79 hx hby at_136 (pc' := 138) rfl rfl (l' := #[.val (.int q1), .val (.int q2), .val (.int q3), .val (.int (q1 &&& (65535 : Int32))), .val (.int ((ushr q1 (16 : Int32)) &&& (65535 : Int32))), .val (.int (q1 &&& (65535 : Int32))), .val (.int ((ushr q1 (16 : Int32)) &&& (65535 : Int32))), .val (.int (lenV q3)), .val (.int (lenV q3)), .val (.int (lenV (ushr q3 (4 : Int32)))), .val (.int (lenV (ushr q3 (4 : Int32)))), .val (.int ((ushr q3 (10 : Int32)) &&& (3 : Int32))), .val (.ref b76), .val (.ref b77), .val (.ref b78), .val (.ref b79), .unset, .unset, .unset]) rfl ?_
      refine g_new X79 hx hZ79 hown79 hby at_138 (pc' := 141) rfl (w_38 hw) (w_39 hw) (w_40 hw) rfl (by decide) (by decide) ?_
      intro T80 b80 hb80 X80 E80 A80 D80
      have sf80_b80 := Safe.ext E80 C79c.1 (Safe.new (Nat.le_of_eq hb80.symm))
      have C80c := C79c.trans (CHr.ext E80 C79c.1)
      have O80o := O79.ext E80
      have Z80 := Nat.le_trans Z79 E80.1
      have Y80 := Nat.le_trans (Nat.le_refl T79.heap.size) E80.1
      have X80t_b76 := X79t_b76.ext E80
      have ne80_b76 : b76 ≠ b80 := hb80 ▸ Nat.ne_of_lt X79t_b76.lt
      have X80t_b77 := X79t_b77.ext E80
      have ne80_b77 : b77 ≠ b80 := hb80 ▸ Nat.ne_of_lt X79t_b77.lt
      have X80t_b78 := X79t_b78.ext E80
      have ne80_b78 : b78 ≠ b80 := hb80 ▸ Nat.ne_of_lt X79t_b78.lt
      have X80t_b79 := Tx79.ext E80
      have ne80_b79 : b79 ≠ b80 := hb80 ▸ Nat.ne_of_lt Tx79.lt
      have F80_id : Fld Z T80.heap b80 "com/example/phaseline/phaseline/game/Side" "id" "Ljava/lang/String;" (.null) := D80 (Or.inr (w_57 hw)) (ty := (.object "java/lang/String")) (by decide)
      have F80_name : Fld Z T80.heap b80 "com/example/phaseline/phaseline/game/Side" "name" "Ljava/lang/String;" (.null) := D80 (Or.inr (w_59 hw)) (ty := (.object "java/lang/String")) (by decide)
      refine g_dup X80 hx hby at_141 (pc' := 142) rfl rfl ?_
      refine g_aload X80 hx hby at_142 (pc' := 144) rfl rfl rfl ?_
      refine g_aload X80 hx hby at_144 (pc' := 146) rfl rfl rfl ?_
      refine g_callIH X80 hx hZ79 hown79 (W := 1) (argsL := [.ref b76, .ref b77]) (b := b80) (rest := [.ref b80]) hby at_146 (pc' := 149) rfl (by rw [hml]; rfl) (w_41 hw) (w_42 hw) (w_40 hw) (w_43 hw) rfl (by decide) (rmSD l Z a0 hw [] b80 b76 b77 T80.heap n0 _ _ Z80 A80 F80_id F80_name (Nat.le_trans Z79 (Nat.le_of_eq hb80.symm)) cs SS O80o) rfl hS79 Y80 (own_EL hw) C80c.1 (by decide) (by decide) (by decide) (by decide) rfl pd__28Ljava_2flang_2fString_3bLjava_2flang_2fString_3b_29V rfl rfl (Nat.le_of_eq rfl) ?_
      rintro _ T81 L81 X81 (⟨rfl, N81q, K81, Ei81, Fa81, Fb81⟩) hS81 hZ81 hown81 C81h
      have N81 := Fr.app N79 N81q
      have sf81_b80 := C81h.safe A80.lt sf80_b80
      have C81c := C80c.trans C81h
      have O81 := O80o.keep K81 (allS (Nat.le_trans Z79 (Nat.le_of_eq hb80.symm)) all0)
      have Z81 := Nat.le_trans Z80 K81.1
      have Y81 := Nat.le_trans Y80 K81.1
      have X81t_b76 := X80t_b76.keep1 K81 A80 (w_39 hw) ne80_b76
      have X81t_b77 := X80t_b77.keep1 K81 A80 (w_39 hw) ne80_b77
      have X81t_b78 := X80t_b78.keep1 K81 A80 (w_39 hw) ne80_b78
      have X81t_b79 := X80t_b79.keep1 K81 A80 (w_39 hw) ne80_b79
      have E81_b80 := A80.keep K81
      show GoE p e below _ (T81.setTop (mkF m 149 #[.val (.int q1), .val (.int q2), .val (.int q3), .val (.int (q1 &&& (65535 : Int32))), .val (.int ((ushr q1 (16 : Int32)) &&& (65535 : Int32))), .val (.int (q1 &&& (65535 : Int32))), .val (.int ((ushr q1 (16 : Int32)) &&& (65535 : Int32))), .val (.int (lenV q3)), .val (.int (lenV q3)), .val (.int (lenV (ushr q3 (4 : Int32)))), .val (.int (lenV (ushr q3 (4 : Int32)))), .val (.int ((ushr q3 (10 : Int32)) &&& (3 : Int32))), .val (.ref b76), .val (.ref b77), .val (.ref b78), .val (.ref b79), .unset, .unset, .unset] [.ref b80]))
      refine g_astore X81 hx hby at_149 (pc' := 151) rfl rfl (l' := #[.val (.int q1), .val (.int q2), .val (.int q3), .val (.int (q1 &&& (65535 : Int32))), .val (.int ((ushr q1 (16 : Int32)) &&& (65535 : Int32))), .val (.int (q1 &&& (65535 : Int32))), .val (.int ((ushr q1 (16 : Int32)) &&& (65535 : Int32))), .val (.int (lenV q3)), .val (.int (lenV q3)), .val (.int (lenV (ushr q3 (4 : Int32)))), .val (.int (lenV (ushr q3 (4 : Int32)))), .val (.int ((ushr q3 (10 : Int32)) &&& (3 : Int32))), .val (.ref b76), .val (.ref b77), .val (.ref b78), .val (.ref b79), .val (.ref b80), .unset, .unset]) rfl ?_
      refine g_iload X81 hx hby at_151 (pc' := 153) rfl rfl ?_
      refine g_iconst X81 hx hby at_153 (pc' := 154) rfl (z := (1 : Int32)) rfl ?_
      refine g_icmp_ne X81 hx hby at_154 (by decide) (pc' := 165) (by decide) (pn := 157) rfl (fun hc154_82 => ?_) (fun hc154_82 => ?_)
      · refine g_iload X81 hx hby at_165 (pc' := 167) rfl rfl ?_
        refine g_iconst X81 hx hby at_167 (pc' := 168) rfl (z := (2 : Int32)) rfl ?_
        refine g_icmp_ne X81 hx hby at_168 (by decide) (pc' := 186) (by decide) (pn := 171) rfl (fun hc168_83 => ?_) (fun hc168_83 => ?_)
        · refine g_iload X81 hx hby at_186 (pc' := 188) rfl rfl ?_
          refine g_iconst X81 hx hby at_188 (pc' := 189) rfl (z := (3 : Int32)) rfl ?_
          refine g_icmp_ne X81 hx hby at_189 (by decide) (pc' := 212) (by decide) (pn := 192) rfl (fun hc189_84 => ?_) (fun hc189_84 => ?_)
          · refine g_new X81 hx hZ81 hown81 hby at_212 (pc' := 215) rfl (w_38 hw) (w_39 hw) (w_40 hw) rfl (by decide) (by decide) ?_
            intro T85 b85 hb85 X85 E85 A85 D85
            have sf85_b80 := Safe.ext E85 C81c.1 sf81_b80
            have sf85_b85 := Safe.ext E85 C81c.1 (Safe.new (Nat.le_of_eq hb85.symm))
            have C85c := C81c.trans (CHr.ext E85 C81c.1)
            have O85o := O81.ext E85
            have Z85 := Nat.le_trans Z81 E85.1
            have Y85 := Nat.le_trans (Nat.le_refl T81.heap.size) E85.1
            have X85t_b76 := X81t_b76.ext E85
            have ne85_b76 : b76 ≠ b85 := hb85 ▸ Nat.ne_of_lt X81t_b76.lt
            have X85t_b77 := X81t_b77.ext E85
            have ne85_b77 : b77 ≠ b85 := hb85 ▸ Nat.ne_of_lt X81t_b77.lt
            have X85t_b78 := X81t_b78.ext E85
            have ne85_b78 : b78 ≠ b85 := hb85 ▸ Nat.ne_of_lt X81t_b78.lt
            have X85t_b79 := X81t_b79.ext E85
            have ne85_b79 : b79 ≠ b85 := hb85 ▸ Nat.ne_of_lt X81t_b79.lt
            have E85_b80 := Ei81.ext E85
            have ne85_b80 : b80 ≠ b85 := hb85 ▸ Nat.ne_of_lt Ei81.lt
            have F85_b80_id := Fa81.ext E85
            have F85_b80_name := Fb81.ext E85
            have F85_id : Fld Z T85.heap b85 "com/example/phaseline/phaseline/game/Side" "id" "Ljava/lang/String;" (.null) := D85 (Or.inr (w_57 hw)) (ty := (.object "java/lang/String")) (by decide)
            have F85_name : Fld Z T85.heap b85 "com/example/phaseline/phaseline/game/Side" "name" "Ljava/lang/String;" (.null) := D85 (Or.inr (w_59 hw)) (ty := (.object "java/lang/String")) (by decide)
            refine g_dup X85 hx hby at_215 (pc' := 216) rfl rfl ?_
            refine g_aload X85 hx hby at_216 (pc' := 218) rfl rfl rfl ?_
            refine g_aload X85 hx hby at_218 (pc' := 220) rfl rfl rfl ?_
            refine g_callIH X85 hx hZ81 hown81 (W := 1) (argsL := [.ref b78, .ref b79]) (b := b85) (rest := [.ref b85]) hby at_220 (pc' := 223) rfl (by rw [hml]; rfl) (w_41 hw) (w_42 hw) (w_40 hw) (w_43 hw) rfl (by decide) (rmSD l Z a0 hw [] b85 b78 b79 T85.heap n0 _ _ Z85 A85 F85_id F85_name (Nat.le_trans Z81 (Nat.le_of_eq hb85.symm)) cs SS O85o) rfl hS81 Y85 (own_EL hw) C85c.1 (by decide) (by decide) (by decide) (by decide) rfl pd__28Ljava_2flang_2fString_3bLjava_2flang_2fString_3b_29V rfl rfl (Nat.le_of_eq rfl) ?_
            rintro _ T86 L86 X86 (⟨rfl, N86q, K86, Ei86, Fa86, Fb86⟩) hS86 hZ86 hown86 C86h
            have N86 := Fr.app N81 N86q
            have sf86_b80 := C86h.safe E85_b80.lt sf85_b80
            have sf86_b85 := C86h.safe A85.lt sf85_b85
            have C86c := C85c.trans C86h
            have O86 := O85o.keep K86 (allS (Nat.le_trans Z81 (Nat.le_of_eq hb85.symm)) all0)
            have Z86 := Nat.le_trans Z85 K86.1
            have Y86 := Nat.le_trans Y85 K86.1
            have X86t_b76 := X85t_b76.keep1 K86 A85 (w_39 hw) ne85_b76
            have X86t_b77 := X85t_b77.keep1 K86 A85 (w_39 hw) ne85_b77
            have X86t_b78 := X85t_b78.keep1 K86 A85 (w_39 hw) ne85_b78
            have X86t_b79 := X85t_b79.keep1 K86 A85 (w_39 hw) ne85_b79
            have E86_b80 := E85_b80.keep K86
            have F86_b80_id := F85_b80_id.keep K86 (ninS ne85_b80 nin0)
            have F86_b80_name := F85_b80_name.keep K86 (ninS ne85_b80 nin0)
            have E86_b85 := A85.keep K86
            show GoE p e below _ (T86.setTop (mkF m 223 #[.val (.int q1), .val (.int q2), .val (.int q3), .val (.int (q1 &&& (65535 : Int32))), .val (.int ((ushr q1 (16 : Int32)) &&& (65535 : Int32))), .val (.int (q1 &&& (65535 : Int32))), .val (.int ((ushr q1 (16 : Int32)) &&& (65535 : Int32))), .val (.int (lenV q3)), .val (.int (lenV q3)), .val (.int (lenV (ushr q3 (4 : Int32)))), .val (.int (lenV (ushr q3 (4 : Int32)))), .val (.int ((ushr q3 (10 : Int32)) &&& (3 : Int32))), .val (.ref b76), .val (.ref b77), .val (.ref b78), .val (.ref b79), .val (.ref b80), .unset, .unset] [.ref b85]))
            refine g_astore X86 hx hby at_223 (pc' := 225) rfl rfl (l' := #[.val (.int q1), .val (.int q2), .val (.int q3), .val (.int (q1 &&& (65535 : Int32))), .val (.int ((ushr q1 (16 : Int32)) &&& (65535 : Int32))), .val (.int (q1 &&& (65535 : Int32))), .val (.int ((ushr q1 (16 : Int32)) &&& (65535 : Int32))), .val (.int (lenV q3)), .val (.int (lenV q3)), .val (.int (lenV (ushr q3 (4 : Int32)))), .val (.int (lenV (ushr q3 (4 : Int32)))), .val (.int ((ushr q3 (10 : Int32)) &&& (3 : Int32))), .val (.ref b76), .val (.ref b77), .val (.ref b78), .val (.ref b79), .val (.ref b80), .val (.ref b85), .unset]) rfl ?_
            refine g_iloadN X86 hx hby at_225 (pc' := 226) rfl rfl ?_
            refine g_iload X86 hx hby at_226 (pc' := 228) rfl rfl ?_
            refine g_iload X86 hx hby at_228 (pc' := 230) rfl rfl ?_
            refine g_iload X86 hx hby at_230 (pc' := 232) rfl rfl ?_
            refine g_callS X86 hx hZ86 hown86 (W := 0) (argsL := [.int (q1 &&& (65535 : Int32)), .int (lenV q3), .int (q1 &&& (65535 : Int32)), .int (lenV q3)]) (rest := []) hby at_232 (pc' := 235) rfl (by rw [hml]; rfl) (w_60 hw) (w_61 hw) (w_3 hw) (w_62 hw) (by decide) (rmSA l Z a0 hw [] (q1 &&& (65535 : Int32)) (lenV q3) (q1 &&& (65535 : Int32)) (lenV q3) T86.heap n0) rfl (by decide) (by decide) (by decide) (by decide) rfl pd__28IIII_29Z rfl rfl (Nat.le_of_eq rfl) ?_
            rintro _ T87 L87 X87 ⟨rfl, N87q, e87⟩
            have N87 := Fr.app N86 N87q
            show GoE p e below _ (T87.setTop (mkF m 235 #[.val (.int q1), .val (.int q2), .val (.int q3), .val (.int (q1 &&& (65535 : Int32))), .val (.int ((ushr q1 (16 : Int32)) &&& (65535 : Int32))), .val (.int (q1 &&& (65535 : Int32))), .val (.int ((ushr q1 (16 : Int32)) &&& (65535 : Int32))), .val (.int (lenV q3)), .val (.int (lenV q3)), .val (.int (lenV (ushr q3 (4 : Int32)))), .val (.int (lenV (ushr q3 (4 : Int32)))), .val (.int ((ushr q3 (10 : Int32)) &&& (3 : Int32))), .val (.ref b76), .val (.ref b77), .val (.ref b78), .val (.ref b79), .val (.ref b80), .val (.ref b85), .unset] [.int (sameV (q1 &&& (65535 : Int32)) (lenV q3) (q1 &&& (65535 : Int32)) (lenV q3))]))
            refine g_if_eq X87 hx hby at_235 (by decide) (pc' := 256) (by decide) (pn := 238) rfl (fun hc235_88 => ?_) (fun hc235_88 => ?_)
            · refine g_iconst X87 hx hby at_256 (pc' := 257) rfl (z := (0 : Int32)) rfl ?_
              refine g_istore X87 hx hby at_257 (pc' := 259) rfl (l' := #[.val (.int q1), .val (.int q2), .val (.int q3), .val (.int (q1 &&& (65535 : Int32))), .val (.int ((ushr q1 (16 : Int32)) &&& (65535 : Int32))), .val (.int (q1 &&& (65535 : Int32))), .val (.int ((ushr q1 (16 : Int32)) &&& (65535 : Int32))), .val (.int (lenV q3)), .val (.int (lenV q3)), .val (.int (lenV (ushr q3 (4 : Int32)))), .val (.int (lenV (ushr q3 (4 : Int32)))), .val (.int ((ushr q3 (10 : Int32)) &&& (3 : Int32))), .val (.ref b76), .val (.ref b77), .val (.ref b78), .val (.ref b79), .val (.ref b80), .val (.ref b85), .val (.int (0 : Int32))]) rfl ?_
              refine g_aload X87 hx hby at_259 (pc' := 261) rfl rfl rfl ?_
              refine g_aload X87 hx hby at_261 (pc' := 263) rfl rfl rfl ?_
              refine g_callV X87 hx hZ86 hown86 (W := 0) (argsL := [.ref b85]) (b := b80) (rest := []) hby at_263 (pc' := 266) rfl (by rw [hml]; rfl) (w_63 hw) (w_64 hw) (w_66 hw) (notFace_of_selects (args := #[]) (mvT hZ86 (w_66 hw))) (w_65 hw) (w_40 hw) (w_67 hw) (by decide) (rmQd l Z a0 hw [] b80 b85 T86.heap n0 b76 b77 b78 b79 _ _ _ _ E86_b80 F86_b80_id F86_b80_name Ei86 Fa86 Fb86 X86t_b76 X86t_b77 X86t_b78 X86t_b79 nb78_b76 nb79_b77 cs SS O86) e87 E86_b80 (by decide) (by decide) (by decide) (by decide) rfl pd__28Ljava_2flang_2fObject_3b_29Z rfl rfl (Nat.le_of_eq rfl) ?_
              rintro _ T89 L89 X89 ⟨rfl, N89q, e89⟩
              have N89 := Fr.app N87 N89q
              show GoE p e below _ (T89.setTop (mkF m 266 #[.val (.int q1), .val (.int q2), .val (.int q3), .val (.int (q1 &&& (65535 : Int32))), .val (.int ((ushr q1 (16 : Int32)) &&& (65535 : Int32))), .val (.int (q1 &&& (65535 : Int32))), .val (.int ((ushr q1 (16 : Int32)) &&& (65535 : Int32))), .val (.int (lenV q3)), .val (.int (lenV q3)), .val (.int (lenV (ushr q3 (4 : Int32)))), .val (.int (lenV (ushr q3 (4 : Int32)))), .val (.int ((ushr q3 (10 : Int32)) &&& (3 : Int32))), .val (.ref b76), .val (.ref b77), .val (.ref b78), .val (.ref b79), .val (.ref b80), .val (.ref b85), .val (.int (0 : Int32))] [.int (SE (eqT (chars (q1 &&& (65535 : Int32)) (lenV q3)) (chars (q1 &&& (65535 : Int32)) (lenV q3))) (eqT (chars ((ushr q1 (16 : Int32)) &&& (65535 : Int32)) (lenV (ushr q3 (4 : Int32)))) (chars ((ushr q1 (16 : Int32)) &&& (65535 : Int32)) (lenV (ushr q3 (4 : Int32))))))]))
              refine g_iload X89 hx hby at_266 (pc' := 268) rfl rfl ?_
              refine g_icmp_ne X89 hx hby at_268 (by decide) (pc' := 275) (by decide) (pn := 271) rfl (fun z => absurd z (fun z => z (by simp only [SE, ← own_same (own_len _) (own_len _), hc235_88, if_true, if_false, ↓reduceIte]))) (fun hc268_90 => ?_)
              refine g_iconst X89 hx hby at_271 (pc' := 272) rfl (z := (1 : Int32)) rfl ?_
              refine g_goto X89 hx hby at_272 (by decide) (pc' := 276) (by decide) ?_
              refine GoH.of_go (a0 := a0) (fun v h L => v = some (.int 1) ∧ Fr n0 L) hS86 hZ86 (own_EL hw) ?_
              exact g_retN (Q := _) (w := (1 : Int32)) X89 hx hby at_276 hret (by simp) (by first | decide | rfl) hlk (by decide) (by decide) (by rw [e89]; exact ⟨⟨rfl, N89⟩, (Nat.le_refl T86.heap.size), C86c⟩)
            · refine g_iload X87 hx hby at_238 (pc' := 240) rfl rfl ?_
              refine g_iload X87 hx hby at_240 (pc' := 242) rfl rfl ?_
              refine g_iload X87 hx hby at_242 (pc' := 244) rfl rfl ?_
              refine g_iload X87 hx hby at_244 (pc' := 246) rfl rfl ?_
              refine g_callS X87 hx hZ86 hown86 (W := 0) (argsL := [.int ((ushr q1 (16 : Int32)) &&& (65535 : Int32)), .int (lenV (ushr q3 (4 : Int32))), .int ((ushr q1 (16 : Int32)) &&& (65535 : Int32)), .int (lenV (ushr q3 (4 : Int32)))]) (rest := []) hby at_246 (pc' := 249) rfl (by rw [hml]; rfl) (w_60 hw) (w_61 hw) (w_3 hw) (w_62 hw) (by decide) (rmSA l Z a0 hw [] ((ushr q1 (16 : Int32)) &&& (65535 : Int32)) (lenV (ushr q3 (4 : Int32))) ((ushr q1 (16 : Int32)) &&& (65535 : Int32)) (lenV (ushr q3 (4 : Int32))) T86.heap n0) e87 (by decide) (by decide) (by decide) (by decide) rfl pd__28IIII_29Z rfl rfl (Nat.le_of_eq rfl) ?_
              rintro _ T91 L91 X91 ⟨rfl, N91q, e91⟩
              have N91 := Fr.app N87 N91q
              show GoE p e below _ (T91.setTop (mkF m 249 #[.val (.int q1), .val (.int q2), .val (.int q3), .val (.int (q1 &&& (65535 : Int32))), .val (.int ((ushr q1 (16 : Int32)) &&& (65535 : Int32))), .val (.int (q1 &&& (65535 : Int32))), .val (.int ((ushr q1 (16 : Int32)) &&& (65535 : Int32))), .val (.int (lenV q3)), .val (.int (lenV q3)), .val (.int (lenV (ushr q3 (4 : Int32)))), .val (.int (lenV (ushr q3 (4 : Int32)))), .val (.int ((ushr q3 (10 : Int32)) &&& (3 : Int32))), .val (.ref b76), .val (.ref b77), .val (.ref b78), .val (.ref b79), .val (.ref b80), .val (.ref b85), .unset] [.int (sameV ((ushr q1 (16 : Int32)) &&& (65535 : Int32)) (lenV (ushr q3 (4 : Int32))) ((ushr q1 (16 : Int32)) &&& (65535 : Int32)) (lenV (ushr q3 (4 : Int32))))]))
              refine g_if_eq X91 hx hby at_249 (by decide) (pc' := 256) (by decide) (pn := 252) rfl (fun hc249_92 => ?_) (fun hc249_92 => ?_)
              · refine g_iconst X91 hx hby at_256 (pc' := 257) rfl (z := (0 : Int32)) rfl ?_
                refine g_istore X91 hx hby at_257 (pc' := 259) rfl (l' := #[.val (.int q1), .val (.int q2), .val (.int q3), .val (.int (q1 &&& (65535 : Int32))), .val (.int ((ushr q1 (16 : Int32)) &&& (65535 : Int32))), .val (.int (q1 &&& (65535 : Int32))), .val (.int ((ushr q1 (16 : Int32)) &&& (65535 : Int32))), .val (.int (lenV q3)), .val (.int (lenV q3)), .val (.int (lenV (ushr q3 (4 : Int32)))), .val (.int (lenV (ushr q3 (4 : Int32)))), .val (.int ((ushr q3 (10 : Int32)) &&& (3 : Int32))), .val (.ref b76), .val (.ref b77), .val (.ref b78), .val (.ref b79), .val (.ref b80), .val (.ref b85), .val (.int (0 : Int32))]) rfl ?_
                refine g_aload X91 hx hby at_259 (pc' := 261) rfl rfl rfl ?_
                refine g_aload X91 hx hby at_261 (pc' := 263) rfl rfl rfl ?_
                refine g_callV X91 hx hZ86 hown86 (W := 0) (argsL := [.ref b85]) (b := b80) (rest := []) hby at_263 (pc' := 266) rfl (by rw [hml]; rfl) (w_63 hw) (w_64 hw) (w_66 hw) (notFace_of_selects (args := #[]) (mvT hZ86 (w_66 hw))) (w_65 hw) (w_40 hw) (w_67 hw) (by decide) (rmQd l Z a0 hw [] b80 b85 T86.heap n0 b76 b77 b78 b79 _ _ _ _ E86_b80 F86_b80_id F86_b80_name Ei86 Fa86 Fb86 X86t_b76 X86t_b77 X86t_b78 X86t_b79 nb78_b76 nb79_b77 cs SS O86) e91 E86_b80 (by decide) (by decide) (by decide) (by decide) rfl pd__28Ljava_2flang_2fObject_3b_29Z rfl rfl (Nat.le_of_eq rfl) ?_
                rintro _ T93 L93 X93 ⟨rfl, N93q, e93⟩
                have N93 := Fr.app N91 N93q
                show GoE p e below _ (T93.setTop (mkF m 266 #[.val (.int q1), .val (.int q2), .val (.int q3), .val (.int (q1 &&& (65535 : Int32))), .val (.int ((ushr q1 (16 : Int32)) &&& (65535 : Int32))), .val (.int (q1 &&& (65535 : Int32))), .val (.int ((ushr q1 (16 : Int32)) &&& (65535 : Int32))), .val (.int (lenV q3)), .val (.int (lenV q3)), .val (.int (lenV (ushr q3 (4 : Int32)))), .val (.int (lenV (ushr q3 (4 : Int32)))), .val (.int ((ushr q3 (10 : Int32)) &&& (3 : Int32))), .val (.ref b76), .val (.ref b77), .val (.ref b78), .val (.ref b79), .val (.ref b80), .val (.ref b85), .val (.int (0 : Int32))] [.int (SE (eqT (chars (q1 &&& (65535 : Int32)) (lenV q3)) (chars (q1 &&& (65535 : Int32)) (lenV q3))) (eqT (chars ((ushr q1 (16 : Int32)) &&& (65535 : Int32)) (lenV (ushr q3 (4 : Int32)))) (chars ((ushr q1 (16 : Int32)) &&& (65535 : Int32)) (lenV (ushr q3 (4 : Int32))))))]))
                refine g_iload X93 hx hby at_266 (pc' := 268) rfl rfl ?_
                refine g_icmp_ne X93 hx hby at_268 (by decide) (pc' := 275) (by decide) (pn := 271) rfl (fun z => absurd z (fun z => z (by simp only [SE, ← own_same (own_len _) (own_len _), hc235_88, hc249_92, if_true, if_false, ↓reduceIte]))) (fun hc268_94 => ?_)
                refine g_iconst X93 hx hby at_271 (pc' := 272) rfl (z := (1 : Int32)) rfl ?_
                refine g_goto X93 hx hby at_272 (by decide) (pc' := 276) (by decide) ?_
                refine GoH.of_go (a0 := a0) (fun v h L => v = some (.int 1) ∧ Fr n0 L) hS86 hZ86 (own_EL hw) ?_
                exact g_retN (Q := _) (w := (1 : Int32)) X93 hx hby at_276 hret (by simp) (by first | decide | rfl) hlk (by decide) (by decide) (by rw [e93]; exact ⟨⟨rfl, N93⟩, (Nat.le_refl T86.heap.size), C86c⟩)
              · refine g_iconst X91 hx hby at_252 (pc' := 253) rfl (z := (1 : Int32)) rfl ?_
                refine g_goto X91 hx hby at_253 (by decide) (pc' := 257) (by decide) ?_
                refine g_istore X91 hx hby at_257 (pc' := 259) rfl (l' := #[.val (.int q1), .val (.int q2), .val (.int q3), .val (.int (q1 &&& (65535 : Int32))), .val (.int ((ushr q1 (16 : Int32)) &&& (65535 : Int32))), .val (.int (q1 &&& (65535 : Int32))), .val (.int ((ushr q1 (16 : Int32)) &&& (65535 : Int32))), .val (.int (lenV q3)), .val (.int (lenV q3)), .val (.int (lenV (ushr q3 (4 : Int32)))), .val (.int (lenV (ushr q3 (4 : Int32)))), .val (.int ((ushr q3 (10 : Int32)) &&& (3 : Int32))), .val (.ref b76), .val (.ref b77), .val (.ref b78), .val (.ref b79), .val (.ref b80), .val (.ref b85), .val (.int (1 : Int32))]) rfl ?_
                refine g_aload X91 hx hby at_259 (pc' := 261) rfl rfl rfl ?_
                refine g_aload X91 hx hby at_261 (pc' := 263) rfl rfl rfl ?_
                refine g_callV X91 hx hZ86 hown86 (W := 0) (argsL := [.ref b85]) (b := b80) (rest := []) hby at_263 (pc' := 266) rfl (by rw [hml]; rfl) (w_63 hw) (w_64 hw) (w_66 hw) (notFace_of_selects (args := #[]) (mvT hZ86 (w_66 hw))) (w_65 hw) (w_40 hw) (w_67 hw) (by decide) (rmQd l Z a0 hw [] b80 b85 T86.heap n0 b76 b77 b78 b79 _ _ _ _ E86_b80 F86_b80_id F86_b80_name Ei86 Fa86 Fb86 X86t_b76 X86t_b77 X86t_b78 X86t_b79 nb78_b76 nb79_b77 cs SS O86) e91 E86_b80 (by decide) (by decide) (by decide) (by decide) rfl pd__28Ljava_2flang_2fObject_3b_29Z rfl rfl (Nat.le_of_eq rfl) ?_
                rintro _ T95 L95 X95 ⟨rfl, N95q, e95⟩
                have N95 := Fr.app N91 N95q
                show GoE p e below _ (T95.setTop (mkF m 266 #[.val (.int q1), .val (.int q2), .val (.int q3), .val (.int (q1 &&& (65535 : Int32))), .val (.int ((ushr q1 (16 : Int32)) &&& (65535 : Int32))), .val (.int (q1 &&& (65535 : Int32))), .val (.int ((ushr q1 (16 : Int32)) &&& (65535 : Int32))), .val (.int (lenV q3)), .val (.int (lenV q3)), .val (.int (lenV (ushr q3 (4 : Int32)))), .val (.int (lenV (ushr q3 (4 : Int32)))), .val (.int ((ushr q3 (10 : Int32)) &&& (3 : Int32))), .val (.ref b76), .val (.ref b77), .val (.ref b78), .val (.ref b79), .val (.ref b80), .val (.ref b85), .val (.int (1 : Int32))] [.int (SE (eqT (chars (q1 &&& (65535 : Int32)) (lenV q3)) (chars (q1 &&& (65535 : Int32)) (lenV q3))) (eqT (chars ((ushr q1 (16 : Int32)) &&& (65535 : Int32)) (lenV (ushr q3 (4 : Int32)))) (chars ((ushr q1 (16 : Int32)) &&& (65535 : Int32)) (lenV (ushr q3 (4 : Int32))))))]))
                refine g_iload X95 hx hby at_266 (pc' := 268) rfl rfl ?_
                refine g_icmp_ne X95 hx hby at_268 (by decide) (pc' := 275) (by decide) (pn := 271) rfl (fun z => absurd z (fun z => z (by simp only [SE, ← own_same (own_len _) (own_len _), hc235_88, hc249_92, if_true, if_false, ↓reduceIte]))) (fun hc268_96 => ?_)
                refine g_iconst X95 hx hby at_271 (pc' := 272) rfl (z := (1 : Int32)) rfl ?_
                refine g_goto X95 hx hby at_272 (by decide) (pc' := 276) (by decide) ?_
                refine GoH.of_go (a0 := a0) (fun v h L => v = some (.int 1) ∧ Fr n0 L) hS86 hZ86 (own_EL hw) ?_
                exact g_retN (Q := _) (w := (1 : Int32)) X95 hx hby at_276 hret (by simp) (by first | decide | rfl) hlk (by decide) (by decide) (by rw [e95]; exact ⟨⟨rfl, N95⟩, (Nat.le_refl T86.heap.size), C86c⟩)
          · refine g_aload X81 hx hby at_192 (pc' := 194) rfl rfl rfl ?_
            refine g_astore X81 hx hby at_194 (pc' := 196) rfl rfl (l' := #[.val (.int q1), .val (.int q2), .val (.int q3), .val (.int (q1 &&& (65535 : Int32))), .val (.int ((ushr q1 (16 : Int32)) &&& (65535 : Int32))), .val (.int (q1 &&& (65535 : Int32))), .val (.int ((ushr q1 (16 : Int32)) &&& (65535 : Int32))), .val (.int (lenV q3)), .val (.int (lenV q3)), .val (.int (lenV (ushr q3 (4 : Int32)))), .val (.int (lenV (ushr q3 (4 : Int32)))), .val (.int ((ushr q3 (10 : Int32)) &&& (3 : Int32))), .val (.ref b76), .val (.ref b77), .val (.ref b78), .val (.ref b79), .val (.ref b80), .val (.ref b76), .unset]) rfl ?_
            refine g_aload X81 hx hby at_196 (pc' := 198) rfl rfl rfl ?_
            refine g_aload X81 hx hby at_198 (pc' := 200) rfl rfl rfl ?_
            refine g_callV X81 hx hZ81 hown81 (W := 0) (argsL := [.ref b76]) (b := b80) (rest := []) hby at_200 (pc' := 203) rfl (by rw [hml]; rfl) (w_63 hw) (w_64 hw) (w_66 hw) (notFace_of_selects (args := #[]) (mvT hZ81 (w_66 hw))) (w_65 hw) (w_40 hw) (w_67 hw) (by decide) (rmQt l Z a0 hw [] b80 b76 T81.heap n0 X81t_b76.1) rfl Ei81 (by decide) (by decide) (by decide) (by decide) rfl pd__28Ljava_2flang_2fObject_3b_29Z rfl rfl (Nat.le_of_eq rfl) ?_
            rintro _ T97 L97 X97 ⟨rfl, N97q, e97⟩
            have N97 := Fr.app N81 N97q
            show GoE p e below _ (T97.setTop (mkF m 203 #[.val (.int q1), .val (.int q2), .val (.int q3), .val (.int (q1 &&& (65535 : Int32))), .val (.int ((ushr q1 (16 : Int32)) &&& (65535 : Int32))), .val (.int (q1 &&& (65535 : Int32))), .val (.int ((ushr q1 (16 : Int32)) &&& (65535 : Int32))), .val (.int (lenV q3)), .val (.int (lenV q3)), .val (.int (lenV (ushr q3 (4 : Int32)))), .val (.int (lenV (ushr q3 (4 : Int32)))), .val (.int ((ushr q3 (10 : Int32)) &&& (3 : Int32))), .val (.ref b76), .val (.ref b77), .val (.ref b78), .val (.ref b79), .val (.ref b80), .val (.ref b76), .unset] [.int (0 : Int32)]))
            refine g_if_ne X97 hx hby at_203 (by decide) (pc' := 210) (by decide) (pn := 206) rfl (fun z => absurd z (by decide)) (fun _ => ?_)
            refine g_iconst X97 hx hby at_206 (pc' := 207) rfl (z := (1 : Int32)) rfl ?_
            refine g_goto X97 hx hby at_207 (by decide) (pc' := 211) (by decide) ?_
            refine GoH.of_go (a0 := a0) (fun v h L => v = some (.int 1) ∧ Fr n0 L) hS81 hZ81 (own_EL hw) ?_
            exact g_retN (Q := _) (w := (1 : Int32)) X97 hx hby at_211 hret (by simp) (by first | decide | rfl) hlk (by decide) (by decide) (by rw [e97]; exact ⟨⟨rfl, N97⟩, (Nat.le_refl T81.heap.size), C81c⟩)
        · refine g_aload X81 hx hby at_171 (pc' := 173) rfl rfl rfl ?_
          refine g_aconstNull X81 hx hby at_173 (pc' := 174) rfl ?_
          refine g_callV X81 hx hZ81 hown81 (W := 0) (argsL := [.null]) (b := b80) (rest := []) hby at_174 (pc' := 177) rfl (by rw [hml]; rfl) (w_63 hw) (w_64 hw) (w_66 hw) (notFace_of_selects (args := #[]) (mvT hZ81 (w_66 hw))) (w_65 hw) (w_40 hw) (w_67 hw) (by decide) (rmQn l Z a0 hw [] b80 T81.heap n0) rfl Ei81 (by decide) (by decide) (by decide) (by decide) rfl pd__28Ljava_2flang_2fObject_3b_29Z rfl rfl (Nat.le_of_eq rfl) ?_
          rintro _ T98 L98 X98 ⟨rfl, N98q, e98⟩
          have N98 := Fr.app N81 N98q
          show GoE p e below _ (T98.setTop (mkF m 177 #[.val (.int q1), .val (.int q2), .val (.int q3), .val (.int (q1 &&& (65535 : Int32))), .val (.int ((ushr q1 (16 : Int32)) &&& (65535 : Int32))), .val (.int (q1 &&& (65535 : Int32))), .val (.int ((ushr q1 (16 : Int32)) &&& (65535 : Int32))), .val (.int (lenV q3)), .val (.int (lenV q3)), .val (.int (lenV (ushr q3 (4 : Int32)))), .val (.int (lenV (ushr q3 (4 : Int32)))), .val (.int ((ushr q3 (10 : Int32)) &&& (3 : Int32))), .val (.ref b76), .val (.ref b77), .val (.ref b78), .val (.ref b79), .val (.ref b80), .unset, .unset] [.int (0 : Int32)]))
          refine g_if_ne X98 hx hby at_177 (by decide) (pc' := 184) (by decide) (pn := 180) rfl (fun z => absurd z (by decide)) (fun _ => ?_)
          refine g_iconst X98 hx hby at_180 (pc' := 181) rfl (z := (1 : Int32)) rfl ?_
          refine g_goto X98 hx hby at_181 (by decide) (pc' := 185) (by decide) ?_
          refine GoH.of_go (a0 := a0) (fun v h L => v = some (.int 1) ∧ Fr n0 L) hS81 hZ81 (own_EL hw) ?_
          exact g_retN (Q := _) (w := (1 : Int32)) X98 hx hby at_185 hret (by simp) (by first | decide | rfl) hlk (by decide) (by decide) (by rw [e98]; exact ⟨⟨rfl, N98⟩, (Nat.le_refl T81.heap.size), C81c⟩)
      · refine g_aload X81 hx hby at_157 (pc' := 159) rfl rfl rfl ?_
        refine g_aload X81 hx hby at_159 (pc' := 161) rfl rfl rfl ?_
        refine g_callV X81 hx hZ81 hown81 (W := 0) (argsL := [.ref b80]) (b := b80) (rest := []) hby at_161 (pc' := 164) rfl (by rw [hml]; rfl) (w_63 hw) (w_64 hw) (w_66 hw) (notFace_of_selects (args := #[]) (mvT hZ81 (w_66 hw))) (w_65 hw) (w_40 hw) (w_67 hw) (by decide) (rmQs l Z a0 hw [] b80 T81.heap n0 b76 b77 Ei81 Fa81 Fb81 X81t_b76.1 X81t_b77.1 cs SS O81) rfl Ei81 (by decide) (by decide) (by decide) (by decide) rfl pd__28Ljava_2flang_2fObject_3b_29Z rfl rfl (Nat.le_of_eq rfl) ?_
        rintro _ T99 L99 X99 ⟨rfl, N99q, e99⟩
        have N99 := Fr.app N81 N99q
        show GoE p e below _ (T99.setTop (mkF m 164 #[.val (.int q1), .val (.int q2), .val (.int q3), .val (.int (q1 &&& (65535 : Int32))), .val (.int ((ushr q1 (16 : Int32)) &&& (65535 : Int32))), .val (.int (q1 &&& (65535 : Int32))), .val (.int ((ushr q1 (16 : Int32)) &&& (65535 : Int32))), .val (.int (lenV q3)), .val (.int (lenV q3)), .val (.int (lenV (ushr q3 (4 : Int32)))), .val (.int (lenV (ushr q3 (4 : Int32)))), .val (.int ((ushr q3 (10 : Int32)) &&& (3 : Int32))), .val (.ref b76), .val (.ref b77), .val (.ref b78), .val (.ref b79), .val (.ref b80), .unset, .unset] [.int (1 : Int32)]))
        refine GoH.of_go (a0 := a0) (fun v h L => v = some (.int 1) ∧ Fr n0 L) hS81 hZ81 (own_EL hw) ?_
        exact g_retN (Q := _) (w := (1 : Int32)) X99 hx hby at_164 hret (by simp) (by first | decide | rfl) hlk (by decide) (by decide) (by rw [e99]; exact ⟨⟨rfl, N99⟩, (Nat.le_refl T81.heap.size), C81c⟩)
set_option maxRecDepth 65536 in
set_option maxHeartbeats 40000000 in
theorem comes_1 {Post : Tables → Env → Array Value → State → Outcome → State → Prop} (hpost : ∀ tb e args s v u, (limb_1_1.after args s (.returned v) u = true ∧ limb_1_2.after args s (.returned v) u = true ∧ True) → ReturnedEndW s (.returned v) u (Jvm.fieldLocs frame_1_writes args s ++ Jvm.arrayLocs frame_1_arrays args s ++ Jvm.staticLocs frame_1_statics s) 48 3264 → Post tb e args s (.returned v) u) :
    ArmFor flags0 classFile x code maxLocals ret World_1 tables_1 room_1 Calls_1 rest_1 Pre_1 Post := by
  intro l hfl _ _ p e ha hc hk s m args below hf hA hF happ hP
  obtain ⟨hcalls, hrest, hpre⟩ := hP
  obtain ⟨-, -, -, hnamed, -, -, -, hat⟩ := (Spec.applies_iff hf).mp happ
  obtain ⟨hg, hn⟩ := and_e (Cond.before_iff.mp (show (Jvm.Cond.and given_1 narrow_1).before args s = true from hpre))
  obtain ⟨h1, g0⟩ := and_e hg
  obtain ⟨a0, g1⟩ := and_e g0
  obtain ⟨a1, g2⟩ := and_e g1
  have a2 := g2
  obtain ⟨u0, u1, u2, rfl⟩ : ∃ u0 u1 u2 : Value, args = #[u0, u1, u2] := by
    have hs : args.size = 3 := by simpa [Cond.value, given_1] using h1
    obtain ⟨L⟩ := args
    match L, hs with
    | [u0, u1, u2], _ => exact ⟨u0, u1, u2, rfl⟩
  have hw := fun d (hd : d ∈ tables_1) => atoms_spec (ws := Jvm.Cond.code x code maxLocals ret :: tables_1) hat d (List.mem_cons_of_mem _ hd)
  have hfit : Fit s := fun {y c} hc i hi => by
    obtain ⟨ha, rfl⟩ := Array.getElem?_eq_some_iff.mp hc
    have q := List.all_eq_true.mp ((Array.all_eq_true_iff_forall_mem.mp hF) _ (Array.getElem_mem ha)) i (List.mem_range.mpr hi)
    simpa [Array.getElem?_eq_getElem hi] using q
  obtain ⟨i0, e0⟩ := is_v a0
  obtain rfl : u0 = (.int i0) := Option.some.inj e0
  obtain ⟨i1, e1⟩ := is_v a1
  obtain rfl : u1 = (.int i1) := Option.some.inj e1
  obtain ⟨i2, e2⟩ := is_v a2
  obtain rfl : u2 = (.int i2) := Option.some.inj e2
  obtain ⟨hsets, -⟩ := atoms_of _ (rest_1_c_eq ▸ (show rest_1_c.before _ s = true from hrest))
  obtain ⟨cs, ecs⟩ := is_v (Cond.before_iff.mp (hsets _ (List.mem_of_getElem? (i := 1) rfl)))
  have ncs := not_v (Cond.before_iff.mp (hsets _ (List.mem_of_getElem? (i := 2) rfl)))
  have hcs : ¬ (cs = (0 : Int32)) := gotF (Cond.eq_ints ecs (Term.int_eval (0))) ncs
  have S1 : Sta s s.heap "java/lang/String" "COMPACT_STRINGS" "Z" (.int cs) := Sta.start ecs (Or.inl (hsets _ (List.mem_of_getElem? (i := 0) rfl)))
  have SS : SSt s cs := ⟨hcs, S1⟩
  have hch : CHv s ELs s.vm s.heap := CHv.start (own_EL hw) (fun p hp => by simp only [ELs, List.mem_singleton] at hp; subst hp; exact hcalls.1 _ (by decide)) (hsets _ (List.mem_of_getElem? (i := 2) rfl)) (w_24 hw) (w_7 hw)
  obtain ⟨n, o, h1, h2, h3, _, L, rfl, ⟨rfl, N⟩, -, hq⟩ := rm0 l s _ hw tables_1 i0 i1 i2  s.heap s.heap.size (Nat.le_refl _) cs SS (Old.start s) p e ha hc hk s m _ below hf ((Spec.applies_iff_loose hf).mp happ).1 ⟨rfl, State.Warmed39.refl s, rfl, hch⟩ trivial
  refine ⟨n, _, h1, h2, h3, hpost _ _ _ _ _ _ ⟨Cond.after_iff.mpr rfl, Cond.after_iff.mpr (eq_i res_at (Term.int_eval (1)) rfl), trivial⟩ ⟨hq.1, hq.2.1, hq.2.2.1, (hq.2.2.2.sift fun y hy => Or.inr (N y hy)).mono (by decide) (by decide)⟩⟩
theorem main_1_1 : Claimed_1_1 := comes_1 fun _ _ _ _ _ _ h hF => ⟨h.1, hF⟩
theorem main_1_2 : Claimed_1_2 := comes_1 fun _ _ _ _ _ _ h hF => ⟨h.2.1, hF⟩
end Jvm.Pilot.@@N@@
namespace Jvm.Pilot.@@N@@
open Jvm Jvm.ClassFile Sem Op Lib Jvm.Free Jvm.Stand Jvm.Pilot.@@N@@.Jvm.D
/-! MADE BY PROGRAM (witnessworld.py) out of the Statement's table words and the real class files: 22 classes; the members and pool entries that the words name. The judged class is class 1, her method 3. -/
namespace start1
open Jvm.ClassFile
def u (s : String) : CpInfo := .utf8 (stringToUtf16 s)
/-- a pool by its gaps: so many unusable entries, then the entry; so many at the end -/
def gap : Nat → List CpInfo → List CpInfo
  | 0, r => r
  | n + 1, r => .unusable :: gap n r
def poolList (es : List (Nat × CpInfo)) (last : Nat) : List CpInfo := es.foldr (fun e r => gap e.1 (e.2 :: r)) (gap last [])
def pool (es : List (Nat × CpInfo)) (last : Nat) : Array CpInfo := ⟨poolList es last⟩
def fileOf (pool : Array CpInfo) (this : Nat) (attrs : Array Attribute := #[]) (ms : Array MethodInfo := #[]) (fl : Nat := 33) (sup : Nat := 0) (ifs : Array Nat := #[]) (fds : Array FieldInfo := #[]) : ClassFile where
  minorVersion := 0
  majorVersion := 65
  constantPool := pool
  accessFlags := fl
  thisClass := this
  superClass := sup
  interfaces := ifs
  fields := fds
  methods := ms
  attributes := attrs
def plain (name : String) (sup : Option ClassId) : Class where
  name := name
  kind := .ordinary
  loader := none
  accessFlags := 33
  super := sup
  interfaces := #[]
  cf := none
  fields := #[]
  methods := #[]
  instanceTypes := #[]
  staticTypes := #[]
  resolved := #[]
  callSites := []
  init := .initialized
  statics := none
  mirror := none

def pool0 : Array CpInfo := pool [(5, u "<init>"), (0, u "()V"), (1, .class_ 10), (1, u "java/lang/Object")] 113

def k0c0 : Code := { maxStack := 0, maxLocals := 1, code := object_method_1_code, exceptionTable := #[], attributes := #[] }
def k0m0 : Method := { name := "<init>", desc := "()V", sig := { parameters := [], returnType := none }, accessFlags := 1, code := some k0c0 }
/-- java/lang/Object -/
def k0 : Class := { plain "java/lang/Object" none with
  accessFlags := 33
  interfaces := #[]
  cf := some (fileOf pool0 8 #[] #[{ accessFlags := 1, nameIndex := 5, descriptorIndex := 6, attributes := #[] }] 33 0 #[] #[])
  fields := #[]
  methods := #[k0m0]
  instanceTypes := #[]
  staticTypes := #[]
  resolved := Array.replicate 124 none
  statics := none }

def pool1 : Array CpInfo := pool [(2, .class_ 4), (1, u "java/lang/Object"), (0, u "<init>"), (0, u "()V"), (0, .class_ 8), (0, u "java/lang/String"), (0, .methodref 7 10), (0, .nameAndType 5 11), (0, u "([C)V"), (0, .integer 65535), (0, .methodref 14 15), (0, .class_ 16), (0, .nameAndType 17 18), (0, u "com/example/phaseline/phaseline/game/SideEqualsPinLaw"), (0, u "mk"), (0, u "(II)Ljava/lang/String;"), (0, .class_ 20), (0, u "com/example/phaseline/phaseline/game/Side"), (0, .methodref 19 22), (0, .nameAndType 5 23), (0, u "(Ljava/lang/String;Ljava/lang/String;)V"), (0, .methodref 19 25), (0, .nameAndType 26 27), (0, u "equals"), (0, u "(Ljava/lang/Object;)Z"), (0, .methodref 14 29), (0, .nameAndType 30 31), (0, u "same"), (0, u "(IIII)Z"), (3, u "law"), (0, u "(III)Z")] 2

def k1m0 : Method := { name := "<init>", desc := "()V", sig := { parameters := [], returnType := none }, accessFlags := 1, code := none }
def k1c1 : Code := { maxStack := 4, maxLocals := 3, code := method_2_code, exceptionTable := #[], attributes := #[] }
def k1m1 : Method := { name := "mk", desc := "(II)Ljava/lang/String;", sig := { parameters := [.int, .int], returnType := some (.object "java/lang/String") }, accessFlags := 10, code := some k1c1 }
def k1c2 : Code := { maxStack := 3, maxLocals := 4, code := method_3_code, exceptionTable := #[], attributes := #[] }
def k1m2 : Method := { name := "same", desc := "(IIII)Z", sig := { parameters := [.int, .int, .int, .int], returnType := some .boolean }, accessFlags := 10, code := some k1c2 }
def k1c3 : Code := { maxStack := 4, maxLocals := 19, code := code, exceptionTable := #[], attributes := #[] }
def k1m3 : Method := { name := "law", desc := "(III)Z", sig := { parameters := [.int, .int, .int], returnType := some .boolean }, accessFlags := 9, code := some k1c3 }
/-- com/example/phaseline/phaseline/game/SideEqualsPinLaw -/
def k1 : Class := { plain "com/example/phaseline/phaseline/game/SideEqualsPinLaw" (some 0) with
  accessFlags := 49
  interfaces := #[]
  cf := some (fileOf pool1 14 #[] #[{ accessFlags := 1, nameIndex := 5, descriptorIndex := 6, attributes := #[] }, { accessFlags := 10, nameIndex := 17, descriptorIndex := 18, attributes := #[] }, { accessFlags := 10, nameIndex := 30, descriptorIndex := 31, attributes := #[] }, { accessFlags := 9, nameIndex := 35, descriptorIndex := 36, attributes := #[] }] 49 2 #[] #[])
  fields := #[]
  methods := #[k1m0, k1m1, k1m2, k1m3]
  instanceTypes := #[]
  staticTypes := #[]
  resolved := Array.replicate 39 none
  statics := none }

def pool2 : Array CpInfo := pool [(1, .class_ 2), (0, u "java/io/Serializable"), (0, .class_ 4), (0, u "java/lang/Object")] 2

/-- java/io/Serializable -/
def k2 : Class := { plain "java/io/Serializable" (some 0) with
  accessFlags := 1537
  interfaces := #[]
  cf := some (fileOf pool2 1 #[] #[] 1537 3 #[] #[])
  fields := #[]
  methods := #[]
  instanceTypes := #[]
  staticTypes := #[]
  resolved := Array.replicate 7 none
  statics := none }

def pool3 : Array CpInfo := pool [(1, .class_ 2), (0, u "java/lang/Comparable"), (0, .class_ 4), (0, u "java/lang/Object")] 7

/-- java/lang/Comparable -/
def k3 : Class := { plain "java/lang/Comparable" (some 0) with
  accessFlags := 1537
  interfaces := #[]
  cf := some (fileOf pool3 1 #[] #[] 1537 3 #[] #[])
  fields := #[]
  methods := #[]
  instanceTypes := #[]
  staticTypes := #[]
  resolved := Array.replicate 12 none
  statics := none }

def pool4 : Array CpInfo := pool [(2, .class_ 4), (1, u "java/lang/CharSequence"), (42, .class_ 48), (0, u "java/lang/CharSequence$1CodePointIterator"), (10, .class_ 60), (0, u "java/lang/CharSequence$1CharIterator"), (5, .class_ 67), (0, u "java/lang/Object")] 63

/-- java/lang/CharSequence -/
def k4 : Class := { plain "java/lang/CharSequence" (some 0) with
  accessFlags := 1537
  interfaces := #[]
  cf := some (fileOf pool4 2 #[.nestMembers #[47, 59]] #[] 1537 66 #[] #[])
  fields := #[]
  methods := #[]
  instanceTypes := #[]
  staticTypes := #[]
  resolved := Array.replicate 131 none
  statics := none }

def pool5 : Array CpInfo := pool [(1, .class_ 2), (0, u "java/lang/constant/Constable"), (0, .class_ 4), (0, u "java/lang/Object")] 6

/-- java/lang/constant/Constable -/
def k5 : Class := { plain "java/lang/constant/Constable" (some 0) with
  accessFlags := 1537
  interfaces := #[]
  cf := some (fileOf pool5 1 #[] #[] 1537 3 #[] #[])
  fields := #[]
  methods := #[]
  instanceTypes := #[]
  staticTypes := #[]
  resolved := Array.replicate 11 none
  statics := none }

def pool6 : Array CpInfo := pool [(1, .class_ 2), (0, u "java/lang/constant/ConstantDesc"), (0, .class_ 4), (0, u "java/lang/Object")] 32

/-- java/lang/constant/ConstantDesc -/
def k6 : Class := { plain "java/lang/constant/ConstantDesc" (some 0) with
  accessFlags := 1537
  interfaces := #[]
  cf := some (fileOf pool6 1 #[] #[] 1537 3 #[] #[])
  fields := #[]
  methods := #[]
  instanceTypes := #[]
  staticTypes := #[]
  resolved := Array.replicate 37 none
  statics := none }

def pool7 : Array CpInfo := pool [(1, .methodref 2 3), (0, .class_ 4), (0, .nameAndType 5 6), (0, u "java/lang/Object"), (0, u "<init>"), (0, u "()V"), (0, .string 8), (0, u ""), (0, .fieldref 10 11), (0, .class_ 12), (0, .nameAndType 13 14), (0, u "java/lang/String"), (0, u "value"), (0, u "[B"), (0, .fieldref 10 16), (0, .nameAndType 17 18), (0, u "coder"), (0, u "B"), (2, u "hash"), (0, u "I"), (2, u "hashIsZero"), (0, u "Z"), (0, .methodref 10 28), (0, .nameAndType 5 29), (0, u "([CIILjava/lang/Void;)V"), (8, .fieldref 10 39), (0, .nameAndType 40 26), (0, u "COMPACT_STRINGS"), (1, .class_ 44), (1, u "java/lang/StringUTF16"), (0, u "compress"), (1, .methodref 42 48), (0, .nameAndType 49 50), (0, u "coderFromArrayLen"), (0, u "([BI)B"), (56, .class_ 109), (1, u "java/lang/StringLatin1"), (67, .methodref 42 178), (0, .nameAndType 45 179), (0, u "([CII)[B"), (361, .methodref 107 542), (0, .nameAndType 543 544), (0, u "equals"), (0, u "([B[B)Z"), (28, u "(Ljava/lang/Object;)Z"), (1, .class_ 576), (0, u "java/lang/CharSequence"), (22, u "CASE_INSENSITIVE_ORDER"), (0, u "Ljava/util/Comparator;"), (409, u "([C)V"), (90, u "serialPersistentFields"), (0, u "[Ljava/io/ObjectStreamField;"), (0, .class_ 1104), (0, u "java/lang/String$CaseInsensitiveComparator"), (1, .class_ 1107), (0, u "java/io/Serializable"), (0, .class_ 1109), (0, u "java/lang/Comparable"), (0, .class_ 1111), (0, u "java/lang/constant/Constable"), (0, .class_ 1113), (0, u "java/lang/constant/ConstantDesc"), (2, u "serialVersionUID"), (0, u "J"), (3, u "REPL"), (0, u "C"), (2, u "LATIN1"), (1, u "UTF16")] 323

def k7m0 : Method := { name := "<init>", desc := "()V", sig := { parameters := [], returnType := none }, accessFlags := 1, code := none }
def k7c1 : Code := { maxStack := 5, maxLocals := 2, code := jdk_42_method_3_code, exceptionTable := #[], attributes := #[] }
def k7m1 : Method := { name := "<init>", desc := "([C)V", sig := { parameters := [(.array .char)], returnType := none }, accessFlags := 1, code := some k7c1 }
def k7c2 : Code := { maxStack := 2, maxLocals := 3, code := jdk_42_method_66_code, exceptionTable := #[], attributes := #[] }
def k7m2 : Method := { name := "equals", desc := "(Ljava/lang/Object;)Z", sig := { parameters := [(.object "java/lang/Object")], returnType := some .boolean }, accessFlags := 1, code := some k7c2 }
def k7c3 : Code := { maxStack := 4, maxLocals := 6, code := jdk_42_method_149_code, exceptionTable := #[], attributes := #[] }
def k7m3 : Method := { name := "<init>", desc := "([CIILjava/lang/Void;)V", sig := { parameters := [(.array .char), .int, .int, (.object "java/lang/Void")], returnType := none }, accessFlags := 2, code := some k7c3 }
/-- java/lang/String -/
def k7 : Class := { plain "java/lang/String" (some 0) with
  accessFlags := 49
  interfaces := #[2, 3, 4, 5, 6]
  cf := some (fileOf pool7 10 #[.nestMembers #[1103]] #[{ accessFlags := 1, nameIndex := 5, descriptorIndex := 6, attributes := #[] }, { accessFlags := 1, nameIndex := 5, descriptorIndex := 1010, attributes := #[] }, { accessFlags := 1, nameIndex := 543, descriptorIndex := 573, attributes := #[] }, { accessFlags := 2, nameIndex := 5, descriptorIndex := 29, attributes := #[] }] 49 2 #[1106, 1108, 575, 1110, 1112] #[{ accessFlags := 18, nameIndex := 13, descriptorIndex := 14, attributes := #[] }, { accessFlags := 18, nameIndex := 17, descriptorIndex := 18, attributes := #[] }, { accessFlags := 2, nameIndex := 21, descriptorIndex := 22, attributes := #[] }, { accessFlags := 2, nameIndex := 25, descriptorIndex := 26, attributes := #[] }, { accessFlags := 26, nameIndex := 1116, descriptorIndex := 1117, attributes := #[] }, { accessFlags := 24, nameIndex := 40, descriptorIndex := 26, attributes := #[] }, { accessFlags := 26, nameIndex := 1101, descriptorIndex := 1102, attributes := #[] }, { accessFlags := 26, nameIndex := 1121, descriptorIndex := 1122, attributes := #[] }, { accessFlags := 25, nameIndex := 599, descriptorIndex := 600, attributes := #[] }, { accessFlags := 24, nameIndex := 1125, descriptorIndex := 18, attributes := #[] }, { accessFlags := 24, nameIndex := 1127, descriptorIndex := 18, attributes := #[] }])
  fields := #[{ name := "value", type := (.array .byte), accessFlags := 18, slot := 0, constantValue := 0 }, { name := "coder", type := .byte, accessFlags := 18, slot := 1, constantValue := 0 }, { name := "hash", type := .int, accessFlags := 2, slot := 2, constantValue := 0 }, { name := "hashIsZero", type := .boolean, accessFlags := 2, slot := 3, constantValue := 0 }, { name := "serialVersionUID", type := .long, accessFlags := 26, slot := 0, constantValue := 0 }, { name := "COMPACT_STRINGS", type := .boolean, accessFlags := 24, slot := 1, constantValue := 0 }, { name := "serialPersistentFields", type := (.array (.object "java/io/ObjectStreamField")), accessFlags := 26, slot := 2, constantValue := 0 }, { name := "REPL", type := .char, accessFlags := 26, slot := 3, constantValue := 0 }, { name := "CASE_INSENSITIVE_ORDER", type := (.object "java/util/Comparator"), accessFlags := 25, slot := 4, constantValue := 0 }, { name := "LATIN1", type := .byte, accessFlags := 24, slot := 5, constantValue := 0 }, { name := "UTF16", type := .byte, accessFlags := 24, slot := 6, constantValue := 0 }]
  methods := #[k7m0, k7m1, k7m2, k7m3]
  instanceTypes := #[(.array .byte), .byte, .int, .boolean]
  staticTypes := #[.long, .boolean, (.array (.object "java/io/ObjectStreamField")), .char, (.object "java/util/Comparator"), .byte, .byte]
  resolved := Array.replicate 1451 none
  statics := some 0 }

def pool8 : Array CpInfo := pool [(6, .class_ 8), (1, u "java/lang/Object"), (0, u "<init>"), (0, u "()V"), (1, .class_ 14), (1, u "java/lang/StringUTF16"), (31, u "$assertionsDisabled"), (0, u "Z"), (13, u "HI_BYTE_SHIFT"), (0, u "I"), (2, u "LO_BYTE_SHIFT"), (49, .methodref 12 116), (0, .nameAndType 117 118), (0, u "compress"), (0, u "([CI[BII)I"), (3, u "([CII)[B"), (138, u "coderFromArrayLen"), (0, u "([BI)B"), (106, .class_ 371), (1, u "java/lang/StringUTF16$LinesSpliterator"), (58, u "MAX_LENGTH"), (196, .class_ 628), (0, u "java/lang/StringUTF16$CodePointsSpliterator"), (0, .class_ 630), (0, u "java/lang/StringUTF16$CharsSpliterator")] 4

def k8m0 : Method := { name := "<init>", desc := "()V", sig := { parameters := [], returnType := none }, accessFlags := 0, code := none }
def k8c1 : Code := { maxStack := 2, maxLocals := 2, code := jdk_52_method_15_code, exceptionTable := #[], attributes := #[] }
def k8m1 : Method := { name := "coderFromArrayLen", desc := "([BI)B", sig := { parameters := [(.array .byte), .int], returnType := some .byte }, accessFlags := 8, code := some k8c1 }
def k8c2 : Code := { maxStack := 5, maxLocals := 6, code := jdk_52_method_16_code, exceptionTable := #[], attributes := #[] }
def k8m2 : Method := { name := "compress", desc := "([CII)[B", sig := { parameters := [(.array .char), .int, .int], returnType := some (.array .byte) }, accessFlags := 9, code := some k8c2 }
def k8c3 : Code := { maxStack := 3, maxLocals := 7, code := jdk_52_method_21_code, exceptionTable := #[], attributes := #[] }
def k8m3 : Method := { name := "compress", desc := "([CI[BII)I", sig := { parameters := [(.array .char), .int, (.array .byte), .int, .int], returnType := some .int }, accessFlags := 9, code := some k8c3 }
/-- java/lang/StringUTF16 -/
def k8 : Class := { plain "java/lang/StringUTF16" (some 0) with
  accessFlags := 48
  interfaces := #[]
  cf := some (fileOf pool8 12 #[.nestMembers #[627, 629, 369]] #[{ accessFlags := 0, nameIndex := 9, descriptorIndex := 10, attributes := #[] }, { accessFlags := 8, nameIndex := 261, descriptorIndex := 262, attributes := #[] }, { accessFlags := 9, nameIndex := 117, descriptorIndex := 122, attributes := #[] }, { accessFlags := 9, nameIndex := 117, descriptorIndex := 118, attributes := #[] }] 48 6 #[] #[{ accessFlags := 26, nameIndex := 61, descriptorIndex := 62, attributes := #[] }, { accessFlags := 26, nameIndex := 65, descriptorIndex := 62, attributes := #[] }, { accessFlags := 24, nameIndex := 430, descriptorIndex := 62, attributes := #[] }, { accessFlags := 4120, nameIndex := 46, descriptorIndex := 47, attributes := #[] }])
  fields := #[{ name := "HI_BYTE_SHIFT", type := .int, accessFlags := 26, slot := 0, constantValue := 0 }, { name := "LO_BYTE_SHIFT", type := .int, accessFlags := 26, slot := 1, constantValue := 0 }, { name := "MAX_LENGTH", type := .int, accessFlags := 24, slot := 2, constantValue := 0 }, { name := "$assertionsDisabled", type := .boolean, accessFlags := 4120, slot := 3, constantValue := 0 }]
  methods := #[k8m0, k8m1, k8m2, k8m3]
  instanceTypes := #[]
  staticTypes := #[.int, .int, .int, .boolean]
  resolved := Array.replicate 635 none
  statics := none }

def pool9 : Array CpInfo := pool [(1, .methodref 2 3), (0, .class_ 4), (0, .nameAndType 5 6), (0, u "java/lang/Object"), (0, u "<init>"), (0, u "()V"), (0, .class_ 8), (0, u "java/lang/Record")] 13

def k9c0 : Code := { maxStack := 1, maxLocals := 1, code := jdk_30_method_1_code, exceptionTable := #[], attributes := #[] }
def k9m0 : Method := { name := "<init>", desc := "()V", sig := { parameters := [], returnType := none }, accessFlags := 4, code := some k9c0 }
/-- java/lang/Record -/
def k9 : Class := { plain "java/lang/Record" (some 0) with
  accessFlags := 1057
  interfaces := #[]
  cf := some (fileOf pool9 7 #[] #[{ accessFlags := 4, nameIndex := 5, descriptorIndex := 6, attributes := #[] }] 1057 2 #[] #[])
  fields := #[]
  methods := #[k9m0]
  instanceTypes := #[]
  staticTypes := #[]
  resolved := Array.replicate 22 none
  statics := none }

def pool10 : Array CpInfo := pool [(1, .methodref 2 3), (0, .class_ 4), (0, .nameAndType 5 6), (0, u "java/lang/Record"), (0, u "<init>"), (0, u "()V"), (0, .string 8), (0, u "id"), (0, .methodref 10 11), (0, .class_ 12), (0, .nameAndType 13 14), (0, u "java/util/Objects"), (0, u "requireNonNull"), (0, u "(Ljava/lang/Object;Ljava/lang/String;)Ljava/lang/Object;"), (0, .string 16), (0, u "name"), (0, .fieldref 18 19), (0, .class_ 20), (0, .nameAndType 8 21), (0, u "com/example/phaseline/phaseline/game/Side"), (0, u "Ljava/lang/String;"), (0, .fieldref 18 23), (0, .nameAndType 16 21), (0, .methodref 25 26), (0, .class_ 27), (0, .nameAndType 28 29), (0, u "java/lang/String"), (0, u "equals"), (0, u "(Ljava/lang/Object;)Z"), (8, u "(Ljava/lang/String;Ljava/lang/String;)V")] 26

def k10c0 : Code := { maxStack := 2, maxLocals := 3, code := prog_21_method_1_code, exceptionTable := #[], attributes := #[] }
def k10m0 : Method := { name := "<init>", desc := "(Ljava/lang/String;Ljava/lang/String;)V", sig := { parameters := [(.object "java/lang/String"), (.object "java/lang/String")], returnType := none }, accessFlags := 1, code := some k10c0 }
def k10c1 : Code := { maxStack := 2, maxLocals := 3, code := prog_21_method_2_code, exceptionTable := #[], attributes := #[] }
def k10m1 : Method := { name := "equals", desc := "(Ljava/lang/Object;)Z", sig := { parameters := [(.object "java/lang/Object")], returnType := some .boolean }, accessFlags := 1, code := some k10c1 }
/-- com/example/phaseline/phaseline/game/Side -/
def k10 : Class := { plain "com/example/phaseline/phaseline/game/Side" (some 9) with
  accessFlags := 49
  interfaces := #[]
  cf := some (fileOf pool10 18 #[] #[{ accessFlags := 1, nameIndex := 5, descriptorIndex := 38, attributes := #[] }, { accessFlags := 1, nameIndex := 28, descriptorIndex := 29, attributes := #[] }] 49 2 #[] #[{ accessFlags := 18, nameIndex := 8, descriptorIndex := 21, attributes := #[] }, { accessFlags := 18, nameIndex := 16, descriptorIndex := 21, attributes := #[] }])
  fields := #[{ name := "id", type := (.object "java/lang/String"), accessFlags := 18, slot := 0, constantValue := 0 }, { name := "name", type := (.object "java/lang/String"), accessFlags := 18, slot := 1, constantValue := 0 }]
  methods := #[k10m0, k10m1]
  instanceTypes := #[(.object "java/lang/String"), (.object "java/lang/String")]
  staticTypes := #[]
  resolved := Array.replicate 65 none
  statics := none }

def pool11 : Array CpInfo := pool [(2, .class_ 4), (1, u "java/lang/Object"), (0, u "<init>"), (0, u "()V"), (35, .class_ 44), (1, u "java/util/Objects"), (0, u "requireNonNull"), (48, u "(Ljava/lang/Object;Ljava/lang/String;)Ljava/lang/Object;")] 89

def k11m0 : Method := { name := "<init>", desc := "()V", sig := { parameters := [], returnType := none }, accessFlags := 2, code := none }
def k11c1 : Code := { maxStack := 3, maxLocals := 2, code := jdk_31_method_11_code, exceptionTable := #[], attributes := #[] }
def k11m1 : Method := { name := "requireNonNull", desc := "(Ljava/lang/Object;Ljava/lang/String;)Ljava/lang/Object;", sig := { parameters := [(.object "java/lang/Object"), (.object "java/lang/String")], returnType := some (.object "java/lang/Object") }, accessFlags := 9, code := some k11c1 }
/-- java/util/Objects -/
def k11 : Class := { plain "java/util/Objects" (some 0) with
  accessFlags := 49
  interfaces := #[]
  cf := some (fileOf pool11 42 #[] #[{ accessFlags := 2, nameIndex := 5, descriptorIndex := 6, attributes := #[] }, { accessFlags := 9, nameIndex := 45, descriptorIndex := 94, attributes := #[] }] 49 2 #[] #[])
  fields := #[]
  methods := #[k11m0, k11m1]
  instanceTypes := #[]
  staticTypes := #[]
  resolved := Array.replicate 184 none
  statics := none }

def pool12 : Array CpInfo := pool [(4, .class_ 6), (1, u "java/lang/Object"), (0, u "<init>"), (0, u "()V"), (5, .class_ 16), (1, u "java/lang/StringLatin1"), (104, u "$assertionsDisabled"), (0, u "Z"), (98, .class_ 223), (1, u "java/lang/StringLatin1$LinesSpliterator"), (57, u "equals"), (0, u "([B[B)Z"), (107, .class_ 391), (0, u "java/lang/StringLatin1$CharsSpliterator")] 3

def k12m0 : Method := { name := "<init>", desc := "()V", sig := { parameters := [], returnType := none }, accessFlags := 0, code := none }
def k12c1 : Code := { maxStack := 3, maxLocals := 3, code := jdk_43_method_13_code, exceptionTable := #[], attributes := #[] }
def k12m1 : Method := { name := "equals", desc := "([B[B)Z", sig := { parameters := [(.array .byte), (.array .byte)], returnType := some .boolean }, accessFlags := 9, code := some k12c1 }
/-- java/lang/StringLatin1 -/
def k12 : Class := { plain "java/lang/StringLatin1" (some 0) with
  accessFlags := 48
  interfaces := #[]
  cf := some (fileOf pool12 14 #[.nestMembers #[390, 221]] #[{ accessFlags := 0, nameIndex := 7, descriptorIndex := 8, attributes := #[] }, { accessFlags := 9, nameIndex := 281, descriptorIndex := 282, attributes := #[] }] 48 4 #[] #[{ accessFlags := 4120, nameIndex := 121, descriptorIndex := 122, attributes := #[] }])
  fields := #[{ name := "$assertionsDisabled", type := .boolean, accessFlags := 4120, slot := 0, constantValue := 0 }]
  methods := #[k12m0, k12m1]
  instanceTypes := #[]
  staticTypes := #[.boolean]
  resolved := Array.replicate 395 none
  statics := none }

def pool13 : Array CpInfo := pool [(2, .class_ 4), (1, u "java/lang/Object"), (0, u "<init>"), (0, u "()V"), (17, .class_ 26), (1, u "jdk/internal/util/Preconditions"), (28, .class_ 56), (0, u "jdk/internal/util/Preconditions$4"), (57, .class_ 115), (0, u "jdk/internal/util/Preconditions$1"), (7, u "SIOOBE_FORMATTER"), (0, u "Ljava/util/function/BiFunction;"), (0, .class_ 126), (0, u "jdk/internal/util/Preconditions$2"), (3, u "AIOOBE_FORMATTER"), (0, .class_ 132), (0, u "jdk/internal/util/Preconditions$3"), (3, u "IOOBE_FORMATTER")] 57

def k13m0 : Method := { name := "<init>", desc := "()V", sig := { parameters := [], returnType := none }, accessFlags := 1, code := none }
/-- jdk/internal/util/Preconditions -/
def k13 : Class := { plain "jdk/internal/util/Preconditions" (some 0) with
  accessFlags := 33
  interfaces := #[]
  cf := some (fileOf pool13 24 #[.nestMembers #[55, 131, 125, 114]] #[{ accessFlags := 1, nameIndex := 5, descriptorIndex := 6, attributes := #[] }] 33 2 #[] #[{ accessFlags := 25, nameIndex := 123, descriptorIndex := 124, attributes := #[] }, { accessFlags := 25, nameIndex := 130, descriptorIndex := 124, attributes := #[] }, { accessFlags := 25, nameIndex := 136, descriptorIndex := 124, attributes := #[] }])
  fields := #[{ name := "SIOOBE_FORMATTER", type := (.object "java/util/function/BiFunction"), accessFlags := 25, slot := 0, constantValue := 0 }, { name := "AIOOBE_FORMATTER", type := (.object "java/util/function/BiFunction"), accessFlags := 25, slot := 1, constantValue := 0 }, { name := "IOOBE_FORMATTER", type := (.object "java/util/function/BiFunction"), accessFlags := 25, slot := 2, constantValue := 0 }]
  methods := #[k13m0]
  instanceTypes := #[]
  staticTypes := #[(.object "java/util/function/BiFunction"), (.object "java/util/function/BiFunction"), (.object "java/util/function/BiFunction")]
  resolved := Array.replicate 194 none
  statics := some 1 }

def pool14 : Array CpInfo := pool [(9, u "<init>"), (6, .class_ 18), (1, u "java/lang/Object"), (0, u "()V"), (1, .class_ 23), (1, u "jdk/internal/util/ArraysSupport"), (0, u "LOG2_ARRAY_LONG_INDEX_SCALE"), (0, u "I"), (2, u "U"), (0, u "Ljdk/internal/misc/Unsafe;"), (8, u "BIG_ENDIAN"), (0, u "Z"), (8, u "LOG2_BYTE_BIT_SIZE"), (4, u "LOG2_ARRAY_INT_INDEX_SCALE"), (54, u "JLA"), (0, u "Ljdk/internal/access/JavaLangAccess;"), (11, u "LOG2_ARRAY_BOOLEAN_INDEX_SCALE"), (9, u "LOG2_ARRAY_BYTE_INDEX_SCALE"), (5, u "LOG2_ARRAY_CHAR_INDEX_SCALE"), (5, u "LOG2_ARRAY_SHORT_INDEX_SCALE"), (18, u "LOG2_ARRAY_FLOAT_INDEX_SCALE"), (24, u "LOG2_ARRAY_DOUBLE_INDEX_SCALE"), (89, u "T_BOOLEAN"), (2, u "T_CHAR"), (1, u "T_FLOAT"), (1, u "T_DOUBLE"), (1, u "T_BYTE"), (1, u "T_SHORT"), (1, u "T_INT"), (1, u "T_LONG"), (1, u "SOFT_MAX_ARRAY_LENGTH")] 83

def k14m0 : Method := { name := "<init>", desc := "()V", sig := { parameters := [], returnType := none }, accessFlags := 2, code := none }
/-- jdk/internal/util/ArraysSupport -/
def k14 : Class := { plain "jdk/internal/util/ArraysSupport" (some 0) with
  accessFlags := 33
  interfaces := #[]
  cf := some (fileOf pool14 21 #[] #[{ accessFlags := 2, nameIndex := 9, descriptorIndex := 19, attributes := #[] }] 33 16 #[] #[{ accessFlags := 24, nameIndex := 28, descriptorIndex := 29, attributes := #[] }, { accessFlags := 26, nameIndex := 38, descriptorIndex := 39, attributes := #[] }, { accessFlags := 25, nameIndex := 121, descriptorIndex := 25, attributes := #[] }, { accessFlags := 25, nameIndex := 131, descriptorIndex := 25, attributes := #[] }, { accessFlags := 25, nameIndex := 137, descriptorIndex := 25, attributes := #[] }, { accessFlags := 25, nameIndex := 143, descriptorIndex := 25, attributes := #[] }, { accessFlags := 25, nameIndex := 53, descriptorIndex := 25, attributes := #[] }, { accessFlags := 25, nameIndex := 24, descriptorIndex := 25, attributes := #[] }, { accessFlags := 25, nameIndex := 162, descriptorIndex := 25, attributes := #[] }, { accessFlags := 25, nameIndex := 187, descriptorIndex := 25, attributes := #[] }, { accessFlags := 26, nameIndex := 48, descriptorIndex := 25, attributes := #[] }, { accessFlags := 25, nameIndex := 277, descriptorIndex := 25, attributes := #[] }, { accessFlags := 25, nameIndex := 280, descriptorIndex := 25, attributes := #[] }, { accessFlags := 25, nameIndex := 282, descriptorIndex := 25, attributes := #[] }, { accessFlags := 25, nameIndex := 284, descriptorIndex := 25, attributes := #[] }, { accessFlags := 25, nameIndex := 286, descriptorIndex := 25, attributes := #[] }, { accessFlags := 25, nameIndex := 288, descriptorIndex := 25, attributes := #[] }, { accessFlags := 25, nameIndex := 290, descriptorIndex := 25, attributes := #[] }, { accessFlags := 25, nameIndex := 292, descriptorIndex := 25, attributes := #[] }, { accessFlags := 26, nameIndex := 108, descriptorIndex := 109, attributes := #[] }, { accessFlags := 25, nameIndex := 294, descriptorIndex := 25, attributes := #[] }])
  fields := #[{ name := "U", type := (.object "jdk/internal/misc/Unsafe"), accessFlags := 24, slot := 0, constantValue := 0 }, { name := "BIG_ENDIAN", type := .boolean, accessFlags := 26, slot := 1, constantValue := 0 }, { name := "LOG2_ARRAY_BOOLEAN_INDEX_SCALE", type := .int, accessFlags := 25, slot := 2, constantValue := 0 }, { name := "LOG2_ARRAY_BYTE_INDEX_SCALE", type := .int, accessFlags := 25, slot := 3, constantValue := 0 }, { name := "LOG2_ARRAY_CHAR_INDEX_SCALE", type := .int, accessFlags := 25, slot := 4, constantValue := 0 }, { name := "LOG2_ARRAY_SHORT_INDEX_SCALE", type := .int, accessFlags := 25, slot := 5, constantValue := 0 }, { name := "LOG2_ARRAY_INT_INDEX_SCALE", type := .int, accessFlags := 25, slot := 6, constantValue := 0 }, { name := "LOG2_ARRAY_LONG_INDEX_SCALE", type := .int, accessFlags := 25, slot := 7, constantValue := 0 }, { name := "LOG2_ARRAY_FLOAT_INDEX_SCALE", type := .int, accessFlags := 25, slot := 8, constantValue := 0 }, { name := "LOG2_ARRAY_DOUBLE_INDEX_SCALE", type := .int, accessFlags := 25, slot := 9, constantValue := 0 }, { name := "LOG2_BYTE_BIT_SIZE", type := .int, accessFlags := 26, slot := 10, constantValue := 0 }, { name := "T_BOOLEAN", type := .int, accessFlags := 25, slot := 11, constantValue := 0 }, { name := "T_CHAR", type := .int, accessFlags := 25, slot := 12, constantValue := 0 }, { name := "T_FLOAT", type := .int, accessFlags := 25, slot := 13, constantValue := 0 }, { name := "T_DOUBLE", type := .int, accessFlags := 25, slot := 14, constantValue := 0 }, { name := "T_BYTE", type := .int, accessFlags := 25, slot := 15, constantValue := 0 }, { name := "T_SHORT", type := .int, accessFlags := 25, slot := 16, constantValue := 0 }, { name := "T_INT", type := .int, accessFlags := 25, slot := 17, constantValue := 0 }, { name := "T_LONG", type := .int, accessFlags := 25, slot := 18, constantValue := 0 }, { name := "JLA", type := (.object "jdk/internal/access/JavaLangAccess"), accessFlags := 26, slot := 19, constantValue := 0 }, { name := "SOFT_MAX_ARRAY_LENGTH", type := .int, accessFlags := 25, slot := 20, constantValue := 0 }]
  methods := #[k14m0]
  instanceTypes := #[]
  staticTypes := #[(.object "jdk/internal/misc/Unsafe"), .boolean, .int, .int, .int, .int, .int, .int, .int, .int, .int, .int, .int, .int, .int, .int, .int, .int, .int, (.object "jdk/internal/access/JavaLangAccess"), .int]
  resolved := Array.replicate 378 none
  statics := none }

def pool15 : Array CpInfo := pool [(1, u "java/lang/Cloneable"), (0, .class_ 1), (0, u "java/lang/Object"), (0, .class_ 3)] 3

/-- java/lang/Cloneable -/
def k15 : Class := { plain "java/lang/Cloneable" (some 0) with
  accessFlags := 1537
  interfaces := #[]
  cf := some (fileOf pool15 2 #[] #[] 1537 4 #[] #[])
  fields := #[]
  methods := #[]
  instanceTypes := #[]
  staticTypes := #[]
  resolved := Array.replicate 8 none
  statics := none }

/-- the primitive byte -/
def k16 : Class := { plain "byte" none with kind := .primitive 'B', accessFlags := 0x411 }
/-- [B -/
def k17 : Class := { plain "[B" (some 0) with kind := .array 16 .byte, interfaces := #[15, 2], accessFlags := 1041 }

/-- the primitive char -/
def k18 : Class := { plain "char" none with kind := .primitive 'C', accessFlags := 0x411 }
/-- [C -/
def k19 : Class := { plain "[C" (some 0) with kind := .array 18 .char, interfaces := #[15, 2], accessFlags := 1041 }

/-- the primitive int -/
def k20 : Class := { plain "int" none with kind := .primitive 'I', accessFlags := 0x411 }
/-- [I -/
def k21 : Class := { plain "[I" (some 0) with kind := .array 20 .int, interfaces := #[15, 2], accessFlags := 1041 }

def heap : Heap := #[{ cls := 7, slots := #[.long 0, .int 1, .null, .int 0, .null, .int 0, .int 0], vm := .statics 7 },
  { cls := 13, slots := #[.null, .null, .null], vm := .statics 13 }]
def classes : Array Class := #[k0, k1, k2, k3, k4, k5, k6, k7, k8, k9, k10, k11, k12, k13, k14, k15, k16, k17, k18, k19, k20, k21]
def interned : List (Array UInt16 × Addr) := []
def slotsUsed : Nat := 10
def theMethod : MethodId := ⟨1, 3⟩
def args0 : Array Value := #[.int 5, .int 7, .int 9]
def aboutOver (below : List Frame) : State where
  vm := { classes := classes, interned := interned.toArray }
  heap := heap
  slotsUsed := slotsUsed
  threads := #[{ frames := .invoking theMethod args0 :: below }]
def below0 : List Frame := [.native { method := ⟨0, 0⟩, args := #[] }]
def about1 : State := aboutOver below0
def p0 : Program := .bare "" "" ""
def e0 : Env := launch0.env 0 0 0
theorem w_frames : about1.frames = Frame.invoking theMethod args0 :: below0 := rfl
set_option maxRecDepth 65536 in
theorem w_args : argsFit about1.vm theMethod args0 = true := by decide +kernel
set_option maxRecDepth 65536 in
theorem w_heap : heapFits about1 = true := by decide +kernel
set_option maxRecDepth 65536 in
theorem w_runnable : about1.curStatus? = some .runnable := by decide +kernel
set_option maxRecDepth 65536 in
theorem w_alone : about1.alone = true := by decide +kernel
set_option maxRecDepth 65536 in
theorem w_named : about1.methodNamed? x = some theMethod := by decide +kernel
set_option maxRecDepth 65536 in
theorem w_hears : about1.hears theMethod below0 = true := by decide +kernel
set_option maxRecDepth 65536 in
theorem w_ripe : about1.ripe theMethod args0 below0 = true := by decide +kernel
theorem w_running : about1.status = .running := rfl
set_option maxRecDepth 65536 in
theorem w_room : about1.hasRoom e0.platform room_1 = true :=
  launch0.hasRoom_least _ room_1 (by decide +kernel) (by decide +kernel) (by decide +kernel) (by decide +kernel) (by decide +kernel) (by decide +kernel)
theorem allAtoms_all (ts : List Jvm.Cond) (a : Array Jvm.Value) (st : Jvm.State) : (allAtoms ts).before a st = ts.all (fun c => c.before a st) := by
  induction ts with
  | nil => rfl
  | cons c t ih =>
    show (Jvm.Cond.and c (allAtoms t)).before a st = _
    rw [Jvm.Cond.before_and, ih, List.all_cons]
def words1 : List Jvm.Cond := Jvm.Cond.code x code maxLocals ret :: tables_1
/-- a 'code' word, met by the world's own term for the bytes: nothing is compared byte by byte -/
theorem code_word {y : MethodName} {bytes : ByteArray} {mx : Nat} {rt : Option FieldType} {a : Array Value} {s : State} {m : MethodId} {meth : Method} {c : Code} (h1 : s.methodNamed? y = some m) (h2 : s.vm.method? m = some meth) (h3 : meth.code = some c) (h4 : c.code = bytes)
    (h5 : (c.maxLocals == mx && c.exceptionTable.isEmpty && decide (c.maxStack ≤ mostOperands) && decide (meth.sig.returnType = rt) && !meth.locks && decide (parseMethodDescriptor y.desc = some meth.sig)) = true) : (Jvm.Cond.code y bytes mx rt).before a s = true := by
  simp only [Bool.and_eq_true, beq_iff_eq, Bool.not_eq_true', decide_eq_true_eq] at h5
  obtain ⟨⟨⟨⟨⟨g1, g2⟩, g3⟩, g4⟩, g5⟩, g6⟩ := h5
  simp [Cond.before, Cond.holds, Cond.value, h1, h2, h3, h4, g1, g2, g3, g4, g5, g6]
def isCode : Jvm.Cond → Bool
  | .code _ _ _ _ => true
  | _ => false
theorem all_split {L : List Jvm.Cond} {P : Jvm.Cond → Bool} (h1 : L.all (fun c => isCode c || P c) = true) (h2 : ∀ c ∈ L.filter isCode, P c = true) : L.all P = true := by
  refine List.all_eq_true.mpr fun c hc => ?_
  have h := List.all_eq_true.mp h1 c hc
  rcases Bool.eq_false_or_eq_true (isCode c) with hi | hi
  · exact h2 c (List.mem_filter.mpr ⟨hc, hi⟩)
  · simpa [hi] using h
set_option maxRecDepth 65536 in
theorem w_c0 : (Jvm.Cond.code x code maxLocals ret).before args0 about1 = true := code_word (m := ⟨1, 3⟩) (meth := k1m3) (c := k1c3) (by decide +kernel) rfl rfl rfl (by decide +kernel)
set_option maxRecDepth 65536 in
theorem w_c1 : (Jvm.Cond.code ({ cls := "com/example/phaseline/phaseline/game/SideEqualsPinLaw", name := "mk", desc := "(II)Ljava/lang/String;" } : Jvm.MethodName) method_2_code (3 : Nat) (Option.some (Jvm.ClassFile.FieldType.object "java/lang/String"))).before args0 about1 = true := code_word (m := ⟨1, 1⟩) (meth := k1m1) (c := k1c1) (by decide +kernel) rfl rfl rfl (by decide +kernel)
set_option maxRecDepth 65536 in
theorem w_c2 : (Jvm.Cond.code ({ cls := "java/lang/String", name := "<init>", desc := "([C)V" } : Jvm.MethodName) jdk_42_method_3_code (2 : Nat) (Option.none : Option Jvm.ClassFile.FieldType)).before args0 about1 = true := code_word (m := ⟨7, 1⟩) (meth := k7m1) (c := k7c1) (by decide +kernel) rfl rfl rfl (by decide +kernel)
set_option maxRecDepth 65536 in
theorem w_c3 : (Jvm.Cond.code ({ cls := "java/lang/String", name := "<init>", desc := "([CIILjava/lang/Void;)V" } : Jvm.MethodName) jdk_42_method_149_code (6 : Nat) (Option.none : Option Jvm.ClassFile.FieldType)).before args0 about1 = true := code_word (m := ⟨7, 3⟩) (meth := k7m3) (c := k7c3) (by decide +kernel) rfl rfl rfl (by decide +kernel)
set_option maxRecDepth 65536 in
theorem w_c4 : (Jvm.Cond.code ({ cls := "java/lang/Object", name := "<init>", desc := "()V" } : Jvm.MethodName) object_method_1_code (1 : Nat) (Option.none : Option Jvm.ClassFile.FieldType)).before args0 about1 = true := code_word (m := ⟨0, 0⟩) (meth := k0m0) (c := k0c0) (by decide +kernel) rfl rfl rfl (by decide +kernel)
set_option maxRecDepth 65536 in
theorem w_c5 : (Jvm.Cond.code ({ cls := "java/lang/StringUTF16", name := "compress", desc := "([CII)[B" } : Jvm.MethodName) jdk_52_method_16_code (6 : Nat) (Option.some (Jvm.ClassFile.FieldType.array Jvm.ClassFile.FieldType.byte))).before args0 about1 = true := code_word (m := ⟨8, 2⟩) (meth := k8m2) (c := k8c2) (by decide +kernel) rfl rfl rfl (by decide +kernel)
set_option maxRecDepth 65536 in
theorem w_c6 : (Jvm.Cond.code ({ cls := "java/lang/StringUTF16", name := "compress", desc := "([CI[BII)I" } : Jvm.MethodName) jdk_52_method_21_code (7 : Nat) (Option.some Jvm.ClassFile.FieldType.int)).before args0 about1 = true := code_word (m := ⟨8, 3⟩) (meth := k8m3) (c := k8c3) (by decide +kernel) rfl rfl rfl (by decide +kernel)
set_option maxRecDepth 65536 in
theorem w_c7 : (Jvm.Cond.code ({ cls := "java/lang/StringUTF16", name := "coderFromArrayLen", desc := "([BI)B" } : Jvm.MethodName) jdk_52_method_15_code (2 : Nat) (Option.some Jvm.ClassFile.FieldType.byte)).before args0 about1 = true := code_word (m := ⟨8, 1⟩) (meth := k8m1) (c := k8c1) (by decide +kernel) rfl rfl rfl (by decide +kernel)
set_option maxRecDepth 65536 in
theorem w_c8 : (Jvm.Cond.code ({ cls := "com/example/phaseline/phaseline/game/Side", name := "<init>", desc := "(Ljava/lang/String;Ljava/lang/String;)V" } : Jvm.MethodName) prog_21_method_1_code (3 : Nat) (Option.none : Option Jvm.ClassFile.FieldType)).before args0 about1 = true := code_word (m := ⟨10, 0⟩) (meth := k10m0) (c := k10c0) (by decide +kernel) rfl rfl rfl (by decide +kernel)
set_option maxRecDepth 65536 in
theorem w_c9 : (Jvm.Cond.code ({ cls := "java/lang/Record", name := "<init>", desc := "()V" } : Jvm.MethodName) jdk_30_method_1_code (1 : Nat) (Option.none : Option Jvm.ClassFile.FieldType)).before args0 about1 = true := code_word (m := ⟨9, 0⟩) (meth := k9m0) (c := k9c0) (by decide +kernel) rfl rfl rfl (by decide +kernel)
set_option maxRecDepth 65536 in
theorem w_c10 : (Jvm.Cond.code ({ cls := "java/util/Objects", name := "requireNonNull", desc := "(Ljava/lang/Object;Ljava/lang/String;)Ljava/lang/Object;" } : Jvm.MethodName) jdk_31_method_11_code (2 : Nat) (Option.some (Jvm.ClassFile.FieldType.object "java/lang/Object"))).before args0 about1 = true := code_word (m := ⟨11, 1⟩) (meth := k11m1) (c := k11c1) (by decide +kernel) rfl rfl rfl (by decide +kernel)
set_option maxRecDepth 65536 in
theorem w_c11 : (Jvm.Cond.code ({ cls := "com/example/phaseline/phaseline/game/SideEqualsPinLaw", name := "same", desc := "(IIII)Z" } : Jvm.MethodName) method_3_code (4 : Nat) (Option.some Jvm.ClassFile.FieldType.boolean)).before args0 about1 = true := code_word (m := ⟨1, 2⟩) (meth := k1m2) (c := k1c2) (by decide +kernel) rfl rfl rfl (by decide +kernel)
set_option maxRecDepth 65536 in
theorem w_c12 : (Jvm.Cond.code ({ cls := "com/example/phaseline/phaseline/game/Side", name := "equals", desc := "(Ljava/lang/Object;)Z" } : Jvm.MethodName) prog_21_method_2_code (3 : Nat) (Option.some Jvm.ClassFile.FieldType.boolean)).before args0 about1 = true := code_word (m := ⟨10, 1⟩) (meth := k10m1) (c := k10c1) (by decide +kernel) rfl rfl rfl (by decide +kernel)
set_option maxRecDepth 65536 in
theorem w_c13 : (Jvm.Cond.code ({ cls := "java/lang/String", name := "equals", desc := "(Ljava/lang/Object;)Z" } : Jvm.MethodName) jdk_42_method_66_code (3 : Nat) (Option.some Jvm.ClassFile.FieldType.boolean)).before args0 about1 = true := code_word (m := ⟨7, 2⟩) (meth := k7m2) (c := k7c2) (by decide +kernel) rfl rfl rfl (by decide +kernel)
set_option maxRecDepth 65536 in
theorem w_c14 : (Jvm.Cond.code ({ cls := "java/lang/StringLatin1", name := "equals", desc := "([B[B)Z" } : Jvm.MethodName) jdk_43_method_13_code (3 : Nat) (Option.some Jvm.ClassFile.FieldType.boolean)).before args0 about1 = true := code_word (m := ⟨12, 1⟩) (meth := k12m1) (c := k12c1) (by decide +kernel) rfl rfl rfl (by decide +kernel)
def codes1 : List Jvm.Cond := [Jvm.Cond.code x code maxLocals ret, Jvm.Cond.code ({ cls := "com/example/phaseline/phaseline/game/SideEqualsPinLaw", name := "mk", desc := "(II)Ljava/lang/String;" } : Jvm.MethodName) method_2_code (3 : Nat) (Option.some (Jvm.ClassFile.FieldType.object "java/lang/String")), Jvm.Cond.code ({ cls := "java/lang/String", name := "<init>", desc := "([C)V" } : Jvm.MethodName) jdk_42_method_3_code (2 : Nat) (Option.none : Option Jvm.ClassFile.FieldType), Jvm.Cond.code ({ cls := "java/lang/String", name := "<init>", desc := "([CIILjava/lang/Void;)V" } : Jvm.MethodName) jdk_42_method_149_code (6 : Nat) (Option.none : Option Jvm.ClassFile.FieldType), Jvm.Cond.code ({ cls := "java/lang/Object", name := "<init>", desc := "()V" } : Jvm.MethodName) object_method_1_code (1 : Nat) (Option.none : Option Jvm.ClassFile.FieldType), Jvm.Cond.code ({ cls := "java/lang/StringUTF16", name := "compress", desc := "([CII)[B" } : Jvm.MethodName) jdk_52_method_16_code (6 : Nat) (Option.some (Jvm.ClassFile.FieldType.array Jvm.ClassFile.FieldType.byte)), Jvm.Cond.code ({ cls := "java/lang/StringUTF16", name := "compress", desc := "([CI[BII)I" } : Jvm.MethodName) jdk_52_method_21_code (7 : Nat) (Option.some Jvm.ClassFile.FieldType.int), Jvm.Cond.code ({ cls := "java/lang/StringUTF16", name := "coderFromArrayLen", desc := "([BI)B" } : Jvm.MethodName) jdk_52_method_15_code (2 : Nat) (Option.some Jvm.ClassFile.FieldType.byte), Jvm.Cond.code ({ cls := "com/example/phaseline/phaseline/game/Side", name := "<init>", desc := "(Ljava/lang/String;Ljava/lang/String;)V" } : Jvm.MethodName) prog_21_method_1_code (3 : Nat) (Option.none : Option Jvm.ClassFile.FieldType), Jvm.Cond.code ({ cls := "java/lang/Record", name := "<init>", desc := "()V" } : Jvm.MethodName) jdk_30_method_1_code (1 : Nat) (Option.none : Option Jvm.ClassFile.FieldType), Jvm.Cond.code ({ cls := "java/util/Objects", name := "requireNonNull", desc := "(Ljava/lang/Object;Ljava/lang/String;)Ljava/lang/Object;" } : Jvm.MethodName) jdk_31_method_11_code (2 : Nat) (Option.some (Jvm.ClassFile.FieldType.object "java/lang/Object")), Jvm.Cond.code ({ cls := "com/example/phaseline/phaseline/game/SideEqualsPinLaw", name := "same", desc := "(IIII)Z" } : Jvm.MethodName) method_3_code (4 : Nat) (Option.some Jvm.ClassFile.FieldType.boolean), Jvm.Cond.code ({ cls := "com/example/phaseline/phaseline/game/Side", name := "equals", desc := "(Ljava/lang/Object;)Z" } : Jvm.MethodName) prog_21_method_2_code (3 : Nat) (Option.some Jvm.ClassFile.FieldType.boolean), Jvm.Cond.code ({ cls := "java/lang/String", name := "equals", desc := "(Ljava/lang/Object;)Z" } : Jvm.MethodName) jdk_42_method_66_code (3 : Nat) (Option.some Jvm.ClassFile.FieldType.boolean), Jvm.Cond.code ({ cls := "java/lang/StringLatin1", name := "equals", desc := "([B[B)Z" } : Jvm.MethodName) jdk_43_method_13_code (3 : Nat) (Option.some Jvm.ClassFile.FieldType.boolean)]
set_option maxRecDepth 65536 in
theorem codes_eq : words1.filter isCode = codes1 := rfl
theorem w_codes : ∀ c ∈ words1.filter isCode, c.before args0 about1 = true := by
  rw [codes_eq]
  intro c hc
  simp only [codes1, List.mem_cons, List.not_mem_nil, or_false] at hc
  rcases hc with rfl | rfl | rfl | rfl | rfl | rfl | rfl | rfl | rfl | rfl | rfl | rfl | rfl | rfl | rfl
  · exact w_c0
  · exact w_c1
  · exact w_c2
  · exact w_c3
  · exact w_c4
  · exact w_c5
  · exact w_c6
  · exact w_c7
  · exact w_c8
  · exact w_c9
  · exact w_c10
  · exact w_c11
  · exact w_c12
  · exact w_c13
  · exact w_c14
set_option maxRecDepth 65536 in
theorem w_t1 : (words1.take 24).all (fun c => isCode c || c.before args0 about1) = true := by decide +kernel
set_option maxRecDepth 65536 in
theorem w_t2 : ((words1.drop 24).take 24).all (fun c => isCode c || c.before args0 about1) = true := by decide +kernel
set_option maxRecDepth 65536 in
theorem w_t3 : (((words1.drop 24).drop 24).take 24).all (fun c => isCode c || c.before args0 about1) = true := by decide +kernel
set_option maxRecDepth 65536 in
theorem w_t4 : (((words1.drop 24).drop 24).drop 24).all (fun c => isCode c || c.before args0 about1) = true := by decide +kernel
theorem w_tables : (allAtoms (Jvm.Cond.code x code maxLocals ret :: tables_1)).before args0 about1 = true := by
  rw [allAtoms_all]
  show words1.all (fun c => c.before args0 about1) = true
  refine all_split ?_ w_codes
  rw [← List.take_append_drop 24 words1, List.all_append, w_t1, ← List.take_append_drop 24 (words1.drop 24), List.all_append, w_t2, ← List.take_append_drop 24 ((words1.drop 24).drop 24), List.all_append, w_t3, w_t4]
  rfl
set_option maxRecDepth 65536 in
theorem w_rest : rest_1_c.before args0 about1 = true := by decide +kernel
set_option maxRecDepth 65536 in
theorem w_case : (Jvm.Cond.and given_1 narrow_1).before args0 about1 = true := by decide +kernel
set_option maxRecDepth 65536 in
theorem w_consts : constsHeld consts_1 about1 := Jvm.Lit.constsHeldB_iff.mp (by decide +kernel)
theorem w_applies : (headSpec (Jvm.Cond.code x code maxLocals ret :: tables_1) room_1).applies x e0.platform about1 = true :=
  (Spec.applies_iff w_frames).mpr ⟨w_running, w_runnable, w_alone, w_named, w_hears, w_ripe, w_room, w_tables⟩
theorem atStart : AtStart classFile x code maxLocals ret World_1 tables_1 room_1 Calls_1 rest_1 Pre_1 launch0 p0 e0 about1 theMethod args0 below0 :=
  ⟨lists_1, trivial, launch0.admits_env _ _ _, launch0.least_env, fairChoices_fair.cas, fairChoices_fair.clock, w_frames, w_args, w_heap, w_applies, ⟨w_consts, trivial⟩, w_rest, w_case⟩
end start1
theorem witness_1 : WitnessClaimed_1 := ⟨start1.p0, start1.e0, start1.about1, start1.theMethod, start1.args0, start1.below0, start1.atStart⟩
end Jvm.Pilot.@@N@@
