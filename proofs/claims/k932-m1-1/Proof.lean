import JvmDerived
import JvmDerived.Pilot.@@N@@Statement
import JvmDerived.Pilot.@@N@@Code
set_option linter.unusedVariables false
set_option linter.unusedSimpArgs false
namespace Jvm.RoadKit
open Sem ClassFile Op Lib Jvm.Stand Jvm.Free Jvm.LawKit
section New
variable {p : Program} {l : Launch} {e : Env} {R : Room} {s : State} {m : MethodId} {args : Array Value} {below : List Frame} {meth : Method} {c : Code} {T : State} {locs : List Loc} {cells slots : Nat}
theorem retI (X : Stand p l e R s m args below meth c T locs cells slots) (hx : p.tables.exec = Jvm.exec) {pc : Nat} {Ls : Array Slot} {z : Int32} {rest : List Value} (hret : meth.sig.returnType = some .int) (hd : decode c.code pc = .ok (.ireturn, 1)) {fs : List Frame}
    (hl : ∀ (f : JFrame) (acts : List Action), f.method = m → f.locked = none → f.entered = [] → (doReturn e (T.setTop f) acts (some (.int z))).1 = T.setFrames fs) : Steps p.tables e below (T.setTop (mkF m pc Ls (.int z :: rest))) (T.setFrames fs) := by
  have hm' : T.vm.method? m = some meth := X.method'
  have hn : narrow .int (.int z) = .int z := rfl
  show Steps p.tables e below (T.setTop { method := m, pc := pc, locals := Ls, stack := _ :: rest, locked := none }) _
  jvm_step X.here [X.here.top, hx, hd, hm', hret, hn]
  first | (intro acts; rw [hl _ acts rfl rfl rfl]) | rw [hl _ _ rfl rfl rfl]
  exact Steps.refl _
end New
end Jvm.RoadKit
namespace Jvm.Pilot.@@N@@
open Jvm Jvm.ClassFile Sem Op Lib Jvm.Free Jvm.Stand Jvm.LawKit Jvm.RoadKit Bundle Jvm.Pilot.@@N@@.Jvm.D
open Jvm.Free.XT (ushr ushrL cmpL)
section GoKit
open Jvm.Free.XT (ushr ushrL cmpL)
variable {p : Program} {l : Launch} {e : Env} {R : Room} {s : State} {m : MethodId} {args : Array Value} {below : List Frame} {meth : Method} {c : Code} {T : State} {locs : List Loc} {cells slots : Nat} {Q : Option Value → Heap → List Loc → Prop} {rc rs : Nat} {Fi : Outcome → State → Prop} {bytes : ByteArray} {pc pc' : Nat} {Ls : Array Slot} {rest : List Value}
def GoE (p : Program) (e : Env) (below : List Frame) (Fi : Outcome → State → Prop) (S : State) : Prop :=
  ∃ t o, Steps p.tables e below S t ∧ t.status = .running ∧ Ended t below o ∧ Fi o t
abbrev Go (p : Program) (e : Env) (below : List Frame) (s : State) (rc rs : Nat) (Q : Option Value → Heap → List Loc → Prop) (S : State) : Prop :=
  GoE p e below (fun o t => ∃ v L, o = .returned v ∧ Q v t.heap L ∧ FrameEnd s o t L rc rs) S
theorem GoE.pull {a b : State} (h : GoE p e below Fi b) (f : ∀ t, Steps p.tables e below b t → Steps p.tables e below a t) : GoE p e below Fi a := by
  obtain ⟨t, o, h1, h2⟩ := h
  exact ⟨t, o, f t h1, h2⟩
theorem GoE.imp {Fi' : Outcome → State → Prop} {a : State} (h : GoE p e below Fi a) (f : ∀ o t, Fi o t → Fi' o t) : GoE p e below Fi' a := by
  obtain ⟨t, o, h1, h2, h3, h4⟩ := h
  exact ⟨t, o, h1, h2, h3, f _ _ h4⟩
def Ctr (l : Launch) (Z : State) (y : MethodName) (bytes : ByteArray) (ml : Nat) (ret : Option FieldType) (ws : List Jvm.Cond) (rm : Room) (as : Array Value) (h0 : Heap) (Q : Option Value → Heap → List Loc → Prop) : Prop :=
  MetFree l y (head1 (Jvm.Cond.code y bytes ml ret :: ws) rm) (fun a U => a = as ∧ Z.Warmed39 U.vm ∧ U.heap = h0) (fun _ _ _ _ _ => True) (fun _ U o U' => ∃ v L, o = .returned v ∧ Q v U'.heap L ∧ FrameEnd U o U' L rm.cells rm.slots)
theorem Ctr.enter {Z : State} {y : MethodName} {ml : Nat} {ret : Option FieldType} {ws : List Jvm.Cond} {rm : Room} {as : Array Value} {h0 : Heap} (hpl : plainFor y = true) (hef : ∀ m, entryFrame m as ml = mkF m 0 Ls [])
    (body : ∀ (p : Program) (e : Env) (s : State) (m : MethodId) (below : List Frame) (meth : Method) (c : Code) (T : State), p.tables.exec = Jvm.exec → c.code = bytes → c.maxLocals = ml → s.vm.findClass y.cls = some m.cls → meth.name = y.name → meth.sig.returnType = ret → meth.locks = false → Z.Warmed39 s.vm → s.heap = h0 →
      Stand p l e rm s m as below meth c T [] 0 0 → T.heap = h0 → Go p e below s rm.cells rm.slots Q (T.setTop (mkF m 0 Ls []))) : Ctr l Z y bytes ml ret ws rm as h0 Q := by
  refine MetFree.of_bodySF hpl hisR ?_
  intro p e s m args below meth c s₁ Bd hml0 hP hK
  obtain ⟨rfl, hZ, hh⟩ := hP
  have h := body p e s m below meth c s₁ Bd.exec Bd.bytes hml0 (findClass_of_methodNamed Bd.named) (name_of_methodNamed Bd.named Bd.method).1 Bd.returns (BodyLoose.notSynchronized Bd) hZ hh (Stand.of_body Bd) (by rw [← hh, Bd.state]; rfl)
  exact h.pull fun t k => castTop (hef m) k
theorem Ctr.imp {Z : State} {y : MethodName} {ml : Nat} {ret : Option FieldType} {ws : List Jvm.Cond} {rm : Room} {as : Array Value} {h0 : Heap} {Q' : Option Value → Heap → List Loc → Prop} (C : Ctr l Z y bytes ml ret ws rm as h0 Q) (f : ∀ v h L, Q v h L → Q' v h L) : Ctr l Z y bytes ml ret ws rm as h0 Q' := by
  intro p e ha hc hk s m args below hf happ hP hK
  obtain ⟨n, o, h1, h2, h3, v, L, h4, h5, h6⟩ := C p e ha hc hk s m args below hf happ hP hK
  exact ⟨n, o, h1, h2, h3, v, L, h4, f _ _ _ h5, h6⟩
theorem g_iload (X : Stand p l e R s m args below meth c T locs cells slots) (hx : p.tables.exec = Jvm.exec) {k : Nat} {v : Int32} (hby : c.code = bytes) (hd : decode bytes pc = .ok (.iload k, 2)) (hp : pc + 2 = pc') (hl : Ls[k]? = some (.val (.int v)))
    (H : GoE p e below Fi (T.setTop (mkF m pc' Ls (.int v :: rest)))) : GoE p e below Fi (T.setTop (mkF m pc Ls rest)) := by
  subst hp; exact H.pull fun t k => Jvm.Free.XS.iload X.here hx rfl (hb hby hd) hl k
theorem g_iloadN (X : Stand p l e R s m args below meth c T locs cells slots) (hx : p.tables.exec = Jvm.exec) {k : Fin 4} {v : Int32} (hby : c.code = bytes) (hd : decode bytes pc = .ok (.iload_n k, 1)) (hp : pc + 1 = pc') (hl : Ls[k.val]? = some (.val (.int v)))
    (H : GoE p e below Fi (T.setTop (mkF m pc' Ls (.int v :: rest)))) : GoE p e below Fi (T.setTop (mkF m pc Ls rest)) := by
  subst hp; exact H.pull fun t k => Jvm.Free.XS.iloadN X.here hx rfl (hb hby hd) hl k
theorem g_istore (X : Stand p l e R s m args below meth c T locs cells slots) (hx : p.tables.exec = Jvm.exec) {k : Nat} {x : Int32} {l' : Array Slot} (hby : c.code = bytes) (hd : decode bytes pc = .ok (.istore k, 2)) (hp : pc + 2 = pc') (hl : storeLocals Ls k (.int x) = some l')
    (H : GoE p e below Fi (T.setTop (mkF m pc' l' rest))) : GoE p e below Fi (T.setTop (mkF m pc Ls (.int x :: rest))) := by
  subst hp; exact H.pull fun t k => Jvm.Free.XS.istore X.here hx rfl (hb hby hd) rfl hl k
theorem g_istoreN (X : Stand p l e R s m args below meth c T locs cells slots) (hx : p.tables.exec = Jvm.exec) {k : Fin 4} {x : Int32} {l' : Array Slot} (hby : c.code = bytes) (hd : decode bytes pc = .ok (.istore_n k, 1)) (hp : pc + 1 = pc') (hl : storeLocals Ls k.val (.int x) = some l')
    (H : GoE p e below Fi (T.setTop (mkF m pc' l' rest))) : GoE p e below Fi (T.setTop (mkF m pc Ls (.int x :: rest))) := by
  subst hp; exact H.pull fun t k => Jvm.Free.XS.istoreN X.here hx rfl (hb hby hd) rfl hl k
theorem g_lload (X : Stand p l e R s m args below meth c T locs cells slots) (hx : p.tables.exec = Jvm.exec) {k : Nat} {v : Int64} (hby : c.code = bytes) (hd : decode bytes pc = .ok (.lload k, 2)) (hp : pc + 2 = pc') (hl : Ls[k]? = some (.val (.long v)))
    (H : GoE p e below Fi (T.setTop (mkF m pc' Ls (.long v :: rest)))) : GoE p e below Fi (T.setTop (mkF m pc Ls rest)) := by
  subst hp; exact H.pull fun t k => Jvm.Free.XT.lload X.here hx rfl (hb hby hd) hl k
theorem g_lloadN (X : Stand p l e R s m args below meth c T locs cells slots) (hx : p.tables.exec = Jvm.exec) {k : Fin 4} {v : Int64} (hby : c.code = bytes) (hd : decode bytes pc = .ok (.lload_n k, 1)) (hp : pc + 1 = pc') (hl : Ls[k.val]? = some (.val (.long v)))
    (H : GoE p e below Fi (T.setTop (mkF m pc' Ls (.long v :: rest)))) : GoE p e below Fi (T.setTop (mkF m pc Ls rest)) := by
  subst hp; exact H.pull fun t k => Jvm.Free.XT.lloadN X.here hx rfl (hb hby hd) hl k
theorem g_lstore (X : Stand p l e R s m args below meth c T locs cells slots) (hx : p.tables.exec = Jvm.exec) {k : Nat} {x : Int64} {l' : Array Slot} (hby : c.code = bytes) (hd : decode bytes pc = .ok (.lstore k, 2)) (hp : pc + 2 = pc') (hl : storeLocals Ls k (.long x) = some l')
    (H : GoE p e below Fi (T.setTop (mkF m pc' l' rest))) : GoE p e below Fi (T.setTop (mkF m pc Ls (.long x :: rest))) := by
  subst hp; exact H.pull fun t k => Jvm.Free.XT.lstore X.here hx rfl (hb hby hd) rfl hl k
theorem g_lstoreN (X : Stand p l e R s m args below meth c T locs cells slots) (hx : p.tables.exec = Jvm.exec) {k : Fin 4} {x : Int64} {l' : Array Slot} (hby : c.code = bytes) (hd : decode bytes pc = .ok (.lstore_n k, 1)) (hp : pc + 1 = pc') (hl : storeLocals Ls k.val (.long x) = some l')
    (H : GoE p e below Fi (T.setTop (mkF m pc' l' rest))) : GoE p e below Fi (T.setTop (mkF m pc Ls (.long x :: rest))) := by
  subst hp; exact H.pull fun t k => Jvm.Free.XT.lstoreN X.here hx rfl (hb hby hd) rfl hl k
theorem g_dload (X : Stand p l e R s m args below meth c T locs cells slots) (hx : p.tables.exec = Jvm.exec) {k : Nat} {v : UInt64} (hby : c.code = bytes) (hd : decode bytes pc = .ok (.dload k, 2)) (hp : pc + 2 = pc') (hl : Ls[k]? = some (.val (.double v)))
    (H : GoE p e below Fi (T.setTop (mkF m pc' Ls (.double v :: rest)))) : GoE p e below Fi (T.setTop (mkF m pc Ls rest)) := by
  subst hp; exact H.pull fun t k => Jvm.Free.XS.dload X.here hx rfl (hb hby hd) hl k
theorem g_dloadN (X : Stand p l e R s m args below meth c T locs cells slots) (hx : p.tables.exec = Jvm.exec) {k : Fin 4} {v : UInt64} (hby : c.code = bytes) (hd : decode bytes pc = .ok (.dload_n k, 1)) (hp : pc + 1 = pc') (hl : Ls[k.val]? = some (.val (.double v)))
    (H : GoE p e below Fi (T.setTop (mkF m pc' Ls (.double v :: rest)))) : GoE p e below Fi (T.setTop (mkF m pc Ls rest)) := by
  subst hp; exact H.pull fun t k => Jvm.Free.XS.dloadN X.here hx rfl (hb hby hd) hl k
theorem g_dstore (X : Stand p l e R s m args below meth c T locs cells slots) (hx : p.tables.exec = Jvm.exec) {k : Nat} {x : UInt64} {l' : Array Slot} (hby : c.code = bytes) (hd : decode bytes pc = .ok (.dstore k, 2)) (hp : pc + 2 = pc') (hl : storeLocals Ls k (.double x) = some l')
    (H : GoE p e below Fi (T.setTop (mkF m pc' l' rest))) : GoE p e below Fi (T.setTop (mkF m pc Ls (.double x :: rest))) := by
  subst hp; exact H.pull fun t k => Jvm.Free.XS.dstore X.here hx rfl (hb hby hd) rfl hl k
theorem g_dstoreN (X : Stand p l e R s m args below meth c T locs cells slots) (hx : p.tables.exec = Jvm.exec) {k : Fin 4} {x : UInt64} {l' : Array Slot} (hby : c.code = bytes) (hd : decode bytes pc = .ok (.dstore_n k, 1)) (hp : pc + 1 = pc') (hl : storeLocals Ls k.val (.double x) = some l')
    (H : GoE p e below Fi (T.setTop (mkF m pc' l' rest))) : GoE p e below Fi (T.setTop (mkF m pc Ls (.double x :: rest))) := by
  subst hp; exact H.pull fun t k => Jvm.Free.XS.dstoreN X.here hx rfl (hb hby hd) rfl hl k
theorem g_aload (X : Stand p l e R s m args below meth c T locs cells slots) (hx : p.tables.exec = Jvm.exec) {k : Nat} {v : Value} (hby : c.code = bytes) (hd : decode bytes pc = .ok (.aload k, 2)) (hp : pc + 2 = pc') (hl : Ls[k]? = some (.val v)) (hv : v.isRef = true)
    (H : GoE p e below Fi (T.setTop (mkF m pc' Ls (v :: rest)))) : GoE p e below Fi (T.setTop (mkF m pc Ls rest)) := by
  subst hp; exact H.pull fun t k => Jvm.Free.XS.aload X.here hx rfl (hb hby hd) hl hv k
theorem g_aloadN (X : Stand p l e R s m args below meth c T locs cells slots) (hx : p.tables.exec = Jvm.exec) {k : Fin 4} {v : Value} (hby : c.code = bytes) (hd : decode bytes pc = .ok (.aload_n k, 1)) (hp : pc + 1 = pc') (hl : Ls[k.val]? = some (.val v)) (hv : v.isRef = true)
    (H : GoE p e below Fi (T.setTop (mkF m pc' Ls (v :: rest)))) : GoE p e below Fi (T.setTop (mkF m pc Ls rest)) := by
  subst hp; exact H.pull fun t k => Jvm.Free.XS.aloadN X.here hx rfl (hb hby hd) hl hv k
theorem g_astore (X : Stand p l e R s m args below meth c T locs cells slots) (hx : p.tables.exec = Jvm.exec) {k : Nat} {x : Value} {l' : Array Slot} (hby : c.code = bytes) (hd : decode bytes pc = .ok (.astore k, 2)) (hp : pc + 2 = pc') (hv : x.isRef = true) (hl : storeLocals Ls k x = some l')
    (H : GoE p e below Fi (T.setTop (mkF m pc' l' rest))) : GoE p e below Fi (T.setTop (mkF m pc Ls (x :: rest))) := by
  subst hp; exact H.pull fun t k => Jvm.Free.XS.astore X.here hx rfl (hb hby hd) rfl hv hl k
theorem g_astoreN (X : Stand p l e R s m args below meth c T locs cells slots) (hx : p.tables.exec = Jvm.exec) {k : Fin 4} {x : Value} {l' : Array Slot} (hby : c.code = bytes) (hd : decode bytes pc = .ok (.astore_n k, 1)) (hp : pc + 1 = pc') (hv : x.isRef = true) (hl : storeLocals Ls k.val x = some l')
    (H : GoE p e below Fi (T.setTop (mkF m pc' l' rest))) : GoE p e below Fi (T.setTop (mkF m pc Ls (x :: rest))) := by
  subst hp; exact H.pull fun t k => Jvm.Free.XS.astoreN X.here hx rfl (hb hby hd) rfl hv hl k
theorem g_iconst (X : Stand p l e R s m args below meth c T locs cells slots) (hx : p.tables.exec = Jvm.exec) {i : Int} {z : Int32} (hby : c.code = bytes) (hd : decode bytes pc = .ok (.iconst i, 1)) (hp : pc + 1 = pc') (hz : z = Int32.ofInt i)
    (H : GoE p e below Fi (T.setTop (mkF m pc' Ls (.int z :: rest)))) : GoE p e below Fi (T.setTop (mkF m pc Ls rest)) := by
  subst hp; exact H.pull fun t k => Jvm.Free.XS.iconst X.here hx rfl (hb hby hd) (hz ▸ k)
theorem g_bipush (X : Stand p l e R s m args below meth c T locs cells slots) (hx : p.tables.exec = Jvm.exec) {i : Int} {z : Int32} (hby : c.code = bytes) (hd : decode bytes pc = .ok (.bipush i, 2)) (hp : pc + 2 = pc') (hz : z = (Int8.ofInt i).toInt32)
    (H : GoE p e below Fi (T.setTop (mkF m pc' Ls (.int z :: rest)))) : GoE p e below Fi (T.setTop (mkF m pc Ls rest)) := by
  subst hp; exact H.pull fun t k => Jvm.Free.XS.bipush X.here hx rfl (hb hby hd) (hz ▸ k)
theorem g_sipush (X : Stand p l e R s m args below meth c T locs cells slots) (hx : p.tables.exec = Jvm.exec) {i : Int} {z : Int32} (hby : c.code = bytes) (hd : decode bytes pc = .ok (.sipush i, 3)) (hp : pc + 3 = pc') (hz : z = (Int16.ofInt i).toInt32)
    (H : GoE p e below Fi (T.setTop (mkF m pc' Ls (.int z :: rest)))) : GoE p e below Fi (T.setTop (mkF m pc Ls rest)) := by
  subst hp; exact H.pull fun t k => Jvm.Free.XS.sipush X.here hx rfl (hb hby hd) (hz ▸ k)
theorem g_lconst (X : Stand p l e R s m args below meth c T locs cells slots) (hx : p.tables.exec = Jvm.exec) {i : Fin 2} {z : Int64} (hby : c.code = bytes) (hd : decode bytes pc = .ok (.lconst i, 1)) (hp : pc + 1 = pc') (hz : z = Int64.ofNat i)
    (H : GoE p e below Fi (T.setTop (mkF m pc' Ls (.long z :: rest)))) : GoE p e below Fi (T.setTop (mkF m pc Ls rest)) := by
  subst hp; exact H.pull fun t k => Jvm.Free.XT.lconst X.here hx rfl (hb hby hd) (hz ▸ k)
theorem g_aconstNull (X : Stand p l e R s m args below meth c T locs cells slots) (hx : p.tables.exec = Jvm.exec)  (hby : c.code = bytes) (hd : decode bytes pc = .ok (.aconst_null, 1)) (hp : pc + 1 = pc') 
    (H : GoE p e below Fi (T.setTop (mkF m pc' Ls (.null :: rest)))) : GoE p e below Fi (T.setTop (mkF m pc Ls rest)) := by
  subst hp; exact H.pull fun t k => Jvm.Free.XS.aconstNull X.here hx rfl (hb hby hd) k
theorem g_ldcI (X : Stand p l e R s m args below meth c T locs cells slots) (hx : p.tables.exec = Jvm.exec) {Z : State} {a0 : Array Value} (hZ : Z.Warmed39 s.vm) {own : String} (hown : s.vm.findClass own = some m.cls) {index : Nat} {v : Int32} (hby : c.code = bytes) (hd : decode bytes pc = .ok (.ldc index, 2)) (hp : pc + 2 = pc') (w : (Jvm.Cond.constant own index v).before a0 Z = true)
    (H : GoE p e below Fi (T.setTop (mkF m pc' Ls (.int v :: rest)))) : GoE p e below Fi (T.setTop (mkF m pc Ls rest)) := by
  subst hp; exact H.pull fun t k => X.ldcInt hx hown (mvT hZ w) (g := mkF m pc Ls rest) rfl (hb hby hd) _ k
theorem g_ldcL (X : Stand p l e R s m args below meth c T locs cells slots) (hx : p.tables.exec = Jvm.exec) {Z : State} {a0 : Array Value} (hZ : Z.Warmed39 s.vm) {own : String} (hown : s.vm.findClass own = some m.cls) {index : Nat} {v : Int64} (hby : c.code = bytes) (hd : decode bytes pc = .ok (.ldc2_w index, 3)) (hp : pc + 3 = pc') (w : (Jvm.Cond.constantLong own index v).before a0 Z = true)
    (H : GoE p e below Fi (T.setTop (mkF m pc' Ls (.long v :: rest)))) : GoE p e below Fi (T.setTop (mkF m pc Ls rest)) := by
  subst hp; exact H.pull fun t k => X.ldc2Long hx hown (mvT hZ w) (g := mkF m pc Ls rest) rfl (hb hby hd) _ k
theorem g_ldcD (X : Stand p l e R s m args below meth c T locs cells slots) (hx : p.tables.exec = Jvm.exec) {Z : State} {a0 : Array Value} (hZ : Z.Warmed39 s.vm) {own : String} (hown : s.vm.findClass own = some m.cls) {index : Nat} {v : UInt64} (hby : c.code = bytes) (hd : decode bytes pc = .ok (.ldc2_w index, 3)) (hp : pc + 3 = pc') (w : (Jvm.Cond.constantDouble own index v).before a0 Z = true)
    (H : GoE p e below Fi (T.setTop (mkF m pc' Ls (.double v :: rest)))) : GoE p e below Fi (T.setTop (mkF m pc Ls rest)) := by
  subst hp; exact H.pull fun t k => X.ldc2DoubleC hx hown (mvT hZ w) (g := mkF m pc Ls rest) rfl (hb hby hd) _ k
theorem g_iadd (X : Stand p l e R s m args below meth c T locs cells slots) (hx : p.tables.exec = Jvm.exec) {x y : Int32} (hby : c.code = bytes) (hd : decode bytes pc = .ok (.iadd, 1)) (hp : pc + 1 = pc') 
    (H : GoE p e below Fi (T.setTop (mkF m pc' Ls (.int (x + y) :: rest)))) : GoE p e below Fi (T.setTop (mkF m pc Ls (.int y :: .int x :: rest))) := by
  subst hp; exact H.pull fun t k => Jvm.Free.XS.iadd X.here hx rfl (hb hby hd) rfl k
theorem g_isub (X : Stand p l e R s m args below meth c T locs cells slots) (hx : p.tables.exec = Jvm.exec) {x y : Int32} (hby : c.code = bytes) (hd : decode bytes pc = .ok (.isub, 1)) (hp : pc + 1 = pc') 
    (H : GoE p e below Fi (T.setTop (mkF m pc' Ls (.int (x - y) :: rest)))) : GoE p e below Fi (T.setTop (mkF m pc Ls (.int y :: .int x :: rest))) := by
  subst hp; exact H.pull fun t k => Jvm.Free.XS.isub X.here hx rfl (hb hby hd) rfl k
theorem g_imul (X : Stand p l e R s m args below meth c T locs cells slots) (hx : p.tables.exec = Jvm.exec) {x y : Int32} (hby : c.code = bytes) (hd : decode bytes pc = .ok (.imul, 1)) (hp : pc + 1 = pc') 
    (H : GoE p e below Fi (T.setTop (mkF m pc' Ls (.int (x * y) :: rest)))) : GoE p e below Fi (T.setTop (mkF m pc Ls (.int y :: .int x :: rest))) := by
  subst hp; exact H.pull fun t k => Jvm.Free.XS.imul X.here hx rfl (hb hby hd) rfl k
theorem g_iand (X : Stand p l e R s m args below meth c T locs cells slots) (hx : p.tables.exec = Jvm.exec) {x y : Int32} (hby : c.code = bytes) (hd : decode bytes pc = .ok (.iand, 1)) (hp : pc + 1 = pc') 
    (H : GoE p e below Fi (T.setTop (mkF m pc' Ls (.int (x &&& y) :: rest)))) : GoE p e below Fi (T.setTop (mkF m pc Ls (.int y :: .int x :: rest))) := by
  subst hp; exact H.pull fun t k => Jvm.Free.XS.iand X.here hx rfl (hb hby hd) rfl k
theorem g_ior (X : Stand p l e R s m args below meth c T locs cells slots) (hx : p.tables.exec = Jvm.exec) {x y : Int32} (hby : c.code = bytes) (hd : decode bytes pc = .ok (.ior, 1)) (hp : pc + 1 = pc') 
    (H : GoE p e below Fi (T.setTop (mkF m pc' Ls (.int (x ||| y) :: rest)))) : GoE p e below Fi (T.setTop (mkF m pc Ls (.int y :: .int x :: rest))) := by
  subst hp; exact H.pull fun t k => Jvm.Free.XT.ior X.here hx rfl (hb hby hd) rfl k
theorem g_ixor (X : Stand p l e R s m args below meth c T locs cells slots) (hx : p.tables.exec = Jvm.exec) {x y : Int32} (hby : c.code = bytes) (hd : decode bytes pc = .ok (.ixor, 1)) (hp : pc + 1 = pc') 
    (H : GoE p e below Fi (T.setTop (mkF m pc' Ls (.int (x ^^^ y) :: rest)))) : GoE p e below Fi (T.setTop (mkF m pc Ls (.int y :: .int x :: rest))) := by
  subst hp; exact H.pull fun t k => Jvm.Free.XT.ixor X.here hx rfl (hb hby hd) rfl k
theorem g_ishl (X : Stand p l e R s m args below meth c T locs cells slots) (hx : p.tables.exec = Jvm.exec) {x y : Int32} (hby : c.code = bytes) (hd : decode bytes pc = .ok (.ishl, 1)) (hp : pc + 1 = pc') 
    (H : GoE p e below Fi (T.setTop (mkF m pc' Ls (.int (x <<< (y &&& 31)) :: rest)))) : GoE p e below Fi (T.setTop (mkF m pc Ls (.int y :: .int x :: rest))) := by
  subst hp; exact H.pull fun t k => Jvm.Free.XT.ishl X.here hx rfl (hb hby hd) rfl k
theorem g_ishr (X : Stand p l e R s m args below meth c T locs cells slots) (hx : p.tables.exec = Jvm.exec) {x y : Int32} (hby : c.code = bytes) (hd : decode bytes pc = .ok (.ishr, 1)) (hp : pc + 1 = pc') 
    (H : GoE p e below Fi (T.setTop (mkF m pc' Ls (.int (x >>> (y &&& 31)) :: rest)))) : GoE p e below Fi (T.setTop (mkF m pc Ls (.int y :: .int x :: rest))) := by
  subst hp; exact H.pull fun t k => Jvm.Free.XT.ishr X.here hx rfl (hb hby hd) rfl k
theorem g_iushr (X : Stand p l e R s m args below meth c T locs cells slots) (hx : p.tables.exec = Jvm.exec) {x y : Int32} (hby : c.code = bytes) (hd : decode bytes pc = .ok (.iushr, 1)) (hp : pc + 1 = pc') 
    (H : GoE p e below Fi (T.setTop (mkF m pc' Ls (.int (ushr x y) :: rest)))) : GoE p e below Fi (T.setTop (mkF m pc Ls (.int y :: .int x :: rest))) := by
  subst hp; exact H.pull fun t k => Jvm.Free.XT.iushr X.here hx rfl (hb hby hd) rfl k
theorem g_idiv (X : Stand p l e R s m args below meth c T locs cells slots) (hx : p.tables.exec = Jvm.exec) {x y : Int32} (hby : c.code = bytes) (hd : decode bytes pc = .ok (.idiv, 1)) (hp : pc + 1 = pc') (hy : y ≠ 0)
    (H : GoE p e below Fi (T.setTop (mkF m pc' Ls (.int (x / y) :: rest)))) : GoE p e below Fi (T.setTop (mkF m pc Ls (.int y :: .int x :: rest))) := by
  subst hp; exact H.pull fun t k => Jvm.Free.XS.idiv X.here hx rfl (hb hby hd) rfl hy k
theorem g_irem (X : Stand p l e R s m args below meth c T locs cells slots) (hx : p.tables.exec = Jvm.exec) {x y : Int32} (hby : c.code = bytes) (hd : decode bytes pc = .ok (.irem, 1)) (hp : pc + 1 = pc') (hy : y ≠ 0)
    (H : GoE p e below Fi (T.setTop (mkF m pc' Ls (.int (x - (x / y) * y) :: rest)))) : GoE p e below Fi (T.setTop (mkF m pc Ls (.int y :: .int x :: rest))) := by
  subst hp; exact H.pull fun t k => Jvm.Free.XS.irem X.here hx rfl (hb hby hd) rfl hy k
theorem g_ineg (X : Stand p l e R s m args below meth c T locs cells slots) (hx : p.tables.exec = Jvm.exec) {x : Int32} (hby : c.code = bytes) (hd : decode bytes pc = .ok (.ineg, 1)) (hp : pc + 1 = pc') 
    (H : GoE p e below Fi (T.setTop (mkF m pc' Ls (.int (-x) :: rest)))) : GoE p e below Fi (T.setTop (mkF m pc Ls (.int x :: rest))) := by
  subst hp; exact H.pull fun t k => Jvm.Free.XS.ineg X.here hx rfl (hb hby hd) rfl k
theorem g_ladd (X : Stand p l e R s m args below meth c T locs cells slots) (hx : p.tables.exec = Jvm.exec) {x y : Int64} (hby : c.code = bytes) (hd : decode bytes pc = .ok (.ladd, 1)) (hp : pc + 1 = pc') 
    (H : GoE p e below Fi (T.setTop (mkF m pc' Ls (.long (x + y) :: rest)))) : GoE p e below Fi (T.setTop (mkF m pc Ls (.long y :: .long x :: rest))) := by
  subst hp; exact H.pull fun t k => Jvm.Free.XT.ladd X.here hx rfl (hb hby hd) rfl k
theorem g_lsub (X : Stand p l e R s m args below meth c T locs cells slots) (hx : p.tables.exec = Jvm.exec) {x y : Int64} (hby : c.code = bytes) (hd : decode bytes pc = .ok (.lsub, 1)) (hp : pc + 1 = pc') 
    (H : GoE p e below Fi (T.setTop (mkF m pc' Ls (.long (x - y) :: rest)))) : GoE p e below Fi (T.setTop (mkF m pc Ls (.long y :: .long x :: rest))) := by
  subst hp; exact H.pull fun t k => Jvm.Free.XT.lsub X.here hx rfl (hb hby hd) rfl k
theorem g_lmul (X : Stand p l e R s m args below meth c T locs cells slots) (hx : p.tables.exec = Jvm.exec) {x y : Int64} (hby : c.code = bytes) (hd : decode bytes pc = .ok (.lmul, 1)) (hp : pc + 1 = pc') 
    (H : GoE p e below Fi (T.setTop (mkF m pc' Ls (.long (x * y) :: rest)))) : GoE p e below Fi (T.setTop (mkF m pc Ls (.long y :: .long x :: rest))) := by
  subst hp; exact H.pull fun t k => Jvm.Free.XT.lmul X.here hx rfl (hb hby hd) rfl k
theorem g_land (X : Stand p l e R s m args below meth c T locs cells slots) (hx : p.tables.exec = Jvm.exec) {x y : Int64} (hby : c.code = bytes) (hd : decode bytes pc = .ok (.land, 1)) (hp : pc + 1 = pc') 
    (H : GoE p e below Fi (T.setTop (mkF m pc' Ls (.long (x &&& y) :: rest)))) : GoE p e below Fi (T.setTop (mkF m pc Ls (.long y :: .long x :: rest))) := by
  subst hp; exact H.pull fun t k => Jvm.Free.XT.land X.here hx rfl (hb hby hd) rfl k
theorem g_lor (X : Stand p l e R s m args below meth c T locs cells slots) (hx : p.tables.exec = Jvm.exec) {x y : Int64} (hby : c.code = bytes) (hd : decode bytes pc = .ok (.lor, 1)) (hp : pc + 1 = pc') 
    (H : GoE p e below Fi (T.setTop (mkF m pc' Ls (.long (x ||| y) :: rest)))) : GoE p e below Fi (T.setTop (mkF m pc Ls (.long y :: .long x :: rest))) := by
  subst hp; exact H.pull fun t k => Jvm.Free.XT.lor X.here hx rfl (hb hby hd) rfl k
theorem g_lxor (X : Stand p l e R s m args below meth c T locs cells slots) (hx : p.tables.exec = Jvm.exec) {x y : Int64} (hby : c.code = bytes) (hd : decode bytes pc = .ok (.lxor, 1)) (hp : pc + 1 = pc') 
    (H : GoE p e below Fi (T.setTop (mkF m pc' Ls (.long (x ^^^ y) :: rest)))) : GoE p e below Fi (T.setTop (mkF m pc Ls (.long y :: .long x :: rest))) := by
  subst hp; exact H.pull fun t k => Jvm.Free.XT.lxor X.here hx rfl (hb hby hd) rfl k
theorem g_ldiv (X : Stand p l e R s m args below meth c T locs cells slots) (hx : p.tables.exec = Jvm.exec) {x y : Int64} (hby : c.code = bytes) (hd : decode bytes pc = .ok (.ldiv, 1)) (hp : pc + 1 = pc') (hy : y ≠ 0)
    (H : GoE p e below Fi (T.setTop (mkF m pc' Ls (.long (x / y) :: rest)))) : GoE p e below Fi (T.setTop (mkF m pc Ls (.long y :: .long x :: rest))) := by
  subst hp; exact H.pull fun t k => Jvm.Free.XT.ldiv X.here hx rfl (hb hby hd) rfl hy k
theorem g_lrem (X : Stand p l e R s m args below meth c T locs cells slots) (hx : p.tables.exec = Jvm.exec) {x y : Int64} (hby : c.code = bytes) (hd : decode bytes pc = .ok (.lrem, 1)) (hp : pc + 1 = pc') (hy : y ≠ 0)
    (H : GoE p e below Fi (T.setTop (mkF m pc' Ls (.long (x - (x / y) * y) :: rest)))) : GoE p e below Fi (T.setTop (mkF m pc Ls (.long y :: .long x :: rest))) := by
  subst hp; exact H.pull fun t k => Jvm.Free.XT.lrem X.here hx rfl (hb hby hd) rfl hy k
theorem g_lneg (X : Stand p l e R s m args below meth c T locs cells slots) (hx : p.tables.exec = Jvm.exec) {x : Int64} (hby : c.code = bytes) (hd : decode bytes pc = .ok (.lneg, 1)) (hp : pc + 1 = pc') 
    (H : GoE p e below Fi (T.setTop (mkF m pc' Ls (.long (-x) :: rest)))) : GoE p e below Fi (T.setTop (mkF m pc Ls (.long x :: rest))) := by
  subst hp; exact H.pull fun t k => Jvm.Free.XT.lneg X.here hx rfl (hb hby hd) rfl k
theorem g_lshl (X : Stand p l e R s m args below meth c T locs cells slots) (hx : p.tables.exec = Jvm.exec) {x : Int64} {y : Int32} (hby : c.code = bytes) (hd : decode bytes pc = .ok (.lshl, 1)) (hp : pc + 1 = pc') 
    (H : GoE p e below Fi (T.setTop (mkF m pc' Ls (.long (x <<< (y.toInt64 &&& 63)) :: rest)))) : GoE p e below Fi (T.setTop (mkF m pc Ls (.int y :: .long x :: rest))) := by
  subst hp; exact H.pull fun t k => Jvm.Free.XT.lshl X.here hx rfl (hb hby hd) rfl k
theorem g_lshr (X : Stand p l e R s m args below meth c T locs cells slots) (hx : p.tables.exec = Jvm.exec) {x : Int64} {y : Int32} (hby : c.code = bytes) (hd : decode bytes pc = .ok (.lshr, 1)) (hp : pc + 1 = pc') 
    (H : GoE p e below Fi (T.setTop (mkF m pc' Ls (.long (x >>> (y.toInt64 &&& 63)) :: rest)))) : GoE p e below Fi (T.setTop (mkF m pc Ls (.int y :: .long x :: rest))) := by
  subst hp; exact H.pull fun t k => Jvm.Free.XT.lshr X.here hx rfl (hb hby hd) rfl k
theorem g_lushr (X : Stand p l e R s m args below meth c T locs cells slots) (hx : p.tables.exec = Jvm.exec) {x : Int64} {y : Int32} (hby : c.code = bytes) (hd : decode bytes pc = .ok (.lushr, 1)) (hp : pc + 1 = pc') 
    (H : GoE p e below Fi (T.setTop (mkF m pc' Ls (.long (ushrL x y) :: rest)))) : GoE p e below Fi (T.setTop (mkF m pc Ls (.int y :: .long x :: rest))) := by
  subst hp; exact H.pull fun t k => Jvm.Free.XT.lushr X.here hx rfl (hb hby hd) rfl k
theorem g_i2l (X : Stand p l e R s m args below meth c T locs cells slots) (hx : p.tables.exec = Jvm.exec) {x : Int32} (hby : c.code = bytes) (hd : decode bytes pc = .ok (.i2l, 1)) (hp : pc + 1 = pc') 
    (H : GoE p e below Fi (T.setTop (mkF m pc' Ls (.long x.toInt64 :: rest)))) : GoE p e below Fi (T.setTop (mkF m pc Ls (.int x :: rest))) := by
  subst hp; exact H.pull fun t k => Jvm.Free.XT.i2l X.here hx rfl (hb hby hd) rfl k
theorem g_l2i (X : Stand p l e R s m args below meth c T locs cells slots) (hx : p.tables.exec = Jvm.exec) {x : Int64} (hby : c.code = bytes) (hd : decode bytes pc = .ok (.l2i, 1)) (hp : pc + 1 = pc') 
    (H : GoE p e below Fi (T.setTop (mkF m pc' Ls (.int x.toInt32 :: rest)))) : GoE p e below Fi (T.setTop (mkF m pc Ls (.long x :: rest))) := by
  subst hp; exact H.pull fun t k => Jvm.Free.XT.l2i X.here hx rfl (hb hby hd) rfl k
theorem g_i2b (X : Stand p l e R s m args below meth c T locs cells slots) (hx : p.tables.exec = Jvm.exec) {x : Int32} (hby : c.code = bytes) (hd : decode bytes pc = .ok (.i2b, 1)) (hp : pc + 1 = pc') 
    (H : GoE p e below Fi (T.setTop (mkF m pc' Ls (.int x.toInt8.toInt32 :: rest)))) : GoE p e below Fi (T.setTop (mkF m pc Ls (.int x :: rest))) := by
  subst hp; exact H.pull fun t k => Jvm.Free.XT.i2b X.here hx rfl (hb hby hd) rfl k
theorem g_i2c (X : Stand p l e R s m args below meth c T locs cells slots) (hx : p.tables.exec = Jvm.exec) {x : Int32} (hby : c.code = bytes) (hd : decode bytes pc = .ok (.i2c, 1)) (hp : pc + 1 = pc') 
    (H : GoE p e below Fi (T.setTop (mkF m pc' Ls (.int x.toUInt32.toUInt16.toUInt32.toInt32 :: rest)))) : GoE p e below Fi (T.setTop (mkF m pc Ls (.int x :: rest))) := by
  subst hp; exact H.pull fun t k => Jvm.Free.XT.i2c X.here hx rfl (hb hby hd) rfl k
theorem g_i2s (X : Stand p l e R s m args below meth c T locs cells slots) (hx : p.tables.exec = Jvm.exec) {x : Int32} (hby : c.code = bytes) (hd : decode bytes pc = .ok (.i2s, 1)) (hp : pc + 1 = pc') 
    (H : GoE p e below Fi (T.setTop (mkF m pc' Ls (.int x.toInt16.toInt32 :: rest)))) : GoE p e below Fi (T.setTop (mkF m pc Ls (.int x :: rest))) := by
  subst hp; exact H.pull fun t k => Jvm.Free.XT.i2s X.here hx rfl (hb hby hd) rfl k
theorem g_i2d (X : Stand p l e R s m args below meth c T locs cells slots) (hx : p.tables.exec = Jvm.exec) {x : Int32} (hby : c.code = bytes) (hd : decode bytes pc = .ok (.i2d, 1)) (hp : pc + 1 = pc') 
    (H : GoE p e below Fi (T.setTop (mkF m pc' Ls (.double (FP.l2d x.toInt64) :: rest)))) : GoE p e below Fi (T.setTop (mkF m pc Ls (.int x :: rest))) := by
  subst hp; exact H.pull fun t k => Jvm.Free.XS.i2dS X.here hx rfl (hb hby hd) rfl (i2d_w x) k
theorem g_l2d (X : Stand p l e R s m args below meth c T locs cells slots) (hx : p.tables.exec = Jvm.exec) {x : Int64} (hby : c.code = bytes) (hd : decode bytes pc = .ok (.l2d, 1)) (hp : pc + 1 = pc') 
    (H : GoE p e below Fi (T.setTop (mkF m pc' Ls (.double (FP.l2d x) :: rest)))) : GoE p e below Fi (T.setTop (mkF m pc Ls (.long x :: rest))) := by
  subst hp; exact H.pull fun t k => Jvm.Free.XS.l2dS X.here hx rfl (hb hby hd) rfl rfl k
theorem g_dcmp (X : Stand p l e R s m args below meth c T locs cells slots) (hx : p.tables.exec = Jvm.exec) {o : CmpOp} {x y : UInt64} {v : Int32} (hby : c.code = bytes) (hd : decode bytes pc = .ok (.dcmp o, 1)) (hp : pc + 1 = pc') (hv : cmpValue (FP.dcmp x y) o = v)
    (H : GoE p e below Fi (T.setTop (mkF m pc' Ls (.int v :: rest)))) : GoE p e below Fi (T.setTop (mkF m pc Ls (.double y :: .double x :: rest))) := by
  subst hp; exact H.pull fun t k => Jvm.Free.XS.dcmpS X.here hx rfl (hb hby hd) rfl hv k
theorem g_lcmp (X : Stand p l e R s m args below meth c T locs cells slots) (hx : p.tables.exec = Jvm.exec) {x y : Int64} (hby : c.code = bytes) (hd : decode bytes pc = .ok (.lcmp, 1)) (hp : pc + 1 = pc') 
    (H : GoE p e below Fi (T.setTop (mkF m pc' Ls (.int (cmpL x y) :: rest)))) : GoE p e below Fi (T.setTop (mkF m pc Ls (.long y :: .long x :: rest))) := by
  subst hp; exact H.pull fun t k => Jvm.Free.XT.lcmp X.here hx rfl (hb hby hd) rfl k
theorem g_dup (X : Stand p l e R s m args below meth c T locs cells slots) (hx : p.tables.exec = Jvm.exec) {x : Value} (hby : c.code = bytes) (hd : decode bytes pc = .ok (.dup, 1)) (hp : pc + 1 = pc') (hc : x.category = 1)
    (H : GoE p e below Fi (T.setTop (mkF m pc' Ls (x :: x :: rest)))) : GoE p e below Fi (T.setTop (mkF m pc Ls (x :: rest))) := by
  subst hp; exact H.pull fun t k => Jvm.Free.XS.dup X.here hx rfl (hb hby hd) rfl hc k
theorem g_pop (X : Stand p l e R s m args below meth c T locs cells slots) (hx : p.tables.exec = Jvm.exec) {x : Value} (hby : c.code = bytes) (hd : decode bytes pc = .ok (.pop, 1)) (hp : pc + 1 = pc') (hc : x.category = 1)
    (H : GoE p e below Fi (T.setTop (mkF m pc' Ls rest))) : GoE p e below Fi (T.setTop (mkF m pc Ls (x :: rest))) := by
  subst hp; exact H.pull fun t k => Jvm.Free.XT.pop X.here hx rfl (hb hby hd) rfl hc k
theorem g_iinc (X : Stand p l e R s m args below meth c T locs cells slots) (hx : p.tables.exec = Jvm.exec) {k : Nat} {cst : Int} {x : Int32} {l' : Array Slot} (hby : c.code = bytes) (hd : decode bytes pc = .ok (.iinc k cst, 3)) (hp : pc + 3 = pc') (hl : Ls[k]? = some (.val (.int x))) (hl' : storeLocals Ls k (.int (x + Int32.ofInt cst)) = some l')
    (H : GoE p e below Fi (T.setTop (mkF m pc' l' rest))) : GoE p e below Fi (T.setTop (mkF m pc Ls rest)) := by
  subst hp; exact H.pull fun t k => Jvm.Free.XS.iinc X.here hx rfl (hb hby hd) hl hl' k
theorem g_goto (X : Stand p l e R s m args below meth c T locs cells slots) (hx : p.tables.exec = Jvm.exec) {o : Int} (hby : c.code = bytes) (hd : decode bytes pc = .ok (.goto o, 3)) (ho : 0 ≤ (pc : Int) + o) (hp : ((pc : Int) + o).toNat = pc')
    (H : GoE p e below Fi (T.setTop (mkF m pc' Ls rest))) : GoE p e below Fi (T.setTop (mkF m pc Ls rest)) :=
  H.pull fun t k => Jvm.Free.XS.goto X.here hx rfl rfl (hb hby hd) ho hp k
theorem g_icmp_eq (X : Stand p l e R s m args below meth c T locs cells slots) (hx : p.tables.exec = Jvm.exec) {o : Int} {pn : Nat} (hby : c.code = bytes) {x y : Int32} (hd : decode bytes pc = .ok (.if_icmp .eq o, 3)) (ho : 0 ≤ (pc : Int) + o) (hp : ((pc : Int) + o).toNat = pc') (hn : pc + 3 = pn)
    (HY : x = y → GoE p e below Fi (T.setTop (mkF m pc' Ls rest))) (HN : ¬ (x = y) → GoE p e below Fi (T.setTop (mkF m pn Ls rest))) : GoE p e below Fi (T.setTop (mkF m pc Ls (.int y :: .int x :: rest))) := by
  subst hn
  by_cases q : x = y
  · exact (HY q).pull fun t k => Jvm.Free.XS.icmpYes X.here hx rfl rfl (hb hby hd) rfl (teq q).1 ho hp k
  · have q' : ¬ (x = y) := by first | exact q | exact Decidable.not_not.mp q
    exact (HN q').pull fun t k => Jvm.Free.XS.icmpNo X.here hx rfl (hb hby hd) rfl (feq q').1 k
theorem g_if_eq (X : Stand p l e R s m args below meth c T locs cells slots) (hx : p.tables.exec = Jvm.exec) {o : Int} {pn : Nat} (hby : c.code = bytes) {x : Int32} (hd : decode bytes pc = .ok (.ifCond .eq o, 3)) (ho : 0 ≤ (pc : Int) + o) (hp : ((pc : Int) + o).toNat = pc') (hn : pc + 3 = pn)
    (HY : x = 0 → GoE p e below Fi (T.setTop (mkF m pc' Ls rest))) (HN : ¬ (x = 0) → GoE p e below Fi (T.setTop (mkF m pn Ls rest))) : GoE p e below Fi (T.setTop (mkF m pc Ls (.int x :: rest))) := by
  subst hn
  by_cases q : x = 0
  · exact (HY q).pull fun t k => Jvm.Free.XS.ifYes X.here hx rfl rfl (hb hby hd) rfl ((if0 _ _).trans (teq q).1) ho hp k
  · have q' : ¬ (x = 0) := by first | exact q | exact Decidable.not_not.mp q
    exact (HN q').pull fun t k => Jvm.Free.XS.ifNo X.here hx rfl (hb hby hd) rfl ((if0 _ _).trans (feq q').1) k
theorem cl_W (u v : Int64) : cmpL u v = lcmpW u v := rfl
theorem cl_lt (u v : Int64) : cmpL u v < 0 ↔ u < v := by rw [cl_W]; exact lw_lt u v
theorem cl_gt (u v : Int64) : 0 < cmpL u v ↔ v < u := by rw [cl_W]; exact lw_gt u v
theorem cl_eq (u v : Int64) : cmpL u v = 0 ↔ u = v := by rw [cl_W]; exact lw_eq u v
theorem g_ifL_eq (X : Stand p l e R s m args below meth c T locs cells slots) (hx : p.tables.exec = Jvm.exec) {o : Int} {pn : Nat} (hby : c.code = bytes) {u v : Int64} (hd : decode bytes pc = .ok (.ifCond .eq o, 3)) (ho : 0 ≤ (pc : Int) + o) (hp : ((pc : Int) + o).toNat = pc') (hn : pc + 3 = pn)
    (HY : u = v → GoE p e below Fi (T.setTop (mkF m pc' Ls rest))) (HN : ¬ (u = v) → GoE p e below Fi (T.setTop (mkF m pn Ls rest))) : GoE p e below Fi (T.setTop (mkF m pc Ls (.int (cmpL u v) :: rest))) :=
  g_if_eq X hx hby hd ho hp hn (fun h => HY ((cl_eq u v).mp h)) (fun h => HN (fun z => h ((cl_eq u v).mpr z)))
theorem g_icmp_ne (X : Stand p l e R s m args below meth c T locs cells slots) (hx : p.tables.exec = Jvm.exec) {o : Int} {pn : Nat} (hby : c.code = bytes) {x y : Int32} (hd : decode bytes pc = .ok (.if_icmp .ne o, 3)) (ho : 0 ≤ (pc : Int) + o) (hp : ((pc : Int) + o).toNat = pc') (hn : pc + 3 = pn)
    (HY : ¬ (x = y) → GoE p e below Fi (T.setTop (mkF m pc' Ls rest))) (HN : x = y → GoE p e below Fi (T.setTop (mkF m pn Ls rest))) : GoE p e below Fi (T.setTop (mkF m pc Ls (.int y :: .int x :: rest))) := by
  subst hn
  by_cases q : ¬ (x = y)
  · exact (HY q).pull fun t k => Jvm.Free.XS.icmpYes X.here hx rfl rfl (hb hby hd) rfl (feq q).2 ho hp k
  · have q' : x = y := by first | exact q | exact Decidable.not_not.mp q
    exact (HN q').pull fun t k => Jvm.Free.XS.icmpNo X.here hx rfl (hb hby hd) rfl (teq q').2 k
theorem g_if_ne (X : Stand p l e R s m args below meth c T locs cells slots) (hx : p.tables.exec = Jvm.exec) {o : Int} {pn : Nat} (hby : c.code = bytes) {x : Int32} (hd : decode bytes pc = .ok (.ifCond .ne o, 3)) (ho : 0 ≤ (pc : Int) + o) (hp : ((pc : Int) + o).toNat = pc') (hn : pc + 3 = pn)
    (HY : ¬ (x = 0) → GoE p e below Fi (T.setTop (mkF m pc' Ls rest))) (HN : x = 0 → GoE p e below Fi (T.setTop (mkF m pn Ls rest))) : GoE p e below Fi (T.setTop (mkF m pc Ls (.int x :: rest))) := by
  subst hn
  by_cases q : ¬ (x = 0)
  · exact (HY q).pull fun t k => Jvm.Free.XS.ifYes X.here hx rfl rfl (hb hby hd) rfl ((if0 _ _).trans (feq q).2) ho hp k
  · have q' : x = 0 := by first | exact q | exact Decidable.not_not.mp q
    exact (HN q').pull fun t k => Jvm.Free.XS.ifNo X.here hx rfl (hb hby hd) rfl ((if0 _ _).trans (teq q').2) k
theorem g_ifL_ne (X : Stand p l e R s m args below meth c T locs cells slots) (hx : p.tables.exec = Jvm.exec) {o : Int} {pn : Nat} (hby : c.code = bytes) {u v : Int64} (hd : decode bytes pc = .ok (.ifCond .ne o, 3)) (ho : 0 ≤ (pc : Int) + o) (hp : ((pc : Int) + o).toNat = pc') (hn : pc + 3 = pn)
    (HY : ¬ (u = v) → GoE p e below Fi (T.setTop (mkF m pc' Ls rest))) (HN : u = v → GoE p e below Fi (T.setTop (mkF m pn Ls rest))) : GoE p e below Fi (T.setTop (mkF m pc Ls (.int (cmpL u v) :: rest))) :=
  g_if_ne X hx hby hd ho hp hn (fun h => HY (fun z => h ((cl_eq u v).mpr z))) (fun h => HN ((cl_eq u v).mp h))
theorem g_icmp_lt (X : Stand p l e R s m args below meth c T locs cells slots) (hx : p.tables.exec = Jvm.exec) {o : Int} {pn : Nat} (hby : c.code = bytes) {x y : Int32} (hd : decode bytes pc = .ok (.if_icmp .lt o, 3)) (ho : 0 ≤ (pc : Int) + o) (hp : ((pc : Int) + o).toNat = pc') (hn : pc + 3 = pn)
    (HY : x < y → GoE p e below Fi (T.setTop (mkF m pc' Ls rest))) (HN : ¬ (x < y) → GoE p e below Fi (T.setTop (mkF m pn Ls rest))) : GoE p e below Fi (T.setTop (mkF m pc Ls (.int y :: .int x :: rest))) := by
  subst hn
  by_cases q : x < y
  · exact (HY q).pull fun t k => Jvm.Free.XS.icmpYes X.here hx rfl rfl (hb hby hd) rfl (tlt q).1 ho hp k
  · have q' : ¬ (x < y) := by first | exact q | exact Decidable.not_not.mp q
    exact (HN q').pull fun t k => Jvm.Free.XS.icmpNo X.here hx rfl (hb hby hd) rfl (flt q').1 k
theorem g_if_lt (X : Stand p l e R s m args below meth c T locs cells slots) (hx : p.tables.exec = Jvm.exec) {o : Int} {pn : Nat} (hby : c.code = bytes) {x : Int32} (hd : decode bytes pc = .ok (.ifCond .lt o, 3)) (ho : 0 ≤ (pc : Int) + o) (hp : ((pc : Int) + o).toNat = pc') (hn : pc + 3 = pn)
    (HY : x < 0 → GoE p e below Fi (T.setTop (mkF m pc' Ls rest))) (HN : ¬ (x < 0) → GoE p e below Fi (T.setTop (mkF m pn Ls rest))) : GoE p e below Fi (T.setTop (mkF m pc Ls (.int x :: rest))) := by
  subst hn
  by_cases q : x < 0
  · exact (HY q).pull fun t k => Jvm.Free.XS.ifYes X.here hx rfl rfl (hb hby hd) rfl ((if0 _ _).trans (tlt q).1) ho hp k
  · have q' : ¬ (x < 0) := by first | exact q | exact Decidable.not_not.mp q
    exact (HN q').pull fun t k => Jvm.Free.XS.ifNo X.here hx rfl (hb hby hd) rfl ((if0 _ _).trans (flt q').1) k
theorem g_ifL_lt (X : Stand p l e R s m args below meth c T locs cells slots) (hx : p.tables.exec = Jvm.exec) {o : Int} {pn : Nat} (hby : c.code = bytes) {u v : Int64} (hd : decode bytes pc = .ok (.ifCond .lt o, 3)) (ho : 0 ≤ (pc : Int) + o) (hp : ((pc : Int) + o).toNat = pc') (hn : pc + 3 = pn)
    (HY : u < v → GoE p e below Fi (T.setTop (mkF m pc' Ls rest))) (HN : ¬ (u < v) → GoE p e below Fi (T.setTop (mkF m pn Ls rest))) : GoE p e below Fi (T.setTop (mkF m pc Ls (.int (cmpL u v) :: rest))) :=
  g_if_lt X hx hby hd ho hp hn (fun h => HY ((cl_lt u v).mp h)) (fun h => HN (fun z => h ((cl_lt u v).mpr z)))
theorem g_icmp_ge (X : Stand p l e R s m args below meth c T locs cells slots) (hx : p.tables.exec = Jvm.exec) {o : Int} {pn : Nat} (hby : c.code = bytes) {x y : Int32} (hd : decode bytes pc = .ok (.if_icmp .ge o, 3)) (ho : 0 ≤ (pc : Int) + o) (hp : ((pc : Int) + o).toNat = pc') (hn : pc + 3 = pn)
    (HY : ¬ (x < y) → GoE p e below Fi (T.setTop (mkF m pc' Ls rest))) (HN : x < y → GoE p e below Fi (T.setTop (mkF m pn Ls rest))) : GoE p e below Fi (T.setTop (mkF m pc Ls (.int y :: .int x :: rest))) := by
  subst hn
  by_cases q : ¬ (x < y)
  · exact (HY q).pull fun t k => Jvm.Free.XS.icmpYes X.here hx rfl rfl (hb hby hd) rfl (flt q).2.1 ho hp k
  · have q' : x < y := by first | exact q | exact Decidable.not_not.mp q
    exact (HN q').pull fun t k => Jvm.Free.XS.icmpNo X.here hx rfl (hb hby hd) rfl (tlt q').2.1 k
theorem g_if_ge (X : Stand p l e R s m args below meth c T locs cells slots) (hx : p.tables.exec = Jvm.exec) {o : Int} {pn : Nat} (hby : c.code = bytes) {x : Int32} (hd : decode bytes pc = .ok (.ifCond .ge o, 3)) (ho : 0 ≤ (pc : Int) + o) (hp : ((pc : Int) + o).toNat = pc') (hn : pc + 3 = pn)
    (HY : ¬ (x < 0) → GoE p e below Fi (T.setTop (mkF m pc' Ls rest))) (HN : x < 0 → GoE p e below Fi (T.setTop (mkF m pn Ls rest))) : GoE p e below Fi (T.setTop (mkF m pc Ls (.int x :: rest))) := by
  subst hn
  by_cases q : ¬ (x < 0)
  · exact (HY q).pull fun t k => Jvm.Free.XS.ifYes X.here hx rfl rfl (hb hby hd) rfl ((if0 _ _).trans (flt q).2.1) ho hp k
  · have q' : x < 0 := by first | exact q | exact Decidable.not_not.mp q
    exact (HN q').pull fun t k => Jvm.Free.XS.ifNo X.here hx rfl (hb hby hd) rfl ((if0 _ _).trans (tlt q').2.1) k
theorem g_ifL_ge (X : Stand p l e R s m args below meth c T locs cells slots) (hx : p.tables.exec = Jvm.exec) {o : Int} {pn : Nat} (hby : c.code = bytes) {u v : Int64} (hd : decode bytes pc = .ok (.ifCond .ge o, 3)) (ho : 0 ≤ (pc : Int) + o) (hp : ((pc : Int) + o).toNat = pc') (hn : pc + 3 = pn)
    (HY : ¬ (u < v) → GoE p e below Fi (T.setTop (mkF m pc' Ls rest))) (HN : u < v → GoE p e below Fi (T.setTop (mkF m pn Ls rest))) : GoE p e below Fi (T.setTop (mkF m pc Ls (.int (cmpL u v) :: rest))) :=
  g_if_ge X hx hby hd ho hp hn (fun h => HY (fun z => h ((cl_lt u v).mpr z))) (fun h => HN ((cl_lt u v).mp h))
theorem g_icmp_gt (X : Stand p l e R s m args below meth c T locs cells slots) (hx : p.tables.exec = Jvm.exec) {o : Int} {pn : Nat} (hby : c.code = bytes) {x y : Int32} (hd : decode bytes pc = .ok (.if_icmp .gt o, 3)) (ho : 0 ≤ (pc : Int) + o) (hp : ((pc : Int) + o).toNat = pc') (hn : pc + 3 = pn)
    (HY : y < x → GoE p e below Fi (T.setTop (mkF m pc' Ls rest))) (HN : ¬ (y < x) → GoE p e below Fi (T.setTop (mkF m pn Ls rest))) : GoE p e below Fi (T.setTop (mkF m pc Ls (.int y :: .int x :: rest))) := by
  subst hn
  by_cases q : y < x
  · exact (HY q).pull fun t k => Jvm.Free.XS.icmpYes X.here hx rfl rfl (hb hby hd) rfl (tlt q).2.2.1 ho hp k
  · have q' : ¬ (y < x) := by first | exact q | exact Decidable.not_not.mp q
    exact (HN q').pull fun t k => Jvm.Free.XS.icmpNo X.here hx rfl (hb hby hd) rfl (flt q').2.2.1 k
theorem g_if_gt (X : Stand p l e R s m args below meth c T locs cells slots) (hx : p.tables.exec = Jvm.exec) {o : Int} {pn : Nat} (hby : c.code = bytes) {x : Int32} (hd : decode bytes pc = .ok (.ifCond .gt o, 3)) (ho : 0 ≤ (pc : Int) + o) (hp : ((pc : Int) + o).toNat = pc') (hn : pc + 3 = pn)
    (HY : 0 < x → GoE p e below Fi (T.setTop (mkF m pc' Ls rest))) (HN : ¬ (0 < x) → GoE p e below Fi (T.setTop (mkF m pn Ls rest))) : GoE p e below Fi (T.setTop (mkF m pc Ls (.int x :: rest))) := by
  subst hn
  by_cases q : 0 < x
  · exact (HY q).pull fun t k => Jvm.Free.XS.ifYes X.here hx rfl rfl (hb hby hd) rfl ((if0 _ _).trans (tlt q).2.2.1) ho hp k
  · have q' : ¬ (0 < x) := by first | exact q | exact Decidable.not_not.mp q
    exact (HN q').pull fun t k => Jvm.Free.XS.ifNo X.here hx rfl (hb hby hd) rfl ((if0 _ _).trans (flt q').2.2.1) k
theorem g_ifL_gt (X : Stand p l e R s m args below meth c T locs cells slots) (hx : p.tables.exec = Jvm.exec) {o : Int} {pn : Nat} (hby : c.code = bytes) {u v : Int64} (hd : decode bytes pc = .ok (.ifCond .gt o, 3)) (ho : 0 ≤ (pc : Int) + o) (hp : ((pc : Int) + o).toNat = pc') (hn : pc + 3 = pn)
    (HY : v < u → GoE p e below Fi (T.setTop (mkF m pc' Ls rest))) (HN : ¬ (v < u) → GoE p e below Fi (T.setTop (mkF m pn Ls rest))) : GoE p e below Fi (T.setTop (mkF m pc Ls (.int (cmpL u v) :: rest))) :=
  g_if_gt X hx hby hd ho hp hn (fun h => HY ((cl_gt u v).mp h)) (fun h => HN (fun z => h ((cl_gt u v).mpr z)))
theorem g_icmp_le (X : Stand p l e R s m args below meth c T locs cells slots) (hx : p.tables.exec = Jvm.exec) {o : Int} {pn : Nat} (hby : c.code = bytes) {x y : Int32} (hd : decode bytes pc = .ok (.if_icmp .le o, 3)) (ho : 0 ≤ (pc : Int) + o) (hp : ((pc : Int) + o).toNat = pc') (hn : pc + 3 = pn)
    (HY : ¬ (y < x) → GoE p e below Fi (T.setTop (mkF m pc' Ls rest))) (HN : y < x → GoE p e below Fi (T.setTop (mkF m pn Ls rest))) : GoE p e below Fi (T.setTop (mkF m pc Ls (.int y :: .int x :: rest))) := by
  subst hn
  by_cases q : ¬ (y < x)
  · exact (HY q).pull fun t k => Jvm.Free.XS.icmpYes X.here hx rfl rfl (hb hby hd) rfl (flt q).2.2.2 ho hp k
  · have q' : y < x := by first | exact q | exact Decidable.not_not.mp q
    exact (HN q').pull fun t k => Jvm.Free.XS.icmpNo X.here hx rfl (hb hby hd) rfl (tlt q').2.2.2 k
theorem g_if_le (X : Stand p l e R s m args below meth c T locs cells slots) (hx : p.tables.exec = Jvm.exec) {o : Int} {pn : Nat} (hby : c.code = bytes) {x : Int32} (hd : decode bytes pc = .ok (.ifCond .le o, 3)) (ho : 0 ≤ (pc : Int) + o) (hp : ((pc : Int) + o).toNat = pc') (hn : pc + 3 = pn)
    (HY : ¬ (0 < x) → GoE p e below Fi (T.setTop (mkF m pc' Ls rest))) (HN : 0 < x → GoE p e below Fi (T.setTop (mkF m pn Ls rest))) : GoE p e below Fi (T.setTop (mkF m pc Ls (.int x :: rest))) := by
  subst hn
  by_cases q : ¬ (0 < x)
  · exact (HY q).pull fun t k => Jvm.Free.XS.ifYes X.here hx rfl rfl (hb hby hd) rfl ((if0 _ _).trans (flt q).2.2.2) ho hp k
  · have q' : 0 < x := by first | exact q | exact Decidable.not_not.mp q
    exact (HN q').pull fun t k => Jvm.Free.XS.ifNo X.here hx rfl (hb hby hd) rfl ((if0 _ _).trans (tlt q').2.2.2) k
theorem g_ifL_le (X : Stand p l e R s m args below meth c T locs cells slots) (hx : p.tables.exec = Jvm.exec) {o : Int} {pn : Nat} (hby : c.code = bytes) {u v : Int64} (hd : decode bytes pc = .ok (.ifCond .le o, 3)) (ho : 0 ≤ (pc : Int) + o) (hp : ((pc : Int) + o).toNat = pc') (hn : pc + 3 = pn)
    (HY : ¬ (v < u) → GoE p e below Fi (T.setTop (mkF m pc' Ls rest))) (HN : v < u → GoE p e below Fi (T.setTop (mkF m pn Ls rest))) : GoE p e below Fi (T.setTop (mkF m pc Ls (.int (cmpL u v) :: rest))) :=
  g_if_le X hx hby hd ho hp hn (fun h => HY (fun z => h ((cl_gt u v).mpr z))) (fun h => HN ((cl_gt u v).mp h))
theorem g_ifnull_no (X : Stand p l e R s m args below meth c T locs cells slots) (hx : p.tables.exec = Jvm.exec) {o : Int} {pn : Nat} (hby : c.code = bytes) {b : Addr} (hd : decode bytes pc = .ok (.ifnull o, 3)) (hn : pc + 3 = pn)
    (H : GoE p e below Fi (T.setTop (mkF m pn Ls rest))) : GoE p e below Fi (T.setTop (mkF m pc Ls (.ref b :: rest))) := by
  subst hn; exact H.pull fun t k => Jvm.Free.XS.ifnullNo X.here hx rfl (hb hby hd) rfl k
theorem g_ifnull_yes (X : Stand p l e R s m args below meth c T locs cells slots) (hx : p.tables.exec = Jvm.exec) {o : Int} (hby : c.code = bytes) (hd : decode bytes pc = .ok (.ifnull o, 3)) (ho : 0 ≤ (pc : Int) + o) (hp : ((pc : Int) + o).toNat = pc')
    (H : GoE p e below Fi (T.setTop (mkF m pc' Ls rest))) : GoE p e below Fi (T.setTop (mkF m pc Ls (.null :: rest))) :=
  H.pull fun t k => Jvm.Free.XS.ifnullYes X.here hx rfl rfl (hb hby hd) rfl ho hp k
theorem g_ifnonnull_yes (X : Stand p l e R s m args below meth c T locs cells slots) (hx : p.tables.exec = Jvm.exec) {o : Int} (hby : c.code = bytes) {b : Addr} (hd : decode bytes pc = .ok (.ifnonnull o, 3)) (ho : 0 ≤ (pc : Int) + o) (hp : ((pc : Int) + o).toNat = pc')
    (H : GoE p e below Fi (T.setTop (mkF m pc' Ls rest))) : GoE p e below Fi (T.setTop (mkF m pc Ls (.ref b :: rest))) :=
  H.pull fun t k => Jvm.Free.XT.ifnonnullYes X.here hx rfl rfl (hb hby hd) rfl ho hp k
theorem g_ifnonnull_no (X : Stand p l e R s m args below meth c T locs cells slots) (hx : p.tables.exec = Jvm.exec) {o : Int} {pn : Nat} (hby : c.code = bytes) (hd : decode bytes pc = .ok (.ifnonnull o, 3)) (hn : pc + 3 = pn)
    (H : GoE p e below Fi (T.setTop (mkF m pn Ls rest))) : GoE p e below Fi (T.setTop (mkF m pc Ls (.null :: rest))) := by
  subst hn; exact H.pull fun t k => Jvm.Free.XT.ifnonnullNo X.here hx rfl (hb hby hd) rfl k
theorem g_acmp_yes (X : Stand p l e R s m args below meth c T locs cells slots) (hx : p.tables.exec = Jvm.exec) {o : Int} (hby : c.code = bytes) {cd : ClassFile.ACond} {x y : Value} (hd : decode bytes pc = .ok (.if_acmp cd o, 3)) (ho : 0 ≤ (pc : Int) + o) (hp : ((pc : Int) + o).toNat = pc') (h1 : x.isRef = true) (h2 : y.isRef = true) (hc : Jvm.Free.XT.acmp cd x y = true)
    (H : GoE p e below Fi (T.setTop (mkF m pc' Ls rest))) : GoE p e below Fi (T.setTop (mkF m pc Ls (y :: x :: rest))) :=
  H.pull fun t k => Jvm.Free.XT.acmpYes X.here hx rfl rfl (hb hby hd) rfl h1 h2 hc ho hp k
theorem g_acmp_no (X : Stand p l e R s m args below meth c T locs cells slots) (hx : p.tables.exec = Jvm.exec) {o : Int} {pn : Nat} (hby : c.code = bytes) {cd : ClassFile.ACond} {x y : Value} (hd : decode bytes pc = .ok (.if_acmp cd o, 3)) (hn : pc + 3 = pn) (h1 : x.isRef = true) (h2 : y.isRef = true) (hc : Jvm.Free.XT.acmp cd x y = false)
    (H : GoE p e below Fi (T.setTop (mkF m pn Ls rest))) : GoE p e below Fi (T.setTop (mkF m pc Ls (y :: x :: rest))) := by
  subst hn; exact H.pull fun t k => Jvm.Free.XT.acmpNo X.here hx rfl (hb hby hd) rfl h1 h2 hc k
theorem g_retI (X : Stand p l e R s m args below meth c T locs cells slots) (hx : p.tables.exec = Jvm.exec) {z : Int32} (hby : c.code = bytes) (hd : decode bytes pc = .ok (.ireturn, 1)) (hret : meth.sig.returnType = some .int) (hlk : meth.locks = false) (hc : cells ≤ rc) (hs : slots ≤ rs) (hQ : Q (some (.int z)) T.heap locs) : Go p e below s rc rs Q (T.setTop (mkF m pc Ls (.int z :: rest))) := by
  obtain ⟨fs, hr, hrun, hended, hW, hsame⟩ := X.leave (v := some (.int z)) (fun h => by first | rfl | (rw [hret] at h; cases h)) hlk
  exact ⟨_, _, retI X hx hret (hb hby hd) hr, hrun, hended, _, _, rfl, hQ, ⟨_, rfl⟩, hW, hsame.mono hc hs⟩
theorem g_retN (X : Stand p l e R s m args below meth c T locs cells slots) (hx : p.tables.exec = Jvm.exec) {z w : Int32} {t : FieldType} (hby : c.code = bytes) (hd : decode bytes pc = .ok (.ireturn, 1)) (hret : meth.sig.returnType = some t) (ht : t = .boolean ∨ t = .byte ∨ t = .char ∨ t = .short) (hnar : nar t z = w) (hlk : meth.locks = false) (hc : cells ≤ rc) (hs : slots ≤ rs) (hQ : Q (some (.int w)) T.heap locs) : Go p e below s rc rs Q (T.setTop (mkF m pc Ls (.int z :: rest))) := by
  subst hnar
  obtain ⟨fs, hr, hrun, hended, hW, hsame⟩ := X.leave (v := some (.int (nar t z))) (fun h => by rw [hret] at h; cases h) hlk
  exact ⟨_, _, retN X hx hret ht (hb hby hd) hr, hrun, hended, _, _, rfl, hQ, ⟨_, rfl⟩, hW, hsame.mono hc hs⟩
theorem g_retL (X : Stand p l e R s m args below meth c T locs cells slots) (hx : p.tables.exec = Jvm.exec) {z : Int64} (hby : c.code = bytes) (hd : decode bytes pc = .ok (.lreturn, 1)) (hret : meth.sig.returnType = some .long) (hlk : meth.locks = false) (hc : cells ≤ rc) (hs : slots ≤ rs) (hQ : Q (some (.long z)) T.heap locs) : Go p e below s rc rs Q (T.setTop (mkF m pc Ls [.long z])) := by
  obtain ⟨fs, hr, hrun, hended, hW, hsame⟩ := X.leave (v := some (.long z)) (fun h => by first | rfl | (rw [hret] at h; cases h)) hlk
  exact ⟨_, _, X.lreturnOut hx hret (hb hby hd) hr, hrun, hended, _, _, rfl, hQ, ⟨_, rfl⟩, hW, hsame.mono hc hs⟩
theorem g_retA (X : Stand p l e R s m args below meth c T locs cells slots) (hx : p.tables.exec = Jvm.exec) {z : Value} {t : FieldType} (hby : c.code = bytes) (hd : decode bytes pc = .ok (.areturn, 1)) (hz : z.isRef = true) (hret : meth.sig.returnType = some t) (ht : t.isReference = true) (hlk : meth.locks = false) (hc : cells ≤ rc) (hs : slots ≤ rs) (hQ : Q (some z) T.heap locs) : Go p e below s rc rs Q (T.setTop (mkF m pc Ls [z])) := by
  obtain ⟨fs, hr, hrun, hended, hW, hsame⟩ := X.leave (v := some z) (fun h => by first | rfl | (rw [hret] at h; cases h)) hlk
  exact ⟨_, _, X.areturnOut hx hz hret ht (hb hby hd) hr, hrun, hended, _, _, rfl, hQ, ⟨_, rfl⟩, hW, hsame.mono hc hs⟩
theorem g_retV (X : Stand p l e R s m args below meth c T locs cells slots) (hx : p.tables.exec = Jvm.exec)  (hby : c.code = bytes) (hd : decode bytes pc = .ok (.return_, 1)) (hret : meth.sig.returnType = none) (hlk : meth.locks = false) (hc : cells ≤ rc) (hs : slots ≤ rs) (hQ : Q (none) T.heap locs) : Go p e below s rc rs Q (T.setTop (mkF m pc Ls [])) := by
  obtain ⟨fs, hr, hrun, hended, hW, hsame⟩ := X.leave (v := none) (fun h => by first | rfl | (rw [hret] at h; cases h)) hlk
  exact ⟨_, _, X.returnOut hx hret (hb hby hd) hr, hrun, hended, _, _, rfl, hQ, ⟨_, rfl⟩, hW, hsame.mono hc hs⟩
theorem g_callS (X : Stand p l e R s m args below meth c T locs cells slots) (hx : p.tables.exec = Jvm.exec) {Z : State} {a0 : Array Value} (hZ : Z.Warmed39 s.vm) {own : String} (hown : s.vm.findClass own = some m.cls) {y : MethodName} {cb : ByteArray} {maxL : Nat} {ret : Option FieldType} {rm : Room} {as' : Array Value} {h : Heap} {Q' : Option Value → Heap → List Loc → Prop} {W : Nat} {index : Nat} {argsL : List Value} (hby : c.code = bytes) (hd : decode bytes pc = .ok (.invokestatic index, 3)) (hp : pc + 3 = pc') (hml : Ls.size = c.maxLocals)
    (w1 : (Jvm.Cond.methodLink own index y).before a0 Z = true) (w2 : (Jvm.Cond.static y).before a0 Z = true) (w3 : (Jvm.Cond.initialized y.cls).before a0 Z = true) (w4 : (Jvm.Cond.code y cb maxL ret).before a0 Z = true) (hy : y.cls ≠ "java/lang/invoke/MethodHandle" ∧ y.cls ≠ "java/lang/invoke/VarHandle")
    (C : Ctr l Z y cb maxL ret [] rm as' h Q') (eT : T.heap = h) (hfr : rm.frames + 1 ≤ R.frames) (hlo : W + (maxL + 11) + rm.locals ≤ R.locals) (hce : cells + rm.cells ≤ R.cells) (hsl : slots + rm.slots ≤ R.slots) {stk : List Value} {psig : MethodDescriptor} (has : argsL.toArray = as') (hpd : parseMethodDescriptor y.desc = some psig) (hlen : argsL.length = psig.parameters.length) (hst : stk = argsL.reverse ++ rest) (hW : 2 * 0 + (rest.map fun v => v.category).sum ≤ W)
    (K : ∀ (v : Option Value) (T' : State) (L : List Loc), Stand p l e R s m args below meth c T' (locs ++ L) (cells + rm.cells) (slots + rm.slots) → Q' v T'.heap L → GoE p e below Fi (T'.setTop (mkF m pc' Ls (v.toList ++ rest)))) : GoE p e below Fi (T.setTop (mkF m pc Ls stk)) := by
  subst hp hst has
  obtain ⟨v, _, ⟨T4, L4, k4, n4⟩, -, X4, ⟨Lc, hQ, l4, y4, z4⟩, st⟩ := Jvm.LawKit.callS X hx (y := y) hown (mvT hZ w1) (mvT hZ w2) (mvT hZ w3) (mvT hZ w4) hy (backOf (W := W) C hZ w4 w3 hfr hlo) (g := mkF m pc Ls (argsL.reverse ++ rest)) rfl hml (argsL := argsL) (rest := rest) (fun sig h => by rw [hpd] at h; cases h; exact hlen) rfl hW (hb hby hd) (fun _ _ => ⟨rfl, eT, hce, hsl⟩)
  dsimp only [Pt.U, Pt.locs, Pt.cells, Pt.slots] at X4 l4 y4 z4 st hQ
  subst l4 y4 z4
  exact (K v T4 Lc X4 hQ).pull st
theorem g_callI (X : Stand p l e R s m args below meth c T locs cells slots) (hx : p.tables.exec = Jvm.exec) {Z : State} {a0 : Array Value} (hZ : Z.Warmed39 s.vm) {own : String} (hown : s.vm.findClass own = some m.cls) {y : MethodName} {cb : ByteArray} {maxL : Nat} {rm : Room} {as' : Array Value} {h : Heap} {Q' : Option Value → Heap → List Loc → Prop} {W : Nat} {index : Nat} {argsL : List Value} {b : Addr} (hby : c.code = bytes) (hd : decode bytes pc = .ok (.invokespecial index, 3)) (hp : pc + 3 = pc') (hml : Ls.size = c.maxLocals)
    (w1 : (Jvm.Cond.methodLink own index y).before a0 Z = true) (w2 : (Jvm.Cond.instanceMethod y).before a0 Z = true) (w3 : (Jvm.Cond.initialized y.cls).before a0 Z = true) (w4 : (Jvm.Cond.code y cb maxL none).before a0 Z = true) (hin : y.name = "<init>") (hy : y.cls ≠ "java/lang/invoke/MethodHandle" ∧ y.cls ≠ "java/lang/invoke/VarHandle")
    (C : Ctr l Z y cb maxL none [] rm as' h Q') (eT : T.heap = h) (hfr : rm.frames + 1 ≤ R.frames) (hlo : W + (maxL + 11) + rm.locals ≤ R.locals) (hce : cells + rm.cells ≤ R.cells) (hsl : slots + rm.slots ≤ R.slots) {stk : List Value} {psig : MethodDescriptor} (has : (Value.ref b :: argsL).toArray = as') (hpd : parseMethodDescriptor y.desc = some psig) (hlen : argsL.length = psig.parameters.length) (hst : stk = argsL.reverse ++ Value.ref b :: rest) (hW : 2 * 0 + (rest.map fun v => v.category).sum ≤ W)
    (K : ∀ (v : Option Value) (T' : State) (L : List Loc), Stand p l e R s m args below meth c T' (locs ++ L) (cells + rm.cells) (slots + rm.slots) → Q' v T'.heap L → GoE p e below Fi (T'.setTop (mkF m pc' Ls (v.toList ++ rest)))) : GoE p e below Fi (T.setTop (mkF m pc Ls stk)) := by
  subst hp hst has
  obtain ⟨v, _, ⟨T4, L4, k4, n4⟩, -, X4, ⟨Lc, hQ, l4, y4, z4⟩, st⟩ := X.specialBack hx (y := y) hin hown (mvT hZ w1) (mvT hZ w2) (mvT hZ w4) hy (backOf (W := W) C hZ w4 w3 hfr hlo) (g := mkF m pc Ls (argsL.reverse ++ Value.ref b :: rest)) rfl hml (Steps.refl _) (a := b) (argsL := argsL) (rest := rest) (fun sig h => by rw [hpd] at h; cases h; exact hlen) rfl hW (hb hby hd) (fun _ _ => ⟨rfl, eT, hce, hsl⟩)
  dsimp only [Pt.U, Pt.locs, Pt.cells, Pt.slots] at X4 l4 y4 z4 st hQ
  subst l4 y4 z4
  exact (K v T4 Lc X4 hQ).pull fun t k => st.trans k
theorem g_callV (X : Stand p l e R s m args below meth c T locs cells slots) (hx : p.tables.exec = Jvm.exec) {Z : State} {a0 : Array Value} (hZ : Z.Warmed39 s.vm) {own : String} (hown : s.vm.findClass own = some m.cls) {y : MethodName} {cb : ByteArray} {maxL : Nat} {ret : Option FieldType} {rm : Room} {as' : Array Value} {h : Heap} {Q' : Option Value → Heap → List Loc → Prop} {W : Nat} {index : Nat} {argsL : List Value} {b : Addr} {z : MethodName} {C0 : String} (hby : c.code = bytes) (hd : decode bytes pc = .ok (.invokevirtual index, 3)) (hp : pc + 3 = pc') (hml : Ls.size = c.maxLocals)
    (w1 : (Jvm.Cond.methodLink own index y).before a0 Z = true) (w2 : (Jvm.Cond.declares y).before a0 Z = true) (w5 : (Jvm.Cond.selects C0 y z).before a0 Z = true) (nf : NotFace s y) (w6 : (Jvm.Cond.instanceMethod z).before a0 Z = true) (w3 : (Jvm.Cond.initialized z.cls).before a0 Z = true) (w4 : (Jvm.Cond.code z cb maxL ret).before a0 Z = true) (hy : y.cls ≠ "java/lang/invoke/MethodHandle" ∧ y.cls ≠ "java/lang/invoke/VarHandle")
    (C : Ctr l Z z cb maxL ret [] rm as' h Q') (eT : T.heap = h) (E : Exa Z h b C0) (hfr : rm.frames + 1 ≤ R.frames) (hlo : W + (maxL + 11) + rm.locals ≤ R.locals) (hce : cells + rm.cells ≤ R.cells) (hsl : slots + rm.slots ≤ R.slots) {stk : List Value} {psig : MethodDescriptor} (has : (Value.ref b :: argsL).toArray = as') (hpd : parseMethodDescriptor y.desc = some psig) (hlen : argsL.length = psig.parameters.length) (hst : stk = argsL.reverse ++ Value.ref b :: rest) (hW : 2 * 0 + (rest.map fun v => v.category).sum ≤ W)
    (K : ∀ (v : Option Value) (T' : State) (L : List Loc), Stand p l e R s m args below meth c T' (locs ++ L) (cells + rm.cells) (slots + rm.slots) → Q' v T'.heap L → GoE p e below Fi (T'.setTop (mkF m pc' Ls (v.toList ++ rest)))) : GoE p e below Fi (T.setTop (mkF m pc Ls stk)) := by
  subst hp hst has
  obtain ⟨cq, kq, qa, qb, qc⟩ := isOf hZ eT E
  obtain ⟨v, _, ⟨T4, L4, k4, n4⟩, -, X4, ⟨Lc, hQ, l4, y4, z4⟩, st⟩ := X.virtualBack hx (y := y) (z := z) hown (mvT hZ w1) (mvT hZ w2) nf (mvT hZ w5) (mvT hZ w6) hy (backOf (W := W) C hZ w4 w3 hfr hlo) qa qc (g := mkF m pc Ls (argsL.reverse ++ Value.ref b :: rest)) rfl hml (Steps.refl _) (argsL := argsL) (rest := rest) (fun sig h => by rw [hpd] at h; cases h; exact hlen) rfl hW (hb hby hd) (fun _ _ => ⟨rfl, eT, hce, hsl⟩)
  dsimp only [Pt.U, Pt.locs, Pt.cells, Pt.slots] at X4 l4 y4 z4 st hQ
  subst l4 y4 z4
  exact (K v T4 Lc X4 hQ).pull fun t k => st.trans k
theorem g_new (X : Stand p l e R s m args below meth c T locs cells slots) (hx : p.tables.exec = Jvm.exec) {Z : State} {a0 : Array Value} (hZ : Z.Warmed39 s.vm) {own : String} (hown : s.vm.findClass own = some m.cls) {C : String} {index n : Nat} {h : Heap} (hby : c.code = bytes) (hd : decode bytes pc = .ok (.new index, 3)) (hp : pc + 3 = pc') (w1 : (Jvm.Cond.classLink own index C).before a0 Z = true) (w2 : (Jvm.Cond.instantiable C n).before a0 Z = true) (w3 : (Jvm.Cond.initialized C).before a0 Z = true) (eT : T.heap = h) (hce : cells + 1 ≤ R.cells) (hsl : slots + n ≤ R.slots)
    (K : ∀ (T' : State) (b : Addr), b = h.size → Stand p l e R s m args below meth c T' locs (cells + 1) (slots + n) → Ext h T'.heap → Exa Z T'.heap b C → (∀ {O nm d : String} {ty : FieldType}, Laid Z a0 C O nm d → parseFieldDescriptor d = some ty → Fld Z T'.heap b O nm d (defaultValue ty)) → GoE p e below Fi (T'.setTop (mkF m pc' Ls (.ref b :: rest)))) : GoE p e below Fi (T.setTop (mkF m pc Ls rest)) := by
  subst hp
  obtain ⟨T2, h2, X2, e2, E2, A2, D2, -, st2⟩ := newO X hx hZ hown w1 w2 w3 eT (g := mkF m pc Ls rest) rfl (hb hby hd) hce hsl
  subst e2
  exact (K T2 _ rfl X2 E2 A2 D2).pull st2
theorem g_initO (X : Stand p l e R s m args below meth c T locs cells slots) (hx : p.tables.exec = Jvm.exec) {Z : State} {a0 : Array Value} (hZ : Z.Warmed39 s.vm) {own : String} (hown : s.vm.findClass own = some m.cls) {index : Nat} {h : Heap} {cb : ByteArray} {b : Addr} {W maxL : Nat} (hby : c.code = bytes) (hd : decode bytes pc = .ok (.invokespecial index, 3)) (hp : pc + 3 = pc') (hml : Ls.size = c.maxLocals)
    (F : ∃ T', Stand p l e R s m args below meth c T' locs cells slots ∧ T'.heap = h ∧ ∀ target, Steps p.tables e below (T'.setTop (mkF m (pc + 3) Ls rest)) target → Steps p.tables e below (T.setTop (mkF m pc Ls (.ref b :: rest))) target)
    (K : ∀ T' : State, Stand p l e R s m args below meth c T' locs cells slots → T'.heap = h → GoE p e below Fi (T'.setTop (mkF m pc' Ls rest))) : GoE p e below Fi (T.setTop (mkF m pc Ls (.ref b :: rest))) := by
  subst hp
  obtain ⟨T2, X2, e2, st2⟩ := F
  exact (K T2 X2 e2).pull st2
theorem g_get (X : Stand p l e R s m args below meth c T locs cells slots) (hx : p.tables.exec = Jvm.exec) {Z : State} {a0 : Array Value} (hZ : Z.Warmed39 s.vm) {own : String} (hown : s.vm.findClass own = some m.cls) {O n d : String} {index : Nat} {h : Heap} {a : Addr} {v : Value} (hby : c.code = bytes) (hd : decode bytes pc = .ok (.getfield index, 3)) (hp : pc + 3 = pc') (w : (Jvm.Cond.fieldLink own index O n d).before a0 Z = true) (eT : T.heap = h) (F : Fld Z h a O n d v)
    (K : ∀ T' : State, Stand p l e R s m args below meth c T' locs cells slots → T'.heap = h → GoE p e below Fi (T'.setTop (mkF m pc' Ls (v :: rest)))) : GoE p e below Fi (T.setTop (mkF m pc Ls (.ref a :: rest))) := by
  subst hp
  obtain ⟨T2, X2, e2, st2⟩ := getF X hx hZ hown (host := "") (Or.inl w) Via.refl eT F (g := mkF m pc Ls (.ref a :: rest)) rfl rfl (hb hby hd)
  exact (K T2 X2 e2).pull st2
theorem g_put (X : Stand p l e R s m args below meth c T locs cells slots) (hx : p.tables.exec = Jvm.exec) {Z : State} {a0 : Array Value} (hZ : Z.Warmed39 s.vm) {own : String} (hown : s.vm.findClass own = some m.cls) {O n d C : String} {index kk : Nat} {ty : FieldType} {h : Heap} {a : Addr} {v old : Value} (hby : c.code = bytes) (hd : decode bytes pc = .ok (.putfield index, 3)) (hp : pc + 3 = pc') (w : (Jvm.Cond.fieldLink own index O n d).before a0 Z = true) (eT : T.heap = h) (F : Fld Z h a O n d old) (E : Exa Z h a C) (Lf : (Jvm.Cond.lays C O n d).before a0 Z = true ∨ ((Jvm.Cond.laysFinal C O n d).before a0 Z = true ∧ own = O ∧ meth.name = "<init>")) (wi : (Jvm.Cond.instantiable C kk).before a0 Z = true) (hty : parseFieldDescriptor d = some ty) (hn : narrow ty v = v) (hf : fits ty v = true)
    (K : ∀ T' : State, Stand p l e R s m args below meth c T' (locs ++ [⟨a, RoadKit.slotOf Z O n d⟩]) cells slots → Wr h T'.heap a (RoadKit.slotOf Z O n d) v → GoE p e below Fi (T'.setTop (mkF m pc' Ls rest))) : GoE p e below Fi (T.setTop (mkF m pc Ls (v :: .ref a :: rest))) := by
  subst hp
  obtain ⟨T2, h2, X2, e2, W2, st2⟩ := putF X hx hZ hown (host := "") (Or.inl w) Via.refl eT F E Lf wi hty hn hf (g := mkF m pc Ls (v :: .ref a :: rest)) rfl rfl (hb hby hd)
  subst e2
  exact (K T2 X2 W2).pull st2
theorem g_getS (X : Stand p l e R s m args below meth c T locs cells slots) (hx : p.tables.exec = Jvm.exec) {Z : State} {a0 : Array Value} (hZ : Z.Warmed39 s.vm) {own : String} (hown : s.vm.findClass own = some m.cls) {O n d : String} {index : Nat} {h : Heap} {v : Value} (hby : c.code = bytes) (hd : decode bytes pc = .ok (.getstatic index, 3)) (hp : pc + 3 = pc') (w : (Jvm.Cond.fieldLink own index O n d).before a0 Z = true) (eT : T.heap = h) (F : Sta Z h O n d v)
    (K : ∀ T' : State, Stand p l e R s m args below meth c T' locs cells slots → T'.heap = h → GoE p e below Fi (T'.setTop (mkF m pc' Ls (v :: rest)))) : GoE p e below Fi (T.setTop (mkF m pc Ls rest)) := by
  subst hp
  obtain ⟨T2, X2, e2, st2⟩ := getS X hx hZ hown (host := "") w Via.refl eT F (g := mkF m pc Ls rest) rfl (hb hby hd)
  exact (K T2 X2 e2).pull st2
theorem g_iaload (X : Stand p l e R s m args below meth c T locs cells slots) (hx : p.tables.exec = Jvm.exec) {Z : State} (hZ : Z.Warmed39 s.vm) {h : Heap} {a : Addr} {k : ClassId} {n : Int32} {vs : List Value} {dv : Value} {j : Int32} {v : Value} (hby : c.code = bytes) (hd : decode bytes pc = .ok (.iaload, 1)) (hp : pc + 1 = pc') (eT : T.heap = h) (F : Arv Z h a k .int n vs dv) (hj : ¬ j < 0 ∧ j < n) (u : vs.getD j.toNatClampNeg dv = v)
    (H : GoE p e below Fi (T.setTop (mkF m pc' Ls (v :: rest)))) : GoE p e below Fi (T.setTop (mkF m pc Ls (.int j :: .ref a :: rest))) := by
  subst hp
  obtain ⟨cl, A, q1, S, q3, Hh, G⟩ := F
  exact H.pull fun t k => X.iaload hx (by rw [eT]; exact A.1) (State.isArrayOf_alike hZ.alike A.2.1) A.2.2 (inb_of S hj) (Hh.at (inb_of S hj) u) (g := mkF m pc Ls (.int j :: .ref a :: rest)) rfl rfl (hb hby hd) _ k
theorem g_laload (X : Stand p l e R s m args below meth c T locs cells slots) (hx : p.tables.exec = Jvm.exec) {Z : State} (hZ : Z.Warmed39 s.vm) {h : Heap} {a : Addr} {k : ClassId} {n : Int32} {vs : List Value} {dv : Value} {j : Int32} {v : Value} (hby : c.code = bytes) (hd : decode bytes pc = .ok (.laload, 1)) (hp : pc + 1 = pc') (eT : T.heap = h) (F : Arv Z h a k .long n vs dv) (hj : ¬ j < 0 ∧ j < n) (u : vs.getD j.toNatClampNeg dv = v)
    (H : GoE p e below Fi (T.setTop (mkF m pc' Ls (v :: rest)))) : GoE p e below Fi (T.setTop (mkF m pc Ls (.int j :: .ref a :: rest))) := by
  subst hp
  obtain ⟨cl, A, q1, S, q3, Hh, G⟩ := F
  exact H.pull fun t k => X.laload hx (by rw [eT]; exact A.1) (State.isArrayOf_alike hZ.alike A.2.1) A.2.2 (inb_of S hj) (Hh.at (inb_of S hj) u) (g := mkF m pc Ls (.int j :: .ref a :: rest)) rfl rfl (hb hby hd) _ k
theorem g_caload (X : Stand p l e R s m args below meth c T locs cells slots) (hx : p.tables.exec = Jvm.exec) {Z : State} (hZ : Z.Warmed39 s.vm) {h : Heap} {a : Addr} {k : ClassId} {n : Int32} {vs : List Value} {dv : Value} {j : Int32} {v : Value} (hby : c.code = bytes) (hd : decode bytes pc = .ok (.caload, 1)) (hp : pc + 1 = pc') (eT : T.heap = h) (F : Arv Z h a k .char n vs dv) (hj : ¬ j < 0 ∧ j < n) (u : vs.getD j.toNatClampNeg dv = v)
    (H : GoE p e below Fi (T.setTop (mkF m pc' Ls (v :: rest)))) : GoE p e below Fi (T.setTop (mkF m pc Ls (.int j :: .ref a :: rest))) := by
  subst hp
  obtain ⟨cl, A, q1, S, q3, Hh, G⟩ := F
  exact H.pull fun t k => X.caload hx (by rw [eT]; exact A.1) (State.isArrayOf_alike hZ.alike A.2.1) A.2.2 (inb_of S hj) (Hh.at (inb_of S hj) u) (g := mkF m pc Ls (.int j :: .ref a :: rest)) rfl rfl (hb hby hd) _ k
theorem g_baload (X : Stand p l e R s m args below meth c T locs cells slots) (hx : p.tables.exec = Jvm.exec) {Z : State} (hZ : Z.Warmed39 s.vm) {h : Heap} {a : Addr} {k : ClassId} {n : Int32} {vs : List Value} {dv : Value} {j : Int32} {v : Value} (hby : c.code = bytes) (hd : decode bytes pc = .ok (.baload, 1)) (hp : pc + 1 = pc') (eT : T.heap = h) (F : Arv Z h a k .byte n vs dv) (hj : ¬ j < 0 ∧ j < n) (u : vs.getD j.toNatClampNeg dv = v)
    (H : GoE p e below Fi (T.setTop (mkF m pc' Ls (v :: rest)))) : GoE p e below Fi (T.setTop (mkF m pc Ls (.int j :: .ref a :: rest))) := by
  subst hp
  obtain ⟨cl, A, q1, S, q3, Hh, G⟩ := F
  exact H.pull fun t k => X.baloadBytes hx (by rw [eT]; exact A.1) (State.isArrayOf_alike hZ.alike A.2.1) A.2.2 (inb_of S hj) (Hh.at (inb_of S hj) u) (g := mkF m pc Ls (.int j :: .ref a :: rest)) rfl rfl (hb hby hd) _ k
theorem g_daload (X : Stand p l e R s m args below meth c T locs cells slots) (hx : p.tables.exec = Jvm.exec) {Z : State} (hZ : Z.Warmed39 s.vm) {h : Heap} {a : Addr} {k : ClassId} {n : Int32} {vs : List Value} {dv : Value} {j : Int32} {v : Value} (hby : c.code = bytes) (hd : decode bytes pc = .ok (.daload, 1)) (hp : pc + 1 = pc') (eT : T.heap = h) (F : Arv Z h a k .double n vs dv) (hj : ¬ j < 0 ∧ j < n) (u : vs.getD j.toNatClampNeg dv = v)
    (H : GoE p e below Fi (T.setTop (mkF m pc' Ls (v :: rest)))) : GoE p e below Fi (T.setTop (mkF m pc Ls (.int j :: .ref a :: rest))) := by
  subst hp
  obtain ⟨cl, A, q1, S, q3, Hh, G⟩ := F
  exact H.pull fun t k => X.daload hx (by rw [eT]; exact A.1) (State.isArrayOf_alike hZ.alike A.2.1) A.2.2 (inb_of S hj) (Hh.at (inb_of S hj) u) (g := mkF m pc Ls (.int j :: .ref a :: rest)) rfl rfl (hb hby hd) _ k
theorem g_aaload (X : Stand p l e R s m args below meth c T locs cells slots) (hx : p.tables.exec = Jvm.exec) {Z : State} (hZ : Z.Warmed39 s.vm) {h : Heap} {a : Addr} {k : ClassId} {n : Int32} {vs : List Value} {dv : Value} {ty : FieldType} {j : Int32} {v : Value} (hby : c.code = bytes) (hd : decode bytes pc = .ok (.aaload, 1)) (hp : pc + 1 = pc') (eT : T.heap = h) (F : Arv Z h a k ty n vs dv) (hty : ty.isReference = true) (hj : ¬ j < 0 ∧ j < n) (u : vs.getD j.toNatClampNeg dv = v)
    (H : GoE p e below Fi (T.setTop (mkF m pc' Ls (v :: rest)))) : GoE p e below Fi (T.setTop (mkF m pc Ls (.int j :: .ref a :: rest))) := by
  subst hp
  obtain ⟨cl, A, q1, S, q3, Hh, G⟩ := F
  exact H.pull fun t k => X.aaload hx (by rw [eT]; exact A.1) (State.isArrayOf_alike hZ.alike A.2.1) hty A.2.2 (inb_of S hj) (Hh.at (inb_of S hj) u) (g := mkF m pc Ls (.int j :: .ref a :: rest)) rfl rfl (hb hby hd) _ k
theorem g_alen (X : Stand p l e R s m args below meth c T locs cells slots) (hx : p.tables.exec = Jvm.exec) {Z : State} (hZ : Z.Warmed39 s.vm) {h : Heap} {a : Addr} {k : ClassId} {n : Int32} {vs : List Value} {dv : Value} {ty : FieldType} (hby : c.code = bytes) (hd : decode bytes pc = .ok (.arraylength, 1)) (hp : pc + 1 = pc') (eT : T.heap = h) (F : Arv Z h a k ty n vs dv)
    (H : GoE p e below Fi (T.setTop (mkF m pc' Ls (.int n :: rest)))) : GoE p e below Fi (T.setTop (mkF m pc Ls (.ref a :: rest))) := by
  subst hp
  obtain ⟨cl, A, q1, S, q3, Hh, G⟩ := F
  exact H.pull fun t k => X.arraylength hx (by rw [eT]; exact A.1) (State.isArrayOf_alike hZ.alike A.2.1) (g := mkF m pc Ls (.ref a :: rest)) rfl rfl (hb hby hd) _ (by rw [len_of S q3]; exact k)
theorem g_iastore (X : Stand p l e R s m args below meth c T locs cells slots) (hx : p.tables.exec = Jvm.exec) {Z : State} (hZ : Z.Warmed39 s.vm) {h : Heap} {a : Addr} {k : ClassId} {n : Int32} {vs : List Value} {dv : Value} {j : Int32} {x : Int32} (i : Nat) (hby : c.code = bytes) (hd : decode bytes pc = .ok (.iastore, 1)) (hp : pc + 1 = pc') (eT : T.heap = h) (F : Arv Z h a k .int n vs dv) (hj : ¬ j < 0 ∧ j < n) (hji : j.toNatClampNeg = i) (hi : i < vs.length)
    (K : ∀ T' : State, Stand p l e R s m args below meth c T' (locs ++ [⟨a, j.toNatClampNeg⟩]) cells slots → Wr h T'.heap a j.toNatClampNeg (.int x) → Arv Z T'.heap a k .int n (vs.set i (.int x)) dv → GoE p e below Fi (T'.setTop (mkF m pc' Ls rest))) : GoE p e below Fi (T.setTop (mkF m pc Ls (.int x :: .int j :: .ref a :: rest))) := by
  subst hp
  obtain ⟨cl, A, q1, S, q3, Hh, G⟩ := F
  obtain ⟨T2, h2, X2, e2, W2, st2⟩ := stI X hx hZ eT A (inb_of S hj) (g := mkF m pc Ls (.int x :: .int j :: .ref a :: rest)) rfl rfl (hb hby hd)
  subst e2
  exact (K T2 X2 W2 (Arv.set A q1 S q3 Hh G rfl W2 i hji hi)).pull st2
theorem g_lastore (X : Stand p l e R s m args below meth c T locs cells slots) (hx : p.tables.exec = Jvm.exec) {Z : State} (hZ : Z.Warmed39 s.vm) {h : Heap} {a : Addr} {k : ClassId} {n : Int32} {vs : List Value} {dv : Value} {j : Int32} {x : Int64} (i : Nat) (hby : c.code = bytes) (hd : decode bytes pc = .ok (.lastore, 1)) (hp : pc + 1 = pc') (eT : T.heap = h) (F : Arv Z h a k .long n vs dv) (hj : ¬ j < 0 ∧ j < n) (hji : j.toNatClampNeg = i) (hi : i < vs.length)
    (K : ∀ T' : State, Stand p l e R s m args below meth c T' (locs ++ [⟨a, j.toNatClampNeg⟩]) cells slots → Wr h T'.heap a j.toNatClampNeg (.long x) → Arv Z T'.heap a k .long n (vs.set i (.long x)) dv → GoE p e below Fi (T'.setTop (mkF m pc' Ls rest))) : GoE p e below Fi (T.setTop (mkF m pc Ls (.long x :: .int j :: .ref a :: rest))) := by
  subst hp
  obtain ⟨cl, A, q1, S, q3, Hh, G⟩ := F
  obtain ⟨T2, h2, X2, e2, W2, st2⟩ := stJ X hx hZ eT A (inb_of S hj) (g := mkF m pc Ls (.long x :: .int j :: .ref a :: rest)) rfl rfl (hb hby hd)
  subst e2
  exact (K T2 X2 W2 (Arv.set A q1 S q3 Hh G rfl W2 i hji hi)).pull st2
theorem g_castore (X : Stand p l e R s m args below meth c T locs cells slots) (hx : p.tables.exec = Jvm.exec) {Z : State} (hZ : Z.Warmed39 s.vm) {h : Heap} {a : Addr} {k : ClassId} {n : Int32} {vs : List Value} {dv : Value} {j : Int32} {x : Int32} (i : Nat) (hby : c.code = bytes) (hd : decode bytes pc = .ok (.castore, 1)) (hp : pc + 1 = pc') (eT : T.heap = h) (F : Arv Z h a k .char n vs dv) (hj : ¬ j < 0 ∧ j < n) (hji : j.toNatClampNeg = i) (hi : i < vs.length)
    (K : ∀ T' : State, Stand p l e R s m args below meth c T' (locs ++ [⟨a, j.toNatClampNeg⟩]) cells slots → Wr h T'.heap a j.toNatClampNeg (.int (nar .char x)) → Arv Z T'.heap a k .char n (vs.set i (.int (nar .char x))) dv → GoE p e below Fi (T'.setTop (mkF m pc' Ls rest))) : GoE p e below Fi (T.setTop (mkF m pc Ls (.int x :: .int j :: .ref a :: rest))) := by
  subst hp
  obtain ⟨cl, A, q1, S, q3, Hh, G⟩ := F
  obtain ⟨T2, h2, X2, e2, W2, st2⟩ := stC X hx hZ eT A (inb_of S hj) (g := mkF m pc Ls (.int x :: .int j :: .ref a :: rest)) rfl rfl (hb hby hd)
  subst e2
  exact (K T2 X2 W2 (Arv.set A q1 S q3 Hh G (fits_nar_char x) W2 i hji hi)).pull st2
theorem g_bastore (X : Stand p l e R s m args below meth c T locs cells slots) (hx : p.tables.exec = Jvm.exec) {Z : State} (hZ : Z.Warmed39 s.vm) {h : Heap} {a : Addr} {k : ClassId} {n : Int32} {vs : List Value} {dv : Value} {j : Int32} {x : Int32} (i : Nat) (hby : c.code = bytes) (hd : decode bytes pc = .ok (.bastore, 1)) (hp : pc + 1 = pc') (eT : T.heap = h) (F : Arv Z h a k .byte n vs dv) (hj : ¬ j < 0 ∧ j < n) (hji : j.toNatClampNeg = i) (hi : i < vs.length)
    (K : ∀ T' : State, Stand p l e R s m args below meth c T' (locs ++ [⟨a, j.toNatClampNeg⟩]) cells slots → Wr h T'.heap a j.toNatClampNeg (.int (nar .byte x)) → Arv Z T'.heap a k .byte n (vs.set i (.int (nar .byte x))) dv → GoE p e below Fi (T'.setTop (mkF m pc' Ls rest))) : GoE p e below Fi (T.setTop (mkF m pc Ls (.int x :: .int j :: .ref a :: rest))) := by
  subst hp
  obtain ⟨cl, A, q1, S, q3, Hh, G⟩ := F
  obtain ⟨T2, h2, X2, e2, W2, st2⟩ := stB X hx hZ eT A (inb_of S hj) (g := mkF m pc Ls (.int x :: .int j :: .ref a :: rest)) rfl rfl (hb hby hd)
  subst e2
  exact (K T2 X2 W2 (Arv.set A q1 S q3 Hh G (fits_nar_byte x) W2 i hji hi)).pull st2
theorem g_dastore (X : Stand p l e R s m args below meth c T locs cells slots) (hx : p.tables.exec = Jvm.exec) {Z : State} (hZ : Z.Warmed39 s.vm) {h : Heap} {a : Addr} {k : ClassId} {n : Int32} {vs : List Value} {dv : Value} {j : Int32} {x : UInt64} (i : Nat) (hby : c.code = bytes) (hd : decode bytes pc = .ok (.dastore, 1)) (hp : pc + 1 = pc') (eT : T.heap = h) (F : Arv Z h a k .double n vs dv) (hj : ¬ j < 0 ∧ j < n) (hji : j.toNatClampNeg = i) (hi : i < vs.length)
    (K : ∀ T' : State, Stand p l e R s m args below meth c T' (locs ++ [⟨a, j.toNatClampNeg⟩]) cells slots → Wr h T'.heap a j.toNatClampNeg (.double x) → Arv Z T'.heap a k .double n (vs.set i (.double x)) dv → GoE p e below Fi (T'.setTop (mkF m pc' Ls rest))) : GoE p e below Fi (T.setTop (mkF m pc Ls (.double x :: .int j :: .ref a :: rest))) := by
  subst hp
  obtain ⟨cl, A, q1, S, q3, Hh, G⟩ := F
  obtain ⟨T2, h2, X2, e2, W2, st2⟩ := stD X hx hZ eT A (inb_of S hj) (g := mkF m pc Ls (.double x :: .int j :: .ref a :: rest)) rfl rfl (hb hby hd)
  subst e2
  exact (K T2 X2 W2 (Arv.set A q1 S q3 Hh G rfl W2 i hji hi)).pull st2
theorem g_newarray (X : Stand p l e R s m args below meth c T locs cells slots) (hx : p.tables.exec = Jvm.exec) {Z : State} {a0 : Array Value} (hZ : Z.Warmed39 s.vm) {aty : ArrayType} {h : Heap} {n : Int32} (cap : Nat) (ad : String) (hby : c.code = bytes) (hd : decode bytes pc = .ok (.newarray aty, 2)) (hp : pc + 2 = pc') (w : (Jvm.Cond.arrayClass (newarray.typeOf aty)).before a0 Z = true) (eT : T.heap = h) (hn : ¬ n < 0) (hcap : n.toNatClampNeg ≤ cap) (hbg : cap * 8 ≤ 536870912) (hce : cells + 1 ≤ R.cells) (hsl : slots + cap ≤ R.slots) (had : "[" ++ (newarray.typeOf aty).toString = ad)
    (K : ∀ (T' : State) (b : Addr) (cA : ClassId), b = h.size → Stand p l e R s m args below meth c T' locs (cells + 1) (slots + cap) → Ext h T'.heap → Arv Z T'.heap b cA (newarray.typeOf aty) n (List.replicate cap (defaultValue (newarray.typeOf aty))) (defaultValue (newarray.typeOf aty)) → Exa Z T'.heap b ad → GoE p e below Fi (T'.setTop (mkF m pc' Ls (.ref b :: rest)))) : GoE p e below Fi (T.setTop (mkF m pc Ls (.int n :: rest))) := by
  subst hp
  obtain ⟨T2, h2, cA, X2, e2, E2, A2, Ex2, st2⟩ := newPE X hx hZ w eT (g := mkF m pc Ls (.int n :: rest)) rfl (hb hby hd) rfl hn hcap hbg hce hsl had
  subst e2
  exact (K T2 _ cA rfl X2 E2 ((Arv.new A2 hn).pad (pad_rep [] _ cap)) Ex2).pull st2
theorem g_lswHit (X : Stand p l e R s m args below meth c T locs cells slots) (hx : p.tables.exec = Jvm.exec) {k : Int32} {dflt : Int} {pairs : Array (Int × Int)} {len : Nat} {a off : Int} (hby : c.code = bytes) (hd : decode bytes pc = .ok (.lookupswitch dflt pairs, len)) (hs : (pairs.toList.zip (pairs.toList.drop 1)).all (fun (a, next) => a.1 < next.1) = true) (hf : pairs.find? (·.1 == k.toInt) = some (a, off)) (ho : 0 ≤ (pc : Int) + off) (hp : ((pc : Int) + off).toNat = pc')
    (H : GoE p e below Fi (T.setTop (mkF m pc' Ls rest))) : GoE p e below Fi (T.setTop (mkF m pc Ls (.int k :: rest))) := by
  subst hp
  exact H.pull fun t q => X.lookupswitchHit hx (g := mkF m pc Ls (.int k :: rest)) rfl rfl (hb hby hd) hs hf ho _ q
theorem g_lswMiss (X : Stand p l e R s m args below meth c T locs cells slots) (hx : p.tables.exec = Jvm.exec) {k : Int32} {dflt : Int} {pairs : Array (Int × Int)} {len : Nat} (hby : c.code = bytes) (hd : decode bytes pc = .ok (.lookupswitch dflt pairs, len)) (hs : (pairs.toList.zip (pairs.toList.drop 1)).all (fun (a, next) => a.1 < next.1) = true) (hf : pairs.find? (·.1 == k.toInt) = none) (ho : 0 ≤ (pc : Int) + dflt) (hp : ((pc : Int) + dflt).toNat = pc')
    (H : GoE p e below Fi (T.setTop (mkF m pc' Ls rest))) : GoE p e below Fi (T.setTop (mkF m pc Ls (.int k :: rest))) := by
  subst hp
  exact H.pull fun t q => X.lookupswitchMiss hx (g := mkF m pc Ls (.int k :: rest)) rfl rfl (hb hby hd) hs hf ho _ q
theorem g_castY (X : Stand p l e R s m args below meth c T locs cells slots) (hx : p.tables.exec = Jvm.exec) {Z : State} {a0 : Array Value} (hZ : Z.Warmed39 s.vm) {own : String} (hown : s.vm.findClass own = some m.cls) {C : String} {index : Nat} {h : Heap} {a : Addr} (hby : c.code = bytes) (hd : decode bytes pc = .ok (.checkcast index, 3)) (hp : pc + 3 = pc') (w : (Jvm.Cond.classLink own index C).before a0 Z = true) (eT : T.heap = h) (F : Ins Z h a C true)
    (K : ∀ T' : State, Stand p l e R s m args below meth c T' locs cells slots → T'.heap = h → GoE p e below Fi (T'.setTop (mkF m pc' Ls (.ref a :: rest)))) : GoE p e below Fi (T.setTop (mkF m pc Ls (.ref a :: rest))) := by
  subst hp
  obtain ⟨T2, X2, e2, st2⟩ := castY X hx hZ hown w eT F (g := mkF m pc Ls (.ref a :: rest)) rfl rfl (hb hby hd)
  exact (K T2 X2 e2).pull st2
theorem g_instY (X : Stand p l e R s m args below meth c T locs cells slots) (hx : p.tables.exec = Jvm.exec) {Z : State} {a0 : Array Value} (hZ : Z.Warmed39 s.vm) {own : String} (hown : s.vm.findClass own = some m.cls) {C : String} {index : Nat} {h : Heap} {a : Addr} (hby : c.code = bytes) (hd : decode bytes pc = .ok (.instanceof index, 3)) (hp : pc + 3 = pc') (w : (Jvm.Cond.classLink own index C).before a0 Z = true) (eT : T.heap = h) (F : Ins Z h a C true)
    (K : ∀ T' : State, Stand p l e R s m args below meth c T' locs cells slots → T'.heap = h → GoE p e below Fi (T'.setTop (mkF m pc' Ls (.int 1 :: rest)))) : GoE p e below Fi (T.setTop (mkF m pc Ls (.ref a :: rest))) := by
  subst hp
  obtain ⟨T2, X2, e2, st2⟩ := instY X hx hZ hown w eT F (g := mkF m pc Ls (.ref a :: rest)) rfl rfl (hb hby hd)
  exact (K T2 X2 e2).pull st2
theorem g_instNo (X : Stand p l e R s m args below meth c T locs cells slots) (hx : p.tables.exec = Jvm.exec) {Z : State} {a0 : Array Value} (hZ : Z.Warmed39 s.vm) {own : String} (hown : s.vm.findClass own = some m.cls) {C D : String} {index : Nat} {h : Heap} {a : Addr} (hby : c.code = bytes) (hd : decode bytes pc = .ok (.instanceof index, 3)) (hp : pc + 3 = pc') (w : (Jvm.Cond.classLink own index C).before a0 Z = true) (eT : T.heap = h) (E : Exa Z h a D) (F : ∃ c t, Z.vm.findClass D = some c ∧ Z.vm.findClass C = some t ∧ Z.vm.assignable c t = false)
    (K : ∀ T' : State, Stand p l e R s m args below meth c T' locs cells slots → T'.heap = h → GoE p e below Fi (T'.setTop (mkF m pc' Ls (.int 0 :: rest)))) : GoE p e below Fi (T.setTop (mkF m pc Ls (.ref a :: rest))) := by
  subst hp
  obtain ⟨T2, X2, e2, st2⟩ := instNo X hx hZ hown w eT E F (g := mkF m pc Ls (.ref a :: rest)) rfl rfl (hb hby hd)
  exact (K T2 X2 e2).pull st2
theorem g_callIf (X : Stand p l e R s m args below meth c T locs cells slots) (hx : p.tables.exec = Jvm.exec) {Z : State} {a0 : Array Value} (hZ : Z.Warmed39 s.vm) {own : String} (hown : s.vm.findClass own = some m.cls) {y : MethodName} {cb : ByteArray} {maxL : Nat} {ret : Option FieldType} {rm : Room} {as' : Array Value} {h : Heap} {Q' : Option Value → Heap → List Loc → Prop} {W : Nat} {index : Nat} {argsL : List Value} {b : Addr} {z : MethodName} {C0 : String} {count : Nat} (hby : c.code = bytes) (hd : decode bytes pc = .ok (.invokeinterface index count, 5)) (hp : pc + 5 = pc') (hml : Ls.size = c.maxLocals)
    (w1 : (Jvm.Cond.methodLink own index y).before a0 Z = true) (w2 : (Jvm.Cond.declares y).before a0 Z = true) (w7 : (Jvm.Cond.interfaceMethod y.cls y.cls y.name y.desc).before a0 Z = true) (hd7 : ((Jvm.Cond.interfaceMethod y.cls y.cls y.name y.desc).onTables && (Jvm.Cond.interfaceMethod y.cls y.cls y.name y.desc).keepsFace) = true) (w5 : (Jvm.Cond.selects C0 y z).before a0 Z = true) (w6 : (Jvm.Cond.instanceMethod z).before a0 Z = true) (w8 : (Jvm.Cond.publicMethod z).before a0 Z = true) (w9 : (Jvm.Cond.unhidden C0 y.name y.desc).before a0 Z = true) (w10 : (Jvm.Cond.castable C0 y.cls).before a0 Z = true) (w3 : (Jvm.Cond.initialized z.cls).before a0 Z = true) (w4 : (Jvm.Cond.code z cb maxL ret).before a0 Z = true) (hy : y.cls ≠ "java/lang/invoke/MethodHandle" ∧ y.cls ≠ "java/lang/invoke/VarHandle")
    (C : Ctr l Z z cb maxL ret [] rm as' h Q') (eT : T.heap = h) (E : Exa Z h b C0) (hfr : rm.frames + 1 ≤ R.frames) (hlo : W + (maxL + 11) + rm.locals ≤ R.locals) (hce : cells + rm.cells ≤ R.cells) (hsl : slots + rm.slots ≤ R.slots) {stk : List Value} {psig : MethodDescriptor} (has : (Value.ref b :: argsL).toArray = as') (hpd : parseMethodDescriptor y.desc = some psig) (hlen : argsL.length = psig.parameters.length) (hst : stk = argsL.reverse ++ Value.ref b :: rest) (hW : 2 * 0 + (rest.map fun v => v.category).sum ≤ W)
    (K : ∀ (v : Option Value) (T' : State) (L : List Loc), Stand p l e R s m args below meth c T' (locs ++ L) (cells + rm.cells) (slots + rm.slots) → Q' v T'.heap L → GoE p e below Fi (T'.setTop (mkF m pc' Ls (v.toList ++ rest)))) : GoE p e below Fi (T.setTop (mkF m pc Ls stk)) := by
  subst hp hst has
  obtain ⟨cq, kq, qa, qb, qc⟩ := isOf hZ eT E
  obtain ⟨v, _, ⟨T4, L4, k4, n4⟩, -, X4, ⟨Lc, hQ, l4, y4, z4⟩, st⟩ := X.interfaceBack hx (xi := y) (y := z) hown (mvT hZ w1) (mvT hZ w2) (mvT hZ w7 hd7) (mvT hZ w5) (mvT hZ w6) (mvT hZ w8) (mvT hZ w9) (mvT hZ w10) hy (backOf (W := W) C hZ w4 w3 hfr hlo) qa qb qc (g := mkF m pc Ls (argsL.reverse ++ Value.ref b :: rest)) rfl hml (Steps.refl _) (argsL := argsL) (rest := rest) (fun sig h => by rw [hpd] at h; cases h; exact hlen) rfl hW (hb hby hd) (fun _ _ => ⟨rfl, eT, hce, hsl⟩)
  dsimp only [Pt.U, Pt.locs, Pt.cells, Pt.slots] at X4 l4 y4 z4 st hQ
  subst l4 y4 z4
  exact (K v T4 Lc X4 hQ).pull fun t k => st.trans k
theorem g_anewarrayA (X : Stand p l e R s m args below meth c T locs cells slots) (hx : p.tables.exec = Jvm.exec) {Z : State} {a0 : Array Value} (hZ : Z.Warmed39 s.vm) {own : String} (hown : s.vm.findClass own = some m.cls) {C : String} {ty : FieldType} {index : Nat} {h : Heap} {n : Int32} (cap : Nat) (ad : String) (hby : c.code = bytes) (hd : decode bytes pc = .ok (.anewarray index, 3)) (hp : pc + 3 = pc') (hC : (FieldType.array ty).toString = C) (w1 : (Jvm.Cond.classLink own index C).before a0 Z = true) (w2 : (Jvm.Cond.arrayOver (.array ty)).before a0 Z = true) (eT : T.heap = h) (hn : ¬ n < 0) (hcap : n.toNatClampNeg ≤ cap) (hbg : cap * 8 ≤ 536870912) (hce : cells + 1 ≤ R.cells) (hsl : slots + cap ≤ R.slots) (had : "[" ++ C = ad)
    (K : ∀ (T' : State) (b : Addr) (cA : ClassId), b = h.size → Stand p l e R s m args below meth c T' locs (cells + 1) (slots + cap) → Ext h T'.heap → Arv Z T'.heap b cA (.array ty) n (List.replicate cap .null) .null → Exa Z T'.heap b ad → OvrA Z cA ty C → GoE p e below Fi (T'.setTop (mkF m pc' Ls (.ref b :: rest)))) : GoE p e below Fi (T.setTop (mkF m pc Ls (.int n :: rest))) := by
  subst hp
  obtain ⟨T2, h2, cA, X2, e2, E2, A2, Ex2, O2, st2⟩ := newRA X hx hZ hown hC w1 w2 eT (g := mkF m pc Ls (.int n :: rest)) rfl (hb hby hd) rfl hn hcap hbg hce hsl had
  subst e2
  exact (K T2 _ cA rfl X2 E2 ((Arv.new A2 hn).pad (pad_rep [] _ cap)) Ex2 O2).pull st2
theorem g_aastore (X : Stand p l e R s m args below meth c T locs cells slots) (hx : p.tables.exec = Jvm.exec) {Z : State} (hZ : Z.Warmed39 s.vm) {h : Heap} {a : Addr} {k : ClassId} {n : Int32} {vs : List Value} {dv : Value} {ty : FieldType} {j : Int32} {v : Value} (i : Nat) (hby : c.code = bytes) (hd : decode bytes pc = .ok (.aastore, 1)) (hp : pc + 1 = pc') (eT : T.heap = h) (F : Arv Z h a k ty n vs dv) (hty : ty.isReference = true) (hS : ∀ cl : Cell, Arr Z h a cl ty → cl.cls = k → Sto Z h a v) (hfv : fits ty v = true) (hj : ¬ j < 0 ∧ j < n) (hji : j.toNatClampNeg = i) (hi : i < vs.length)
    (K : ∀ T' : State, Stand p l e R s m args below meth c T' (locs ++ [⟨a, j.toNatClampNeg⟩]) cells slots → Wr h T'.heap a j.toNatClampNeg v → Arv Z T'.heap a k ty n (vs.set i v) dv → GoE p e below Fi (T'.setTop (mkF m pc' Ls rest))) : GoE p e below Fi (T.setTop (mkF m pc Ls (v :: .int j :: .ref a :: rest))) := by
  subst hp
  obtain ⟨cl, A, q1, S, q3, Hh, G⟩ := F
  obtain ⟨T2, h2, X2, e2, W2, st2⟩ := stR X hx hZ eT A (inb_of S hj) hty (hS cl A q1) (g := mkF m pc Ls (v :: .int j :: .ref a :: rest)) rfl rfl (hb hby hd)
  subst e2
  exact (K T2 X2 W2 (Arv.set A q1 S q3 Hh G hfv W2 i hji hi)).pull st2
theorem g_eqI {a b : Int32} (h : a = b) (K : GoE p e below Fi (T.setTop (mkF m pc Ls (.int b :: rest)))) : GoE p e below Fi (T.setTop (mkF m pc Ls (.int a :: rest))) := h ▸ K
theorem g_eqL {a b : Int64} (h : a = b) (K : GoE p e below Fi (T.setTop (mkF m pc Ls (.long b :: rest)))) : GoE p e below Fi (T.setTop (mkF m pc Ls (.long a :: rest))) := h ▸ K
theorem g_newarrayV (X : Stand p l e R s m args below meth c T locs cells slots) (hx : p.tables.exec = Jvm.exec) {Z : State} {a0 : Array Value} (hZ : Z.Warmed39 s.vm) {aty : ArrayType} {h : Heap} {n : Int32} (cap vc : Nat) (ad : String) (hby : c.code = bytes) (hd : decode bytes pc = .ok (.newarray aty, 2)) (hp : pc + 2 = pc') (w : (Jvm.Cond.arrayClass (newarray.typeOf aty)).before a0 Z = true) (eT : T.heap = h) (hn : ¬ n < 0) (hcap : n.toNatClampNeg ≤ cap) (hbg : cap * 8 ≤ 536870912) (hce : cells + 1 ≤ R.cells) (hsl : slots + cap ≤ R.slots) (had : "[" ++ (newarray.typeOf aty).toString = ad)
    (K : ∀ (T' : State) (b : Addr) (cA : ClassId), b = h.size → Stand p l e R s m args below meth c T' locs (cells + 1) (slots + cap) → Ext h T'.heap → Arv Z T'.heap b cA (newarray.typeOf aty) n (List.replicate vc (defaultValue (newarray.typeOf aty))) (defaultValue (newarray.typeOf aty)) → Exa Z T'.heap b ad → GoE p e below Fi (T'.setTop (mkF m pc' Ls (.ref b :: rest)))) : GoE p e below Fi (T.setTop (mkF m pc Ls (.int n :: rest))) := by
  subst hp
  obtain ⟨T2, h2, cA, X2, e2, E2, A2, Ex2, st2⟩ := newPE X hx hZ w eT (g := mkF m pc Ls (.int n :: rest)) rfl (hb hby hd) rfl hn hcap hbg hce hsl had
  subst e2
  exact (K T2 _ cA rfl X2 E2 ((Arv.new A2 hn).pad (pad_rep [] _ vc)) Ex2).pull st2
theorem g_arraycopy (X : Stand p l e R s m args below meth c T locs cells slots) (hx : p.tables.exec = Jvm.exec) {Z : State} {a0 : Array Value} (hZ : Z.Warmed39 s.vm) {own : String} (hown : s.vm.findClass own = some m.cls) {index : Nat} {h : Heap} {a b : Addr} {k k' : ClassId} {ty : FieldType} {n z' sp dp nn : Int32} {vs vd us : List Value} {dv dd : Value} {W n0 : Nat} (hby : c.code = bytes) (hd : decode bytes pc = .ok (.invokestatic index, 3)) (hp : pc + 3 = pc') (hml : Ls.size = c.maxLocals)
    (w1 : (Jvm.Cond.methodLink own index Jvm.Stand.acN).before a0 Z = true) (w2 : (Jvm.Cond.native Jvm.Stand.acN).before a0 Z = true) (w3 : (Jvm.Cond.static Jvm.Stand.acN).before a0 Z = true) (w4 : (Jvm.Cond.initialized "java/lang/System").before a0 Z = true) (eT : T.heap = h) (A : Arv Z h a k ty n vs dv) (B : Arv Z h b k' ty z' vd dd) (hr : refKind ty = false)
    (h1 : ¬ sp < 0) (h2 : ¬ dp < 0) (h3 : ¬ nn < 0) (h4 : sp.toNatClampNeg + nn.toNatClampNeg ≤ n.toNatClampNeg) (h5 : dp.toNatClampNeg + nn.toNatClampNeg ≤ z'.toNatClampNeg) (hus : us = (List.range nn.toNatClampNeg).map fun i => vs.getD (sp.toNatClampNeg + i) dv) (hl : dp.toNatClampNeg + nn.toNatClampNeg ≤ vd.length) (N : Fr n0 locs) (ge : n0 ≤ b)
    (hf : 1 ≤ R.frames) (hW : 2 * 0 + (rest.map fun v => v.category).sum ≤ W) (hlo : W + (nativeFrameWords "java/lang/System" "arraycopy" 5 + 11) ≤ R.locals)
    (K : ∀ (T' : State) (L : List Loc), Stand p l e R s m args below meth c T' L cells slots → Fr n0 L → Keep h T'.heap [b] → Arv Z T'.heap b k' ty z' (vd.take dp.toNatClampNeg ++ us ++ vd.drop (dp.toNatClampNeg + nn.toNatClampNeg)) dd → GoE p e below Fi (T'.setTop (mkF m pc' Ls rest))) : GoE p e below Fi (T.setTop (mkF m pc Ls (.int nn :: .int dp :: .ref b :: .int sp :: .ref a :: rest))) := by
  subst hp
  obtain ⟨T2, h2', L2, X2, e2, N2, K2, A2, st2⟩ := cpA X hx hZ hown w1 w2 w3 w4 eT A B (Or.inl ⟨rfl, hr⟩) h1 h2 h3 h4 h5 hus hl N ge (g := mkF m pc Ls (.int nn :: .int dp :: .ref b :: .int sp :: .ref a :: rest)) rfl hml rfl (hb hby hd) hf hW hlo
  subst e2
  exact (K T2 L2 X2 N2 K2 A2).pull st2
end GoKit
def isCh (c b : Int32) : Int32 := if c < 32 then (if b = 0 then (if c = 9 then 1 else if c = 10 then 1 else if c = 13 then 1 else 0) else (if 0 < c then 1 else 0)) else if c < 55296 then 1 else if c < 57344 then 0 else if 1114111 < c then 0 else if c = 65534 then 0 else if c = 65535 then 0 else 1
abbrev PP (c : Int32) : Prop := ((32 ≤ c.toInt ∧ c.toInt ≤ 55295) ∨ (57344 ≤ c.toInt ∧ c.toInt ≤ 65533) ∨ (65536 ≤ c.toInt ∧ c.toInt ≤ 1114111))
def edgeL : List Int32 := [0, 1, 9, 10, 13, 31, 32, 55295, 55296, 57343, 57344, 65533, 65534, 65535, 65536, 1114111, 1114112, -2147483648, 2147483647, -1]
def edgeV (j : Int32) : Int32 := edgeL.getD j.toNatClampNeg 0
theorem own_edge (j : Int32) : ([.int (0 : Int32), .int (1 : Int32), .int (9 : Int32), .int (10 : Int32), .int (13 : Int32), .int (31 : Int32), .int (32 : Int32), .int (55295 : Int32), .int (55296 : Int32), .int (57343 : Int32), .int (57344 : Int32), .int (65533 : Int32), .int (65534 : Int32), .int (65535 : Int32), .int (65536 : Int32), .int (1114111 : Int32), .int (1114112 : Int32), .int (-2147483648 : Int32), .int (2147483647 : Int32), .int (-1 : Int32)] : List Value).getD j.toNatClampNeg (.int 0) = .int (edgeV j) := by
  show (edgeL.map Value.int).getD j.toNatClampNeg (Value.int 0) = Value.int (edgeL.getD j.toNatClampNeg 0)
  simp only [List.getD_eq_getElem?_getD, List.getElem?_map]
  cases edgeL[j.toNatClampNeg]? <;> rfl
theorem own_idx (x : Int32) : ¬ ((x &&& 2147483647) - ((x &&& 2147483647) / 20) * 20) < 0 ∧ ((x &&& 2147483647) - ((x &&& 2147483647) / 20) * 20) < 20 := by
  have h := c_mask x 2147483647 31 (by decide) (by decide)
  have e : ((2 ^ 31 : Nat) : Int) = 2147483648 := rfl
  rw [e] at h
  have hr := rng32 x
  generalize x &&& 2147483647 = y at *
  have hy : 0 ≤ y.toInt := by omega
  have r := rem_toInt y 20
  have e20 : (20 : Int32).toInt = 20 := rfl
  rw [e20, Int.tmod_eq_emod_of_nonneg hy] at r
  have e0 : (0 : Int32).toInt = 0 := rfl
  rw [Int32.lt_iff_toInt_lt, Int32.lt_iff_toInt_lt, r, e0, e20]
  omega
theorem own_lits : (9 : Int32).toInt = 9 ∧ (10 : Int32).toInt = 10 ∧ (13 : Int32).toInt = 13 ∧ (32 : Int32).toInt = 32 ∧ (55296 : Int32).toInt = 55296 ∧ (57344 : Int32).toInt = 57344 ∧ (1114111 : Int32).toInt = 1114111 ∧ (65534 : Int32).toInt = 65534 ∧ (65535 : Int32).toInt = 65535 ∧ (0 : Int32).toInt = 0 := by decide
theorem own_tail (c : Int32) (h : ¬ c.toInt < 32) : (if c < 55296 then (1 : Int32) else if c < 57344 then 0 else if 1114111 < c then 0 else if c = 65534 then 0 else if c = 65535 then 0 else 1) = if PP c then 1 else 0 := by
  obtain ⟨l1, l2, l3, l4, l5, l6, l7, l8, l9, l10⟩ := own_lits
  unfold PP
  simp only [Int32.lt_iff_toInt_lt, ← Int32.toInt_inj, l5, l6, l7, l8, l9]
  by_cases a1 : c.toInt < 55296
  · rw [if_pos a1, if_pos (by omega)]
  · rw [if_neg a1]
    by_cases a2 : c.toInt < 57344
    · rw [if_pos a2, if_neg (by omega)]
    · rw [if_neg a2]
      by_cases a3 : 1114111 < c.toInt
      · rw [if_pos a3, if_neg (by omega)]
      · rw [if_neg a3]
        by_cases a4 : c.toInt = 65534
        · rw [if_pos a4, if_neg (by omega)]
        · rw [if_neg a4]
          by_cases a5 : c.toInt = 65535
          · rw [if_pos a5, if_neg (by omega)]
          · rw [if_neg a5, if_pos (by omega)]
theorem own_is1 (c : Int32) : isCh c 1 = if (1 ≤ c.toInt ∧ c.toInt ≤ 31) ∨ PP c then 1 else 0 := by
  obtain ⟨l1, l2, l3, l4, l5, l6, l7, l8, l9, l10⟩ := own_lits
  unfold isCh
  have k1 : (c < 32) ↔ c.toInt < 32 := by rw [Int32.lt_iff_toInt_lt, l4]
  have k2 : (0 < c) ↔ 0 < c.toInt := by rw [Int32.lt_iff_toInt_lt, l10]
  by_cases h : c.toInt < 32
  · have hP : ¬ PP c := by unfold PP; omega
    rw [if_pos (k1.mpr h), if_neg (by decide)]
    by_cases h2 : 0 < c.toInt
    · rw [if_pos (k2.mpr h2), if_pos (Or.inl (by omega))]
    · rw [if_neg (fun q => h2 (k2.mp q)), if_neg (by rintro (q | q); omega; exact hP q)]
  · rw [if_neg (fun q => h (k1.mp q)), own_tail c h]
    by_cases hP : PP c
    · rw [if_pos hP, if_pos (Or.inr hP)]
    · rw [if_neg hP, if_neg (by rintro (q | q); omega; exact hP q)]
theorem own_is0 (c : Int32) : isCh c 0 = if (c.toInt = 9 ∨ c.toInt = 10 ∨ c.toInt = 13) ∨ PP c then 1 else 0 := by
  obtain ⟨l1, l2, l3, l4, l5, l6, l7, l8, l9, l10⟩ := own_lits
  unfold isCh
  have k1 : (c < 32) ↔ c.toInt < 32 := by rw [Int32.lt_iff_toInt_lt, l4]
  by_cases h : c.toInt < 32
  · have hP : ¬ PP c := by unfold PP; omega
    rw [if_pos (k1.mpr h), if_pos rfl]
    simp only [← Int32.toInt_inj, l1, l2, l3]
    by_cases b1 : c.toInt = 9
    · rw [if_pos b1, if_pos (Or.inl (by omega))]
    · rw [if_neg b1]
      by_cases b2 : c.toInt = 10
      · rw [if_pos b2, if_pos (Or.inl (by omega))]
      · rw [if_neg b2]
        by_cases b3 : c.toInt = 13
        · rw [if_pos b3, if_pos (Or.inl (by omega))]
        · rw [if_neg b3, if_neg (by rintro (q | q); omega; exact hP q)]
  · rw [if_neg (fun q => h (k1.mp q)), own_tail c h]
    by_cases hP : PP c
    · rw [if_pos hP, if_pos (Or.inr hP)]
    · rw [if_neg hP, if_neg (by rintro (q | q); omega; exact hP q)]
theorem w_0 {Z : State} {a0 : Array Value} (hw : ∀ d ∈ tables_1, d.before a0 Z = true) : (Jvm.Cond.arrayClass Jvm.ClassFile.FieldType.int).before a0 Z = true := hw _ (List.mem_of_getElem? (i := 0) rfl)
theorem w_1 {Z : State} {a0 : Array Value} (hw : ∀ d ∈ tables_1, d.before a0 Z = true) : (Jvm.Cond.constant "com/example/folha/folha/builder/XmlCharsIsCharPinLaw" (7 : Nat) (55295 : Int32)).before a0 Z = true := hw _ (List.mem_of_getElem? (i := 1) rfl)
theorem w_2 {Z : State} {a0 : Array Value} (hw : ∀ d ∈ tables_1, d.before a0 Z = true) : (Jvm.Cond.constant "com/example/folha/folha/builder/XmlCharsIsCharPinLaw" (8 : Nat) (55296 : Int32)).before a0 Z = true := hw _ (List.mem_of_getElem? (i := 2) rfl)
theorem w_3 {Z : State} {a0 : Array Value} (hw : ∀ d ∈ tables_1, d.before a0 Z = true) : (Jvm.Cond.constant "com/example/folha/folha/builder/XmlCharsIsCharPinLaw" (9 : Nat) (57343 : Int32)).before a0 Z = true := hw _ (List.mem_of_getElem? (i := 3) rfl)
theorem w_4 {Z : State} {a0 : Array Value} (hw : ∀ d ∈ tables_1, d.before a0 Z = true) : (Jvm.Cond.constant "com/example/folha/folha/builder/XmlCharsIsCharPinLaw" (10 : Nat) (57344 : Int32)).before a0 Z = true := hw _ (List.mem_of_getElem? (i := 4) rfl)
theorem w_5 {Z : State} {a0 : Array Value} (hw : ∀ d ∈ tables_1, d.before a0 Z = true) : (Jvm.Cond.constant "com/example/folha/folha/builder/XmlCharsIsCharPinLaw" (11 : Nat) (65533 : Int32)).before a0 Z = true := hw _ (List.mem_of_getElem? (i := 5) rfl)
theorem w_6 {Z : State} {a0 : Array Value} (hw : ∀ d ∈ tables_1, d.before a0 Z = true) : (Jvm.Cond.constant "com/example/folha/folha/builder/XmlCharsIsCharPinLaw" (12 : Nat) (65534 : Int32)).before a0 Z = true := hw _ (List.mem_of_getElem? (i := 6) rfl)
theorem w_7 {Z : State} {a0 : Array Value} (hw : ∀ d ∈ tables_1, d.before a0 Z = true) : (Jvm.Cond.constant "com/example/folha/folha/builder/XmlCharsIsCharPinLaw" (13 : Nat) (65535 : Int32)).before a0 Z = true := hw _ (List.mem_of_getElem? (i := 7) rfl)
theorem w_8 {Z : State} {a0 : Array Value} (hw : ∀ d ∈ tables_1, d.before a0 Z = true) : (Jvm.Cond.constant "com/example/folha/folha/builder/XmlCharsIsCharPinLaw" (14 : Nat) (65536 : Int32)).before a0 Z = true := hw _ (List.mem_of_getElem? (i := 8) rfl)
theorem w_9 {Z : State} {a0 : Array Value} (hw : ∀ d ∈ tables_1, d.before a0 Z = true) : (Jvm.Cond.constant "com/example/folha/folha/builder/XmlCharsIsCharPinLaw" (15 : Nat) (1114111 : Int32)).before a0 Z = true := hw _ (List.mem_of_getElem? (i := 9) rfl)
theorem w_10 {Z : State} {a0 : Array Value} (hw : ∀ d ∈ tables_1, d.before a0 Z = true) : (Jvm.Cond.constant "com/example/folha/folha/builder/XmlCharsIsCharPinLaw" (16 : Nat) (1114112 : Int32)).before a0 Z = true := hw _ (List.mem_of_getElem? (i := 10) rfl)
theorem w_11 {Z : State} {a0 : Array Value} (hw : ∀ d ∈ tables_1, d.before a0 Z = true) : (Jvm.Cond.constant "com/example/folha/folha/builder/XmlCharsIsCharPinLaw" (19 : Nat) (-2147483648 : Int32)).before a0 Z = true := hw _ (List.mem_of_getElem? (i := 11) rfl)
theorem w_12 {Z : State} {a0 : Array Value} (hw : ∀ d ∈ tables_1, d.before a0 Z = true) : (Jvm.Cond.constant "com/example/folha/folha/builder/XmlCharsIsCharPinLaw" (20 : Nat) (2147483647 : Int32)).before a0 Z = true := hw _ (List.mem_of_getElem? (i := 12) rfl)
theorem w_13 {Z : State} {a0 : Array Value} (hw : ∀ d ∈ tables_1, d.before a0 Z = true) : (Jvm.Cond.methodLink "com/example/folha/folha/builder/XmlCharsIsCharPinLaw" (21 : Nat) ({ cls := "com/example/folha/folha/builder/XmlChars", name := "isChar", desc := "(IZ)Z" } : Jvm.MethodName)).before a0 Z = true := hw _ (List.mem_of_getElem? (i := 13) rfl)
theorem w_14 {Z : State} {a0 : Array Value} (hw : ∀ d ∈ tables_1, d.before a0 Z = true) : (Jvm.Cond.static ({ cls := "com/example/folha/folha/builder/XmlChars", name := "isChar", desc := "(IZ)Z" } : Jvm.MethodName)).before a0 Z = true := hw _ (List.mem_of_getElem? (i := 14) rfl)
theorem w_15 {Z : State} {a0 : Array Value} (hw : ∀ d ∈ tables_1, d.before a0 Z = true) : (Jvm.Cond.initialized "com/example/folha/folha/builder/XmlChars").before a0 Z = true := hw _ (List.mem_of_getElem? (i := 15) rfl)
theorem w_16 {Z : State} {a0 : Array Value} (hw : ∀ d ∈ tables_1, d.before a0 Z = true) : (Jvm.Cond.code ({ cls := "com/example/folha/folha/builder/XmlChars", name := "isChar", desc := "(IZ)Z" } : Jvm.MethodName) prog_31_method_2_code (3 : Nat) (Option.some Jvm.ClassFile.FieldType.boolean)).before a0 Z = true := hw _ (List.mem_of_getElem? (i := 16) rfl)
theorem w_17 {Z : State} {a0 : Array Value} (hw : ∀ d ∈ tables_1, d.before a0 Z = true) : (Jvm.Cond.constant "com/example/folha/folha/builder/XmlChars" (7 : Nat) (55296 : Int32)).before a0 Z = true := hw _ (List.mem_of_getElem? (i := 17) rfl)
theorem w_18 {Z : State} {a0 : Array Value} (hw : ∀ d ∈ tables_1, d.before a0 Z = true) : (Jvm.Cond.constant "com/example/folha/folha/builder/XmlChars" (8 : Nat) (57344 : Int32)).before a0 Z = true := hw _ (List.mem_of_getElem? (i := 18) rfl)
theorem w_19 {Z : State} {a0 : Array Value} (hw : ∀ d ∈ tables_1, d.before a0 Z = true) : (Jvm.Cond.constant "com/example/folha/folha/builder/XmlChars" (11 : Nat) (1114111 : Int32)).before a0 Z = true := hw _ (List.mem_of_getElem? (i := 19) rfl)
theorem w_20 {Z : State} {a0 : Array Value} (hw : ∀ d ∈ tables_1, d.before a0 Z = true) : (Jvm.Cond.constant "com/example/folha/folha/builder/XmlChars" (12 : Nat) (65534 : Int32)).before a0 Z = true := hw _ (List.mem_of_getElem? (i := 20) rfl)
theorem w_21 {Z : State} {a0 : Array Value} (hw : ∀ d ∈ tables_1, d.before a0 Z = true) : (Jvm.Cond.constant "com/example/folha/folha/builder/XmlChars" (13 : Nat) (65535 : Int32)).before a0 Z = true := hw _ (List.mem_of_getElem? (i := 21) rfl)
theorem d1_0 : decode prog_31_method_2_code 0 = .ok (.iload_n 0, 1) := by decide +kernel
theorem d1_1 : decode prog_31_method_2_code 1 = .ok (.bipush 32, 2) := by decide +kernel
theorem d1_3 : decode prog_31_method_2_code 3 = .ok (.if_icmp .ge 46, 3) := by decide +kernel
theorem d1_6 : decode prog_31_method_2_code 6 = .ok (.iload_n 1, 1) := by decide +kernel
theorem d1_7 : decode prog_31_method_2_code 7 = .ok (.ifCond .eq 15, 3) := by decide +kernel
theorem d1_10 : decode prog_31_method_2_code 10 = .ok (.iload_n 0, 1) := by decide +kernel
theorem d1_11 : decode prog_31_method_2_code 11 = .ok (.ifCond .le 7, 3) := by decide +kernel
theorem d1_14 : decode prog_31_method_2_code 14 = .ok (.iconst 1, 1) := by decide +kernel
theorem d1_15 : decode prog_31_method_2_code 15 = .ok (.goto 30, 3) := by decide +kernel
theorem d1_18 : decode prog_31_method_2_code 18 = .ok (.iconst 0, 1) := by decide +kernel
theorem d1_19 : decode prog_31_method_2_code 19 = .ok (.goto 26, 3) := by decide +kernel
theorem d1_22 : decode prog_31_method_2_code 22 = .ok (.iload_n 0, 1) := by decide +kernel
theorem d1_23 : decode prog_31_method_2_code 23 = .ok (.bipush 9, 2) := by decide +kernel
theorem d1_25 : decode prog_31_method_2_code 25 = .ok (.if_icmp .eq 15, 3) := by decide +kernel
theorem d1_28 : decode prog_31_method_2_code 28 = .ok (.iload_n 0, 1) := by decide +kernel
theorem d1_29 : decode prog_31_method_2_code 29 = .ok (.bipush 10, 2) := by decide +kernel
theorem d1_31 : decode prog_31_method_2_code 31 = .ok (.if_icmp .eq 9, 3) := by decide +kernel
theorem d1_34 : decode prog_31_method_2_code 34 = .ok (.iload_n 0, 1) := by decide +kernel
theorem d1_35 : decode prog_31_method_2_code 35 = .ok (.bipush 13, 2) := by decide +kernel
theorem d1_37 : decode prog_31_method_2_code 37 = .ok (.if_icmp .ne 7, 3) := by decide +kernel
theorem d1_40 : decode prog_31_method_2_code 40 = .ok (.iconst 1, 1) := by decide +kernel
theorem d1_41 : decode prog_31_method_2_code 41 = .ok (.goto 4, 3) := by decide +kernel
theorem d1_44 : decode prog_31_method_2_code 44 = .ok (.iconst 0, 1) := by decide +kernel
theorem d1_45 : decode prog_31_method_2_code 45 = .ok (.istore_n 2, 1) := by decide +kernel
theorem d1_46 : decode prog_31_method_2_code 46 = .ok (.goto 49, 3) := by decide +kernel
theorem d1_49 : decode prog_31_method_2_code 49 = .ok (.iload_n 0, 1) := by decide +kernel
theorem d1_50 : decode prog_31_method_2_code 50 = .ok (.ldc 7, 2) := by decide +kernel
theorem d1_52 : decode prog_31_method_2_code 52 = .ok (.if_icmp .ge 8, 3) := by decide +kernel
theorem d1_55 : decode prog_31_method_2_code 55 = .ok (.iconst 1, 1) := by decide +kernel
theorem d1_56 : decode prog_31_method_2_code 56 = .ok (.istore_n 2, 1) := by decide +kernel
theorem d1_57 : decode prog_31_method_2_code 57 = .ok (.goto 38, 3) := by decide +kernel
theorem d1_60 : decode prog_31_method_2_code 60 = .ok (.iload_n 0, 1) := by decide +kernel
theorem d1_61 : decode prog_31_method_2_code 61 = .ok (.ldc 8, 2) := by decide +kernel
theorem d1_63 : decode prog_31_method_2_code 63 = .ok (.if_icmp .ge 8, 3) := by decide +kernel
theorem d1_66 : decode prog_31_method_2_code 66 = .ok (.iconst 0, 1) := by decide +kernel
theorem d1_67 : decode prog_31_method_2_code 67 = .ok (.istore_n 2, 1) := by decide +kernel
theorem d1_68 : decode prog_31_method_2_code 68 = .ok (.goto 27, 3) := by decide +kernel
theorem d1_71 : decode prog_31_method_2_code 71 = .ok (.iload_n 0, 1) := by decide +kernel
theorem d1_72 : decode prog_31_method_2_code 72 = .ok (.ldc 11, 2) := by decide +kernel
theorem d1_74 : decode prog_31_method_2_code 74 = .ok (.if_icmp .gt 19, 3) := by decide +kernel
theorem d1_77 : decode prog_31_method_2_code 77 = .ok (.iload_n 0, 1) := by decide +kernel
theorem d1_78 : decode prog_31_method_2_code 78 = .ok (.ldc 12, 2) := by decide +kernel
theorem d1_80 : decode prog_31_method_2_code 80 = .ok (.if_icmp .eq 13, 3) := by decide +kernel
theorem d1_83 : decode prog_31_method_2_code 83 = .ok (.iload_n 0, 1) := by decide +kernel
theorem d1_84 : decode prog_31_method_2_code 84 = .ok (.ldc 13, 2) := by decide +kernel
theorem d1_86 : decode prog_31_method_2_code 86 = .ok (.if_icmp .eq 7, 3) := by decide +kernel
theorem d1_89 : decode prog_31_method_2_code 89 = .ok (.iconst 1, 1) := by decide +kernel
theorem d1_90 : decode prog_31_method_2_code 90 = .ok (.goto 4, 3) := by decide +kernel
theorem d1_93 : decode prog_31_method_2_code 93 = .ok (.iconst 0, 1) := by decide +kernel
theorem d1_94 : decode prog_31_method_2_code 94 = .ok (.istore_n 2, 1) := by decide +kernel
theorem d1_95 : decode prog_31_method_2_code 95 = .ok (.iload_n 2, 1) := by decide +kernel
theorem d1_96 : decode prog_31_method_2_code 96 = .ok (.ireturn, 1) := by decide +kernel
theorem pd__28IZ_29Z : parseMethodDescriptor "(IZ)Z" = some ⟨[.int, .boolean], some .boolean⟩ := by decide +kernel
theorem ef_rm1 (q1 : Int32) (q2 : Int32) (m : MethodId) : entryFrame m #[.int q1, .int q2] 3 = mkF m 0 #[.val (.int q1), .val (.int q2), .unset] [] := by
  first | (simp [entryFrame, mkF, argsToLocals, Value.category]; done) | rfl
theorem pn_rm1 : plainName "com/example/folha/folha/builder/XmlChars" = true := by first | (simp [plainName, overriddenIn]; done) | decide +kernel
set_option maxRecDepth 65536 in
set_option maxHeartbeats 40000000 in
theorem rm1 (l : Launch) (Z : State) (a0 : Array Value) (hw : ∀ d ∈ tables_1, d.before a0 Z = true) (ws : List Jvm.Cond) (q1 : Int32) (q2 : Int32) (h0 : Heap) (n0 : Nat)  :
    Ctr l Z ({ cls := "com/example/folha/folha/builder/XmlChars", name := "isChar", desc := "(IZ)Z" } : Jvm.MethodName) prog_31_method_2_code 3 (some .boolean) ws ({ frames := 0, cells := 0, slots := 0, locals := 0 } : Room) #[.int q1, .int q2] h0 (fun v h L => v = some (.int (isCh q1 q2)) ∧ Fr n0 L ∧ h = h0) := by
  refine Ctr.enter (Ls := #[.val (.int q1), .val (.int q2), .unset]) (plainFor_of_name pn_rm1) (fun m => ef_rm1 q1 q2 m) ?_
  intro p e s m below meth c T hx hby hml hown hnm hret hlk hZ hh X0 e0
  have N0 := Fr.nil n0
  refine g_iloadN X0 hx hby d1_0 (pc' := 1) rfl rfl ?_
  refine g_bipush X0 hx hby d1_1 (pc' := 3) rfl (z := (32 : Int32)) rfl ?_
  refine g_icmp_ge X0 hx hby d1_3 (by decide) (pc' := 49) (by decide) (pn := 6) rfl (fun hc3_1 => ?_) (fun hc3_1 => ?_)
  · refine g_iloadN X0 hx hby d1_49 (pc' := 50) rfl rfl ?_
    refine g_ldcI X0 hx hZ hown hby d1_50 (pc' := 52) rfl (w_17 hw) ?_
    refine g_icmp_ge X0 hx hby d1_52 (by decide) (pc' := 60) (by decide) (pn := 55) rfl (fun hc52_2 => ?_) (fun hc52_2 => ?_)
    · refine g_iloadN X0 hx hby d1_60 (pc' := 61) rfl rfl ?_
      refine g_ldcI X0 hx hZ hown hby d1_61 (pc' := 63) rfl (w_18 hw) ?_
      refine g_icmp_ge X0 hx hby d1_63 (by decide) (pc' := 71) (by decide) (pn := 66) rfl (fun hc63_3 => ?_) (fun hc63_3 => ?_)
      · refine g_iloadN X0 hx hby d1_71 (pc' := 72) rfl rfl ?_
        refine g_ldcI X0 hx hZ hown hby d1_72 (pc' := 74) rfl (w_19 hw) ?_
        refine g_icmp_gt X0 hx hby d1_74 (by decide) (pc' := 93) (by decide) (pn := 77) rfl (fun hc74_4 => ?_) (fun hc74_4 => ?_)
        · refine g_iconst X0 hx hby d1_93 (pc' := 94) rfl (z := (0 : Int32)) rfl ?_
          refine g_istoreN X0 hx hby d1_94 (pc' := 95) rfl (l' := #[.val (.int q1), .val (.int q2), .val (.int (0 : Int32))]) rfl ?_
          refine g_iloadN X0 hx hby d1_95 (pc' := 96) rfl rfl ?_
          exact g_retN (Q := (fun v h L => v = some (.int (isCh q1 q2)) ∧ Fr n0 L ∧ h = h0)) (w := (0 : Int32)) X0 hx hby d1_96 hret (by simp) (by first | decide | rfl) hlk (by decide) (by decide) ⟨congrArg (fun z : Int32 => some (Value.int z)) (by unfold isCh; rw [if_neg hc3_1, if_neg hc52_2, if_neg hc63_3, if_pos hc74_4]), N0, e0⟩
        · refine g_iloadN X0 hx hby d1_77 (pc' := 78) rfl rfl ?_
          refine g_ldcI X0 hx hZ hown hby d1_78 (pc' := 80) rfl (w_20 hw) ?_
          refine g_icmp_eq X0 hx hby d1_80 (by decide) (pc' := 93) (by decide) (pn := 83) rfl (fun hc80_5 => ?_) (fun hc80_5 => ?_)
          · refine g_iconst X0 hx hby d1_93 (pc' := 94) rfl (z := (0 : Int32)) rfl ?_
            refine g_istoreN X0 hx hby d1_94 (pc' := 95) rfl (l' := #[.val (.int q1), .val (.int q2), .val (.int (0 : Int32))]) rfl ?_
            refine g_iloadN X0 hx hby d1_95 (pc' := 96) rfl rfl ?_
            exact g_retN (Q := (fun v h L => v = some (.int (isCh q1 q2)) ∧ Fr n0 L ∧ h = h0)) (w := (0 : Int32)) X0 hx hby d1_96 hret (by simp) (by first | decide | rfl) hlk (by decide) (by decide) ⟨congrArg (fun z : Int32 => some (Value.int z)) (by unfold isCh; rw [if_neg hc3_1, if_neg hc52_2, if_neg hc63_3, if_neg hc74_4, if_pos hc80_5]), N0, e0⟩
          · refine g_iloadN X0 hx hby d1_83 (pc' := 84) rfl rfl ?_
            refine g_ldcI X0 hx hZ hown hby d1_84 (pc' := 86) rfl (w_21 hw) ?_
            refine g_icmp_eq X0 hx hby d1_86 (by decide) (pc' := 93) (by decide) (pn := 89) rfl (fun hc86_6 => ?_) (fun hc86_6 => ?_)
            · refine g_iconst X0 hx hby d1_93 (pc' := 94) rfl (z := (0 : Int32)) rfl ?_
              refine g_istoreN X0 hx hby d1_94 (pc' := 95) rfl (l' := #[.val (.int q1), .val (.int q2), .val (.int (0 : Int32))]) rfl ?_
              refine g_iloadN X0 hx hby d1_95 (pc' := 96) rfl rfl ?_
              exact g_retN (Q := (fun v h L => v = some (.int (isCh q1 q2)) ∧ Fr n0 L ∧ h = h0)) (w := (0 : Int32)) X0 hx hby d1_96 hret (by simp) (by first | decide | rfl) hlk (by decide) (by decide) ⟨congrArg (fun z : Int32 => some (Value.int z)) (by unfold isCh; rw [if_neg hc3_1, if_neg hc52_2, if_neg hc63_3, if_neg hc74_4, if_neg hc80_5, if_pos hc86_6]), N0, e0⟩
            · refine g_iconst X0 hx hby d1_89 (pc' := 90) rfl (z := (1 : Int32)) rfl ?_
              refine g_goto X0 hx hby d1_90 (by decide) (pc' := 94) (by decide) ?_
              refine g_istoreN X0 hx hby d1_94 (pc' := 95) rfl (l' := #[.val (.int q1), .val (.int q2), .val (.int (1 : Int32))]) rfl ?_
              refine g_iloadN X0 hx hby d1_95 (pc' := 96) rfl rfl ?_
              exact g_retN (Q := (fun v h L => v = some (.int (isCh q1 q2)) ∧ Fr n0 L ∧ h = h0)) (w := (1 : Int32)) X0 hx hby d1_96 hret (by simp) (by first | decide | rfl) hlk (by decide) (by decide) ⟨congrArg (fun z : Int32 => some (Value.int z)) (by unfold isCh; rw [if_neg hc3_1, if_neg hc52_2, if_neg hc63_3, if_neg hc74_4, if_neg hc80_5, if_neg hc86_6]), N0, e0⟩
      · refine g_iconst X0 hx hby d1_66 (pc' := 67) rfl (z := (0 : Int32)) rfl ?_
        refine g_istoreN X0 hx hby d1_67 (pc' := 68) rfl (l' := #[.val (.int q1), .val (.int q2), .val (.int (0 : Int32))]) rfl ?_
        refine g_goto X0 hx hby d1_68 (by decide) (pc' := 95) (by decide) ?_
        refine g_iloadN X0 hx hby d1_95 (pc' := 96) rfl rfl ?_
        exact g_retN (Q := (fun v h L => v = some (.int (isCh q1 q2)) ∧ Fr n0 L ∧ h = h0)) (w := (0 : Int32)) X0 hx hby d1_96 hret (by simp) (by first | decide | rfl) hlk (by decide) (by decide) ⟨congrArg (fun z : Int32 => some (Value.int z)) (by unfold isCh; rw [if_neg hc3_1, if_neg hc52_2, if_pos hc63_3]), N0, e0⟩
    · refine g_iconst X0 hx hby d1_55 (pc' := 56) rfl (z := (1 : Int32)) rfl ?_
      refine g_istoreN X0 hx hby d1_56 (pc' := 57) rfl (l' := #[.val (.int q1), .val (.int q2), .val (.int (1 : Int32))]) rfl ?_
      refine g_goto X0 hx hby d1_57 (by decide) (pc' := 95) (by decide) ?_
      refine g_iloadN X0 hx hby d1_95 (pc' := 96) rfl rfl ?_
      exact g_retN (Q := (fun v h L => v = some (.int (isCh q1 q2)) ∧ Fr n0 L ∧ h = h0)) (w := (1 : Int32)) X0 hx hby d1_96 hret (by simp) (by first | decide | rfl) hlk (by decide) (by decide) ⟨congrArg (fun z : Int32 => some (Value.int z)) (by unfold isCh; rw [if_neg hc3_1, if_pos hc52_2]), N0, e0⟩
  · refine g_iloadN X0 hx hby d1_6 (pc' := 7) rfl rfl ?_
    refine g_if_eq X0 hx hby d1_7 (by decide) (pc' := 22) (by decide) (pn := 10) rfl (fun hc7_7 => ?_) (fun hc7_7 => ?_)
    · refine g_iloadN X0 hx hby d1_22 (pc' := 23) rfl rfl ?_
      refine g_bipush X0 hx hby d1_23 (pc' := 25) rfl (z := (9 : Int32)) rfl ?_
      refine g_icmp_eq X0 hx hby d1_25 (by decide) (pc' := 40) (by decide) (pn := 28) rfl (fun hc25_8 => ?_) (fun hc25_8 => ?_)
      · refine g_iconst X0 hx hby d1_40 (pc' := 41) rfl (z := (1 : Int32)) rfl ?_
        refine g_goto X0 hx hby d1_41 (by decide) (pc' := 45) (by decide) ?_
        refine g_istoreN X0 hx hby d1_45 (pc' := 46) rfl (l' := #[.val (.int q1), .val (.int q2), .val (.int (1 : Int32))]) rfl ?_
        refine g_goto X0 hx hby d1_46 (by decide) (pc' := 95) (by decide) ?_
        refine g_iloadN X0 hx hby d1_95 (pc' := 96) rfl rfl ?_
        exact g_retN (Q := (fun v h L => v = some (.int (isCh q1 q2)) ∧ Fr n0 L ∧ h = h0)) (w := (1 : Int32)) X0 hx hby d1_96 hret (by simp) (by first | decide | rfl) hlk (by decide) (by decide) ⟨congrArg (fun z : Int32 => some (Value.int z)) (by unfold isCh; rw [if_pos hc3_1, if_pos hc7_7, if_pos hc25_8]), N0, e0⟩
      · refine g_iloadN X0 hx hby d1_28 (pc' := 29) rfl rfl ?_
        refine g_bipush X0 hx hby d1_29 (pc' := 31) rfl (z := (10 : Int32)) rfl ?_
        refine g_icmp_eq X0 hx hby d1_31 (by decide) (pc' := 40) (by decide) (pn := 34) rfl (fun hc31_9 => ?_) (fun hc31_9 => ?_)
        · refine g_iconst X0 hx hby d1_40 (pc' := 41) rfl (z := (1 : Int32)) rfl ?_
          refine g_goto X0 hx hby d1_41 (by decide) (pc' := 45) (by decide) ?_
          refine g_istoreN X0 hx hby d1_45 (pc' := 46) rfl (l' := #[.val (.int q1), .val (.int q2), .val (.int (1 : Int32))]) rfl ?_
          refine g_goto X0 hx hby d1_46 (by decide) (pc' := 95) (by decide) ?_
          refine g_iloadN X0 hx hby d1_95 (pc' := 96) rfl rfl ?_
          exact g_retN (Q := (fun v h L => v = some (.int (isCh q1 q2)) ∧ Fr n0 L ∧ h = h0)) (w := (1 : Int32)) X0 hx hby d1_96 hret (by simp) (by first | decide | rfl) hlk (by decide) (by decide) ⟨congrArg (fun z : Int32 => some (Value.int z)) (by unfold isCh; rw [if_pos hc3_1, if_pos hc7_7, if_neg hc25_8, if_pos hc31_9]), N0, e0⟩
        · refine g_iloadN X0 hx hby d1_34 (pc' := 35) rfl rfl ?_
          refine g_bipush X0 hx hby d1_35 (pc' := 37) rfl (z := (13 : Int32)) rfl ?_
          refine g_icmp_ne X0 hx hby d1_37 (by decide) (pc' := 44) (by decide) (pn := 40) rfl (fun hc37_10 => ?_) (fun hc37_10 => ?_)
          · refine g_iconst X0 hx hby d1_44 (pc' := 45) rfl (z := (0 : Int32)) rfl ?_
            refine g_istoreN X0 hx hby d1_45 (pc' := 46) rfl (l' := #[.val (.int q1), .val (.int q2), .val (.int (0 : Int32))]) rfl ?_
            refine g_goto X0 hx hby d1_46 (by decide) (pc' := 95) (by decide) ?_
            refine g_iloadN X0 hx hby d1_95 (pc' := 96) rfl rfl ?_
            exact g_retN (Q := (fun v h L => v = some (.int (isCh q1 q2)) ∧ Fr n0 L ∧ h = h0)) (w := (0 : Int32)) X0 hx hby d1_96 hret (by simp) (by first | decide | rfl) hlk (by decide) (by decide) ⟨congrArg (fun z : Int32 => some (Value.int z)) (by unfold isCh; rw [if_pos hc3_1, if_pos hc7_7, if_neg hc25_8, if_neg hc31_9, if_neg hc37_10]), N0, e0⟩
          · refine g_iconst X0 hx hby d1_40 (pc' := 41) rfl (z := (1 : Int32)) rfl ?_
            refine g_goto X0 hx hby d1_41 (by decide) (pc' := 45) (by decide) ?_
            refine g_istoreN X0 hx hby d1_45 (pc' := 46) rfl (l' := #[.val (.int q1), .val (.int q2), .val (.int (1 : Int32))]) rfl ?_
            refine g_goto X0 hx hby d1_46 (by decide) (pc' := 95) (by decide) ?_
            refine g_iloadN X0 hx hby d1_95 (pc' := 96) rfl rfl ?_
            exact g_retN (Q := (fun v h L => v = some (.int (isCh q1 q2)) ∧ Fr n0 L ∧ h = h0)) (w := (1 : Int32)) X0 hx hby d1_96 hret (by simp) (by first | decide | rfl) hlk (by decide) (by decide) ⟨congrArg (fun z : Int32 => some (Value.int z)) (by unfold isCh; rw [if_pos hc3_1, if_pos hc7_7, if_neg hc25_8, if_neg hc31_9, if_pos hc37_10]), N0, e0⟩
    · refine g_iloadN X0 hx hby d1_10 (pc' := 11) rfl rfl ?_
      refine g_if_le X0 hx hby d1_11 (by decide) (pc' := 18) (by decide) (pn := 14) rfl (fun hc11_11 => ?_) (fun hc11_11 => ?_)
      · refine g_iconst X0 hx hby d1_18 (pc' := 19) rfl (z := (0 : Int32)) rfl ?_
        refine g_goto X0 hx hby d1_19 (by decide) (pc' := 45) (by decide) ?_
        refine g_istoreN X0 hx hby d1_45 (pc' := 46) rfl (l' := #[.val (.int q1), .val (.int q2), .val (.int (0 : Int32))]) rfl ?_
        refine g_goto X0 hx hby d1_46 (by decide) (pc' := 95) (by decide) ?_
        refine g_iloadN X0 hx hby d1_95 (pc' := 96) rfl rfl ?_
        exact g_retN (Q := (fun v h L => v = some (.int (isCh q1 q2)) ∧ Fr n0 L ∧ h = h0)) (w := (0 : Int32)) X0 hx hby d1_96 hret (by simp) (by first | decide | rfl) hlk (by decide) (by decide) ⟨congrArg (fun z : Int32 => some (Value.int z)) (by unfold isCh; rw [if_pos hc3_1, if_neg hc7_7, if_neg hc11_11]), N0, e0⟩
      · refine g_iconst X0 hx hby d1_14 (pc' := 15) rfl (z := (1 : Int32)) rfl ?_
        refine g_goto X0 hx hby d1_15 (by decide) (pc' := 45) (by decide) ?_
        refine g_istoreN X0 hx hby d1_45 (pc' := 46) rfl (l' := #[.val (.int q1), .val (.int q2), .val (.int (1 : Int32))]) rfl ?_
        refine g_goto X0 hx hby d1_46 (by decide) (pc' := 95) (by decide) ?_
        refine g_iloadN X0 hx hby d1_95 (pc' := 96) rfl rfl ?_
        exact g_retN (Q := (fun v h L => v = some (.int (isCh q1 q2)) ∧ Fr n0 L ∧ h = h0)) (w := (1 : Int32)) X0 hx hby d1_96 hret (by simp) (by first | decide | rfl) hlk (by decide) (by decide) ⟨congrArg (fun z : Int32 => some (Value.int z)) (by unfold isCh; rw [if_pos hc3_1, if_neg hc7_7, if_pos hc11_11]), N0, e0⟩
theorem ef_rm0 (q1 : Int32) (q2 : Int32) (q3 : Int32) (m : MethodId) : entryFrame m #[.int q1, .int q2, .int q3] maxLocals = mkF m 0 #[.val (.int q1), .val (.int q2), .val (.int q3), .unset, .unset, .unset, .unset, .unset] [] := by
  first | (simp [entryFrame, mkF, argsToLocals, Value.category, maxLocals]; done) | rfl
theorem pn_rm0 : plainName "com/example/folha/folha/builder/XmlCharsIsCharPinLaw" = true := by first | (simp [plainName, overriddenIn]; done) | decide +kernel
set_option maxRecDepth 65536 in
set_option maxHeartbeats 40000000 in
theorem rm0 (l : Launch) (Z : State) (a0 : Array Value) (hw : ∀ d ∈ tables_1, d.before a0 Z = true) (ws : List Jvm.Cond) (q1 : Int32) (q2 : Int32) (q3 : Int32) (h0 : Heap) (n0 : Nat) (Z0 : n0 ≤ h0.size) :
    Ctr l Z x code maxLocals ret ws room_1 #[.int q1, .int q2, .int q3] h0 (fun v h L => v = some (.int 1) ∧ Fr n0 L) := by
  refine Ctr.enter (Ls := #[.val (.int q1), .val (.int q2), .val (.int q3), .unset, .unset, .unset, .unset, .unset]) (plainFor_of_name pn_rm0) (fun m => ef_rm0 q1 q2 q3 m) ?_
  intro p e s m below meth c T hx hby hml hown hnm hret hlk hZ hh X0 e0
  have N0 := Fr.nil n0
  refine g_iloadN X0 hx hby at_0 (pc' := 1) rfl rfl ?_
  refine g_iconst X0 hx hby at_1 (pc' := 2) rfl (z := (1 : Int32)) rfl ?_
  refine g_iand X0 hx hby at_2 (pc' := 3) rfl ?_
  refine g_if_eq X0 hx hby at_3 (by decide) (pc' := 10) (by decide) (pn := 6) rfl (fun hc3_1 => ?_) (fun hc3_1 => ?_)
  · refine g_iconst X0 hx hby at_10 (pc' := 11) rfl (z := (0 : Int32)) rfl ?_
    refine g_istoreN X0 hx hby at_11 (pc' := 12) rfl (l' := #[.val (.int q1), .val (.int q2), .val (.int q3), .val (.int (0 : Int32)), .unset, .unset, .unset, .unset]) rfl ?_
    refine g_iloadN X0 hx hby at_12 (pc' := 13) rfl rfl ?_
    refine g_iconst X0 hx hby at_13 (pc' := 14) rfl (z := (1 : Int32)) rfl ?_
    refine g_iand X0 hx hby at_14 (pc' := 15) rfl ?_
    refine g_if_ne X0 hx hby at_15 (by decide) (pc' := 24) (by decide) (pn := 18) rfl (fun hc15_2 => ?_) (fun hc15_2 => ?_)
    · refine g_bipush X0 hx hby at_24 (pc' := 26) rfl (z := (20 : Int32)) rfl ?_
      refine g_newarray X0 hx hZ 20  "[I" hby at_26 (pc' := 28) rfl (w_0 hw) e0 (by decide) (by decide) (by decide) (by decide) (by decide) rfl ?_
      intro T3 b3 c3 hb3 X3 E3 A3v A3x
      have Z3 := Nat.le_trans Z0 E3.1
      have A3 : Arv Z T3.heap b3 c3 .int (20 : Int32) [.int 0, .int 0, .int 0, .int 0, .int 0, .int 0, .int 0, .int 0, .int 0, .int 0, .int 0, .int 0, .int 0, .int 0, .int 0, .int 0, .int 0, .int 0, .int 0, .int 0] (.int 0) := A3v
      refine g_dup X3 hx hby at_28 (pc' := 29) rfl rfl ?_
      refine g_iconst X3 hx hby at_29 (pc' := 30) rfl (z := (0 : Int32)) rfl ?_
      refine g_iconst X3 hx hby at_30 (pc' := 31) rfl (z := (0 : Int32)) rfl ?_
      refine g_iastore X3 hx hZ 0 hby at_31 (pc' := 32) rfl rfl A3 (by decide) (by decide) (by decide) ?_
      intro T4 X4 W4 A4v
      have N4 := Fr.snoc X4 N0 (Nat.le_trans Z0 (Nat.le_of_eq hb3.symm))
      have Z4 : n0 ≤ T4.heap.size := (W4.size ▸ Z3)
      have E4_b3 := A3x.wr W4
      have A4 : Arv Z T4.heap b3 c3 .int (20 : Int32) [.int (0 : Int32), .int 0, .int 0, .int 0, .int 0, .int 0, .int 0, .int 0, .int 0, .int 0, .int 0, .int 0, .int 0, .int 0, .int 0, .int 0, .int 0, .int 0, .int 0, .int 0] (.int 0) := A4v
      refine g_dup X4 hx hby at_32 (pc' := 33) rfl rfl ?_
      refine g_iconst X4 hx hby at_33 (pc' := 34) rfl (z := (1 : Int32)) rfl ?_
      refine g_iconst X4 hx hby at_34 (pc' := 35) rfl (z := (1 : Int32)) rfl ?_
      refine g_iastore X4 hx hZ 1 hby at_35 (pc' := 36) rfl rfl A4 (by decide) (by decide) (by decide) ?_
      intro T5 X5 W5 A5v
      have N5 := Fr.snoc X5 N4 (Nat.le_trans Z0 (Nat.le_of_eq hb3.symm))
      have Z5 : n0 ≤ T5.heap.size := (W5.size ▸ Z4)
      have E5_b3 := E4_b3.wr W5
      have A5 : Arv Z T5.heap b3 c3 .int (20 : Int32) [.int (0 : Int32), .int (1 : Int32), .int 0, .int 0, .int 0, .int 0, .int 0, .int 0, .int 0, .int 0, .int 0, .int 0, .int 0, .int 0, .int 0, .int 0, .int 0, .int 0, .int 0, .int 0] (.int 0) := A5v
      refine g_dup X5 hx hby at_36 (pc' := 37) rfl rfl ?_
      refine g_iconst X5 hx hby at_37 (pc' := 38) rfl (z := (2 : Int32)) rfl ?_
      refine g_bipush X5 hx hby at_38 (pc' := 40) rfl (z := (9 : Int32)) rfl ?_
      refine g_iastore X5 hx hZ 2 hby at_40 (pc' := 41) rfl rfl A5 (by decide) (by decide) (by decide) ?_
      intro T6 X6 W6 A6v
      have N6 := Fr.snoc X6 N5 (Nat.le_trans Z0 (Nat.le_of_eq hb3.symm))
      have Z6 : n0 ≤ T6.heap.size := (W6.size ▸ Z5)
      have E6_b3 := E5_b3.wr W6
      have A6 : Arv Z T6.heap b3 c3 .int (20 : Int32) [.int (0 : Int32), .int (1 : Int32), .int (9 : Int32), .int 0, .int 0, .int 0, .int 0, .int 0, .int 0, .int 0, .int 0, .int 0, .int 0, .int 0, .int 0, .int 0, .int 0, .int 0, .int 0, .int 0] (.int 0) := A6v
      refine g_dup X6 hx hby at_41 (pc' := 42) rfl rfl ?_
      refine g_iconst X6 hx hby at_42 (pc' := 43) rfl (z := (3 : Int32)) rfl ?_
      refine g_bipush X6 hx hby at_43 (pc' := 45) rfl (z := (10 : Int32)) rfl ?_
      refine g_iastore X6 hx hZ 3 hby at_45 (pc' := 46) rfl rfl A6 (by decide) (by decide) (by decide) ?_
      intro T7 X7 W7 A7v
      have N7 := Fr.snoc X7 N6 (Nat.le_trans Z0 (Nat.le_of_eq hb3.symm))
      have Z7 : n0 ≤ T7.heap.size := (W7.size ▸ Z6)
      have E7_b3 := E6_b3.wr W7
      have A7 : Arv Z T7.heap b3 c3 .int (20 : Int32) [.int (0 : Int32), .int (1 : Int32), .int (9 : Int32), .int (10 : Int32), .int 0, .int 0, .int 0, .int 0, .int 0, .int 0, .int 0, .int 0, .int 0, .int 0, .int 0, .int 0, .int 0, .int 0, .int 0, .int 0] (.int 0) := A7v
      refine g_dup X7 hx hby at_46 (pc' := 47) rfl rfl ?_
      refine g_iconst X7 hx hby at_47 (pc' := 48) rfl (z := (4 : Int32)) rfl ?_
      refine g_bipush X7 hx hby at_48 (pc' := 50) rfl (z := (13 : Int32)) rfl ?_
      refine g_iastore X7 hx hZ 4 hby at_50 (pc' := 51) rfl rfl A7 (by decide) (by decide) (by decide) ?_
      intro T8 X8 W8 A8v
      have N8 := Fr.snoc X8 N7 (Nat.le_trans Z0 (Nat.le_of_eq hb3.symm))
      have Z8 : n0 ≤ T8.heap.size := (W8.size ▸ Z7)
      have E8_b3 := E7_b3.wr W8
      have A8 : Arv Z T8.heap b3 c3 .int (20 : Int32) [.int (0 : Int32), .int (1 : Int32), .int (9 : Int32), .int (10 : Int32), .int (13 : Int32), .int 0, .int 0, .int 0, .int 0, .int 0, .int 0, .int 0, .int 0, .int 0, .int 0, .int 0, .int 0, .int 0, .int 0, .int 0] (.int 0) := A8v
      refine g_dup X8 hx hby at_51 (pc' := 52) rfl rfl ?_
      refine g_iconst X8 hx hby at_52 (pc' := 53) rfl (z := (5 : Int32)) rfl ?_
      refine g_bipush X8 hx hby at_53 (pc' := 55) rfl (z := (31 : Int32)) rfl ?_
      refine g_iastore X8 hx hZ 5 hby at_55 (pc' := 56) rfl rfl A8 (by decide) (by decide) (by decide) ?_
      intro T9 X9 W9 A9v
      have N9 := Fr.snoc X9 N8 (Nat.le_trans Z0 (Nat.le_of_eq hb3.symm))
      have Z9 : n0 ≤ T9.heap.size := (W9.size ▸ Z8)
      have E9_b3 := E8_b3.wr W9
      have A9 : Arv Z T9.heap b3 c3 .int (20 : Int32) [.int (0 : Int32), .int (1 : Int32), .int (9 : Int32), .int (10 : Int32), .int (13 : Int32), .int (31 : Int32), .int 0, .int 0, .int 0, .int 0, .int 0, .int 0, .int 0, .int 0, .int 0, .int 0, .int 0, .int 0, .int 0, .int 0] (.int 0) := A9v
      refine g_dup X9 hx hby at_56 (pc' := 57) rfl rfl ?_
      refine g_bipush X9 hx hby at_57 (pc' := 59) rfl (z := (6 : Int32)) rfl ?_
      refine g_bipush X9 hx hby at_59 (pc' := 61) rfl (z := (32 : Int32)) rfl ?_
      refine g_iastore X9 hx hZ 6 hby at_61 (pc' := 62) rfl rfl A9 (by decide) (by decide) (by decide) ?_
      intro T10 X10 W10 A10v
      have N10 := Fr.snoc X10 N9 (Nat.le_trans Z0 (Nat.le_of_eq hb3.symm))
      have Z10 : n0 ≤ T10.heap.size := (W10.size ▸ Z9)
      have E10_b3 := E9_b3.wr W10
      have A10 : Arv Z T10.heap b3 c3 .int (20 : Int32) [.int (0 : Int32), .int (1 : Int32), .int (9 : Int32), .int (10 : Int32), .int (13 : Int32), .int (31 : Int32), .int (32 : Int32), .int 0, .int 0, .int 0, .int 0, .int 0, .int 0, .int 0, .int 0, .int 0, .int 0, .int 0, .int 0, .int 0] (.int 0) := A10v
      refine g_dup X10 hx hby at_62 (pc' := 63) rfl rfl ?_
      refine g_bipush X10 hx hby at_63 (pc' := 65) rfl (z := (7 : Int32)) rfl ?_
      refine g_ldcI X10 hx hZ hown hby at_65 (pc' := 67) rfl (w_1 hw) ?_
      refine g_iastore X10 hx hZ 7 hby at_67 (pc' := 68) rfl rfl A10 (by decide) (by decide) (by decide) ?_
      intro T11 X11 W11 A11v
      have N11 := Fr.snoc X11 N10 (Nat.le_trans Z0 (Nat.le_of_eq hb3.symm))
      have Z11 : n0 ≤ T11.heap.size := (W11.size ▸ Z10)
      have E11_b3 := E10_b3.wr W11
      have A11 : Arv Z T11.heap b3 c3 .int (20 : Int32) [.int (0 : Int32), .int (1 : Int32), .int (9 : Int32), .int (10 : Int32), .int (13 : Int32), .int (31 : Int32), .int (32 : Int32), .int (55295 : Int32), .int 0, .int 0, .int 0, .int 0, .int 0, .int 0, .int 0, .int 0, .int 0, .int 0, .int 0, .int 0] (.int 0) := A11v
      refine g_dup X11 hx hby at_68 (pc' := 69) rfl rfl ?_
      refine g_bipush X11 hx hby at_69 (pc' := 71) rfl (z := (8 : Int32)) rfl ?_
      refine g_ldcI X11 hx hZ hown hby at_71 (pc' := 73) rfl (w_2 hw) ?_
      refine g_iastore X11 hx hZ 8 hby at_73 (pc' := 74) rfl rfl A11 (by decide) (by decide) (by decide) ?_
      intro T12 X12 W12 A12v
      have N12 := Fr.snoc X12 N11 (Nat.le_trans Z0 (Nat.le_of_eq hb3.symm))
      have Z12 : n0 ≤ T12.heap.size := (W12.size ▸ Z11)
      have E12_b3 := E11_b3.wr W12
      have A12 : Arv Z T12.heap b3 c3 .int (20 : Int32) [.int (0 : Int32), .int (1 : Int32), .int (9 : Int32), .int (10 : Int32), .int (13 : Int32), .int (31 : Int32), .int (32 : Int32), .int (55295 : Int32), .int (55296 : Int32), .int 0, .int 0, .int 0, .int 0, .int 0, .int 0, .int 0, .int 0, .int 0, .int 0, .int 0] (.int 0) := A12v
      refine g_dup X12 hx hby at_74 (pc' := 75) rfl rfl ?_
      refine g_bipush X12 hx hby at_75 (pc' := 77) rfl (z := (9 : Int32)) rfl ?_
      refine g_ldcI X12 hx hZ hown hby at_77 (pc' := 79) rfl (w_3 hw) ?_
      refine g_iastore X12 hx hZ 9 hby at_79 (pc' := 80) rfl rfl A12 (by decide) (by decide) (by decide) ?_
      intro T13 X13 W13 A13v
      have N13 := Fr.snoc X13 N12 (Nat.le_trans Z0 (Nat.le_of_eq hb3.symm))
      have Z13 : n0 ≤ T13.heap.size := (W13.size ▸ Z12)
      have E13_b3 := E12_b3.wr W13
      have A13 : Arv Z T13.heap b3 c3 .int (20 : Int32) [.int (0 : Int32), .int (1 : Int32), .int (9 : Int32), .int (10 : Int32), .int (13 : Int32), .int (31 : Int32), .int (32 : Int32), .int (55295 : Int32), .int (55296 : Int32), .int (57343 : Int32), .int 0, .int 0, .int 0, .int 0, .int 0, .int 0, .int 0, .int 0, .int 0, .int 0] (.int 0) := A13v
      refine g_dup X13 hx hby at_80 (pc' := 81) rfl rfl ?_
      refine g_bipush X13 hx hby at_81 (pc' := 83) rfl (z := (10 : Int32)) rfl ?_
      refine g_ldcI X13 hx hZ hown hby at_83 (pc' := 85) rfl (w_4 hw) ?_
      refine g_iastore X13 hx hZ 10 hby at_85 (pc' := 86) rfl rfl A13 (by decide) (by decide) (by decide) ?_
      intro T14 X14 W14 A14v
      have N14 := Fr.snoc X14 N13 (Nat.le_trans Z0 (Nat.le_of_eq hb3.symm))
      have Z14 : n0 ≤ T14.heap.size := (W14.size ▸ Z13)
      have E14_b3 := E13_b3.wr W14
      have A14 : Arv Z T14.heap b3 c3 .int (20 : Int32) [.int (0 : Int32), .int (1 : Int32), .int (9 : Int32), .int (10 : Int32), .int (13 : Int32), .int (31 : Int32), .int (32 : Int32), .int (55295 : Int32), .int (55296 : Int32), .int (57343 : Int32), .int (57344 : Int32), .int 0, .int 0, .int 0, .int 0, .int 0, .int 0, .int 0, .int 0, .int 0] (.int 0) := A14v
      refine g_dup X14 hx hby at_86 (pc' := 87) rfl rfl ?_
      refine g_bipush X14 hx hby at_87 (pc' := 89) rfl (z := (11 : Int32)) rfl ?_
      refine g_ldcI X14 hx hZ hown hby at_89 (pc' := 91) rfl (w_5 hw) ?_
      refine g_iastore X14 hx hZ 11 hby at_91 (pc' := 92) rfl rfl A14 (by decide) (by decide) (by decide) ?_
      intro T15 X15 W15 A15v
      have N15 := Fr.snoc X15 N14 (Nat.le_trans Z0 (Nat.le_of_eq hb3.symm))
      have Z15 : n0 ≤ T15.heap.size := (W15.size ▸ Z14)
      have E15_b3 := E14_b3.wr W15
      have A15 : Arv Z T15.heap b3 c3 .int (20 : Int32) [.int (0 : Int32), .int (1 : Int32), .int (9 : Int32), .int (10 : Int32), .int (13 : Int32), .int (31 : Int32), .int (32 : Int32), .int (55295 : Int32), .int (55296 : Int32), .int (57343 : Int32), .int (57344 : Int32), .int (65533 : Int32), .int 0, .int 0, .int 0, .int 0, .int 0, .int 0, .int 0, .int 0] (.int 0) := A15v
      refine g_dup X15 hx hby at_92 (pc' := 93) rfl rfl ?_
      refine g_bipush X15 hx hby at_93 (pc' := 95) rfl (z := (12 : Int32)) rfl ?_
      refine g_ldcI X15 hx hZ hown hby at_95 (pc' := 97) rfl (w_6 hw) ?_
      refine g_iastore X15 hx hZ 12 hby at_97 (pc' := 98) rfl rfl A15 (by decide) (by decide) (by decide) ?_
      intro T16 X16 W16 A16v
      have N16 := Fr.snoc X16 N15 (Nat.le_trans Z0 (Nat.le_of_eq hb3.symm))
      have Z16 : n0 ≤ T16.heap.size := (W16.size ▸ Z15)
      have E16_b3 := E15_b3.wr W16
      have A16 : Arv Z T16.heap b3 c3 .int (20 : Int32) [.int (0 : Int32), .int (1 : Int32), .int (9 : Int32), .int (10 : Int32), .int (13 : Int32), .int (31 : Int32), .int (32 : Int32), .int (55295 : Int32), .int (55296 : Int32), .int (57343 : Int32), .int (57344 : Int32), .int (65533 : Int32), .int (65534 : Int32), .int 0, .int 0, .int 0, .int 0, .int 0, .int 0, .int 0] (.int 0) := A16v
      refine g_dup X16 hx hby at_98 (pc' := 99) rfl rfl ?_
      refine g_bipush X16 hx hby at_99 (pc' := 101) rfl (z := (13 : Int32)) rfl ?_
      refine g_ldcI X16 hx hZ hown hby at_101 (pc' := 103) rfl (w_7 hw) ?_
      refine g_iastore X16 hx hZ 13 hby at_103 (pc' := 104) rfl rfl A16 (by decide) (by decide) (by decide) ?_
      intro T17 X17 W17 A17v
      have N17 := Fr.snoc X17 N16 (Nat.le_trans Z0 (Nat.le_of_eq hb3.symm))
      have Z17 : n0 ≤ T17.heap.size := (W17.size ▸ Z16)
      have E17_b3 := E16_b3.wr W17
      have A17 : Arv Z T17.heap b3 c3 .int (20 : Int32) [.int (0 : Int32), .int (1 : Int32), .int (9 : Int32), .int (10 : Int32), .int (13 : Int32), .int (31 : Int32), .int (32 : Int32), .int (55295 : Int32), .int (55296 : Int32), .int (57343 : Int32), .int (57344 : Int32), .int (65533 : Int32), .int (65534 : Int32), .int (65535 : Int32), .int 0, .int 0, .int 0, .int 0, .int 0, .int 0] (.int 0) := A17v
      refine g_dup X17 hx hby at_104 (pc' := 105) rfl rfl ?_
      refine g_bipush X17 hx hby at_105 (pc' := 107) rfl (z := (14 : Int32)) rfl ?_
      refine g_ldcI X17 hx hZ hown hby at_107 (pc' := 109) rfl (w_8 hw) ?_
      refine g_iastore X17 hx hZ 14 hby at_109 (pc' := 110) rfl rfl A17 (by decide) (by decide) (by decide) ?_
      intro T18 X18 W18 A18v
      have N18 := Fr.snoc X18 N17 (Nat.le_trans Z0 (Nat.le_of_eq hb3.symm))
      have Z18 : n0 ≤ T18.heap.size := (W18.size ▸ Z17)
      have E18_b3 := E17_b3.wr W18
      have A18 : Arv Z T18.heap b3 c3 .int (20 : Int32) [.int (0 : Int32), .int (1 : Int32), .int (9 : Int32), .int (10 : Int32), .int (13 : Int32), .int (31 : Int32), .int (32 : Int32), .int (55295 : Int32), .int (55296 : Int32), .int (57343 : Int32), .int (57344 : Int32), .int (65533 : Int32), .int (65534 : Int32), .int (65535 : Int32), .int (65536 : Int32), .int 0, .int 0, .int 0, .int 0, .int 0] (.int 0) := A18v
      refine g_dup X18 hx hby at_110 (pc' := 111) rfl rfl ?_
      refine g_bipush X18 hx hby at_111 (pc' := 113) rfl (z := (15 : Int32)) rfl ?_
      refine g_ldcI X18 hx hZ hown hby at_113 (pc' := 115) rfl (w_9 hw) ?_
      refine g_iastore X18 hx hZ 15 hby at_115 (pc' := 116) rfl rfl A18 (by decide) (by decide) (by decide) ?_
      intro T19 X19 W19 A19v
      have N19 := Fr.snoc X19 N18 (Nat.le_trans Z0 (Nat.le_of_eq hb3.symm))
      have Z19 : n0 ≤ T19.heap.size := (W19.size ▸ Z18)
      have E19_b3 := E18_b3.wr W19
      have A19 : Arv Z T19.heap b3 c3 .int (20 : Int32) [.int (0 : Int32), .int (1 : Int32), .int (9 : Int32), .int (10 : Int32), .int (13 : Int32), .int (31 : Int32), .int (32 : Int32), .int (55295 : Int32), .int (55296 : Int32), .int (57343 : Int32), .int (57344 : Int32), .int (65533 : Int32), .int (65534 : Int32), .int (65535 : Int32), .int (65536 : Int32), .int (1114111 : Int32), .int 0, .int 0, .int 0, .int 0] (.int 0) := A19v
      refine g_dup X19 hx hby at_116 (pc' := 117) rfl rfl ?_
      refine g_bipush X19 hx hby at_117 (pc' := 119) rfl (z := (16 : Int32)) rfl ?_
      refine g_ldcI X19 hx hZ hown hby at_119 (pc' := 121) rfl (w_10 hw) ?_
      refine g_iastore X19 hx hZ 16 hby at_121 (pc' := 122) rfl rfl A19 (by decide) (by decide) (by decide) ?_
      intro T20 X20 W20 A20v
      have N20 := Fr.snoc X20 N19 (Nat.le_trans Z0 (Nat.le_of_eq hb3.symm))
      have Z20 : n0 ≤ T20.heap.size := (W20.size ▸ Z19)
      have E20_b3 := E19_b3.wr W20
      have A20 : Arv Z T20.heap b3 c3 .int (20 : Int32) [.int (0 : Int32), .int (1 : Int32), .int (9 : Int32), .int (10 : Int32), .int (13 : Int32), .int (31 : Int32), .int (32 : Int32), .int (55295 : Int32), .int (55296 : Int32), .int (57343 : Int32), .int (57344 : Int32), .int (65533 : Int32), .int (65534 : Int32), .int (65535 : Int32), .int (65536 : Int32), .int (1114111 : Int32), .int (1114112 : Int32), .int 0, .int 0, .int 0] (.int 0) := A20v
      refine g_dup X20 hx hby at_122 (pc' := 123) rfl rfl ?_
      refine g_bipush X20 hx hby at_123 (pc' := 125) rfl (z := (17 : Int32)) rfl ?_
      refine g_ldcI X20 hx hZ hown hby at_125 (pc' := 127) rfl (w_11 hw) ?_
      refine g_iastore X20 hx hZ 17 hby at_127 (pc' := 128) rfl rfl A20 (by decide) (by decide) (by decide) ?_
      intro T21 X21 W21 A21v
      have N21 := Fr.snoc X21 N20 (Nat.le_trans Z0 (Nat.le_of_eq hb3.symm))
      have Z21 : n0 ≤ T21.heap.size := (W21.size ▸ Z20)
      have E21_b3 := E20_b3.wr W21
      have A21 : Arv Z T21.heap b3 c3 .int (20 : Int32) [.int (0 : Int32), .int (1 : Int32), .int (9 : Int32), .int (10 : Int32), .int (13 : Int32), .int (31 : Int32), .int (32 : Int32), .int (55295 : Int32), .int (55296 : Int32), .int (57343 : Int32), .int (57344 : Int32), .int (65533 : Int32), .int (65534 : Int32), .int (65535 : Int32), .int (65536 : Int32), .int (1114111 : Int32), .int (1114112 : Int32), .int (-2147483648 : Int32), .int 0, .int 0] (.int 0) := A21v
      refine g_dup X21 hx hby at_128 (pc' := 129) rfl rfl ?_
      refine g_bipush X21 hx hby at_129 (pc' := 131) rfl (z := (18 : Int32)) rfl ?_
      refine g_ldcI X21 hx hZ hown hby at_131 (pc' := 133) rfl (w_12 hw) ?_
      refine g_iastore X21 hx hZ 18 hby at_133 (pc' := 134) rfl rfl A21 (by decide) (by decide) (by decide) ?_
      intro T22 X22 W22 A22v
      have N22 := Fr.snoc X22 N21 (Nat.le_trans Z0 (Nat.le_of_eq hb3.symm))
      have Z22 : n0 ≤ T22.heap.size := (W22.size ▸ Z21)
      have E22_b3 := E21_b3.wr W22
      have A22 : Arv Z T22.heap b3 c3 .int (20 : Int32) [.int (0 : Int32), .int (1 : Int32), .int (9 : Int32), .int (10 : Int32), .int (13 : Int32), .int (31 : Int32), .int (32 : Int32), .int (55295 : Int32), .int (55296 : Int32), .int (57343 : Int32), .int (57344 : Int32), .int (65533 : Int32), .int (65534 : Int32), .int (65535 : Int32), .int (65536 : Int32), .int (1114111 : Int32), .int (1114112 : Int32), .int (-2147483648 : Int32), .int (2147483647 : Int32), .int 0] (.int 0) := A22v
      refine g_dup X22 hx hby at_134 (pc' := 135) rfl rfl ?_
      refine g_bipush X22 hx hby at_135 (pc' := 137) rfl (z := (19 : Int32)) rfl ?_
      refine g_iconst X22 hx hby at_137 (pc' := 138) rfl (z := (-1 : Int32)) rfl ?_
      refine g_iastore X22 hx hZ 19 hby at_138 (pc' := 139) rfl rfl A22 (by decide) (by decide) (by decide) ?_
      intro T23 X23 W23 A23v
      have N23 := Fr.snoc X23 N22 (Nat.le_trans Z0 (Nat.le_of_eq hb3.symm))
      have Z23 : n0 ≤ T23.heap.size := (W23.size ▸ Z22)
      have E23_b3 := E22_b3.wr W23
      have A23 : Arv Z T23.heap b3 c3 .int (20 : Int32) [.int (0 : Int32), .int (1 : Int32), .int (9 : Int32), .int (10 : Int32), .int (13 : Int32), .int (31 : Int32), .int (32 : Int32), .int (55295 : Int32), .int (55296 : Int32), .int (57343 : Int32), .int (57344 : Int32), .int (65533 : Int32), .int (65534 : Int32), .int (65535 : Int32), .int (65536 : Int32), .int (1114111 : Int32), .int (1114112 : Int32), .int (-2147483648 : Int32), .int (2147483647 : Int32), .int (-1 : Int32)] (.int 0) := A23v
      refine g_astore X23 hx hby at_139 (pc' := 141) rfl rfl (l' := #[.val (.int q1), .val (.int q2), .val (.int q3), .val (.int (0 : Int32)), .unset, .val (.ref b3), .unset, .unset]) rfl ?_
      refine g_iloadN X23 hx hby at_141 (pc' := 142) rfl rfl ?_
      refine g_iconst X23 hx hby at_142 (pc' := 143) rfl (z := (1 : Int32)) rfl ?_
      refine g_iushr X23 hx hby at_143 (pc' := 144) rfl ?_
      refine g_ldcI X23 hx hZ hown hby at_144 (pc' := 146) rfl (w_12 hw) ?_
      refine g_iand X23 hx hby at_146 (pc' := 147) rfl ?_
      refine g_aload X23 hx hby at_147 (pc' := 149) rfl rfl rfl ?_
      refine g_alen X23 hx hZ hby at_149 (pc' := 150) rfl rfl A23 ?_
      refine g_irem X23 hx hby at_150 (pc' := 151) rfl (by decide) ?_
      refine g_istore X23 hx hby at_151 (pc' := 153) rfl (l' := #[.val (.int q1), .val (.int q2), .val (.int q3), .val (.int (0 : Int32)), .unset, .val (.ref b3), .val (.int (((ushr q2 (1 : Int32)) &&& (2147483647 : Int32)) - (((ushr q2 (1 : Int32)) &&& (2147483647 : Int32)) / (20 : Int32)) * (20 : Int32))), .unset]) rfl ?_
      refine g_iloadN X23 hx hby at_153 (pc' := 154) rfl rfl ?_
      refine g_iconst X23 hx hby at_154 (pc' := 155) rfl (z := (3 : Int32)) rfl ?_
      refine g_iand X23 hx hby at_155 (pc' := 156) rfl ?_
      refine g_iconst X23 hx hby at_156 (pc' := 157) rfl (z := (1 : Int32)) rfl ?_
      refine g_isub X23 hx hby at_157 (pc' := 158) rfl ?_
      refine g_istore X23 hx hby at_158 (pc' := 160) rfl (l' := #[.val (.int q1), .val (.int q2), .val (.int q3), .val (.int (0 : Int32)), .unset, .val (.ref b3), .val (.int (((ushr q2 (1 : Int32)) &&& (2147483647 : Int32)) - (((ushr q2 (1 : Int32)) &&& (2147483647 : Int32)) / (20 : Int32)) * (20 : Int32))), .val (.int ((q1 &&& (3 : Int32)) - (1 : Int32)))]) rfl ?_
      refine g_aload X23 hx hby at_160 (pc' := 162) rfl rfl rfl ?_
      refine g_iload X23 hx hby at_162 (pc' := 164) rfl rfl ?_
      refine g_iaload X23 hx hZ hby at_164 (pc' := 165) rfl rfl A23 (own_idx _) (v := .int (edgeV (((ushr q2 (1 : Int32)) &&& (2147483647 : Int32)) - (((ushr q2 (1 : Int32)) &&& (2147483647 : Int32)) / (20 : Int32)) * (20 : Int32)))) (own_edge _) ?_
      refine g_iload X23 hx hby at_165 (pc' := 167) rfl rfl ?_
      refine g_iadd X23 hx hby at_167 (pc' := 168) rfl ?_
      refine g_istore X23 hx hby at_168 (pc' := 170) rfl (l' := #[.val (.int q1), .val (.int q2), .val (.int q3), .val (.int (0 : Int32)), .val (.int ((edgeV (((ushr q2 (1 : Int32)) &&& (2147483647 : Int32)) - (((ushr q2 (1 : Int32)) &&& (2147483647 : Int32)) / (20 : Int32)) * (20 : Int32))) + ((q1 &&& (3 : Int32)) - (1 : Int32)))), .val (.ref b3), .val (.int (((ushr q2 (1 : Int32)) &&& (2147483647 : Int32)) - (((ushr q2 (1 : Int32)) &&& (2147483647 : Int32)) / (20 : Int32)) * (20 : Int32))), .val (.int ((q1 &&& (3 : Int32)) - (1 : Int32)))]) rfl ?_
      suffices hz24 : ∀ z24 : Int32, Go p e below s room_1.cells room_1.slots (fun v h L => v = some (.int 1) ∧ Fr n0 L) (T23.setTop (mkF m 170 #[.val (.int q1), .val (.int q2), .val (.int q3), .val (.int (0 : Int32)), .val (.int z24), .val (.ref b3), .val (.int (((ushr q2 (1 : Int32)) &&& (2147483647 : Int32)) - (((ushr q2 (1 : Int32)) &&& (2147483647 : Int32)) / (20 : Int32)) * (20 : Int32))), .val (.int ((q1 &&& (3 : Int32)) - (1 : Int32)))] [])) from hz24 _
      intro z24
      have cut24 : ∀ b : Int32, (b = 0 ↔ ¬ PP z24) → Go p e below s room_1.cells room_1.slots (fun v h L => v = some (.int 1) ∧ Fr n0 L) (T23.setTop (mkF m 217 #[.val (.int q1), .val (.int q2), .val (.int q3), .val (.int (0 : Int32)), .val (.int z24), .val (.ref b3), .val (.int (((ushr q2 (1 : Int32)) &&& (2147483647 : Int32)) - (((ushr q2 (1 : Int32)) &&& (2147483647 : Int32)) / (20 : Int32)) * (20 : Int32))), .val (.int ((q1 &&& (3 : Int32)) - (1 : Int32)))] [.int b])) := by
        intro b24 hb24
        refine g_istore X23 hx hby at_217 (pc' := 219) rfl (l' := #[.val (.int q1), .val (.int q2), .val (.int q3), .val (.int (0 : Int32)), .val (.int z24), .val (.int b24), .val (.int (((ushr q2 (1 : Int32)) &&& (2147483647 : Int32)) - (((ushr q2 (1 : Int32)) &&& (2147483647 : Int32)) / (20 : Int32)) * (20 : Int32))), .val (.int ((q1 &&& (3 : Int32)) - (1 : Int32)))]) rfl ?_
        refine g_iloadN X23 hx hby at_219 (pc' := 220) rfl rfl ?_
        refine g_if_eq X23 hx hby at_220 (by decide) (pc' := 251) (by decide) (pn := 223) rfl (fun _ => ?_) (fun z => absurd z (by decide))
        refine g_iload X23 hx hby at_251 (pc' := 253) rfl rfl ?_
        refine g_bipush X23 hx hby at_253 (pc' := 255) rfl (z := (9 : Int32)) rfl ?_
        refine g_icmp_eq X23 hx hby at_255 (by decide) (pc' := 277) (by decide) (pn := 258) rfl (fun hc255_25 => ?_) (fun hc255_25 => ?_)
        · refine g_iconst X23 hx hby at_277 (pc' := 278) rfl (z := (1 : Int32)) rfl ?_
          refine g_goto X23 hx hby at_278 (by decide) (pc' := 282) (by decide) ?_
          refine g_istore X23 hx hby at_282 (pc' := 284) rfl (l' := #[.val (.int q1), .val (.int q2), .val (.int q3), .val (.int (0 : Int32)), .val (.int z24), .val (.int b24), .val (.int (1 : Int32)), .val (.int ((q1 &&& (3 : Int32)) - (1 : Int32)))]) rfl ?_
          refine g_iload X23 hx hby at_284 (pc' := 286) rfl rfl ?_
          refine g_iloadN X23 hx hby at_286 (pc' := 287) rfl rfl ?_
          refine g_callS X23 hx hZ hown (W := 0) (argsL := [.int z24, .int (0 : Int32)]) (rest := []) hby at_287 (pc' := 290) rfl (by rw [hml]; rfl) (w_13 hw) (w_14 hw) (w_15 hw) (w_16 hw) (by decide) (rm1 l Z a0 hw [] z24 (0 : Int32) T23.heap n0) rfl (by decide) (by decide) (by decide) (by decide) rfl pd__28IZ_29Z rfl rfl (Nat.le_of_eq rfl) ?_
          rintro _ T26 L26 X26 ⟨rfl, N26q, e26⟩
          have N26 := Fr.app N23 N26q
          show GoE p e below _ (T26.setTop (mkF m 290 #[.val (.int q1), .val (.int q2), .val (.int q3), .val (.int (0 : Int32)), .val (.int z24), .val (.int b24), .val (.int (1 : Int32)), .val (.int ((q1 &&& (3 : Int32)) - (1 : Int32)))] [.int (isCh z24 (0 : Int32))]))
          refine g_iload X26 hx hby at_290 (pc' := 292) rfl rfl ?_
          refine g_icmp_ne X26 hx hby at_292 (by decide) (pc' := 299) (by decide) (pn := 295) rfl (fun z => absurd z (fun z => z (by simp only [Int32.lt_iff_toInt_lt, ← Int32.toInt_inj, Int32.reduceToInt] at hc255_25; exact (own_is0 _).trans (if_pos (Or.inl (by omega)))))) (fun hc292_27 => ?_)
          refine g_iconst X26 hx hby at_295 (pc' := 296) rfl (z := (1 : Int32)) rfl ?_
          refine g_goto X26 hx hby at_296 (by decide) (pc' := 300) (by decide) ?_
          exact g_retN (Q := (fun v h L => v = some (.int 1) ∧ Fr n0 L)) (w := (1 : Int32)) X26 hx hby at_300 hret (by simp) (by first | decide | rfl) hlk (by decide) (by decide) ⟨rfl, N26⟩
        · refine g_iload X23 hx hby at_258 (pc' := 260) rfl rfl ?_
          refine g_bipush X23 hx hby at_260 (pc' := 262) rfl (z := (10 : Int32)) rfl ?_
          refine g_icmp_eq X23 hx hby at_262 (by decide) (pc' := 277) (by decide) (pn := 265) rfl (fun hc262_28 => ?_) (fun hc262_28 => ?_)
          · refine g_iconst X23 hx hby at_277 (pc' := 278) rfl (z := (1 : Int32)) rfl ?_
            refine g_goto X23 hx hby at_278 (by decide) (pc' := 282) (by decide) ?_
            refine g_istore X23 hx hby at_282 (pc' := 284) rfl (l' := #[.val (.int q1), .val (.int q2), .val (.int q3), .val (.int (0 : Int32)), .val (.int z24), .val (.int b24), .val (.int (1 : Int32)), .val (.int ((q1 &&& (3 : Int32)) - (1 : Int32)))]) rfl ?_
            refine g_iload X23 hx hby at_284 (pc' := 286) rfl rfl ?_
            refine g_iloadN X23 hx hby at_286 (pc' := 287) rfl rfl ?_
            refine g_callS X23 hx hZ hown (W := 0) (argsL := [.int z24, .int (0 : Int32)]) (rest := []) hby at_287 (pc' := 290) rfl (by rw [hml]; rfl) (w_13 hw) (w_14 hw) (w_15 hw) (w_16 hw) (by decide) (rm1 l Z a0 hw [] z24 (0 : Int32) T23.heap n0) rfl (by decide) (by decide) (by decide) (by decide) rfl pd__28IZ_29Z rfl rfl (Nat.le_of_eq rfl) ?_
            rintro _ T29 L29 X29 ⟨rfl, N29q, e29⟩
            have N29 := Fr.app N23 N29q
            show GoE p e below _ (T29.setTop (mkF m 290 #[.val (.int q1), .val (.int q2), .val (.int q3), .val (.int (0 : Int32)), .val (.int z24), .val (.int b24), .val (.int (1 : Int32)), .val (.int ((q1 &&& (3 : Int32)) - (1 : Int32)))] [.int (isCh z24 (0 : Int32))]))
            refine g_iload X29 hx hby at_290 (pc' := 292) rfl rfl ?_
            refine g_icmp_ne X29 hx hby at_292 (by decide) (pc' := 299) (by decide) (pn := 295) rfl (fun z => absurd z (fun z => z (by simp only [Int32.lt_iff_toInt_lt, ← Int32.toInt_inj, Int32.reduceToInt] at hc255_25 hc262_28; exact (own_is0 _).trans (if_pos (Or.inl (by omega)))))) (fun hc292_30 => ?_)
            refine g_iconst X29 hx hby at_295 (pc' := 296) rfl (z := (1 : Int32)) rfl ?_
            refine g_goto X29 hx hby at_296 (by decide) (pc' := 300) (by decide) ?_
            exact g_retN (Q := (fun v h L => v = some (.int 1) ∧ Fr n0 L)) (w := (1 : Int32)) X29 hx hby at_300 hret (by simp) (by first | decide | rfl) hlk (by decide) (by decide) ⟨rfl, N29⟩
          · refine g_iload X23 hx hby at_265 (pc' := 267) rfl rfl ?_
            refine g_bipush X23 hx hby at_267 (pc' := 269) rfl (z := (13 : Int32)) rfl ?_
            refine g_icmp_eq X23 hx hby at_269 (by decide) (pc' := 277) (by decide) (pn := 272) rfl (fun hc269_31 => ?_) (fun hc269_31 => ?_)
            · refine g_iconst X23 hx hby at_277 (pc' := 278) rfl (z := (1 : Int32)) rfl ?_
              refine g_goto X23 hx hby at_278 (by decide) (pc' := 282) (by decide) ?_
              refine g_istore X23 hx hby at_282 (pc' := 284) rfl (l' := #[.val (.int q1), .val (.int q2), .val (.int q3), .val (.int (0 : Int32)), .val (.int z24), .val (.int b24), .val (.int (1 : Int32)), .val (.int ((q1 &&& (3 : Int32)) - (1 : Int32)))]) rfl ?_
              refine g_iload X23 hx hby at_284 (pc' := 286) rfl rfl ?_
              refine g_iloadN X23 hx hby at_286 (pc' := 287) rfl rfl ?_
              refine g_callS X23 hx hZ hown (W := 0) (argsL := [.int z24, .int (0 : Int32)]) (rest := []) hby at_287 (pc' := 290) rfl (by rw [hml]; rfl) (w_13 hw) (w_14 hw) (w_15 hw) (w_16 hw) (by decide) (rm1 l Z a0 hw [] z24 (0 : Int32) T23.heap n0) rfl (by decide) (by decide) (by decide) (by decide) rfl pd__28IZ_29Z rfl rfl (Nat.le_of_eq rfl) ?_
              rintro _ T32 L32 X32 ⟨rfl, N32q, e32⟩
              have N32 := Fr.app N23 N32q
              show GoE p e below _ (T32.setTop (mkF m 290 #[.val (.int q1), .val (.int q2), .val (.int q3), .val (.int (0 : Int32)), .val (.int z24), .val (.int b24), .val (.int (1 : Int32)), .val (.int ((q1 &&& (3 : Int32)) - (1 : Int32)))] [.int (isCh z24 (0 : Int32))]))
              refine g_iload X32 hx hby at_290 (pc' := 292) rfl rfl ?_
              refine g_icmp_ne X32 hx hby at_292 (by decide) (pc' := 299) (by decide) (pn := 295) rfl (fun z => absurd z (fun z => z (by simp only [Int32.lt_iff_toInt_lt, ← Int32.toInt_inj, Int32.reduceToInt] at hc255_25 hc262_28 hc269_31; exact (own_is0 _).trans (if_pos (Or.inl (by omega)))))) (fun hc292_33 => ?_)
              refine g_iconst X32 hx hby at_295 (pc' := 296) rfl (z := (1 : Int32)) rfl ?_
              refine g_goto X32 hx hby at_296 (by decide) (pc' := 300) (by decide) ?_
              exact g_retN (Q := (fun v h L => v = some (.int 1) ∧ Fr n0 L)) (w := (1 : Int32)) X32 hx hby at_300 hret (by simp) (by first | decide | rfl) hlk (by decide) (by decide) ⟨rfl, N32⟩
            · refine g_iload X23 hx hby at_272 (pc' := 274) rfl rfl ?_
              refine g_if_eq X23 hx hby at_274 (by decide) (pc' := 281) (by decide) (pn := 277) rfl (fun hc274_34 => ?_) (fun hc274_34 => ?_)
              · refine g_iconst X23 hx hby at_281 (pc' := 282) rfl (z := (0 : Int32)) rfl ?_
                refine g_istore X23 hx hby at_282 (pc' := 284) rfl (l' := #[.val (.int q1), .val (.int q2), .val (.int q3), .val (.int (0 : Int32)), .val (.int z24), .val (.int b24), .val (.int (0 : Int32)), .val (.int ((q1 &&& (3 : Int32)) - (1 : Int32)))]) rfl ?_
                refine g_iload X23 hx hby at_284 (pc' := 286) rfl rfl ?_
                refine g_iloadN X23 hx hby at_286 (pc' := 287) rfl rfl ?_
                refine g_callS X23 hx hZ hown (W := 0) (argsL := [.int z24, .int (0 : Int32)]) (rest := []) hby at_287 (pc' := 290) rfl (by rw [hml]; rfl) (w_13 hw) (w_14 hw) (w_15 hw) (w_16 hw) (by decide) (rm1 l Z a0 hw [] z24 (0 : Int32) T23.heap n0) rfl (by decide) (by decide) (by decide) (by decide) rfl pd__28IZ_29Z rfl rfl (Nat.le_of_eq rfl) ?_
                rintro _ T35 L35 X35 ⟨rfl, N35q, e35⟩
                have N35 := Fr.app N23 N35q
                show GoE p e below _ (T35.setTop (mkF m 290 #[.val (.int q1), .val (.int q2), .val (.int q3), .val (.int (0 : Int32)), .val (.int z24), .val (.int b24), .val (.int (0 : Int32)), .val (.int ((q1 &&& (3 : Int32)) - (1 : Int32)))] [.int (isCh z24 (0 : Int32))]))
                refine g_iload X35 hx hby at_290 (pc' := 292) rfl rfl ?_
                refine g_icmp_ne X35 hx hby at_292 (by decide) (pc' := 299) (by decide) (pn := 295) rfl (fun z => absurd z (fun z => z (by have hP := hb24.mp hc274_34; simp only [Int32.lt_iff_toInt_lt, ← Int32.toInt_inj, Int32.reduceToInt] at hc255_25 hc262_28 hc269_31; exact (own_is0 _).trans (if_neg (by rintro (q | q); omega; exact hP q))))) (fun hc292_36 => ?_)
                refine g_iconst X35 hx hby at_295 (pc' := 296) rfl (z := (1 : Int32)) rfl ?_
                refine g_goto X35 hx hby at_296 (by decide) (pc' := 300) (by decide) ?_
                exact g_retN (Q := (fun v h L => v = some (.int 1) ∧ Fr n0 L)) (w := (1 : Int32)) X35 hx hby at_300 hret (by simp) (by first | decide | rfl) hlk (by decide) (by decide) ⟨rfl, N35⟩
              · refine g_iconst X23 hx hby at_277 (pc' := 278) rfl (z := (1 : Int32)) rfl ?_
                refine g_goto X23 hx hby at_278 (by decide) (pc' := 282) (by decide) ?_
                refine g_istore X23 hx hby at_282 (pc' := 284) rfl (l' := #[.val (.int q1), .val (.int q2), .val (.int q3), .val (.int (0 : Int32)), .val (.int z24), .val (.int b24), .val (.int (1 : Int32)), .val (.int ((q1 &&& (3 : Int32)) - (1 : Int32)))]) rfl ?_
                refine g_iload X23 hx hby at_284 (pc' := 286) rfl rfl ?_
                refine g_iloadN X23 hx hby at_286 (pc' := 287) rfl rfl ?_
                refine g_callS X23 hx hZ hown (W := 0) (argsL := [.int z24, .int (0 : Int32)]) (rest := []) hby at_287 (pc' := 290) rfl (by rw [hml]; rfl) (w_13 hw) (w_14 hw) (w_15 hw) (w_16 hw) (by decide) (rm1 l Z a0 hw [] z24 (0 : Int32) T23.heap n0) rfl (by decide) (by decide) (by decide) (by decide) rfl pd__28IZ_29Z rfl rfl (Nat.le_of_eq rfl) ?_
                rintro _ T37 L37 X37 ⟨rfl, N37q, e37⟩
                have N37 := Fr.app N23 N37q
                show GoE p e below _ (T37.setTop (mkF m 290 #[.val (.int q1), .val (.int q2), .val (.int q3), .val (.int (0 : Int32)), .val (.int z24), .val (.int b24), .val (.int (1 : Int32)), .val (.int ((q1 &&& (3 : Int32)) - (1 : Int32)))] [.int (isCh z24 (0 : Int32))]))
                refine g_iload X37 hx hby at_290 (pc' := 292) rfl rfl ?_
                refine g_icmp_ne X37 hx hby at_292 (by decide) (pc' := 299) (by decide) (pn := 295) rfl (fun z => absurd z (fun z => z (by have hP : PP _ := Decidable.byContradiction fun q => hc274_34 (hb24.mpr q); simp only [Int32.lt_iff_toInt_lt, ← Int32.toInt_inj, Int32.reduceToInt] at hc255_25 hc262_28 hc269_31; exact (own_is0 _).trans (if_pos (Or.inr hP))))) (fun hc292_38 => ?_)
                refine g_iconst X37 hx hby at_295 (pc' := 296) rfl (z := (1 : Int32)) rfl ?_
                refine g_goto X37 hx hby at_296 (by decide) (pc' := 300) (by decide) ?_
                exact g_retN (Q := (fun v h L => v = some (.int 1) ∧ Fr n0 L)) (w := (1 : Int32)) X37 hx hby at_300 hret (by simp) (by first | decide | rfl) hlk (by decide) (by decide) ⟨rfl, N37⟩
      refine g_iload X23 hx hby at_170 (pc' := 172) rfl rfl ?_
      refine g_bipush X23 hx hby at_172 (pc' := 174) rfl (z := (32 : Int32)) rfl ?_
      refine g_icmp_lt X23 hx hby at_174 (by decide) (pc' := 184) (by decide) (pn := 177) rfl (fun hc174_39 => ?_) (fun hc174_39 => ?_)
      · refine g_iload X23 hx hby at_184 (pc' := 186) rfl rfl ?_
        refine g_ldcI X23 hx hZ hown hby at_186 (pc' := 188) rfl (w_4 hw) ?_
        refine g_icmp_lt X23 hx hby at_188 (by decide) (pc' := 198) (by decide) (pn := 191) rfl (fun hc188_40 => ?_) (fun hc188_40 => ?_)
        · refine g_iload X23 hx hby at_198 (pc' := 200) rfl rfl ?_
          refine g_ldcI X23 hx hZ hown hby at_200 (pc' := 202) rfl (w_8 hw) ?_
          refine g_icmp_lt X23 hx hby at_202 (by decide) (pc' := 216) (by decide) (pn := 205) rfl (fun hc202_41 => ?_) (fun hc202_41 => ?_)
          · refine g_iconst X23 hx hby at_216 (pc' := 217) rfl (z := (0 : Int32)) rfl ?_
            exact cut24 0 (iff_of_true rfl (by simp only [Int32.lt_iff_toInt_lt, ← Int32.toInt_inj, Int32.reduceToInt] at hc174_39 hc188_40 hc202_41; unfold PP; omega))
          · refine g_iload X23 hx hby at_205 (pc' := 207) rfl rfl ?_
            refine g_ldcI X23 hx hZ hown hby at_207 (pc' := 209) rfl (w_9 hw) ?_
            refine g_icmp_gt X23 hx hby at_209 (by decide) (pc' := 216) (by decide) (pn := 212) rfl (fun hc209_42 => ?_) (fun hc209_42 => ?_)
            · refine g_iconst X23 hx hby at_216 (pc' := 217) rfl (z := (0 : Int32)) rfl ?_
              exact cut24 0 (iff_of_true rfl (by simp only [Int32.lt_iff_toInt_lt, ← Int32.toInt_inj, Int32.reduceToInt] at hc174_39 hc188_40 hc202_41 hc209_42; unfold PP; omega))
            · refine g_iconst X23 hx hby at_212 (pc' := 213) rfl (z := (1 : Int32)) rfl ?_
              refine g_goto X23 hx hby at_213 (by decide) (pc' := 217) (by decide) ?_
              exact cut24 1 (iff_of_false (by decide) (by simp only [Int32.lt_iff_toInt_lt, ← Int32.toInt_inj, Int32.reduceToInt] at hc174_39 hc188_40 hc202_41 hc209_42; unfold PP; omega))
        · refine g_iload X23 hx hby at_191 (pc' := 193) rfl rfl ?_
          refine g_ldcI X23 hx hZ hown hby at_193 (pc' := 195) rfl (w_5 hw) ?_
          refine g_icmp_le X23 hx hby at_195 (by decide) (pc' := 212) (by decide) (pn := 198) rfl (fun hc195_43 => ?_) (fun hc195_43 => ?_)
          · refine g_iconst X23 hx hby at_212 (pc' := 213) rfl (z := (1 : Int32)) rfl ?_
            refine g_goto X23 hx hby at_213 (by decide) (pc' := 217) (by decide) ?_
            exact cut24 1 (iff_of_false (by decide) (by simp only [Int32.lt_iff_toInt_lt, ← Int32.toInt_inj, Int32.reduceToInt] at hc174_39 hc188_40 hc195_43; unfold PP; omega))
          · refine g_iload X23 hx hby at_198 (pc' := 200) rfl rfl ?_
            refine g_ldcI X23 hx hZ hown hby at_200 (pc' := 202) rfl (w_8 hw) ?_
            refine g_icmp_lt X23 hx hby at_202 (by decide) (pc' := 216) (by decide) (pn := 205) rfl (fun hc202_44 => ?_) (fun hc202_44 => ?_)
            · refine g_iconst X23 hx hby at_216 (pc' := 217) rfl (z := (0 : Int32)) rfl ?_
              exact cut24 0 (iff_of_true rfl (by simp only [Int32.lt_iff_toInt_lt, ← Int32.toInt_inj, Int32.reduceToInt] at hc174_39 hc188_40 hc195_43 hc202_44; unfold PP; omega))
            · refine g_iload X23 hx hby at_205 (pc' := 207) rfl rfl ?_
              refine g_ldcI X23 hx hZ hown hby at_207 (pc' := 209) rfl (w_9 hw) ?_
              refine g_icmp_gt X23 hx hby at_209 (by decide) (pc' := 216) (by decide) (pn := 212) rfl (fun hc209_45 => ?_) (fun hc209_45 => ?_)
              · refine g_iconst X23 hx hby at_216 (pc' := 217) rfl (z := (0 : Int32)) rfl ?_
                exact cut24 0 (iff_of_true rfl (by simp only [Int32.lt_iff_toInt_lt, ← Int32.toInt_inj, Int32.reduceToInt] at hc174_39 hc188_40 hc195_43 hc202_44 hc209_45; unfold PP; omega))
              · refine g_iconst X23 hx hby at_212 (pc' := 213) rfl (z := (1 : Int32)) rfl ?_
                refine g_goto X23 hx hby at_213 (by decide) (pc' := 217) (by decide) ?_
                exact cut24 1 (iff_of_false (by decide) (by simp only [Int32.lt_iff_toInt_lt, ← Int32.toInt_inj, Int32.reduceToInt] at hc174_39 hc188_40 hc195_43 hc202_44 hc209_45; unfold PP; omega))
      · refine g_iload X23 hx hby at_177 (pc' := 179) rfl rfl ?_
        refine g_ldcI X23 hx hZ hown hby at_179 (pc' := 181) rfl (w_1 hw) ?_
        refine g_icmp_le X23 hx hby at_181 (by decide) (pc' := 212) (by decide) (pn := 184) rfl (fun hc181_46 => ?_) (fun hc181_46 => ?_)
        · refine g_iconst X23 hx hby at_212 (pc' := 213) rfl (z := (1 : Int32)) rfl ?_
          refine g_goto X23 hx hby at_213 (by decide) (pc' := 217) (by decide) ?_
          exact cut24 1 (iff_of_false (by decide) (by simp only [Int32.lt_iff_toInt_lt, ← Int32.toInt_inj, Int32.reduceToInt] at hc174_39 hc181_46; unfold PP; omega))
        · refine g_iload X23 hx hby at_184 (pc' := 186) rfl rfl ?_
          refine g_ldcI X23 hx hZ hown hby at_186 (pc' := 188) rfl (w_4 hw) ?_
          refine g_icmp_lt X23 hx hby at_188 (by decide) (pc' := 198) (by decide) (pn := 191) rfl (fun hc188_47 => ?_) (fun hc188_47 => ?_)
          · refine g_iload X23 hx hby at_198 (pc' := 200) rfl rfl ?_
            refine g_ldcI X23 hx hZ hown hby at_200 (pc' := 202) rfl (w_8 hw) ?_
            refine g_icmp_lt X23 hx hby at_202 (by decide) (pc' := 216) (by decide) (pn := 205) rfl (fun hc202_48 => ?_) (fun hc202_48 => ?_)
            · refine g_iconst X23 hx hby at_216 (pc' := 217) rfl (z := (0 : Int32)) rfl ?_
              exact cut24 0 (iff_of_true rfl (by simp only [Int32.lt_iff_toInt_lt, ← Int32.toInt_inj, Int32.reduceToInt] at hc174_39 hc181_46 hc188_47 hc202_48; unfold PP; omega))
            · refine g_iload X23 hx hby at_205 (pc' := 207) rfl rfl ?_
              refine g_ldcI X23 hx hZ hown hby at_207 (pc' := 209) rfl (w_9 hw) ?_
              refine g_icmp_gt X23 hx hby at_209 (by decide) (pc' := 216) (by decide) (pn := 212) rfl (fun hc209_49 => ?_) (fun hc209_49 => ?_)
              · refine g_iconst X23 hx hby at_216 (pc' := 217) rfl (z := (0 : Int32)) rfl ?_
                exact cut24 0 (iff_of_true rfl (by simp only [Int32.lt_iff_toInt_lt, ← Int32.toInt_inj, Int32.reduceToInt] at hc174_39 hc181_46 hc188_47 hc202_48 hc209_49; unfold PP; omega))
              · refine g_iconst X23 hx hby at_212 (pc' := 213) rfl (z := (1 : Int32)) rfl ?_
                refine g_goto X23 hx hby at_213 (by decide) (pc' := 217) (by decide) ?_
                exact cut24 1 (iff_of_false (by decide) (by simp only [Int32.lt_iff_toInt_lt, ← Int32.toInt_inj, Int32.reduceToInt] at hc174_39 hc181_46 hc188_47 hc202_48 hc209_49; unfold PP; omega))
          · refine g_iload X23 hx hby at_191 (pc' := 193) rfl rfl ?_
            refine g_ldcI X23 hx hZ hown hby at_193 (pc' := 195) rfl (w_5 hw) ?_
            refine g_icmp_le X23 hx hby at_195 (by decide) (pc' := 212) (by decide) (pn := 198) rfl (fun hc195_50 => ?_) (fun hc195_50 => ?_)
            · refine g_iconst X23 hx hby at_212 (pc' := 213) rfl (z := (1 : Int32)) rfl ?_
              refine g_goto X23 hx hby at_213 (by decide) (pc' := 217) (by decide) ?_
              exact cut24 1 (iff_of_false (by decide) (by simp only [Int32.lt_iff_toInt_lt, ← Int32.toInt_inj, Int32.reduceToInt] at hc174_39 hc181_46 hc188_47 hc195_50; unfold PP; omega))
            · refine g_iload X23 hx hby at_198 (pc' := 200) rfl rfl ?_
              refine g_ldcI X23 hx hZ hown hby at_200 (pc' := 202) rfl (w_8 hw) ?_
              refine g_icmp_lt X23 hx hby at_202 (by decide) (pc' := 216) (by decide) (pn := 205) rfl (fun hc202_51 => ?_) (fun hc202_51 => ?_)
              · refine g_iconst X23 hx hby at_216 (pc' := 217) rfl (z := (0 : Int32)) rfl ?_
                exact cut24 0 (iff_of_true rfl (by simp only [Int32.lt_iff_toInt_lt, ← Int32.toInt_inj, Int32.reduceToInt] at hc174_39 hc181_46 hc188_47 hc195_50 hc202_51; unfold PP; omega))
              · refine g_iload X23 hx hby at_205 (pc' := 207) rfl rfl ?_
                refine g_ldcI X23 hx hZ hown hby at_207 (pc' := 209) rfl (w_9 hw) ?_
                refine g_icmp_gt X23 hx hby at_209 (by decide) (pc' := 216) (by decide) (pn := 212) rfl (fun hc209_52 => ?_) (fun hc209_52 => ?_)
                · refine g_iconst X23 hx hby at_216 (pc' := 217) rfl (z := (0 : Int32)) rfl ?_
                  exact cut24 0 (iff_of_true rfl (by simp only [Int32.lt_iff_toInt_lt, ← Int32.toInt_inj, Int32.reduceToInt] at hc174_39 hc181_46 hc188_47 hc195_50 hc202_51 hc209_52; unfold PP; omega))
                · refine g_iconst X23 hx hby at_212 (pc' := 213) rfl (z := (1 : Int32)) rfl ?_
                  refine g_goto X23 hx hby at_213 (by decide) (pc' := 217) (by decide) ?_
                  exact cut24 1 (iff_of_false (by decide) (by simp only [Int32.lt_iff_toInt_lt, ← Int32.toInt_inj, Int32.reduceToInt] at hc174_39 hc181_46 hc188_47 hc195_50 hc202_51 hc209_52; unfold PP; omega))
    · refine g_iloadN X0 hx hby at_18 (pc' := 19) rfl rfl ?_
      refine g_istore X0 hx hby at_19 (pc' := 21) rfl (l' := #[.val (.int q1), .val (.int q2), .val (.int q3), .val (.int (0 : Int32)), .val (.int q1), .unset, .unset, .unset]) rfl ?_
      refine g_goto X0 hx hby at_21 (by decide) (pc' := 170) (by decide) ?_
      have cut53 : ∀ b : Int32, (b = 0 ↔ ¬ PP q1) → Go p e below s room_1.cells room_1.slots (fun v h L => v = some (.int 1) ∧ Fr n0 L) (T.setTop (mkF m 217 #[.val (.int q1), .val (.int q2), .val (.int q3), .val (.int (0 : Int32)), .val (.int q1), .unset, .unset, .unset] [.int b])) := by
        intro b53 hb53
        refine g_istore X0 hx hby at_217 (pc' := 219) rfl (l' := #[.val (.int q1), .val (.int q2), .val (.int q3), .val (.int (0 : Int32)), .val (.int q1), .val (.int b53), .unset, .unset]) rfl ?_
        refine g_iloadN X0 hx hby at_219 (pc' := 220) rfl rfl ?_
        refine g_if_eq X0 hx hby at_220 (by decide) (pc' := 251) (by decide) (pn := 223) rfl (fun _ => ?_) (fun z => absurd z (by decide))
        refine g_iload X0 hx hby at_251 (pc' := 253) rfl rfl ?_
        refine g_bipush X0 hx hby at_253 (pc' := 255) rfl (z := (9 : Int32)) rfl ?_
        refine g_icmp_eq X0 hx hby at_255 (by decide) (pc' := 277) (by decide) (pn := 258) rfl (fun hc255_54 => ?_) (fun hc255_54 => ?_)
        · refine g_iconst X0 hx hby at_277 (pc' := 278) rfl (z := (1 : Int32)) rfl ?_
          refine g_goto X0 hx hby at_278 (by decide) (pc' := 282) (by decide) ?_
          refine g_istore X0 hx hby at_282 (pc' := 284) rfl (l' := #[.val (.int q1), .val (.int q2), .val (.int q3), .val (.int (0 : Int32)), .val (.int q1), .val (.int b53), .val (.int (1 : Int32)), .unset]) rfl ?_
          refine g_iload X0 hx hby at_284 (pc' := 286) rfl rfl ?_
          refine g_iloadN X0 hx hby at_286 (pc' := 287) rfl rfl ?_
          refine g_callS X0 hx hZ hown (W := 0) (argsL := [.int q1, .int (0 : Int32)]) (rest := []) hby at_287 (pc' := 290) rfl (by rw [hml]; rfl) (w_13 hw) (w_14 hw) (w_15 hw) (w_16 hw) (by decide) (rm1 l Z a0 hw [] q1 (0 : Int32) h0 n0) e0 (by decide) (by decide) (by decide) (by decide) rfl pd__28IZ_29Z rfl rfl (Nat.le_of_eq rfl) ?_
          rintro _ T55 L55 X55 ⟨rfl, N55q, e55⟩
          have N55 := Fr.app N0 N55q
          show GoE p e below _ (T55.setTop (mkF m 290 #[.val (.int q1), .val (.int q2), .val (.int q3), .val (.int (0 : Int32)), .val (.int q1), .val (.int b53), .val (.int (1 : Int32)), .unset] [.int (isCh q1 (0 : Int32))]))
          refine g_iload X55 hx hby at_290 (pc' := 292) rfl rfl ?_
          refine g_icmp_ne X55 hx hby at_292 (by decide) (pc' := 299) (by decide) (pn := 295) rfl (fun z => absurd z (fun z => z (by simp only [Int32.lt_iff_toInt_lt, ← Int32.toInt_inj, Int32.reduceToInt] at hc255_54; exact (own_is0 _).trans (if_pos (Or.inl (by omega)))))) (fun hc292_56 => ?_)
          refine g_iconst X55 hx hby at_295 (pc' := 296) rfl (z := (1 : Int32)) rfl ?_
          refine g_goto X55 hx hby at_296 (by decide) (pc' := 300) (by decide) ?_
          exact g_retN (Q := (fun v h L => v = some (.int 1) ∧ Fr n0 L)) (w := (1 : Int32)) X55 hx hby at_300 hret (by simp) (by first | decide | rfl) hlk (by decide) (by decide) ⟨rfl, N55⟩
        · refine g_iload X0 hx hby at_258 (pc' := 260) rfl rfl ?_
          refine g_bipush X0 hx hby at_260 (pc' := 262) rfl (z := (10 : Int32)) rfl ?_
          refine g_icmp_eq X0 hx hby at_262 (by decide) (pc' := 277) (by decide) (pn := 265) rfl (fun hc262_57 => ?_) (fun hc262_57 => ?_)
          · refine g_iconst X0 hx hby at_277 (pc' := 278) rfl (z := (1 : Int32)) rfl ?_
            refine g_goto X0 hx hby at_278 (by decide) (pc' := 282) (by decide) ?_
            refine g_istore X0 hx hby at_282 (pc' := 284) rfl (l' := #[.val (.int q1), .val (.int q2), .val (.int q3), .val (.int (0 : Int32)), .val (.int q1), .val (.int b53), .val (.int (1 : Int32)), .unset]) rfl ?_
            refine g_iload X0 hx hby at_284 (pc' := 286) rfl rfl ?_
            refine g_iloadN X0 hx hby at_286 (pc' := 287) rfl rfl ?_
            refine g_callS X0 hx hZ hown (W := 0) (argsL := [.int q1, .int (0 : Int32)]) (rest := []) hby at_287 (pc' := 290) rfl (by rw [hml]; rfl) (w_13 hw) (w_14 hw) (w_15 hw) (w_16 hw) (by decide) (rm1 l Z a0 hw [] q1 (0 : Int32) h0 n0) e0 (by decide) (by decide) (by decide) (by decide) rfl pd__28IZ_29Z rfl rfl (Nat.le_of_eq rfl) ?_
            rintro _ T58 L58 X58 ⟨rfl, N58q, e58⟩
            have N58 := Fr.app N0 N58q
            show GoE p e below _ (T58.setTop (mkF m 290 #[.val (.int q1), .val (.int q2), .val (.int q3), .val (.int (0 : Int32)), .val (.int q1), .val (.int b53), .val (.int (1 : Int32)), .unset] [.int (isCh q1 (0 : Int32))]))
            refine g_iload X58 hx hby at_290 (pc' := 292) rfl rfl ?_
            refine g_icmp_ne X58 hx hby at_292 (by decide) (pc' := 299) (by decide) (pn := 295) rfl (fun z => absurd z (fun z => z (by simp only [Int32.lt_iff_toInt_lt, ← Int32.toInt_inj, Int32.reduceToInt] at hc255_54 hc262_57; exact (own_is0 _).trans (if_pos (Or.inl (by omega)))))) (fun hc292_59 => ?_)
            refine g_iconst X58 hx hby at_295 (pc' := 296) rfl (z := (1 : Int32)) rfl ?_
            refine g_goto X58 hx hby at_296 (by decide) (pc' := 300) (by decide) ?_
            exact g_retN (Q := (fun v h L => v = some (.int 1) ∧ Fr n0 L)) (w := (1 : Int32)) X58 hx hby at_300 hret (by simp) (by first | decide | rfl) hlk (by decide) (by decide) ⟨rfl, N58⟩
          · refine g_iload X0 hx hby at_265 (pc' := 267) rfl rfl ?_
            refine g_bipush X0 hx hby at_267 (pc' := 269) rfl (z := (13 : Int32)) rfl ?_
            refine g_icmp_eq X0 hx hby at_269 (by decide) (pc' := 277) (by decide) (pn := 272) rfl (fun hc269_60 => ?_) (fun hc269_60 => ?_)
            · refine g_iconst X0 hx hby at_277 (pc' := 278) rfl (z := (1 : Int32)) rfl ?_
              refine g_goto X0 hx hby at_278 (by decide) (pc' := 282) (by decide) ?_
              refine g_istore X0 hx hby at_282 (pc' := 284) rfl (l' := #[.val (.int q1), .val (.int q2), .val (.int q3), .val (.int (0 : Int32)), .val (.int q1), .val (.int b53), .val (.int (1 : Int32)), .unset]) rfl ?_
              refine g_iload X0 hx hby at_284 (pc' := 286) rfl rfl ?_
              refine g_iloadN X0 hx hby at_286 (pc' := 287) rfl rfl ?_
              refine g_callS X0 hx hZ hown (W := 0) (argsL := [.int q1, .int (0 : Int32)]) (rest := []) hby at_287 (pc' := 290) rfl (by rw [hml]; rfl) (w_13 hw) (w_14 hw) (w_15 hw) (w_16 hw) (by decide) (rm1 l Z a0 hw [] q1 (0 : Int32) h0 n0) e0 (by decide) (by decide) (by decide) (by decide) rfl pd__28IZ_29Z rfl rfl (Nat.le_of_eq rfl) ?_
              rintro _ T61 L61 X61 ⟨rfl, N61q, e61⟩
              have N61 := Fr.app N0 N61q
              show GoE p e below _ (T61.setTop (mkF m 290 #[.val (.int q1), .val (.int q2), .val (.int q3), .val (.int (0 : Int32)), .val (.int q1), .val (.int b53), .val (.int (1 : Int32)), .unset] [.int (isCh q1 (0 : Int32))]))
              refine g_iload X61 hx hby at_290 (pc' := 292) rfl rfl ?_
              refine g_icmp_ne X61 hx hby at_292 (by decide) (pc' := 299) (by decide) (pn := 295) rfl (fun z => absurd z (fun z => z (by simp only [Int32.lt_iff_toInt_lt, ← Int32.toInt_inj, Int32.reduceToInt] at hc255_54 hc262_57 hc269_60; exact (own_is0 _).trans (if_pos (Or.inl (by omega)))))) (fun hc292_62 => ?_)
              refine g_iconst X61 hx hby at_295 (pc' := 296) rfl (z := (1 : Int32)) rfl ?_
              refine g_goto X61 hx hby at_296 (by decide) (pc' := 300) (by decide) ?_
              exact g_retN (Q := (fun v h L => v = some (.int 1) ∧ Fr n0 L)) (w := (1 : Int32)) X61 hx hby at_300 hret (by simp) (by first | decide | rfl) hlk (by decide) (by decide) ⟨rfl, N61⟩
            · refine g_iload X0 hx hby at_272 (pc' := 274) rfl rfl ?_
              refine g_if_eq X0 hx hby at_274 (by decide) (pc' := 281) (by decide) (pn := 277) rfl (fun hc274_63 => ?_) (fun hc274_63 => ?_)
              · refine g_iconst X0 hx hby at_281 (pc' := 282) rfl (z := (0 : Int32)) rfl ?_
                refine g_istore X0 hx hby at_282 (pc' := 284) rfl (l' := #[.val (.int q1), .val (.int q2), .val (.int q3), .val (.int (0 : Int32)), .val (.int q1), .val (.int b53), .val (.int (0 : Int32)), .unset]) rfl ?_
                refine g_iload X0 hx hby at_284 (pc' := 286) rfl rfl ?_
                refine g_iloadN X0 hx hby at_286 (pc' := 287) rfl rfl ?_
                refine g_callS X0 hx hZ hown (W := 0) (argsL := [.int q1, .int (0 : Int32)]) (rest := []) hby at_287 (pc' := 290) rfl (by rw [hml]; rfl) (w_13 hw) (w_14 hw) (w_15 hw) (w_16 hw) (by decide) (rm1 l Z a0 hw [] q1 (0 : Int32) h0 n0) e0 (by decide) (by decide) (by decide) (by decide) rfl pd__28IZ_29Z rfl rfl (Nat.le_of_eq rfl) ?_
                rintro _ T64 L64 X64 ⟨rfl, N64q, e64⟩
                have N64 := Fr.app N0 N64q
                show GoE p e below _ (T64.setTop (mkF m 290 #[.val (.int q1), .val (.int q2), .val (.int q3), .val (.int (0 : Int32)), .val (.int q1), .val (.int b53), .val (.int (0 : Int32)), .unset] [.int (isCh q1 (0 : Int32))]))
                refine g_iload X64 hx hby at_290 (pc' := 292) rfl rfl ?_
                refine g_icmp_ne X64 hx hby at_292 (by decide) (pc' := 299) (by decide) (pn := 295) rfl (fun z => absurd z (fun z => z (by have hP := hb53.mp hc274_63; simp only [Int32.lt_iff_toInt_lt, ← Int32.toInt_inj, Int32.reduceToInt] at hc255_54 hc262_57 hc269_60; exact (own_is0 _).trans (if_neg (by rintro (q | q); omega; exact hP q))))) (fun hc292_65 => ?_)
                refine g_iconst X64 hx hby at_295 (pc' := 296) rfl (z := (1 : Int32)) rfl ?_
                refine g_goto X64 hx hby at_296 (by decide) (pc' := 300) (by decide) ?_
                exact g_retN (Q := (fun v h L => v = some (.int 1) ∧ Fr n0 L)) (w := (1 : Int32)) X64 hx hby at_300 hret (by simp) (by first | decide | rfl) hlk (by decide) (by decide) ⟨rfl, N64⟩
              · refine g_iconst X0 hx hby at_277 (pc' := 278) rfl (z := (1 : Int32)) rfl ?_
                refine g_goto X0 hx hby at_278 (by decide) (pc' := 282) (by decide) ?_
                refine g_istore X0 hx hby at_282 (pc' := 284) rfl (l' := #[.val (.int q1), .val (.int q2), .val (.int q3), .val (.int (0 : Int32)), .val (.int q1), .val (.int b53), .val (.int (1 : Int32)), .unset]) rfl ?_
                refine g_iload X0 hx hby at_284 (pc' := 286) rfl rfl ?_
                refine g_iloadN X0 hx hby at_286 (pc' := 287) rfl rfl ?_
                refine g_callS X0 hx hZ hown (W := 0) (argsL := [.int q1, .int (0 : Int32)]) (rest := []) hby at_287 (pc' := 290) rfl (by rw [hml]; rfl) (w_13 hw) (w_14 hw) (w_15 hw) (w_16 hw) (by decide) (rm1 l Z a0 hw [] q1 (0 : Int32) h0 n0) e0 (by decide) (by decide) (by decide) (by decide) rfl pd__28IZ_29Z rfl rfl (Nat.le_of_eq rfl) ?_
                rintro _ T66 L66 X66 ⟨rfl, N66q, e66⟩
                have N66 := Fr.app N0 N66q
                show GoE p e below _ (T66.setTop (mkF m 290 #[.val (.int q1), .val (.int q2), .val (.int q3), .val (.int (0 : Int32)), .val (.int q1), .val (.int b53), .val (.int (1 : Int32)), .unset] [.int (isCh q1 (0 : Int32))]))
                refine g_iload X66 hx hby at_290 (pc' := 292) rfl rfl ?_
                refine g_icmp_ne X66 hx hby at_292 (by decide) (pc' := 299) (by decide) (pn := 295) rfl (fun z => absurd z (fun z => z (by have hP : PP _ := Decidable.byContradiction fun q => hc274_63 (hb53.mpr q); simp only [Int32.lt_iff_toInt_lt, ← Int32.toInt_inj, Int32.reduceToInt] at hc255_54 hc262_57 hc269_60; exact (own_is0 _).trans (if_pos (Or.inr hP))))) (fun hc292_67 => ?_)
                refine g_iconst X66 hx hby at_295 (pc' := 296) rfl (z := (1 : Int32)) rfl ?_
                refine g_goto X66 hx hby at_296 (by decide) (pc' := 300) (by decide) ?_
                exact g_retN (Q := (fun v h L => v = some (.int 1) ∧ Fr n0 L)) (w := (1 : Int32)) X66 hx hby at_300 hret (by simp) (by first | decide | rfl) hlk (by decide) (by decide) ⟨rfl, N66⟩
      refine g_iload X0 hx hby at_170 (pc' := 172) rfl rfl ?_
      refine g_bipush X0 hx hby at_172 (pc' := 174) rfl (z := (32 : Int32)) rfl ?_
      refine g_icmp_lt X0 hx hby at_174 (by decide) (pc' := 184) (by decide) (pn := 177) rfl (fun hc174_68 => ?_) (fun hc174_68 => ?_)
      · refine g_iload X0 hx hby at_184 (pc' := 186) rfl rfl ?_
        refine g_ldcI X0 hx hZ hown hby at_186 (pc' := 188) rfl (w_4 hw) ?_
        refine g_icmp_lt X0 hx hby at_188 (by decide) (pc' := 198) (by decide) (pn := 191) rfl (fun hc188_69 => ?_) (fun hc188_69 => ?_)
        · refine g_iload X0 hx hby at_198 (pc' := 200) rfl rfl ?_
          refine g_ldcI X0 hx hZ hown hby at_200 (pc' := 202) rfl (w_8 hw) ?_
          refine g_icmp_lt X0 hx hby at_202 (by decide) (pc' := 216) (by decide) (pn := 205) rfl (fun hc202_70 => ?_) (fun hc202_70 => ?_)
          · refine g_iconst X0 hx hby at_216 (pc' := 217) rfl (z := (0 : Int32)) rfl ?_
            exact cut53 0 (iff_of_true rfl (by simp only [Int32.lt_iff_toInt_lt, ← Int32.toInt_inj, Int32.reduceToInt] at hc174_68 hc188_69 hc202_70; unfold PP; omega))
          · refine g_iload X0 hx hby at_205 (pc' := 207) rfl rfl ?_
            refine g_ldcI X0 hx hZ hown hby at_207 (pc' := 209) rfl (w_9 hw) ?_
            refine g_icmp_gt X0 hx hby at_209 (by decide) (pc' := 216) (by decide) (pn := 212) rfl (fun hc209_71 => ?_) (fun hc209_71 => ?_)
            · refine g_iconst X0 hx hby at_216 (pc' := 217) rfl (z := (0 : Int32)) rfl ?_
              exact cut53 0 (iff_of_true rfl (by simp only [Int32.lt_iff_toInt_lt, ← Int32.toInt_inj, Int32.reduceToInt] at hc174_68 hc188_69 hc202_70 hc209_71; unfold PP; omega))
            · refine g_iconst X0 hx hby at_212 (pc' := 213) rfl (z := (1 : Int32)) rfl ?_
              refine g_goto X0 hx hby at_213 (by decide) (pc' := 217) (by decide) ?_
              exact cut53 1 (iff_of_false (by decide) (by simp only [Int32.lt_iff_toInt_lt, ← Int32.toInt_inj, Int32.reduceToInt] at hc174_68 hc188_69 hc202_70 hc209_71; unfold PP; omega))
        · refine g_iload X0 hx hby at_191 (pc' := 193) rfl rfl ?_
          refine g_ldcI X0 hx hZ hown hby at_193 (pc' := 195) rfl (w_5 hw) ?_
          refine g_icmp_le X0 hx hby at_195 (by decide) (pc' := 212) (by decide) (pn := 198) rfl (fun hc195_72 => ?_) (fun hc195_72 => ?_)
          · refine g_iconst X0 hx hby at_212 (pc' := 213) rfl (z := (1 : Int32)) rfl ?_
            refine g_goto X0 hx hby at_213 (by decide) (pc' := 217) (by decide) ?_
            exact cut53 1 (iff_of_false (by decide) (by simp only [Int32.lt_iff_toInt_lt, ← Int32.toInt_inj, Int32.reduceToInt] at hc174_68 hc188_69 hc195_72; unfold PP; omega))
          · refine g_iload X0 hx hby at_198 (pc' := 200) rfl rfl ?_
            refine g_ldcI X0 hx hZ hown hby at_200 (pc' := 202) rfl (w_8 hw) ?_
            refine g_icmp_lt X0 hx hby at_202 (by decide) (pc' := 216) (by decide) (pn := 205) rfl (fun hc202_73 => ?_) (fun hc202_73 => ?_)
            · refine g_iconst X0 hx hby at_216 (pc' := 217) rfl (z := (0 : Int32)) rfl ?_
              exact cut53 0 (iff_of_true rfl (by simp only [Int32.lt_iff_toInt_lt, ← Int32.toInt_inj, Int32.reduceToInt] at hc174_68 hc188_69 hc195_72 hc202_73; unfold PP; omega))
            · refine g_iload X0 hx hby at_205 (pc' := 207) rfl rfl ?_
              refine g_ldcI X0 hx hZ hown hby at_207 (pc' := 209) rfl (w_9 hw) ?_
              refine g_icmp_gt X0 hx hby at_209 (by decide) (pc' := 216) (by decide) (pn := 212) rfl (fun hc209_74 => ?_) (fun hc209_74 => ?_)
              · refine g_iconst X0 hx hby at_216 (pc' := 217) rfl (z := (0 : Int32)) rfl ?_
                exact cut53 0 (iff_of_true rfl (by simp only [Int32.lt_iff_toInt_lt, ← Int32.toInt_inj, Int32.reduceToInt] at hc174_68 hc188_69 hc195_72 hc202_73 hc209_74; unfold PP; omega))
              · refine g_iconst X0 hx hby at_212 (pc' := 213) rfl (z := (1 : Int32)) rfl ?_
                refine g_goto X0 hx hby at_213 (by decide) (pc' := 217) (by decide) ?_
                exact cut53 1 (iff_of_false (by decide) (by simp only [Int32.lt_iff_toInt_lt, ← Int32.toInt_inj, Int32.reduceToInt] at hc174_68 hc188_69 hc195_72 hc202_73 hc209_74; unfold PP; omega))
      · refine g_iload X0 hx hby at_177 (pc' := 179) rfl rfl ?_
        refine g_ldcI X0 hx hZ hown hby at_179 (pc' := 181) rfl (w_1 hw) ?_
        refine g_icmp_le X0 hx hby at_181 (by decide) (pc' := 212) (by decide) (pn := 184) rfl (fun hc181_75 => ?_) (fun hc181_75 => ?_)
        · refine g_iconst X0 hx hby at_212 (pc' := 213) rfl (z := (1 : Int32)) rfl ?_
          refine g_goto X0 hx hby at_213 (by decide) (pc' := 217) (by decide) ?_
          exact cut53 1 (iff_of_false (by decide) (by simp only [Int32.lt_iff_toInt_lt, ← Int32.toInt_inj, Int32.reduceToInt] at hc174_68 hc181_75; unfold PP; omega))
        · refine g_iload X0 hx hby at_184 (pc' := 186) rfl rfl ?_
          refine g_ldcI X0 hx hZ hown hby at_186 (pc' := 188) rfl (w_4 hw) ?_
          refine g_icmp_lt X0 hx hby at_188 (by decide) (pc' := 198) (by decide) (pn := 191) rfl (fun hc188_76 => ?_) (fun hc188_76 => ?_)
          · refine g_iload X0 hx hby at_198 (pc' := 200) rfl rfl ?_
            refine g_ldcI X0 hx hZ hown hby at_200 (pc' := 202) rfl (w_8 hw) ?_
            refine g_icmp_lt X0 hx hby at_202 (by decide) (pc' := 216) (by decide) (pn := 205) rfl (fun hc202_77 => ?_) (fun hc202_77 => ?_)
            · refine g_iconst X0 hx hby at_216 (pc' := 217) rfl (z := (0 : Int32)) rfl ?_
              exact cut53 0 (iff_of_true rfl (by simp only [Int32.lt_iff_toInt_lt, ← Int32.toInt_inj, Int32.reduceToInt] at hc174_68 hc181_75 hc188_76 hc202_77; unfold PP; omega))
            · refine g_iload X0 hx hby at_205 (pc' := 207) rfl rfl ?_
              refine g_ldcI X0 hx hZ hown hby at_207 (pc' := 209) rfl (w_9 hw) ?_
              refine g_icmp_gt X0 hx hby at_209 (by decide) (pc' := 216) (by decide) (pn := 212) rfl (fun hc209_78 => ?_) (fun hc209_78 => ?_)
              · refine g_iconst X0 hx hby at_216 (pc' := 217) rfl (z := (0 : Int32)) rfl ?_
                exact cut53 0 (iff_of_true rfl (by simp only [Int32.lt_iff_toInt_lt, ← Int32.toInt_inj, Int32.reduceToInt] at hc174_68 hc181_75 hc188_76 hc202_77 hc209_78; unfold PP; omega))
              · refine g_iconst X0 hx hby at_212 (pc' := 213) rfl (z := (1 : Int32)) rfl ?_
                refine g_goto X0 hx hby at_213 (by decide) (pc' := 217) (by decide) ?_
                exact cut53 1 (iff_of_false (by decide) (by simp only [Int32.lt_iff_toInt_lt, ← Int32.toInt_inj, Int32.reduceToInt] at hc174_68 hc181_75 hc188_76 hc202_77 hc209_78; unfold PP; omega))
          · refine g_iload X0 hx hby at_191 (pc' := 193) rfl rfl ?_
            refine g_ldcI X0 hx hZ hown hby at_193 (pc' := 195) rfl (w_5 hw) ?_
            refine g_icmp_le X0 hx hby at_195 (by decide) (pc' := 212) (by decide) (pn := 198) rfl (fun hc195_79 => ?_) (fun hc195_79 => ?_)
            · refine g_iconst X0 hx hby at_212 (pc' := 213) rfl (z := (1 : Int32)) rfl ?_
              refine g_goto X0 hx hby at_213 (by decide) (pc' := 217) (by decide) ?_
              exact cut53 1 (iff_of_false (by decide) (by simp only [Int32.lt_iff_toInt_lt, ← Int32.toInt_inj, Int32.reduceToInt] at hc174_68 hc181_75 hc188_76 hc195_79; unfold PP; omega))
            · refine g_iload X0 hx hby at_198 (pc' := 200) rfl rfl ?_
              refine g_ldcI X0 hx hZ hown hby at_200 (pc' := 202) rfl (w_8 hw) ?_
              refine g_icmp_lt X0 hx hby at_202 (by decide) (pc' := 216) (by decide) (pn := 205) rfl (fun hc202_80 => ?_) (fun hc202_80 => ?_)
              · refine g_iconst X0 hx hby at_216 (pc' := 217) rfl (z := (0 : Int32)) rfl ?_
                exact cut53 0 (iff_of_true rfl (by simp only [Int32.lt_iff_toInt_lt, ← Int32.toInt_inj, Int32.reduceToInt] at hc174_68 hc181_75 hc188_76 hc195_79 hc202_80; unfold PP; omega))
              · refine g_iload X0 hx hby at_205 (pc' := 207) rfl rfl ?_
                refine g_ldcI X0 hx hZ hown hby at_207 (pc' := 209) rfl (w_9 hw) ?_
                refine g_icmp_gt X0 hx hby at_209 (by decide) (pc' := 216) (by decide) (pn := 212) rfl (fun hc209_81 => ?_) (fun hc209_81 => ?_)
                · refine g_iconst X0 hx hby at_216 (pc' := 217) rfl (z := (0 : Int32)) rfl ?_
                  exact cut53 0 (iff_of_true rfl (by simp only [Int32.lt_iff_toInt_lt, ← Int32.toInt_inj, Int32.reduceToInt] at hc174_68 hc181_75 hc188_76 hc195_79 hc202_80 hc209_81; unfold PP; omega))
                · refine g_iconst X0 hx hby at_212 (pc' := 213) rfl (z := (1 : Int32)) rfl ?_
                  refine g_goto X0 hx hby at_213 (by decide) (pc' := 217) (by decide) ?_
                  exact cut53 1 (iff_of_false (by decide) (by simp only [Int32.lt_iff_toInt_lt, ← Int32.toInt_inj, Int32.reduceToInt] at hc174_68 hc181_75 hc188_76 hc195_79 hc202_80 hc209_81; unfold PP; omega))
  · refine g_iconst X0 hx hby at_6 (pc' := 7) rfl (z := (1 : Int32)) rfl ?_
    refine g_goto X0 hx hby at_7 (by decide) (pc' := 11) (by decide) ?_
    refine g_istoreN X0 hx hby at_11 (pc' := 12) rfl (l' := #[.val (.int q1), .val (.int q2), .val (.int q3), .val (.int (1 : Int32)), .unset, .unset, .unset, .unset]) rfl ?_
    refine g_iloadN X0 hx hby at_12 (pc' := 13) rfl rfl ?_
    refine g_iconst X0 hx hby at_13 (pc' := 14) rfl (z := (1 : Int32)) rfl ?_
    refine g_iand X0 hx hby at_14 (pc' := 15) rfl ?_
    refine g_if_ne X0 hx hby at_15 (by decide) (pc' := 24) (by decide) (pn := 18) rfl (fun hc15_82 => ?_) (fun hc15_82 => ?_)
    · refine g_bipush X0 hx hby at_24 (pc' := 26) rfl (z := (20 : Int32)) rfl ?_
      refine g_newarray X0 hx hZ 20  "[I" hby at_26 (pc' := 28) rfl (w_0 hw) e0 (by decide) (by decide) (by decide) (by decide) (by decide) rfl ?_
      intro T83 b83 c83 hb83 X83 E83 A83v A83x
      have Z83 := Nat.le_trans Z0 E83.1
      have A83 : Arv Z T83.heap b83 c83 .int (20 : Int32) [.int 0, .int 0, .int 0, .int 0, .int 0, .int 0, .int 0, .int 0, .int 0, .int 0, .int 0, .int 0, .int 0, .int 0, .int 0, .int 0, .int 0, .int 0, .int 0, .int 0] (.int 0) := A83v
      refine g_dup X83 hx hby at_28 (pc' := 29) rfl rfl ?_
      refine g_iconst X83 hx hby at_29 (pc' := 30) rfl (z := (0 : Int32)) rfl ?_
      refine g_iconst X83 hx hby at_30 (pc' := 31) rfl (z := (0 : Int32)) rfl ?_
      refine g_iastore X83 hx hZ 0 hby at_31 (pc' := 32) rfl rfl A83 (by decide) (by decide) (by decide) ?_
      intro T84 X84 W84 A84v
      have N84 := Fr.snoc X84 N0 (Nat.le_trans Z0 (Nat.le_of_eq hb83.symm))
      have Z84 : n0 ≤ T84.heap.size := (W84.size ▸ Z83)
      have E84_b83 := A83x.wr W84
      have A84 : Arv Z T84.heap b83 c83 .int (20 : Int32) [.int (0 : Int32), .int 0, .int 0, .int 0, .int 0, .int 0, .int 0, .int 0, .int 0, .int 0, .int 0, .int 0, .int 0, .int 0, .int 0, .int 0, .int 0, .int 0, .int 0, .int 0] (.int 0) := A84v
      refine g_dup X84 hx hby at_32 (pc' := 33) rfl rfl ?_
      refine g_iconst X84 hx hby at_33 (pc' := 34) rfl (z := (1 : Int32)) rfl ?_
      refine g_iconst X84 hx hby at_34 (pc' := 35) rfl (z := (1 : Int32)) rfl ?_
      refine g_iastore X84 hx hZ 1 hby at_35 (pc' := 36) rfl rfl A84 (by decide) (by decide) (by decide) ?_
      intro T85 X85 W85 A85v
      have N85 := Fr.snoc X85 N84 (Nat.le_trans Z0 (Nat.le_of_eq hb83.symm))
      have Z85 : n0 ≤ T85.heap.size := (W85.size ▸ Z84)
      have E85_b83 := E84_b83.wr W85
      have A85 : Arv Z T85.heap b83 c83 .int (20 : Int32) [.int (0 : Int32), .int (1 : Int32), .int 0, .int 0, .int 0, .int 0, .int 0, .int 0, .int 0, .int 0, .int 0, .int 0, .int 0, .int 0, .int 0, .int 0, .int 0, .int 0, .int 0, .int 0] (.int 0) := A85v
      refine g_dup X85 hx hby at_36 (pc' := 37) rfl rfl ?_
      refine g_iconst X85 hx hby at_37 (pc' := 38) rfl (z := (2 : Int32)) rfl ?_
      refine g_bipush X85 hx hby at_38 (pc' := 40) rfl (z := (9 : Int32)) rfl ?_
      refine g_iastore X85 hx hZ 2 hby at_40 (pc' := 41) rfl rfl A85 (by decide) (by decide) (by decide) ?_
      intro T86 X86 W86 A86v
      have N86 := Fr.snoc X86 N85 (Nat.le_trans Z0 (Nat.le_of_eq hb83.symm))
      have Z86 : n0 ≤ T86.heap.size := (W86.size ▸ Z85)
      have E86_b83 := E85_b83.wr W86
      have A86 : Arv Z T86.heap b83 c83 .int (20 : Int32) [.int (0 : Int32), .int (1 : Int32), .int (9 : Int32), .int 0, .int 0, .int 0, .int 0, .int 0, .int 0, .int 0, .int 0, .int 0, .int 0, .int 0, .int 0, .int 0, .int 0, .int 0, .int 0, .int 0] (.int 0) := A86v
      refine g_dup X86 hx hby at_41 (pc' := 42) rfl rfl ?_
      refine g_iconst X86 hx hby at_42 (pc' := 43) rfl (z := (3 : Int32)) rfl ?_
      refine g_bipush X86 hx hby at_43 (pc' := 45) rfl (z := (10 : Int32)) rfl ?_
      refine g_iastore X86 hx hZ 3 hby at_45 (pc' := 46) rfl rfl A86 (by decide) (by decide) (by decide) ?_
      intro T87 X87 W87 A87v
      have N87 := Fr.snoc X87 N86 (Nat.le_trans Z0 (Nat.le_of_eq hb83.symm))
      have Z87 : n0 ≤ T87.heap.size := (W87.size ▸ Z86)
      have E87_b83 := E86_b83.wr W87
      have A87 : Arv Z T87.heap b83 c83 .int (20 : Int32) [.int (0 : Int32), .int (1 : Int32), .int (9 : Int32), .int (10 : Int32), .int 0, .int 0, .int 0, .int 0, .int 0, .int 0, .int 0, .int 0, .int 0, .int 0, .int 0, .int 0, .int 0, .int 0, .int 0, .int 0] (.int 0) := A87v
      refine g_dup X87 hx hby at_46 (pc' := 47) rfl rfl ?_
      refine g_iconst X87 hx hby at_47 (pc' := 48) rfl (z := (4 : Int32)) rfl ?_
      refine g_bipush X87 hx hby at_48 (pc' := 50) rfl (z := (13 : Int32)) rfl ?_
      refine g_iastore X87 hx hZ 4 hby at_50 (pc' := 51) rfl rfl A87 (by decide) (by decide) (by decide) ?_
      intro T88 X88 W88 A88v
      have N88 := Fr.snoc X88 N87 (Nat.le_trans Z0 (Nat.le_of_eq hb83.symm))
      have Z88 : n0 ≤ T88.heap.size := (W88.size ▸ Z87)
      have E88_b83 := E87_b83.wr W88
      have A88 : Arv Z T88.heap b83 c83 .int (20 : Int32) [.int (0 : Int32), .int (1 : Int32), .int (9 : Int32), .int (10 : Int32), .int (13 : Int32), .int 0, .int 0, .int 0, .int 0, .int 0, .int 0, .int 0, .int 0, .int 0, .int 0, .int 0, .int 0, .int 0, .int 0, .int 0] (.int 0) := A88v
      refine g_dup X88 hx hby at_51 (pc' := 52) rfl rfl ?_
      refine g_iconst X88 hx hby at_52 (pc' := 53) rfl (z := (5 : Int32)) rfl ?_
      refine g_bipush X88 hx hby at_53 (pc' := 55) rfl (z := (31 : Int32)) rfl ?_
      refine g_iastore X88 hx hZ 5 hby at_55 (pc' := 56) rfl rfl A88 (by decide) (by decide) (by decide) ?_
      intro T89 X89 W89 A89v
      have N89 := Fr.snoc X89 N88 (Nat.le_trans Z0 (Nat.le_of_eq hb83.symm))
      have Z89 : n0 ≤ T89.heap.size := (W89.size ▸ Z88)
      have E89_b83 := E88_b83.wr W89
      have A89 : Arv Z T89.heap b83 c83 .int (20 : Int32) [.int (0 : Int32), .int (1 : Int32), .int (9 : Int32), .int (10 : Int32), .int (13 : Int32), .int (31 : Int32), .int 0, .int 0, .int 0, .int 0, .int 0, .int 0, .int 0, .int 0, .int 0, .int 0, .int 0, .int 0, .int 0, .int 0] (.int 0) := A89v
      refine g_dup X89 hx hby at_56 (pc' := 57) rfl rfl ?_
      refine g_bipush X89 hx hby at_57 (pc' := 59) rfl (z := (6 : Int32)) rfl ?_
      refine g_bipush X89 hx hby at_59 (pc' := 61) rfl (z := (32 : Int32)) rfl ?_
      refine g_iastore X89 hx hZ 6 hby at_61 (pc' := 62) rfl rfl A89 (by decide) (by decide) (by decide) ?_
      intro T90 X90 W90 A90v
      have N90 := Fr.snoc X90 N89 (Nat.le_trans Z0 (Nat.le_of_eq hb83.symm))
      have Z90 : n0 ≤ T90.heap.size := (W90.size ▸ Z89)
      have E90_b83 := E89_b83.wr W90
      have A90 : Arv Z T90.heap b83 c83 .int (20 : Int32) [.int (0 : Int32), .int (1 : Int32), .int (9 : Int32), .int (10 : Int32), .int (13 : Int32), .int (31 : Int32), .int (32 : Int32), .int 0, .int 0, .int 0, .int 0, .int 0, .int 0, .int 0, .int 0, .int 0, .int 0, .int 0, .int 0, .int 0] (.int 0) := A90v
      refine g_dup X90 hx hby at_62 (pc' := 63) rfl rfl ?_
      refine g_bipush X90 hx hby at_63 (pc' := 65) rfl (z := (7 : Int32)) rfl ?_
      refine g_ldcI X90 hx hZ hown hby at_65 (pc' := 67) rfl (w_1 hw) ?_
      refine g_iastore X90 hx hZ 7 hby at_67 (pc' := 68) rfl rfl A90 (by decide) (by decide) (by decide) ?_
      intro T91 X91 W91 A91v
      have N91 := Fr.snoc X91 N90 (Nat.le_trans Z0 (Nat.le_of_eq hb83.symm))
      have Z91 : n0 ≤ T91.heap.size := (W91.size ▸ Z90)
      have E91_b83 := E90_b83.wr W91
      have A91 : Arv Z T91.heap b83 c83 .int (20 : Int32) [.int (0 : Int32), .int (1 : Int32), .int (9 : Int32), .int (10 : Int32), .int (13 : Int32), .int (31 : Int32), .int (32 : Int32), .int (55295 : Int32), .int 0, .int 0, .int 0, .int 0, .int 0, .int 0, .int 0, .int 0, .int 0, .int 0, .int 0, .int 0] (.int 0) := A91v
      refine g_dup X91 hx hby at_68 (pc' := 69) rfl rfl ?_
      refine g_bipush X91 hx hby at_69 (pc' := 71) rfl (z := (8 : Int32)) rfl ?_
      refine g_ldcI X91 hx hZ hown hby at_71 (pc' := 73) rfl (w_2 hw) ?_
      refine g_iastore X91 hx hZ 8 hby at_73 (pc' := 74) rfl rfl A91 (by decide) (by decide) (by decide) ?_
      intro T92 X92 W92 A92v
      have N92 := Fr.snoc X92 N91 (Nat.le_trans Z0 (Nat.le_of_eq hb83.symm))
      have Z92 : n0 ≤ T92.heap.size := (W92.size ▸ Z91)
      have E92_b83 := E91_b83.wr W92
      have A92 : Arv Z T92.heap b83 c83 .int (20 : Int32) [.int (0 : Int32), .int (1 : Int32), .int (9 : Int32), .int (10 : Int32), .int (13 : Int32), .int (31 : Int32), .int (32 : Int32), .int (55295 : Int32), .int (55296 : Int32), .int 0, .int 0, .int 0, .int 0, .int 0, .int 0, .int 0, .int 0, .int 0, .int 0, .int 0] (.int 0) := A92v
      refine g_dup X92 hx hby at_74 (pc' := 75) rfl rfl ?_
      refine g_bipush X92 hx hby at_75 (pc' := 77) rfl (z := (9 : Int32)) rfl ?_
      refine g_ldcI X92 hx hZ hown hby at_77 (pc' := 79) rfl (w_3 hw) ?_
      refine g_iastore X92 hx hZ 9 hby at_79 (pc' := 80) rfl rfl A92 (by decide) (by decide) (by decide) ?_
      intro T93 X93 W93 A93v
      have N93 := Fr.snoc X93 N92 (Nat.le_trans Z0 (Nat.le_of_eq hb83.symm))
      have Z93 : n0 ≤ T93.heap.size := (W93.size ▸ Z92)
      have E93_b83 := E92_b83.wr W93
      have A93 : Arv Z T93.heap b83 c83 .int (20 : Int32) [.int (0 : Int32), .int (1 : Int32), .int (9 : Int32), .int (10 : Int32), .int (13 : Int32), .int (31 : Int32), .int (32 : Int32), .int (55295 : Int32), .int (55296 : Int32), .int (57343 : Int32), .int 0, .int 0, .int 0, .int 0, .int 0, .int 0, .int 0, .int 0, .int 0, .int 0] (.int 0) := A93v
      refine g_dup X93 hx hby at_80 (pc' := 81) rfl rfl ?_
      refine g_bipush X93 hx hby at_81 (pc' := 83) rfl (z := (10 : Int32)) rfl ?_
      refine g_ldcI X93 hx hZ hown hby at_83 (pc' := 85) rfl (w_4 hw) ?_
      refine g_iastore X93 hx hZ 10 hby at_85 (pc' := 86) rfl rfl A93 (by decide) (by decide) (by decide) ?_
      intro T94 X94 W94 A94v
      have N94 := Fr.snoc X94 N93 (Nat.le_trans Z0 (Nat.le_of_eq hb83.symm))
      have Z94 : n0 ≤ T94.heap.size := (W94.size ▸ Z93)
      have E94_b83 := E93_b83.wr W94
      have A94 : Arv Z T94.heap b83 c83 .int (20 : Int32) [.int (0 : Int32), .int (1 : Int32), .int (9 : Int32), .int (10 : Int32), .int (13 : Int32), .int (31 : Int32), .int (32 : Int32), .int (55295 : Int32), .int (55296 : Int32), .int (57343 : Int32), .int (57344 : Int32), .int 0, .int 0, .int 0, .int 0, .int 0, .int 0, .int 0, .int 0, .int 0] (.int 0) := A94v
      refine g_dup X94 hx hby at_86 (pc' := 87) rfl rfl ?_
      refine g_bipush X94 hx hby at_87 (pc' := 89) rfl (z := (11 : Int32)) rfl ?_
      refine g_ldcI X94 hx hZ hown hby at_89 (pc' := 91) rfl (w_5 hw) ?_
      refine g_iastore X94 hx hZ 11 hby at_91 (pc' := 92) rfl rfl A94 (by decide) (by decide) (by decide) ?_
      intro T95 X95 W95 A95v
      have N95 := Fr.snoc X95 N94 (Nat.le_trans Z0 (Nat.le_of_eq hb83.symm))
      have Z95 : n0 ≤ T95.heap.size := (W95.size ▸ Z94)
      have E95_b83 := E94_b83.wr W95
      have A95 : Arv Z T95.heap b83 c83 .int (20 : Int32) [.int (0 : Int32), .int (1 : Int32), .int (9 : Int32), .int (10 : Int32), .int (13 : Int32), .int (31 : Int32), .int (32 : Int32), .int (55295 : Int32), .int (55296 : Int32), .int (57343 : Int32), .int (57344 : Int32), .int (65533 : Int32), .int 0, .int 0, .int 0, .int 0, .int 0, .int 0, .int 0, .int 0] (.int 0) := A95v
      refine g_dup X95 hx hby at_92 (pc' := 93) rfl rfl ?_
      refine g_bipush X95 hx hby at_93 (pc' := 95) rfl (z := (12 : Int32)) rfl ?_
      refine g_ldcI X95 hx hZ hown hby at_95 (pc' := 97) rfl (w_6 hw) ?_
      refine g_iastore X95 hx hZ 12 hby at_97 (pc' := 98) rfl rfl A95 (by decide) (by decide) (by decide) ?_
      intro T96 X96 W96 A96v
      have N96 := Fr.snoc X96 N95 (Nat.le_trans Z0 (Nat.le_of_eq hb83.symm))
      have Z96 : n0 ≤ T96.heap.size := (W96.size ▸ Z95)
      have E96_b83 := E95_b83.wr W96
      have A96 : Arv Z T96.heap b83 c83 .int (20 : Int32) [.int (0 : Int32), .int (1 : Int32), .int (9 : Int32), .int (10 : Int32), .int (13 : Int32), .int (31 : Int32), .int (32 : Int32), .int (55295 : Int32), .int (55296 : Int32), .int (57343 : Int32), .int (57344 : Int32), .int (65533 : Int32), .int (65534 : Int32), .int 0, .int 0, .int 0, .int 0, .int 0, .int 0, .int 0] (.int 0) := A96v
      refine g_dup X96 hx hby at_98 (pc' := 99) rfl rfl ?_
      refine g_bipush X96 hx hby at_99 (pc' := 101) rfl (z := (13 : Int32)) rfl ?_
      refine g_ldcI X96 hx hZ hown hby at_101 (pc' := 103) rfl (w_7 hw) ?_
      refine g_iastore X96 hx hZ 13 hby at_103 (pc' := 104) rfl rfl A96 (by decide) (by decide) (by decide) ?_
      intro T97 X97 W97 A97v
      have N97 := Fr.snoc X97 N96 (Nat.le_trans Z0 (Nat.le_of_eq hb83.symm))
      have Z97 : n0 ≤ T97.heap.size := (W97.size ▸ Z96)
      have E97_b83 := E96_b83.wr W97
      have A97 : Arv Z T97.heap b83 c83 .int (20 : Int32) [.int (0 : Int32), .int (1 : Int32), .int (9 : Int32), .int (10 : Int32), .int (13 : Int32), .int (31 : Int32), .int (32 : Int32), .int (55295 : Int32), .int (55296 : Int32), .int (57343 : Int32), .int (57344 : Int32), .int (65533 : Int32), .int (65534 : Int32), .int (65535 : Int32), .int 0, .int 0, .int 0, .int 0, .int 0, .int 0] (.int 0) := A97v
      refine g_dup X97 hx hby at_104 (pc' := 105) rfl rfl ?_
      refine g_bipush X97 hx hby at_105 (pc' := 107) rfl (z := (14 : Int32)) rfl ?_
      refine g_ldcI X97 hx hZ hown hby at_107 (pc' := 109) rfl (w_8 hw) ?_
      refine g_iastore X97 hx hZ 14 hby at_109 (pc' := 110) rfl rfl A97 (by decide) (by decide) (by decide) ?_
      intro T98 X98 W98 A98v
      have N98 := Fr.snoc X98 N97 (Nat.le_trans Z0 (Nat.le_of_eq hb83.symm))
      have Z98 : n0 ≤ T98.heap.size := (W98.size ▸ Z97)
      have E98_b83 := E97_b83.wr W98
      have A98 : Arv Z T98.heap b83 c83 .int (20 : Int32) [.int (0 : Int32), .int (1 : Int32), .int (9 : Int32), .int (10 : Int32), .int (13 : Int32), .int (31 : Int32), .int (32 : Int32), .int (55295 : Int32), .int (55296 : Int32), .int (57343 : Int32), .int (57344 : Int32), .int (65533 : Int32), .int (65534 : Int32), .int (65535 : Int32), .int (65536 : Int32), .int 0, .int 0, .int 0, .int 0, .int 0] (.int 0) := A98v
      refine g_dup X98 hx hby at_110 (pc' := 111) rfl rfl ?_
      refine g_bipush X98 hx hby at_111 (pc' := 113) rfl (z := (15 : Int32)) rfl ?_
      refine g_ldcI X98 hx hZ hown hby at_113 (pc' := 115) rfl (w_9 hw) ?_
      refine g_iastore X98 hx hZ 15 hby at_115 (pc' := 116) rfl rfl A98 (by decide) (by decide) (by decide) ?_
      intro T99 X99 W99 A99v
      have N99 := Fr.snoc X99 N98 (Nat.le_trans Z0 (Nat.le_of_eq hb83.symm))
      have Z99 : n0 ≤ T99.heap.size := (W99.size ▸ Z98)
      have E99_b83 := E98_b83.wr W99
      have A99 : Arv Z T99.heap b83 c83 .int (20 : Int32) [.int (0 : Int32), .int (1 : Int32), .int (9 : Int32), .int (10 : Int32), .int (13 : Int32), .int (31 : Int32), .int (32 : Int32), .int (55295 : Int32), .int (55296 : Int32), .int (57343 : Int32), .int (57344 : Int32), .int (65533 : Int32), .int (65534 : Int32), .int (65535 : Int32), .int (65536 : Int32), .int (1114111 : Int32), .int 0, .int 0, .int 0, .int 0] (.int 0) := A99v
      refine g_dup X99 hx hby at_116 (pc' := 117) rfl rfl ?_
      refine g_bipush X99 hx hby at_117 (pc' := 119) rfl (z := (16 : Int32)) rfl ?_
      refine g_ldcI X99 hx hZ hown hby at_119 (pc' := 121) rfl (w_10 hw) ?_
      refine g_iastore X99 hx hZ 16 hby at_121 (pc' := 122) rfl rfl A99 (by decide) (by decide) (by decide) ?_
      intro T100 X100 W100 A100v
      have N100 := Fr.snoc X100 N99 (Nat.le_trans Z0 (Nat.le_of_eq hb83.symm))
      have Z100 : n0 ≤ T100.heap.size := (W100.size ▸ Z99)
      have E100_b83 := E99_b83.wr W100
      have A100 : Arv Z T100.heap b83 c83 .int (20 : Int32) [.int (0 : Int32), .int (1 : Int32), .int (9 : Int32), .int (10 : Int32), .int (13 : Int32), .int (31 : Int32), .int (32 : Int32), .int (55295 : Int32), .int (55296 : Int32), .int (57343 : Int32), .int (57344 : Int32), .int (65533 : Int32), .int (65534 : Int32), .int (65535 : Int32), .int (65536 : Int32), .int (1114111 : Int32), .int (1114112 : Int32), .int 0, .int 0, .int 0] (.int 0) := A100v
      refine g_dup X100 hx hby at_122 (pc' := 123) rfl rfl ?_
      refine g_bipush X100 hx hby at_123 (pc' := 125) rfl (z := (17 : Int32)) rfl ?_
      refine g_ldcI X100 hx hZ hown hby at_125 (pc' := 127) rfl (w_11 hw) ?_
      refine g_iastore X100 hx hZ 17 hby at_127 (pc' := 128) rfl rfl A100 (by decide) (by decide) (by decide) ?_
      intro T101 X101 W101 A101v
      have N101 := Fr.snoc X101 N100 (Nat.le_trans Z0 (Nat.le_of_eq hb83.symm))
      have Z101 : n0 ≤ T101.heap.size := (W101.size ▸ Z100)
      have E101_b83 := E100_b83.wr W101
      have A101 : Arv Z T101.heap b83 c83 .int (20 : Int32) [.int (0 : Int32), .int (1 : Int32), .int (9 : Int32), .int (10 : Int32), .int (13 : Int32), .int (31 : Int32), .int (32 : Int32), .int (55295 : Int32), .int (55296 : Int32), .int (57343 : Int32), .int (57344 : Int32), .int (65533 : Int32), .int (65534 : Int32), .int (65535 : Int32), .int (65536 : Int32), .int (1114111 : Int32), .int (1114112 : Int32), .int (-2147483648 : Int32), .int 0, .int 0] (.int 0) := A101v
      refine g_dup X101 hx hby at_128 (pc' := 129) rfl rfl ?_
      refine g_bipush X101 hx hby at_129 (pc' := 131) rfl (z := (18 : Int32)) rfl ?_
      refine g_ldcI X101 hx hZ hown hby at_131 (pc' := 133) rfl (w_12 hw) ?_
      refine g_iastore X101 hx hZ 18 hby at_133 (pc' := 134) rfl rfl A101 (by decide) (by decide) (by decide) ?_
      intro T102 X102 W102 A102v
      have N102 := Fr.snoc X102 N101 (Nat.le_trans Z0 (Nat.le_of_eq hb83.symm))
      have Z102 : n0 ≤ T102.heap.size := (W102.size ▸ Z101)
      have E102_b83 := E101_b83.wr W102
      have A102 : Arv Z T102.heap b83 c83 .int (20 : Int32) [.int (0 : Int32), .int (1 : Int32), .int (9 : Int32), .int (10 : Int32), .int (13 : Int32), .int (31 : Int32), .int (32 : Int32), .int (55295 : Int32), .int (55296 : Int32), .int (57343 : Int32), .int (57344 : Int32), .int (65533 : Int32), .int (65534 : Int32), .int (65535 : Int32), .int (65536 : Int32), .int (1114111 : Int32), .int (1114112 : Int32), .int (-2147483648 : Int32), .int (2147483647 : Int32), .int 0] (.int 0) := A102v
      refine g_dup X102 hx hby at_134 (pc' := 135) rfl rfl ?_
      refine g_bipush X102 hx hby at_135 (pc' := 137) rfl (z := (19 : Int32)) rfl ?_
      refine g_iconst X102 hx hby at_137 (pc' := 138) rfl (z := (-1 : Int32)) rfl ?_
      refine g_iastore X102 hx hZ 19 hby at_138 (pc' := 139) rfl rfl A102 (by decide) (by decide) (by decide) ?_
      intro T103 X103 W103 A103v
      have N103 := Fr.snoc X103 N102 (Nat.le_trans Z0 (Nat.le_of_eq hb83.symm))
      have Z103 : n0 ≤ T103.heap.size := (W103.size ▸ Z102)
      have E103_b83 := E102_b83.wr W103
      have A103 : Arv Z T103.heap b83 c83 .int (20 : Int32) [.int (0 : Int32), .int (1 : Int32), .int (9 : Int32), .int (10 : Int32), .int (13 : Int32), .int (31 : Int32), .int (32 : Int32), .int (55295 : Int32), .int (55296 : Int32), .int (57343 : Int32), .int (57344 : Int32), .int (65533 : Int32), .int (65534 : Int32), .int (65535 : Int32), .int (65536 : Int32), .int (1114111 : Int32), .int (1114112 : Int32), .int (-2147483648 : Int32), .int (2147483647 : Int32), .int (-1 : Int32)] (.int 0) := A103v
      refine g_astore X103 hx hby at_139 (pc' := 141) rfl rfl (l' := #[.val (.int q1), .val (.int q2), .val (.int q3), .val (.int (1 : Int32)), .unset, .val (.ref b83), .unset, .unset]) rfl ?_
      refine g_iloadN X103 hx hby at_141 (pc' := 142) rfl rfl ?_
      refine g_iconst X103 hx hby at_142 (pc' := 143) rfl (z := (1 : Int32)) rfl ?_
      refine g_iushr X103 hx hby at_143 (pc' := 144) rfl ?_
      refine g_ldcI X103 hx hZ hown hby at_144 (pc' := 146) rfl (w_12 hw) ?_
      refine g_iand X103 hx hby at_146 (pc' := 147) rfl ?_
      refine g_aload X103 hx hby at_147 (pc' := 149) rfl rfl rfl ?_
      refine g_alen X103 hx hZ hby at_149 (pc' := 150) rfl rfl A103 ?_
      refine g_irem X103 hx hby at_150 (pc' := 151) rfl (by decide) ?_
      refine g_istore X103 hx hby at_151 (pc' := 153) rfl (l' := #[.val (.int q1), .val (.int q2), .val (.int q3), .val (.int (1 : Int32)), .unset, .val (.ref b83), .val (.int (((ushr q2 (1 : Int32)) &&& (2147483647 : Int32)) - (((ushr q2 (1 : Int32)) &&& (2147483647 : Int32)) / (20 : Int32)) * (20 : Int32))), .unset]) rfl ?_
      refine g_iloadN X103 hx hby at_153 (pc' := 154) rfl rfl ?_
      refine g_iconst X103 hx hby at_154 (pc' := 155) rfl (z := (3 : Int32)) rfl ?_
      refine g_iand X103 hx hby at_155 (pc' := 156) rfl ?_
      refine g_iconst X103 hx hby at_156 (pc' := 157) rfl (z := (1 : Int32)) rfl ?_
      refine g_isub X103 hx hby at_157 (pc' := 158) rfl ?_
      refine g_istore X103 hx hby at_158 (pc' := 160) rfl (l' := #[.val (.int q1), .val (.int q2), .val (.int q3), .val (.int (1 : Int32)), .unset, .val (.ref b83), .val (.int (((ushr q2 (1 : Int32)) &&& (2147483647 : Int32)) - (((ushr q2 (1 : Int32)) &&& (2147483647 : Int32)) / (20 : Int32)) * (20 : Int32))), .val (.int ((q1 &&& (3 : Int32)) - (1 : Int32)))]) rfl ?_
      refine g_aload X103 hx hby at_160 (pc' := 162) rfl rfl rfl ?_
      refine g_iload X103 hx hby at_162 (pc' := 164) rfl rfl ?_
      refine g_iaload X103 hx hZ hby at_164 (pc' := 165) rfl rfl A103 (own_idx _) (v := .int (edgeV (((ushr q2 (1 : Int32)) &&& (2147483647 : Int32)) - (((ushr q2 (1 : Int32)) &&& (2147483647 : Int32)) / (20 : Int32)) * (20 : Int32)))) (own_edge _) ?_
      refine g_iload X103 hx hby at_165 (pc' := 167) rfl rfl ?_
      refine g_iadd X103 hx hby at_167 (pc' := 168) rfl ?_
      refine g_istore X103 hx hby at_168 (pc' := 170) rfl (l' := #[.val (.int q1), .val (.int q2), .val (.int q3), .val (.int (1 : Int32)), .val (.int ((edgeV (((ushr q2 (1 : Int32)) &&& (2147483647 : Int32)) - (((ushr q2 (1 : Int32)) &&& (2147483647 : Int32)) / (20 : Int32)) * (20 : Int32))) + ((q1 &&& (3 : Int32)) - (1 : Int32)))), .val (.ref b83), .val (.int (((ushr q2 (1 : Int32)) &&& (2147483647 : Int32)) - (((ushr q2 (1 : Int32)) &&& (2147483647 : Int32)) / (20 : Int32)) * (20 : Int32))), .val (.int ((q1 &&& (3 : Int32)) - (1 : Int32)))]) rfl ?_
      suffices hz104 : ∀ z104 : Int32, Go p e below s room_1.cells room_1.slots (fun v h L => v = some (.int 1) ∧ Fr n0 L) (T103.setTop (mkF m 170 #[.val (.int q1), .val (.int q2), .val (.int q3), .val (.int (1 : Int32)), .val (.int z104), .val (.ref b83), .val (.int (((ushr q2 (1 : Int32)) &&& (2147483647 : Int32)) - (((ushr q2 (1 : Int32)) &&& (2147483647 : Int32)) / (20 : Int32)) * (20 : Int32))), .val (.int ((q1 &&& (3 : Int32)) - (1 : Int32)))] [])) from hz104 _
      intro z104
      have cut104 : ∀ b : Int32, (b = 0 ↔ ¬ PP z104) → Go p e below s room_1.cells room_1.slots (fun v h L => v = some (.int 1) ∧ Fr n0 L) (T103.setTop (mkF m 217 #[.val (.int q1), .val (.int q2), .val (.int q3), .val (.int (1 : Int32)), .val (.int z104), .val (.ref b83), .val (.int (((ushr q2 (1 : Int32)) &&& (2147483647 : Int32)) - (((ushr q2 (1 : Int32)) &&& (2147483647 : Int32)) / (20 : Int32)) * (20 : Int32))), .val (.int ((q1 &&& (3 : Int32)) - (1 : Int32)))] [.int b])) := by
        intro b104 hb104
        refine g_istore X103 hx hby at_217 (pc' := 219) rfl (l' := #[.val (.int q1), .val (.int q2), .val (.int q3), .val (.int (1 : Int32)), .val (.int z104), .val (.int b104), .val (.int (((ushr q2 (1 : Int32)) &&& (2147483647 : Int32)) - (((ushr q2 (1 : Int32)) &&& (2147483647 : Int32)) / (20 : Int32)) * (20 : Int32))), .val (.int ((q1 &&& (3 : Int32)) - (1 : Int32)))]) rfl ?_
        refine g_iloadN X103 hx hby at_219 (pc' := 220) rfl rfl ?_
        refine g_if_eq X103 hx hby at_220 (by decide) (pc' := 251) (by decide) (pn := 223) rfl (fun z => absurd z (by decide)) (fun _ => ?_)
        refine g_iload X103 hx hby at_223 (pc' := 225) rfl rfl ?_
        refine g_iconst X103 hx hby at_225 (pc' := 226) rfl (z := (1 : Int32)) rfl ?_
        refine g_icmp_lt X103 hx hby at_226 (by decide) (pc' := 236) (by decide) (pn := 229) rfl (fun hc226_105 => ?_) (fun hc226_105 => ?_)
        · refine g_iload X103 hx hby at_236 (pc' := 238) rfl rfl ?_
          refine g_if_eq X103 hx hby at_238 (by decide) (pc' := 245) (by decide) (pn := 241) rfl (fun hc238_106 => ?_) (fun hc238_106 => ?_)
          · refine g_iconst X103 hx hby at_245 (pc' := 246) rfl (z := (0 : Int32)) rfl ?_
            refine g_istore X103 hx hby at_246 (pc' := 248) rfl (l' := #[.val (.int q1), .val (.int q2), .val (.int q3), .val (.int (1 : Int32)), .val (.int z104), .val (.int b104), .val (.int (0 : Int32)), .val (.int ((q1 &&& (3 : Int32)) - (1 : Int32)))]) rfl ?_
            refine g_goto X103 hx hby at_248 (by decide) (pc' := 284) (by decide) ?_
            refine g_iload X103 hx hby at_284 (pc' := 286) rfl rfl ?_
            refine g_iloadN X103 hx hby at_286 (pc' := 287) rfl rfl ?_
            refine g_callS X103 hx hZ hown (W := 0) (argsL := [.int z104, .int (1 : Int32)]) (rest := []) hby at_287 (pc' := 290) rfl (by rw [hml]; rfl) (w_13 hw) (w_14 hw) (w_15 hw) (w_16 hw) (by decide) (rm1 l Z a0 hw [] z104 (1 : Int32) T103.heap n0) rfl (by decide) (by decide) (by decide) (by decide) rfl pd__28IZ_29Z rfl rfl (Nat.le_of_eq rfl) ?_
            rintro _ T107 L107 X107 ⟨rfl, N107q, e107⟩
            have N107 := Fr.app N103 N107q
            show GoE p e below _ (T107.setTop (mkF m 290 #[.val (.int q1), .val (.int q2), .val (.int q3), .val (.int (1 : Int32)), .val (.int z104), .val (.int b104), .val (.int (0 : Int32)), .val (.int ((q1 &&& (3 : Int32)) - (1 : Int32)))] [.int (isCh z104 (1 : Int32))]))
            refine g_iload X107 hx hby at_290 (pc' := 292) rfl rfl ?_
            refine g_icmp_ne X107 hx hby at_292 (by decide) (pc' := 299) (by decide) (pn := 295) rfl (fun z => absurd z (fun z => z (by have hP := hb104.mp hc238_106; simp only [Int32.lt_iff_toInt_lt, ← Int32.toInt_inj, Int32.reduceToInt] at hc226_105; exact (own_is1 _).trans (if_neg (by rintro (q | q); omega; exact hP q))))) (fun hc292_108 => ?_)
            refine g_iconst X107 hx hby at_295 (pc' := 296) rfl (z := (1 : Int32)) rfl ?_
            refine g_goto X107 hx hby at_296 (by decide) (pc' := 300) (by decide) ?_
            exact g_retN (Q := (fun v h L => v = some (.int 1) ∧ Fr n0 L)) (w := (1 : Int32)) X107 hx hby at_300 hret (by simp) (by first | decide | rfl) hlk (by decide) (by decide) ⟨rfl, N107⟩
          · refine g_iconst X103 hx hby at_241 (pc' := 242) rfl (z := (1 : Int32)) rfl ?_
            refine g_goto X103 hx hby at_242 (by decide) (pc' := 246) (by decide) ?_
            refine g_istore X103 hx hby at_246 (pc' := 248) rfl (l' := #[.val (.int q1), .val (.int q2), .val (.int q3), .val (.int (1 : Int32)), .val (.int z104), .val (.int b104), .val (.int (1 : Int32)), .val (.int ((q1 &&& (3 : Int32)) - (1 : Int32)))]) rfl ?_
            refine g_goto X103 hx hby at_248 (by decide) (pc' := 284) (by decide) ?_
            refine g_iload X103 hx hby at_284 (pc' := 286) rfl rfl ?_
            refine g_iloadN X103 hx hby at_286 (pc' := 287) rfl rfl ?_
            refine g_callS X103 hx hZ hown (W := 0) (argsL := [.int z104, .int (1 : Int32)]) (rest := []) hby at_287 (pc' := 290) rfl (by rw [hml]; rfl) (w_13 hw) (w_14 hw) (w_15 hw) (w_16 hw) (by decide) (rm1 l Z a0 hw [] z104 (1 : Int32) T103.heap n0) rfl (by decide) (by decide) (by decide) (by decide) rfl pd__28IZ_29Z rfl rfl (Nat.le_of_eq rfl) ?_
            rintro _ T109 L109 X109 ⟨rfl, N109q, e109⟩
            have N109 := Fr.app N103 N109q
            show GoE p e below _ (T109.setTop (mkF m 290 #[.val (.int q1), .val (.int q2), .val (.int q3), .val (.int (1 : Int32)), .val (.int z104), .val (.int b104), .val (.int (1 : Int32)), .val (.int ((q1 &&& (3 : Int32)) - (1 : Int32)))] [.int (isCh z104 (1 : Int32))]))
            refine g_iload X109 hx hby at_290 (pc' := 292) rfl rfl ?_
            refine g_icmp_ne X109 hx hby at_292 (by decide) (pc' := 299) (by decide) (pn := 295) rfl (fun z => absurd z (fun z => z (by have hP : PP _ := Decidable.byContradiction fun q => hc238_106 (hb104.mpr q); simp only [Int32.lt_iff_toInt_lt, ← Int32.toInt_inj, Int32.reduceToInt] at hc226_105; exact (own_is1 _).trans (if_pos (Or.inr hP))))) (fun hc292_110 => ?_)
            refine g_iconst X109 hx hby at_295 (pc' := 296) rfl (z := (1 : Int32)) rfl ?_
            refine g_goto X109 hx hby at_296 (by decide) (pc' := 300) (by decide) ?_
            exact g_retN (Q := (fun v h L => v = some (.int 1) ∧ Fr n0 L)) (w := (1 : Int32)) X109 hx hby at_300 hret (by simp) (by first | decide | rfl) hlk (by decide) (by decide) ⟨rfl, N109⟩
        · refine g_iload X103 hx hby at_229 (pc' := 231) rfl rfl ?_
          refine g_bipush X103 hx hby at_231 (pc' := 233) rfl (z := (31 : Int32)) rfl ?_
          refine g_icmp_le X103 hx hby at_233 (by decide) (pc' := 241) (by decide) (pn := 236) rfl (fun hc233_111 => ?_) (fun hc233_111 => ?_)
          · refine g_iconst X103 hx hby at_241 (pc' := 242) rfl (z := (1 : Int32)) rfl ?_
            refine g_goto X103 hx hby at_242 (by decide) (pc' := 246) (by decide) ?_
            refine g_istore X103 hx hby at_246 (pc' := 248) rfl (l' := #[.val (.int q1), .val (.int q2), .val (.int q3), .val (.int (1 : Int32)), .val (.int z104), .val (.int b104), .val (.int (1 : Int32)), .val (.int ((q1 &&& (3 : Int32)) - (1 : Int32)))]) rfl ?_
            refine g_goto X103 hx hby at_248 (by decide) (pc' := 284) (by decide) ?_
            refine g_iload X103 hx hby at_284 (pc' := 286) rfl rfl ?_
            refine g_iloadN X103 hx hby at_286 (pc' := 287) rfl rfl ?_
            refine g_callS X103 hx hZ hown (W := 0) (argsL := [.int z104, .int (1 : Int32)]) (rest := []) hby at_287 (pc' := 290) rfl (by rw [hml]; rfl) (w_13 hw) (w_14 hw) (w_15 hw) (w_16 hw) (by decide) (rm1 l Z a0 hw [] z104 (1 : Int32) T103.heap n0) rfl (by decide) (by decide) (by decide) (by decide) rfl pd__28IZ_29Z rfl rfl (Nat.le_of_eq rfl) ?_
            rintro _ T112 L112 X112 ⟨rfl, N112q, e112⟩
            have N112 := Fr.app N103 N112q
            show GoE p e below _ (T112.setTop (mkF m 290 #[.val (.int q1), .val (.int q2), .val (.int q3), .val (.int (1 : Int32)), .val (.int z104), .val (.int b104), .val (.int (1 : Int32)), .val (.int ((q1 &&& (3 : Int32)) - (1 : Int32)))] [.int (isCh z104 (1 : Int32))]))
            refine g_iload X112 hx hby at_290 (pc' := 292) rfl rfl ?_
            refine g_icmp_ne X112 hx hby at_292 (by decide) (pc' := 299) (by decide) (pn := 295) rfl (fun z => absurd z (fun z => z (by simp only [Int32.lt_iff_toInt_lt, ← Int32.toInt_inj, Int32.reduceToInt] at hc226_105 hc233_111; exact (own_is1 _).trans (if_pos (Or.inl (by omega)))))) (fun hc292_113 => ?_)
            refine g_iconst X112 hx hby at_295 (pc' := 296) rfl (z := (1 : Int32)) rfl ?_
            refine g_goto X112 hx hby at_296 (by decide) (pc' := 300) (by decide) ?_
            exact g_retN (Q := (fun v h L => v = some (.int 1) ∧ Fr n0 L)) (w := (1 : Int32)) X112 hx hby at_300 hret (by simp) (by first | decide | rfl) hlk (by decide) (by decide) ⟨rfl, N112⟩
          · refine g_iload X103 hx hby at_236 (pc' := 238) rfl rfl ?_
            refine g_if_eq X103 hx hby at_238 (by decide) (pc' := 245) (by decide) (pn := 241) rfl (fun hc238_114 => ?_) (fun hc238_114 => ?_)
            · refine g_iconst X103 hx hby at_245 (pc' := 246) rfl (z := (0 : Int32)) rfl ?_
              refine g_istore X103 hx hby at_246 (pc' := 248) rfl (l' := #[.val (.int q1), .val (.int q2), .val (.int q3), .val (.int (1 : Int32)), .val (.int z104), .val (.int b104), .val (.int (0 : Int32)), .val (.int ((q1 &&& (3 : Int32)) - (1 : Int32)))]) rfl ?_
              refine g_goto X103 hx hby at_248 (by decide) (pc' := 284) (by decide) ?_
              refine g_iload X103 hx hby at_284 (pc' := 286) rfl rfl ?_
              refine g_iloadN X103 hx hby at_286 (pc' := 287) rfl rfl ?_
              refine g_callS X103 hx hZ hown (W := 0) (argsL := [.int z104, .int (1 : Int32)]) (rest := []) hby at_287 (pc' := 290) rfl (by rw [hml]; rfl) (w_13 hw) (w_14 hw) (w_15 hw) (w_16 hw) (by decide) (rm1 l Z a0 hw [] z104 (1 : Int32) T103.heap n0) rfl (by decide) (by decide) (by decide) (by decide) rfl pd__28IZ_29Z rfl rfl (Nat.le_of_eq rfl) ?_
              rintro _ T115 L115 X115 ⟨rfl, N115q, e115⟩
              have N115 := Fr.app N103 N115q
              show GoE p e below _ (T115.setTop (mkF m 290 #[.val (.int q1), .val (.int q2), .val (.int q3), .val (.int (1 : Int32)), .val (.int z104), .val (.int b104), .val (.int (0 : Int32)), .val (.int ((q1 &&& (3 : Int32)) - (1 : Int32)))] [.int (isCh z104 (1 : Int32))]))
              refine g_iload X115 hx hby at_290 (pc' := 292) rfl rfl ?_
              refine g_icmp_ne X115 hx hby at_292 (by decide) (pc' := 299) (by decide) (pn := 295) rfl (fun z => absurd z (fun z => z (by have hP := hb104.mp hc238_114; simp only [Int32.lt_iff_toInt_lt, ← Int32.toInt_inj, Int32.reduceToInt] at hc226_105 hc233_111; exact (own_is1 _).trans (if_neg (by rintro (q | q); omega; exact hP q))))) (fun hc292_116 => ?_)
              refine g_iconst X115 hx hby at_295 (pc' := 296) rfl (z := (1 : Int32)) rfl ?_
              refine g_goto X115 hx hby at_296 (by decide) (pc' := 300) (by decide) ?_
              exact g_retN (Q := (fun v h L => v = some (.int 1) ∧ Fr n0 L)) (w := (1 : Int32)) X115 hx hby at_300 hret (by simp) (by first | decide | rfl) hlk (by decide) (by decide) ⟨rfl, N115⟩
            · refine g_iconst X103 hx hby at_241 (pc' := 242) rfl (z := (1 : Int32)) rfl ?_
              refine g_goto X103 hx hby at_242 (by decide) (pc' := 246) (by decide) ?_
              refine g_istore X103 hx hby at_246 (pc' := 248) rfl (l' := #[.val (.int q1), .val (.int q2), .val (.int q3), .val (.int (1 : Int32)), .val (.int z104), .val (.int b104), .val (.int (1 : Int32)), .val (.int ((q1 &&& (3 : Int32)) - (1 : Int32)))]) rfl ?_
              refine g_goto X103 hx hby at_248 (by decide) (pc' := 284) (by decide) ?_
              refine g_iload X103 hx hby at_284 (pc' := 286) rfl rfl ?_
              refine g_iloadN X103 hx hby at_286 (pc' := 287) rfl rfl ?_
              refine g_callS X103 hx hZ hown (W := 0) (argsL := [.int z104, .int (1 : Int32)]) (rest := []) hby at_287 (pc' := 290) rfl (by rw [hml]; rfl) (w_13 hw) (w_14 hw) (w_15 hw) (w_16 hw) (by decide) (rm1 l Z a0 hw [] z104 (1 : Int32) T103.heap n0) rfl (by decide) (by decide) (by decide) (by decide) rfl pd__28IZ_29Z rfl rfl (Nat.le_of_eq rfl) ?_
              rintro _ T117 L117 X117 ⟨rfl, N117q, e117⟩
              have N117 := Fr.app N103 N117q
              show GoE p e below _ (T117.setTop (mkF m 290 #[.val (.int q1), .val (.int q2), .val (.int q3), .val (.int (1 : Int32)), .val (.int z104), .val (.int b104), .val (.int (1 : Int32)), .val (.int ((q1 &&& (3 : Int32)) - (1 : Int32)))] [.int (isCh z104 (1 : Int32))]))
              refine g_iload X117 hx hby at_290 (pc' := 292) rfl rfl ?_
              refine g_icmp_ne X117 hx hby at_292 (by decide) (pc' := 299) (by decide) (pn := 295) rfl (fun z => absurd z (fun z => z (by have hP : PP _ := Decidable.byContradiction fun q => hc238_114 (hb104.mpr q); simp only [Int32.lt_iff_toInt_lt, ← Int32.toInt_inj, Int32.reduceToInt] at hc226_105 hc233_111; exact (own_is1 _).trans (if_pos (Or.inr hP))))) (fun hc292_118 => ?_)
              refine g_iconst X117 hx hby at_295 (pc' := 296) rfl (z := (1 : Int32)) rfl ?_
              refine g_goto X117 hx hby at_296 (by decide) (pc' := 300) (by decide) ?_
              exact g_retN (Q := (fun v h L => v = some (.int 1) ∧ Fr n0 L)) (w := (1 : Int32)) X117 hx hby at_300 hret (by simp) (by first | decide | rfl) hlk (by decide) (by decide) ⟨rfl, N117⟩
      refine g_iload X103 hx hby at_170 (pc' := 172) rfl rfl ?_
      refine g_bipush X103 hx hby at_172 (pc' := 174) rfl (z := (32 : Int32)) rfl ?_
      refine g_icmp_lt X103 hx hby at_174 (by decide) (pc' := 184) (by decide) (pn := 177) rfl (fun hc174_119 => ?_) (fun hc174_119 => ?_)
      · refine g_iload X103 hx hby at_184 (pc' := 186) rfl rfl ?_
        refine g_ldcI X103 hx hZ hown hby at_186 (pc' := 188) rfl (w_4 hw) ?_
        refine g_icmp_lt X103 hx hby at_188 (by decide) (pc' := 198) (by decide) (pn := 191) rfl (fun hc188_120 => ?_) (fun hc188_120 => ?_)
        · refine g_iload X103 hx hby at_198 (pc' := 200) rfl rfl ?_
          refine g_ldcI X103 hx hZ hown hby at_200 (pc' := 202) rfl (w_8 hw) ?_
          refine g_icmp_lt X103 hx hby at_202 (by decide) (pc' := 216) (by decide) (pn := 205) rfl (fun hc202_121 => ?_) (fun hc202_121 => ?_)
          · refine g_iconst X103 hx hby at_216 (pc' := 217) rfl (z := (0 : Int32)) rfl ?_
            exact cut104 0 (iff_of_true rfl (by simp only [Int32.lt_iff_toInt_lt, ← Int32.toInt_inj, Int32.reduceToInt] at hc174_119 hc188_120 hc202_121; unfold PP; omega))
          · refine g_iload X103 hx hby at_205 (pc' := 207) rfl rfl ?_
            refine g_ldcI X103 hx hZ hown hby at_207 (pc' := 209) rfl (w_9 hw) ?_
            refine g_icmp_gt X103 hx hby at_209 (by decide) (pc' := 216) (by decide) (pn := 212) rfl (fun hc209_122 => ?_) (fun hc209_122 => ?_)
            · refine g_iconst X103 hx hby at_216 (pc' := 217) rfl (z := (0 : Int32)) rfl ?_
              exact cut104 0 (iff_of_true rfl (by simp only [Int32.lt_iff_toInt_lt, ← Int32.toInt_inj, Int32.reduceToInt] at hc174_119 hc188_120 hc202_121 hc209_122; unfold PP; omega))
            · refine g_iconst X103 hx hby at_212 (pc' := 213) rfl (z := (1 : Int32)) rfl ?_
              refine g_goto X103 hx hby at_213 (by decide) (pc' := 217) (by decide) ?_
              exact cut104 1 (iff_of_false (by decide) (by simp only [Int32.lt_iff_toInt_lt, ← Int32.toInt_inj, Int32.reduceToInt] at hc174_119 hc188_120 hc202_121 hc209_122; unfold PP; omega))
        · refine g_iload X103 hx hby at_191 (pc' := 193) rfl rfl ?_
          refine g_ldcI X103 hx hZ hown hby at_193 (pc' := 195) rfl (w_5 hw) ?_
          refine g_icmp_le X103 hx hby at_195 (by decide) (pc' := 212) (by decide) (pn := 198) rfl (fun hc195_123 => ?_) (fun hc195_123 => ?_)
          · refine g_iconst X103 hx hby at_212 (pc' := 213) rfl (z := (1 : Int32)) rfl ?_
            refine g_goto X103 hx hby at_213 (by decide) (pc' := 217) (by decide) ?_
            exact cut104 1 (iff_of_false (by decide) (by simp only [Int32.lt_iff_toInt_lt, ← Int32.toInt_inj, Int32.reduceToInt] at hc174_119 hc188_120 hc195_123; unfold PP; omega))
          · refine g_iload X103 hx hby at_198 (pc' := 200) rfl rfl ?_
            refine g_ldcI X103 hx hZ hown hby at_200 (pc' := 202) rfl (w_8 hw) ?_
            refine g_icmp_lt X103 hx hby at_202 (by decide) (pc' := 216) (by decide) (pn := 205) rfl (fun hc202_124 => ?_) (fun hc202_124 => ?_)
            · refine g_iconst X103 hx hby at_216 (pc' := 217) rfl (z := (0 : Int32)) rfl ?_
              exact cut104 0 (iff_of_true rfl (by simp only [Int32.lt_iff_toInt_lt, ← Int32.toInt_inj, Int32.reduceToInt] at hc174_119 hc188_120 hc195_123 hc202_124; unfold PP; omega))
            · refine g_iload X103 hx hby at_205 (pc' := 207) rfl rfl ?_
              refine g_ldcI X103 hx hZ hown hby at_207 (pc' := 209) rfl (w_9 hw) ?_
              refine g_icmp_gt X103 hx hby at_209 (by decide) (pc' := 216) (by decide) (pn := 212) rfl (fun hc209_125 => ?_) (fun hc209_125 => ?_)
              · refine g_iconst X103 hx hby at_216 (pc' := 217) rfl (z := (0 : Int32)) rfl ?_
                exact cut104 0 (iff_of_true rfl (by simp only [Int32.lt_iff_toInt_lt, ← Int32.toInt_inj, Int32.reduceToInt] at hc174_119 hc188_120 hc195_123 hc202_124 hc209_125; unfold PP; omega))
              · refine g_iconst X103 hx hby at_212 (pc' := 213) rfl (z := (1 : Int32)) rfl ?_
                refine g_goto X103 hx hby at_213 (by decide) (pc' := 217) (by decide) ?_
                exact cut104 1 (iff_of_false (by decide) (by simp only [Int32.lt_iff_toInt_lt, ← Int32.toInt_inj, Int32.reduceToInt] at hc174_119 hc188_120 hc195_123 hc202_124 hc209_125; unfold PP; omega))
      · refine g_iload X103 hx hby at_177 (pc' := 179) rfl rfl ?_
        refine g_ldcI X103 hx hZ hown hby at_179 (pc' := 181) rfl (w_1 hw) ?_
        refine g_icmp_le X103 hx hby at_181 (by decide) (pc' := 212) (by decide) (pn := 184) rfl (fun hc181_126 => ?_) (fun hc181_126 => ?_)
        · refine g_iconst X103 hx hby at_212 (pc' := 213) rfl (z := (1 : Int32)) rfl ?_
          refine g_goto X103 hx hby at_213 (by decide) (pc' := 217) (by decide) ?_
          exact cut104 1 (iff_of_false (by decide) (by simp only [Int32.lt_iff_toInt_lt, ← Int32.toInt_inj, Int32.reduceToInt] at hc174_119 hc181_126; unfold PP; omega))
        · refine g_iload X103 hx hby at_184 (pc' := 186) rfl rfl ?_
          refine g_ldcI X103 hx hZ hown hby at_186 (pc' := 188) rfl (w_4 hw) ?_
          refine g_icmp_lt X103 hx hby at_188 (by decide) (pc' := 198) (by decide) (pn := 191) rfl (fun hc188_127 => ?_) (fun hc188_127 => ?_)
          · refine g_iload X103 hx hby at_198 (pc' := 200) rfl rfl ?_
            refine g_ldcI X103 hx hZ hown hby at_200 (pc' := 202) rfl (w_8 hw) ?_
            refine g_icmp_lt X103 hx hby at_202 (by decide) (pc' := 216) (by decide) (pn := 205) rfl (fun hc202_128 => ?_) (fun hc202_128 => ?_)
            · refine g_iconst X103 hx hby at_216 (pc' := 217) rfl (z := (0 : Int32)) rfl ?_
              exact cut104 0 (iff_of_true rfl (by simp only [Int32.lt_iff_toInt_lt, ← Int32.toInt_inj, Int32.reduceToInt] at hc174_119 hc181_126 hc188_127 hc202_128; unfold PP; omega))
            · refine g_iload X103 hx hby at_205 (pc' := 207) rfl rfl ?_
              refine g_ldcI X103 hx hZ hown hby at_207 (pc' := 209) rfl (w_9 hw) ?_
              refine g_icmp_gt X103 hx hby at_209 (by decide) (pc' := 216) (by decide) (pn := 212) rfl (fun hc209_129 => ?_) (fun hc209_129 => ?_)
              · refine g_iconst X103 hx hby at_216 (pc' := 217) rfl (z := (0 : Int32)) rfl ?_
                exact cut104 0 (iff_of_true rfl (by simp only [Int32.lt_iff_toInt_lt, ← Int32.toInt_inj, Int32.reduceToInt] at hc174_119 hc181_126 hc188_127 hc202_128 hc209_129; unfold PP; omega))
              · refine g_iconst X103 hx hby at_212 (pc' := 213) rfl (z := (1 : Int32)) rfl ?_
                refine g_goto X103 hx hby at_213 (by decide) (pc' := 217) (by decide) ?_
                exact cut104 1 (iff_of_false (by decide) (by simp only [Int32.lt_iff_toInt_lt, ← Int32.toInt_inj, Int32.reduceToInt] at hc174_119 hc181_126 hc188_127 hc202_128 hc209_129; unfold PP; omega))
          · refine g_iload X103 hx hby at_191 (pc' := 193) rfl rfl ?_
            refine g_ldcI X103 hx hZ hown hby at_193 (pc' := 195) rfl (w_5 hw) ?_
            refine g_icmp_le X103 hx hby at_195 (by decide) (pc' := 212) (by decide) (pn := 198) rfl (fun hc195_130 => ?_) (fun hc195_130 => ?_)
            · refine g_iconst X103 hx hby at_212 (pc' := 213) rfl (z := (1 : Int32)) rfl ?_
              refine g_goto X103 hx hby at_213 (by decide) (pc' := 217) (by decide) ?_
              exact cut104 1 (iff_of_false (by decide) (by simp only [Int32.lt_iff_toInt_lt, ← Int32.toInt_inj, Int32.reduceToInt] at hc174_119 hc181_126 hc188_127 hc195_130; unfold PP; omega))
            · refine g_iload X103 hx hby at_198 (pc' := 200) rfl rfl ?_
              refine g_ldcI X103 hx hZ hown hby at_200 (pc' := 202) rfl (w_8 hw) ?_
              refine g_icmp_lt X103 hx hby at_202 (by decide) (pc' := 216) (by decide) (pn := 205) rfl (fun hc202_131 => ?_) (fun hc202_131 => ?_)
              · refine g_iconst X103 hx hby at_216 (pc' := 217) rfl (z := (0 : Int32)) rfl ?_
                exact cut104 0 (iff_of_true rfl (by simp only [Int32.lt_iff_toInt_lt, ← Int32.toInt_inj, Int32.reduceToInt] at hc174_119 hc181_126 hc188_127 hc195_130 hc202_131; unfold PP; omega))
              · refine g_iload X103 hx hby at_205 (pc' := 207) rfl rfl ?_
                refine g_ldcI X103 hx hZ hown hby at_207 (pc' := 209) rfl (w_9 hw) ?_
                refine g_icmp_gt X103 hx hby at_209 (by decide) (pc' := 216) (by decide) (pn := 212) rfl (fun hc209_132 => ?_) (fun hc209_132 => ?_)
                · refine g_iconst X103 hx hby at_216 (pc' := 217) rfl (z := (0 : Int32)) rfl ?_
                  exact cut104 0 (iff_of_true rfl (by simp only [Int32.lt_iff_toInt_lt, ← Int32.toInt_inj, Int32.reduceToInt] at hc174_119 hc181_126 hc188_127 hc195_130 hc202_131 hc209_132; unfold PP; omega))
                · refine g_iconst X103 hx hby at_212 (pc' := 213) rfl (z := (1 : Int32)) rfl ?_
                  refine g_goto X103 hx hby at_213 (by decide) (pc' := 217) (by decide) ?_
                  exact cut104 1 (iff_of_false (by decide) (by simp only [Int32.lt_iff_toInt_lt, ← Int32.toInt_inj, Int32.reduceToInt] at hc174_119 hc181_126 hc188_127 hc195_130 hc202_131 hc209_132; unfold PP; omega))
    · refine g_iloadN X0 hx hby at_18 (pc' := 19) rfl rfl ?_
      refine g_istore X0 hx hby at_19 (pc' := 21) rfl (l' := #[.val (.int q1), .val (.int q2), .val (.int q3), .val (.int (1 : Int32)), .val (.int q1), .unset, .unset, .unset]) rfl ?_
      refine g_goto X0 hx hby at_21 (by decide) (pc' := 170) (by decide) ?_
      have cut133 : ∀ b : Int32, (b = 0 ↔ ¬ PP q1) → Go p e below s room_1.cells room_1.slots (fun v h L => v = some (.int 1) ∧ Fr n0 L) (T.setTop (mkF m 217 #[.val (.int q1), .val (.int q2), .val (.int q3), .val (.int (1 : Int32)), .val (.int q1), .unset, .unset, .unset] [.int b])) := by
        intro b133 hb133
        refine g_istore X0 hx hby at_217 (pc' := 219) rfl (l' := #[.val (.int q1), .val (.int q2), .val (.int q3), .val (.int (1 : Int32)), .val (.int q1), .val (.int b133), .unset, .unset]) rfl ?_
        refine g_iloadN X0 hx hby at_219 (pc' := 220) rfl rfl ?_
        refine g_if_eq X0 hx hby at_220 (by decide) (pc' := 251) (by decide) (pn := 223) rfl (fun z => absurd z (by decide)) (fun _ => ?_)
        refine g_iload X0 hx hby at_223 (pc' := 225) rfl rfl ?_
        refine g_iconst X0 hx hby at_225 (pc' := 226) rfl (z := (1 : Int32)) rfl ?_
        refine g_icmp_lt X0 hx hby at_226 (by decide) (pc' := 236) (by decide) (pn := 229) rfl (fun hc226_134 => ?_) (fun hc226_134 => ?_)
        · refine g_iload X0 hx hby at_236 (pc' := 238) rfl rfl ?_
          refine g_if_eq X0 hx hby at_238 (by decide) (pc' := 245) (by decide) (pn := 241) rfl (fun hc238_135 => ?_) (fun hc238_135 => ?_)
          · refine g_iconst X0 hx hby at_245 (pc' := 246) rfl (z := (0 : Int32)) rfl ?_
            refine g_istore X0 hx hby at_246 (pc' := 248) rfl (l' := #[.val (.int q1), .val (.int q2), .val (.int q3), .val (.int (1 : Int32)), .val (.int q1), .val (.int b133), .val (.int (0 : Int32)), .unset]) rfl ?_
            refine g_goto X0 hx hby at_248 (by decide) (pc' := 284) (by decide) ?_
            refine g_iload X0 hx hby at_284 (pc' := 286) rfl rfl ?_
            refine g_iloadN X0 hx hby at_286 (pc' := 287) rfl rfl ?_
            refine g_callS X0 hx hZ hown (W := 0) (argsL := [.int q1, .int (1 : Int32)]) (rest := []) hby at_287 (pc' := 290) rfl (by rw [hml]; rfl) (w_13 hw) (w_14 hw) (w_15 hw) (w_16 hw) (by decide) (rm1 l Z a0 hw [] q1 (1 : Int32) h0 n0) e0 (by decide) (by decide) (by decide) (by decide) rfl pd__28IZ_29Z rfl rfl (Nat.le_of_eq rfl) ?_
            rintro _ T136 L136 X136 ⟨rfl, N136q, e136⟩
            have N136 := Fr.app N0 N136q
            show GoE p e below _ (T136.setTop (mkF m 290 #[.val (.int q1), .val (.int q2), .val (.int q3), .val (.int (1 : Int32)), .val (.int q1), .val (.int b133), .val (.int (0 : Int32)), .unset] [.int (isCh q1 (1 : Int32))]))
            refine g_iload X136 hx hby at_290 (pc' := 292) rfl rfl ?_
            refine g_icmp_ne X136 hx hby at_292 (by decide) (pc' := 299) (by decide) (pn := 295) rfl (fun z => absurd z (fun z => z (by have hP := hb133.mp hc238_135; simp only [Int32.lt_iff_toInt_lt, ← Int32.toInt_inj, Int32.reduceToInt] at hc226_134; exact (own_is1 _).trans (if_neg (by rintro (q | q); omega; exact hP q))))) (fun hc292_137 => ?_)
            refine g_iconst X136 hx hby at_295 (pc' := 296) rfl (z := (1 : Int32)) rfl ?_
            refine g_goto X136 hx hby at_296 (by decide) (pc' := 300) (by decide) ?_
            exact g_retN (Q := (fun v h L => v = some (.int 1) ∧ Fr n0 L)) (w := (1 : Int32)) X136 hx hby at_300 hret (by simp) (by first | decide | rfl) hlk (by decide) (by decide) ⟨rfl, N136⟩
          · refine g_iconst X0 hx hby at_241 (pc' := 242) rfl (z := (1 : Int32)) rfl ?_
            refine g_goto X0 hx hby at_242 (by decide) (pc' := 246) (by decide) ?_
            refine g_istore X0 hx hby at_246 (pc' := 248) rfl (l' := #[.val (.int q1), .val (.int q2), .val (.int q3), .val (.int (1 : Int32)), .val (.int q1), .val (.int b133), .val (.int (1 : Int32)), .unset]) rfl ?_
            refine g_goto X0 hx hby at_248 (by decide) (pc' := 284) (by decide) ?_
            refine g_iload X0 hx hby at_284 (pc' := 286) rfl rfl ?_
            refine g_iloadN X0 hx hby at_286 (pc' := 287) rfl rfl ?_
            refine g_callS X0 hx hZ hown (W := 0) (argsL := [.int q1, .int (1 : Int32)]) (rest := []) hby at_287 (pc' := 290) rfl (by rw [hml]; rfl) (w_13 hw) (w_14 hw) (w_15 hw) (w_16 hw) (by decide) (rm1 l Z a0 hw [] q1 (1 : Int32) h0 n0) e0 (by decide) (by decide) (by decide) (by decide) rfl pd__28IZ_29Z rfl rfl (Nat.le_of_eq rfl) ?_
            rintro _ T138 L138 X138 ⟨rfl, N138q, e138⟩
            have N138 := Fr.app N0 N138q
            show GoE p e below _ (T138.setTop (mkF m 290 #[.val (.int q1), .val (.int q2), .val (.int q3), .val (.int (1 : Int32)), .val (.int q1), .val (.int b133), .val (.int (1 : Int32)), .unset] [.int (isCh q1 (1 : Int32))]))
            refine g_iload X138 hx hby at_290 (pc' := 292) rfl rfl ?_
            refine g_icmp_ne X138 hx hby at_292 (by decide) (pc' := 299) (by decide) (pn := 295) rfl (fun z => absurd z (fun z => z (by have hP : PP _ := Decidable.byContradiction fun q => hc238_135 (hb133.mpr q); simp only [Int32.lt_iff_toInt_lt, ← Int32.toInt_inj, Int32.reduceToInt] at hc226_134; exact (own_is1 _).trans (if_pos (Or.inr hP))))) (fun hc292_139 => ?_)
            refine g_iconst X138 hx hby at_295 (pc' := 296) rfl (z := (1 : Int32)) rfl ?_
            refine g_goto X138 hx hby at_296 (by decide) (pc' := 300) (by decide) ?_
            exact g_retN (Q := (fun v h L => v = some (.int 1) ∧ Fr n0 L)) (w := (1 : Int32)) X138 hx hby at_300 hret (by simp) (by first | decide | rfl) hlk (by decide) (by decide) ⟨rfl, N138⟩
        · refine g_iload X0 hx hby at_229 (pc' := 231) rfl rfl ?_
          refine g_bipush X0 hx hby at_231 (pc' := 233) rfl (z := (31 : Int32)) rfl ?_
          refine g_icmp_le X0 hx hby at_233 (by decide) (pc' := 241) (by decide) (pn := 236) rfl (fun hc233_140 => ?_) (fun hc233_140 => ?_)
          · refine g_iconst X0 hx hby at_241 (pc' := 242) rfl (z := (1 : Int32)) rfl ?_
            refine g_goto X0 hx hby at_242 (by decide) (pc' := 246) (by decide) ?_
            refine g_istore X0 hx hby at_246 (pc' := 248) rfl (l' := #[.val (.int q1), .val (.int q2), .val (.int q3), .val (.int (1 : Int32)), .val (.int q1), .val (.int b133), .val (.int (1 : Int32)), .unset]) rfl ?_
            refine g_goto X0 hx hby at_248 (by decide) (pc' := 284) (by decide) ?_
            refine g_iload X0 hx hby at_284 (pc' := 286) rfl rfl ?_
            refine g_iloadN X0 hx hby at_286 (pc' := 287) rfl rfl ?_
            refine g_callS X0 hx hZ hown (W := 0) (argsL := [.int q1, .int (1 : Int32)]) (rest := []) hby at_287 (pc' := 290) rfl (by rw [hml]; rfl) (w_13 hw) (w_14 hw) (w_15 hw) (w_16 hw) (by decide) (rm1 l Z a0 hw [] q1 (1 : Int32) h0 n0) e0 (by decide) (by decide) (by decide) (by decide) rfl pd__28IZ_29Z rfl rfl (Nat.le_of_eq rfl) ?_
            rintro _ T141 L141 X141 ⟨rfl, N141q, e141⟩
            have N141 := Fr.app N0 N141q
            show GoE p e below _ (T141.setTop (mkF m 290 #[.val (.int q1), .val (.int q2), .val (.int q3), .val (.int (1 : Int32)), .val (.int q1), .val (.int b133), .val (.int (1 : Int32)), .unset] [.int (isCh q1 (1 : Int32))]))
            refine g_iload X141 hx hby at_290 (pc' := 292) rfl rfl ?_
            refine g_icmp_ne X141 hx hby at_292 (by decide) (pc' := 299) (by decide) (pn := 295) rfl (fun z => absurd z (fun z => z (by simp only [Int32.lt_iff_toInt_lt, ← Int32.toInt_inj, Int32.reduceToInt] at hc226_134 hc233_140; exact (own_is1 _).trans (if_pos (Or.inl (by omega)))))) (fun hc292_142 => ?_)
            refine g_iconst X141 hx hby at_295 (pc' := 296) rfl (z := (1 : Int32)) rfl ?_
            refine g_goto X141 hx hby at_296 (by decide) (pc' := 300) (by decide) ?_
            exact g_retN (Q := (fun v h L => v = some (.int 1) ∧ Fr n0 L)) (w := (1 : Int32)) X141 hx hby at_300 hret (by simp) (by first | decide | rfl) hlk (by decide) (by decide) ⟨rfl, N141⟩
          · refine g_iload X0 hx hby at_236 (pc' := 238) rfl rfl ?_
            refine g_if_eq X0 hx hby at_238 (by decide) (pc' := 245) (by decide) (pn := 241) rfl (fun hc238_143 => ?_) (fun hc238_143 => ?_)
            · refine g_iconst X0 hx hby at_245 (pc' := 246) rfl (z := (0 : Int32)) rfl ?_
              refine g_istore X0 hx hby at_246 (pc' := 248) rfl (l' := #[.val (.int q1), .val (.int q2), .val (.int q3), .val (.int (1 : Int32)), .val (.int q1), .val (.int b133), .val (.int (0 : Int32)), .unset]) rfl ?_
              refine g_goto X0 hx hby at_248 (by decide) (pc' := 284) (by decide) ?_
              refine g_iload X0 hx hby at_284 (pc' := 286) rfl rfl ?_
              refine g_iloadN X0 hx hby at_286 (pc' := 287) rfl rfl ?_
              refine g_callS X0 hx hZ hown (W := 0) (argsL := [.int q1, .int (1 : Int32)]) (rest := []) hby at_287 (pc' := 290) rfl (by rw [hml]; rfl) (w_13 hw) (w_14 hw) (w_15 hw) (w_16 hw) (by decide) (rm1 l Z a0 hw [] q1 (1 : Int32) h0 n0) e0 (by decide) (by decide) (by decide) (by decide) rfl pd__28IZ_29Z rfl rfl (Nat.le_of_eq rfl) ?_
              rintro _ T144 L144 X144 ⟨rfl, N144q, e144⟩
              have N144 := Fr.app N0 N144q
              show GoE p e below _ (T144.setTop (mkF m 290 #[.val (.int q1), .val (.int q2), .val (.int q3), .val (.int (1 : Int32)), .val (.int q1), .val (.int b133), .val (.int (0 : Int32)), .unset] [.int (isCh q1 (1 : Int32))]))
              refine g_iload X144 hx hby at_290 (pc' := 292) rfl rfl ?_
              refine g_icmp_ne X144 hx hby at_292 (by decide) (pc' := 299) (by decide) (pn := 295) rfl (fun z => absurd z (fun z => z (by have hP := hb133.mp hc238_143; simp only [Int32.lt_iff_toInt_lt, ← Int32.toInt_inj, Int32.reduceToInt] at hc226_134 hc233_140; exact (own_is1 _).trans (if_neg (by rintro (q | q); omega; exact hP q))))) (fun hc292_145 => ?_)
              refine g_iconst X144 hx hby at_295 (pc' := 296) rfl (z := (1 : Int32)) rfl ?_
              refine g_goto X144 hx hby at_296 (by decide) (pc' := 300) (by decide) ?_
              exact g_retN (Q := (fun v h L => v = some (.int 1) ∧ Fr n0 L)) (w := (1 : Int32)) X144 hx hby at_300 hret (by simp) (by first | decide | rfl) hlk (by decide) (by decide) ⟨rfl, N144⟩
            · refine g_iconst X0 hx hby at_241 (pc' := 242) rfl (z := (1 : Int32)) rfl ?_
              refine g_goto X0 hx hby at_242 (by decide) (pc' := 246) (by decide) ?_
              refine g_istore X0 hx hby at_246 (pc' := 248) rfl (l' := #[.val (.int q1), .val (.int q2), .val (.int q3), .val (.int (1 : Int32)), .val (.int q1), .val (.int b133), .val (.int (1 : Int32)), .unset]) rfl ?_
              refine g_goto X0 hx hby at_248 (by decide) (pc' := 284) (by decide) ?_
              refine g_iload X0 hx hby at_284 (pc' := 286) rfl rfl ?_
              refine g_iloadN X0 hx hby at_286 (pc' := 287) rfl rfl ?_
              refine g_callS X0 hx hZ hown (W := 0) (argsL := [.int q1, .int (1 : Int32)]) (rest := []) hby at_287 (pc' := 290) rfl (by rw [hml]; rfl) (w_13 hw) (w_14 hw) (w_15 hw) (w_16 hw) (by decide) (rm1 l Z a0 hw [] q1 (1 : Int32) h0 n0) e0 (by decide) (by decide) (by decide) (by decide) rfl pd__28IZ_29Z rfl rfl (Nat.le_of_eq rfl) ?_
              rintro _ T146 L146 X146 ⟨rfl, N146q, e146⟩
              have N146 := Fr.app N0 N146q
              show GoE p e below _ (T146.setTop (mkF m 290 #[.val (.int q1), .val (.int q2), .val (.int q3), .val (.int (1 : Int32)), .val (.int q1), .val (.int b133), .val (.int (1 : Int32)), .unset] [.int (isCh q1 (1 : Int32))]))
              refine g_iload X146 hx hby at_290 (pc' := 292) rfl rfl ?_
              refine g_icmp_ne X146 hx hby at_292 (by decide) (pc' := 299) (by decide) (pn := 295) rfl (fun z => absurd z (fun z => z (by have hP : PP _ := Decidable.byContradiction fun q => hc238_143 (hb133.mpr q); simp only [Int32.lt_iff_toInt_lt, ← Int32.toInt_inj, Int32.reduceToInt] at hc226_134 hc233_140; exact (own_is1 _).trans (if_pos (Or.inr hP))))) (fun hc292_147 => ?_)
              refine g_iconst X146 hx hby at_295 (pc' := 296) rfl (z := (1 : Int32)) rfl ?_
              refine g_goto X146 hx hby at_296 (by decide) (pc' := 300) (by decide) ?_
              exact g_retN (Q := (fun v h L => v = some (.int 1) ∧ Fr n0 L)) (w := (1 : Int32)) X146 hx hby at_300 hret (by simp) (by first | decide | rfl) hlk (by decide) (by decide) ⟨rfl, N146⟩
      refine g_iload X0 hx hby at_170 (pc' := 172) rfl rfl ?_
      refine g_bipush X0 hx hby at_172 (pc' := 174) rfl (z := (32 : Int32)) rfl ?_
      refine g_icmp_lt X0 hx hby at_174 (by decide) (pc' := 184) (by decide) (pn := 177) rfl (fun hc174_148 => ?_) (fun hc174_148 => ?_)
      · refine g_iload X0 hx hby at_184 (pc' := 186) rfl rfl ?_
        refine g_ldcI X0 hx hZ hown hby at_186 (pc' := 188) rfl (w_4 hw) ?_
        refine g_icmp_lt X0 hx hby at_188 (by decide) (pc' := 198) (by decide) (pn := 191) rfl (fun hc188_149 => ?_) (fun hc188_149 => ?_)
        · refine g_iload X0 hx hby at_198 (pc' := 200) rfl rfl ?_
          refine g_ldcI X0 hx hZ hown hby at_200 (pc' := 202) rfl (w_8 hw) ?_
          refine g_icmp_lt X0 hx hby at_202 (by decide) (pc' := 216) (by decide) (pn := 205) rfl (fun hc202_150 => ?_) (fun hc202_150 => ?_)
          · refine g_iconst X0 hx hby at_216 (pc' := 217) rfl (z := (0 : Int32)) rfl ?_
            exact cut133 0 (iff_of_true rfl (by simp only [Int32.lt_iff_toInt_lt, ← Int32.toInt_inj, Int32.reduceToInt] at hc174_148 hc188_149 hc202_150; unfold PP; omega))
          · refine g_iload X0 hx hby at_205 (pc' := 207) rfl rfl ?_
            refine g_ldcI X0 hx hZ hown hby at_207 (pc' := 209) rfl (w_9 hw) ?_
            refine g_icmp_gt X0 hx hby at_209 (by decide) (pc' := 216) (by decide) (pn := 212) rfl (fun hc209_151 => ?_) (fun hc209_151 => ?_)
            · refine g_iconst X0 hx hby at_216 (pc' := 217) rfl (z := (0 : Int32)) rfl ?_
              exact cut133 0 (iff_of_true rfl (by simp only [Int32.lt_iff_toInt_lt, ← Int32.toInt_inj, Int32.reduceToInt] at hc174_148 hc188_149 hc202_150 hc209_151; unfold PP; omega))
            · refine g_iconst X0 hx hby at_212 (pc' := 213) rfl (z := (1 : Int32)) rfl ?_
              refine g_goto X0 hx hby at_213 (by decide) (pc' := 217) (by decide) ?_
              exact cut133 1 (iff_of_false (by decide) (by simp only [Int32.lt_iff_toInt_lt, ← Int32.toInt_inj, Int32.reduceToInt] at hc174_148 hc188_149 hc202_150 hc209_151; unfold PP; omega))
        · refine g_iload X0 hx hby at_191 (pc' := 193) rfl rfl ?_
          refine g_ldcI X0 hx hZ hown hby at_193 (pc' := 195) rfl (w_5 hw) ?_
          refine g_icmp_le X0 hx hby at_195 (by decide) (pc' := 212) (by decide) (pn := 198) rfl (fun hc195_152 => ?_) (fun hc195_152 => ?_)
          · refine g_iconst X0 hx hby at_212 (pc' := 213) rfl (z := (1 : Int32)) rfl ?_
            refine g_goto X0 hx hby at_213 (by decide) (pc' := 217) (by decide) ?_
            exact cut133 1 (iff_of_false (by decide) (by simp only [Int32.lt_iff_toInt_lt, ← Int32.toInt_inj, Int32.reduceToInt] at hc174_148 hc188_149 hc195_152; unfold PP; omega))
          · refine g_iload X0 hx hby at_198 (pc' := 200) rfl rfl ?_
            refine g_ldcI X0 hx hZ hown hby at_200 (pc' := 202) rfl (w_8 hw) ?_
            refine g_icmp_lt X0 hx hby at_202 (by decide) (pc' := 216) (by decide) (pn := 205) rfl (fun hc202_153 => ?_) (fun hc202_153 => ?_)
            · refine g_iconst X0 hx hby at_216 (pc' := 217) rfl (z := (0 : Int32)) rfl ?_
              exact cut133 0 (iff_of_true rfl (by simp only [Int32.lt_iff_toInt_lt, ← Int32.toInt_inj, Int32.reduceToInt] at hc174_148 hc188_149 hc195_152 hc202_153; unfold PP; omega))
            · refine g_iload X0 hx hby at_205 (pc' := 207) rfl rfl ?_
              refine g_ldcI X0 hx hZ hown hby at_207 (pc' := 209) rfl (w_9 hw) ?_
              refine g_icmp_gt X0 hx hby at_209 (by decide) (pc' := 216) (by decide) (pn := 212) rfl (fun hc209_154 => ?_) (fun hc209_154 => ?_)
              · refine g_iconst X0 hx hby at_216 (pc' := 217) rfl (z := (0 : Int32)) rfl ?_
                exact cut133 0 (iff_of_true rfl (by simp only [Int32.lt_iff_toInt_lt, ← Int32.toInt_inj, Int32.reduceToInt] at hc174_148 hc188_149 hc195_152 hc202_153 hc209_154; unfold PP; omega))
              · refine g_iconst X0 hx hby at_212 (pc' := 213) rfl (z := (1 : Int32)) rfl ?_
                refine g_goto X0 hx hby at_213 (by decide) (pc' := 217) (by decide) ?_
                exact cut133 1 (iff_of_false (by decide) (by simp only [Int32.lt_iff_toInt_lt, ← Int32.toInt_inj, Int32.reduceToInt] at hc174_148 hc188_149 hc195_152 hc202_153 hc209_154; unfold PP; omega))
      · refine g_iload X0 hx hby at_177 (pc' := 179) rfl rfl ?_
        refine g_ldcI X0 hx hZ hown hby at_179 (pc' := 181) rfl (w_1 hw) ?_
        refine g_icmp_le X0 hx hby at_181 (by decide) (pc' := 212) (by decide) (pn := 184) rfl (fun hc181_155 => ?_) (fun hc181_155 => ?_)
        · refine g_iconst X0 hx hby at_212 (pc' := 213) rfl (z := (1 : Int32)) rfl ?_
          refine g_goto X0 hx hby at_213 (by decide) (pc' := 217) (by decide) ?_
          exact cut133 1 (iff_of_false (by decide) (by simp only [Int32.lt_iff_toInt_lt, ← Int32.toInt_inj, Int32.reduceToInt] at hc174_148 hc181_155; unfold PP; omega))
        · refine g_iload X0 hx hby at_184 (pc' := 186) rfl rfl ?_
          refine g_ldcI X0 hx hZ hown hby at_186 (pc' := 188) rfl (w_4 hw) ?_
          refine g_icmp_lt X0 hx hby at_188 (by decide) (pc' := 198) (by decide) (pn := 191) rfl (fun hc188_156 => ?_) (fun hc188_156 => ?_)
          · refine g_iload X0 hx hby at_198 (pc' := 200) rfl rfl ?_
            refine g_ldcI X0 hx hZ hown hby at_200 (pc' := 202) rfl (w_8 hw) ?_
            refine g_icmp_lt X0 hx hby at_202 (by decide) (pc' := 216) (by decide) (pn := 205) rfl (fun hc202_157 => ?_) (fun hc202_157 => ?_)
            · refine g_iconst X0 hx hby at_216 (pc' := 217) rfl (z := (0 : Int32)) rfl ?_
              exact cut133 0 (iff_of_true rfl (by simp only [Int32.lt_iff_toInt_lt, ← Int32.toInt_inj, Int32.reduceToInt] at hc174_148 hc181_155 hc188_156 hc202_157; unfold PP; omega))
            · refine g_iload X0 hx hby at_205 (pc' := 207) rfl rfl ?_
              refine g_ldcI X0 hx hZ hown hby at_207 (pc' := 209) rfl (w_9 hw) ?_
              refine g_icmp_gt X0 hx hby at_209 (by decide) (pc' := 216) (by decide) (pn := 212) rfl (fun hc209_158 => ?_) (fun hc209_158 => ?_)
              · refine g_iconst X0 hx hby at_216 (pc' := 217) rfl (z := (0 : Int32)) rfl ?_
                exact cut133 0 (iff_of_true rfl (by simp only [Int32.lt_iff_toInt_lt, ← Int32.toInt_inj, Int32.reduceToInt] at hc174_148 hc181_155 hc188_156 hc202_157 hc209_158; unfold PP; omega))
              · refine g_iconst X0 hx hby at_212 (pc' := 213) rfl (z := (1 : Int32)) rfl ?_
                refine g_goto X0 hx hby at_213 (by decide) (pc' := 217) (by decide) ?_
                exact cut133 1 (iff_of_false (by decide) (by simp only [Int32.lt_iff_toInt_lt, ← Int32.toInt_inj, Int32.reduceToInt] at hc174_148 hc181_155 hc188_156 hc202_157 hc209_158; unfold PP; omega))
          · refine g_iload X0 hx hby at_191 (pc' := 193) rfl rfl ?_
            refine g_ldcI X0 hx hZ hown hby at_193 (pc' := 195) rfl (w_5 hw) ?_
            refine g_icmp_le X0 hx hby at_195 (by decide) (pc' := 212) (by decide) (pn := 198) rfl (fun hc195_159 => ?_) (fun hc195_159 => ?_)
            · refine g_iconst X0 hx hby at_212 (pc' := 213) rfl (z := (1 : Int32)) rfl ?_
              refine g_goto X0 hx hby at_213 (by decide) (pc' := 217) (by decide) ?_
              exact cut133 1 (iff_of_false (by decide) (by simp only [Int32.lt_iff_toInt_lt, ← Int32.toInt_inj, Int32.reduceToInt] at hc174_148 hc181_155 hc188_156 hc195_159; unfold PP; omega))
            · refine g_iload X0 hx hby at_198 (pc' := 200) rfl rfl ?_
              refine g_ldcI X0 hx hZ hown hby at_200 (pc' := 202) rfl (w_8 hw) ?_
              refine g_icmp_lt X0 hx hby at_202 (by decide) (pc' := 216) (by decide) (pn := 205) rfl (fun hc202_160 => ?_) (fun hc202_160 => ?_)
              · refine g_iconst X0 hx hby at_216 (pc' := 217) rfl (z := (0 : Int32)) rfl ?_
                exact cut133 0 (iff_of_true rfl (by simp only [Int32.lt_iff_toInt_lt, ← Int32.toInt_inj, Int32.reduceToInt] at hc174_148 hc181_155 hc188_156 hc195_159 hc202_160; unfold PP; omega))
              · refine g_iload X0 hx hby at_205 (pc' := 207) rfl rfl ?_
                refine g_ldcI X0 hx hZ hown hby at_207 (pc' := 209) rfl (w_9 hw) ?_
                refine g_icmp_gt X0 hx hby at_209 (by decide) (pc' := 216) (by decide) (pn := 212) rfl (fun hc209_161 => ?_) (fun hc209_161 => ?_)
                · refine g_iconst X0 hx hby at_216 (pc' := 217) rfl (z := (0 : Int32)) rfl ?_
                  exact cut133 0 (iff_of_true rfl (by simp only [Int32.lt_iff_toInt_lt, ← Int32.toInt_inj, Int32.reduceToInt] at hc174_148 hc181_155 hc188_156 hc195_159 hc202_160 hc209_161; unfold PP; omega))
                · refine g_iconst X0 hx hby at_212 (pc' := 213) rfl (z := (1 : Int32)) rfl ?_
                  refine g_goto X0 hx hby at_213 (by decide) (pc' := 217) (by decide) ?_
                  exact cut133 1 (iff_of_false (by decide) (by simp only [Int32.lt_iff_toInt_lt, ← Int32.toInt_inj, Int32.reduceToInt] at hc174_148 hc181_155 hc188_156 hc195_159 hc202_160 hc209_161; unfold PP; omega))
set_option maxRecDepth 65536 in
set_option maxHeartbeats 40000000 in
theorem comes_1 {Post : Tables → Env → Array Value → State → Outcome → State → Prop} (hpost : ∀ tb e args s v u, (limb_1_1.after args s (.returned v) u = true ∧ limb_1_2.after args s (.returned v) u = true ∧ True) → FrameEnd s (.returned v) u (Jvm.fieldLocs frame_1_writes args s ++ Jvm.arrayLocs frame_1_arrays args s ++ Jvm.staticLocs frame_1_statics s) 16 128 → Post tb e args s (.returned v) u) :
    ArmFor flags0 classFile x code maxLocals ret World_1 tables_1 room_1 Calls_1 rest_1 Pre_1 Post := by
  intro l hfl _ _ p e ha hc hk s m args below hf hA hF happ hP
  obtain ⟨hcalls, hrest, hpre⟩ := hP
  obtain ⟨-, -, -, hnamed, -, -, -, hat⟩ := (Spec.applies_iff hf).mp happ
  obtain ⟨hg, hn⟩ := and_e (Cond.before_iff.mp (show (Jvm.Cond.and given_1 narrow_1).before args s = true from hpre))
  obtain ⟨h1, g0⟩ := and_e hg
  obtain ⟨a0, g1⟩ := and_e g0
  obtain ⟨a1, g2⟩ := and_e g1
  have a2 := g2
  obtain ⟨u0, u1, u2, rfl⟩ : ∃ u0 u1 u2 : Value, args = #[u0, u1, u2] := by
    have hs : args.size = 3 := by simpa [Cond.value, given_1] using h1
    obtain ⟨L⟩ := args
    match L, hs with
    | [u0, u1, u2], _ => exact ⟨u0, u1, u2, rfl⟩
  have hw := fun d (hd : d ∈ tables_1) => atoms_spec (ws := Jvm.Cond.code x code maxLocals ret :: tables_1) hat d (List.mem_cons_of_mem _ hd)
  have hfit : Fit s := fun {y c} hc i hi => by
    obtain ⟨ha, rfl⟩ := Array.getElem?_eq_some_iff.mp hc
    have q := List.all_eq_true.mp ((Array.all_eq_true_iff_forall_mem.mp hF) _ (Array.getElem_mem ha)) i (List.mem_range.mpr hi)
    simpa [Array.getElem?_eq_getElem hi] using q
  obtain ⟨i0, e0⟩ := is_v a0
  obtain rfl : u0 = (.int i0) := Option.some.inj e0
  obtain ⟨i1, e1⟩ := is_v a1
  obtain rfl : u1 = (.int i1) := Option.some.inj e1
  obtain ⟨i2, e2⟩ := is_v a2
  obtain rfl : u2 = (.int i2) := Option.some.inj e2
  obtain ⟨n, o, h1, h2, h3, _, L, rfl, ⟨rfl, N⟩, hq⟩ := rm0 l s _ hw tables_1 i0 i1 i2  s.heap s.heap.size (Nat.le_refl _) p e ha hc hk s m _ below hf ((Spec.applies_iff_loose hf).mp happ).1 ⟨rfl, State.Warmed39.refl s, rfl⟩ trivial
  refine ⟨n, _, h1, h2, h3, hpost _ _ _ _ _ _ ⟨Cond.after_iff.mpr rfl, Cond.after_iff.mpr (eq_i res_at (Term.int_eval (1)) rfl), trivial⟩ ⟨hq.1, hq.2.1, (hq.2.2.sift fun y hy => Or.inr (N y hy)).mono (by decide) (by decide)⟩⟩
theorem main_1_1 : Claimed_1_1 := comes_1 fun _ _ _ _ _ _ h hF => ⟨h.1, hF⟩
theorem main_1_2 : Claimed_1_2 := comes_1 fun _ _ _ _ _ _ h hF => ⟨h.2.1, hF⟩
end Jvm.Pilot.@@N@@
namespace Jvm.Pilot.@@N@@
open Jvm Jvm.ClassFile Sem Op Lib Jvm.Free Jvm.Stand Jvm.Pilot.@@N@@.Jvm.D
/-! MADE BY PROGRAM (witnessworld.py) out of the Statement's table words and the real class files: 9 classes; the members and pool entries that the words name. The judged class is class 1, her method 1. -/
namespace start1
open Jvm.ClassFile
def u (s : String) : CpInfo := .utf8 (stringToUtf16 s)
/-- a pool by its gaps: so many unusable entries, then the entry; so many at the end -/
def gap : Nat → List CpInfo → List CpInfo
  | 0, r => r
  | n + 1, r => .unusable :: gap n r
def poolList (es : List (Nat × CpInfo)) (last : Nat) : List CpInfo := es.foldr (fun e r => gap e.1 (e.2 :: r)) (gap last [])
def pool (es : List (Nat × CpInfo)) (last : Nat) : Array CpInfo := ⟨poolList es last⟩
def fileOf (pool : Array CpInfo) (this : Nat) (attrs : Array Attribute := #[]) (ms : Array MethodInfo := #[]) (fl : Nat := 33) (sup : Nat := 0) (ifs : Array Nat := #[]) (fds : Array FieldInfo := #[]) : ClassFile where
  minorVersion := 0
  majorVersion := 65
  constantPool := pool
  accessFlags := fl
  thisClass := this
  superClass := sup
  interfaces := ifs
  fields := fds
  methods := ms
  attributes := attrs
def plain (name : String) (sup : Option ClassId) : Class where
  name := name
  kind := .ordinary
  loader := none
  accessFlags := 33
  super := sup
  interfaces := #[]
  cf := none
  fields := #[]
  methods := #[]
  instanceTypes := #[]
  staticTypes := #[]
  resolved := #[]
  callSites := []
  init := .initialized
  statics := none
  mirror := none

def pool0 : Array CpInfo := pool [(5, u "<init>"), (0, u "()V"), (1, .class_ 10), (1, u "java/lang/Object")] 113

def k0m0 : Method := { name := "<init>", desc := "()V", sig := { parameters := [], returnType := none }, accessFlags := 1, code := none }
/-- java/lang/Object -/
def k0 : Class := { plain "java/lang/Object" none with
  accessFlags := 33
  interfaces := #[]
  cf := some (fileOf pool0 8 #[] #[{ accessFlags := 1, nameIndex := 5, descriptorIndex := 6, attributes := #[] }] 33 0 #[] #[])
  fields := #[]
  methods := #[k0m0]
  instanceTypes := #[]
  staticTypes := #[]
  resolved := Array.replicate 124 none
  statics := none }

def pool1 : Array CpInfo := pool [(2, .class_ 4), (1, u "java/lang/Object"), (0, u "<init>"), (0, u "()V"), (0, .integer 55295), (0, .integer 55296), (0, .integer 57343), (0, .integer 57344), (0, .integer 65533), (0, .integer 65534), (0, .integer 65535), (0, .integer 65536), (0, .integer 1114111), (0, .integer 1114112), (2, .integer 2147483648), (0, .integer 2147483647), (0, .methodref 22 23), (0, .class_ 24), (0, .nameAndType 25 26), (0, u "com/example/folha/folha/builder/XmlChars"), (0, u "isChar"), (0, u "(IZ)Z"), (0, .class_ 28), (0, u "com/example/folha/folha/builder/XmlCharsIsCharPinLaw"), (2, u "law"), (0, u "(III)Z")] 3

def k1m0 : Method := { name := "<init>", desc := "()V", sig := { parameters := [], returnType := none }, accessFlags := 2, code := none }
def k1c1 : Code := { maxStack := 4, maxLocals := 8, code := code, exceptionTable := #[], attributes := #[] }
def k1m1 : Method := { name := "law", desc := "(III)Z", sig := { parameters := [.int, .int, .int], returnType := some .boolean }, accessFlags := 9, code := some k1c1 }
/-- com/example/folha/folha/builder/XmlCharsIsCharPinLaw -/
def k1 : Class := { plain "com/example/folha/folha/builder/XmlCharsIsCharPinLaw" (some 0) with
  accessFlags := 49
  interfaces := #[]
  cf := some (fileOf pool1 27 #[] #[{ accessFlags := 2, nameIndex := 5, descriptorIndex := 6, attributes := #[] }, { accessFlags := 9, nameIndex := 31, descriptorIndex := 32, attributes := #[] }] 49 2 #[] #[])
  fields := #[]
  methods := #[k1m0, k1m1]
  instanceTypes := #[]
  staticTypes := #[]
  resolved := Array.replicate 36 none
  statics := none }

def pool2 : Array CpInfo := pool [(2, .class_ 4), (1, u "java/lang/Object"), (0, u "<init>"), (0, u "()V"), (0, .integer 55296), (0, .integer 57344), (2, .integer 1114111), (0, .integer 65534), (0, .integer 65535), (1, .class_ 17), (1, u "com/example/folha/folha/builder/XmlChars"), (0, u "isChar"), (0, u "(IZ)Z")] 16

def k2m0 : Method := { name := "<init>", desc := "()V", sig := { parameters := [], returnType := none }, accessFlags := 2, code := none }
def k2c1 : Code := { maxStack := 2, maxLocals := 3, code := prog_31_method_2_code, exceptionTable := #[], attributes := #[] }
def k2m1 : Method := { name := "isChar", desc := "(IZ)Z", sig := { parameters := [.int, .boolean], returnType := some .boolean }, accessFlags := 8, code := some k2c1 }
/-- com/example/folha/folha/builder/XmlChars -/
def k2 : Class := { plain "com/example/folha/folha/builder/XmlChars" (some 0) with
  accessFlags := 32
  interfaces := #[]
  cf := some (fileOf pool2 15 #[] #[{ accessFlags := 2, nameIndex := 5, descriptorIndex := 6, attributes := #[] }, { accessFlags := 8, nameIndex := 18, descriptorIndex := 19, attributes := #[] }] 32 2 #[] #[])
  fields := #[]
  methods := #[k2m0, k2m1]
  instanceTypes := #[]
  staticTypes := #[]
  resolved := Array.replicate 36 none
  statics := none }

def pool3 : Array CpInfo := pool [(1, u "java/lang/Cloneable"), (0, .class_ 1), (0, u "java/lang/Object"), (0, .class_ 3)] 3

/-- java/lang/Cloneable -/
def k3 : Class := { plain "java/lang/Cloneable" (some 0) with
  accessFlags := 1537
  interfaces := #[]
  cf := some (fileOf pool3 2 #[] #[] 1537 4 #[] #[])
  fields := #[]
  methods := #[]
  instanceTypes := #[]
  staticTypes := #[]
  resolved := Array.replicate 8 none
  statics := none }

def pool4 : Array CpInfo := pool [(1, u "java/io/Serializable"), (0, .class_ 1), (0, u "java/lang/Object"), (0, .class_ 3)] 3

/-- java/io/Serializable -/
def k4 : Class := { plain "java/io/Serializable" (some 0) with
  accessFlags := 1537
  interfaces := #[]
  cf := some (fileOf pool4 2 #[] #[] 1537 4 #[] #[])
  fields := #[]
  methods := #[]
  instanceTypes := #[]
  staticTypes := #[]
  resolved := Array.replicate 8 none
  statics := none }

/-- the primitive byte -/
def k5 : Class := { plain "byte" none with kind := .primitive 'B', accessFlags := 0x411 }
/-- [B -/
def k6 : Class := { plain "[B" (some 0) with kind := .array 5 .byte, interfaces := #[3, 4], accessFlags := 1041 }

/-- the primitive int -/
def k7 : Class := { plain "int" none with kind := .primitive 'I', accessFlags := 0x411 }
/-- [I -/
def k8 : Class := { plain "[I" (some 0) with kind := .array 7 .int, interfaces := #[3, 4], accessFlags := 1041 }

def heap : Heap := #[]
def classes : Array Class := #[k0, k1, k2, k3, k4, k5, k6, k7, k8]
def interned : List (Array UInt16 × Addr) := []
def slotsUsed : Nat := 0
def theMethod : MethodId := ⟨1, 1⟩
def args0 : Array Value := #[.int 5, .int 7, .int 3]
def aboutOver (below : List Frame) : State where
  vm := { classes := classes, interned := interned.toArray }
  heap := heap
  slotsUsed := slotsUsed
  threads := #[{ frames := .invoking theMethod args0 :: below }]
def below0 : List Frame := [.native { method := ⟨0, 0⟩, args := #[] }]
def about1 : State := aboutOver below0
def p0 : Program := .bare "" "" ""
def e0 : Env := launch0.env 0 0 0
theorem w_frames : about1.frames = Frame.invoking theMethod args0 :: below0 := rfl
set_option maxRecDepth 65536 in
theorem w_args : argsFit about1.vm theMethod args0 = true := by decide +kernel
set_option maxRecDepth 65536 in
theorem w_heap : heapFits about1 = true := by decide +kernel
set_option maxRecDepth 65536 in
theorem w_runnable : about1.curStatus? = some .runnable := by decide +kernel
set_option maxRecDepth 65536 in
theorem w_alone : about1.alone = true := by decide +kernel
set_option maxRecDepth 65536 in
theorem w_named : about1.methodNamed? x = some theMethod := by decide +kernel
set_option maxRecDepth 65536 in
theorem w_hears : about1.hears theMethod below0 = true := by decide +kernel
set_option maxRecDepth 65536 in
theorem w_ripe : about1.ripe theMethod args0 below0 = true := by decide +kernel
theorem w_running : about1.status = .running := rfl
set_option maxRecDepth 65536 in
theorem w_room : about1.hasRoom e0.platform room_1 = true :=
  launch0.hasRoom_least _ room_1 (by decide +kernel) (by decide +kernel) (by decide +kernel) (by decide +kernel) (by decide +kernel) (by decide +kernel)
theorem allAtoms_all (ts : List Jvm.Cond) (a : Array Jvm.Value) (st : Jvm.State) : (allAtoms ts).before a st = ts.all (fun c => c.before a st) := by
  induction ts with
  | nil => rfl
  | cons c t ih =>
    show (Jvm.Cond.and c (allAtoms t)).before a st = _
    rw [Jvm.Cond.before_and, ih, List.all_cons]
def words1 : List Jvm.Cond := Jvm.Cond.code x code maxLocals ret :: tables_1
/-- a 'code' word, met by the world's own term for the bytes: nothing is compared byte by byte -/
theorem code_word {y : MethodName} {bytes : ByteArray} {mx : Nat} {rt : Option FieldType} {a : Array Value} {s : State} {m : MethodId} {meth : Method} {c : Code} (h1 : s.methodNamed? y = some m) (h2 : s.vm.method? m = some meth) (h3 : meth.code = some c) (h4 : c.code = bytes)
    (h5 : (c.maxLocals == mx && c.exceptionTable.isEmpty && decide (c.maxStack ≤ mostOperands) && decide (meth.sig.returnType = rt) && !meth.locks && decide (parseMethodDescriptor y.desc = some meth.sig)) = true) : (Jvm.Cond.code y bytes mx rt).before a s = true := by
  simp only [Bool.and_eq_true, beq_iff_eq, Bool.not_eq_true', decide_eq_true_eq] at h5
  obtain ⟨⟨⟨⟨⟨g1, g2⟩, g3⟩, g4⟩, g5⟩, g6⟩ := h5
  simp [Cond.before, Cond.holds, Cond.value, h1, h2, h3, h4, g1, g2, g3, g4, g5, g6]
def isCode : Jvm.Cond → Bool
  | .code _ _ _ _ => true
  | _ => false
theorem all_split {L : List Jvm.Cond} {P : Jvm.Cond → Bool} (h1 : L.all (fun c => isCode c || P c) = true) (h2 : ∀ c ∈ L.filter isCode, P c = true) : L.all P = true := by
  refine List.all_eq_true.mpr fun c hc => ?_
  have h := List.all_eq_true.mp h1 c hc
  rcases Bool.eq_false_or_eq_true (isCode c) with hi | hi
  · exact h2 c (List.mem_filter.mpr ⟨hc, hi⟩)
  · simpa [hi] using h
set_option maxRecDepth 65536 in
theorem w_c0 : (Jvm.Cond.code x code maxLocals ret).before args0 about1 = true := code_word (m := ⟨1, 1⟩) (meth := k1m1) (c := k1c1) (by decide +kernel) rfl rfl rfl (by decide +kernel)
set_option maxRecDepth 65536 in
theorem w_c1 : (Jvm.Cond.code ({ cls := "com/example/folha/folha/builder/XmlChars", name := "isChar", desc := "(IZ)Z" } : Jvm.MethodName) prog_31_method_2_code (3 : Nat) (Option.some Jvm.ClassFile.FieldType.boolean)).before args0 about1 = true := code_word (m := ⟨2, 1⟩) (meth := k2m1) (c := k2c1) (by decide +kernel) rfl rfl rfl (by decide +kernel)
def codes1 : List Jvm.Cond := [Jvm.Cond.code x code maxLocals ret, Jvm.Cond.code ({ cls := "com/example/folha/folha/builder/XmlChars", name := "isChar", desc := "(IZ)Z" } : Jvm.MethodName) prog_31_method_2_code (3 : Nat) (Option.some Jvm.ClassFile.FieldType.boolean)]
set_option maxRecDepth 65536 in
theorem codes_eq : words1.filter isCode = codes1 := rfl
theorem w_codes : ∀ c ∈ words1.filter isCode, c.before args0 about1 = true := by
  rw [codes_eq]
  intro c hc
  simp only [codes1, List.mem_cons, List.not_mem_nil, or_false] at hc
  rcases hc with rfl | rfl
  · exact w_c0
  · exact w_c1
set_option maxRecDepth 65536 in
theorem w_t1 : words1.all (fun c => isCode c || c.before args0 about1) = true := by decide +kernel
theorem w_tables : (allAtoms (Jvm.Cond.code x code maxLocals ret :: tables_1)).before args0 about1 = true := by
  rw [allAtoms_all]
  show words1.all (fun c => c.before args0 about1) = true
  refine all_split ?_ w_codes
  rw [w_t1]
set_option maxRecDepth 65536 in
theorem w_case : (Jvm.Cond.and given_1 narrow_1).before args0 about1 = true := by decide +kernel
theorem w_applies : (headSpec (Jvm.Cond.code x code maxLocals ret :: tables_1) room_1).applies x e0.platform about1 = true :=
  (Spec.applies_iff w_frames).mpr ⟨w_running, w_runnable, w_alone, w_named, w_hears, w_ripe, w_room, w_tables⟩
theorem atStart : AtStart classFile x code maxLocals ret World_1 tables_1 room_1 Calls_1 rest_1 Pre_1 launch0 p0 e0 about1 theMethod args0 below0 :=
  ⟨lists_1, trivial, launch0.admits_env _ _ _, launch0.least_env, fairChoices_fair.cas, fairChoices_fair.clock, w_frames, w_args, w_heap, w_applies, trivial, trivial, w_case⟩
end start1
theorem witness_1 : WitnessClaimed_1 := ⟨start1.p0, start1.e0, start1.about1, start1.theMethod, start1.args0, start1.below0, start1.atStart⟩
end Jvm.Pilot.@@N@@
