import JvmDerived
import JvmDerived.Pilot.@@N@@Statement
import JvmDerived.Pilot.@@N@@Code
set_option linter.unusedVariables false
set_option linter.unusedSimpArgs false
namespace Jvm.RoadKit
open Sem ClassFile Op Lib Jvm.Stand Jvm.Free Jvm.LawKit
section New
variable {p : Program} {l : Launch} {e : Env} {R : Room} {s : State} {m : MethodId} {args : Array Value} {below : List Frame} {meth : Method} {c : Code} {T : State} {locs : List Loc} {cells slots : Nat}
theorem retI (X : Stand p l e R s m args below meth c T locs cells slots) (hx : p.tables.exec = Jvm.exec) {pc : Nat} {Ls : Array Slot} {z : Int32} {rest : List Value} (hret : meth.sig.returnType = some .int) (hd : decode c.code pc = .ok (.ireturn, 1)) {fs : List Frame}
    (hl : ∀ (f : JFrame) (acts : List Action), f.method = m → f.locked = none → f.entered = [] → (doReturn e (T.setTop f) acts (some (.int z))).1 = T.setFrames fs) : Steps p.tables e below (T.setTop (mkF m pc Ls (.int z :: rest))) (T.setFrames fs) := by
  have hm' : T.vm.method? m = some meth := X.method'
  have hn : narrow .int (.int z) = .int z := rfl
  show Steps p.tables e below (T.setTop { method := m, pc := pc, locals := Ls, stack := _ :: rest, locked := none }) _
  jvm_step X.here [X.here.top, hx, hd, hm', hret, hn]
  first | (intro acts; rw [hl _ acts rfl rfl rfl]) | rw [hl _ _ rfl rfl rfl]
  exact Steps.refl _
end New
end Jvm.RoadKit
namespace Jvm.Pilot.@@N@@
open Jvm Jvm.ClassFile Sem Op Lib Jvm.Free Jvm.Stand Jvm.LawKit Jvm.RoadKit Bundle Jvm.Pilot.@@N@@.Jvm.D
open Jvm.Free.XT (ushr ushrL cmpL)
section GoKit
open Jvm.Free.XT (ushr ushrL cmpL)
variable {p : Program} {l : Launch} {e : Env} {R : Room} {s : State} {m : MethodId} {args : Array Value} {below : List Frame} {meth : Method} {c : Code} {T : State} {locs : List Loc} {cells slots : Nat} {Q : Option Value → Heap → List Loc → Prop} {rc rs : Nat} {Fi : Outcome → State → Prop} {bytes : ByteArray} {pc pc' : Nat} {Ls : Array Slot} {rest : List Value}
def GoE (p : Program) (e : Env) (below : List Frame) (Fi : Outcome → State → Prop) (S : State) : Prop :=
  ∃ t o, Steps p.tables e below S t ∧ t.status = .running ∧ Ended t below o ∧ Fi o t
abbrev Go (p : Program) (e : Env) (below : List Frame) (s : State) (rc rs : Nat) (Q : Option Value → Heap → List Loc → Prop) (S : State) : Prop :=
  GoE p e below (fun o t => ∃ v L, o = .returned v ∧ Q v t.heap L ∧ FrameEnd s o t L rc rs) S
theorem GoE.pull {a b : State} (h : GoE p e below Fi b) (f : ∀ t, Steps p.tables e below b t → Steps p.tables e below a t) : GoE p e below Fi a := by
  obtain ⟨t, o, h1, h2⟩ := h
  exact ⟨t, o, f t h1, h2⟩
theorem GoE.imp {Fi' : Outcome → State → Prop} {a : State} (h : GoE p e below Fi a) (f : ∀ o t, Fi o t → Fi' o t) : GoE p e below Fi' a := by
  obtain ⟨t, o, h1, h2, h3, h4⟩ := h
  exact ⟨t, o, h1, h2, h3, f _ _ h4⟩
def Ctr (l : Launch) (Z : State) (y : MethodName) (bytes : ByteArray) (ml : Nat) (ret : Option FieldType) (ws : List Jvm.Cond) (rm : Room) (as : Array Value) (h0 : Heap) (Q : Option Value → Heap → List Loc → Prop) : Prop :=
  MetFree l y (head1 (Jvm.Cond.code y bytes ml ret :: ws) rm) (fun a U => a = as ∧ Z.Warmed39 U.vm ∧ U.heap = h0) (fun _ _ _ _ _ => True) (fun _ U o U' => ∃ v L, o = .returned v ∧ Q v U'.heap L ∧ FrameEnd U o U' L rm.cells rm.slots)
theorem Ctr.enter {Z : State} {y : MethodName} {ml : Nat} {ret : Option FieldType} {ws : List Jvm.Cond} {rm : Room} {as : Array Value} {h0 : Heap} (hpl : plainFor y = true) (hef : ∀ m, entryFrame m as ml = mkF m 0 Ls [])
    (body : ∀ (p : Program) (e : Env) (s : State) (m : MethodId) (below : List Frame) (meth : Method) (c : Code) (T : State), p.tables.exec = Jvm.exec → c.code = bytes → c.maxLocals = ml → s.vm.findClass y.cls = some m.cls → meth.name = y.name → meth.sig.returnType = ret → meth.locks = false → Z.Warmed39 s.vm → s.heap = h0 →
      Stand p l e rm s m as below meth c T [] 0 0 → T.heap = h0 → Go p e below s rm.cells rm.slots Q (T.setTop (mkF m 0 Ls []))) : Ctr l Z y bytes ml ret ws rm as h0 Q := by
  refine MetFree.of_bodySF hpl hisR ?_
  intro p e s m args below meth c s₁ Bd hml0 hP hK
  obtain ⟨rfl, hZ, hh⟩ := hP
  have h := body p e s m below meth c s₁ Bd.exec Bd.bytes hml0 (findClass_of_methodNamed Bd.named) (name_of_methodNamed Bd.named Bd.method).1 Bd.returns (BodyLoose.notSynchronized Bd) hZ hh (Stand.of_body Bd) (by rw [← hh, Bd.state]; rfl)
  exact h.pull fun t k => castTop (hef m) k
theorem Ctr.imp {Z : State} {y : MethodName} {ml : Nat} {ret : Option FieldType} {ws : List Jvm.Cond} {rm : Room} {as : Array Value} {h0 : Heap} {Q' : Option Value → Heap → List Loc → Prop} (C : Ctr l Z y bytes ml ret ws rm as h0 Q) (f : ∀ v h L, Q v h L → Q' v h L) : Ctr l Z y bytes ml ret ws rm as h0 Q' := by
  intro p e ha hc hk s m args below hf happ hP hK
  obtain ⟨n, o, h1, h2, h3, v, L, h4, h5, h6⟩ := C p e ha hc hk s m args below hf happ hP hK
  exact ⟨n, o, h1, h2, h3, v, L, h4, f _ _ _ h5, h6⟩
theorem g_iload (X : Stand p l e R s m args below meth c T locs cells slots) (hx : p.tables.exec = Jvm.exec) {k : Nat} {v : Int32} (hby : c.code = bytes) (hd : decode bytes pc = .ok (.iload k, 2)) (hp : pc + 2 = pc') (hl : Ls[k]? = some (.val (.int v)))
    (H : GoE p e below Fi (T.setTop (mkF m pc' Ls (.int v :: rest)))) : GoE p e below Fi (T.setTop (mkF m pc Ls rest)) := by
  subst hp; exact H.pull fun t k => Jvm.Free.XS.iload X.here hx rfl (hb hby hd) hl k
theorem g_iloadN (X : Stand p l e R s m args below meth c T locs cells slots) (hx : p.tables.exec = Jvm.exec) {k : Fin 4} {v : Int32} (hby : c.code = bytes) (hd : decode bytes pc = .ok (.iload_n k, 1)) (hp : pc + 1 = pc') (hl : Ls[k.val]? = some (.val (.int v)))
    (H : GoE p e below Fi (T.setTop (mkF m pc' Ls (.int v :: rest)))) : GoE p e below Fi (T.setTop (mkF m pc Ls rest)) := by
  subst hp; exact H.pull fun t k => Jvm.Free.XS.iloadN X.here hx rfl (hb hby hd) hl k
theorem g_istore (X : Stand p l e R s m args below meth c T locs cells slots) (hx : p.tables.exec = Jvm.exec) {k : Nat} {x : Int32} {l' : Array Slot} (hby : c.code = bytes) (hd : decode bytes pc = .ok (.istore k, 2)) (hp : pc + 2 = pc') (hl : storeLocals Ls k (.int x) = some l')
    (H : GoE p e below Fi (T.setTop (mkF m pc' l' rest))) : GoE p e below Fi (T.setTop (mkF m pc Ls (.int x :: rest))) := by
  subst hp; exact H.pull fun t k => Jvm.Free.XS.istore X.here hx rfl (hb hby hd) rfl hl k
theorem g_istoreN (X : Stand p l e R s m args below meth c T locs cells slots) (hx : p.tables.exec = Jvm.exec) {k : Fin 4} {x : Int32} {l' : Array Slot} (hby : c.code = bytes) (hd : decode bytes pc = .ok (.istore_n k, 1)) (hp : pc + 1 = pc') (hl : storeLocals Ls k.val (.int x) = some l')
    (H : GoE p e below Fi (T.setTop (mkF m pc' l' rest))) : GoE p e below Fi (T.setTop (mkF m pc Ls (.int x :: rest))) := by
  subst hp; exact H.pull fun t k => Jvm.Free.XS.istoreN X.here hx rfl (hb hby hd) rfl hl k
theorem g_lload (X : Stand p l e R s m args below meth c T locs cells slots) (hx : p.tables.exec = Jvm.exec) {k : Nat} {v : Int64} (hby : c.code = bytes) (hd : decode bytes pc = .ok (.lload k, 2)) (hp : pc + 2 = pc') (hl : Ls[k]? = some (.val (.long v)))
    (H : GoE p e below Fi (T.setTop (mkF m pc' Ls (.long v :: rest)))) : GoE p e below Fi (T.setTop (mkF m pc Ls rest)) := by
  subst hp; exact H.pull fun t k => Jvm.Free.XT.lload X.here hx rfl (hb hby hd) hl k
theorem g_lloadN (X : Stand p l e R s m args below meth c T locs cells slots) (hx : p.tables.exec = Jvm.exec) {k : Fin 4} {v : Int64} (hby : c.code = bytes) (hd : decode bytes pc = .ok (.lload_n k, 1)) (hp : pc + 1 = pc') (hl : Ls[k.val]? = some (.val (.long v)))
    (H : GoE p e below Fi (T.setTop (mkF m pc' Ls (.long v :: rest)))) : GoE p e below Fi (T.setTop (mkF m pc Ls rest)) := by
  subst hp; exact H.pull fun t k => Jvm.Free.XT.lloadN X.here hx rfl (hb hby hd) hl k
theorem g_lstore (X : Stand p l e R s m args below meth c T locs cells slots) (hx : p.tables.exec = Jvm.exec) {k : Nat} {x : Int64} {l' : Array Slot} (hby : c.code = bytes) (hd : decode bytes pc = .ok (.lstore k, 2)) (hp : pc + 2 = pc') (hl : storeLocals Ls k (.long x) = some l')
    (H : GoE p e below Fi (T.setTop (mkF m pc' l' rest))) : GoE p e below Fi (T.setTop (mkF m pc Ls (.long x :: rest))) := by
  subst hp; exact H.pull fun t k => Jvm.Free.XT.lstore X.here hx rfl (hb hby hd) rfl hl k
theorem g_lstoreN (X : Stand p l e R s m args below meth c T locs cells slots) (hx : p.tables.exec = Jvm.exec) {k : Fin 4} {x : Int64} {l' : Array Slot} (hby : c.code = bytes) (hd : decode bytes pc = .ok (.lstore_n k, 1)) (hp : pc + 1 = pc') (hl : storeLocals Ls k.val (.long x) = some l')
    (H : GoE p e below Fi (T.setTop (mkF m pc' l' rest))) : GoE p e below Fi (T.setTop (mkF m pc Ls (.long x :: rest))) := by
  subst hp; exact H.pull fun t k => Jvm.Free.XT.lstoreN X.here hx rfl (hb hby hd) rfl hl k
theorem g_dload (X : Stand p l e R s m args below meth c T locs cells slots) (hx : p.tables.exec = Jvm.exec) {k : Nat} {v : UInt64} (hby : c.code = bytes) (hd : decode bytes pc = .ok (.dload k, 2)) (hp : pc + 2 = pc') (hl : Ls[k]? = some (.val (.double v)))
    (H : GoE p e below Fi (T.setTop (mkF m pc' Ls (.double v :: rest)))) : GoE p e below Fi (T.setTop (mkF m pc Ls rest)) := by
  subst hp; exact H.pull fun t k => Jvm.Free.XS.dload X.here hx rfl (hb hby hd) hl k
theorem g_dloadN (X : Stand p l e R s m args below meth c T locs cells slots) (hx : p.tables.exec = Jvm.exec) {k : Fin 4} {v : UInt64} (hby : c.code = bytes) (hd : decode bytes pc = .ok (.dload_n k, 1)) (hp : pc + 1 = pc') (hl : Ls[k.val]? = some (.val (.double v)))
    (H : GoE p e below Fi (T.setTop (mkF m pc' Ls (.double v :: rest)))) : GoE p e below Fi (T.setTop (mkF m pc Ls rest)) := by
  subst hp; exact H.pull fun t k => Jvm.Free.XS.dloadN X.here hx rfl (hb hby hd) hl k
theorem g_dstore (X : Stand p l e R s m args below meth c T locs cells slots) (hx : p.tables.exec = Jvm.exec) {k : Nat} {x : UInt64} {l' : Array Slot} (hby : c.code = bytes) (hd : decode bytes pc = .ok (.dstore k, 2)) (hp : pc + 2 = pc') (hl : storeLocals Ls k (.double x) = some l')
    (H : GoE p e below Fi (T.setTop (mkF m pc' l' rest))) : GoE p e below Fi (T.setTop (mkF m pc Ls (.double x :: rest))) := by
  subst hp; exact H.pull fun t k => Jvm.Free.XS.dstore X.here hx rfl (hb hby hd) rfl hl k
theorem g_dstoreN (X : Stand p l e R s m args below meth c T locs cells slots) (hx : p.tables.exec = Jvm.exec) {k : Fin 4} {x : UInt64} {l' : Array Slot} (hby : c.code = bytes) (hd : decode bytes pc = .ok (.dstore_n k, 1)) (hp : pc + 1 = pc') (hl : storeLocals Ls k.val (.double x) = some l')
    (H : GoE p e below Fi (T.setTop (mkF m pc' l' rest))) : GoE p e below Fi (T.setTop (mkF m pc Ls (.double x :: rest))) := by
  subst hp; exact H.pull fun t k => Jvm.Free.XS.dstoreN X.here hx rfl (hb hby hd) rfl hl k
theorem g_aload (X : Stand p l e R s m args below meth c T locs cells slots) (hx : p.tables.exec = Jvm.exec) {k : Nat} {v : Value} (hby : c.code = bytes) (hd : decode bytes pc = .ok (.aload k, 2)) (hp : pc + 2 = pc') (hl : Ls[k]? = some (.val v)) (hv : v.isRef = true)
    (H : GoE p e below Fi (T.setTop (mkF m pc' Ls (v :: rest)))) : GoE p e below Fi (T.setTop (mkF m pc Ls rest)) := by
  subst hp; exact H.pull fun t k => Jvm.Free.XS.aload X.here hx rfl (hb hby hd) hl hv k
theorem g_aloadN (X : Stand p l e R s m args below meth c T locs cells slots) (hx : p.tables.exec = Jvm.exec) {k : Fin 4} {v : Value} (hby : c.code = bytes) (hd : decode bytes pc = .ok (.aload_n k, 1)) (hp : pc + 1 = pc') (hl : Ls[k.val]? = some (.val v)) (hv : v.isRef = true)
    (H : GoE p e below Fi (T.setTop (mkF m pc' Ls (v :: rest)))) : GoE p e below Fi (T.setTop (mkF m pc Ls rest)) := by
  subst hp; exact H.pull fun t k => Jvm.Free.XS.aloadN X.here hx rfl (hb hby hd) hl hv k
theorem g_astore (X : Stand p l e R s m args below meth c T locs cells slots) (hx : p.tables.exec = Jvm.exec) {k : Nat} {x : Value} {l' : Array Slot} (hby : c.code = bytes) (hd : decode bytes pc = .ok (.astore k, 2)) (hp : pc + 2 = pc') (hv : x.isRef = true) (hl : storeLocals Ls k x = some l')
    (H : GoE p e below Fi (T.setTop (mkF m pc' l' rest))) : GoE p e below Fi (T.setTop (mkF m pc Ls (x :: rest))) := by
  subst hp; exact H.pull fun t k => Jvm.Free.XS.astore X.here hx rfl (hb hby hd) rfl hv hl k
theorem g_astoreN (X : Stand p l e R s m args below meth c T locs cells slots) (hx : p.tables.exec = Jvm.exec) {k : Fin 4} {x : Value} {l' : Array Slot} (hby : c.code = bytes) (hd : decode bytes pc = .ok (.astore_n k, 1)) (hp : pc + 1 = pc') (hv : x.isRef = true) (hl : storeLocals Ls k.val x = some l')
    (H : GoE p e below Fi (T.setTop (mkF m pc' l' rest))) : GoE p e below Fi (T.setTop (mkF m pc Ls (x :: rest))) := by
  subst hp; exact H.pull fun t k => Jvm.Free.XS.astoreN X.here hx rfl (hb hby hd) rfl hv hl k
theorem g_iconst (X : Stand p l e R s m args below meth c T locs cells slots) (hx : p.tables.exec = Jvm.exec) {i : Int} {z : Int32} (hby : c.code = bytes) (hd : decode bytes pc = .ok (.iconst i, 1)) (hp : pc + 1 = pc') (hz : z = Int32.ofInt i)
    (H : GoE p e below Fi (T.setTop (mkF m pc' Ls (.int z :: rest)))) : GoE p e below Fi (T.setTop (mkF m pc Ls rest)) := by
  subst hp; exact H.pull fun t k => Jvm.Free.XS.iconst X.here hx rfl (hb hby hd) (hz ▸ k)
theorem g_bipush (X : Stand p l e R s m args below meth c T locs cells slots) (hx : p.tables.exec = Jvm.exec) {i : Int} {z : Int32} (hby : c.code = bytes) (hd : decode bytes pc = .ok (.bipush i, 2)) (hp : pc + 2 = pc') (hz : z = (Int8.ofInt i).toInt32)
    (H : GoE p e below Fi (T.setTop (mkF m pc' Ls (.int z :: rest)))) : GoE p e below Fi (T.setTop (mkF m pc Ls rest)) := by
  subst hp; exact H.pull fun t k => Jvm.Free.XS.bipush X.here hx rfl (hb hby hd) (hz ▸ k)
theorem g_sipush (X : Stand p l e R s m args below meth c T locs cells slots) (hx : p.tables.exec = Jvm.exec) {i : Int} {z : Int32} (hby : c.code = bytes) (hd : decode bytes pc = .ok (.sipush i, 3)) (hp : pc + 3 = pc') (hz : z = (Int16.ofInt i).toInt32)
    (H : GoE p e below Fi (T.setTop (mkF m pc' Ls (.int z :: rest)))) : GoE p e below Fi (T.setTop (mkF m pc Ls rest)) := by
  subst hp; exact H.pull fun t k => Jvm.Free.XS.sipush X.here hx rfl (hb hby hd) (hz ▸ k)
theorem g_lconst (X : Stand p l e R s m args below meth c T locs cells slots) (hx : p.tables.exec = Jvm.exec) {i : Fin 2} {z : Int64} (hby : c.code = bytes) (hd : decode bytes pc = .ok (.lconst i, 1)) (hp : pc + 1 = pc') (hz : z = Int64.ofNat i)
    (H : GoE p e below Fi (T.setTop (mkF m pc' Ls (.long z :: rest)))) : GoE p e below Fi (T.setTop (mkF m pc Ls rest)) := by
  subst hp; exact H.pull fun t k => Jvm.Free.XT.lconst X.here hx rfl (hb hby hd) (hz ▸ k)
theorem g_aconstNull (X : Stand p l e R s m args below meth c T locs cells slots) (hx : p.tables.exec = Jvm.exec)  (hby : c.code = bytes) (hd : decode bytes pc = .ok (.aconst_null, 1)) (hp : pc + 1 = pc') 
    (H : GoE p e below Fi (T.setTop (mkF m pc' Ls (.null :: rest)))) : GoE p e below Fi (T.setTop (mkF m pc Ls rest)) := by
  subst hp; exact H.pull fun t k => Jvm.Free.XS.aconstNull X.here hx rfl (hb hby hd) k
theorem g_ldcI (X : Stand p l e R s m args below meth c T locs cells slots) (hx : p.tables.exec = Jvm.exec) {Z : State} {a0 : Array Value} (hZ : Z.Warmed39 s.vm) {own : String} (hown : s.vm.findClass own = some m.cls) {index : Nat} {v : Int32} (hby : c.code = bytes) (hd : decode bytes pc = .ok (.ldc index, 2)) (hp : pc + 2 = pc') (w : (Jvm.Cond.constant own index v).before a0 Z = true)
    (H : GoE p e below Fi (T.setTop (mkF m pc' Ls (.int v :: rest)))) : GoE p e below Fi (T.setTop (mkF m pc Ls rest)) := by
  subst hp; exact H.pull fun t k => X.ldcInt hx hown (mvT hZ w) (g := mkF m pc Ls rest) rfl (hb hby hd) _ k
theorem g_ldcL (X : Stand p l e R s m args below meth c T locs cells slots) (hx : p.tables.exec = Jvm.exec) {Z : State} {a0 : Array Value} (hZ : Z.Warmed39 s.vm) {own : String} (hown : s.vm.findClass own = some m.cls) {index : Nat} {v : Int64} (hby : c.code = bytes) (hd : decode bytes pc = .ok (.ldc2_w index, 3)) (hp : pc + 3 = pc') (w : (Jvm.Cond.constantLong own index v).before a0 Z = true)
    (H : GoE p e below Fi (T.setTop (mkF m pc' Ls (.long v :: rest)))) : GoE p e below Fi (T.setTop (mkF m pc Ls rest)) := by
  subst hp; exact H.pull fun t k => X.ldc2Long hx hown (mvT hZ w) (g := mkF m pc Ls rest) rfl (hb hby hd) _ k
theorem g_ldcD (X : Stand p l e R s m args below meth c T locs cells slots) (hx : p.tables.exec = Jvm.exec) {Z : State} {a0 : Array Value} (hZ : Z.Warmed39 s.vm) {own : String} (hown : s.vm.findClass own = some m.cls) {index : Nat} {v : UInt64} (hby : c.code = bytes) (hd : decode bytes pc = .ok (.ldc2_w index, 3)) (hp : pc + 3 = pc') (w : (Jvm.Cond.constantDouble own index v).before a0 Z = true)
    (H : GoE p e below Fi (T.setTop (mkF m pc' Ls (.double v :: rest)))) : GoE p e below Fi (T.setTop (mkF m pc Ls rest)) := by
  subst hp; exact H.pull fun t k => X.ldc2DoubleC hx hown (mvT hZ w) (g := mkF m pc Ls rest) rfl (hb hby hd) _ k
theorem g_iadd (X : Stand p l e R s m args below meth c T locs cells slots) (hx : p.tables.exec = Jvm.exec) {x y : Int32} (hby : c.code = bytes) (hd : decode bytes pc = .ok (.iadd, 1)) (hp : pc + 1 = pc') 
    (H : GoE p e below Fi (T.setTop (mkF m pc' Ls (.int (x + y) :: rest)))) : GoE p e below Fi (T.setTop (mkF m pc Ls (.int y :: .int x :: rest))) := by
  subst hp; exact H.pull fun t k => Jvm.Free.XS.iadd X.here hx rfl (hb hby hd) rfl k
theorem g_isub (X : Stand p l e R s m args below meth c T locs cells slots) (hx : p.tables.exec = Jvm.exec) {x y : Int32} (hby : c.code = bytes) (hd : decode bytes pc = .ok (.isub, 1)) (hp : pc + 1 = pc') 
    (H : GoE p e below Fi (T.setTop (mkF m pc' Ls (.int (x - y) :: rest)))) : GoE p e below Fi (T.setTop (mkF m pc Ls (.int y :: .int x :: rest))) := by
  subst hp; exact H.pull fun t k => Jvm.Free.XS.isub X.here hx rfl (hb hby hd) rfl k
theorem g_imul (X : Stand p l e R s m args below meth c T locs cells slots) (hx : p.tables.exec = Jvm.exec) {x y : Int32} (hby : c.code = bytes) (hd : decode bytes pc = .ok (.imul, 1)) (hp : pc + 1 = pc') 
    (H : GoE p e below Fi (T.setTop (mkF m pc' Ls (.int (x * y) :: rest)))) : GoE p e below Fi (T.setTop (mkF m pc Ls (.int y :: .int x :: rest))) := by
  subst hp; exact H.pull fun t k => Jvm.Free.XS.imul X.here hx rfl (hb hby hd) rfl k
theorem g_iand (X : Stand p l e R s m args below meth c T locs cells slots) (hx : p.tables.exec = Jvm.exec) {x y : Int32} (hby : c.code = bytes) (hd : decode bytes pc = .ok (.iand, 1)) (hp : pc + 1 = pc') 
    (H : GoE p e below Fi (T.setTop (mkF m pc' Ls (.int (x &&& y) :: rest)))) : GoE p e below Fi (T.setTop (mkF m pc Ls (.int y :: .int x :: rest))) := by
  subst hp; exact H.pull fun t k => Jvm.Free.XS.iand X.here hx rfl (hb hby hd) rfl k
theorem g_ior (X : Stand p l e R s m args below meth c T locs cells slots) (hx : p.tables.exec = Jvm.exec) {x y : Int32} (hby : c.code = bytes) (hd : decode bytes pc = .ok (.ior, 1)) (hp : pc + 1 = pc') 
    (H : GoE p e below Fi (T.setTop (mkF m pc' Ls (.int (x ||| y) :: rest)))) : GoE p e below Fi (T.setTop (mkF m pc Ls (.int y :: .int x :: rest))) := by
  subst hp; exact H.pull fun t k => Jvm.Free.XT.ior X.here hx rfl (hb hby hd) rfl k
theorem g_ixor (X : Stand p l e R s m args below meth c T locs cells slots) (hx : p.tables.exec = Jvm.exec) {x y : Int32} (hby : c.code = bytes) (hd : decode bytes pc = .ok (.ixor, 1)) (hp : pc + 1 = pc') 
    (H : GoE p e below Fi (T.setTop (mkF m pc' Ls (.int (x ^^^ y) :: rest)))) : GoE p e below Fi (T.setTop (mkF m pc Ls (.int y :: .int x :: rest))) := by
  subst hp; exact H.pull fun t k => Jvm.Free.XT.ixor X.here hx rfl (hb hby hd) rfl k
theorem g_ishl (X : Stand p l e R s m args below meth c T locs cells slots) (hx : p.tables.exec = Jvm.exec) {x y : Int32} (hby : c.code = bytes) (hd : decode bytes pc = .ok (.ishl, 1)) (hp : pc + 1 = pc') 
    (H : GoE p e below Fi (T.setTop (mkF m pc' Ls (.int (x <<< (y &&& 31)) :: rest)))) : GoE p e below Fi (T.setTop (mkF m pc Ls (.int y :: .int x :: rest))) := by
  subst hp; exact H.pull fun t k => Jvm.Free.XT.ishl X.here hx rfl (hb hby hd) rfl k
theorem g_ishr (X : Stand p l e R s m args below meth c T locs cells slots) (hx : p.tables.exec = Jvm.exec) {x y : Int32} (hby : c.code = bytes) (hd : decode bytes pc = .ok (.ishr, 1)) (hp : pc + 1 = pc') 
    (H : GoE p e below Fi (T.setTop (mkF m pc' Ls (.int (x >>> (y &&& 31)) :: rest)))) : GoE p e below Fi (T.setTop (mkF m pc Ls (.int y :: .int x :: rest))) := by
  subst hp; exact H.pull fun t k => Jvm.Free.XT.ishr X.here hx rfl (hb hby hd) rfl k
theorem g_iushr (X : Stand p l e R s m args below meth c T locs cells slots) (hx : p.tables.exec = Jvm.exec) {x y : Int32} (hby : c.code = bytes) (hd : decode bytes pc = .ok (.iushr, 1)) (hp : pc + 1 = pc') 
    (H : GoE p e below Fi (T.setTop (mkF m pc' Ls (.int (ushr x y) :: rest)))) : GoE p e below Fi (T.setTop (mkF m pc Ls (.int y :: .int x :: rest))) := by
  subst hp; exact H.pull fun t k => Jvm.Free.XT.iushr X.here hx rfl (hb hby hd) rfl k
theorem g_idiv (X : Stand p l e R s m args below meth c T locs cells slots) (hx : p.tables.exec = Jvm.exec) {x y : Int32} (hby : c.code = bytes) (hd : decode bytes pc = .ok (.idiv, 1)) (hp : pc + 1 = pc') (hy : y ≠ 0)
    (H : GoE p e below Fi (T.setTop (mkF m pc' Ls (.int (x / y) :: rest)))) : GoE p e below Fi (T.setTop (mkF m pc Ls (.int y :: .int x :: rest))) := by
  subst hp; exact H.pull fun t k => Jvm.Free.XS.idiv X.here hx rfl (hb hby hd) rfl hy k
theorem g_irem (X : Stand p l e R s m args below meth c T locs cells slots) (hx : p.tables.exec = Jvm.exec) {x y : Int32} (hby : c.code = bytes) (hd : decode bytes pc = .ok (.irem, 1)) (hp : pc + 1 = pc') (hy : y ≠ 0)
    (H : GoE p e below Fi (T.setTop (mkF m pc' Ls (.int (x - (x / y) * y) :: rest)))) : GoE p e below Fi (T.setTop (mkF m pc Ls (.int y :: .int x :: rest))) := by
  subst hp; exact H.pull fun t k => Jvm.Free.XS.irem X.here hx rfl (hb hby hd) rfl hy k
theorem g_ineg (X : Stand p l e R s m args below meth c T locs cells slots) (hx : p.tables.exec = Jvm.exec) {x : Int32} (hby : c.code = bytes) (hd : decode bytes pc = .ok (.ineg, 1)) (hp : pc + 1 = pc') 
    (H : GoE p e below Fi (T.setTop (mkF m pc' Ls (.int (-x) :: rest)))) : GoE p e below Fi (T.setTop (mkF m pc Ls (.int x :: rest))) := by
  subst hp; exact H.pull fun t k => Jvm.Free.XS.ineg X.here hx rfl (hb hby hd) rfl k
theorem g_ladd (X : Stand p l e R s m args below meth c T locs cells slots) (hx : p.tables.exec = Jvm.exec) {x y : Int64} (hby : c.code = bytes) (hd : decode bytes pc = .ok (.ladd, 1)) (hp : pc + 1 = pc') 
    (H : GoE p e below Fi (T.setTop (mkF m pc' Ls (.long (x + y) :: rest)))) : GoE p e below Fi (T.setTop (mkF m pc Ls (.long y :: .long x :: rest))) := by
  subst hp; exact H.pull fun t k => Jvm.Free.XT.ladd X.here hx rfl (hb hby hd) rfl k
theorem g_lsub (X : Stand p l e R s m args below meth c T locs cells slots) (hx : p.tables.exec = Jvm.exec) {x y : Int64} (hby : c.code = bytes) (hd : decode bytes pc = .ok (.lsub, 1)) (hp : pc + 1 = pc') 
    (H : GoE p e below Fi (T.setTop (mkF m pc' Ls (.long (x - y) :: rest)))) : GoE p e below Fi (T.setTop (mkF m pc Ls (.long y :: .long x :: rest))) := by
  subst hp; exact H.pull fun t k => Jvm.Free.XT.lsub X.here hx rfl (hb hby hd) rfl k
theorem g_lmul (X : Stand p l e R s m args below meth c T locs cells slots) (hx : p.tables.exec = Jvm.exec) {x y : Int64} (hby : c.code = bytes) (hd : decode bytes pc = .ok (.lmul, 1)) (hp : pc + 1 = pc') 
    (H : GoE p e below Fi (T.setTop (mkF m pc' Ls (.long (x * y) :: rest)))) : GoE p e below Fi (T.setTop (mkF m pc Ls (.long y :: .long x :: rest))) := by
  subst hp; exact H.pull fun t k => Jvm.Free.XT.lmul X.here hx rfl (hb hby hd) rfl k
theorem g_land (X : Stand p l e R s m args below meth c T locs cells slots) (hx : p.tables.exec = Jvm.exec) {x y : Int64} (hby : c.code = bytes) (hd : decode bytes pc = .ok (.land, 1)) (hp : pc + 1 = pc') 
    (H : GoE p e below Fi (T.setTop (mkF m pc' Ls (.long (x &&& y) :: rest)))) : GoE p e below Fi (T.setTop (mkF m pc Ls (.long y :: .long x :: rest))) := by
  subst hp; exact H.pull fun t k => Jvm.Free.XT.land X.here hx rfl (hb hby hd) rfl k
theorem g_lor (X : Stand p l e R s m args below meth c T locs cells slots) (hx : p.tables.exec = Jvm.exec) {x y : Int64} (hby : c.code = bytes) (hd : decode bytes pc = .ok (.lor, 1)) (hp : pc + 1 = pc') 
    (H : GoE p e below Fi (T.setTop (mkF m pc' Ls (.long (x ||| y) :: rest)))) : GoE p e below Fi (T.setTop (mkF m pc Ls (.long y :: .long x :: rest))) := by
  subst hp; exact H.pull fun t k => Jvm.Free.XT.lor X.here hx rfl (hb hby hd) rfl k
theorem g_lxor (X : Stand p l e R s m args below meth c T locs cells slots) (hx : p.tables.exec = Jvm.exec) {x y : Int64} (hby : c.code = bytes) (hd : decode bytes pc = .ok (.lxor, 1)) (hp : pc + 1 = pc') 
    (H : GoE p e below Fi (T.setTop (mkF m pc' Ls (.long (x ^^^ y) :: rest)))) : GoE p e below Fi (T.setTop (mkF m pc Ls (.long y :: .long x :: rest))) := by
  subst hp; exact H.pull fun t k => Jvm.Free.XT.lxor X.here hx rfl (hb hby hd) rfl k
theorem g_ldiv (X : Stand p l e R s m args below meth c T locs cells slots) (hx : p.tables.exec = Jvm.exec) {x y : Int64} (hby : c.code = bytes) (hd : decode bytes pc = .ok (.ldiv, 1)) (hp : pc + 1 = pc') (hy : y ≠ 0)
    (H : GoE p e below Fi (T.setTop (mkF m pc' Ls (.long (x / y) :: rest)))) : GoE p e below Fi (T.setTop (mkF m pc Ls (.long y :: .long x :: rest))) := by
  subst hp; exact H.pull fun t k => Jvm.Free.XT.ldiv X.here hx rfl (hb hby hd) rfl hy k
theorem g_lrem (X : Stand p l e R s m args below meth c T locs cells slots) (hx : p.tables.exec = Jvm.exec) {x y : Int64} (hby : c.code = bytes) (hd : decode bytes pc = .ok (.lrem, 1)) (hp : pc + 1 = pc') (hy : y ≠ 0)
    (H : GoE p e below Fi (T.setTop (mkF m pc' Ls (.long (x - (x / y) * y) :: rest)))) : GoE p e below Fi (T.setTop (mkF m pc Ls (.long y :: .long x :: rest))) := by
  subst hp; exact H.pull fun t k => Jvm.Free.XT.lrem X.here hx rfl (hb hby hd) rfl hy k
theorem g_lneg (X : Stand p l e R s m args below meth c T locs cells slots) (hx : p.tables.exec = Jvm.exec) {x : Int64} (hby : c.code = bytes) (hd : decode bytes pc = .ok (.lneg, 1)) (hp : pc + 1 = pc') 
    (H : GoE p e below Fi (T.setTop (mkF m pc' Ls (.long (-x) :: rest)))) : GoE p e below Fi (T.setTop (mkF m pc Ls (.long x :: rest))) := by
  subst hp; exact H.pull fun t k => Jvm.Free.XT.lneg X.here hx rfl (hb hby hd) rfl k
theorem g_lshl (X : Stand p l e R s m args below meth c T locs cells slots) (hx : p.tables.exec = Jvm.exec) {x : Int64} {y : Int32} (hby : c.code = bytes) (hd : decode bytes pc = .ok (.lshl, 1)) (hp : pc + 1 = pc') 
    (H : GoE p e below Fi (T.setTop (mkF m pc' Ls (.long (x <<< (y.toInt64 &&& 63)) :: rest)))) : GoE p e below Fi (T.setTop (mkF m pc Ls (.int y :: .long x :: rest))) := by
  subst hp; exact H.pull fun t k => Jvm.Free.XT.lshl X.here hx rfl (hb hby hd) rfl k
theorem g_lshr (X : Stand p l e R s m args below meth c T locs cells slots) (hx : p.tables.exec = Jvm.exec) {x : Int64} {y : Int32} (hby : c.code = bytes) (hd : decode bytes pc = .ok (.lshr, 1)) (hp : pc + 1 = pc') 
    (H : GoE p e below Fi (T.setTop (mkF m pc' Ls (.long (x >>> (y.toInt64 &&& 63)) :: rest)))) : GoE p e below Fi (T.setTop (mkF m pc Ls (.int y :: .long x :: rest))) := by
  subst hp; exact H.pull fun t k => Jvm.Free.XT.lshr X.here hx rfl (hb hby hd) rfl k
theorem g_lushr (X : Stand p l e R s m args below meth c T locs cells slots) (hx : p.tables.exec = Jvm.exec) {x : Int64} {y : Int32} (hby : c.code = bytes) (hd : decode bytes pc = .ok (.lushr, 1)) (hp : pc + 1 = pc') 
    (H : GoE p e below Fi (T.setTop (mkF m pc' Ls (.long (ushrL x y) :: rest)))) : GoE p e below Fi (T.setTop (mkF m pc Ls (.int y :: .long x :: rest))) := by
  subst hp; exact H.pull fun t k => Jvm.Free.XT.lushr X.here hx rfl (hb hby hd) rfl k
theorem g_i2l (X : Stand p l e R s m args below meth c T locs cells slots) (hx : p.tables.exec = Jvm.exec) {x : Int32} (hby : c.code = bytes) (hd : decode bytes pc = .ok (.i2l, 1)) (hp : pc + 1 = pc') 
    (H : GoE p e below Fi (T.setTop (mkF m pc' Ls (.long x.toInt64 :: rest)))) : GoE p e below Fi (T.setTop (mkF m pc Ls (.int x :: rest))) := by
  subst hp; exact H.pull fun t k => Jvm.Free.XT.i2l X.here hx rfl (hb hby hd) rfl k
theorem g_l2i (X : Stand p l e R s m args below meth c T locs cells slots) (hx : p.tables.exec = Jvm.exec) {x : Int64} (hby : c.code = bytes) (hd : decode bytes pc = .ok (.l2i, 1)) (hp : pc + 1 = pc') 
    (H : GoE p e below Fi (T.setTop (mkF m pc' Ls (.int x.toInt32 :: rest)))) : GoE p e below Fi (T.setTop (mkF m pc Ls (.long x :: rest))) := by
  subst hp; exact H.pull fun t k => Jvm.Free.XT.l2i X.here hx rfl (hb hby hd) rfl k
theorem g_i2b (X : Stand p l e R s m args below meth c T locs cells slots) (hx : p.tables.exec = Jvm.exec) {x : Int32} (hby : c.code = bytes) (hd : decode bytes pc = .ok (.i2b, 1)) (hp : pc + 1 = pc') 
    (H : GoE p e below Fi (T.setTop (mkF m pc' Ls (.int x.toInt8.toInt32 :: rest)))) : GoE p e below Fi (T.setTop (mkF m pc Ls (.int x :: rest))) := by
  subst hp; exact H.pull fun t k => Jvm.Free.XT.i2b X.here hx rfl (hb hby hd) rfl k
theorem g_i2c (X : Stand p l e R s m args below meth c T locs cells slots) (hx : p.tables.exec = Jvm.exec) {x : Int32} (hby : c.code = bytes) (hd : decode bytes pc = .ok (.i2c, 1)) (hp : pc + 1 = pc') 
    (H : GoE p e below Fi (T.setTop (mkF m pc' Ls (.int x.toUInt32.toUInt16.toUInt32.toInt32 :: rest)))) : GoE p e below Fi (T.setTop (mkF m pc Ls (.int x :: rest))) := by
  subst hp; exact H.pull fun t k => Jvm.Free.XT.i2c X.here hx rfl (hb hby hd) rfl k
theorem g_i2s (X : Stand p l e R s m args below meth c T locs cells slots) (hx : p.tables.exec = Jvm.exec) {x : Int32} (hby : c.code = bytes) (hd : decode bytes pc = .ok (.i2s, 1)) (hp : pc + 1 = pc') 
    (H : GoE p e below Fi (T.setTop (mkF m pc' Ls (.int x.toInt16.toInt32 :: rest)))) : GoE p e below Fi (T.setTop (mkF m pc Ls (.int x :: rest))) := by
  subst hp; exact H.pull fun t k => Jvm.Free.XT.i2s X.here hx rfl (hb hby hd) rfl k
theorem g_i2d (X : Stand p l e R s m args below meth c T locs cells slots) (hx : p.tables.exec = Jvm.exec) {x : Int32} (hby : c.code = bytes) (hd : decode bytes pc = .ok (.i2d, 1)) (hp : pc + 1 = pc') 
    (H : GoE p e below Fi (T.setTop (mkF m pc' Ls (.double (FP.l2d x.toInt64) :: rest)))) : GoE p e below Fi (T.setTop (mkF m pc Ls (.int x :: rest))) := by
  subst hp; exact H.pull fun t k => Jvm.Free.XS.i2dS X.here hx rfl (hb hby hd) rfl (i2d_w x) k
theorem g_l2d (X : Stand p l e R s m args below meth c T locs cells slots) (hx : p.tables.exec = Jvm.exec) {x : Int64} (hby : c.code = bytes) (hd : decode bytes pc = .ok (.l2d, 1)) (hp : pc + 1 = pc') 
    (H : GoE p e below Fi (T.setTop (mkF m pc' Ls (.double (FP.l2d x) :: rest)))) : GoE p e below Fi (T.setTop (mkF m pc Ls (.long x :: rest))) := by
  subst hp; exact H.pull fun t k => Jvm.Free.XS.l2dS X.here hx rfl (hb hby hd) rfl rfl k
theorem g_dcmp (X : Stand p l e R s m args below meth c T locs cells slots) (hx : p.tables.exec = Jvm.exec) {o : CmpOp} {x y : UInt64} {v : Int32} (hby : c.code = bytes) (hd : decode bytes pc = .ok (.dcmp o, 1)) (hp : pc + 1 = pc') (hv : cmpValue (FP.dcmp x y) o = v)
    (H : GoE p e below Fi (T.setTop (mkF m pc' Ls (.int v :: rest)))) : GoE p e below Fi (T.setTop (mkF m pc Ls (.double y :: .double x :: rest))) := by
  subst hp; exact H.pull fun t k => Jvm.Free.XS.dcmpS X.here hx rfl (hb hby hd) rfl hv k
theorem g_lcmp (X : Stand p l e R s m args below meth c T locs cells slots) (hx : p.tables.exec = Jvm.exec) {x y : Int64} (hby : c.code = bytes) (hd : decode bytes pc = .ok (.lcmp, 1)) (hp : pc + 1 = pc') 
    (H : GoE p e below Fi (T.setTop (mkF m pc' Ls (.int (cmpL x y) :: rest)))) : GoE p e below Fi (T.setTop (mkF m pc Ls (.long y :: .long x :: rest))) := by
  subst hp; exact H.pull fun t k => Jvm.Free.XT.lcmp X.here hx rfl (hb hby hd) rfl k
theorem g_dup (X : Stand p l e R s m args below meth c T locs cells slots) (hx : p.tables.exec = Jvm.exec) {x : Value} (hby : c.code = bytes) (hd : decode bytes pc = .ok (.dup, 1)) (hp : pc + 1 = pc') (hc : x.category = 1)
    (H : GoE p e below Fi (T.setTop (mkF m pc' Ls (x :: x :: rest)))) : GoE p e below Fi (T.setTop (mkF m pc Ls (x :: rest))) := by
  subst hp; exact H.pull fun t k => Jvm.Free.XS.dup X.here hx rfl (hb hby hd) rfl hc k
theorem g_pop (X : Stand p l e R s m args below meth c T locs cells slots) (hx : p.tables.exec = Jvm.exec) {x : Value} (hby : c.code = bytes) (hd : decode bytes pc = .ok (.pop, 1)) (hp : pc + 1 = pc') (hc : x.category = 1)
    (H : GoE p e below Fi (T.setTop (mkF m pc' Ls rest))) : GoE p e below Fi (T.setTop (mkF m pc Ls (x :: rest))) := by
  subst hp; exact H.pull fun t k => Jvm.Free.XT.pop X.here hx rfl (hb hby hd) rfl hc k
theorem g_iinc (X : Stand p l e R s m args below meth c T locs cells slots) (hx : p.tables.exec = Jvm.exec) {k : Nat} {cst : Int} {x : Int32} {l' : Array Slot} (hby : c.code = bytes) (hd : decode bytes pc = .ok (.iinc k cst, 3)) (hp : pc + 3 = pc') (hl : Ls[k]? = some (.val (.int x))) (hl' : storeLocals Ls k (.int (x + Int32.ofInt cst)) = some l')
    (H : GoE p e below Fi (T.setTop (mkF m pc' l' rest))) : GoE p e below Fi (T.setTop (mkF m pc Ls rest)) := by
  subst hp; exact H.pull fun t k => Jvm.Free.XS.iinc X.here hx rfl (hb hby hd) hl hl' k
theorem g_goto (X : Stand p l e R s m args below meth c T locs cells slots) (hx : p.tables.exec = Jvm.exec) {o : Int} (hby : c.code = bytes) (hd : decode bytes pc = .ok (.goto o, 3)) (ho : 0 ≤ (pc : Int) + o) (hp : ((pc : Int) + o).toNat = pc')
    (H : GoE p e below Fi (T.setTop (mkF m pc' Ls rest))) : GoE p e below Fi (T.setTop (mkF m pc Ls rest)) :=
  H.pull fun t k => Jvm.Free.XS.goto X.here hx rfl rfl (hb hby hd) ho hp k
theorem g_icmp_eq (X : Stand p l e R s m args below meth c T locs cells slots) (hx : p.tables.exec = Jvm.exec) {o : Int} {pn : Nat} (hby : c.code = bytes) {x y : Int32} (hd : decode bytes pc = .ok (.if_icmp .eq o, 3)) (ho : 0 ≤ (pc : Int) + o) (hp : ((pc : Int) + o).toNat = pc') (hn : pc + 3 = pn)
    (HY : x = y → GoE p e below Fi (T.setTop (mkF m pc' Ls rest))) (HN : ¬ (x = y) → GoE p e below Fi (T.setTop (mkF m pn Ls rest))) : GoE p e below Fi (T.setTop (mkF m pc Ls (.int y :: .int x :: rest))) := by
  subst hn
  by_cases q : x = y
  · exact (HY q).pull fun t k => Jvm.Free.XS.icmpYes X.here hx rfl rfl (hb hby hd) rfl (teq q).1 ho hp k
  · have q' : ¬ (x = y) := by first | exact q | exact Decidable.not_not.mp q
    exact (HN q').pull fun t k => Jvm.Free.XS.icmpNo X.here hx rfl (hb hby hd) rfl (feq q').1 k
theorem g_if_eq (X : Stand p l e R s m args below meth c T locs cells slots) (hx : p.tables.exec = Jvm.exec) {o : Int} {pn : Nat} (hby : c.code = bytes) {x : Int32} (hd : decode bytes pc = .ok (.ifCond .eq o, 3)) (ho : 0 ≤ (pc : Int) + o) (hp : ((pc : Int) + o).toNat = pc') (hn : pc + 3 = pn)
    (HY : x = 0 → GoE p e below Fi (T.setTop (mkF m pc' Ls rest))) (HN : ¬ (x = 0) → GoE p e below Fi (T.setTop (mkF m pn Ls rest))) : GoE p e below Fi (T.setTop (mkF m pc Ls (.int x :: rest))) := by
  subst hn
  by_cases q : x = 0
  · exact (HY q).pull fun t k => Jvm.Free.XS.ifYes X.here hx rfl rfl (hb hby hd) rfl ((if0 _ _).trans (teq q).1) ho hp k
  · have q' : ¬ (x = 0) := by first | exact q | exact Decidable.not_not.mp q
    exact (HN q').pull fun t k => Jvm.Free.XS.ifNo X.here hx rfl (hb hby hd) rfl ((if0 _ _).trans (feq q').1) k
theorem cl_W (u v : Int64) : cmpL u v = lcmpW u v := rfl
theorem cl_lt (u v : Int64) : cmpL u v < 0 ↔ u < v := by rw [cl_W]; exact lw_lt u v
theorem cl_gt (u v : Int64) : 0 < cmpL u v ↔ v < u := by rw [cl_W]; exact lw_gt u v
theorem cl_eq (u v : Int64) : cmpL u v = 0 ↔ u = v := by rw [cl_W]; exact lw_eq u v
theorem g_ifL_eq (X : Stand p l e R s m args below meth c T locs cells slots) (hx : p.tables.exec = Jvm.exec) {o : Int} {pn : Nat} (hby : c.code = bytes) {u v : Int64} (hd : decode bytes pc = .ok (.ifCond .eq o, 3)) (ho : 0 ≤ (pc : Int) + o) (hp : ((pc : Int) + o).toNat = pc') (hn : pc + 3 = pn)
    (HY : u = v → GoE p e below Fi (T.setTop (mkF m pc' Ls rest))) (HN : ¬ (u = v) → GoE p e below Fi (T.setTop (mkF m pn Ls rest))) : GoE p e below Fi (T.setTop (mkF m pc Ls (.int (cmpL u v) :: rest))) :=
  g_if_eq X hx hby hd ho hp hn (fun h => HY ((cl_eq u v).mp h)) (fun h => HN (fun z => h ((cl_eq u v).mpr z)))
theorem g_icmp_ne (X : Stand p l e R s m args below meth c T locs cells slots) (hx : p.tables.exec = Jvm.exec) {o : Int} {pn : Nat} (hby : c.code = bytes) {x y : Int32} (hd : decode bytes pc = .ok (.if_icmp .ne o, 3)) (ho : 0 ≤ (pc : Int) + o) (hp : ((pc : Int) + o).toNat = pc') (hn : pc + 3 = pn)
    (HY : ¬ (x = y) → GoE p e below Fi (T.setTop (mkF m pc' Ls rest))) (HN : x = y → GoE p e below Fi (T.setTop (mkF m pn Ls rest))) : GoE p e below Fi (T.setTop (mkF m pc Ls (.int y :: .int x :: rest))) := by
  subst hn
  by_cases q : ¬ (x = y)
  · exact (HY q).pull fun t k => Jvm.Free.XS.icmpYes X.here hx rfl rfl (hb hby hd) rfl (feq q).2 ho hp k
  · have q' : x = y := by first | exact q | exact Decidable.not_not.mp q
    exact (HN q').pull fun t k => Jvm.Free.XS.icmpNo X.here hx rfl (hb hby hd) rfl (teq q').2 k
theorem g_if_ne (X : Stand p l e R s m args below meth c T locs cells slots) (hx : p.tables.exec = Jvm.exec) {o : Int} {pn : Nat} (hby : c.code = bytes) {x : Int32} (hd : decode bytes pc = .ok (.ifCond .ne o, 3)) (ho : 0 ≤ (pc : Int) + o) (hp : ((pc : Int) + o).toNat = pc') (hn : pc + 3 = pn)
    (HY : ¬ (x = 0) → GoE p e below Fi (T.setTop (mkF m pc' Ls rest))) (HN : x = 0 → GoE p e below Fi (T.setTop (mkF m pn Ls rest))) : GoE p e below Fi (T.setTop (mkF m pc Ls (.int x :: rest))) := by
  subst hn
  by_cases q : ¬ (x = 0)
  · exact (HY q).pull fun t k => Jvm.Free.XS.ifYes X.here hx rfl rfl (hb hby hd) rfl ((if0 _ _).trans (feq q).2) ho hp k
  · have q' : x = 0 := by first | exact q | exact Decidable.not_not.mp q
    exact (HN q').pull fun t k => Jvm.Free.XS.ifNo X.here hx rfl (hb hby hd) rfl ((if0 _ _).trans (teq q').2) k
theorem g_ifL_ne (X : Stand p l e R s m args below meth c T locs cells slots) (hx : p.tables.exec = Jvm.exec) {o : Int} {pn : Nat} (hby : c.code = bytes) {u v : Int64} (hd : decode bytes pc = .ok (.ifCond .ne o, 3)) (ho : 0 ≤ (pc : Int) + o) (hp : ((pc : Int) + o).toNat = pc') (hn : pc + 3 = pn)
    (HY : ¬ (u = v) → GoE p e below Fi (T.setTop (mkF m pc' Ls rest))) (HN : u = v → GoE p e below Fi (T.setTop (mkF m pn Ls rest))) : GoE p e below Fi (T.setTop (mkF m pc Ls (.int (cmpL u v) :: rest))) :=
  g_if_ne X hx hby hd ho hp hn (fun h => HY (fun z => h ((cl_eq u v).mpr z))) (fun h => HN ((cl_eq u v).mp h))
theorem g_icmp_lt (X : Stand p l e R s m args below meth c T locs cells slots) (hx : p.tables.exec = Jvm.exec) {o : Int} {pn : Nat} (hby : c.code = bytes) {x y : Int32} (hd : decode bytes pc = .ok (.if_icmp .lt o, 3)) (ho : 0 ≤ (pc : Int) + o) (hp : ((pc : Int) + o).toNat = pc') (hn : pc + 3 = pn)
    (HY : x < y → GoE p e below Fi (T.setTop (mkF m pc' Ls rest))) (HN : ¬ (x < y) → GoE p e below Fi (T.setTop (mkF m pn Ls rest))) : GoE p e below Fi (T.setTop (mkF m pc Ls (.int y :: .int x :: rest))) := by
  subst hn
  by_cases q : x < y
  · exact (HY q).pull fun t k => Jvm.Free.XS.icmpYes X.here hx rfl rfl (hb hby hd) rfl (tlt q).1 ho hp k
  · have q' : ¬ (x < y) := by first | exact q | exact Decidable.not_not.mp q
    exact (HN q').pull fun t k => Jvm.Free.XS.icmpNo X.here hx rfl (hb hby hd) rfl (flt q').1 k
theorem g_if_lt (X : Stand p l e R s m args below meth c T locs cells slots) (hx : p.tables.exec = Jvm.exec) {o : Int} {pn : Nat} (hby : c.code = bytes) {x : Int32} (hd : decode bytes pc = .ok (.ifCond .lt o, 3)) (ho : 0 ≤ (pc : Int) + o) (hp : ((pc : Int) + o).toNat = pc') (hn : pc + 3 = pn)
    (HY : x < 0 → GoE p e below Fi (T.setTop (mkF m pc' Ls rest))) (HN : ¬ (x < 0) → GoE p e below Fi (T.setTop (mkF m pn Ls rest))) : GoE p e below Fi (T.setTop (mkF m pc Ls (.int x :: rest))) := by
  subst hn
  by_cases q : x < 0
  · exact (HY q).pull fun t k => Jvm.Free.XS.ifYes X.here hx rfl rfl (hb hby hd) rfl ((if0 _ _).trans (tlt q).1) ho hp k
  · have q' : ¬ (x < 0) := by first | exact q | exact Decidable.not_not.mp q
    exact (HN q').pull fun t k => Jvm.Free.XS.ifNo X.here hx rfl (hb hby hd) rfl ((if0 _ _).trans (flt q').1) k
theorem g_ifL_lt (X : Stand p l e R s m args below meth c T locs cells slots) (hx : p.tables.exec = Jvm.exec) {o : Int} {pn : Nat} (hby : c.code = bytes) {u v : Int64} (hd : decode bytes pc = .ok (.ifCond .lt o, 3)) (ho : 0 ≤ (pc : Int) + o) (hp : ((pc : Int) + o).toNat = pc') (hn : pc + 3 = pn)
    (HY : u < v → GoE p e below Fi (T.setTop (mkF m pc' Ls rest))) (HN : ¬ (u < v) → GoE p e below Fi (T.setTop (mkF m pn Ls rest))) : GoE p e below Fi (T.setTop (mkF m pc Ls (.int (cmpL u v) :: rest))) :=
  g_if_lt X hx hby hd ho hp hn (fun h => HY ((cl_lt u v).mp h)) (fun h => HN (fun z => h ((cl_lt u v).mpr z)))
theorem g_icmp_ge (X : Stand p l e R s m args below meth c T locs cells slots) (hx : p.tables.exec = Jvm.exec) {o : Int} {pn : Nat} (hby : c.code = bytes) {x y : Int32} (hd : decode bytes pc = .ok (.if_icmp .ge o, 3)) (ho : 0 ≤ (pc : Int) + o) (hp : ((pc : Int) + o).toNat = pc') (hn : pc + 3 = pn)
    (HY : ¬ (x < y) → GoE p e below Fi (T.setTop (mkF m pc' Ls rest))) (HN : x < y → GoE p e below Fi (T.setTop (mkF m pn Ls rest))) : GoE p e below Fi (T.setTop (mkF m pc Ls (.int y :: .int x :: rest))) := by
  subst hn
  by_cases q : ¬ (x < y)
  · exact (HY q).pull fun t k => Jvm.Free.XS.icmpYes X.here hx rfl rfl (hb hby hd) rfl (flt q).2.1 ho hp k
  · have q' : x < y := by first | exact q | exact Decidable.not_not.mp q
    exact (HN q').pull fun t k => Jvm.Free.XS.icmpNo X.here hx rfl (hb hby hd) rfl (tlt q').2.1 k
theorem g_if_ge (X : Stand p l e R s m args below meth c T locs cells slots) (hx : p.tables.exec = Jvm.exec) {o : Int} {pn : Nat} (hby : c.code = bytes) {x : Int32} (hd : decode bytes pc = .ok (.ifCond .ge o, 3)) (ho : 0 ≤ (pc : Int) + o) (hp : ((pc : Int) + o).toNat = pc') (hn : pc + 3 = pn)
    (HY : ¬ (x < 0) → GoE p e below Fi (T.setTop (mkF m pc' Ls rest))) (HN : x < 0 → GoE p e below Fi (T.setTop (mkF m pn Ls rest))) : GoE p e below Fi (T.setTop (mkF m pc Ls (.int x :: rest))) := by
  subst hn
  by_cases q : ¬ (x < 0)
  · exact (HY q).pull fun t k => Jvm.Free.XS.ifYes X.here hx rfl rfl (hb hby hd) rfl ((if0 _ _).trans (flt q).2.1) ho hp k
  · have q' : x < 0 := by first | exact q | exact Decidable.not_not.mp q
    exact (HN q').pull fun t k => Jvm.Free.XS.ifNo X.here hx rfl (hb hby hd) rfl ((if0 _ _).trans (tlt q').2.1) k
theorem g_ifL_ge (X : Stand p l e R s m args below meth c T locs cells slots) (hx : p.tables.exec = Jvm.exec) {o : Int} {pn : Nat} (hby : c.code = bytes) {u v : Int64} (hd : decode bytes pc = .ok (.ifCond .ge o, 3)) (ho : 0 ≤ (pc : Int) + o) (hp : ((pc : Int) + o).toNat = pc') (hn : pc + 3 = pn)
    (HY : ¬ (u < v) → GoE p e below Fi (T.setTop (mkF m pc' Ls rest))) (HN : u < v → GoE p e below Fi (T.setTop (mkF m pn Ls rest))) : GoE p e below Fi (T.setTop (mkF m pc Ls (.int (cmpL u v) :: rest))) :=
  g_if_ge X hx hby hd ho hp hn (fun h => HY (fun z => h ((cl_lt u v).mpr z))) (fun h => HN ((cl_lt u v).mp h))
theorem g_icmp_gt (X : Stand p l e R s m args below meth c T locs cells slots) (hx : p.tables.exec = Jvm.exec) {o : Int} {pn : Nat} (hby : c.code = bytes) {x y : Int32} (hd : decode bytes pc = .ok (.if_icmp .gt o, 3)) (ho : 0 ≤ (pc : Int) + o) (hp : ((pc : Int) + o).toNat = pc') (hn : pc + 3 = pn)
    (HY : y < x → GoE p e below Fi (T.setTop (mkF m pc' Ls rest))) (HN : ¬ (y < x) → GoE p e below Fi (T.setTop (mkF m pn Ls rest))) : GoE p e below Fi (T.setTop (mkF m pc Ls (.int y :: .int x :: rest))) := by
  subst hn
  by_cases q : y < x
  · exact (HY q).pull fun t k => Jvm.Free.XS.icmpYes X.here hx rfl rfl (hb hby hd) rfl (tlt q).2.2.1 ho hp k
  · have q' : ¬ (y < x) := by first | exact q | exact Decidable.not_not.mp q
    exact (HN q').pull fun t k => Jvm.Free.XS.icmpNo X.here hx rfl (hb hby hd) rfl (flt q').2.2.1 k
theorem g_if_gt (X : Stand p l e R s m args below meth c T locs cells slots) (hx : p.tables.exec = Jvm.exec) {o : Int} {pn : Nat} (hby : c.code = bytes) {x : Int32} (hd : decode bytes pc = .ok (.ifCond .gt o, 3)) (ho : 0 ≤ (pc : Int) + o) (hp : ((pc : Int) + o).toNat = pc') (hn : pc + 3 = pn)
    (HY : 0 < x → GoE p e below Fi (T.setTop (mkF m pc' Ls rest))) (HN : ¬ (0 < x) → GoE p e below Fi (T.setTop (mkF m pn Ls rest))) : GoE p e below Fi (T.setTop (mkF m pc Ls (.int x :: rest))) := by
  subst hn
  by_cases q : 0 < x
  · exact (HY q).pull fun t k => Jvm.Free.XS.ifYes X.here hx rfl rfl (hb hby hd) rfl ((if0 _ _).trans (tlt q).2.2.1) ho hp k
  · have q' : ¬ (0 < x) := by first | exact q | exact Decidable.not_not.mp q
    exact (HN q').pull fun t k => Jvm.Free.XS.ifNo X.here hx rfl (hb hby hd) rfl ((if0 _ _).trans (flt q').2.2.1) k
theorem g_ifL_gt (X : Stand p l e R s m args below meth c T locs cells slots) (hx : p.tables.exec = Jvm.exec) {o : Int} {pn : Nat} (hby : c.code = bytes) {u v : Int64} (hd : decode bytes pc = .ok (.ifCond .gt o, 3)) (ho : 0 ≤ (pc : Int) + o) (hp : ((pc : Int) + o).toNat = pc') (hn : pc + 3 = pn)
    (HY : v < u → GoE p e below Fi (T.setTop (mkF m pc' Ls rest))) (HN : ¬ (v < u) → GoE p e below Fi (T.setTop (mkF m pn Ls rest))) : GoE p e below Fi (T.setTop (mkF m pc Ls (.int (cmpL u v) :: rest))) :=
  g_if_gt X hx hby hd ho hp hn (fun h => HY ((cl_gt u v).mp h)) (fun h => HN (fun z => h ((cl_gt u v).mpr z)))
theorem g_icmp_le (X : Stand p l e R s m args below meth c T locs cells slots) (hx : p.tables.exec = Jvm.exec) {o : Int} {pn : Nat} (hby : c.code = bytes) {x y : Int32} (hd : decode bytes pc = .ok (.if_icmp .le o, 3)) (ho : 0 ≤ (pc : Int) + o) (hp : ((pc : Int) + o).toNat = pc') (hn : pc + 3 = pn)
    (HY : ¬ (y < x) → GoE p e below Fi (T.setTop (mkF m pc' Ls rest))) (HN : y < x → GoE p e below Fi (T.setTop (mkF m pn Ls rest))) : GoE p e below Fi (T.setTop (mkF m pc Ls (.int y :: .int x :: rest))) := by
  subst hn
  by_cases q : ¬ (y < x)
  · exact (HY q).pull fun t k => Jvm.Free.XS.icmpYes X.here hx rfl rfl (hb hby hd) rfl (flt q).2.2.2 ho hp k
  · have q' : y < x := by first | exact q | exact Decidable.not_not.mp q
    exact (HN q').pull fun t k => Jvm.Free.XS.icmpNo X.here hx rfl (hb hby hd) rfl (tlt q').2.2.2 k
theorem g_if_le (X : Stand p l e R s m args below meth c T locs cells slots) (hx : p.tables.exec = Jvm.exec) {o : Int} {pn : Nat} (hby : c.code = bytes) {x : Int32} (hd : decode bytes pc = .ok (.ifCond .le o, 3)) (ho : 0 ≤ (pc : Int) + o) (hp : ((pc : Int) + o).toNat = pc') (hn : pc + 3 = pn)
    (HY : ¬ (0 < x) → GoE p e below Fi (T.setTop (mkF m pc' Ls rest))) (HN : 0 < x → GoE p e below Fi (T.setTop (mkF m pn Ls rest))) : GoE p e below Fi (T.setTop (mkF m pc Ls (.int x :: rest))) := by
  subst hn
  by_cases q : ¬ (0 < x)
  · exact (HY q).pull fun t k => Jvm.Free.XS.ifYes X.here hx rfl rfl (hb hby hd) rfl ((if0 _ _).trans (flt q).2.2.2) ho hp k
  · have q' : 0 < x := by first | exact q | exact Decidable.not_not.mp q
    exact (HN q').pull fun t k => Jvm.Free.XS.ifNo X.here hx rfl (hb hby hd) rfl ((if0 _ _).trans (tlt q').2.2.2) k
theorem g_ifL_le (X : Stand p l e R s m args below meth c T locs cells slots) (hx : p.tables.exec = Jvm.exec) {o : Int} {pn : Nat} (hby : c.code = bytes) {u v : Int64} (hd : decode bytes pc = .ok (.ifCond .le o, 3)) (ho : 0 ≤ (pc : Int) + o) (hp : ((pc : Int) + o).toNat = pc') (hn : pc + 3 = pn)
    (HY : ¬ (v < u) → GoE p e below Fi (T.setTop (mkF m pc' Ls rest))) (HN : v < u → GoE p e below Fi (T.setTop (mkF m pn Ls rest))) : GoE p e below Fi (T.setTop (mkF m pc Ls (.int (cmpL u v) :: rest))) :=
  g_if_le X hx hby hd ho hp hn (fun h => HY (fun z => h ((cl_gt u v).mpr z))) (fun h => HN ((cl_gt u v).mp h))
theorem g_ifnull_no (X : Stand p l e R s m args below meth c T locs cells slots) (hx : p.tables.exec = Jvm.exec) {o : Int} {pn : Nat} (hby : c.code = bytes) {b : Addr} (hd : decode bytes pc = .ok (.ifnull o, 3)) (hn : pc + 3 = pn)
    (H : GoE p e below Fi (T.setTop (mkF m pn Ls rest))) : GoE p e below Fi (T.setTop (mkF m pc Ls (.ref b :: rest))) := by
  subst hn; exact H.pull fun t k => Jvm.Free.XS.ifnullNo X.here hx rfl (hb hby hd) rfl k
theorem g_ifnull_yes (X : Stand p l e R s m args below meth c T locs cells slots) (hx : p.tables.exec = Jvm.exec) {o : Int} (hby : c.code = bytes) (hd : decode bytes pc = .ok (.ifnull o, 3)) (ho : 0 ≤ (pc : Int) + o) (hp : ((pc : Int) + o).toNat = pc')
    (H : GoE p e below Fi (T.setTop (mkF m pc' Ls rest))) : GoE p e below Fi (T.setTop (mkF m pc Ls (.null :: rest))) :=
  H.pull fun t k => Jvm.Free.XS.ifnullYes X.here hx rfl rfl (hb hby hd) rfl ho hp k
theorem g_ifnonnull_yes (X : Stand p l e R s m args below meth c T locs cells slots) (hx : p.tables.exec = Jvm.exec) {o : Int} (hby : c.code = bytes) {b : Addr} (hd : decode bytes pc = .ok (.ifnonnull o, 3)) (ho : 0 ≤ (pc : Int) + o) (hp : ((pc : Int) + o).toNat = pc')
    (H : GoE p e below Fi (T.setTop (mkF m pc' Ls rest))) : GoE p e below Fi (T.setTop (mkF m pc Ls (.ref b :: rest))) :=
  H.pull fun t k => Jvm.Free.XT.ifnonnullYes X.here hx rfl rfl (hb hby hd) rfl ho hp k
theorem g_ifnonnull_no (X : Stand p l e R s m args below meth c T locs cells slots) (hx : p.tables.exec = Jvm.exec) {o : Int} {pn : Nat} (hby : c.code = bytes) (hd : decode bytes pc = .ok (.ifnonnull o, 3)) (hn : pc + 3 = pn)
    (H : GoE p e below Fi (T.setTop (mkF m pn Ls rest))) : GoE p e below Fi (T.setTop (mkF m pc Ls (.null :: rest))) := by
  subst hn; exact H.pull fun t k => Jvm.Free.XT.ifnonnullNo X.here hx rfl (hb hby hd) rfl k
theorem g_acmp_yes (X : Stand p l e R s m args below meth c T locs cells slots) (hx : p.tables.exec = Jvm.exec) {o : Int} (hby : c.code = bytes) {cd : ClassFile.ACond} {x y : Value} (hd : decode bytes pc = .ok (.if_acmp cd o, 3)) (ho : 0 ≤ (pc : Int) + o) (hp : ((pc : Int) + o).toNat = pc') (h1 : x.isRef = true) (h2 : y.isRef = true) (hc : Jvm.Free.XT.acmp cd x y = true)
    (H : GoE p e below Fi (T.setTop (mkF m pc' Ls rest))) : GoE p e below Fi (T.setTop (mkF m pc Ls (y :: x :: rest))) :=
  H.pull fun t k => Jvm.Free.XT.acmpYes X.here hx rfl rfl (hb hby hd) rfl h1 h2 hc ho hp k
theorem g_acmp_no (X : Stand p l e R s m args below meth c T locs cells slots) (hx : p.tables.exec = Jvm.exec) {o : Int} {pn : Nat} (hby : c.code = bytes) {cd : ClassFile.ACond} {x y : Value} (hd : decode bytes pc = .ok (.if_acmp cd o, 3)) (hn : pc + 3 = pn) (h1 : x.isRef = true) (h2 : y.isRef = true) (hc : Jvm.Free.XT.acmp cd x y = false)
    (H : GoE p e below Fi (T.setTop (mkF m pn Ls rest))) : GoE p e below Fi (T.setTop (mkF m pc Ls (y :: x :: rest))) := by
  subst hn; exact H.pull fun t k => Jvm.Free.XT.acmpNo X.here hx rfl (hb hby hd) rfl h1 h2 hc k
theorem g_retI (X : Stand p l e R s m args below meth c T locs cells slots) (hx : p.tables.exec = Jvm.exec) {z : Int32} (hby : c.code = bytes) (hd : decode bytes pc = .ok (.ireturn, 1)) (hret : meth.sig.returnType = some .int) (hlk : meth.locks = false) (hc : cells ≤ rc) (hs : slots ≤ rs) (hQ : Q (some (.int z)) T.heap locs) : Go p e below s rc rs Q (T.setTop (mkF m pc Ls (.int z :: rest))) := by
  obtain ⟨fs, hr, hrun, hended, hW, hsame⟩ := X.leave (v := some (.int z)) (fun h => by first | rfl | (rw [hret] at h; cases h)) hlk
  exact ⟨_, _, retI X hx hret (hb hby hd) hr, hrun, hended, _, _, rfl, hQ, ⟨_, rfl⟩, hW, hsame.mono hc hs⟩
theorem g_retN (X : Stand p l e R s m args below meth c T locs cells slots) (hx : p.tables.exec = Jvm.exec) {z w : Int32} {t : FieldType} (hby : c.code = bytes) (hd : decode bytes pc = .ok (.ireturn, 1)) (hret : meth.sig.returnType = some t) (ht : t = .boolean ∨ t = .byte ∨ t = .char ∨ t = .short) (hnar : nar t z = w) (hlk : meth.locks = false) (hc : cells ≤ rc) (hs : slots ≤ rs) (hQ : Q (some (.int w)) T.heap locs) : Go p e below s rc rs Q (T.setTop (mkF m pc Ls (.int z :: rest))) := by
  subst hnar
  obtain ⟨fs, hr, hrun, hended, hW, hsame⟩ := X.leave (v := some (.int (nar t z))) (fun h => by rw [hret] at h; cases h) hlk
  exact ⟨_, _, retN X hx hret ht (hb hby hd) hr, hrun, hended, _, _, rfl, hQ, ⟨_, rfl⟩, hW, hsame.mono hc hs⟩
theorem g_retL (X : Stand p l e R s m args below meth c T locs cells slots) (hx : p.tables.exec = Jvm.exec) {z : Int64} (hby : c.code = bytes) (hd : decode bytes pc = .ok (.lreturn, 1)) (hret : meth.sig.returnType = some .long) (hlk : meth.locks = false) (hc : cells ≤ rc) (hs : slots ≤ rs) (hQ : Q (some (.long z)) T.heap locs) : Go p e below s rc rs Q (T.setTop (mkF m pc Ls [.long z])) := by
  obtain ⟨fs, hr, hrun, hended, hW, hsame⟩ := X.leave (v := some (.long z)) (fun h => by first | rfl | (rw [hret] at h; cases h)) hlk
  exact ⟨_, _, X.lreturnOut hx hret (hb hby hd) hr, hrun, hended, _, _, rfl, hQ, ⟨_, rfl⟩, hW, hsame.mono hc hs⟩
theorem g_retA (X : Stand p l e R s m args below meth c T locs cells slots) (hx : p.tables.exec = Jvm.exec) {z : Value} {t : FieldType} (hby : c.code = bytes) (hd : decode bytes pc = .ok (.areturn, 1)) (hz : z.isRef = true) (hret : meth.sig.returnType = some t) (ht : t.isReference = true) (hlk : meth.locks = false) (hc : cells ≤ rc) (hs : slots ≤ rs) (hQ : Q (some z) T.heap locs) : Go p e below s rc rs Q (T.setTop (mkF m pc Ls [z])) := by
  obtain ⟨fs, hr, hrun, hended, hW, hsame⟩ := X.leave (v := some z) (fun h => by first | rfl | (rw [hret] at h; cases h)) hlk
  exact ⟨_, _, X.areturnOut hx hz hret ht (hb hby hd) hr, hrun, hended, _, _, rfl, hQ, ⟨_, rfl⟩, hW, hsame.mono hc hs⟩
theorem g_retV (X : Stand p l e R s m args below meth c T locs cells slots) (hx : p.tables.exec = Jvm.exec)  (hby : c.code = bytes) (hd : decode bytes pc = .ok (.return_, 1)) (hret : meth.sig.returnType = none) (hlk : meth.locks = false) (hc : cells ≤ rc) (hs : slots ≤ rs) (hQ : Q (none) T.heap locs) : Go p e below s rc rs Q (T.setTop (mkF m pc Ls [])) := by
  obtain ⟨fs, hr, hrun, hended, hW, hsame⟩ := X.leave (v := none) (fun h => by first | rfl | (rw [hret] at h; cases h)) hlk
  exact ⟨_, _, X.returnOut hx hret (hb hby hd) hr, hrun, hended, _, _, rfl, hQ, ⟨_, rfl⟩, hW, hsame.mono hc hs⟩
theorem g_callS (X : Stand p l e R s m args below meth c T locs cells slots) (hx : p.tables.exec = Jvm.exec) {Z : State} {a0 : Array Value} (hZ : Z.Warmed39 s.vm) {own : String} (hown : s.vm.findClass own = some m.cls) {y : MethodName} {cb : ByteArray} {maxL : Nat} {ret : Option FieldType} {rm : Room} {as' : Array Value} {h : Heap} {Q' : Option Value → Heap → List Loc → Prop} {W : Nat} {index : Nat} {argsL : List Value} (hby : c.code = bytes) (hd : decode bytes pc = .ok (.invokestatic index, 3)) (hp : pc + 3 = pc') (hml : Ls.size = c.maxLocals)
    (w1 : (Jvm.Cond.methodLink own index y).before a0 Z = true) (w2 : (Jvm.Cond.static y).before a0 Z = true) (w3 : (Jvm.Cond.initialized y.cls).before a0 Z = true) (w4 : (Jvm.Cond.code y cb maxL ret).before a0 Z = true) (hy : y.cls ≠ "java/lang/invoke/MethodHandle" ∧ y.cls ≠ "java/lang/invoke/VarHandle")
    (C : Ctr l Z y cb maxL ret [] rm as' h Q') (eT : T.heap = h) (hfr : rm.frames + 1 ≤ R.frames) (hlo : W + (maxL + 11) + rm.locals ≤ R.locals) (hce : cells + rm.cells ≤ R.cells) (hsl : slots + rm.slots ≤ R.slots) {stk : List Value} {psig : MethodDescriptor} (has : argsL.toArray = as') (hpd : parseMethodDescriptor y.desc = some psig) (hlen : argsL.length = psig.parameters.length) (hst : stk = argsL.reverse ++ rest) (hW : 2 * 0 + (rest.map fun v => v.category).sum ≤ W)
    (K : ∀ (v : Option Value) (T' : State) (L : List Loc), Stand p l e R s m args below meth c T' (locs ++ L) (cells + rm.cells) (slots + rm.slots) → Q' v T'.heap L → GoE p e below Fi (T'.setTop (mkF m pc' Ls (v.toList ++ rest)))) : GoE p e below Fi (T.setTop (mkF m pc Ls stk)) := by
  subst hp hst has
  obtain ⟨v, _, ⟨T4, L4, k4, n4⟩, -, X4, ⟨Lc, hQ, l4, y4, z4⟩, st⟩ := Jvm.LawKit.callS X hx (y := y) hown (mvT hZ w1) (mvT hZ w2) (mvT hZ w3) (mvT hZ w4) hy (backOf (W := W) C hZ w4 w3 hfr hlo) (g := mkF m pc Ls (argsL.reverse ++ rest)) rfl hml (argsL := argsL) (rest := rest) (fun sig h => by rw [hpd] at h; cases h; exact hlen) rfl hW (hb hby hd) (fun _ _ => ⟨rfl, eT, hce, hsl⟩)
  dsimp only [Pt.U, Pt.locs, Pt.cells, Pt.slots] at X4 l4 y4 z4 st hQ
  subst l4 y4 z4
  exact (K v T4 Lc X4 hQ).pull st
theorem g_callI (X : Stand p l e R s m args below meth c T locs cells slots) (hx : p.tables.exec = Jvm.exec) {Z : State} {a0 : Array Value} (hZ : Z.Warmed39 s.vm) {own : String} (hown : s.vm.findClass own = some m.cls) {y : MethodName} {cb : ByteArray} {maxL : Nat} {rm : Room} {as' : Array Value} {h : Heap} {Q' : Option Value → Heap → List Loc → Prop} {W : Nat} {index : Nat} {argsL : List Value} {b : Addr} (hby : c.code = bytes) (hd : decode bytes pc = .ok (.invokespecial index, 3)) (hp : pc + 3 = pc') (hml : Ls.size = c.maxLocals)
    (w1 : (Jvm.Cond.methodLink own index y).before a0 Z = true) (w2 : (Jvm.Cond.instanceMethod y).before a0 Z = true) (w3 : (Jvm.Cond.initialized y.cls).before a0 Z = true) (w4 : (Jvm.Cond.code y cb maxL none).before a0 Z = true) (hin : y.name = "<init>") (hy : y.cls ≠ "java/lang/invoke/MethodHandle" ∧ y.cls ≠ "java/lang/invoke/VarHandle")
    (C : Ctr l Z y cb maxL none [] rm as' h Q') (eT : T.heap = h) (hfr : rm.frames + 1 ≤ R.frames) (hlo : W + (maxL + 11) + rm.locals ≤ R.locals) (hce : cells + rm.cells ≤ R.cells) (hsl : slots + rm.slots ≤ R.slots) {stk : List Value} {psig : MethodDescriptor} (has : (Value.ref b :: argsL).toArray = as') (hpd : parseMethodDescriptor y.desc = some psig) (hlen : argsL.length = psig.parameters.length) (hst : stk = argsL.reverse ++ Value.ref b :: rest) (hW : 2 * 0 + (rest.map fun v => v.category).sum ≤ W)
    (K : ∀ (v : Option Value) (T' : State) (L : List Loc), Stand p l e R s m args below meth c T' (locs ++ L) (cells + rm.cells) (slots + rm.slots) → Q' v T'.heap L → GoE p e below Fi (T'.setTop (mkF m pc' Ls (v.toList ++ rest)))) : GoE p e below Fi (T.setTop (mkF m pc Ls stk)) := by
  subst hp hst has
  obtain ⟨v, _, ⟨T4, L4, k4, n4⟩, -, X4, ⟨Lc, hQ, l4, y4, z4⟩, st⟩ := X.specialBack hx (y := y) hin hown (mvT hZ w1) (mvT hZ w2) (mvT hZ w4) hy (backOf (W := W) C hZ w4 w3 hfr hlo) (g := mkF m pc Ls (argsL.reverse ++ Value.ref b :: rest)) rfl hml (Steps.refl _) (a := b) (argsL := argsL) (rest := rest) (fun sig h => by rw [hpd] at h; cases h; exact hlen) rfl hW (hb hby hd) (fun _ _ => ⟨rfl, eT, hce, hsl⟩)
  dsimp only [Pt.U, Pt.locs, Pt.cells, Pt.slots] at X4 l4 y4 z4 st hQ
  subst l4 y4 z4
  exact (K v T4 Lc X4 hQ).pull fun t k => st.trans k
theorem g_callV (X : Stand p l e R s m args below meth c T locs cells slots) (hx : p.tables.exec = Jvm.exec) {Z : State} {a0 : Array Value} (hZ : Z.Warmed39 s.vm) {own : String} (hown : s.vm.findClass own = some m.cls) {y : MethodName} {cb : ByteArray} {maxL : Nat} {ret : Option FieldType} {rm : Room} {as' : Array Value} {h : Heap} {Q' : Option Value → Heap → List Loc → Prop} {W : Nat} {index : Nat} {argsL : List Value} {b : Addr} {z : MethodName} {C0 : String} (hby : c.code = bytes) (hd : decode bytes pc = .ok (.invokevirtual index, 3)) (hp : pc + 3 = pc') (hml : Ls.size = c.maxLocals)
    (w1 : (Jvm.Cond.methodLink own index y).before a0 Z = true) (w2 : (Jvm.Cond.declares y).before a0 Z = true) (w5 : (Jvm.Cond.selects C0 y z).before a0 Z = true) (nf : NotFace s y) (w6 : (Jvm.Cond.instanceMethod z).before a0 Z = true) (w3 : (Jvm.Cond.initialized z.cls).before a0 Z = true) (w4 : (Jvm.Cond.code z cb maxL ret).before a0 Z = true) (hy : y.cls ≠ "java/lang/invoke/MethodHandle" ∧ y.cls ≠ "java/lang/invoke/VarHandle")
    (C : Ctr l Z z cb maxL ret [] rm as' h Q') (eT : T.heap = h) (E : Exa Z h b C0) (hfr : rm.frames + 1 ≤ R.frames) (hlo : W + (maxL + 11) + rm.locals ≤ R.locals) (hce : cells + rm.cells ≤ R.cells) (hsl : slots + rm.slots ≤ R.slots) {stk : List Value} {psig : MethodDescriptor} (has : (Value.ref b :: argsL).toArray = as') (hpd : parseMethodDescriptor y.desc = some psig) (hlen : argsL.length = psig.parameters.length) (hst : stk = argsL.reverse ++ Value.ref b :: rest) (hW : 2 * 0 + (rest.map fun v => v.category).sum ≤ W)
    (K : ∀ (v : Option Value) (T' : State) (L : List Loc), Stand p l e R s m args below meth c T' (locs ++ L) (cells + rm.cells) (slots + rm.slots) → Q' v T'.heap L → GoE p e below Fi (T'.setTop (mkF m pc' Ls (v.toList ++ rest)))) : GoE p e below Fi (T.setTop (mkF m pc Ls stk)) := by
  subst hp hst has
  obtain ⟨cq, kq, qa, qb, qc⟩ := isOf hZ eT E
  obtain ⟨v, _, ⟨T4, L4, k4, n4⟩, -, X4, ⟨Lc, hQ, l4, y4, z4⟩, st⟩ := X.virtualBack hx (y := y) (z := z) hown (mvT hZ w1) (mvT hZ w2) nf (mvT hZ w5) (mvT hZ w6) hy (backOf (W := W) C hZ w4 w3 hfr hlo) qa qc (g := mkF m pc Ls (argsL.reverse ++ Value.ref b :: rest)) rfl hml (Steps.refl _) (argsL := argsL) (rest := rest) (fun sig h => by rw [hpd] at h; cases h; exact hlen) rfl hW (hb hby hd) (fun _ _ => ⟨rfl, eT, hce, hsl⟩)
  dsimp only [Pt.U, Pt.locs, Pt.cells, Pt.slots] at X4 l4 y4 z4 st hQ
  subst l4 y4 z4
  exact (K v T4 Lc X4 hQ).pull fun t k => st.trans k
theorem g_new (X : Stand p l e R s m args below meth c T locs cells slots) (hx : p.tables.exec = Jvm.exec) {Z : State} {a0 : Array Value} (hZ : Z.Warmed39 s.vm) {own : String} (hown : s.vm.findClass own = some m.cls) {C : String} {index n : Nat} {h : Heap} (hby : c.code = bytes) (hd : decode bytes pc = .ok (.new index, 3)) (hp : pc + 3 = pc') (w1 : (Jvm.Cond.classLink own index C).before a0 Z = true) (w2 : (Jvm.Cond.instantiable C n).before a0 Z = true) (w3 : (Jvm.Cond.initialized C).before a0 Z = true) (eT : T.heap = h) (hce : cells + 1 ≤ R.cells) (hsl : slots + n ≤ R.slots)
    (K : ∀ (T' : State) (b : Addr), b = h.size → Stand p l e R s m args below meth c T' locs (cells + 1) (slots + n) → Ext h T'.heap → Exa Z T'.heap b C → (∀ {O nm d : String} {ty : FieldType}, Laid Z a0 C O nm d → parseFieldDescriptor d = some ty → Fld Z T'.heap b O nm d (defaultValue ty)) → GoE p e below Fi (T'.setTop (mkF m pc' Ls (.ref b :: rest)))) : GoE p e below Fi (T.setTop (mkF m pc Ls rest)) := by
  subst hp
  obtain ⟨T2, h2, X2, e2, E2, A2, D2, -, st2⟩ := newO X hx hZ hown w1 w2 w3 eT (g := mkF m pc Ls rest) rfl (hb hby hd) hce hsl
  subst e2
  exact (K T2 _ rfl X2 E2 A2 D2).pull st2
theorem g_initO (X : Stand p l e R s m args below meth c T locs cells slots) (hx : p.tables.exec = Jvm.exec) {Z : State} {a0 : Array Value} (hZ : Z.Warmed39 s.vm) {own : String} (hown : s.vm.findClass own = some m.cls) {index : Nat} {h : Heap} {cb : ByteArray} {b : Addr} {W maxL : Nat} (hby : c.code = bytes) (hd : decode bytes pc = .ok (.invokespecial index, 3)) (hp : pc + 3 = pc') (hml : Ls.size = c.maxLocals)
    (F : ∃ T', Stand p l e R s m args below meth c T' locs cells slots ∧ T'.heap = h ∧ ∀ target, Steps p.tables e below (T'.setTop (mkF m (pc + 3) Ls rest)) target → Steps p.tables e below (T.setTop (mkF m pc Ls (.ref b :: rest))) target)
    (K : ∀ T' : State, Stand p l e R s m args below meth c T' locs cells slots → T'.heap = h → GoE p e below Fi (T'.setTop (mkF m pc' Ls rest))) : GoE p e below Fi (T.setTop (mkF m pc Ls (.ref b :: rest))) := by
  subst hp
  obtain ⟨T2, X2, e2, st2⟩ := F
  exact (K T2 X2 e2).pull st2
theorem g_get (X : Stand p l e R s m args below meth c T locs cells slots) (hx : p.tables.exec = Jvm.exec) {Z : State} {a0 : Array Value} (hZ : Z.Warmed39 s.vm) {own : String} (hown : s.vm.findClass own = some m.cls) {O n d : String} {index : Nat} {h : Heap} {a : Addr} {v : Value} (hby : c.code = bytes) (hd : decode bytes pc = .ok (.getfield index, 3)) (hp : pc + 3 = pc') (w : (Jvm.Cond.fieldLink own index O n d).before a0 Z = true) (eT : T.heap = h) (F : Fld Z h a O n d v)
    (K : ∀ T' : State, Stand p l e R s m args below meth c T' locs cells slots → T'.heap = h → GoE p e below Fi (T'.setTop (mkF m pc' Ls (v :: rest)))) : GoE p e below Fi (T.setTop (mkF m pc Ls (.ref a :: rest))) := by
  subst hp
  obtain ⟨T2, X2, e2, st2⟩ := getF X hx hZ hown (host := "") (Or.inl w) Via.refl eT F (g := mkF m pc Ls (.ref a :: rest)) rfl rfl (hb hby hd)
  exact (K T2 X2 e2).pull st2
theorem g_put (X : Stand p l e R s m args below meth c T locs cells slots) (hx : p.tables.exec = Jvm.exec) {Z : State} {a0 : Array Value} (hZ : Z.Warmed39 s.vm) {own : String} (hown : s.vm.findClass own = some m.cls) {O n d C : String} {index kk : Nat} {ty : FieldType} {h : Heap} {a : Addr} {v old : Value} (hby : c.code = bytes) (hd : decode bytes pc = .ok (.putfield index, 3)) (hp : pc + 3 = pc') (w : (Jvm.Cond.fieldLink own index O n d).before a0 Z = true) (eT : T.heap = h) (F : Fld Z h a O n d old) (E : Exa Z h a C) (Lf : (Jvm.Cond.lays C O n d).before a0 Z = true ∨ ((Jvm.Cond.laysFinal C O n d).before a0 Z = true ∧ own = O ∧ meth.name = "<init>")) (wi : (Jvm.Cond.instantiable C kk).before a0 Z = true) (hty : parseFieldDescriptor d = some ty) (hn : narrow ty v = v) (hf : fits ty v = true)
    (K : ∀ T' : State, Stand p l e R s m args below meth c T' (locs ++ [⟨a, RoadKit.slotOf Z O n d⟩]) cells slots → Wr h T'.heap a (RoadKit.slotOf Z O n d) v → GoE p e below Fi (T'.setTop (mkF m pc' Ls rest))) : GoE p e below Fi (T.setTop (mkF m pc Ls (v :: .ref a :: rest))) := by
  subst hp
  obtain ⟨T2, h2, X2, e2, W2, st2⟩ := putF X hx hZ hown (host := "") (Or.inl w) Via.refl eT F E Lf wi hty hn hf (g := mkF m pc Ls (v :: .ref a :: rest)) rfl rfl (hb hby hd)
  subst e2
  exact (K T2 X2 W2).pull st2
theorem g_getS (X : Stand p l e R s m args below meth c T locs cells slots) (hx : p.tables.exec = Jvm.exec) {Z : State} {a0 : Array Value} (hZ : Z.Warmed39 s.vm) {own : String} (hown : s.vm.findClass own = some m.cls) {O n d : String} {index : Nat} {h : Heap} {v : Value} (hby : c.code = bytes) (hd : decode bytes pc = .ok (.getstatic index, 3)) (hp : pc + 3 = pc') (w : (Jvm.Cond.fieldLink own index O n d).before a0 Z = true) (eT : T.heap = h) (F : Sta Z h O n d v)
    (K : ∀ T' : State, Stand p l e R s m args below meth c T' locs cells slots → T'.heap = h → GoE p e below Fi (T'.setTop (mkF m pc' Ls (v :: rest)))) : GoE p e below Fi (T.setTop (mkF m pc Ls rest)) := by
  subst hp
  obtain ⟨T2, X2, e2, st2⟩ := getS X hx hZ hown (host := "") w Via.refl eT F (g := mkF m pc Ls rest) rfl (hb hby hd)
  exact (K T2 X2 e2).pull st2
theorem g_iaload (X : Stand p l e R s m args below meth c T locs cells slots) (hx : p.tables.exec = Jvm.exec) {Z : State} (hZ : Z.Warmed39 s.vm) {h : Heap} {a : Addr} {k : ClassId} {n : Int32} {vs : List Value} {dv : Value} {j : Int32} {v : Value} (hby : c.code = bytes) (hd : decode bytes pc = .ok (.iaload, 1)) (hp : pc + 1 = pc') (eT : T.heap = h) (F : Arv Z h a k .int n vs dv) (hj : ¬ j < 0 ∧ j < n) (u : vs.getD j.toNatClampNeg dv = v)
    (H : GoE p e below Fi (T.setTop (mkF m pc' Ls (v :: rest)))) : GoE p e below Fi (T.setTop (mkF m pc Ls (.int j :: .ref a :: rest))) := by
  subst hp
  obtain ⟨cl, A, q1, S, q3, Hh, G⟩ := F
  exact H.pull fun t k => X.iaload hx (by rw [eT]; exact A.1) (State.isArrayOf_alike hZ.alike A.2.1) A.2.2 (inb_of S hj) (Hh.at (inb_of S hj) u) (g := mkF m pc Ls (.int j :: .ref a :: rest)) rfl rfl (hb hby hd) _ k
theorem g_laload (X : Stand p l e R s m args below meth c T locs cells slots) (hx : p.tables.exec = Jvm.exec) {Z : State} (hZ : Z.Warmed39 s.vm) {h : Heap} {a : Addr} {k : ClassId} {n : Int32} {vs : List Value} {dv : Value} {j : Int32} {v : Value} (hby : c.code = bytes) (hd : decode bytes pc = .ok (.laload, 1)) (hp : pc + 1 = pc') (eT : T.heap = h) (F : Arv Z h a k .long n vs dv) (hj : ¬ j < 0 ∧ j < n) (u : vs.getD j.toNatClampNeg dv = v)
    (H : GoE p e below Fi (T.setTop (mkF m pc' Ls (v :: rest)))) : GoE p e below Fi (T.setTop (mkF m pc Ls (.int j :: .ref a :: rest))) := by
  subst hp
  obtain ⟨cl, A, q1, S, q3, Hh, G⟩ := F
  exact H.pull fun t k => X.laload hx (by rw [eT]; exact A.1) (State.isArrayOf_alike hZ.alike A.2.1) A.2.2 (inb_of S hj) (Hh.at (inb_of S hj) u) (g := mkF m pc Ls (.int j :: .ref a :: rest)) rfl rfl (hb hby hd) _ k
theorem g_caload (X : Stand p l e R s m args below meth c T locs cells slots) (hx : p.tables.exec = Jvm.exec) {Z : State} (hZ : Z.Warmed39 s.vm) {h : Heap} {a : Addr} {k : ClassId} {n : Int32} {vs : List Value} {dv : Value} {j : Int32} {v : Value} (hby : c.code = bytes) (hd : decode bytes pc = .ok (.caload, 1)) (hp : pc + 1 = pc') (eT : T.heap = h) (F : Arv Z h a k .char n vs dv) (hj : ¬ j < 0 ∧ j < n) (u : vs.getD j.toNatClampNeg dv = v)
    (H : GoE p e below Fi (T.setTop (mkF m pc' Ls (v :: rest)))) : GoE p e below Fi (T.setTop (mkF m pc Ls (.int j :: .ref a :: rest))) := by
  subst hp
  obtain ⟨cl, A, q1, S, q3, Hh, G⟩ := F
  exact H.pull fun t k => X.caload hx (by rw [eT]; exact A.1) (State.isArrayOf_alike hZ.alike A.2.1) A.2.2 (inb_of S hj) (Hh.at (inb_of S hj) u) (g := mkF m pc Ls (.int j :: .ref a :: rest)) rfl rfl (hb hby hd) _ k
theorem g_baload (X : Stand p l e R s m args below meth c T locs cells slots) (hx : p.tables.exec = Jvm.exec) {Z : State} (hZ : Z.Warmed39 s.vm) {h : Heap} {a : Addr} {k : ClassId} {n : Int32} {vs : List Value} {dv : Value} {j : Int32} {v : Value} (hby : c.code = bytes) (hd : decode bytes pc = .ok (.baload, 1)) (hp : pc + 1 = pc') (eT : T.heap = h) (F : Arv Z h a k .byte n vs dv) (hj : ¬ j < 0 ∧ j < n) (u : vs.getD j.toNatClampNeg dv = v)
    (H : GoE p e below Fi (T.setTop (mkF m pc' Ls (v :: rest)))) : GoE p e below Fi (T.setTop (mkF m pc Ls (.int j :: .ref a :: rest))) := by
  subst hp
  obtain ⟨cl, A, q1, S, q3, Hh, G⟩ := F
  exact H.pull fun t k => X.baloadBytes hx (by rw [eT]; exact A.1) (State.isArrayOf_alike hZ.alike A.2.1) A.2.2 (inb_of S hj) (Hh.at (inb_of S hj) u) (g := mkF m pc Ls (.int j :: .ref a :: rest)) rfl rfl (hb hby hd) _ k
theorem g_daload (X : Stand p l e R s m args below meth c T locs cells slots) (hx : p.tables.exec = Jvm.exec) {Z : State} (hZ : Z.Warmed39 s.vm) {h : Heap} {a : Addr} {k : ClassId} {n : Int32} {vs : List Value} {dv : Value} {j : Int32} {v : Value} (hby : c.code = bytes) (hd : decode bytes pc = .ok (.daload, 1)) (hp : pc + 1 = pc') (eT : T.heap = h) (F : Arv Z h a k .double n vs dv) (hj : ¬ j < 0 ∧ j < n) (u : vs.getD j.toNatClampNeg dv = v)
    (H : GoE p e below Fi (T.setTop (mkF m pc' Ls (v :: rest)))) : GoE p e below Fi (T.setTop (mkF m pc Ls (.int j :: .ref a :: rest))) := by
  subst hp
  obtain ⟨cl, A, q1, S, q3, Hh, G⟩ := F
  exact H.pull fun t k => X.daload hx (by rw [eT]; exact A.1) (State.isArrayOf_alike hZ.alike A.2.1) A.2.2 (inb_of S hj) (Hh.at (inb_of S hj) u) (g := mkF m pc Ls (.int j :: .ref a :: rest)) rfl rfl (hb hby hd) _ k
theorem g_aaload (X : Stand p l e R s m args below meth c T locs cells slots) (hx : p.tables.exec = Jvm.exec) {Z : State} (hZ : Z.Warmed39 s.vm) {h : Heap} {a : Addr} {k : ClassId} {n : Int32} {vs : List Value} {dv : Value} {ty : FieldType} {j : Int32} {v : Value} (hby : c.code = bytes) (hd : decode bytes pc = .ok (.aaload, 1)) (hp : pc + 1 = pc') (eT : T.heap = h) (F : Arv Z h a k ty n vs dv) (hty : ty.isReference = true) (hj : ¬ j < 0 ∧ j < n) (u : vs.getD j.toNatClampNeg dv = v)
    (H : GoE p e below Fi (T.setTop (mkF m pc' Ls (v :: rest)))) : GoE p e below Fi (T.setTop (mkF m pc Ls (.int j :: .ref a :: rest))) := by
  subst hp
  obtain ⟨cl, A, q1, S, q3, Hh, G⟩ := F
  exact H.pull fun t k => X.aaload hx (by rw [eT]; exact A.1) (State.isArrayOf_alike hZ.alike A.2.1) hty A.2.2 (inb_of S hj) (Hh.at (inb_of S hj) u) (g := mkF m pc Ls (.int j :: .ref a :: rest)) rfl rfl (hb hby hd) _ k
theorem g_alen (X : Stand p l e R s m args below meth c T locs cells slots) (hx : p.tables.exec = Jvm.exec) {Z : State} (hZ : Z.Warmed39 s.vm) {h : Heap} {a : Addr} {k : ClassId} {n : Int32} {vs : List Value} {dv : Value} {ty : FieldType} (hby : c.code = bytes) (hd : decode bytes pc = .ok (.arraylength, 1)) (hp : pc + 1 = pc') (eT : T.heap = h) (F : Arv Z h a k ty n vs dv)
    (H : GoE p e below Fi (T.setTop (mkF m pc' Ls (.int n :: rest)))) : GoE p e below Fi (T.setTop (mkF m pc Ls (.ref a :: rest))) := by
  subst hp
  obtain ⟨cl, A, q1, S, q3, Hh, G⟩ := F
  exact H.pull fun t k => X.arraylength hx (by rw [eT]; exact A.1) (State.isArrayOf_alike hZ.alike A.2.1) (g := mkF m pc Ls (.ref a :: rest)) rfl rfl (hb hby hd) _ (by rw [len_of S q3]; exact k)
theorem g_iastore (X : Stand p l e R s m args below meth c T locs cells slots) (hx : p.tables.exec = Jvm.exec) {Z : State} (hZ : Z.Warmed39 s.vm) {h : Heap} {a : Addr} {k : ClassId} {n : Int32} {vs : List Value} {dv : Value} {j : Int32} {x : Int32} (i : Nat) (hby : c.code = bytes) (hd : decode bytes pc = .ok (.iastore, 1)) (hp : pc + 1 = pc') (eT : T.heap = h) (F : Arv Z h a k .int n vs dv) (hj : ¬ j < 0 ∧ j < n) (hji : j.toNatClampNeg = i) (hi : i < vs.length)
    (K : ∀ T' : State, Stand p l e R s m args below meth c T' (locs ++ [⟨a, j.toNatClampNeg⟩]) cells slots → Wr h T'.heap a j.toNatClampNeg (.int x) → Arv Z T'.heap a k .int n (vs.set i (.int x)) dv → GoE p e below Fi (T'.setTop (mkF m pc' Ls rest))) : GoE p e below Fi (T.setTop (mkF m pc Ls (.int x :: .int j :: .ref a :: rest))) := by
  subst hp
  obtain ⟨cl, A, q1, S, q3, Hh, G⟩ := F
  obtain ⟨T2, h2, X2, e2, W2, st2⟩ := stI X hx hZ eT A (inb_of S hj) (g := mkF m pc Ls (.int x :: .int j :: .ref a :: rest)) rfl rfl (hb hby hd)
  subst e2
  exact (K T2 X2 W2 (Arv.set A q1 S q3 Hh G rfl W2 i hji hi)).pull st2
theorem g_lastore (X : Stand p l e R s m args below meth c T locs cells slots) (hx : p.tables.exec = Jvm.exec) {Z : State} (hZ : Z.Warmed39 s.vm) {h : Heap} {a : Addr} {k : ClassId} {n : Int32} {vs : List Value} {dv : Value} {j : Int32} {x : Int64} (i : Nat) (hby : c.code = bytes) (hd : decode bytes pc = .ok (.lastore, 1)) (hp : pc + 1 = pc') (eT : T.heap = h) (F : Arv Z h a k .long n vs dv) (hj : ¬ j < 0 ∧ j < n) (hji : j.toNatClampNeg = i) (hi : i < vs.length)
    (K : ∀ T' : State, Stand p l e R s m args below meth c T' (locs ++ [⟨a, j.toNatClampNeg⟩]) cells slots → Wr h T'.heap a j.toNatClampNeg (.long x) → Arv Z T'.heap a k .long n (vs.set i (.long x)) dv → GoE p e below Fi (T'.setTop (mkF m pc' Ls rest))) : GoE p e below Fi (T.setTop (mkF m pc Ls (.long x :: .int j :: .ref a :: rest))) := by
  subst hp
  obtain ⟨cl, A, q1, S, q3, Hh, G⟩ := F
  obtain ⟨T2, h2, X2, e2, W2, st2⟩ := stJ X hx hZ eT A (inb_of S hj) (g := mkF m pc Ls (.long x :: .int j :: .ref a :: rest)) rfl rfl (hb hby hd)
  subst e2
  exact (K T2 X2 W2 (Arv.set A q1 S q3 Hh G rfl W2 i hji hi)).pull st2
theorem g_castore (X : Stand p l e R s m args below meth c T locs cells slots) (hx : p.tables.exec = Jvm.exec) {Z : State} (hZ : Z.Warmed39 s.vm) {h : Heap} {a : Addr} {k : ClassId} {n : Int32} {vs : List Value} {dv : Value} {j : Int32} {x : Int32} (i : Nat) (hby : c.code = bytes) (hd : decode bytes pc = .ok (.castore, 1)) (hp : pc + 1 = pc') (eT : T.heap = h) (F : Arv Z h a k .char n vs dv) (hj : ¬ j < 0 ∧ j < n) (hji : j.toNatClampNeg = i) (hi : i < vs.length)
    (K : ∀ T' : State, Stand p l e R s m args below meth c T' (locs ++ [⟨a, j.toNatClampNeg⟩]) cells slots → Wr h T'.heap a j.toNatClampNeg (.int (nar .char x)) → Arv Z T'.heap a k .char n (vs.set i (.int (nar .char x))) dv → GoE p e below Fi (T'.setTop (mkF m pc' Ls rest))) : GoE p e below Fi (T.setTop (mkF m pc Ls (.int x :: .int j :: .ref a :: rest))) := by
  subst hp
  obtain ⟨cl, A, q1, S, q3, Hh, G⟩ := F
  obtain ⟨T2, h2, X2, e2, W2, st2⟩ := stC X hx hZ eT A (inb_of S hj) (g := mkF m pc Ls (.int x :: .int j :: .ref a :: rest)) rfl rfl (hb hby hd)
  subst e2
  exact (K T2 X2 W2 (Arv.set A q1 S q3 Hh G (fits_nar_char x) W2 i hji hi)).pull st2
theorem g_bastore (X : Stand p l e R s m args below meth c T locs cells slots) (hx : p.tables.exec = Jvm.exec) {Z : State} (hZ : Z.Warmed39 s.vm) {h : Heap} {a : Addr} {k : ClassId} {n : Int32} {vs : List Value} {dv : Value} {j : Int32} {x : Int32} (i : Nat) (hby : c.code = bytes) (hd : decode bytes pc = .ok (.bastore, 1)) (hp : pc + 1 = pc') (eT : T.heap = h) (F : Arv Z h a k .byte n vs dv) (hj : ¬ j < 0 ∧ j < n) (hji : j.toNatClampNeg = i) (hi : i < vs.length)
    (K : ∀ T' : State, Stand p l e R s m args below meth c T' (locs ++ [⟨a, j.toNatClampNeg⟩]) cells slots → Wr h T'.heap a j.toNatClampNeg (.int (nar .byte x)) → Arv Z T'.heap a k .byte n (vs.set i (.int (nar .byte x))) dv → GoE p e below Fi (T'.setTop (mkF m pc' Ls rest))) : GoE p e below Fi (T.setTop (mkF m pc Ls (.int x :: .int j :: .ref a :: rest))) := by
  subst hp
  obtain ⟨cl, A, q1, S, q3, Hh, G⟩ := F
  obtain ⟨T2, h2, X2, e2, W2, st2⟩ := stB X hx hZ eT A (inb_of S hj) (g := mkF m pc Ls (.int x :: .int j :: .ref a :: rest)) rfl rfl (hb hby hd)
  subst e2
  exact (K T2 X2 W2 (Arv.set A q1 S q3 Hh G (fits_nar_byte x) W2 i hji hi)).pull st2
theorem g_dastore (X : Stand p l e R s m args below meth c T locs cells slots) (hx : p.tables.exec = Jvm.exec) {Z : State} (hZ : Z.Warmed39 s.vm) {h : Heap} {a : Addr} {k : ClassId} {n : Int32} {vs : List Value} {dv : Value} {j : Int32} {x : UInt64} (i : Nat) (hby : c.code = bytes) (hd : decode bytes pc = .ok (.dastore, 1)) (hp : pc + 1 = pc') (eT : T.heap = h) (F : Arv Z h a k .double n vs dv) (hj : ¬ j < 0 ∧ j < n) (hji : j.toNatClampNeg = i) (hi : i < vs.length)
    (K : ∀ T' : State, Stand p l e R s m args below meth c T' (locs ++ [⟨a, j.toNatClampNeg⟩]) cells slots → Wr h T'.heap a j.toNatClampNeg (.double x) → Arv Z T'.heap a k .double n (vs.set i (.double x)) dv → GoE p e below Fi (T'.setTop (mkF m pc' Ls rest))) : GoE p e below Fi (T.setTop (mkF m pc Ls (.double x :: .int j :: .ref a :: rest))) := by
  subst hp
  obtain ⟨cl, A, q1, S, q3, Hh, G⟩ := F
  obtain ⟨T2, h2, X2, e2, W2, st2⟩ := stD X hx hZ eT A (inb_of S hj) (g := mkF m pc Ls (.double x :: .int j :: .ref a :: rest)) rfl rfl (hb hby hd)
  subst e2
  exact (K T2 X2 W2 (Arv.set A q1 S q3 Hh G rfl W2 i hji hi)).pull st2
theorem g_newarray (X : Stand p l e R s m args below meth c T locs cells slots) (hx : p.tables.exec = Jvm.exec) {Z : State} {a0 : Array Value} (hZ : Z.Warmed39 s.vm) {aty : ArrayType} {h : Heap} {n : Int32} (cap : Nat) (ad : String) (hby : c.code = bytes) (hd : decode bytes pc = .ok (.newarray aty, 2)) (hp : pc + 2 = pc') (w : (Jvm.Cond.arrayClass (newarray.typeOf aty)).before a0 Z = true) (eT : T.heap = h) (hn : ¬ n < 0) (hcap : n.toNatClampNeg ≤ cap) (hbg : cap * 8 ≤ 536870912) (hce : cells + 1 ≤ R.cells) (hsl : slots + cap ≤ R.slots) (had : "[" ++ (newarray.typeOf aty).toString = ad)
    (K : ∀ (T' : State) (b : Addr) (cA : ClassId), b = h.size → Stand p l e R s m args below meth c T' locs (cells + 1) (slots + cap) → Ext h T'.heap → Arv Z T'.heap b cA (newarray.typeOf aty) n (List.replicate cap (defaultValue (newarray.typeOf aty))) (defaultValue (newarray.typeOf aty)) → Exa Z T'.heap b ad → GoE p e below Fi (T'.setTop (mkF m pc' Ls (.ref b :: rest)))) : GoE p e below Fi (T.setTop (mkF m pc Ls (.int n :: rest))) := by
  subst hp
  obtain ⟨T2, h2, cA, X2, e2, E2, A2, Ex2, st2⟩ := newPE X hx hZ w eT (g := mkF m pc Ls (.int n :: rest)) rfl (hb hby hd) rfl hn hcap hbg hce hsl had
  subst e2
  exact (K T2 _ cA rfl X2 E2 ((Arv.new A2 hn).pad (pad_rep [] _ cap)) Ex2).pull st2
theorem g_lswHit (X : Stand p l e R s m args below meth c T locs cells slots) (hx : p.tables.exec = Jvm.exec) {k : Int32} {dflt : Int} {pairs : Array (Int × Int)} {len : Nat} {a off : Int} (hby : c.code = bytes) (hd : decode bytes pc = .ok (.lookupswitch dflt pairs, len)) (hs : (pairs.toList.zip (pairs.toList.drop 1)).all (fun (a, next) => a.1 < next.1) = true) (hf : pairs.find? (·.1 == k.toInt) = some (a, off)) (ho : 0 ≤ (pc : Int) + off) (hp : ((pc : Int) + off).toNat = pc')
    (H : GoE p e below Fi (T.setTop (mkF m pc' Ls rest))) : GoE p e below Fi (T.setTop (mkF m pc Ls (.int k :: rest))) := by
  subst hp
  exact H.pull fun t q => X.lookupswitchHit hx (g := mkF m pc Ls (.int k :: rest)) rfl rfl (hb hby hd) hs hf ho _ q
theorem g_lswMiss (X : Stand p l e R s m args below meth c T locs cells slots) (hx : p.tables.exec = Jvm.exec) {k : Int32} {dflt : Int} {pairs : Array (Int × Int)} {len : Nat} (hby : c.code = bytes) (hd : decode bytes pc = .ok (.lookupswitch dflt pairs, len)) (hs : (pairs.toList.zip (pairs.toList.drop 1)).all (fun (a, next) => a.1 < next.1) = true) (hf : pairs.find? (·.1 == k.toInt) = none) (ho : 0 ≤ (pc : Int) + dflt) (hp : ((pc : Int) + dflt).toNat = pc')
    (H : GoE p e below Fi (T.setTop (mkF m pc' Ls rest))) : GoE p e below Fi (T.setTop (mkF m pc Ls (.int k :: rest))) := by
  subst hp
  exact H.pull fun t q => X.lookupswitchMiss hx (g := mkF m pc Ls (.int k :: rest)) rfl rfl (hb hby hd) hs hf ho _ q
theorem g_castY (X : Stand p l e R s m args below meth c T locs cells slots) (hx : p.tables.exec = Jvm.exec) {Z : State} {a0 : Array Value} (hZ : Z.Warmed39 s.vm) {own : String} (hown : s.vm.findClass own = some m.cls) {C : String} {index : Nat} {h : Heap} {a : Addr} (hby : c.code = bytes) (hd : decode bytes pc = .ok (.checkcast index, 3)) (hp : pc + 3 = pc') (w : (Jvm.Cond.classLink own index C).before a0 Z = true) (eT : T.heap = h) (F : Ins Z h a C true)
    (K : ∀ T' : State, Stand p l e R s m args below meth c T' locs cells slots → T'.heap = h → GoE p e below Fi (T'.setTop (mkF m pc' Ls (.ref a :: rest)))) : GoE p e below Fi (T.setTop (mkF m pc Ls (.ref a :: rest))) := by
  subst hp
  obtain ⟨T2, X2, e2, st2⟩ := castY X hx hZ hown w eT F (g := mkF m pc Ls (.ref a :: rest)) rfl rfl (hb hby hd)
  exact (K T2 X2 e2).pull st2
theorem g_instY (X : Stand p l e R s m args below meth c T locs cells slots) (hx : p.tables.exec = Jvm.exec) {Z : State} {a0 : Array Value} (hZ : Z.Warmed39 s.vm) {own : String} (hown : s.vm.findClass own = some m.cls) {C : String} {index : Nat} {h : Heap} {a : Addr} (hby : c.code = bytes) (hd : decode bytes pc = .ok (.instanceof index, 3)) (hp : pc + 3 = pc') (w : (Jvm.Cond.classLink own index C).before a0 Z = true) (eT : T.heap = h) (F : Ins Z h a C true)
    (K : ∀ T' : State, Stand p l e R s m args below meth c T' locs cells slots → T'.heap = h → GoE p e below Fi (T'.setTop (mkF m pc' Ls (.int 1 :: rest)))) : GoE p e below Fi (T.setTop (mkF m pc Ls (.ref a :: rest))) := by
  subst hp
  obtain ⟨T2, X2, e2, st2⟩ := instY X hx hZ hown w eT F (g := mkF m pc Ls (.ref a :: rest)) rfl rfl (hb hby hd)
  exact (K T2 X2 e2).pull st2
theorem g_instNo (X : Stand p l e R s m args below meth c T locs cells slots) (hx : p.tables.exec = Jvm.exec) {Z : State} {a0 : Array Value} (hZ : Z.Warmed39 s.vm) {own : String} (hown : s.vm.findClass own = some m.cls) {C D : String} {index : Nat} {h : Heap} {a : Addr} (hby : c.code = bytes) (hd : decode bytes pc = .ok (.instanceof index, 3)) (hp : pc + 3 = pc') (w : (Jvm.Cond.classLink own index C).before a0 Z = true) (eT : T.heap = h) (E : Exa Z h a D) (F : ∃ c t, Z.vm.findClass D = some c ∧ Z.vm.findClass C = some t ∧ Z.vm.assignable c t = false)
    (K : ∀ T' : State, Stand p l e R s m args below meth c T' locs cells slots → T'.heap = h → GoE p e below Fi (T'.setTop (mkF m pc' Ls (.int 0 :: rest)))) : GoE p e below Fi (T.setTop (mkF m pc Ls (.ref a :: rest))) := by
  subst hp
  obtain ⟨T2, X2, e2, st2⟩ := instNo X hx hZ hown w eT E F (g := mkF m pc Ls (.ref a :: rest)) rfl rfl (hb hby hd)
  exact (K T2 X2 e2).pull st2
theorem g_callIf (X : Stand p l e R s m args below meth c T locs cells slots) (hx : p.tables.exec = Jvm.exec) {Z : State} {a0 : Array Value} (hZ : Z.Warmed39 s.vm) {own : String} (hown : s.vm.findClass own = some m.cls) {y : MethodName} {cb : ByteArray} {maxL : Nat} {ret : Option FieldType} {rm : Room} {as' : Array Value} {h : Heap} {Q' : Option Value → Heap → List Loc → Prop} {W : Nat} {index : Nat} {argsL : List Value} {b : Addr} {z : MethodName} {C0 : String} {count : Nat} (hby : c.code = bytes) (hd : decode bytes pc = .ok (.invokeinterface index count, 5)) (hp : pc + 5 = pc') (hml : Ls.size = c.maxLocals)
    (w1 : (Jvm.Cond.methodLink own index y).before a0 Z = true) (w2 : (Jvm.Cond.declares y).before a0 Z = true) (w7 : (Jvm.Cond.interfaceMethod y.cls y.cls y.name y.desc).before a0 Z = true) (hd7 : ((Jvm.Cond.interfaceMethod y.cls y.cls y.name y.desc).onTables && (Jvm.Cond.interfaceMethod y.cls y.cls y.name y.desc).keepsFace) = true) (w5 : (Jvm.Cond.selects C0 y z).before a0 Z = true) (w6 : (Jvm.Cond.instanceMethod z).before a0 Z = true) (w8 : (Jvm.Cond.publicMethod z).before a0 Z = true) (w9 : (Jvm.Cond.unhidden C0 y.name y.desc).before a0 Z = true) (w10 : (Jvm.Cond.castable C0 y.cls).before a0 Z = true) (w3 : (Jvm.Cond.initialized z.cls).before a0 Z = true) (w4 : (Jvm.Cond.code z cb maxL ret).before a0 Z = true) (hy : y.cls ≠ "java/lang/invoke/MethodHandle" ∧ y.cls ≠ "java/lang/invoke/VarHandle")
    (C : Ctr l Z z cb maxL ret [] rm as' h Q') (eT : T.heap = h) (E : Exa Z h b C0) (hfr : rm.frames + 1 ≤ R.frames) (hlo : W + (maxL + 11) + rm.locals ≤ R.locals) (hce : cells + rm.cells ≤ R.cells) (hsl : slots + rm.slots ≤ R.slots) {stk : List Value} {psig : MethodDescriptor} (has : (Value.ref b :: argsL).toArray = as') (hpd : parseMethodDescriptor y.desc = some psig) (hlen : argsL.length = psig.parameters.length) (hst : stk = argsL.reverse ++ Value.ref b :: rest) (hW : 2 * 0 + (rest.map fun v => v.category).sum ≤ W)
    (K : ∀ (v : Option Value) (T' : State) (L : List Loc), Stand p l e R s m args below meth c T' (locs ++ L) (cells + rm.cells) (slots + rm.slots) → Q' v T'.heap L → GoE p e below Fi (T'.setTop (mkF m pc' Ls (v.toList ++ rest)))) : GoE p e below Fi (T.setTop (mkF m pc Ls stk)) := by
  subst hp hst has
  obtain ⟨cq, kq, qa, qb, qc⟩ := isOf hZ eT E
  obtain ⟨v, _, ⟨T4, L4, k4, n4⟩, -, X4, ⟨Lc, hQ, l4, y4, z4⟩, st⟩ := X.interfaceBack hx (xi := y) (y := z) hown (mvT hZ w1) (mvT hZ w2) (mvT hZ w7 hd7) (mvT hZ w5) (mvT hZ w6) (mvT hZ w8) (mvT hZ w9) (mvT hZ w10) hy (backOf (W := W) C hZ w4 w3 hfr hlo) qa qb qc (g := mkF m pc Ls (argsL.reverse ++ Value.ref b :: rest)) rfl hml (Steps.refl _) (argsL := argsL) (rest := rest) (fun sig h => by rw [hpd] at h; cases h; exact hlen) rfl hW (hb hby hd) (fun _ _ => ⟨rfl, eT, hce, hsl⟩)
  dsimp only [Pt.U, Pt.locs, Pt.cells, Pt.slots] at X4 l4 y4 z4 st hQ
  subst l4 y4 z4
  exact (K v T4 Lc X4 hQ).pull fun t k => st.trans k
theorem g_anewarrayA (X : Stand p l e R s m args below meth c T locs cells slots) (hx : p.tables.exec = Jvm.exec) {Z : State} {a0 : Array Value} (hZ : Z.Warmed39 s.vm) {own : String} (hown : s.vm.findClass own = some m.cls) {C : String} {ty : FieldType} {index : Nat} {h : Heap} {n : Int32} (cap : Nat) (ad : String) (hby : c.code = bytes) (hd : decode bytes pc = .ok (.anewarray index, 3)) (hp : pc + 3 = pc') (hC : (FieldType.array ty).toString = C) (w1 : (Jvm.Cond.classLink own index C).before a0 Z = true) (w2 : (Jvm.Cond.arrayOver (.array ty)).before a0 Z = true) (eT : T.heap = h) (hn : ¬ n < 0) (hcap : n.toNatClampNeg ≤ cap) (hbg : cap * 8 ≤ 536870912) (hce : cells + 1 ≤ R.cells) (hsl : slots + cap ≤ R.slots) (had : "[" ++ C = ad)
    (K : ∀ (T' : State) (b : Addr) (cA : ClassId), b = h.size → Stand p l e R s m args below meth c T' locs (cells + 1) (slots + cap) → Ext h T'.heap → Arv Z T'.heap b cA (.array ty) n (List.replicate cap .null) .null → Exa Z T'.heap b ad → OvrA Z cA ty C → GoE p e below Fi (T'.setTop (mkF m pc' Ls (.ref b :: rest)))) : GoE p e below Fi (T.setTop (mkF m pc Ls (.int n :: rest))) := by
  subst hp
  obtain ⟨T2, h2, cA, X2, e2, E2, A2, Ex2, O2, st2⟩ := newRA X hx hZ hown hC w1 w2 eT (g := mkF m pc Ls (.int n :: rest)) rfl (hb hby hd) rfl hn hcap hbg hce hsl had
  subst e2
  exact (K T2 _ cA rfl X2 E2 ((Arv.new A2 hn).pad (pad_rep [] _ cap)) Ex2 O2).pull st2
theorem g_aastore (X : Stand p l e R s m args below meth c T locs cells slots) (hx : p.tables.exec = Jvm.exec) {Z : State} (hZ : Z.Warmed39 s.vm) {h : Heap} {a : Addr} {k : ClassId} {n : Int32} {vs : List Value} {dv : Value} {ty : FieldType} {j : Int32} {v : Value} (i : Nat) (hby : c.code = bytes) (hd : decode bytes pc = .ok (.aastore, 1)) (hp : pc + 1 = pc') (eT : T.heap = h) (F : Arv Z h a k ty n vs dv) (hty : ty.isReference = true) (hS : ∀ cl : Cell, Arr Z h a cl ty → cl.cls = k → Sto Z h a v) (hfv : fits ty v = true) (hj : ¬ j < 0 ∧ j < n) (hji : j.toNatClampNeg = i) (hi : i < vs.length)
    (K : ∀ T' : State, Stand p l e R s m args below meth c T' (locs ++ [⟨a, j.toNatClampNeg⟩]) cells slots → Wr h T'.heap a j.toNatClampNeg v → Arv Z T'.heap a k ty n (vs.set i v) dv → GoE p e below Fi (T'.setTop (mkF m pc' Ls rest))) : GoE p e below Fi (T.setTop (mkF m pc Ls (v :: .int j :: .ref a :: rest))) := by
  subst hp
  obtain ⟨cl, A, q1, S, q3, Hh, G⟩ := F
  obtain ⟨T2, h2, X2, e2, W2, st2⟩ := stR X hx hZ eT A (inb_of S hj) hty (hS cl A q1) (g := mkF m pc Ls (v :: .int j :: .ref a :: rest)) rfl rfl (hb hby hd)
  subst e2
  exact (K T2 X2 W2 (Arv.set A q1 S q3 Hh G hfv W2 i hji hi)).pull st2
theorem g_eqI {a b : Int32} (h : a = b) (K : GoE p e below Fi (T.setTop (mkF m pc Ls (.int b :: rest)))) : GoE p e below Fi (T.setTop (mkF m pc Ls (.int a :: rest))) := h ▸ K
theorem g_eqL {a b : Int64} (h : a = b) (K : GoE p e below Fi (T.setTop (mkF m pc Ls (.long b :: rest)))) : GoE p e below Fi (T.setTop (mkF m pc Ls (.long a :: rest))) := h ▸ K
theorem g_newarrayV (X : Stand p l e R s m args below meth c T locs cells slots) (hx : p.tables.exec = Jvm.exec) {Z : State} {a0 : Array Value} (hZ : Z.Warmed39 s.vm) {aty : ArrayType} {h : Heap} {n : Int32} (cap vc : Nat) (ad : String) (hby : c.code = bytes) (hd : decode bytes pc = .ok (.newarray aty, 2)) (hp : pc + 2 = pc') (w : (Jvm.Cond.arrayClass (newarray.typeOf aty)).before a0 Z = true) (eT : T.heap = h) (hn : ¬ n < 0) (hcap : n.toNatClampNeg ≤ cap) (hbg : cap * 8 ≤ 536870912) (hce : cells + 1 ≤ R.cells) (hsl : slots + cap ≤ R.slots) (had : "[" ++ (newarray.typeOf aty).toString = ad)
    (K : ∀ (T' : State) (b : Addr) (cA : ClassId), b = h.size → Stand p l e R s m args below meth c T' locs (cells + 1) (slots + cap) → Ext h T'.heap → Arv Z T'.heap b cA (newarray.typeOf aty) n (List.replicate vc (defaultValue (newarray.typeOf aty))) (defaultValue (newarray.typeOf aty)) → Exa Z T'.heap b ad → GoE p e below Fi (T'.setTop (mkF m pc' Ls (.ref b :: rest)))) : GoE p e below Fi (T.setTop (mkF m pc Ls (.int n :: rest))) := by
  subst hp
  obtain ⟨T2, h2, cA, X2, e2, E2, A2, Ex2, st2⟩ := newPE X hx hZ w eT (g := mkF m pc Ls (.int n :: rest)) rfl (hb hby hd) rfl hn hcap hbg hce hsl had
  subst e2
  exact (K T2 _ cA rfl X2 E2 ((Arv.new A2 hn).pad (pad_rep [] _ vc)) Ex2).pull st2
theorem g_arraycopy (X : Stand p l e R s m args below meth c T locs cells slots) (hx : p.tables.exec = Jvm.exec) {Z : State} {a0 : Array Value} (hZ : Z.Warmed39 s.vm) {own : String} (hown : s.vm.findClass own = some m.cls) {index : Nat} {h : Heap} {a b : Addr} {k k' : ClassId} {ty : FieldType} {n z' sp dp nn : Int32} {vs vd us : List Value} {dv dd : Value} {W n0 : Nat} (hby : c.code = bytes) (hd : decode bytes pc = .ok (.invokestatic index, 3)) (hp : pc + 3 = pc') (hml : Ls.size = c.maxLocals)
    (w1 : (Jvm.Cond.methodLink own index Jvm.Stand.acN).before a0 Z = true) (w2 : (Jvm.Cond.native Jvm.Stand.acN).before a0 Z = true) (w3 : (Jvm.Cond.static Jvm.Stand.acN).before a0 Z = true) (w4 : (Jvm.Cond.initialized "java/lang/System").before a0 Z = true) (eT : T.heap = h) (A : Arv Z h a k ty n vs dv) (B : Arv Z h b k' ty z' vd dd) (hr : refKind ty = false)
    (h1 : ¬ sp < 0) (h2 : ¬ dp < 0) (h3 : ¬ nn < 0) (h4 : sp.toNatClampNeg + nn.toNatClampNeg ≤ n.toNatClampNeg) (h5 : dp.toNatClampNeg + nn.toNatClampNeg ≤ z'.toNatClampNeg) (hus : us = (List.range nn.toNatClampNeg).map fun i => vs.getD (sp.toNatClampNeg + i) dv) (hl : dp.toNatClampNeg + nn.toNatClampNeg ≤ vd.length) (N : Fr n0 locs) (ge : n0 ≤ b)
    (hf : 1 ≤ R.frames) (hW : 2 * 0 + (rest.map fun v => v.category).sum ≤ W) (hlo : W + (nativeFrameWords "java/lang/System" "arraycopy" 5 + 11) ≤ R.locals)
    (K : ∀ (T' : State) (L : List Loc), Stand p l e R s m args below meth c T' L cells slots → Fr n0 L → Keep h T'.heap [b] → Arv Z T'.heap b k' ty z' (vd.take dp.toNatClampNeg ++ us ++ vd.drop (dp.toNatClampNeg + nn.toNatClampNeg)) dd → GoE p e below Fi (T'.setTop (mkF m pc' Ls rest))) : GoE p e below Fi (T.setTop (mkF m pc Ls (.int nn :: .int dp :: .ref b :: .int sp :: .ref a :: rest))) := by
  subst hp
  obtain ⟨T2, h2', L2, X2, e2, N2, K2, A2, st2⟩ := cpA X hx hZ hown w1 w2 w3 w4 eT A B (Or.inl ⟨rfl, hr⟩) h1 h2 h3 h4 h5 hus hl N ge (g := mkF m pc Ls (.int nn :: .int dp :: .ref b :: .int sp :: .ref a :: rest)) rfl hml rfl (hb hby hd) hf hW hlo
  subst e2
  exact (K T2 L2 X2 N2 K2 A2).pull st2
end GoKit
theorem own_lenS {args : Array Value} {s : State} {t : Term} {b : Addr} {cl : Cell} {ty : FieldType} {n : Int32} (ht : t.eval args s none [] s = some (.ref b)) (A : Arr s s.heap b cl ty) (h : (Jvm.Cond.eq (.length t) (.int n)).value args s none s [] = some true) : cl.slots.size < 2 ^ 31 ∧ cl.slots.size.toInt32 = n := by
  obtain ⟨x, y, h1, h2, -, -⟩ := cmp_v (Or.inl h)
  have hA : s.arrayAt? b = some cl := A.fin (Vm.Alike.refl _)
  by_cases q : cl.slots.size < 2 ^ 31
  · exact ⟨q, gotT (Cond.eq_ints (len_f ht hA q) (Term.int_eval n)) h⟩
  · exfalso
    have h3 : (Term.length t).eval args s none [] s = none := by
      simp only [Term.eval, ht, Option.bind_eq_bind, Option.bind_some, hA]
      exact if_neg q
    rw [h3] at h1; cases h1
theorem own_elemI {args : Array Value} {s : State} {t : Term} {b : Addr} {cl : Cell} {i v : Int32} (ht : t.eval args s none [] s = some (.ref b)) (hc : s.heap[b]? = some cl) (h : (Jvm.Cond.eq (.elem t (.int i)) (.int v)).value args s none s [] = some true) : cl.slots[i.toNatClampNeg]? = some (.int v) := by
  obtain ⟨x, y, h1, h2, -, hk⟩ := cmp_v (Or.inl h)
  cases (Term.int_eval v).symm.trans h2
  obtain ⟨c2, e1, -, e3⟩ := elem_at h1 ht (Term.int_eval i)
  cases hc.symm.trans e1
  obtain ⟨x, rfl⟩ : ∃ z, x = Value.int z := hk
  rw [e3]
  have := gotT (Cond.eq_ints h1 (Term.int_eval v)) h
  rw [this]
theorem own_elemL {args : Array Value} {s : State} {t : Term} {b : Addr} {cl : Cell} {i : Int32} {v : Int64} (ht : t.eval args s none [] s = some (.ref b)) (hc : s.heap[b]? = some cl) (h : (Jvm.Cond.eq (.elem t (.int i)) (.long v)).value args s none s [] = some true) : cl.slots[i.toNatClampNeg]? = some (.long v) := by
  obtain ⟨x, y, h1, h2, -, hk⟩ := cmp_v (Or.inl h)
  have h2' : (Term.long v).eval args s none [] s = some (.long v) := by simp [Term.eval]
  cases h2'.symm.trans h2
  obtain ⟨c2, e1, -, e3⟩ := elem_at h1 ht (Term.int_eval i)
  cases hc.symm.trans e1
  obtain ⟨x, rfl⟩ : ∃ z, x = Value.long z := hk
  rw [e3]
  have := gotT (eq_L h1 h2') h
  rw [this]
theorem own_fldI {args : Array Value} {s : State} {t : Term} {b : Addr} {C n : String} {v : Int32} (ht : t.eval args s none [] s = some (.ref b)) (h : (Jvm.Cond.eq (.field t C n "I") (.int v)).value args s none s [] = some true) : Fld s s.heap b C n "I" (.int v) := by
  obtain ⟨x, y, h1, h2, -, hk⟩ := cmp_v (Or.inl h)
  cases (Term.int_eval v).symm.trans h2
  have h3 := h1
  rw [fld_at ht] at h3
  obtain ⟨x, rfl⟩ : ∃ z, x = Value.int z := hk
  have := gotT (Cond.eq_ints h1 (Term.int_eval v)) h
  rw [this] at h3
  exact Fld.start h3
theorem own_fldN {args : Array Value} {s : State} {t : Term} {b : Addr} {C n d : String} (ht : t.eval args s none [] s = some (.ref b)) (h : (Jvm.Cond.eq (.field t C n d) .null).value args s none s [] = some true) : Fld s s.heap b C n d .null := by
  have h1 := null_v h
  rw [fld_at ht] at h1
  exact Fld.start h1
theorem own_stI {args : Array Value} {s : State} {t : Term} {v : Int32} (h : (Jvm.Cond.eq t (.int v)).value args s none s [] = some true) : t.eval args s none [] s = some (.int v) := by
  obtain ⟨x, y, h1, h2, -, hk⟩ := cmp_v (Or.inl h)
  cases (Term.int_eval v).symm.trans h2
  obtain ⟨x, rfl⟩ : ∃ z, x = Value.int z := hk
  have := gotT (Cond.eq_ints h1 (Term.int_eval v)) h
  rw [this] at h1
  exact h1
theorem own_stR {args : Array Value} {s : State} {t u : Term} {a b : Addr} (h1 : t.eval args s none [] s = some (.ref a)) (h2 : u.eval args s none [] s = some (.ref b)) (h : (Jvm.Cond.eq t u).value args s none s [] = some true) : a = b := by
  have := gotT (eq_R h1 h2 rfl rfl) h
  cases this
  rfl
def fullL : List Int64 := [8358680908399640576, 8454757700450211157, 8550834492500781738, 8646911284551352319]
def fullV (k : Int32) : Int64 := fullL.getD k.toNatClampNeg 0
theorem own_full (j : Int32) : ([.long 8358680908399640576, .long 8454757700450211157, .long 8550834492500781738, .long 8646911284551352319] : List Value).getD j.toNatClampNeg (.long 0) = .long (fullV j) := by
  show (fullL.map Value.long).getD j.toNatClampNeg (Value.long 0) = Value.long (fullL.getD j.toNatClampNeg 0)
  simp only [List.getD_eq_getElem?_getD, List.getElem?_map]
  cases fullL[j.toNatClampNeg]? <;> rfl
def PLen (t : Int64) : Int32 := (ushrL t (58 : Int32)).toInt32
def nx1 (c : Int32) : Int64 := (288230376151711744 : Int64) ||| c.toInt64
def nx2 (t : Int64) (c : Int32) : Int64 := (t + (288230376151711744 : Int64)) ||| (c.toInt64 <<< (((2 : Int32) * PLen t).toInt64 &&& 63))
def cd0 (t : Int64) : Int32 := ((ushrL t ((2 : Int32) * (0 : Int32))).toInt32) &&& (3 : Int32)
def lastV (t : Int64) : Int32 := ((ushrL t ((2 : Int32) * (PLen t - (1 : Int32)))).toInt32) &&& (3 : Int32)
def K4 (c : Int32) : Prop := c = 0 ∨ c = 1 ∨ c = 2 ∨ c = 3
theorem own_k3 (y : Int32) : K4 (y &&& (3 : Int32)) := by
  have h := c_mask y 3 2 (by decide) (by decide)
  have e : ((2 ^ 2 : Nat) : Int) = 4 := rfl
  rw [e] at h
  unfold K4
  simp only [← Int32.toInt_inj, Int32.reduceToInt]
  omega
theorem own_kb {c : Int32} (h : K4 c) : ¬ c < 0 ∧ c < 4 := by rcases h with rfl | rfl | rfl | rfl <;> decide
theorem own_fn {c : Int32} (h : K4 c) : ¬ ((0 : Int64) = fullV c) := by rcases h with rfl | rfl | rfl | rfl <;> decide
theorem own_t1 {c : Int32} (h : K4 c) : ¬ nx1 c < 0 ∧ 0 < nx1 c ∧ PLen (nx1 c) = 1 ∧ ¬ (nx1 c = 0) ∧ cd0 (nx1 c) = c ∧ lastV (nx1 c) = c := by
  rcases h with rfl | rfl | rfl | rfl <;> decide +kernel
theorem own_t2 {c d : Int32} (h : K4 c) (h2 : K4 d) : ¬ nx2 (nx1 c) d < 0 ∧ 0 < nx2 (nx1 c) d ∧ PLen (nx2 (nx1 c) d) < 29 := by
  rcases h with rfl | rfl | rfl | rfl <;> rcases h2 with rfl | rfl | rfl | rfl <;> decide +kernel
theorem own_p1 {c : Int32} (h : K4 c) : PLen (nx1 c) < 29 := by rw [(own_t1 h).2.2.1]; decide
theorem w_0 {Z : State} {a0 : Array Value} (hw : ∀ d ∈ tables_1, d.before a0 Z = true) : (Jvm.Cond.classLink "com/example/folha/folha/builder/PackedCodesClearPinLaw" (20 : Nat) "com/example/folha/folha/builder/PackedCodes").before a0 Z = true := hw _ (List.mem_of_getElem? (i := 0) rfl)
theorem w_1 {Z : State} {a0 : Array Value} (hw : ∀ d ∈ tables_1, d.before a0 Z = true) : (Jvm.Cond.instantiable "com/example/folha/folha/builder/PackedCodes" (4 : Nat)).before a0 Z = true := hw _ (List.mem_of_getElem? (i := 1) rfl)
theorem w_2 {Z : State} {a0 : Array Value} (hw : ∀ d ∈ tables_1, d.before a0 Z = true) : (Jvm.Cond.initialized "com/example/folha/folha/builder/PackedCodes").before a0 Z = true := hw _ (List.mem_of_getElem? (i := 2) rfl)
theorem w_3 {Z : State} {a0 : Array Value} (hw : ∀ d ∈ tables_1, d.before a0 Z = true) : (Jvm.Cond.methodLink "com/example/folha/folha/builder/PackedCodesClearPinLaw" (22 : Nat) ({ cls := "com/example/folha/folha/builder/PackedCodes", name := "<init>", desc := "()V" } : Jvm.MethodName)).before a0 Z = true := hw _ (List.mem_of_getElem? (i := 3) rfl)
theorem w_4 {Z : State} {a0 : Array Value} (hw : ∀ d ∈ tables_1, d.before a0 Z = true) : (Jvm.Cond.instanceMethod ({ cls := "com/example/folha/folha/builder/PackedCodes", name := "<init>", desc := "()V" } : Jvm.MethodName)).before a0 Z = true := hw _ (List.mem_of_getElem? (i := 4) rfl)
theorem w_5 {Z : State} {a0 : Array Value} (hw : ∀ d ∈ tables_1, d.before a0 Z = true) : (Jvm.Cond.code ({ cls := "com/example/folha/folha/builder/PackedCodes", name := "<init>", desc := "()V" } : Jvm.MethodName) prog_24_method_1_code (1 : Nat) (Option.none : Option Jvm.ClassFile.FieldType)).before a0 Z = true := hw _ (List.mem_of_getElem? (i := 5) rfl)
theorem w_6 {Z : State} {a0 : Array Value} (hw : ∀ d ∈ tables_1, d.before a0 Z = true) : (Jvm.Cond.methodLink "com/example/folha/folha/builder/PackedCodes" (5 : Nat) ({ cls := "java/lang/Object", name := "<init>", desc := "()V" } : Jvm.MethodName)).before a0 Z = true := hw _ (List.mem_of_getElem? (i := 6) rfl)
theorem w_7 {Z : State} {a0 : Array Value} (hw : ∀ d ∈ tables_1, d.before a0 Z = true) : (Jvm.Cond.instanceMethod ({ cls := "java/lang/Object", name := "<init>", desc := "()V" } : Jvm.MethodName)).before a0 Z = true := hw _ (List.mem_of_getElem? (i := 7) rfl)
theorem w_8 {Z : State} {a0 : Array Value} (hw : ∀ d ∈ tables_1, d.before a0 Z = true) : (Jvm.Cond.code ({ cls := "java/lang/Object", name := "<init>", desc := "()V" } : Jvm.MethodName) object_method_1_code (1 : Nat) (Option.none : Option Jvm.ClassFile.FieldType)).before a0 Z = true := hw _ (List.mem_of_getElem? (i := 8) rfl)
theorem w_9 {Z : State} {a0 : Array Value} (hw : ∀ d ∈ tables_1, d.before a0 Z = true) : (Jvm.Cond.classLink "com/example/folha/folha/builder/PackedCodes" (11 : Nat) "[J").before a0 Z = true := hw _ (List.mem_of_getElem? (i := 9) rfl)
theorem w_10 {Z : State} {a0 : Array Value} (hw : ∀ d ∈ tables_1, d.before a0 Z = true) : (Jvm.Cond.arrayOver (Jvm.ClassFile.FieldType.array Jvm.ClassFile.FieldType.long)).before a0 Z = true := hw _ (List.mem_of_getElem? (i := 10) rfl)
theorem w_11 {Z : State} {a0 : Array Value} (hw : ∀ d ∈ tables_1, d.before a0 Z = true) : (Jvm.Cond.arrayClass Jvm.ClassFile.FieldType.long).before a0 Z = true := hw _ (List.mem_of_getElem? (i := 11) rfl)
theorem w_13 {Z : State} {a0 : Array Value} (hw : ∀ d ∈ tables_1, d.before a0 Z = true) : (Jvm.Cond.fieldLink "com/example/folha/folha/builder/PackedCodes" (13 : Nat) "com/example/folha/folha/builder/PackedCodes" "chunks" "[[J").before a0 Z = true := hw _ (List.mem_of_getElem? (i := 13) rfl)
theorem w_14 {Z : State} {a0 : Array Value} (hw : ∀ d ∈ tables_1, d.before a0 Z = true) : (Jvm.Cond.lays "com/example/folha/folha/builder/PackedCodes" "com/example/folha/folha/builder/PackedCodes" "chunks" "[[J").before a0 Z = true := hw _ (List.mem_of_getElem? (i := 14) rfl)
theorem w_15 {Z : State} {a0 : Array Value} (hw : ∀ d ∈ tables_1, d.before a0 Z = true) : (Jvm.Cond.methodLink "com/example/folha/folha/builder/PackedCodesClearPinLaw" (27 : Nat) ({ cls := "com/example/folha/folha/builder/PackedCodes", name := "clear", desc := "()V" } : Jvm.MethodName)).before a0 Z = true := hw _ (List.mem_of_getElem? (i := 15) rfl)
theorem w_16 {Z : State} {a0 : Array Value} (hw : ∀ d ∈ tables_1, d.before a0 Z = true) : (Jvm.Cond.declares ({ cls := "com/example/folha/folha/builder/PackedCodes", name := "clear", desc := "()V" } : Jvm.MethodName)).before a0 Z = true := hw _ (List.mem_of_getElem? (i := 16) rfl)
theorem w_17 {Z : State} {a0 : Array Value} (hw : ∀ d ∈ tables_1, d.before a0 Z = true) : (Jvm.Cond.instanceMethod ({ cls := "com/example/folha/folha/builder/PackedCodes", name := "clear", desc := "()V" } : Jvm.MethodName)).before a0 Z = true := hw _ (List.mem_of_getElem? (i := 17) rfl)
theorem w_18 {Z : State} {a0 : Array Value} (hw : ∀ d ∈ tables_1, d.before a0 Z = true) : (Jvm.Cond.selects "com/example/folha/folha/builder/PackedCodes" ({ cls := "com/example/folha/folha/builder/PackedCodes", name := "clear", desc := "()V" } : Jvm.MethodName) ({ cls := "com/example/folha/folha/builder/PackedCodes", name := "clear", desc := "()V" } : Jvm.MethodName)).before a0 Z = true := hw _ (List.mem_of_getElem? (i := 18) rfl)
theorem w_19 {Z : State} {a0 : Array Value} (hw : ∀ d ∈ tables_1, d.before a0 Z = true) : (Jvm.Cond.code ({ cls := "com/example/folha/folha/builder/PackedCodes", name := "clear", desc := "()V" } : Jvm.MethodName) prog_24_method_7_code (1 : Nat) (Option.none : Option Jvm.ClassFile.FieldType)).before a0 Z = true := hw _ (List.mem_of_getElem? (i := 19) rfl)
theorem w_20 {Z : State} {a0 : Array Value} (hw : ∀ d ∈ tables_1, d.before a0 Z = true) : (Jvm.Cond.fieldLink "com/example/folha/folha/builder/PackedCodes" (50 : Nat) "com/example/folha/folha/builder/PackedCodes" "stored" "J").before a0 Z = true := hw _ (List.mem_of_getElem? (i := 20) rfl)
theorem w_21 {Z : State} {a0 : Array Value} (hw : ∀ d ∈ tables_1, d.before a0 Z = true) : (Jvm.Cond.lays "com/example/folha/folha/builder/PackedCodes" "com/example/folha/folha/builder/PackedCodes" "stored" "J").before a0 Z = true := hw _ (List.mem_of_getElem? (i := 21) rfl)
theorem w_22 {Z : State} {a0 : Array Value} (hw : ∀ d ∈ tables_1, d.before a0 Z = true) : (Jvm.Cond.fieldLink "com/example/folha/folha/builder/PackedCodes" (17 : Nat) "com/example/folha/folha/builder/PackedCodes" "tail" "J").before a0 Z = true := hw _ (List.mem_of_getElem? (i := 22) rfl)
theorem w_23 {Z : State} {a0 : Array Value} (hw : ∀ d ∈ tables_1, d.before a0 Z = true) : (Jvm.Cond.lays "com/example/folha/folha/builder/PackedCodes" "com/example/folha/folha/builder/PackedCodes" "tail" "J").before a0 Z = true := hw _ (List.mem_of_getElem? (i := 23) rfl)
theorem w_24 {Z : State} {a0 : Array Value} (hw : ∀ d ∈ tables_1, d.before a0 Z = true) : (Jvm.Cond.fieldLink "com/example/folha/folha/builder/PackedCodes" (41 : Nat) "com/example/folha/folha/builder/PackedCodes" "length" "J").before a0 Z = true := hw _ (List.mem_of_getElem? (i := 24) rfl)
theorem w_25 {Z : State} {a0 : Array Value} (hw : ∀ d ∈ tables_1, d.before a0 Z = true) : (Jvm.Cond.lays "com/example/folha/folha/builder/PackedCodes" "com/example/folha/folha/builder/PackedCodes" "length" "J").before a0 Z = true := hw _ (List.mem_of_getElem? (i := 25) rfl)
theorem w_26 {Z : State} {a0 : Array Value} (hw : ∀ d ∈ tables_1, d.before a0 Z = true) : (Jvm.Cond.methodLink "com/example/folha/folha/builder/PackedCodesClearPinLaw" (30 : Nat) ({ cls := "com/example/folha/folha/builder/PackedCodes", name := "length", desc := "()J" } : Jvm.MethodName)).before a0 Z = true := hw _ (List.mem_of_getElem? (i := 26) rfl)
theorem w_27 {Z : State} {a0 : Array Value} (hw : ∀ d ∈ tables_1, d.before a0 Z = true) : (Jvm.Cond.declares ({ cls := "com/example/folha/folha/builder/PackedCodes", name := "length", desc := "()J" } : Jvm.MethodName)).before a0 Z = true := hw _ (List.mem_of_getElem? (i := 27) rfl)
theorem w_28 {Z : State} {a0 : Array Value} (hw : ∀ d ∈ tables_1, d.before a0 Z = true) : (Jvm.Cond.instanceMethod ({ cls := "com/example/folha/folha/builder/PackedCodes", name := "length", desc := "()J" } : Jvm.MethodName)).before a0 Z = true := hw _ (List.mem_of_getElem? (i := 28) rfl)
theorem w_29 {Z : State} {a0 : Array Value} (hw : ∀ d ∈ tables_1, d.before a0 Z = true) : (Jvm.Cond.selects "com/example/folha/folha/builder/PackedCodes" ({ cls := "com/example/folha/folha/builder/PackedCodes", name := "length", desc := "()J" } : Jvm.MethodName) ({ cls := "com/example/folha/folha/builder/PackedCodes", name := "length", desc := "()J" } : Jvm.MethodName)).before a0 Z = true := hw _ (List.mem_of_getElem? (i := 29) rfl)
theorem w_30 {Z : State} {a0 : Array Value} (hw : ∀ d ∈ tables_1, d.before a0 Z = true) : (Jvm.Cond.code ({ cls := "com/example/folha/folha/builder/PackedCodes", name := "length", desc := "()J" } : Jvm.MethodName) prog_24_method_5_code (1 : Nat) (Option.some Jvm.ClassFile.FieldType.long)).before a0 Z = true := hw _ (List.mem_of_getElem? (i := 30) rfl)
theorem w_31 {Z : State} {a0 : Array Value} (hw : ∀ d ∈ tables_1, d.before a0 Z = true) : (Jvm.Cond.methodLink "com/example/folha/folha/builder/PackedCodesClearPinLaw" (23 : Nat) ({ cls := "com/example/folha/folha/builder/PackedCodes", name := "add", desc := "(I)V" } : Jvm.MethodName)).before a0 Z = true := hw _ (List.mem_of_getElem? (i := 31) rfl)
theorem w_32 {Z : State} {a0 : Array Value} (hw : ∀ d ∈ tables_1, d.before a0 Z = true) : (Jvm.Cond.declares ({ cls := "com/example/folha/folha/builder/PackedCodes", name := "add", desc := "(I)V" } : Jvm.MethodName)).before a0 Z = true := hw _ (List.mem_of_getElem? (i := 32) rfl)
theorem w_33 {Z : State} {a0 : Array Value} (hw : ∀ d ∈ tables_1, d.before a0 Z = true) : (Jvm.Cond.instanceMethod ({ cls := "com/example/folha/folha/builder/PackedCodes", name := "add", desc := "(I)V" } : Jvm.MethodName)).before a0 Z = true := hw _ (List.mem_of_getElem? (i := 33) rfl)
theorem w_34 {Z : State} {a0 : Array Value} (hw : ∀ d ∈ tables_1, d.before a0 Z = true) : (Jvm.Cond.selects "com/example/folha/folha/builder/PackedCodes" ({ cls := "com/example/folha/folha/builder/PackedCodes", name := "add", desc := "(I)V" } : Jvm.MethodName) ({ cls := "com/example/folha/folha/builder/PackedCodes", name := "add", desc := "(I)V" } : Jvm.MethodName)).before a0 Z = true := hw _ (List.mem_of_getElem? (i := 34) rfl)
theorem w_35 {Z : State} {a0 : Array Value} (hw : ∀ d ∈ tables_1, d.before a0 Z = true) : (Jvm.Cond.code ({ cls := "com/example/folha/folha/builder/PackedCodes", name := "add", desc := "(I)V" } : Jvm.MethodName) prog_24_method_2_code (2 : Nat) (Option.none : Option Jvm.ClassFile.FieldType)).before a0 Z = true := hw _ (List.mem_of_getElem? (i := 35) rfl)
theorem w_36 {Z : State} {a0 : Array Value} (hw : ∀ d ∈ tables_1, d.before a0 Z = true) : (Jvm.Cond.fieldLink "com/example/folha/folha/builder/PackedCodes" (30 : Nat) "com/example/folha/folha/builder/PackedCodes" "FULL" "[J").before a0 Z = true := hw _ (List.mem_of_getElem? (i := 36) rfl)
theorem w_37 {Z : State} {a0 : Array Value} (hw : ∀ d ∈ tables_1, d.before a0 Z = true) : (Jvm.Cond.laysStatic "com/example/folha/folha/builder/PackedCodes" "FULL" "[J").before a0 Z = true := hw _ (List.mem_of_getElem? (i := 37) rfl)
theorem w_38 {Z : State} {a0 : Array Value} (hw : ∀ d ∈ tables_1, d.before a0 Z = true) : (Jvm.Cond.constantLong "com/example/folha/folha/builder/PackedCodes" (28 : Nat) (288230376151711744 : Int64)).before a0 Z = true := hw _ (List.mem_of_getElem? (i := 38) rfl)
theorem w_39 {Z : State} {a0 : Array Value} (hw : ∀ d ∈ tables_1, d.before a0 Z = true) : (Jvm.Cond.classLink "com/example/folha/folha/builder/PackedCodesClearPinLaw" (8 : Nat) "com/example/folha/folha/builder/PackedCodesClearPinLaw").before a0 Z = true := hw _ (List.mem_of_getElem? (i := 39) rfl)
theorem w_40 {Z : State} {a0 : Array Value} (hw : ∀ d ∈ tables_1, d.before a0 Z = true) : (Jvm.Cond.instantiable "com/example/folha/folha/builder/PackedCodesClearPinLaw" (3 : Nat)).before a0 Z = true := hw _ (List.mem_of_getElem? (i := 40) rfl)
theorem w_41 {Z : State} {a0 : Array Value} (hw : ∀ d ∈ tables_1, d.before a0 Z = true) : (Jvm.Cond.initialized "com/example/folha/folha/builder/PackedCodesClearPinLaw").before a0 Z = true := hw _ (List.mem_of_getElem? (i := 41) rfl)
theorem w_42 {Z : State} {a0 : Array Value} (hw : ∀ d ∈ tables_1, d.before a0 Z = true) : (Jvm.Cond.methodLink "com/example/folha/folha/builder/PackedCodesClearPinLaw" (34 : Nat) ({ cls := "com/example/folha/folha/builder/PackedCodesClearPinLaw", name := "<init>", desc := "()V" } : Jvm.MethodName)).before a0 Z = true := hw _ (List.mem_of_getElem? (i := 42) rfl)
theorem w_43 {Z : State} {a0 : Array Value} (hw : ∀ d ∈ tables_1, d.before a0 Z = true) : (Jvm.Cond.instanceMethod ({ cls := "com/example/folha/folha/builder/PackedCodesClearPinLaw", name := "<init>", desc := "()V" } : Jvm.MethodName)).before a0 Z = true := hw _ (List.mem_of_getElem? (i := 43) rfl)
theorem w_44 {Z : State} {a0 : Array Value} (hw : ∀ d ∈ tables_1, d.before a0 Z = true) : (Jvm.Cond.code ({ cls := "com/example/folha/folha/builder/PackedCodesClearPinLaw", name := "<init>", desc := "()V" } : Jvm.MethodName) method_1_code (1 : Nat) (Option.none : Option Jvm.ClassFile.FieldType)).before a0 Z = true := hw _ (List.mem_of_getElem? (i := 44) rfl)
theorem w_45 {Z : State} {a0 : Array Value} (hw : ∀ d ∈ tables_1, d.before a0 Z = true) : (Jvm.Cond.methodLink "com/example/folha/folha/builder/PackedCodesClearPinLaw" (1 : Nat) ({ cls := "java/lang/Object", name := "<init>", desc := "()V" } : Jvm.MethodName)).before a0 Z = true := hw _ (List.mem_of_getElem? (i := 45) rfl)
theorem w_46 {Z : State} {a0 : Array Value} (hw : ∀ d ∈ tables_1, d.before a0 Z = true) : (Jvm.Cond.fieldLink "com/example/folha/folha/builder/PackedCodesClearPinLaw" (7 : Nat) "com/example/folha/folha/builder/PackedCodesClearPinLaw" "code" "I").before a0 Z = true := hw _ (List.mem_of_getElem? (i := 46) rfl)
theorem w_47 {Z : State} {a0 : Array Value} (hw : ∀ d ∈ tables_1, d.before a0 Z = true) : (Jvm.Cond.lays "com/example/folha/folha/builder/PackedCodesClearPinLaw" "com/example/folha/folha/builder/PackedCodesClearPinLaw" "code" "I").before a0 Z = true := hw _ (List.mem_of_getElem? (i := 47) rfl)
theorem w_48 {Z : State} {a0 : Array Value} (hw : ∀ d ∈ tables_1, d.before a0 Z = true) : (Jvm.Cond.methodLink "com/example/folha/folha/builder/PackedCodesClearPinLaw" (35 : Nat) ({ cls := "com/example/folha/folha/builder/PackedCodes", name := "forEachRun", desc := "(Lcom/example/folha/folha/builder/PackedCodes$Runs;)V" } : Jvm.MethodName)).before a0 Z = true := hw _ (List.mem_of_getElem? (i := 48) rfl)
theorem w_49 {Z : State} {a0 : Array Value} (hw : ∀ d ∈ tables_1, d.before a0 Z = true) : (Jvm.Cond.declares ({ cls := "com/example/folha/folha/builder/PackedCodes", name := "forEachRun", desc := "(Lcom/example/folha/folha/builder/PackedCodes$Runs;)V" } : Jvm.MethodName)).before a0 Z = true := hw _ (List.mem_of_getElem? (i := 49) rfl)
theorem w_50 {Z : State} {a0 : Array Value} (hw : ∀ d ∈ tables_1, d.before a0 Z = true) : (Jvm.Cond.instanceMethod ({ cls := "com/example/folha/folha/builder/PackedCodes", name := "forEachRun", desc := "(Lcom/example/folha/folha/builder/PackedCodes$Runs;)V" } : Jvm.MethodName)).before a0 Z = true := hw _ (List.mem_of_getElem? (i := 50) rfl)
theorem w_51 {Z : State} {a0 : Array Value} (hw : ∀ d ∈ tables_1, d.before a0 Z = true) : (Jvm.Cond.selects "com/example/folha/folha/builder/PackedCodes" ({ cls := "com/example/folha/folha/builder/PackedCodes", name := "forEachRun", desc := "(Lcom/example/folha/folha/builder/PackedCodes$Runs;)V" } : Jvm.MethodName) ({ cls := "com/example/folha/folha/builder/PackedCodes", name := "forEachRun", desc := "(Lcom/example/folha/folha/builder/PackedCodes$Runs;)V" } : Jvm.MethodName)).before a0 Z = true := hw _ (List.mem_of_getElem? (i := 51) rfl)
theorem w_52 {Z : State} {a0 : Array Value} (hw : ∀ d ∈ tables_1, d.before a0 Z = true) : (Jvm.Cond.code ({ cls := "com/example/folha/folha/builder/PackedCodes", name := "forEachRun", desc := "(Lcom/example/folha/folha/builder/PackedCodes$Runs;)V" } : Jvm.MethodName) prog_24_method_6_code (4 : Nat) (Option.none : Option Jvm.ClassFile.FieldType)).before a0 Z = true := hw _ (List.mem_of_getElem? (i := 52) rfl)
theorem w_53 {Z : State} {a0 : Array Value} (hw : ∀ d ∈ tables_1, d.before a0 Z = true) : (Jvm.Cond.methodLink "com/example/folha/folha/builder/PackedCodes" (53 : Nat) ({ cls := "com/example/folha/folha/builder/PackedCodes", name := "give", desc := "(JLcom/example/folha/folha/builder/PackedCodes$Runs;)V" } : Jvm.MethodName)).before a0 Z = true := hw _ (List.mem_of_getElem? (i := 53) rfl)
theorem w_54 {Z : State} {a0 : Array Value} (hw : ∀ d ∈ tables_1, d.before a0 Z = true) : (Jvm.Cond.static ({ cls := "com/example/folha/folha/builder/PackedCodes", name := "give", desc := "(JLcom/example/folha/folha/builder/PackedCodes$Runs;)V" } : Jvm.MethodName)).before a0 Z = true := hw _ (List.mem_of_getElem? (i := 54) rfl)
theorem w_55 {Z : State} {a0 : Array Value} (hw : ∀ d ∈ tables_1, d.before a0 Z = true) : (Jvm.Cond.code ({ cls := "com/example/folha/folha/builder/PackedCodes", name := "give", desc := "(JLcom/example/folha/folha/builder/PackedCodes$Runs;)V" } : Jvm.MethodName) prog_24_method_9_code (4 : Nat) (Option.none : Option Jvm.ClassFile.FieldType)).before a0 Z = true := hw _ (List.mem_of_getElem? (i := 55) rfl)
theorem w_56 {Z : State} {a0 : Array Value} (hw : ∀ d ∈ tables_1, d.before a0 Z = true) : (Jvm.Cond.methodLink "com/example/folha/folha/builder/PackedCodes" (25 : Nat) ({ cls := "com/example/folha/folha/builder/PackedCodes", name := "packedLength", desc := "(J)I" } : Jvm.MethodName)).before a0 Z = true := hw _ (List.mem_of_getElem? (i := 56) rfl)
theorem w_57 {Z : State} {a0 : Array Value} (hw : ∀ d ∈ tables_1, d.before a0 Z = true) : (Jvm.Cond.static ({ cls := "com/example/folha/folha/builder/PackedCodes", name := "packedLength", desc := "(J)I" } : Jvm.MethodName)).before a0 Z = true := hw _ (List.mem_of_getElem? (i := 57) rfl)
theorem w_58 {Z : State} {a0 : Array Value} (hw : ∀ d ∈ tables_1, d.before a0 Z = true) : (Jvm.Cond.code ({ cls := "com/example/folha/folha/builder/PackedCodes", name := "packedLength", desc := "(J)I" } : Jvm.MethodName) prog_24_method_11_code (2 : Nat) (Option.some Jvm.ClassFile.FieldType.int)).before a0 Z = true := hw _ (List.mem_of_getElem? (i := 58) rfl)
theorem w_59 {Z : State} {a0 : Array Value} (hw : ∀ d ∈ tables_1, d.before a0 Z = true) : (Jvm.Cond.methodLink "com/example/folha/folha/builder/PackedCodes" (67 : Nat) ({ cls := "com/example/folha/folha/builder/PackedCodes$Runs", name := "run", desc := "(IJ)V" } : Jvm.MethodName)).before a0 Z = true := hw _ (List.mem_of_getElem? (i := 59) rfl)
theorem w_60 {Z : State} {a0 : Array Value} (hw : ∀ d ∈ tables_1, d.before a0 Z = true) : (Jvm.Cond.declares ({ cls := "com/example/folha/folha/builder/PackedCodes$Runs", name := "run", desc := "(IJ)V" } : Jvm.MethodName)).before a0 Z = true := hw _ (List.mem_of_getElem? (i := 60) rfl)
theorem w_61 {Z : State} {a0 : Array Value} (hw : ∀ d ∈ tables_1, d.before a0 Z = true) : (Jvm.Cond.interfaceMethod "com/example/folha/folha/builder/PackedCodes$Runs" "com/example/folha/folha/builder/PackedCodes$Runs" "run" "(IJ)V").before a0 Z = true := hw _ (List.mem_of_getElem? (i := 61) rfl)
theorem w_62 {Z : State} {a0 : Array Value} (hw : ∀ d ∈ tables_1, d.before a0 Z = true) : (Jvm.Cond.selects "com/example/folha/folha/builder/PackedCodesClearPinLaw" ({ cls := "com/example/folha/folha/builder/PackedCodes$Runs", name := "run", desc := "(IJ)V" } : Jvm.MethodName) ({ cls := "com/example/folha/folha/builder/PackedCodesClearPinLaw", name := "run", desc := "(IJ)V" } : Jvm.MethodName)).before a0 Z = true := hw _ (List.mem_of_getElem? (i := 62) rfl)
theorem w_63 {Z : State} {a0 : Array Value} (hw : ∀ d ∈ tables_1, d.before a0 Z = true) : (Jvm.Cond.instanceMethod ({ cls := "com/example/folha/folha/builder/PackedCodesClearPinLaw", name := "run", desc := "(IJ)V" } : Jvm.MethodName)).before a0 Z = true := hw _ (List.mem_of_getElem? (i := 63) rfl)
theorem w_64 {Z : State} {a0 : Array Value} (hw : ∀ d ∈ tables_1, d.before a0 Z = true) : (Jvm.Cond.publicMethod ({ cls := "com/example/folha/folha/builder/PackedCodesClearPinLaw", name := "run", desc := "(IJ)V" } : Jvm.MethodName)).before a0 Z = true := hw _ (List.mem_of_getElem? (i := 64) rfl)
theorem w_65 {Z : State} {a0 : Array Value} (hw : ∀ d ∈ tables_1, d.before a0 Z = true) : (Jvm.Cond.unhidden "com/example/folha/folha/builder/PackedCodesClearPinLaw" "run" "(IJ)V").before a0 Z = true := hw _ (List.mem_of_getElem? (i := 65) rfl)
theorem w_66 {Z : State} {a0 : Array Value} (hw : ∀ d ∈ tables_1, d.before a0 Z = true) : (Jvm.Cond.castable "com/example/folha/folha/builder/PackedCodesClearPinLaw" "com/example/folha/folha/builder/PackedCodes$Runs").before a0 Z = true := hw _ (List.mem_of_getElem? (i := 66) rfl)
theorem w_67 {Z : State} {a0 : Array Value} (hw : ∀ d ∈ tables_1, d.before a0 Z = true) : (Jvm.Cond.code ({ cls := "com/example/folha/folha/builder/PackedCodesClearPinLaw", name := "run", desc := "(IJ)V" } : Jvm.MethodName) method_2_code (4 : Nat) (Option.none : Option Jvm.ClassFile.FieldType)).before a0 Z = true := hw _ (List.mem_of_getElem? (i := 67) rfl)
theorem w_68 {Z : State} {a0 : Array Value} (hw : ∀ d ∈ tables_1, d.before a0 Z = true) : (Jvm.Cond.fieldLink "com/example/folha/folha/builder/PackedCodesClearPinLaw" (13 : Nat) "com/example/folha/folha/builder/PackedCodesClearPinLaw" "count" "I").before a0 Z = true := hw _ (List.mem_of_getElem? (i := 68) rfl)
theorem w_69 {Z : State} {a0 : Array Value} (hw : ∀ d ∈ tables_1, d.before a0 Z = true) : (Jvm.Cond.lays "com/example/folha/folha/builder/PackedCodesClearPinLaw" "com/example/folha/folha/builder/PackedCodesClearPinLaw" "count" "I").before a0 Z = true := hw _ (List.mem_of_getElem? (i := 69) rfl)
theorem w_70 {Z : State} {a0 : Array Value} (hw : ∀ d ∈ tables_1, d.before a0 Z = true) : (Jvm.Cond.fieldLink "com/example/folha/folha/builder/PackedCodesClearPinLaw" (16 : Nat) "com/example/folha/folha/builder/PackedCodesClearPinLaw" "times" "J").before a0 Z = true := hw _ (List.mem_of_getElem? (i := 70) rfl)
theorem w_71 {Z : State} {a0 : Array Value} (hw : ∀ d ∈ tables_1, d.before a0 Z = true) : (Jvm.Cond.lays "com/example/folha/folha/builder/PackedCodesClearPinLaw" "com/example/folha/folha/builder/PackedCodesClearPinLaw" "times" "J").before a0 Z = true := hw _ (List.mem_of_getElem? (i := 71) rfl)
theorem w_72 {Z : State} {a0 : Array Value} (hw : ∀ d ∈ tables_1, d.before a0 Z = true) : (Jvm.Cond.methodLink "com/example/folha/folha/builder/PackedCodesClearPinLaw" (39 : Nat) ({ cls := "com/example/folha/folha/builder/PackedCodes", name := "last", desc := "()I" } : Jvm.MethodName)).before a0 Z = true := hw _ (List.mem_of_getElem? (i := 72) rfl)
theorem w_73 {Z : State} {a0 : Array Value} (hw : ∀ d ∈ tables_1, d.before a0 Z = true) : (Jvm.Cond.declares ({ cls := "com/example/folha/folha/builder/PackedCodes", name := "last", desc := "()I" } : Jvm.MethodName)).before a0 Z = true := hw _ (List.mem_of_getElem? (i := 73) rfl)
theorem w_74 {Z : State} {a0 : Array Value} (hw : ∀ d ∈ tables_1, d.before a0 Z = true) : (Jvm.Cond.instanceMethod ({ cls := "com/example/folha/folha/builder/PackedCodes", name := "last", desc := "()I" } : Jvm.MethodName)).before a0 Z = true := hw _ (List.mem_of_getElem? (i := 74) rfl)
theorem w_75 {Z : State} {a0 : Array Value} (hw : ∀ d ∈ tables_1, d.before a0 Z = true) : (Jvm.Cond.selects "com/example/folha/folha/builder/PackedCodes" ({ cls := "com/example/folha/folha/builder/PackedCodes", name := "last", desc := "()I" } : Jvm.MethodName) ({ cls := "com/example/folha/folha/builder/PackedCodes", name := "last", desc := "()I" } : Jvm.MethodName)).before a0 Z = true := hw _ (List.mem_of_getElem? (i := 75) rfl)
theorem w_76 {Z : State} {a0 : Array Value} (hw : ∀ d ∈ tables_1, d.before a0 Z = true) : (Jvm.Cond.code ({ cls := "com/example/folha/folha/builder/PackedCodes", name := "last", desc := "()I" } : Jvm.MethodName) prog_24_method_3_code (1 : Nat) (Option.some Jvm.ClassFile.FieldType.int)).before a0 Z = true := hw _ (List.mem_of_getElem? (i := 76) rfl)
theorem d9_0 : decode prog_24_method_11_code 0 = .ok (.lload_n 0, 1) := by decide +kernel
theorem d9_1 : decode prog_24_method_11_code 1 = .ok (.bipush 58, 2) := by decide +kernel
theorem d9_3 : decode prog_24_method_11_code 3 = .ok (.lushr, 1) := by decide +kernel
theorem d9_4 : decode prog_24_method_11_code 4 = .ok (.l2i, 1) := by decide +kernel
theorem d9_5 : decode prog_24_method_11_code 5 = .ok (.ireturn, 1) := by decide +kernel
theorem d4_0 : decode prog_24_method_5_code 0 = .ok (.aload_n 0, 1) := by decide +kernel
theorem d4_1 : decode prog_24_method_5_code 1 = .ok (.getfield 41, 3) := by decide +kernel
theorem d4_4 : decode prog_24_method_5_code 4 = .ok (.lreturn, 1) := by decide +kernel
theorem d11_0 : decode prog_24_method_3_code 0 = .ok (.aload_n 0, 1) := by decide +kernel
theorem d11_1 : decode prog_24_method_3_code 1 = .ok (.getfield 17, 3) := by decide +kernel
theorem d11_4 : decode prog_24_method_3_code 4 = .ok (.lconst 0, 1) := by decide +kernel
theorem d11_5 : decode prog_24_method_3_code 5 = .ok (.lcmp, 1) := by decide +kernel
theorem d11_6 : decode prog_24_method_3_code 6 = .ok (.ifCond .ge 13, 3) := by decide +kernel
theorem d11_9 : decode prog_24_method_3_code 9 = .ok (.aload_n 0, 1) := by decide +kernel
theorem d11_10 : decode prog_24_method_3_code 10 = .ok (.getfield 17, 3) := by decide +kernel
theorem d11_13 : decode prog_24_method_3_code 13 = .ok (.invokestatic 21, 3) := by decide +kernel
theorem d11_16 : decode prog_24_method_3_code 16 = .ok (.goto 22, 3) := by decide +kernel
theorem d11_19 : decode prog_24_method_3_code 19 = .ok (.aload_n 0, 1) := by decide +kernel
theorem d11_20 : decode prog_24_method_3_code 20 = .ok (.getfield 17, 3) := by decide +kernel
theorem d11_23 : decode prog_24_method_3_code 23 = .ok (.iconst 2, 1) := by decide +kernel
theorem d11_24 : decode prog_24_method_3_code 24 = .ok (.aload_n 0, 1) := by decide +kernel
theorem d11_25 : decode prog_24_method_3_code 25 = .ok (.getfield 17, 3) := by decide +kernel
theorem d11_28 : decode prog_24_method_3_code 28 = .ok (.invokestatic 25, 3) := by decide +kernel
theorem d11_31 : decode prog_24_method_3_code 31 = .ok (.iconst 1, 1) := by decide +kernel
theorem d11_32 : decode prog_24_method_3_code 32 = .ok (.isub, 1) := by decide +kernel
theorem d11_33 : decode prog_24_method_3_code 33 = .ok (.imul, 1) := by decide +kernel
theorem d11_34 : decode prog_24_method_3_code 34 = .ok (.lushr, 1) := by decide +kernel
theorem d11_35 : decode prog_24_method_3_code 35 = .ok (.l2i, 1) := by decide +kernel
theorem d11_36 : decode prog_24_method_3_code 36 = .ok (.iconst 3, 1) := by decide +kernel
theorem d11_37 : decode prog_24_method_3_code 37 = .ok (.iand, 1) := by decide +kernel
theorem d11_38 : decode prog_24_method_3_code 38 = .ok (.ireturn, 1) := by decide +kernel
theorem d1_0 : decode prog_24_method_1_code 0 = .ok (.aload_n 0, 1) := by decide +kernel
theorem d1_1 : decode prog_24_method_1_code 1 = .ok (.invokespecial 5, 3) := by decide +kernel
theorem d1_4 : decode prog_24_method_1_code 4 = .ok (.aload_n 0, 1) := by decide +kernel
theorem d1_5 : decode prog_24_method_1_code 5 = .ok (.iconst 1, 1) := by decide +kernel
theorem d1_6 : decode prog_24_method_1_code 6 = .ok (.anewarray 11, 3) := by decide +kernel
theorem d1_9 : decode prog_24_method_1_code 9 = .ok (.dup, 1) := by decide +kernel
theorem d1_10 : decode prog_24_method_1_code 10 = .ok (.iconst 0, 1) := by decide +kernel
theorem d1_11 : decode prog_24_method_1_code 11 = .ok (.bipush 64, 2) := by decide +kernel
theorem d1_13 : decode prog_24_method_1_code 13 = .ok (.newarray .long, 2) := by decide +kernel
theorem d1_15 : decode prog_24_method_1_code 15 = .ok (.aastore, 1) := by decide +kernel
theorem d1_16 : decode prog_24_method_1_code 16 = .ok (.putfield 13, 3) := by decide +kernel
theorem d1_19 : decode prog_24_method_1_code 19 = .ok (.return_, 1) := by decide +kernel
theorem d3_0 : decode prog_24_method_7_code 0 = .ok (.aload_n 0, 1) := by decide +kernel
theorem d3_1 : decode prog_24_method_7_code 1 = .ok (.lconst 0, 1) := by decide +kernel
theorem d3_2 : decode prog_24_method_7_code 2 = .ok (.putfield 50, 3) := by decide +kernel
theorem d3_5 : decode prog_24_method_7_code 5 = .ok (.aload_n 0, 1) := by decide +kernel
theorem d3_6 : decode prog_24_method_7_code 6 = .ok (.lconst 0, 1) := by decide +kernel
theorem d3_7 : decode prog_24_method_7_code 7 = .ok (.putfield 17, 3) := by decide +kernel
theorem d3_10 : decode prog_24_method_7_code 10 = .ok (.aload_n 0, 1) := by decide +kernel
theorem d3_11 : decode prog_24_method_7_code 11 = .ok (.lconst 0, 1) := by decide +kernel
theorem d3_12 : decode prog_24_method_7_code 12 = .ok (.putfield 41, 3) := by decide +kernel
theorem d3_15 : decode prog_24_method_7_code 15 = .ok (.aload_n 0, 1) := by decide +kernel
theorem d3_16 : decode prog_24_method_7_code 16 = .ok (.getfield 13, 3) := by decide +kernel
theorem d3_19 : decode prog_24_method_7_code 19 = .ok (.arraylength, 1) := by decide +kernel
theorem d3_20 : decode prog_24_method_7_code 20 = .ok (.iconst 1, 1) := by decide +kernel
theorem d3_21 : decode prog_24_method_7_code 21 = .ok (.if_icmp .gt 15, 3) := by decide +kernel
theorem d3_24 : decode prog_24_method_7_code 24 = .ok (.aload_n 0, 1) := by decide +kernel
theorem d3_25 : decode prog_24_method_7_code 25 = .ok (.getfield 13, 3) := by decide +kernel
theorem d3_28 : decode prog_24_method_7_code 28 = .ok (.iconst 0, 1) := by decide +kernel
theorem d3_29 : decode prog_24_method_7_code 29 = .ok (.aaload, 1) := by decide +kernel
theorem d3_30 : decode prog_24_method_7_code 30 = .ok (.arraylength, 1) := by decide +kernel
theorem d3_31 : decode prog_24_method_7_code 31 = .ok (.bipush 64, 2) := by decide +kernel
theorem d3_33 : decode prog_24_method_7_code 33 = .ok (.if_icmp .le 18, 3) := by decide +kernel
theorem d3_36 : decode prog_24_method_7_code 36 = .ok (.aload_n 0, 1) := by decide +kernel
theorem d3_37 : decode prog_24_method_7_code 37 = .ok (.iconst 1, 1) := by decide +kernel
theorem d3_38 : decode prog_24_method_7_code 38 = .ok (.anewarray 11, 3) := by decide +kernel
theorem d3_41 : decode prog_24_method_7_code 41 = .ok (.dup, 1) := by decide +kernel
theorem d3_42 : decode prog_24_method_7_code 42 = .ok (.iconst 0, 1) := by decide +kernel
theorem d3_43 : decode prog_24_method_7_code 43 = .ok (.bipush 64, 2) := by decide +kernel
theorem d3_45 : decode prog_24_method_7_code 45 = .ok (.newarray .long, 2) := by decide +kernel
theorem d3_47 : decode prog_24_method_7_code 47 = .ok (.aastore, 1) := by decide +kernel
theorem d3_48 : decode prog_24_method_7_code 48 = .ok (.putfield 13, 3) := by decide +kernel
theorem d3_51 : decode prog_24_method_7_code 51 = .ok (.return_, 1) := by decide +kernel
theorem d5_0 : decode prog_24_method_2_code 0 = .ok (.aload_n 0, 1) := by decide +kernel
theorem d5_1 : decode prog_24_method_2_code 1 = .ok (.getfield 17, 3) := by decide +kernel
theorem d5_4 : decode prog_24_method_2_code 4 = .ok (.lconst 0, 1) := by decide +kernel
theorem d5_5 : decode prog_24_method_2_code 5 = .ok (.lcmp, 1) := by decide +kernel
theorem d5_6 : decode prog_24_method_2_code 6 = .ok (.ifCond .ge 27, 3) := by decide +kernel
theorem d5_9 : decode prog_24_method_2_code 9 = .ok (.aload_n 0, 1) := by decide +kernel
theorem d5_10 : decode prog_24_method_2_code 10 = .ok (.getfield 17, 3) := by decide +kernel
theorem d5_13 : decode prog_24_method_2_code 13 = .ok (.invokestatic 21, 3) := by decide +kernel
theorem d5_16 : decode prog_24_method_2_code 16 = .ok (.iload_n 1, 1) := by decide +kernel
theorem d5_17 : decode prog_24_method_2_code 17 = .ok (.if_icmp .ne 16, 3) := by decide +kernel
theorem d5_20 : decode prog_24_method_2_code 20 = .ok (.aload_n 0, 1) := by decide +kernel
theorem d5_21 : decode prog_24_method_2_code 21 = .ok (.dup, 1) := by decide +kernel
theorem d5_22 : decode prog_24_method_2_code 22 = .ok (.getfield 17, 3) := by decide +kernel
theorem d5_25 : decode prog_24_method_2_code 25 = .ok (.lconst 1, 1) := by decide +kernel
theorem d5_26 : decode prog_24_method_2_code 26 = .ok (.ladd, 1) := by decide +kernel
theorem d5_27 : decode prog_24_method_2_code 27 = .ok (.putfield 17, 3) := by decide +kernel
theorem d5_30 : decode prog_24_method_2_code 30 = .ok (.goto 112, 3) := by decide +kernel
theorem d5_33 : decode prog_24_method_2_code 33 = .ok (.aload_n 0, 1) := by decide +kernel
theorem d5_34 : decode prog_24_method_2_code 34 = .ok (.getfield 17, 3) := by decide +kernel
theorem d5_37 : decode prog_24_method_2_code 37 = .ok (.lconst 0, 1) := by decide +kernel
theorem d5_38 : decode prog_24_method_2_code 38 = .ok (.lcmp, 1) := by decide +kernel
theorem d5_39 : decode prog_24_method_2_code 39 = .ok (.ifCond .le 43, 3) := by decide +kernel
theorem d5_42 : decode prog_24_method_2_code 42 = .ok (.aload_n 0, 1) := by decide +kernel
theorem d5_43 : decode prog_24_method_2_code 43 = .ok (.getfield 17, 3) := by decide +kernel
theorem d5_46 : decode prog_24_method_2_code 46 = .ok (.invokestatic 25, 3) := by decide +kernel
theorem d5_49 : decode prog_24_method_2_code 49 = .ok (.bipush 29, 2) := by decide +kernel
theorem d5_51 : decode prog_24_method_2_code 51 = .ok (.if_icmp .ge 31, 3) := by decide +kernel
theorem d5_54 : decode prog_24_method_2_code 54 = .ok (.aload_n 0, 1) := by decide +kernel
theorem d5_55 : decode prog_24_method_2_code 55 = .ok (.aload_n 0, 1) := by decide +kernel
theorem d5_56 : decode prog_24_method_2_code 56 = .ok (.getfield 17, 3) := by decide +kernel
theorem d5_59 : decode prog_24_method_2_code 59 = .ok (.ldc2_w 28, 3) := by decide +kernel
theorem d5_62 : decode prog_24_method_2_code 62 = .ok (.ladd, 1) := by decide +kernel
theorem d5_63 : decode prog_24_method_2_code 63 = .ok (.iload_n 1, 1) := by decide +kernel
theorem d5_64 : decode prog_24_method_2_code 64 = .ok (.i2l, 1) := by decide +kernel
theorem d5_65 : decode prog_24_method_2_code 65 = .ok (.iconst 2, 1) := by decide +kernel
theorem d5_66 : decode prog_24_method_2_code 66 = .ok (.aload_n 0, 1) := by decide +kernel
theorem d5_67 : decode prog_24_method_2_code 67 = .ok (.getfield 17, 3) := by decide +kernel
theorem d5_70 : decode prog_24_method_2_code 70 = .ok (.invokestatic 25, 3) := by decide +kernel
theorem d5_73 : decode prog_24_method_2_code 73 = .ok (.imul, 1) := by decide +kernel
theorem d5_74 : decode prog_24_method_2_code 74 = .ok (.lshl, 1) := by decide +kernel
theorem d5_75 : decode prog_24_method_2_code 75 = .ok (.lor, 1) := by decide +kernel
theorem d5_76 : decode prog_24_method_2_code 76 = .ok (.putfield 17, 3) := by decide +kernel
theorem d5_79 : decode prog_24_method_2_code 79 = .ok (.goto 63, 3) := by decide +kernel
theorem d5_82 : decode prog_24_method_2_code 82 = .ok (.aload_n 0, 1) := by decide +kernel
theorem d5_83 : decode prog_24_method_2_code 83 = .ok (.getfield 17, 3) := by decide +kernel
theorem d5_86 : decode prog_24_method_2_code 86 = .ok (.getstatic 30, 3) := by decide +kernel
theorem d5_89 : decode prog_24_method_2_code 89 = .ok (.iload_n 1, 1) := by decide +kernel
theorem d5_90 : decode prog_24_method_2_code 90 = .ok (.laload, 1) := by decide +kernel
theorem d5_91 : decode prog_24_method_2_code 91 = .ok (.lcmp, 1) := by decide +kernel
theorem d5_92 : decode prog_24_method_2_code 92 = .ok (.ifCond .ne 23, 3) := by decide +kernel
theorem d5_95 : decode prog_24_method_2_code 95 = .ok (.aload_n 0, 1) := by decide +kernel
theorem d5_96 : decode prog_24_method_2_code 96 = .ok (.ldc2_w 33, 3) := by decide +kernel
theorem d5_99 : decode prog_24_method_2_code 99 = .ok (.iload_n 1, 1) := by decide +kernel
theorem d5_100 : decode prog_24_method_2_code 100 = .ok (.i2l, 1) := by decide +kernel
theorem d5_101 : decode prog_24_method_2_code 101 = .ok (.bipush 61, 2) := by decide +kernel
theorem d5_103 : decode prog_24_method_2_code 103 = .ok (.lshl, 1) := by decide +kernel
theorem d5_104 : decode prog_24_method_2_code 104 = .ok (.lor, 1) := by decide +kernel
theorem d5_105 : decode prog_24_method_2_code 105 = .ok (.ldc2_w 35, 3) := by decide +kernel
theorem d5_108 : decode prog_24_method_2_code 108 = .ok (.lor, 1) := by decide +kernel
theorem d5_109 : decode prog_24_method_2_code 109 = .ok (.putfield 17, 3) := by decide +kernel
theorem d5_112 : decode prog_24_method_2_code 112 = .ok (.goto 30, 3) := by decide +kernel
theorem d5_115 : decode prog_24_method_2_code 115 = .ok (.aload_n 0, 1) := by decide +kernel
theorem d5_116 : decode prog_24_method_2_code 116 = .ok (.getfield 17, 3) := by decide +kernel
theorem d5_119 : decode prog_24_method_2_code 119 = .ok (.lconst 0, 1) := by decide +kernel
theorem d5_120 : decode prog_24_method_2_code 120 = .ok (.lcmp, 1) := by decide +kernel
theorem d5_121 : decode prog_24_method_2_code 121 = .ok (.ifCond .eq 11, 3) := by decide +kernel
theorem d5_124 : decode prog_24_method_2_code 124 = .ok (.aload_n 0, 1) := by decide +kernel
theorem d5_125 : decode prog_24_method_2_code 125 = .ok (.aload_n 0, 1) := by decide +kernel
theorem d5_126 : decode prog_24_method_2_code 126 = .ok (.getfield 17, 3) := by decide +kernel
theorem d5_129 : decode prog_24_method_2_code 129 = .ok (.invokevirtual 37, 3) := by decide +kernel
theorem d5_132 : decode prog_24_method_2_code 132 = .ok (.aload_n 0, 1) := by decide +kernel
theorem d5_133 : decode prog_24_method_2_code 133 = .ok (.ldc2_w 28, 3) := by decide +kernel
theorem d5_136 : decode prog_24_method_2_code 136 = .ok (.iload_n 1, 1) := by decide +kernel
theorem d5_137 : decode prog_24_method_2_code 137 = .ok (.i2l, 1) := by decide +kernel
theorem d5_138 : decode prog_24_method_2_code 138 = .ok (.lor, 1) := by decide +kernel
theorem d5_139 : decode prog_24_method_2_code 139 = .ok (.putfield 17, 3) := by decide +kernel
theorem d5_142 : decode prog_24_method_2_code 142 = .ok (.aload_n 0, 1) := by decide +kernel
theorem d5_143 : decode prog_24_method_2_code 143 = .ok (.dup, 1) := by decide +kernel
theorem d5_144 : decode prog_24_method_2_code 144 = .ok (.getfield 41, 3) := by decide +kernel
theorem d5_147 : decode prog_24_method_2_code 147 = .ok (.lconst 1, 1) := by decide +kernel
theorem d5_148 : decode prog_24_method_2_code 148 = .ok (.ladd, 1) := by decide +kernel
theorem d5_149 : decode prog_24_method_2_code 149 = .ok (.putfield 41, 3) := by decide +kernel
theorem d5_152 : decode prog_24_method_2_code 152 = .ok (.return_, 1) := by decide +kernel
theorem d6_0 : decode method_1_code 0 = .ok (.aload_n 0, 1) := by decide +kernel
theorem d6_1 : decode method_1_code 1 = .ok (.invokespecial 1, 3) := by decide +kernel
theorem d6_4 : decode method_1_code 4 = .ok (.aload_n 0, 1) := by decide +kernel
theorem d6_5 : decode method_1_code 5 = .ok (.iconst (-1), 1) := by decide +kernel
theorem d6_6 : decode method_1_code 6 = .ok (.putfield 7, 3) := by decide +kernel
theorem d6_9 : decode method_1_code 9 = .ok (.return_, 1) := by decide +kernel
theorem d10_0 : decode method_2_code 0 = .ok (.aload_n 0, 1) := by decide +kernel
theorem d10_1 : decode method_2_code 1 = .ok (.dup, 1) := by decide +kernel
theorem d10_2 : decode method_2_code 2 = .ok (.getfield 13, 3) := by decide +kernel
theorem d10_5 : decode method_2_code 5 = .ok (.iconst 1, 1) := by decide +kernel
theorem d10_6 : decode method_2_code 6 = .ok (.iadd, 1) := by decide +kernel
theorem d10_7 : decode method_2_code 7 = .ok (.putfield 13, 3) := by decide +kernel
theorem d10_10 : decode method_2_code 10 = .ok (.aload_n 0, 1) := by decide +kernel
theorem d10_11 : decode method_2_code 11 = .ok (.iload_n 1, 1) := by decide +kernel
theorem d10_12 : decode method_2_code 12 = .ok (.putfield 7, 3) := by decide +kernel
theorem d10_15 : decode method_2_code 15 = .ok (.aload_n 0, 1) := by decide +kernel
theorem d10_16 : decode method_2_code 16 = .ok (.lload_n 2, 1) := by decide +kernel
theorem d10_17 : decode method_2_code 17 = .ok (.putfield 16, 3) := by decide +kernel
theorem d10_20 : decode method_2_code 20 = .ok (.return_, 1) := by decide +kernel
theorem d8_0 : decode prog_24_method_9_code 0 = .ok (.lload_n 0, 1) := by decide +kernel
theorem d8_1 : decode prog_24_method_9_code 1 = .ok (.lconst 0, 1) := by decide +kernel
theorem d8_2 : decode prog_24_method_9_code 2 = .ok (.lcmp, 1) := by decide +kernel
theorem d8_3 : decode prog_24_method_9_code 3 = .ok (.ifCond .ge 21, 3) := by decide +kernel
theorem d8_6 : decode prog_24_method_9_code 6 = .ok (.aload_n 2, 1) := by decide +kernel
theorem d8_7 : decode prog_24_method_9_code 7 = .ok (.lload_n 0, 1) := by decide +kernel
theorem d8_8 : decode prog_24_method_9_code 8 = .ok (.invokestatic 21, 3) := by decide +kernel
theorem d8_11 : decode prog_24_method_9_code 11 = .ok (.lload_n 0, 1) := by decide +kernel
theorem d8_12 : decode prog_24_method_9_code 12 = .ok (.ldc2_w 44, 3) := by decide +kernel
theorem d8_15 : decode prog_24_method_9_code 15 = .ok (.land, 1) := by decide +kernel
theorem d8_16 : decode prog_24_method_9_code 16 = .ok (.invokeinterface 67 4, 5) := by decide +kernel
theorem d8_21 : decode prog_24_method_9_code 21 = .ok (.goto 34, 3) := by decide +kernel
theorem d8_24 : decode prog_24_method_9_code 24 = .ok (.iconst 0, 1) := by decide +kernel
theorem d8_25 : decode prog_24_method_9_code 25 = .ok (.istore_n 3, 1) := by decide +kernel
theorem d8_26 : decode prog_24_method_9_code 26 = .ok (.iload_n 3, 1) := by decide +kernel
theorem d8_27 : decode prog_24_method_9_code 27 = .ok (.lload_n 0, 1) := by decide +kernel
theorem d8_28 : decode prog_24_method_9_code 28 = .ok (.invokestatic 25, 3) := by decide +kernel
theorem d8_31 : decode prog_24_method_9_code 31 = .ok (.if_icmp .ge 24, 3) := by decide +kernel
theorem d8_34 : decode prog_24_method_9_code 34 = .ok (.aload_n 2, 1) := by decide +kernel
theorem d8_35 : decode prog_24_method_9_code 35 = .ok (.lload_n 0, 1) := by decide +kernel
theorem d8_36 : decode prog_24_method_9_code 36 = .ok (.iconst 2, 1) := by decide +kernel
theorem d8_37 : decode prog_24_method_9_code 37 = .ok (.iload_n 3, 1) := by decide +kernel
theorem d8_38 : decode prog_24_method_9_code 38 = .ok (.imul, 1) := by decide +kernel
theorem d8_39 : decode prog_24_method_9_code 39 = .ok (.lushr, 1) := by decide +kernel
theorem d8_40 : decode prog_24_method_9_code 40 = .ok (.l2i, 1) := by decide +kernel
theorem d8_41 : decode prog_24_method_9_code 41 = .ok (.iconst 3, 1) := by decide +kernel
theorem d8_42 : decode prog_24_method_9_code 42 = .ok (.iand, 1) := by decide +kernel
theorem d8_43 : decode prog_24_method_9_code 43 = .ok (.lconst 1, 1) := by decide +kernel
theorem d8_44 : decode prog_24_method_9_code 44 = .ok (.invokeinterface 67 4, 5) := by decide +kernel
theorem d8_49 : decode prog_24_method_9_code 49 = .ok (.iinc 3 1, 3) := by decide +kernel
theorem d8_52 : decode prog_24_method_9_code 52 = .ok (.goto (-26), 3) := by decide +kernel
theorem d8_55 : decode prog_24_method_9_code 55 = .ok (.return_, 1) := by decide +kernel
theorem d7_0 : decode prog_24_method_6_code 0 = .ok (.lconst 0, 1) := by decide +kernel
theorem d7_1 : decode prog_24_method_6_code 1 = .ok (.lstore_n 2, 1) := by decide +kernel
theorem d7_2 : decode prog_24_method_6_code 2 = .ok (.lload_n 2, 1) := by decide +kernel
theorem d7_3 : decode prog_24_method_6_code 3 = .ok (.aload_n 0, 1) := by decide +kernel
theorem d7_4 : decode prog_24_method_6_code 4 = .ok (.getfield 50, 3) := by decide +kernel
theorem d7_7 : decode prog_24_method_6_code 7 = .ok (.lcmp, 1) := by decide +kernel
theorem d7_8 : decode prog_24_method_6_code 8 = .ok (.ifCond .ge 31, 3) := by decide +kernel
theorem d7_11 : decode prog_24_method_6_code 11 = .ok (.aload_n 0, 1) := by decide +kernel
theorem d7_12 : decode prog_24_method_6_code 12 = .ok (.getfield 13, 3) := by decide +kernel
theorem d7_15 : decode prog_24_method_6_code 15 = .ok (.lload_n 2, 1) := by decide +kernel
theorem d7_16 : decode prog_24_method_6_code 16 = .ok (.bipush 13, 2) := by decide +kernel
theorem d7_18 : decode prog_24_method_6_code 18 = .ok (.lushr, 1) := by decide +kernel
theorem d7_19 : decode prog_24_method_6_code 19 = .ok (.l2i, 1) := by decide +kernel
theorem d7_20 : decode prog_24_method_6_code 20 = .ok (.aaload, 1) := by decide +kernel
theorem d7_21 : decode prog_24_method_6_code 21 = .ok (.lload_n 2, 1) := by decide +kernel
theorem d7_22 : decode prog_24_method_6_code 22 = .ok (.l2i, 1) := by decide +kernel
theorem d7_23 : decode prog_24_method_6_code 23 = .ok (.sipush 8191, 3) := by decide +kernel
theorem d7_26 : decode prog_24_method_6_code 26 = .ok (.iand, 1) := by decide +kernel
theorem d7_27 : decode prog_24_method_6_code 27 = .ok (.laload, 1) := by decide +kernel
theorem d7_28 : decode prog_24_method_6_code 28 = .ok (.aload_n 1, 1) := by decide +kernel
theorem d7_29 : decode prog_24_method_6_code 29 = .ok (.invokestatic 53, 3) := by decide +kernel
theorem d7_32 : decode prog_24_method_6_code 32 = .ok (.lload_n 2, 1) := by decide +kernel
theorem d7_33 : decode prog_24_method_6_code 33 = .ok (.lconst 1, 1) := by decide +kernel
theorem d7_34 : decode prog_24_method_6_code 34 = .ok (.ladd, 1) := by decide +kernel
theorem d7_35 : decode prog_24_method_6_code 35 = .ok (.lstore_n 2, 1) := by decide +kernel
theorem d7_36 : decode prog_24_method_6_code 36 = .ok (.goto (-34), 3) := by decide +kernel
theorem d7_39 : decode prog_24_method_6_code 39 = .ok (.aload_n 0, 1) := by decide +kernel
theorem d7_40 : decode prog_24_method_6_code 40 = .ok (.getfield 17, 3) := by decide +kernel
theorem d7_43 : decode prog_24_method_6_code 43 = .ok (.lconst 0, 1) := by decide +kernel
theorem d7_44 : decode prog_24_method_6_code 44 = .ok (.lcmp, 1) := by decide +kernel
theorem d7_45 : decode prog_24_method_6_code 45 = .ok (.ifCond .eq 11, 3) := by decide +kernel
theorem d7_48 : decode prog_24_method_6_code 48 = .ok (.aload_n 0, 1) := by decide +kernel
theorem d7_49 : decode prog_24_method_6_code 49 = .ok (.getfield 17, 3) := by decide +kernel
theorem d7_52 : decode prog_24_method_6_code 52 = .ok (.aload_n 1, 1) := by decide +kernel
theorem d7_53 : decode prog_24_method_6_code 53 = .ok (.invokestatic 53, 3) := by decide +kernel
theorem d7_56 : decode prog_24_method_6_code 56 = .ok (.return_, 1) := by decide +kernel
theorem pd__28J_29I : parseMethodDescriptor "(J)I" = some ⟨[.long], some .int⟩ := by decide +kernel
theorem pd__28IJ_29V : parseMethodDescriptor "(IJ)V" = some ⟨[.int, .long], none⟩ := by decide +kernel
theorem pd__28JLcom_2fexample_2ffolha_2ffolha_2fbuilder_2fPackedCodes_24Runs_3b_29V : parseMethodDescriptor "(JLcom/example/folha/folha/builder/PackedCodes$Runs;)V" = some ⟨[.long, (.object "com/example/folha/folha/builder/PackedCodes$Runs")], none⟩ := by decide +kernel
theorem pd__28_29V : parseMethodDescriptor "()V" = some ⟨[], none⟩ := by decide +kernel
theorem pd__28_29J : parseMethodDescriptor "()J" = some ⟨[], some .long⟩ := by decide +kernel
theorem pd__28I_29V : parseMethodDescriptor "(I)V" = some ⟨[.int], none⟩ := by decide +kernel
theorem pd__28Lcom_2fexample_2ffolha_2ffolha_2fbuilder_2fPackedCodes_24Runs_3b_29V : parseMethodDescriptor "(Lcom/example/folha/folha/builder/PackedCodes$Runs;)V" = some ⟨[(.object "com/example/folha/folha/builder/PackedCodes$Runs")], none⟩ := by decide +kernel
theorem pd__28_29I : parseMethodDescriptor "()I" = some ⟨[], some .int⟩ := by decide +kernel
theorem ef_rmP (q1 : Int64) (m : MethodId) : entryFrame m #[.long q1] 2 = mkF m 0 #[.val (.long q1), .second] [] := by
  first | (simp [entryFrame, mkF, argsToLocals, Value.category]; done) | rfl
theorem pn_rmP : plainName "com/example/folha/folha/builder/PackedCodes" = true := by first | (simp [plainName, overriddenIn]; done) | decide +kernel
set_option maxRecDepth 65536 in
set_option maxHeartbeats 40000000 in
theorem rmP (l : Launch) (Z : State) (a0 : Array Value) (hw : ∀ d ∈ tables_1, d.before a0 Z = true) (ws : List Jvm.Cond) (q1 : Int64) (h0 : Heap) (n0 : Nat)  :
    Ctr l Z ({ cls := "com/example/folha/folha/builder/PackedCodes", name := "packedLength", desc := "(J)I" } : Jvm.MethodName) prog_24_method_11_code 2 (some .int) ws ({ frames := 0, cells := 0, slots := 0, locals := 0 } : Room) #[.long q1] h0 (fun v h L => v = some (.int (PLen q1)) ∧ Fr n0 L ∧ h = h0) := by
  refine Ctr.enter (Ls := #[.val (.long q1), .second]) (plainFor_of_name pn_rmP) (fun m => ef_rmP q1 m) ?_
  intro p e s m below meth c T hx hby hml hown hnm hret hlk hZ hh X0 e0
  have N0 := Fr.nil n0
  refine g_lloadN X0 hx hby d9_0 (pc' := 1) rfl rfl ?_
  refine g_bipush X0 hx hby d9_1 (pc' := 3) rfl (z := (58 : Int32)) rfl ?_
  refine g_lushr X0 hx hby d9_3 (pc' := 4) rfl ?_
  refine g_l2i X0 hx hby d9_4 (pc' := 5) rfl ?_
  exact g_retI (Q := (fun v h L => v = some (.int (PLen q1)) ∧ Fr n0 L ∧ h = h0)) X0 hx hby d9_5 hret hlk (by decide) (by decide) ⟨congrArg (fun z : Int32 => some (Value.int z)) (rfl), N0, e0⟩
theorem ef_rmL (q1 : Addr) (m : MethodId) : entryFrame m #[.ref q1] 1 = mkF m 0 #[.val (.ref q1)] [] := by
  first | (simp [entryFrame, mkF, argsToLocals, Value.category]; done) | rfl
theorem pn_rmL : plainName "com/example/folha/folha/builder/PackedCodes" = true := by first | (simp [plainName, overriddenIn]; done) | decide +kernel
set_option maxRecDepth 65536 in
set_option maxHeartbeats 40000000 in
theorem rmL (l : Launch) (Z : State) (a0 : Array Value) (hw : ∀ d ∈ tables_1, d.before a0 Z = true) (ws : List Jvm.Cond) (q1 : Addr) (h0 : Heap) (n0 : Nat) (f1 : Int64) (F1 : Fld Z h0 q1 "com/example/folha/folha/builder/PackedCodes" "length" "J" (.long f1)) :
    Ctr l Z ({ cls := "com/example/folha/folha/builder/PackedCodes", name := "length", desc := "()J" } : Jvm.MethodName) prog_24_method_5_code 1 (some .long) ws ({ frames := 0, cells := 0, slots := 0, locals := 0 } : Room) #[.ref q1] h0 (fun v h L => v = some (.long f1) ∧ Fr n0 L ∧ h = h0) := by
  refine Ctr.enter (Ls := #[.val (.ref q1)]) (plainFor_of_name pn_rmL) (fun m => ef_rmL q1 m) ?_
  intro p e s m below meth c T hx hby hml hown hnm hret hlk hZ hh X0 e0
  have N0 := Fr.nil n0
  refine g_aloadN X0 hx hby d4_0 (pc' := 1) rfl rfl rfl ?_
  refine g_get X0 hx hZ hown hby d4_1 (pc' := 4) rfl (w_24 hw) e0 F1 ?_
  intro T1 X1 e1
  exact g_retL (Q := (fun v h L => v = some (.long f1) ∧ Fr n0 L ∧ h = h0)) X1 hx hby d4_4 hret hlk (by decide) (by decide) ⟨rfl, N0, e1⟩
theorem ef_rmLa (q1 : Addr) (m : MethodId) : entryFrame m #[.ref q1] 1 = mkF m 0 #[.val (.ref q1)] [] := by
  first | (simp [entryFrame, mkF, argsToLocals, Value.category]; done) | rfl
theorem pn_rmLa : plainName "com/example/folha/folha/builder/PackedCodes" = true := by first | (simp [plainName, overriddenIn]; done) | decide +kernel
set_option maxRecDepth 65536 in
set_option maxHeartbeats 40000000 in
theorem rmLa (l : Launch) (Z : State) (a0 : Array Value) (hw : ∀ d ∈ tables_1, d.before a0 Z = true) (ws : List Jvm.Cond) (q1 : Addr) (h0 : Heap) (n0 : Nat) (t1 : Int64) (F1 : Fld Z h0 q1 "com/example/folha/folha/builder/PackedCodes" "tail" "J" (.long t1)) (ht1 : ¬ t1 < 0) :
    Ctr l Z ({ cls := "com/example/folha/folha/builder/PackedCodes", name := "last", desc := "()I" } : Jvm.MethodName) prog_24_method_3_code 1 (some .int) ws ({ frames := 1, cells := 0, slots := 0, locals := 16 } : Room) #[.ref q1] h0 (fun v h L => v = some (.int (lastV t1)) ∧ Fr n0 L ∧ h = h0) := by
  refine Ctr.enter (Ls := #[.val (.ref q1)]) (plainFor_of_name pn_rmLa) (fun m => ef_rmLa q1 m) ?_
  intro p e s m below meth c T hx hby hml hown hnm hret hlk hZ hh X0 e0
  have N0 := Fr.nil n0
  refine g_aloadN X0 hx hby d11_0 (pc' := 1) rfl rfl rfl ?_
  refine g_get X0 hx hZ hown hby d11_1 (pc' := 4) rfl (w_22 hw) e0 F1 ?_
  intro T1 X1 e1
  refine g_lconst X1 hx hby d11_4 (pc' := 5) rfl (z := (0 : Int64)) rfl ?_
  refine g_lcmp X1 hx hby d11_5 (pc' := 6) rfl ?_
  refine g_ifL_ge X1 hx hby d11_6 (by decide) (pc' := 19) (by decide) (pn := 9) rfl (fun hc6_2 => ?_) (fun z => absurd z (fun z => ht1 z))
  refine g_aloadN X1 hx hby d11_19 (pc' := 20) rfl rfl rfl ?_
  refine g_get X1 hx hZ hown hby d11_20 (pc' := 23) rfl (w_22 hw) e1 F1 ?_
  intro T3 X3 e3
  refine g_iconst X3 hx hby d11_23 (pc' := 24) rfl (z := (2 : Int32)) rfl ?_
  refine g_aloadN X3 hx hby d11_24 (pc' := 25) rfl rfl rfl ?_
  refine g_get X3 hx hZ hown hby d11_25 (pc' := 28) rfl (w_22 hw) e3 F1 ?_
  intro T4 X4 e4
  refine g_callS X4 hx hZ hown (W := 3) (argsL := [.long t1]) (rest := [.int (2 : Int32), .long t1]) hby d11_28 (pc' := 31) rfl (by rw [hml]; rfl) (w_56 hw) (w_57 hw) (w_2 hw) (w_58 hw) (by decide) (rmP l Z a0 hw [] t1 h0 n0) e4 (by decide) (by decide) (by decide) (by decide) rfl pd__28J_29I rfl rfl (Nat.le_of_eq rfl) ?_
  rintro _ T5 L5 X5 ⟨rfl, N5q, e5⟩
  have N5 := Fr.app N0 N5q
  show GoE p e below _ (T5.setTop (mkF m 31 #[.val (.ref q1)] [.int (PLen t1), .int (2 : Int32), .long t1]))
  refine g_iconst X5 hx hby d11_31 (pc' := 32) rfl (z := (1 : Int32)) rfl ?_
  refine g_isub X5 hx hby d11_32 (pc' := 33) rfl ?_
  refine g_imul X5 hx hby d11_33 (pc' := 34) rfl ?_
  refine g_lushr X5 hx hby d11_34 (pc' := 35) rfl ?_
  refine g_l2i X5 hx hby d11_35 (pc' := 36) rfl ?_
  refine g_iconst X5 hx hby d11_36 (pc' := 37) rfl (z := (3 : Int32)) rfl ?_
  refine g_iand X5 hx hby d11_37 (pc' := 38) rfl ?_
  exact g_retI (Q := (fun v h L => v = some (.int (lastV t1)) ∧ Fr n0 L ∧ h = h0)) X5 hx hby d11_38 hret hlk (by decide) (by decide) ⟨congrArg (fun z : Int32 => some (Value.int z)) (rfl), N5, e5⟩
theorem ef_rmI (q1 : Addr) (m : MethodId) : entryFrame m #[.ref q1] 1 = mkF m 0 #[.val (.ref q1)] [] := by
  first | (simp [entryFrame, mkF, argsToLocals, Value.category]; done) | rfl
theorem pn_rmI : plainName "com/example/folha/folha/builder/PackedCodes" = true := by first | (simp [plainName, overriddenIn]; done) | decide +kernel
set_option maxRecDepth 65536 in
set_option maxHeartbeats 40000000 in
theorem rmI (l : Launch) (Z : State) (a0 : Array Value) (hw : ∀ d ∈ tables_1, d.before a0 Z = true) (ws : List Jvm.Cond) (q1 : Addr) (h0 : Heap) (n0 : Nat) (Z0 : n0 ≤ h0.size) (E_a : Exa Z h0 q1 "com/example/folha/folha/builder/PackedCodes") (F_chunks : Fld Z h0 q1 "com/example/folha/folha/builder/PackedCodes" "chunks" "[[J" (.null)) (F_stored : Fld Z h0 q1 "com/example/folha/folha/builder/PackedCodes" "stored" "J" (.long (0 : Int64))) (F_tail : Fld Z h0 q1 "com/example/folha/folha/builder/PackedCodes" "tail" "J" (.long (0 : Int64))) (F_length : Fld Z h0 q1 "com/example/folha/folha/builder/PackedCodes" "length" "J" (.long (0 : Int64))) (g_a : n0 ≤ q1) :
    Ctr l Z ({ cls := "com/example/folha/folha/builder/PackedCodes", name := "<init>", desc := "()V" } : Jvm.MethodName) prog_24_method_1_code 1 none ws ({ frames := 1, cells := 2, slots := 65, locals := 12 } : Room) #[.ref q1] h0 (fun v h L => v = none ∧ Fr n0 L ∧ Keep h0 h [q1] ∧ Exa Z h q1 "com/example/folha/folha/builder/PackedCodes" ∧ ∃ (bc : Addr) (kc : ClassId) (bl : Addr) (kl : ClassId), Fld Z h q1 "com/example/folha/folha/builder/PackedCodes" "chunks" "[[J" (.ref bc) ∧ Fld Z h q1 "com/example/folha/folha/builder/PackedCodes" "stored" "J" (.long (0 : Int64)) ∧ Fld Z h q1 "com/example/folha/folha/builder/PackedCodes" "tail" "J" (.long (0 : Int64)) ∧ Fld Z h q1 "com/example/folha/folha/builder/PackedCodes" "length" "J" (.long (0 : Int64)) ∧ Arv Z h bc kc (.array .long) (1 : Int32) [.ref bl] (.null) ∧ Arv Z h bl kl .long (64 : Int32) (List.replicate 64 (.long 0)) (.long 0) ∧ bc ≠ q1 ∧ bl ≠ q1) := by
  refine Ctr.enter (Ls := #[.val (.ref q1)]) (plainFor_of_name pn_rmI) (fun m => ef_rmI q1 m) ?_
  intro p e s m below meth c T hx hby hml hown hnm hret hlk hZ hh X0 e0
  have N0 := Fr.nil n0
  refine g_aloadN X0 hx hby d1_0 (pc' := 1) rfl rfl rfl ?_
  obtain ⟨T1, X1, e1, st1⟩ := initO X0 hx hZ hown (w_6 hw) (w_7 hw) (w_8 hw) e0 (g := (mkF m 1 #[.val (.ref q1)] [.ref q1])) rfl (by rw [hml]; rfl) rfl (hb hby d1_1) (by decide) (W := 0) (by show 2 * 0 + _ ≤ _; exact Nat.le_of_eq rfl) (by decide)
  refine GoE.pull (b := T1.setTop (mkF m 4 #[.val (.ref q1)] [])) ?_ st1
  refine g_aloadN X1 hx hby d1_4 (pc' := 5) rfl rfl rfl ?_
  refine g_iconst X1 hx hby d1_5 (pc' := 6) rfl (z := (1 : Int32)) rfl ?_
  refine g_anewarrayA X1 hx hZ hown (ty := .long) 1 "[[J" hby d1_6 (pc' := 9) rfl rfl (w_9 hw) (w_10 hw) e1 (by decide) (by decide) (by decide) (by decide) (by decide) rfl ?_
  intro T2 b2 c2 hb2 X2 E2 A2v A2x O2
  have E2_q1 := E_a.ext E2
  have ne2_q1 : q1 ≠ b2 := hb2 ▸ Nat.ne_of_lt E_a.lt
  have Z2 := Nat.le_trans Z0 E2.1
  have K2 := (Keep.refl h0 [q1]).ext E2
  have F2_q1_chunks := F_chunks.ext E2
  have F2_q1_stored := F_stored.ext E2
  have F2_q1_tail := F_tail.ext E2
  have F2_q1_length := F_length.ext E2
  have A2 : Arv Z T2.heap b2 c2 (.array .long) (1 : Int32) [.null] (.null) := A2v
  refine g_dup X2 hx hby d1_9 (pc' := 10) rfl rfl ?_
  refine g_iconst X2 hx hby d1_10 (pc' := 11) rfl (z := (0 : Int32)) rfl ?_
  refine g_bipush X2 hx hby d1_11 (pc' := 13) rfl (z := (64 : Int32)) rfl ?_
  refine g_newarray X2 hx hZ 64  "[J" hby d1_13 (pc' := 15) rfl (w_11 hw) rfl (by decide) (by decide) (by decide) (by decide) (by decide) rfl ?_
  intro T3 b3 c3 hb3 X3 E3 A3v A3x
  have E3_q1 := E2_q1.ext E3
  have ne3_q1 : q1 ≠ b3 := hb3 ▸ Nat.ne_of_lt E2_q1.lt
  have Z3 := Nat.le_trans Z2 E3.1
  have K3 := K2.ext E3
  have F3_q1_chunks := F2_q1_chunks.ext E3
  have F3_q1_stored := F2_q1_stored.ext E3
  have F3_q1_tail := F2_q1_tail.ext E3
  have F3_q1_length := F2_q1_length.ext E3
  have A3_b2 := A2.ext E3
  have ne3_b2 : b2 ≠ b3 := hb3 ▸ Nat.ne_of_lt A2.lt
  have E3_b2 := A2x.ext E3
  have A3 : Arv Z T3.heap b3 c3 .long (64 : Int32) (List.replicate 64 (.long 0)) (.long 0) := A3v
  refine g_aastore X3 hx hZ 0 hby d1_15 (pc' := 16) rfl rfl A3_b2 rfl (fun cl A q => Sto.ofVA A q O2 (Ins.self A3x)) rfl (by decide) (by decide) (by decide) ?_
  intro T4 X4 W4 A4v
  have N4 := Fr.snoc X4 N0 (Nat.le_trans Z0 (Nat.le_of_eq hb2.symm))
  have E4_q1 := E3_q1.wr W4
  have Z4 : n0 ≤ T4.heap.size := (W4.size ▸ Z3)
  have K4 := K3.wr W4 (Or.inr (Nat.le_trans (Keep.refl h0 [q1]).1 (Nat.le_of_eq hb2.symm)))
  have F4_q1_chunks := F3_q1_chunks.other W4 (Or.inl ne2_q1)
  have F4_q1_stored := F3_q1_stored.other W4 (Or.inl ne2_q1)
  have F4_q1_tail := F3_q1_tail.other W4 (Or.inl ne2_q1)
  have F4_q1_length := F3_q1_length.other W4 (Or.inl ne2_q1)
  have E4_b2 := E3_b2.wr W4
  have A4_b3 := A3.other W4 ne3_b2.symm
  have E4_b3 := A3x.wr W4
  have A4 : Arv Z T4.heap b2 c2 (.array .long) (1 : Int32) [.ref b3] (.null) := A4v
  refine g_put X4 hx hZ hown hby d1_16 (pc' := 19) rfl (w_13 hw) rfl F4_q1_chunks E4_q1 (Or.inl (w_14 hw)) (w_1 hw) (ty := (.array (.array .long))) (by decide) rfl rfl ?_
  intro T5 X5 W5
  have N5 := Fr.snoc X5 N4 g_a
  have E5_q1 := E4_q1.wr W5
  have Z5 : n0 ≤ T5.heap.size := (W5.size ▸ Z4)
  have K5 := K4.wr W5 (Or.inl (List.mem_of_getElem? (i := 0) rfl))
  have F5_q1_chunks := F4_q1_chunks.same W5
  have F5_q1_stored := F4_q1_stored.other W5 (Or.inr (slot_ne (Or.inl (w_21 hw)) (Or.inl (w_14 hw)) (by decide) (t := .long) (t' := (.array (.array .long))) (by decide) (by decide)))
  have F5_q1_tail := F4_q1_tail.other W5 (Or.inr (slot_ne (Or.inl (w_23 hw)) (Or.inl (w_14 hw)) (by decide) (t := .long) (t' := (.array (.array .long))) (by decide) (by decide)))
  have F5_q1_length := F4_q1_length.other W5 (Or.inr (slot_ne (Or.inl (w_25 hw)) (Or.inl (w_14 hw)) (by decide) (t := .long) (t' := (.array (.array .long))) (by decide) (by decide)))
  have E5_b2 := E4_b2.wr W5
  have A5_b3 := A4_b3.other W5 ne3_q1.symm
  have E5_b3 := E4_b3.wr W5
  have A5_b2 := A4.other W5 ne2_q1.symm
  exact g_retV (Q := (fun v h L => v = none ∧ Fr n0 L ∧ Keep h0 h [q1] ∧ Exa Z h q1 "com/example/folha/folha/builder/PackedCodes" ∧ ∃ (bc : Addr) (kc : ClassId) (bl : Addr) (kl : ClassId), Fld Z h q1 "com/example/folha/folha/builder/PackedCodes" "chunks" "[[J" (.ref bc) ∧ Fld Z h q1 "com/example/folha/folha/builder/PackedCodes" "stored" "J" (.long (0 : Int64)) ∧ Fld Z h q1 "com/example/folha/folha/builder/PackedCodes" "tail" "J" (.long (0 : Int64)) ∧ Fld Z h q1 "com/example/folha/folha/builder/PackedCodes" "length" "J" (.long (0 : Int64)) ∧ Arv Z h bc kc (.array .long) (1 : Int32) [.ref bl] (.null) ∧ Arv Z h bl kl .long (64 : Int32) (List.replicate 64 (.long 0)) (.long 0) ∧ bc ≠ q1 ∧ bl ≠ q1)) X5 hx hby d1_19 hret hlk (by decide) (by decide) ⟨rfl, N5, K5, E5_q1, b2, c2, b3, c3, F5_q1_chunks, F5_q1_stored, F5_q1_tail, F5_q1_length, A5_b2, A5_b3, ne2_q1.symm, ne3_q1.symm⟩
theorem ef_rmC (q1 : Addr) (m : MethodId) : entryFrame m #[.ref q1] 1 = mkF m 0 #[.val (.ref q1)] [] := by
  first | (simp [entryFrame, mkF, argsToLocals, Value.category]; done) | rfl
theorem pn_rmC : plainName "com/example/folha/folha/builder/PackedCodes" = true := by first | (simp [plainName, overriddenIn]; done) | decide +kernel
set_option maxRecDepth 65536 in
set_option maxHeartbeats 40000000 in
theorem rmC (l : Launch) (Z : State) (a0 : Array Value) (hw : ∀ d ∈ tables_1, d.before a0 Z = true) (ws : List Jvm.Cond) (q1 : Addr) (h0 : Heap) (n0 : Nat) (bc : Addr) (kc : ClassId) (bl : Addr) (kl : ClassId) (u1 u2 u3 : Value) (E_a : Exa Z h0 q1 "com/example/folha/folha/builder/PackedCodes") (F_chunks : Fld Z h0 q1 "com/example/folha/folha/builder/PackedCodes" "chunks" "[[J" (.ref bc)) (F_stored : Fld Z h0 q1 "com/example/folha/folha/builder/PackedCodes" "stored" "J" (u1)) (F_tail : Fld Z h0 q1 "com/example/folha/folha/builder/PackedCodes" "tail" "J" (u2)) (F_length : Fld Z h0 q1 "com/example/folha/folha/builder/PackedCodes" "length" "J" (u3)) (A_c : Arv Z h0 bc kc (.array .long) (1 : Int32) [.ref bl] (.null)) (A_l : Arv Z h0 bl kl .long (64 : Int32) (List.replicate 64 (.long 0)) (.long 0)) (n_c : bc ≠ q1) (n_l : bl ≠ q1) (g_a : n0 ≤ q1) :
    Ctr l Z ({ cls := "com/example/folha/folha/builder/PackedCodes", name := "clear", desc := "()V" } : Jvm.MethodName) prog_24_method_7_code 1 none ws ({ frames := 0, cells := 0, slots := 0, locals := 0 } : Room) #[.ref q1] h0 (fun v h L => v = none ∧ Fr n0 L ∧ Keep h0 h [q1] ∧ Exa Z h q1 "com/example/folha/folha/builder/PackedCodes" ∧ Fld Z h q1 "com/example/folha/folha/builder/PackedCodes" "chunks" "[[J" (.ref bc) ∧ Fld Z h q1 "com/example/folha/folha/builder/PackedCodes" "stored" "J" (.long (0 : Int64)) ∧ Fld Z h q1 "com/example/folha/folha/builder/PackedCodes" "tail" "J" (.long (0 : Int64)) ∧ Fld Z h q1 "com/example/folha/folha/builder/PackedCodes" "length" "J" (.long (0 : Int64))) := by
  refine Ctr.enter (Ls := #[.val (.ref q1)]) (plainFor_of_name pn_rmC) (fun m => ef_rmC q1 m) ?_
  intro p e s m below meth c T hx hby hml hown hnm hret hlk hZ hh X0 e0
  have N0 := Fr.nil n0
  refine g_aloadN X0 hx hby d3_0 (pc' := 1) rfl rfl rfl ?_
  refine g_lconst X0 hx hby d3_1 (pc' := 2) rfl (z := (0 : Int64)) rfl ?_
  refine g_put X0 hx hZ hown hby d3_2 (pc' := 5) rfl (w_20 hw) e0 F_stored E_a (Or.inl (w_21 hw)) (w_1 hw) (ty := .long) (by decide) rfl rfl ?_
  intro T1 X1 W1
  have N1 := Fr.snoc X1 N0 g_a
  have E1_q1 := E_a.wr W1
  have K1 := (Keep.refl h0 [q1]).wr W1 (Or.inl (List.mem_of_getElem? (i := 0) rfl))
  have A1_bc := A_c.other W1 n_c
  have A1_bl := A_l.other W1 n_l
  have F1_q1_chunks := F_chunks.other W1 (Or.inr (slot_ne (Or.inl (w_14 hw)) (Or.inl (w_21 hw)) (by decide) (t := (.array (.array .long))) (t' := .long) (by decide) (by decide)))
  have F1_q1_stored := F_stored.same W1
  have F1_q1_tail := F_tail.other W1 (Or.inr (slot_ne (Or.inl (w_23 hw)) (Or.inl (w_21 hw)) (by decide) (t := .long) (t' := .long) (by decide) (by decide)))
  have F1_q1_length := F_length.other W1 (Or.inr (slot_ne (Or.inl (w_25 hw)) (Or.inl (w_21 hw)) (by decide) (t := .long) (t' := .long) (by decide) (by decide)))
  refine g_aloadN X1 hx hby d3_5 (pc' := 6) rfl rfl rfl ?_
  refine g_lconst X1 hx hby d3_6 (pc' := 7) rfl (z := (0 : Int64)) rfl ?_
  refine g_put X1 hx hZ hown hby d3_7 (pc' := 10) rfl (w_22 hw) rfl F1_q1_tail E1_q1 (Or.inl (w_23 hw)) (w_1 hw) (ty := .long) (by decide) rfl rfl ?_
  intro T2 X2 W2
  have N2 := Fr.snoc X2 N1 g_a
  have E2_q1 := E1_q1.wr W2
  have K2 := K1.wr W2 (Or.inl (List.mem_of_getElem? (i := 0) rfl))
  have A2_bc := A1_bc.other W2 n_c
  have A2_bl := A1_bl.other W2 n_l
  have F2_q1_chunks := F1_q1_chunks.other W2 (Or.inr (slot_ne (Or.inl (w_14 hw)) (Or.inl (w_23 hw)) (by decide) (t := (.array (.array .long))) (t' := .long) (by decide) (by decide)))
  have F2_q1_stored := F1_q1_stored.other W2 (Or.inr (slot_ne (Or.inl (w_21 hw)) (Or.inl (w_23 hw)) (by decide) (t := .long) (t' := .long) (by decide) (by decide)))
  have F2_q1_tail := F1_q1_tail.same W2
  have F2_q1_length := F1_q1_length.other W2 (Or.inr (slot_ne (Or.inl (w_25 hw)) (Or.inl (w_23 hw)) (by decide) (t := .long) (t' := .long) (by decide) (by decide)))
  refine g_aloadN X2 hx hby d3_10 (pc' := 11) rfl rfl rfl ?_
  refine g_lconst X2 hx hby d3_11 (pc' := 12) rfl (z := (0 : Int64)) rfl ?_
  refine g_put X2 hx hZ hown hby d3_12 (pc' := 15) rfl (w_24 hw) rfl F2_q1_length E2_q1 (Or.inl (w_25 hw)) (w_1 hw) (ty := .long) (by decide) rfl rfl ?_
  intro T3 X3 W3
  have N3 := Fr.snoc X3 N2 g_a
  have E3_q1 := E2_q1.wr W3
  have K3 := K2.wr W3 (Or.inl (List.mem_of_getElem? (i := 0) rfl))
  have A3_bc := A2_bc.other W3 n_c
  have A3_bl := A2_bl.other W3 n_l
  have F3_q1_chunks := F2_q1_chunks.other W3 (Or.inr (slot_ne (Or.inl (w_14 hw)) (Or.inl (w_25 hw)) (by decide) (t := (.array (.array .long))) (t' := .long) (by decide) (by decide)))
  have F3_q1_stored := F2_q1_stored.other W3 (Or.inr (slot_ne (Or.inl (w_21 hw)) (Or.inl (w_25 hw)) (by decide) (t := .long) (t' := .long) (by decide) (by decide)))
  have F3_q1_tail := F2_q1_tail.other W3 (Or.inr (slot_ne (Or.inl (w_23 hw)) (Or.inl (w_25 hw)) (by decide) (t := .long) (t' := .long) (by decide) (by decide)))
  have F3_q1_length := F2_q1_length.same W3
  refine g_aloadN X3 hx hby d3_15 (pc' := 16) rfl rfl rfl ?_
  refine g_get X3 hx hZ hown hby d3_16 (pc' := 19) rfl (w_13 hw) rfl F3_q1_chunks ?_
  intro T4 X4 e4
  refine g_alen X4 hx hZ hby d3_19 (pc' := 20) rfl e4 A3_bc ?_
  refine g_iconst X4 hx hby d3_20 (pc' := 21) rfl (z := (1 : Int32)) rfl ?_
  refine g_icmp_gt X4 hx hby d3_21 (by decide) (pc' := 36) (by decide) (pn := 24) rfl (fun z => absurd z (by decide)) (fun _ => ?_)
  refine g_aloadN X4 hx hby d3_24 (pc' := 25) rfl rfl rfl ?_
  refine g_get X4 hx hZ hown hby d3_25 (pc' := 28) rfl (w_13 hw) e4 F3_q1_chunks ?_
  intro T5 X5 e5
  refine g_iconst X5 hx hby d3_28 (pc' := 29) rfl (z := (0 : Int32)) rfl ?_
  refine g_aaload X5 hx hZ hby d3_29 (pc' := 30) rfl e5 A3_bc rfl (by decide) (v := .ref bl) rfl ?_
  refine g_alen X5 hx hZ hby d3_30 (pc' := 31) rfl e5 A3_bl ?_
  refine g_bipush X5 hx hby d3_31 (pc' := 33) rfl (z := (64 : Int32)) rfl ?_
  refine g_icmp_le X5 hx hby d3_33 (by decide) (pc' := 51) (by decide) (pn := 36) rfl (fun _ => ?_) (fun z => absurd z (by decide))
  exact g_retV (Q := (fun v h L => v = none ∧ Fr n0 L ∧ Keep h0 h [q1] ∧ Exa Z h q1 "com/example/folha/folha/builder/PackedCodes" ∧ Fld Z h q1 "com/example/folha/folha/builder/PackedCodes" "chunks" "[[J" (.ref bc) ∧ Fld Z h q1 "com/example/folha/folha/builder/PackedCodes" "stored" "J" (.long (0 : Int64)) ∧ Fld Z h q1 "com/example/folha/folha/builder/PackedCodes" "tail" "J" (.long (0 : Int64)) ∧ Fld Z h q1 "com/example/folha/folha/builder/PackedCodes" "length" "J" (.long (0 : Int64)))) X5 hx hby d3_51 hret hlk (by decide) (by decide) (by rw [e5]; exact ⟨rfl, N3, K3, E3_q1, F3_q1_chunks, F3_q1_stored, F3_q1_tail, F3_q1_length⟩)
theorem ef_rmA1 (q1 : Addr) (q2 : Int32) (m : MethodId) : entryFrame m #[.ref q1, .int q2] 2 = mkF m 0 #[.val (.ref q1), .val (.int q2)] [] := by
  first | (simp [entryFrame, mkF, argsToLocals, Value.category]; done) | rfl
theorem pn_rmA1 : plainName "com/example/folha/folha/builder/PackedCodes" = true := by first | (simp [plainName, overriddenIn]; done) | decide +kernel
set_option maxRecDepth 65536 in
set_option maxHeartbeats 40000000 in
theorem rmA1 (l : Launch) (Z : State) (a0 : Array Value) (hw : ∀ d ∈ tables_1, d.before a0 Z = true) (ws : List Jvm.Cond) (q1 : Addr) (q2 : Int32) (h0 : Heap) (n0 : Nat) (bF : Addr) (kF : ClassId) (S_F : Sta Z h0 "com/example/folha/folha/builder/PackedCodes" "FULL" "[J" (.ref bF)) (A_F : Arv Z h0 bF kF .long (4 : Int32) [.long 8358680908399640576, .long 8454757700450211157, .long 8550834492500781738, .long 8646911284551352319] (.long 0)) (u0 u1 : Value) (f1 : Int64) (E_a : Exa Z h0 q1 "com/example/folha/folha/builder/PackedCodes") (F_chunks : Fld Z h0 q1 "com/example/folha/folha/builder/PackedCodes" "chunks" "[[J" (u0)) (F_stored : Fld Z h0 q1 "com/example/folha/folha/builder/PackedCodes" "stored" "J" (u1)) (F_tail : Fld Z h0 q1 "com/example/folha/folha/builder/PackedCodes" "tail" "J" (.long (0 : Int64))) (F_length : Fld Z h0 q1 "com/example/folha/folha/builder/PackedCodes" "length" "J" (.long f1)) (n_F : bF ≠ q1) (hq : K4 q2) (g_a : n0 ≤ q1) :
    Ctr l Z ({ cls := "com/example/folha/folha/builder/PackedCodes", name := "add", desc := "(I)V" } : Jvm.MethodName) prog_24_method_2_code 2 none ws ({ frames := 1, cells := 0, slots := 0, locals := 19 } : Room) #[.ref q1, .int q2] h0 (fun v h L => v = none ∧ Fr n0 L ∧ Keep h0 h [q1] ∧ Exa Z h q1 "com/example/folha/folha/builder/PackedCodes" ∧ Fld Z h q1 "com/example/folha/folha/builder/PackedCodes" "chunks" "[[J" (u0) ∧ Fld Z h q1 "com/example/folha/folha/builder/PackedCodes" "stored" "J" (u1) ∧ Fld Z h q1 "com/example/folha/folha/builder/PackedCodes" "tail" "J" (.long (nx1 q2)) ∧ Fld Z h q1 "com/example/folha/folha/builder/PackedCodes" "length" "J" (.long (f1 + (1 : Int64)))) := by
  refine Ctr.enter (Ls := #[.val (.ref q1), .val (.int q2)]) (plainFor_of_name pn_rmA1) (fun m => ef_rmA1 q1 q2 m) ?_
  intro p e s m below meth c T hx hby hml hown hnm hret hlk hZ hh X0 e0
  have N0 := Fr.nil n0
  refine g_aloadN X0 hx hby d5_0 (pc' := 1) rfl rfl rfl ?_
  refine g_get X0 hx hZ hown hby d5_1 (pc' := 4) rfl (w_22 hw) e0 F_tail ?_
  intro T1 X1 e1
  refine g_lconst X1 hx hby d5_4 (pc' := 5) rfl (z := (0 : Int64)) rfl ?_
  refine g_lcmp X1 hx hby d5_5 (pc' := 6) rfl ?_
  refine g_ifL_ge X1 hx hby d5_6 (by decide) (pc' := 33) (by decide) (pn := 9) rfl (fun _ => ?_) (fun z => absurd z (by decide))
  refine g_aloadN X1 hx hby d5_33 (pc' := 34) rfl rfl rfl ?_
  refine g_get X1 hx hZ hown hby d5_34 (pc' := 37) rfl (w_22 hw) e1 F_tail ?_
  intro T2 X2 e2
  refine g_lconst X2 hx hby d5_37 (pc' := 38) rfl (z := (0 : Int64)) rfl ?_
  refine g_lcmp X2 hx hby d5_38 (pc' := 39) rfl ?_
  refine g_ifL_le X2 hx hby d5_39 (by decide) (pc' := 82) (by decide) (pn := 42) rfl (fun _ => ?_) (fun z => absurd z (by decide))
  refine g_aloadN X2 hx hby d5_82 (pc' := 83) rfl rfl rfl ?_
  refine g_get X2 hx hZ hown hby d5_83 (pc' := 86) rfl (w_22 hw) e2 F_tail ?_
  intro T3 X3 e3
  refine g_getS X3 hx hZ hown hby d5_86 (pc' := 89) rfl (w_36 hw) e3 S_F ?_
  intro T4 X4 e4
  refine g_iloadN X4 hx hby d5_89 (pc' := 90) rfl rfl ?_
  refine g_laload X4 hx hZ hby d5_90 (pc' := 91) rfl e4 A_F (own_kb hq) (v := .long (fullV q2)) (own_full _) ?_
  refine g_lcmp X4 hx hby d5_91 (pc' := 92) rfl ?_
  refine g_ifL_ne X4 hx hby d5_92 (by decide) (pc' := 115) (by decide) (pn := 95) rfl (fun hc92_5 => ?_) (fun z => absurd z (fun z => own_fn hq z))
  refine g_aloadN X4 hx hby d5_115 (pc' := 116) rfl rfl rfl ?_
  refine g_get X4 hx hZ hown hby d5_116 (pc' := 119) rfl (w_22 hw) e4 F_tail ?_
  intro T6 X6 e6
  refine g_lconst X6 hx hby d5_119 (pc' := 120) rfl (z := (0 : Int64)) rfl ?_
  refine g_lcmp X6 hx hby d5_120 (pc' := 121) rfl ?_
  refine g_ifL_eq X6 hx hby d5_121 (by decide) (pc' := 132) (by decide) (pn := 124) rfl (fun _ => ?_) (fun z => absurd z (by decide))
  refine g_aloadN X6 hx hby d5_132 (pc' := 133) rfl rfl rfl ?_
  refine g_ldcL X6 hx hZ hown hby d5_133 (pc' := 136) rfl (w_38 hw) ?_
  refine g_iloadN X6 hx hby d5_136 (pc' := 137) rfl rfl ?_
  refine g_i2l X6 hx hby d5_137 (pc' := 138) rfl ?_
  refine g_lor X6 hx hby d5_138 (pc' := 139) rfl ?_
  refine g_put X6 hx hZ hown hby d5_139 (pc' := 142) rfl (w_22 hw) e6 F_tail E_a (Or.inl (w_23 hw)) (w_1 hw) (ty := .long) (by decide) rfl rfl ?_
  intro T7 X7 W7
  have N7 := Fr.snoc X7 N0 g_a
  have E7_q1 := E_a.wr W7
  have K7 := (Keep.refl h0 [q1]).wr W7 (Or.inl (List.mem_of_getElem? (i := 0) rfl))
  have F7_q1_chunks := F_chunks.other W7 (Or.inr (slot_ne (Or.inl (w_14 hw)) (Or.inl (w_23 hw)) (by decide) (t := (.array (.array .long))) (t' := .long) (by decide) (by decide)))
  have F7_q1_stored := F_stored.other W7 (Or.inr (slot_ne (Or.inl (w_21 hw)) (Or.inl (w_23 hw)) (by decide) (t := .long) (t' := .long) (by decide) (by decide)))
  have F7_q1_tail := F_tail.same W7
  have F7_q1_length := F_length.other W7 (Or.inr (slot_ne (Or.inl (w_25 hw)) (Or.inl (w_23 hw)) (by decide) (t := .long) (t' := .long) (by decide) (by decide)))
  have S7_FULL := S_F.wr W7
  have A7_bF := A_F.other W7 n_F
  refine g_aloadN X7 hx hby d5_142 (pc' := 143) rfl rfl rfl ?_
  refine g_dup X7 hx hby d5_143 (pc' := 144) rfl rfl ?_
  refine g_get X7 hx hZ hown hby d5_144 (pc' := 147) rfl (w_24 hw) rfl F7_q1_length ?_
  intro T8 X8 e8
  refine g_lconst X8 hx hby d5_147 (pc' := 148) rfl (z := (1 : Int64)) rfl ?_
  refine g_ladd X8 hx hby d5_148 (pc' := 149) rfl ?_
  refine g_put X8 hx hZ hown hby d5_149 (pc' := 152) rfl (w_24 hw) e8 F7_q1_length E7_q1 (Or.inl (w_25 hw)) (w_1 hw) (ty := .long) (by decide) rfl rfl ?_
  intro T9 X9 W9
  have N9 := Fr.snoc X9 N7 g_a
  have E9_q1 := E7_q1.wr W9
  have K9 := K7.wr W9 (Or.inl (List.mem_of_getElem? (i := 0) rfl))
  have F9_q1_chunks := F7_q1_chunks.other W9 (Or.inr (slot_ne (Or.inl (w_14 hw)) (Or.inl (w_25 hw)) (by decide) (t := (.array (.array .long))) (t' := .long) (by decide) (by decide)))
  have F9_q1_stored := F7_q1_stored.other W9 (Or.inr (slot_ne (Or.inl (w_21 hw)) (Or.inl (w_25 hw)) (by decide) (t := .long) (t' := .long) (by decide) (by decide)))
  have F9_q1_tail := F7_q1_tail.other W9 (Or.inr (slot_ne (Or.inl (w_23 hw)) (Or.inl (w_25 hw)) (by decide) (t := .long) (t' := .long) (by decide) (by decide)))
  have F9_q1_length := F7_q1_length.same W9
  have S9_FULL := S7_FULL.wr W9
  have A9_bF := A7_bF.other W9 n_F
  exact g_retV (Q := (fun v h L => v = none ∧ Fr n0 L ∧ Keep h0 h [q1] ∧ Exa Z h q1 "com/example/folha/folha/builder/PackedCodes" ∧ Fld Z h q1 "com/example/folha/folha/builder/PackedCodes" "chunks" "[[J" (u0) ∧ Fld Z h q1 "com/example/folha/folha/builder/PackedCodes" "stored" "J" (u1) ∧ Fld Z h q1 "com/example/folha/folha/builder/PackedCodes" "tail" "J" (.long (nx1 q2)) ∧ Fld Z h q1 "com/example/folha/folha/builder/PackedCodes" "length" "J" (.long (f1 + (1 : Int64))))) X9 hx hby d5_152 hret hlk (by decide) (by decide) ⟨rfl, N9, K9, E9_q1, F9_q1_chunks, F9_q1_stored, F9_q1_tail, F9_q1_length⟩
theorem ef_rmA2 (q1 : Addr) (q2 : Int32) (m : MethodId) : entryFrame m #[.ref q1, .int q2] 2 = mkF m 0 #[.val (.ref q1), .val (.int q2)] [] := by
  first | (simp [entryFrame, mkF, argsToLocals, Value.category]; done) | rfl
theorem pn_rmA2 : plainName "com/example/folha/folha/builder/PackedCodes" = true := by first | (simp [plainName, overriddenIn]; done) | decide +kernel
set_option maxRecDepth 65536 in
set_option maxHeartbeats 40000000 in
theorem rmA2 (l : Launch) (Z : State) (a0 : Array Value) (hw : ∀ d ∈ tables_1, d.before a0 Z = true) (ws : List Jvm.Cond) (q1 : Addr) (q2 : Int32) (h0 : Heap) (n0 : Nat) (t1 : Int64) (u0 u1 : Value) (f1 : Int64) (E_a : Exa Z h0 q1 "com/example/folha/folha/builder/PackedCodes") (F_chunks : Fld Z h0 q1 "com/example/folha/folha/builder/PackedCodes" "chunks" "[[J" (u0)) (F_stored : Fld Z h0 q1 "com/example/folha/folha/builder/PackedCodes" "stored" "J" (u1)) (F_tail : Fld Z h0 q1 "com/example/folha/folha/builder/PackedCodes" "tail" "J" (.long t1)) (F_length : Fld Z h0 q1 "com/example/folha/folha/builder/PackedCodes" "length" "J" (.long f1)) (ht1 : ¬ t1 < 0) (ht2 : 0 < t1) (ht3 : PLen t1 < 29) (g_a : n0 ≤ q1) :
    Ctr l Z ({ cls := "com/example/folha/folha/builder/PackedCodes", name := "add", desc := "(I)V" } : Jvm.MethodName) prog_24_method_2_code 2 none ws ({ frames := 1, cells := 0, slots := 0, locals := 19 } : Room) #[.ref q1, .int q2] h0 (fun v h L => v = none ∧ Fr n0 L ∧ Keep h0 h [q1] ∧ Exa Z h q1 "com/example/folha/folha/builder/PackedCodes" ∧ Fld Z h q1 "com/example/folha/folha/builder/PackedCodes" "chunks" "[[J" (u0) ∧ Fld Z h q1 "com/example/folha/folha/builder/PackedCodes" "stored" "J" (u1) ∧ Fld Z h q1 "com/example/folha/folha/builder/PackedCodes" "tail" "J" (.long (nx2 t1 q2)) ∧ Fld Z h q1 "com/example/folha/folha/builder/PackedCodes" "length" "J" (.long (f1 + (1 : Int64)))) := by
  refine Ctr.enter (Ls := #[.val (.ref q1), .val (.int q2)]) (plainFor_of_name pn_rmA2) (fun m => ef_rmA2 q1 q2 m) ?_
  intro p e s m below meth c T hx hby hml hown hnm hret hlk hZ hh X0 e0
  have N0 := Fr.nil n0
  refine g_aloadN X0 hx hby d5_0 (pc' := 1) rfl rfl rfl ?_
  refine g_get X0 hx hZ hown hby d5_1 (pc' := 4) rfl (w_22 hw) e0 F_tail ?_
  intro T1 X1 e1
  refine g_lconst X1 hx hby d5_4 (pc' := 5) rfl (z := (0 : Int64)) rfl ?_
  refine g_lcmp X1 hx hby d5_5 (pc' := 6) rfl ?_
  refine g_ifL_ge X1 hx hby d5_6 (by decide) (pc' := 33) (by decide) (pn := 9) rfl (fun hc6_2 => ?_) (fun z => absurd z (fun z => ht1 z))
  refine g_aloadN X1 hx hby d5_33 (pc' := 34) rfl rfl rfl ?_
  refine g_get X1 hx hZ hown hby d5_34 (pc' := 37) rfl (w_22 hw) e1 F_tail ?_
  intro T3 X3 e3
  refine g_lconst X3 hx hby d5_37 (pc' := 38) rfl (z := (0 : Int64)) rfl ?_
  refine g_lcmp X3 hx hby d5_38 (pc' := 39) rfl ?_
  refine g_ifL_le X3 hx hby d5_39 (by decide) (pc' := 82) (by decide) (pn := 42) rfl (fun z => absurd z (fun z => z ht2)) (fun hc39_4 => ?_)
  refine g_aloadN X3 hx hby d5_42 (pc' := 43) rfl rfl rfl ?_
  refine g_get X3 hx hZ hown hby d5_43 (pc' := 46) rfl (w_22 hw) e3 F_tail ?_
  intro T5 X5 e5
  refine g_callS X5 hx hZ hown (W := 0) (argsL := [.long t1]) (rest := []) hby d5_46 (pc' := 49) rfl (by rw [hml]; rfl) (w_56 hw) (w_57 hw) (w_2 hw) (w_58 hw) (by decide) (rmP l Z a0 hw [] t1 h0 n0) e5 (by decide) (by decide) (by decide) (by decide) rfl pd__28J_29I rfl rfl (Nat.le_of_eq rfl) ?_
  rintro _ T6 L6 X6 ⟨rfl, N6q, e6⟩
  have N6 := Fr.app N0 N6q
  show GoE p e below _ (T6.setTop (mkF m 49 #[.val (.ref q1), .val (.int q2)] [.int (PLen t1)]))
  refine g_bipush X6 hx hby d5_49 (pc' := 51) rfl (z := (29 : Int32)) rfl ?_
  refine g_icmp_ge X6 hx hby d5_51 (by decide) (pc' := 82) (by decide) (pn := 54) rfl (fun z => absurd z (fun z => z ht3)) (fun hc51_7 => ?_)
  refine g_aloadN X6 hx hby d5_54 (pc' := 55) rfl rfl rfl ?_
  refine g_aloadN X6 hx hby d5_55 (pc' := 56) rfl rfl rfl ?_
  refine g_get X6 hx hZ hown hby d5_56 (pc' := 59) rfl (w_22 hw) e6 F_tail ?_
  intro T8 X8 e8
  refine g_ldcL X8 hx hZ hown hby d5_59 (pc' := 62) rfl (w_38 hw) ?_
  refine g_ladd X8 hx hby d5_62 (pc' := 63) rfl ?_
  refine g_iloadN X8 hx hby d5_63 (pc' := 64) rfl rfl ?_
  refine g_i2l X8 hx hby d5_64 (pc' := 65) rfl ?_
  refine g_iconst X8 hx hby d5_65 (pc' := 66) rfl (z := (2 : Int32)) rfl ?_
  refine g_aloadN X8 hx hby d5_66 (pc' := 67) rfl rfl rfl ?_
  refine g_get X8 hx hZ hown hby d5_67 (pc' := 70) rfl (w_22 hw) e8 F_tail ?_
  intro T9 X9 e9
  refine g_callS X9 hx hZ hown (W := 6) (argsL := [.long t1]) (rest := [.int (2 : Int32), .long q2.toInt64, .long (t1 + (288230376151711744 : Int64)), .ref q1]) hby d5_70 (pc' := 73) rfl (by rw [hml]; rfl) (w_56 hw) (w_57 hw) (w_2 hw) (w_58 hw) (by decide) (rmP l Z a0 hw [] t1 h0 n0) e9 (by decide) (by decide) (by decide) (by decide) rfl pd__28J_29I rfl rfl (Nat.le_of_eq rfl) ?_
  rintro _ T10 L10 X10 ⟨rfl, N10q, e10⟩
  have N10 := Fr.app N6 N10q
  show GoE p e below _ (T10.setTop (mkF m 73 #[.val (.ref q1), .val (.int q2)] [.int (PLen t1), .int (2 : Int32), .long q2.toInt64, .long (t1 + (288230376151711744 : Int64)), .ref q1]))
  refine g_imul X10 hx hby d5_73 (pc' := 74) rfl ?_
  refine g_lshl X10 hx hby d5_74 (pc' := 75) rfl ?_
  refine g_lor X10 hx hby d5_75 (pc' := 76) rfl ?_
  refine g_put X10 hx hZ hown hby d5_76 (pc' := 79) rfl (w_22 hw) e10 F_tail E_a (Or.inl (w_23 hw)) (w_1 hw) (ty := .long) (by decide) rfl rfl ?_
  intro T11 X11 W11
  have N11 := Fr.snoc X11 N10 g_a
  have E11_q1 := E_a.wr W11
  have K11 := (Keep.refl h0 [q1]).wr W11 (Or.inl (List.mem_of_getElem? (i := 0) rfl))
  have F11_q1_chunks := F_chunks.other W11 (Or.inr (slot_ne (Or.inl (w_14 hw)) (Or.inl (w_23 hw)) (by decide) (t := (.array (.array .long))) (t' := .long) (by decide) (by decide)))
  have F11_q1_stored := F_stored.other W11 (Or.inr (slot_ne (Or.inl (w_21 hw)) (Or.inl (w_23 hw)) (by decide) (t := .long) (t' := .long) (by decide) (by decide)))
  have F11_q1_tail := F_tail.same W11
  have F11_q1_length := F_length.other W11 (Or.inr (slot_ne (Or.inl (w_25 hw)) (Or.inl (w_23 hw)) (by decide) (t := .long) (t' := .long) (by decide) (by decide)))
  refine g_goto X11 hx hby d5_79 (by decide) (pc' := 142) (by decide) ?_
  refine g_aloadN X11 hx hby d5_142 (pc' := 143) rfl rfl rfl ?_
  refine g_dup X11 hx hby d5_143 (pc' := 144) rfl rfl ?_
  refine g_get X11 hx hZ hown hby d5_144 (pc' := 147) rfl (w_24 hw) rfl F11_q1_length ?_
  intro T12 X12 e12
  refine g_lconst X12 hx hby d5_147 (pc' := 148) rfl (z := (1 : Int64)) rfl ?_
  refine g_ladd X12 hx hby d5_148 (pc' := 149) rfl ?_
  refine g_put X12 hx hZ hown hby d5_149 (pc' := 152) rfl (w_24 hw) e12 F11_q1_length E11_q1 (Or.inl (w_25 hw)) (w_1 hw) (ty := .long) (by decide) rfl rfl ?_
  intro T13 X13 W13
  have N13 := Fr.snoc X13 N11 g_a
  have E13_q1 := E11_q1.wr W13
  have K13 := K11.wr W13 (Or.inl (List.mem_of_getElem? (i := 0) rfl))
  have F13_q1_chunks := F11_q1_chunks.other W13 (Or.inr (slot_ne (Or.inl (w_14 hw)) (Or.inl (w_25 hw)) (by decide) (t := (.array (.array .long))) (t' := .long) (by decide) (by decide)))
  have F13_q1_stored := F11_q1_stored.other W13 (Or.inr (slot_ne (Or.inl (w_21 hw)) (Or.inl (w_25 hw)) (by decide) (t := .long) (t' := .long) (by decide) (by decide)))
  have F13_q1_tail := F11_q1_tail.other W13 (Or.inr (slot_ne (Or.inl (w_23 hw)) (Or.inl (w_25 hw)) (by decide) (t := .long) (t' := .long) (by decide) (by decide)))
  have F13_q1_length := F11_q1_length.same W13
  exact g_retV (Q := (fun v h L => v = none ∧ Fr n0 L ∧ Keep h0 h [q1] ∧ Exa Z h q1 "com/example/folha/folha/builder/PackedCodes" ∧ Fld Z h q1 "com/example/folha/folha/builder/PackedCodes" "chunks" "[[J" (u0) ∧ Fld Z h q1 "com/example/folha/folha/builder/PackedCodes" "stored" "J" (u1) ∧ Fld Z h q1 "com/example/folha/folha/builder/PackedCodes" "tail" "J" (.long (nx2 t1 q2)) ∧ Fld Z h q1 "com/example/folha/folha/builder/PackedCodes" "length" "J" (.long (f1 + (1 : Int64))))) X13 hx hby d5_152 hret hlk (by decide) (by decide) ⟨rfl, N13, K13, E13_q1, F13_q1_chunks, F13_q1_stored, F13_q1_tail, F13_q1_length⟩
theorem ef_rmLI (q1 : Addr) (m : MethodId) : entryFrame m #[.ref q1] 1 = mkF m 0 #[.val (.ref q1)] [] := by
  first | (simp [entryFrame, mkF, argsToLocals, Value.category]; done) | rfl
theorem pn_rmLI : plainName "com/example/folha/folha/builder/PackedCodesClearPinLaw" = true := by first | (simp [plainName, overriddenIn]; done) | decide +kernel
set_option maxRecDepth 65536 in
set_option maxHeartbeats 40000000 in
theorem rmLI (l : Launch) (Z : State) (a0 : Array Value) (hw : ∀ d ∈ tables_1, d.before a0 Z = true) (ws : List Jvm.Cond) (q1 : Addr) (h0 : Heap) (n0 : Nat) (u1 : Value) (E_a : Exa Z h0 q1 "com/example/folha/folha/builder/PackedCodesClearPinLaw") (F_count : Fld Z h0 q1 "com/example/folha/folha/builder/PackedCodesClearPinLaw" "count" "I" (.int (0 : Int32))) (F_code : Fld Z h0 q1 "com/example/folha/folha/builder/PackedCodesClearPinLaw" "code" "I" (u1)) (F_times : Fld Z h0 q1 "com/example/folha/folha/builder/PackedCodesClearPinLaw" "times" "J" (.long (0 : Int64))) (g_a : n0 ≤ q1) :
    Ctr l Z ({ cls := "com/example/folha/folha/builder/PackedCodesClearPinLaw", name := "<init>", desc := "()V" } : Jvm.MethodName) method_1_code 1 none ws ({ frames := 1, cells := 0, slots := 0, locals := 12 } : Room) #[.ref q1] h0 (fun v h L => v = none ∧ Fr n0 L ∧ Keep h0 h [q1] ∧ Exa Z h q1 "com/example/folha/folha/builder/PackedCodesClearPinLaw" ∧ Fld Z h q1 "com/example/folha/folha/builder/PackedCodesClearPinLaw" "count" "I" (.int (0 : Int32)) ∧ Fld Z h q1 "com/example/folha/folha/builder/PackedCodesClearPinLaw" "code" "I" (.int (-1 : Int32)) ∧ Fld Z h q1 "com/example/folha/folha/builder/PackedCodesClearPinLaw" "times" "J" (.long (0 : Int64))) := by
  refine Ctr.enter (Ls := #[.val (.ref q1)]) (plainFor_of_name pn_rmLI) (fun m => ef_rmLI q1 m) ?_
  intro p e s m below meth c T hx hby hml hown hnm hret hlk hZ hh X0 e0
  have N0 := Fr.nil n0
  refine g_aloadN X0 hx hby d6_0 (pc' := 1) rfl rfl rfl ?_
  obtain ⟨T1, X1, e1, st1⟩ := initO X0 hx hZ hown (w_45 hw) (w_7 hw) (w_8 hw) e0 (g := (mkF m 1 #[.val (.ref q1)] [.ref q1])) rfl (by rw [hml]; rfl) rfl (hb hby d6_1) (by decide) (W := 0) (by show 2 * 0 + _ ≤ _; exact Nat.le_of_eq rfl) (by decide)
  refine GoE.pull (b := T1.setTop (mkF m 4 #[.val (.ref q1)] [])) ?_ st1
  refine g_aloadN X1 hx hby d6_4 (pc' := 5) rfl rfl rfl ?_
  refine g_iconst X1 hx hby d6_5 (pc' := 6) rfl (z := (-1 : Int32)) rfl ?_
  refine g_put X1 hx hZ hown hby d6_6 (pc' := 9) rfl (w_46 hw) e1 F_code E_a (Or.inl (w_47 hw)) (w_40 hw) (ty := .int) (by decide) rfl rfl ?_
  intro T2 X2 W2
  have N2 := Fr.snoc X2 N0 g_a
  have E2_q1 := E_a.wr W2
  have K2 := (Keep.refl h0 [q1]).wr W2 (Or.inl (List.mem_of_getElem? (i := 0) rfl))
  have F2_q1_count := F_count.other W2 (Or.inr (slot_ne (Or.inl (w_69 hw)) (Or.inl (w_47 hw)) (by decide) (t := .int) (t' := .int) (by decide) (by decide)))
  have F2_q1_code := F_code.same W2
  have F2_q1_times := F_times.other W2 (Or.inr (slot_ne (Or.inl (w_71 hw)) (Or.inl (w_47 hw)) (by decide) (t := .long) (t' := .int) (by decide) (by decide)))
  exact g_retV (Q := (fun v h L => v = none ∧ Fr n0 L ∧ Keep h0 h [q1] ∧ Exa Z h q1 "com/example/folha/folha/builder/PackedCodesClearPinLaw" ∧ Fld Z h q1 "com/example/folha/folha/builder/PackedCodesClearPinLaw" "count" "I" (.int (0 : Int32)) ∧ Fld Z h q1 "com/example/folha/folha/builder/PackedCodesClearPinLaw" "code" "I" (.int (-1 : Int32)) ∧ Fld Z h q1 "com/example/folha/folha/builder/PackedCodesClearPinLaw" "times" "J" (.long (0 : Int64)))) X2 hx hby d6_9 hret hlk (by decide) (by decide) ⟨rfl, N2, K2, E2_q1, F2_q1_count, F2_q1_code, F2_q1_times⟩
theorem ef_rmR (q1 : Addr) (q2 : Int32) (q3 : Int64) (m : MethodId) : entryFrame m #[.ref q1, .int q2, .long q3] 4 = mkF m 0 #[.val (.ref q1), .val (.int q2), .val (.long q3), .second] [] := by
  first | (simp [entryFrame, mkF, argsToLocals, Value.category]; done) | rfl
theorem pn_rmR : plainName "com/example/folha/folha/builder/PackedCodesClearPinLaw" = true := by first | (simp [plainName, overriddenIn]; done) | decide +kernel
set_option maxRecDepth 65536 in
set_option maxHeartbeats 40000000 in
theorem rmR (l : Launch) (Z : State) (a0 : Array Value) (hw : ∀ d ∈ tables_1, d.before a0 Z = true) (ws : List Jvm.Cond) (q1 : Addr) (q2 : Int32) (q3 : Int64) (h0 : Heap) (n0 : Nat) (c1 : Int32) (u1 u2 : Value) (E_a : Exa Z h0 q1 "com/example/folha/folha/builder/PackedCodesClearPinLaw") (F_count : Fld Z h0 q1 "com/example/folha/folha/builder/PackedCodesClearPinLaw" "count" "I" (.int c1)) (F_code : Fld Z h0 q1 "com/example/folha/folha/builder/PackedCodesClearPinLaw" "code" "I" (u1)) (F_times : Fld Z h0 q1 "com/example/folha/folha/builder/PackedCodesClearPinLaw" "times" "J" (u2)) (g_a : n0 ≤ q1) :
    Ctr l Z ({ cls := "com/example/folha/folha/builder/PackedCodesClearPinLaw", name := "run", desc := "(IJ)V" } : Jvm.MethodName) method_2_code 4 none ws ({ frames := 0, cells := 0, slots := 0, locals := 0 } : Room) #[.ref q1, .int q2, .long q3] h0 (fun v h L => v = none ∧ Fr n0 L ∧ Keep h0 h [q1] ∧ Exa Z h q1 "com/example/folha/folha/builder/PackedCodesClearPinLaw" ∧ Fld Z h q1 "com/example/folha/folha/builder/PackedCodesClearPinLaw" "count" "I" (.int (c1 + (1 : Int32))) ∧ Fld Z h q1 "com/example/folha/folha/builder/PackedCodesClearPinLaw" "code" "I" (.int q2) ∧ Fld Z h q1 "com/example/folha/folha/builder/PackedCodesClearPinLaw" "times" "J" (.long q3)) := by
  refine Ctr.enter (Ls := #[.val (.ref q1), .val (.int q2), .val (.long q3), .second]) (plainFor_of_name pn_rmR) (fun m => ef_rmR q1 q2 q3 m) ?_
  intro p e s m below meth c T hx hby hml hown hnm hret hlk hZ hh X0 e0
  have N0 := Fr.nil n0
  refine g_aloadN X0 hx hby d10_0 (pc' := 1) rfl rfl rfl ?_
  refine g_dup X0 hx hby d10_1 (pc' := 2) rfl rfl ?_
  refine g_get X0 hx hZ hown hby d10_2 (pc' := 5) rfl (w_68 hw) e0 F_count ?_
  intro T1 X1 e1
  refine g_iconst X1 hx hby d10_5 (pc' := 6) rfl (z := (1 : Int32)) rfl ?_
  refine g_iadd X1 hx hby d10_6 (pc' := 7) rfl ?_
  refine g_put X1 hx hZ hown hby d10_7 (pc' := 10) rfl (w_68 hw) e1 F_count E_a (Or.inl (w_69 hw)) (w_40 hw) (ty := .int) (by decide) rfl rfl ?_
  intro T2 X2 W2
  have N2 := Fr.snoc X2 N0 g_a
  have E2_q1 := E_a.wr W2
  have K2 := (Keep.refl h0 [q1]).wr W2 (Or.inl (List.mem_of_getElem? (i := 0) rfl))
  have F2_q1_count := F_count.same W2
  have F2_q1_code := F_code.other W2 (Or.inr (slot_ne (Or.inl (w_47 hw)) (Or.inl (w_69 hw)) (by decide) (t := .int) (t' := .int) (by decide) (by decide)))
  have F2_q1_times := F_times.other W2 (Or.inr (slot_ne (Or.inl (w_71 hw)) (Or.inl (w_69 hw)) (by decide) (t := .long) (t' := .int) (by decide) (by decide)))
  refine g_aloadN X2 hx hby d10_10 (pc' := 11) rfl rfl rfl ?_
  refine g_iloadN X2 hx hby d10_11 (pc' := 12) rfl rfl ?_
  refine g_put X2 hx hZ hown hby d10_12 (pc' := 15) rfl (w_46 hw) rfl F2_q1_code E2_q1 (Or.inl (w_47 hw)) (w_40 hw) (ty := .int) (by decide) rfl rfl ?_
  intro T3 X3 W3
  have N3 := Fr.snoc X3 N2 g_a
  have E3_q1 := E2_q1.wr W3
  have K3 := K2.wr W3 (Or.inl (List.mem_of_getElem? (i := 0) rfl))
  have F3_q1_count := F2_q1_count.other W3 (Or.inr (slot_ne (Or.inl (w_69 hw)) (Or.inl (w_47 hw)) (by decide) (t := .int) (t' := .int) (by decide) (by decide)))
  have F3_q1_code := F2_q1_code.same W3
  have F3_q1_times := F2_q1_times.other W3 (Or.inr (slot_ne (Or.inl (w_71 hw)) (Or.inl (w_47 hw)) (by decide) (t := .long) (t' := .int) (by decide) (by decide)))
  refine g_aloadN X3 hx hby d10_15 (pc' := 16) rfl rfl rfl ?_
  refine g_lloadN X3 hx hby d10_16 (pc' := 17) rfl rfl ?_
  refine g_put X3 hx hZ hown hby d10_17 (pc' := 20) rfl (w_70 hw) rfl F3_q1_times E3_q1 (Or.inl (w_71 hw)) (w_40 hw) (ty := .long) (by decide) rfl rfl ?_
  intro T4 X4 W4
  have N4 := Fr.snoc X4 N3 g_a
  have E4_q1 := E3_q1.wr W4
  have K4 := K3.wr W4 (Or.inl (List.mem_of_getElem? (i := 0) rfl))
  have F4_q1_count := F3_q1_count.other W4 (Or.inr (slot_ne (Or.inl (w_69 hw)) (Or.inl (w_71 hw)) (by decide) (t := .int) (t' := .long) (by decide) (by decide)))
  have F4_q1_code := F3_q1_code.other W4 (Or.inr (slot_ne (Or.inl (w_47 hw)) (Or.inl (w_71 hw)) (by decide) (t := .int) (t' := .long) (by decide) (by decide)))
  have F4_q1_times := F3_q1_times.same W4
  exact g_retV (Q := (fun v h L => v = none ∧ Fr n0 L ∧ Keep h0 h [q1] ∧ Exa Z h q1 "com/example/folha/folha/builder/PackedCodesClearPinLaw" ∧ Fld Z h q1 "com/example/folha/folha/builder/PackedCodesClearPinLaw" "count" "I" (.int (c1 + (1 : Int32))) ∧ Fld Z h q1 "com/example/folha/folha/builder/PackedCodesClearPinLaw" "code" "I" (.int q2) ∧ Fld Z h q1 "com/example/folha/folha/builder/PackedCodesClearPinLaw" "times" "J" (.long q3))) X4 hx hby d10_20 hret hlk (by decide) (by decide) ⟨rfl, N4, K4, E4_q1, F4_q1_count, F4_q1_code, F4_q1_times⟩
theorem ef_rmG (q1 : Int64) (q2 : Addr) (m : MethodId) : entryFrame m #[.long q1, .ref q2] 4 = mkF m 0 #[.val (.long q1), .second, .val (.ref q2), .unset] [] := by
  first | (simp [entryFrame, mkF, argsToLocals, Value.category]; done) | rfl
theorem pn_rmG : plainName "com/example/folha/folha/builder/PackedCodes" = true := by first | (simp [plainName, overriddenIn]; done) | decide +kernel
set_option maxRecDepth 65536 in
set_option maxHeartbeats 40000000 in
theorem rmG (l : Launch) (Z : State) (a0 : Array Value) (hw : ∀ d ∈ tables_1, d.before a0 Z = true) (ws : List Jvm.Cond) (q1 : Int64) (q2 : Addr) (h0 : Heap) (n0 : Nat) (c1 : Int32) (u1 u2 : Value) (E_a : Exa Z h0 q2 "com/example/folha/folha/builder/PackedCodesClearPinLaw") (F_count : Fld Z h0 q2 "com/example/folha/folha/builder/PackedCodesClearPinLaw" "count" "I" (.int c1)) (F_code : Fld Z h0 q2 "com/example/folha/folha/builder/PackedCodesClearPinLaw" "code" "I" (u1)) (F_times : Fld Z h0 q2 "com/example/folha/folha/builder/PackedCodesClearPinLaw" "times" "J" (u2)) (ht1 : ¬ q1 < 0) (hp1 : PLen q1 = 1) (g_a : n0 ≤ q2) :
    Ctr l Z ({ cls := "com/example/folha/folha/builder/PackedCodes", name := "give", desc := "(JLcom/example/folha/folha/builder/PackedCodes$Runs;)V" } : Jvm.MethodName) prog_24_method_9_code 4 none ws ({ frames := 1, cells := 0, slots := 0, locals := 15 } : Room) #[.long q1, .ref q2] h0 (fun v h L => v = none ∧ Fr n0 L ∧ Keep h0 h [q2] ∧ Exa Z h q2 "com/example/folha/folha/builder/PackedCodesClearPinLaw" ∧ Fld Z h q2 "com/example/folha/folha/builder/PackedCodesClearPinLaw" "count" "I" (.int (c1 + (1 : Int32))) ∧ Fld Z h q2 "com/example/folha/folha/builder/PackedCodesClearPinLaw" "code" "I" (.int (cd0 q1)) ∧ Fld Z h q2 "com/example/folha/folha/builder/PackedCodesClearPinLaw" "times" "J" (.long (1 : Int64))) := by
  refine Ctr.enter (Ls := #[.val (.long q1), .second, .val (.ref q2), .unset]) (plainFor_of_name pn_rmG) (fun m => ef_rmG q1 q2 m) ?_
  intro p e s m below meth c T hx hby hml hown hnm hret hlk hZ hh X0 e0
  have N0 := Fr.nil n0
  refine g_lloadN X0 hx hby d8_0 (pc' := 1) rfl rfl ?_
  refine g_lconst X0 hx hby d8_1 (pc' := 2) rfl (z := (0 : Int64)) rfl ?_
  refine g_lcmp X0 hx hby d8_2 (pc' := 3) rfl ?_
  refine g_ifL_ge X0 hx hby d8_3 (by decide) (pc' := 24) (by decide) (pn := 6) rfl (fun hc3_1 => ?_) (fun z => absurd z (fun z => ht1 z))
  refine g_iconst X0 hx hby d8_24 (pc' := 25) rfl (z := (0 : Int32)) rfl ?_
  refine g_istoreN X0 hx hby d8_25 (pc' := 26) rfl (l' := #[.val (.long q1), .second, .val (.ref q2), .val (.int (0 : Int32))]) rfl ?_
  refine g_iloadN X0 hx hby d8_26 (pc' := 27) rfl rfl ?_
  refine g_lloadN X0 hx hby d8_27 (pc' := 28) rfl rfl ?_
  refine g_callS X0 hx hZ hown (W := 1) (argsL := [.long q1]) (rest := [.int (0 : Int32)]) hby d8_28 (pc' := 31) rfl (by rw [hml]; rfl) (w_56 hw) (w_57 hw) (w_2 hw) (w_58 hw) (by decide) (rmP l Z a0 hw [] q1 h0 n0) e0 (by decide) (by decide) (by decide) (by decide) rfl pd__28J_29I rfl rfl (Nat.le_of_eq rfl) ?_
  rintro _ T2 L2 X2 ⟨rfl, N2q, e2⟩
  have N2 := Fr.app N0 N2q
  show GoE p e below _ (T2.setTop (mkF m 31 #[.val (.long q1), .second, .val (.ref q2), .val (.int (0 : Int32))] [.int (PLen q1), .int (0 : Int32)]))
  refine g_icmp_ge X2 hx hby d8_31 (by decide) (pc' := 55) (by decide) (pn := 34) rfl (fun z => absurd z (fun z => z (by rw [hp1]; decide))) (fun hc31_3 => ?_)
  refine g_aloadN X2 hx hby d8_34 (pc' := 35) rfl rfl rfl ?_
  refine g_lloadN X2 hx hby d8_35 (pc' := 36) rfl rfl ?_
  refine g_iconst X2 hx hby d8_36 (pc' := 37) rfl (z := (2 : Int32)) rfl ?_
  refine g_iloadN X2 hx hby d8_37 (pc' := 38) rfl rfl ?_
  refine g_imul X2 hx hby d8_38 (pc' := 39) rfl ?_
  refine g_lushr X2 hx hby d8_39 (pc' := 40) rfl ?_
  refine g_l2i X2 hx hby d8_40 (pc' := 41) rfl ?_
  refine g_iconst X2 hx hby d8_41 (pc' := 42) rfl (z := (3 : Int32)) rfl ?_
  refine g_iand X2 hx hby d8_42 (pc' := 43) rfl ?_
  refine g_lconst X2 hx hby d8_43 (pc' := 44) rfl (z := (1 : Int64)) rfl ?_
  refine g_callIf X2 hx hZ hown (W := 0) (argsL := [.int (cd0 q1), .long (1 : Int64)]) (b := q2) (rest := []) hby d8_44 (pc' := 49) rfl (by rw [hml]; rfl) (w_59 hw) (w_60 hw) (w_61 hw) (by first | rfl | simp [Cond.onTables, Cond.keepsFace, Cond.keeps, Cond.steady]) (w_62 hw) (w_63 hw) (w_64 hw) (w_65 hw) (w_66 hw) (w_41 hw) (w_67 hw) (by decide) (rmR l Z a0 hw [] q2 (cd0 q1) (1 : Int64) h0 n0 _ _ _ E_a F_count F_code F_times g_a) e2 E_a (by decide) (by decide) (by decide) (by decide) rfl pd__28IJ_29V rfl rfl (Nat.le_of_eq rfl) ?_
  rintro _ T4 L4 X4 ⟨rfl, N4q, K4, Ei4, Fi4_count, Fi4_code, Fi4_times⟩
  have N4 := Fr.app N2 N4q
  have E4_q2 := E_a.keep K4
  have K4t := (Keep.refl h0 [q2]).trans K4 (allS (Or.inl (List.mem_of_getElem? (i := 0) rfl)) all0)
  show GoE p e below _ (T4.setTop (mkF m 49 #[.val (.long q1), .second, .val (.ref q2), .val (.int (0 : Int32))] []))
  refine g_iinc X4 hx hby d8_49 (pc' := 52) rfl rfl (l' := #[.val (.long q1), .second, .val (.ref q2), .val (.int (1 : Int32))]) rfl ?_
  refine g_goto X4 hx hby d8_52 (by decide) (pc' := 26) (by decide) ?_
  refine g_iloadN X4 hx hby d8_26 (pc' := 27) rfl rfl ?_
  refine g_lloadN X4 hx hby d8_27 (pc' := 28) rfl rfl ?_
  refine g_callS X4 hx hZ hown (W := 1) (argsL := [.long q1]) (rest := [.int (1 : Int32)]) hby d8_28 (pc' := 31) rfl (by rw [hml]; rfl) (w_56 hw) (w_57 hw) (w_2 hw) (w_58 hw) (by decide) (rmP l Z a0 hw [] q1 T4.heap n0) rfl (by decide) (by decide) (by decide) (by decide) rfl pd__28J_29I rfl rfl (Nat.le_of_eq rfl) ?_
  rintro _ T5 L5 X5 ⟨rfl, N5q, e5⟩
  have N5 := Fr.app N4 N5q
  show GoE p e below _ (T5.setTop (mkF m 31 #[.val (.long q1), .second, .val (.ref q2), .val (.int (1 : Int32))] [.int (PLen q1), .int (1 : Int32)]))
  refine g_icmp_ge X5 hx hby d8_31 (by decide) (pc' := 55) (by decide) (pn := 34) rfl (fun hc31_6 => ?_) (fun z => absurd z (by rw [hp1]; decide))
  exact g_retV (Q := (fun v h L => v = none ∧ Fr n0 L ∧ Keep h0 h [q2] ∧ Exa Z h q2 "com/example/folha/folha/builder/PackedCodesClearPinLaw" ∧ Fld Z h q2 "com/example/folha/folha/builder/PackedCodesClearPinLaw" "count" "I" (.int (c1 + (1 : Int32))) ∧ Fld Z h q2 "com/example/folha/folha/builder/PackedCodesClearPinLaw" "code" "I" (.int (cd0 q1)) ∧ Fld Z h q2 "com/example/folha/folha/builder/PackedCodesClearPinLaw" "times" "J" (.long (1 : Int64)))) X5 hx hby d8_55 hret hlk (by decide) (by decide) (by rw [e5]; exact ⟨rfl, N5, K4t, Ei4, Fi4_count, Fi4_code, Fi4_times⟩)
theorem ef_rmF (q1 : Addr) (q2 : Addr) (m : MethodId) : entryFrame m #[.ref q1, .ref q2] 4 = mkF m 0 #[.val (.ref q1), .val (.ref q2), .unset, .unset] [] := by
  first | (simp [entryFrame, mkF, argsToLocals, Value.category]; done) | rfl
theorem pn_rmF : plainName "com/example/folha/folha/builder/PackedCodes" = true := by first | (simp [plainName, overriddenIn]; done) | decide +kernel
set_option maxRecDepth 65536 in
set_option maxHeartbeats 40000000 in
theorem rmF (l : Launch) (Z : State) (a0 : Array Value) (hw : ∀ d ∈ tables_1, d.before a0 Z = true) (ws : List Jvm.Cond) (q1 : Addr) (q2 : Addr) (h0 : Heap) (n0 : Nat) (t1 : Int64) (F_stored : Fld Z h0 q1 "com/example/folha/folha/builder/PackedCodes" "stored" "J" (.long (0 : Int64))) (F_tail : Fld Z h0 q1 "com/example/folha/folha/builder/PackedCodes" "tail" "J" (.long t1)) (n_q : q1 ≠ q2) (c1 : Int32) (u1 u2 : Value) (E_a : Exa Z h0 q2 "com/example/folha/folha/builder/PackedCodesClearPinLaw") (F_count : Fld Z h0 q2 "com/example/folha/folha/builder/PackedCodesClearPinLaw" "count" "I" (.int c1)) (F_code : Fld Z h0 q2 "com/example/folha/folha/builder/PackedCodesClearPinLaw" "code" "I" (u1)) (F_times : Fld Z h0 q2 "com/example/folha/folha/builder/PackedCodesClearPinLaw" "times" "J" (u2)) (ht0 : ¬ (t1 = 0)) (ht1 : ¬ t1 < 0) (hp1 : PLen t1 = 1) (g_a : n0 ≤ q2) :
    Ctr l Z ({ cls := "com/example/folha/folha/builder/PackedCodes", name := "forEachRun", desc := "(Lcom/example/folha/folha/builder/PackedCodes$Runs;)V" } : Jvm.MethodName) prog_24_method_6_code 4 none ws ({ frames := 2, cells := 0, slots := 0, locals := 30 } : Room) #[.ref q1, .ref q2] h0 (fun v h L => v = none ∧ Fr n0 L ∧ Keep h0 h [q2] ∧ Exa Z h q2 "com/example/folha/folha/builder/PackedCodesClearPinLaw" ∧ Fld Z h q2 "com/example/folha/folha/builder/PackedCodesClearPinLaw" "count" "I" (.int (c1 + (1 : Int32))) ∧ Fld Z h q2 "com/example/folha/folha/builder/PackedCodesClearPinLaw" "code" "I" (.int (cd0 t1)) ∧ Fld Z h q2 "com/example/folha/folha/builder/PackedCodesClearPinLaw" "times" "J" (.long (1 : Int64))) := by
  refine Ctr.enter (Ls := #[.val (.ref q1), .val (.ref q2), .unset, .unset]) (plainFor_of_name pn_rmF) (fun m => ef_rmF q1 q2 m) ?_
  intro p e s m below meth c T hx hby hml hown hnm hret hlk hZ hh X0 e0
  have N0 := Fr.nil n0
  refine g_lconst X0 hx hby d7_0 (pc' := 1) rfl (z := (0 : Int64)) rfl ?_
  refine g_lstoreN X0 hx hby d7_1 (pc' := 2) rfl (l' := #[.val (.ref q1), .val (.ref q2), .val (.long (0 : Int64)), .second]) rfl ?_
  refine g_lloadN X0 hx hby d7_2 (pc' := 3) rfl rfl ?_
  refine g_aloadN X0 hx hby d7_3 (pc' := 4) rfl rfl rfl ?_
  refine g_get X0 hx hZ hown hby d7_4 (pc' := 7) rfl (w_20 hw) e0 F_stored ?_
  intro T1 X1 e1
  refine g_lcmp X1 hx hby d7_7 (pc' := 8) rfl ?_
  refine g_ifL_ge X1 hx hby d7_8 (by decide) (pc' := 39) (by decide) (pn := 11) rfl (fun _ => ?_) (fun z => absurd z (by decide))
  refine g_aloadN X1 hx hby d7_39 (pc' := 40) rfl rfl rfl ?_
  refine g_get X1 hx hZ hown hby d7_40 (pc' := 43) rfl (w_22 hw) e1 F_tail ?_
  intro T2 X2 e2
  refine g_lconst X2 hx hby d7_43 (pc' := 44) rfl (z := (0 : Int64)) rfl ?_
  refine g_lcmp X2 hx hby d7_44 (pc' := 45) rfl ?_
  refine g_ifL_eq X2 hx hby d7_45 (by decide) (pc' := 56) (by decide) (pn := 48) rfl (fun z => absurd z ht0) (fun hc45_3 => ?_)
  refine g_aloadN X2 hx hby d7_48 (pc' := 49) rfl rfl rfl ?_
  refine g_get X2 hx hZ hown hby d7_49 (pc' := 52) rfl (w_22 hw) e2 F_tail ?_
  intro T4 X4 e4
  refine g_aloadN X4 hx hby d7_52 (pc' := 53) rfl rfl rfl ?_
  refine g_callS X4 hx hZ hown (W := 0) (argsL := [.long t1, .ref q2]) (rest := []) hby d7_53 (pc' := 56) rfl (by rw [hml]; rfl) (w_53 hw) (w_54 hw) (w_2 hw) (w_55 hw) (by decide) (rmG l Z a0 hw [] t1 q2 h0 n0 _ _ _ E_a F_count F_code F_times ht1 hp1 g_a) e4 (by decide) (by decide) (by decide) (by decide) rfl pd__28JLcom_2fexample_2ffolha_2ffolha_2fbuilder_2fPackedCodes_24Runs_3b_29V rfl rfl (Nat.le_of_eq rfl) ?_
  rintro _ T5 L5 X5 ⟨rfl, N5q, K5, Ei5, Fi5_count, Fi5_code, Fi5_times⟩
  have N5 := Fr.app N0 N5q
  have E5_q2 := E_a.keep K5
  have K5t := (Keep.refl h0 [q2]).trans K5 (allS (Or.inl (List.mem_of_getElem? (i := 0) rfl)) all0)
  have F5_q1_stored := F_stored.keep K5 (ninS n_q nin0)
  have F5_q1_tail := F_tail.keep K5 (ninS n_q nin0)
  show GoE p e below _ (T5.setTop (mkF m 56 #[.val (.ref q1), .val (.ref q2), .val (.long (0 : Int64)), .second] []))
  exact g_retV (Q := (fun v h L => v = none ∧ Fr n0 L ∧ Keep h0 h [q2] ∧ Exa Z h q2 "com/example/folha/folha/builder/PackedCodesClearPinLaw" ∧ Fld Z h q2 "com/example/folha/folha/builder/PackedCodesClearPinLaw" "count" "I" (.int (c1 + (1 : Int32))) ∧ Fld Z h q2 "com/example/folha/folha/builder/PackedCodesClearPinLaw" "code" "I" (.int (cd0 t1)) ∧ Fld Z h q2 "com/example/folha/folha/builder/PackedCodesClearPinLaw" "times" "J" (.long (1 : Int64)))) X5 hx hby d7_56 hret hlk (by decide) (by decide) ⟨rfl, N5, K5t, Ei5, Fi5_count, Fi5_code, Fi5_times⟩
theorem ef_rm0 (q1 : Int32) (q2 : Int32) (q3 : Int32) (q4 : Int32) (q5 : Int32) (m : MethodId) : entryFrame m #[.int q1, .int q2, .int q3, .int q4, .int q5] maxLocals = mkF m 0 #[.val (.int q1), .val (.int q2), .val (.int q3), .val (.int q4), .val (.int q5), .unset, .unset, .unset, .unset] [] := by
  first | (simp [entryFrame, mkF, argsToLocals, Value.category, maxLocals]; done) | rfl
theorem pn_rm0 : plainName "com/example/folha/folha/builder/PackedCodesClearPinLaw" = true := by first | (simp [plainName, overriddenIn]; done) | decide +kernel
set_option maxRecDepth 65536 in
set_option maxHeartbeats 40000000 in
theorem rm0 (l : Launch) (Z : State) (a0 : Array Value) (hw : ∀ d ∈ tables_1, d.before a0 Z = true) (ws : List Jvm.Cond) (q1 : Int32) (q2 : Int32) (q3 : Int32) (q4 : Int32) (q5 : Int32) (h0 : Heap) (n0 : Nat) (Z0 : n0 ≤ h0.size) (O0 : Old Z n0 h0) (bF : Addr) (kF : ClassId) (S_F : Sta Z Z.heap "com/example/folha/folha/builder/PackedCodes" "FULL" "[J" (.ref bF)) (A_F : Arv Z Z.heap bF kF .long (4 : Int32) [.long 8358680908399640576, .long 8454757700450211157, .long 8550834492500781738, .long 8646911284551352319] (.long 0)) :
    Ctr l Z x code maxLocals ret ws room_1 #[.int q1, .int q2, .int q3, .int q4, .int q5] h0 (fun v h L => v = some (.int 1) ∧ Fr n0 L) := by
  refine Ctr.enter (Ls := #[.val (.int q1), .val (.int q2), .val (.int q3), .val (.int q4), .val (.int q5), .unset, .unset, .unset, .unset]) (plainFor_of_name pn_rm0) (fun m => ef_rm0 q1 q2 q3 q4 q5 m) ?_
  intro p e s m below meth c T hx hby hml hown hnm hret hlk hZ hh X0 e0
  have N0 := Fr.nil n0
  refine g_iloadN X0 hx hby at_0 (pc' := 1) rfl rfl ?_
  refine g_iconst X0 hx hby at_1 (pc' := 2) rfl (z := (3 : Int32)) rfl ?_
  refine g_iand X0 hx hby at_2 (pc' := 3) rfl ?_
  rcases own_k3 q1 with hk1 | hk1 | hk1 | hk1
  · rw [hk1]
    refine g_istore X0 hx hby at_3 (pc' := 5) rfl (l' := #[.val (.int q1), .val (.int q2), .val (.int q3), .val (.int q4), .val (.int q5), .val (.int (0 : Int32)), .unset, .unset, .unset]) rfl ?_
    refine g_iload X0 hx hby at_5 (pc' := 7) rfl rfl ?_
    refine g_iconst X0 hx hby at_7 (pc' := 8) rfl (z := (3 : Int32)) rfl ?_
    refine g_iand X0 hx hby at_8 (pc' := 9) rfl ?_
    refine g_istore X0 hx hby at_9 (pc' := 11) rfl (l' := #[.val (.int q1), .val (.int q2), .val (.int q3), .val (.int q4), .val (.int q5), .val (.int (0 : Int32)), .val (.int (q5 &&& (3 : Int32))), .unset, .unset]) rfl ?_
    refine g_new X0 hx hZ hown hby at_11 (pc' := 14) rfl (w_0 hw) (w_1 hw) (w_2 hw) e0 (by decide) (by decide) ?_
    intro T2 b2 hb2 X2 E2 A2 D2
    have Z2 := Nat.le_trans Z0 E2.1
    have O2o := O0.ext E2
    have F2_chunks : Fld Z T2.heap b2 "com/example/folha/folha/builder/PackedCodes" "chunks" "[[J" (.null) := D2 (Or.inl (w_14 hw)) (ty := (.array (.array .long))) (by decide)
    have F2_stored : Fld Z T2.heap b2 "com/example/folha/folha/builder/PackedCodes" "stored" "J" (.long (0 : Int64)) := D2 (Or.inl (w_21 hw)) (ty := .long) (by decide)
    have F2_tail : Fld Z T2.heap b2 "com/example/folha/folha/builder/PackedCodes" "tail" "J" (.long (0 : Int64)) := D2 (Or.inl (w_23 hw)) (ty := .long) (by decide)
    have F2_length : Fld Z T2.heap b2 "com/example/folha/folha/builder/PackedCodes" "length" "J" (.long (0 : Int64)) := D2 (Or.inl (w_25 hw)) (ty := .long) (by decide)
    refine g_dup X2 hx hby at_14 (pc' := 15) rfl rfl ?_
    refine g_callI X2 hx hZ hown (W := 1) (argsL := []) (b := b2) (rest := [.ref b2]) hby at_15 (pc' := 18) rfl (by rw [hml]; rfl) (w_3 hw) (w_4 hw) (w_2 hw) (w_5 hw) rfl (by decide) (rmI l Z a0 hw [] b2 T2.heap n0 Z2 A2 F2_chunks F2_stored F2_tail F2_length (Nat.le_trans Z0 (Nat.le_of_eq hb2.symm))) rfl (by decide) (by decide) (by decide) (by decide) rfl pd__28_29V rfl rfl (Nat.le_of_eq rfl) ?_
    rintro _ T3 L3 X3 ⟨rfl, N3q, K3, Ei3, bc3, kc3, bl3, kl3, Fi3_chunks, Fi3_stored, Fi3_tail, Fi3_length, Ac3, Al3, nc3, nl3⟩
    have N3 := Fr.app N0 N3q
    have Z3 := Nat.le_trans Z2 K3.1
    have O3 := O2o.keep K3 (allS (Nat.le_trans Z0 (Nat.le_of_eq hb2.symm)) all0)
    have E3_b2 := A2.keep K3
    show GoE p e below _ (T3.setTop (mkF m 18 #[.val (.int q1), .val (.int q2), .val (.int q3), .val (.int q4), .val (.int q5), .val (.int (0 : Int32)), .val (.int (q5 &&& (3 : Int32))), .unset, .unset] [.ref b2]))
    refine g_astore X3 hx hby at_18 (pc' := 20) rfl rfl (l' := #[.val (.int q1), .val (.int q2), .val (.int q3), .val (.int q4), .val (.int q5), .val (.int (0 : Int32)), .val (.int (q5 &&& (3 : Int32))), .val (.ref b2), .unset]) rfl ?_
    refine g_iload X3 hx hby at_20 (pc' := 22) rfl rfl ?_
    refine g_if_le X3 hx hby at_22 (by decide) (pc' := 33) (by decide) (pn := 25) rfl (fun _ => ?_) (fun z => absurd z (by decide))
    refine g_iload X3 hx hby at_33 (pc' := 35) rfl rfl ?_
    refine g_iconst X3 hx hby at_35 (pc' := 36) rfl (z := (1 : Int32)) rfl ?_
    refine g_icmp_le X3 hx hby at_36 (by decide) (pc' := 47) (by decide) (pn := 39) rfl (fun _ => ?_) (fun z => absurd z (by decide))
    refine g_iload X3 hx hby at_47 (pc' := 49) rfl rfl ?_
    refine g_iconst X3 hx hby at_49 (pc' := 50) rfl (z := (2 : Int32)) rfl ?_
    refine g_icmp_le X3 hx hby at_50 (by decide) (pc' := 61) (by decide) (pn := 53) rfl (fun _ => ?_) (fun z => absurd z (by decide))
    refine g_aload X3 hx hby at_61 (pc' := 63) rfl rfl rfl ?_
    refine g_callV X3 hx hZ hown (W := 0) (argsL := []) (b := b2) (rest := []) hby at_63 (pc' := 66) rfl (by rw [hml]; rfl) (w_15 hw) (w_16 hw) (w_18 hw) (notFace_of_selects (args := #[]) (mvT hZ (w_18 hw))) (w_17 hw) (w_2 hw) (w_19 hw) (by decide) (rmC l Z a0 hw [] b2 T3.heap n0 bc3 kc3 bl3 kl3 _ _ _ Ei3 Fi3_chunks Fi3_stored Fi3_tail Fi3_length Ac3 Al3 nc3 nl3 (Nat.le_trans Z0 (Nat.le_of_eq hb2.symm))) rfl Ei3 (by decide) (by decide) (by decide) (by decide) rfl pd__28_29V rfl rfl (Nat.le_of_eq rfl) ?_
    rintro _ T4 L4 X4 ⟨rfl, N4q, K4, Ei4, Fi4_chunks, Fi4_stored, Fi4_tail, Fi4_length⟩
    have N4 := Fr.app N3 N4q
    have Z4 := Nat.le_trans Z3 K4.1
    have O4 := O3.keep K4 (allS (Nat.le_trans Z0 (Nat.le_of_eq hb2.symm)) all0)
    have E4_b2 := Ei3.keep K4
    have A4_bc3 := Ac3.keep K4 (ninS nc3 nin0)
    have A4_bl3 := Al3.keep K4 (ninS nl3 nin0)
    show GoE p e below _ (T4.setTop (mkF m 66 #[.val (.int q1), .val (.int q2), .val (.int q3), .val (.int q4), .val (.int q5), .val (.int (0 : Int32)), .val (.int (q5 &&& (3 : Int32))), .val (.ref b2), .unset] []))
    refine g_aload X4 hx hby at_66 (pc' := 68) rfl rfl rfl ?_
    refine g_callV X4 hx hZ hown (W := 0) (argsL := []) (b := b2) (rest := []) hby at_68 (pc' := 71) rfl (by rw [hml]; rfl) (w_26 hw) (w_27 hw) (w_29 hw) (notFace_of_selects (args := #[]) (mvT hZ (w_29 hw))) (w_28 hw) (w_2 hw) (w_30 hw) (by decide) (rmL l Z a0 hw [] b2 T4.heap n0 _ Fi4_length) rfl Ei4 (by decide) (by decide) (by decide) (by decide) rfl pd__28_29J rfl rfl (Nat.le_of_eq rfl) ?_
    rintro _ T5 L5 X5 ⟨rfl, N5q, e5⟩
    have N5 := Fr.app N4 N5q
    show GoE p e below _ (T5.setTop (mkF m 71 #[.val (.int q1), .val (.int q2), .val (.int q3), .val (.int q4), .val (.int q5), .val (.int (0 : Int32)), .val (.int (q5 &&& (3 : Int32))), .val (.ref b2), .unset] [.long (0 : Int64)]))
    refine g_lconst X5 hx hby at_71 (pc' := 72) rfl (z := (0 : Int64)) rfl ?_
    refine g_lcmp X5 hx hby at_72 (pc' := 73) rfl ?_
    refine g_ifL_eq X5 hx hby at_73 (by decide) (pc' := 78) (by decide) (pn := 76) rfl (fun _ => ?_) (fun z => absurd z (by decide))
    refine g_aload X5 hx hby at_78 (pc' := 80) rfl rfl rfl ?_
    refine g_iload X5 hx hby at_80 (pc' := 82) rfl rfl ?_
    refine g_callV X5 hx hZ hown (W := 0) (argsL := [.int (q5 &&& (3 : Int32))]) (b := b2) (rest := []) hby at_82 (pc' := 85) rfl (by rw [hml]; rfl) (w_31 hw) (w_32 hw) (w_34 hw) (notFace_of_selects (args := #[]) (mvT hZ (w_34 hw))) (w_33 hw) (w_2 hw) (w_35 hw) (by decide) (rmA1 l Z a0 hw [] b2 (q5 &&& (3 : Int32)) T4.heap n0 bF kF (S_F.ext O4.2) (A_F.ext O4.2) _ _ _ Ei4 Fi4_chunks Fi4_stored Fi4_tail Fi4_length (O4.ne A_F.lt (Nat.le_trans Z0 (Nat.le_of_eq hb2.symm))) (own_k3 q5) (Nat.le_trans Z0 (Nat.le_of_eq hb2.symm))) e5 Ei4 (by decide) (by decide) (by decide) (by decide) rfl pd__28I_29V rfl rfl (Nat.le_of_eq rfl) ?_
    rintro _ T6 L6 X6 ⟨rfl, N6q, K6, Ei6, Fi6_chunks, Fi6_stored, Fi6_tail, Fi6_length⟩
    have N6 := Fr.app N5 N6q
    have Z6 := Nat.le_trans Z4 K6.1
    have O6 := O4.keep K6 (allS (Nat.le_trans Z0 (Nat.le_of_eq hb2.symm)) all0)
    have E6_b2 := Ei4.keep K6
    have A6_bc3 := A4_bc3.keep K6 (ninS nc3 nin0)
    have A6_bl3 := A4_bl3.keep K6 (ninS nl3 nin0)
    show GoE p e below _ (T6.setTop (mkF m 85 #[.val (.int q1), .val (.int q2), .val (.int q3), .val (.int q4), .val (.int q5), .val (.int (0 : Int32)), .val (.int (q5 &&& (3 : Int32))), .val (.ref b2), .unset] []))
    refine g_new X6 hx hZ hown hby at_85 (pc' := 88) rfl (w_39 hw) (w_40 hw) (w_41 hw) rfl (by decide) (by decide) ?_
    intro T7 b7 hb7 X7 E7 A7 D7
    have Z7 := Nat.le_trans Z6 E7.1
    have O7o := O6.ext E7
    have E7_b2 := Ei6.ext E7
    have ne7_b2 : b2 ≠ b7 := hb7 ▸ Nat.ne_of_lt Ei6.lt
    have A7_bc3 := A6_bc3.ext E7
    have ne7_bc3 : bc3 ≠ b7 := hb7 ▸ Nat.ne_of_lt A6_bc3.lt
    have A7_bl3 := A6_bl3.ext E7
    have ne7_bl3 : bl3 ≠ b7 := hb7 ▸ Nat.ne_of_lt A6_bl3.lt
    have F7_b2_chunks := Fi6_chunks.ext E7
    have F7_b2_stored := Fi6_stored.ext E7
    have F7_b2_tail := Fi6_tail.ext E7
    have F7_b2_length := Fi6_length.ext E7
    have F7_code : Fld Z T7.heap b7 "com/example/folha/folha/builder/PackedCodesClearPinLaw" "code" "I" (.int (0 : Int32)) := D7 (Or.inl (w_47 hw)) (ty := .int) (by decide)
    have F7_count : Fld Z T7.heap b7 "com/example/folha/folha/builder/PackedCodesClearPinLaw" "count" "I" (.int (0 : Int32)) := D7 (Or.inl (w_69 hw)) (ty := .int) (by decide)
    have F7_times : Fld Z T7.heap b7 "com/example/folha/folha/builder/PackedCodesClearPinLaw" "times" "J" (.long (0 : Int64)) := D7 (Or.inl (w_71 hw)) (ty := .long) (by decide)
    refine g_dup X7 hx hby at_88 (pc' := 89) rfl rfl ?_
    refine g_callI X7 hx hZ hown (W := 1) (argsL := []) (b := b7) (rest := [.ref b7]) hby at_89 (pc' := 92) rfl (by rw [hml]; rfl) (w_42 hw) (w_43 hw) (w_41 hw) (w_44 hw) rfl (by decide) (rmLI l Z a0 hw [] b7 T7.heap n0 _ A7 F7_count F7_code F7_times (Nat.le_trans Z6 (Nat.le_of_eq hb7.symm))) rfl (by decide) (by decide) (by decide) (by decide) rfl pd__28_29V rfl rfl (Nat.le_of_eq rfl) ?_
    rintro _ T8 L8 X8 ⟨rfl, N8q, K8, Ei8, Fi8_count, Fi8_code, Fi8_times⟩
    have N8 := Fr.app N6 N8q
    have Z8 := Nat.le_trans Z7 K8.1
    have O8 := O7o.keep K8 (allS (Nat.le_trans Z6 (Nat.le_of_eq hb7.symm)) all0)
    have E8_b2 := E7_b2.keep K8
    have A8_bc3 := A7_bc3.keep K8 (ninS ne7_bc3 nin0)
    have A8_bl3 := A7_bl3.keep K8 (ninS ne7_bl3 nin0)
    have F8_b2_chunks := F7_b2_chunks.keep K8 (ninS ne7_b2 nin0)
    have F8_b2_stored := F7_b2_stored.keep K8 (ninS ne7_b2 nin0)
    have F8_b2_tail := F7_b2_tail.keep K8 (ninS ne7_b2 nin0)
    have F8_b2_length := F7_b2_length.keep K8 (ninS ne7_b2 nin0)
    have E8_b7 := A7.keep K8
    show GoE p e below _ (T8.setTop (mkF m 92 #[.val (.int q1), .val (.int q2), .val (.int q3), .val (.int q4), .val (.int q5), .val (.int (0 : Int32)), .val (.int (q5 &&& (3 : Int32))), .val (.ref b2), .unset] [.ref b7]))
    refine g_astore X8 hx hby at_92 (pc' := 94) rfl rfl (l' := #[.val (.int q1), .val (.int q2), .val (.int q3), .val (.int q4), .val (.int q5), .val (.int (0 : Int32)), .val (.int (q5 &&& (3 : Int32))), .val (.ref b2), .val (.ref b7)]) rfl ?_
    refine g_aload X8 hx hby at_94 (pc' := 96) rfl rfl rfl ?_
    refine g_aload X8 hx hby at_96 (pc' := 98) rfl rfl rfl ?_
    refine g_callV X8 hx hZ hown (W := 0) (argsL := [.ref b7]) (b := b2) (rest := []) hby at_98 (pc' := 101) rfl (by rw [hml]; rfl) (w_48 hw) (w_49 hw) (w_51 hw) (notFace_of_selects (args := #[]) (mvT hZ (w_51 hw))) (w_50 hw) (w_2 hw) (w_52 hw) (by decide) (rmF l Z a0 hw [] b2 b7 T8.heap n0 _ F8_b2_stored F8_b2_tail ne7_b2 _ _ _ Ei8 Fi8_count Fi8_code Fi8_times (own_t1 (own_k3 q5)).2.2.2.1 (own_t1 (own_k3 q5)).1 (own_t1 (own_k3 q5)).2.2.1 (Nat.le_trans Z6 (Nat.le_of_eq hb7.symm))) rfl E8_b2 (by decide) (by decide) (by decide) (by decide) rfl pd__28Lcom_2fexample_2ffolha_2ffolha_2fbuilder_2fPackedCodes_24Runs_3b_29V rfl rfl (Nat.le_of_eq rfl) ?_
    rintro _ T9 L9 X9 ⟨rfl, N9q, K9, Ei9, Fi9_count, Fi9_code, Fi9_times⟩
    have N9 := Fr.app N8 N9q
    have Z9 := Nat.le_trans Z8 K9.1
    have O9 := O8.keep K9 (allS (Nat.le_trans Z6 (Nat.le_of_eq hb7.symm)) all0)
    have E9_b2 := E8_b2.keep K9
    have A9_bc3 := A8_bc3.keep K9 (ninS ne7_bc3 nin0)
    have A9_bl3 := A8_bl3.keep K9 (ninS ne7_bl3 nin0)
    have F9_b2_chunks := F8_b2_chunks.keep K9 (ninS ne7_b2 nin0)
    have F9_b2_stored := F8_b2_stored.keep K9 (ninS ne7_b2 nin0)
    have F9_b2_tail := F8_b2_tail.keep K9 (ninS ne7_b2 nin0)
    have F9_b2_length := F8_b2_length.keep K9 (ninS ne7_b2 nin0)
    have E9_b7 := Ei8.keep K9
    show GoE p e below _ (T9.setTop (mkF m 101 #[.val (.int q1), .val (.int q2), .val (.int q3), .val (.int q4), .val (.int q5), .val (.int (0 : Int32)), .val (.int (q5 &&& (3 : Int32))), .val (.ref b2), .val (.ref b7)] []))
    refine g_aload X9 hx hby at_101 (pc' := 103) rfl rfl rfl ?_
    refine g_callV X9 hx hZ hown (W := 0) (argsL := []) (b := b2) (rest := []) hby at_103 (pc' := 106) rfl (by rw [hml]; rfl) (w_26 hw) (w_27 hw) (w_29 hw) (notFace_of_selects (args := #[]) (mvT hZ (w_29 hw))) (w_28 hw) (w_2 hw) (w_30 hw) (by decide) (rmL l Z a0 hw [] b2 T9.heap n0 _ F9_b2_length) rfl E9_b2 (by decide) (by decide) (by decide) (by decide) rfl pd__28_29J rfl rfl (Nat.le_of_eq rfl) ?_
    rintro _ T10 L10 X10 ⟨rfl, N10q, e10⟩
    have N10 := Fr.app N9 N10q
    show GoE p e below _ (T10.setTop (mkF m 106 #[.val (.int q1), .val (.int q2), .val (.int q3), .val (.int q4), .val (.int q5), .val (.int (0 : Int32)), .val (.int (q5 &&& (3 : Int32))), .val (.ref b2), .val (.ref b7)] [.long ((0 : Int64) + (1 : Int64))]))
    refine g_lconst X10 hx hby at_106 (pc' := 107) rfl (z := (1 : Int64)) rfl ?_
    refine g_lcmp X10 hx hby at_107 (pc' := 108) rfl ?_
    refine g_ifL_ne X10 hx hby at_108 (by decide) (pc' := 154) (by decide) (pn := 111) rfl (fun z => absurd z (fun z => z (by decide))) (fun hc108_11 => ?_)
    refine g_aload X10 hx hby at_111 (pc' := 113) rfl rfl rfl ?_
    refine g_callV X10 hx hZ hown (W := 0) (argsL := []) (b := b2) (rest := []) hby at_113 (pc' := 116) rfl (by rw [hml]; rfl) (w_72 hw) (w_73 hw) (w_75 hw) (notFace_of_selects (args := #[]) (mvT hZ (w_75 hw))) (w_74 hw) (w_2 hw) (w_76 hw) (by decide) (rmLa l Z a0 hw [] b2 T9.heap n0 _ F9_b2_tail (own_t1 (own_k3 q5)).1) e10 E9_b2 (by decide) (by decide) (by decide) (by decide) rfl pd__28_29I rfl rfl (Nat.le_of_eq rfl) ?_
    rintro _ T12 L12 X12 ⟨rfl, N12q, e12⟩
    have N12 := Fr.app N10 N12q
    show GoE p e below _ (T12.setTop (mkF m 116 #[.val (.int q1), .val (.int q2), .val (.int q3), .val (.int q4), .val (.int q5), .val (.int (0 : Int32)), .val (.int (q5 &&& (3 : Int32))), .val (.ref b2), .val (.ref b7)] [.int (lastV (nx1 (q5 &&& (3 : Int32))))]))
    refine g_iload X12 hx hby at_116 (pc' := 118) rfl rfl ?_
    refine g_icmp_ne X12 hx hby at_118 (by decide) (pc' := 154) (by decide) (pn := 121) rfl (fun z => absurd z (fun z => z (own_t1 (own_k3 q5)).2.2.2.2.2)) (fun hc118_13 => ?_)
    refine g_aload X12 hx hby at_121 (pc' := 123) rfl rfl rfl ?_
    refine g_get X12 hx hZ hown hby at_123 (pc' := 126) rfl (w_68 hw) e12 Fi9_count ?_
    intro T14 X14 e14
    refine g_iconst X14 hx hby at_126 (pc' := 127) rfl (z := (1 : Int32)) rfl ?_
    refine g_icmp_ne X14 hx hby at_127 (by decide) (pc' := 154) (by decide) (pn := 130) rfl (fun z => absurd z (fun z => z (by decide))) (fun hc127_15 => ?_)
    refine g_aload X14 hx hby at_130 (pc' := 132) rfl rfl rfl ?_
    refine g_get X14 hx hZ hown hby at_132 (pc' := 135) rfl (w_46 hw) e14 Fi9_code ?_
    intro T16 X16 e16
    refine g_iload X16 hx hby at_135 (pc' := 137) rfl rfl ?_
    refine g_icmp_ne X16 hx hby at_137 (by decide) (pc' := 154) (by decide) (pn := 140) rfl (fun z => absurd z (fun z => z (own_t1 (own_k3 q5)).2.2.2.2.1)) (fun hc137_17 => ?_)
    refine g_aload X16 hx hby at_140 (pc' := 142) rfl rfl rfl ?_
    refine g_get X16 hx hZ hown hby at_142 (pc' := 145) rfl (w_70 hw) e16 Fi9_times ?_
    intro T18 X18 e18
    refine g_lconst X18 hx hby at_145 (pc' := 146) rfl (z := (1 : Int64)) rfl ?_
    refine g_lcmp X18 hx hby at_146 (pc' := 147) rfl ?_
    refine g_ifL_ne X18 hx hby at_147 (by decide) (pc' := 154) (by decide) (pn := 150) rfl (fun z => absurd z (by decide)) (fun _ => ?_)
    refine g_iconst X18 hx hby at_150 (pc' := 151) rfl (z := (1 : Int32)) rfl ?_
    refine g_goto X18 hx hby at_151 (by decide) (pc' := 155) (by decide) ?_
    exact g_retN (Q := (fun v h L => v = some (.int 1) ∧ Fr n0 L)) (w := (1 : Int32)) X18 hx hby at_155 hret (by simp) (by first | decide | rfl) hlk (by decide) (by decide) ⟨rfl, N12⟩
  · rw [hk1]
    refine g_istore X0 hx hby at_3 (pc' := 5) rfl (l' := #[.val (.int q1), .val (.int q2), .val (.int q3), .val (.int q4), .val (.int q5), .val (.int (1 : Int32)), .unset, .unset, .unset]) rfl ?_
    refine g_iload X0 hx hby at_5 (pc' := 7) rfl rfl ?_
    refine g_iconst X0 hx hby at_7 (pc' := 8) rfl (z := (3 : Int32)) rfl ?_
    refine g_iand X0 hx hby at_8 (pc' := 9) rfl ?_
    refine g_istore X0 hx hby at_9 (pc' := 11) rfl (l' := #[.val (.int q1), .val (.int q2), .val (.int q3), .val (.int q4), .val (.int q5), .val (.int (1 : Int32)), .val (.int (q5 &&& (3 : Int32))), .unset, .unset]) rfl ?_
    refine g_new X0 hx hZ hown hby at_11 (pc' := 14) rfl (w_0 hw) (w_1 hw) (w_2 hw) e0 (by decide) (by decide) ?_
    intro T19 b19 hb19 X19 E19 A19 D19
    have Z19 := Nat.le_trans Z0 E19.1
    have O19o := O0.ext E19
    have F19_chunks : Fld Z T19.heap b19 "com/example/folha/folha/builder/PackedCodes" "chunks" "[[J" (.null) := D19 (Or.inl (w_14 hw)) (ty := (.array (.array .long))) (by decide)
    have F19_stored : Fld Z T19.heap b19 "com/example/folha/folha/builder/PackedCodes" "stored" "J" (.long (0 : Int64)) := D19 (Or.inl (w_21 hw)) (ty := .long) (by decide)
    have F19_tail : Fld Z T19.heap b19 "com/example/folha/folha/builder/PackedCodes" "tail" "J" (.long (0 : Int64)) := D19 (Or.inl (w_23 hw)) (ty := .long) (by decide)
    have F19_length : Fld Z T19.heap b19 "com/example/folha/folha/builder/PackedCodes" "length" "J" (.long (0 : Int64)) := D19 (Or.inl (w_25 hw)) (ty := .long) (by decide)
    refine g_dup X19 hx hby at_14 (pc' := 15) rfl rfl ?_
    refine g_callI X19 hx hZ hown (W := 1) (argsL := []) (b := b19) (rest := [.ref b19]) hby at_15 (pc' := 18) rfl (by rw [hml]; rfl) (w_3 hw) (w_4 hw) (w_2 hw) (w_5 hw) rfl (by decide) (rmI l Z a0 hw [] b19 T19.heap n0 Z19 A19 F19_chunks F19_stored F19_tail F19_length (Nat.le_trans Z0 (Nat.le_of_eq hb19.symm))) rfl (by decide) (by decide) (by decide) (by decide) rfl pd__28_29V rfl rfl (Nat.le_of_eq rfl) ?_
    rintro _ T20 L20 X20 ⟨rfl, N20q, K20, Ei20, bc20, kc20, bl20, kl20, Fi20_chunks, Fi20_stored, Fi20_tail, Fi20_length, Ac20, Al20, nc20, nl20⟩
    have N20 := Fr.app N0 N20q
    have Z20 := Nat.le_trans Z19 K20.1
    have O20 := O19o.keep K20 (allS (Nat.le_trans Z0 (Nat.le_of_eq hb19.symm)) all0)
    have E20_b19 := A19.keep K20
    show GoE p e below _ (T20.setTop (mkF m 18 #[.val (.int q1), .val (.int q2), .val (.int q3), .val (.int q4), .val (.int q5), .val (.int (1 : Int32)), .val (.int (q5 &&& (3 : Int32))), .unset, .unset] [.ref b19]))
    refine g_astore X20 hx hby at_18 (pc' := 20) rfl rfl (l' := #[.val (.int q1), .val (.int q2), .val (.int q3), .val (.int q4), .val (.int q5), .val (.int (1 : Int32)), .val (.int (q5 &&& (3 : Int32))), .val (.ref b19), .unset]) rfl ?_
    refine g_iload X20 hx hby at_20 (pc' := 22) rfl rfl ?_
    refine g_if_le X20 hx hby at_22 (by decide) (pc' := 33) (by decide) (pn := 25) rfl (fun z => absurd z (by decide)) (fun _ => ?_)
    refine g_aload X20 hx hby at_25 (pc' := 27) rfl rfl rfl ?_
    refine g_iloadN X20 hx hby at_27 (pc' := 28) rfl rfl ?_
    refine g_iconst X20 hx hby at_28 (pc' := 29) rfl (z := (3 : Int32)) rfl ?_
    refine g_iand X20 hx hby at_29 (pc' := 30) rfl ?_
    refine g_callV X20 hx hZ hown (W := 0) (argsL := [.int (q2 &&& (3 : Int32))]) (b := b19) (rest := []) hby at_30 (pc' := 33) rfl (by rw [hml]; rfl) (w_31 hw) (w_32 hw) (w_34 hw) (notFace_of_selects (args := #[]) (mvT hZ (w_34 hw))) (w_33 hw) (w_2 hw) (w_35 hw) (by decide) (rmA1 l Z a0 hw [] b19 (q2 &&& (3 : Int32)) T20.heap n0 bF kF (S_F.ext O20.2) (A_F.ext O20.2) _ _ _ Ei20 Fi20_chunks Fi20_stored Fi20_tail Fi20_length (O20.ne A_F.lt (Nat.le_trans Z0 (Nat.le_of_eq hb19.symm))) (own_k3 q2) (Nat.le_trans Z0 (Nat.le_of_eq hb19.symm))) rfl Ei20 (by decide) (by decide) (by decide) (by decide) rfl pd__28I_29V rfl rfl (Nat.le_of_eq rfl) ?_
    rintro _ T21 L21 X21 ⟨rfl, N21q, K21, Ei21, Fi21_chunks, Fi21_stored, Fi21_tail, Fi21_length⟩
    have N21 := Fr.app N20 N21q
    have Z21 := Nat.le_trans Z20 K21.1
    have O21 := O20.keep K21 (allS (Nat.le_trans Z0 (Nat.le_of_eq hb19.symm)) all0)
    have E21_b19 := Ei20.keep K21
    have A21_bc20 := Ac20.keep K21 (ninS nc20 nin0)
    have A21_bl20 := Al20.keep K21 (ninS nl20 nin0)
    show GoE p e below _ (T21.setTop (mkF m 33 #[.val (.int q1), .val (.int q2), .val (.int q3), .val (.int q4), .val (.int q5), .val (.int (1 : Int32)), .val (.int (q5 &&& (3 : Int32))), .val (.ref b19), .unset] []))
    refine g_iload X21 hx hby at_33 (pc' := 35) rfl rfl ?_
    refine g_iconst X21 hx hby at_35 (pc' := 36) rfl (z := (1 : Int32)) rfl ?_
    refine g_icmp_le X21 hx hby at_36 (by decide) (pc' := 47) (by decide) (pn := 39) rfl (fun _ => ?_) (fun z => absurd z (by decide))
    refine g_iload X21 hx hby at_47 (pc' := 49) rfl rfl ?_
    refine g_iconst X21 hx hby at_49 (pc' := 50) rfl (z := (2 : Int32)) rfl ?_
    refine g_icmp_le X21 hx hby at_50 (by decide) (pc' := 61) (by decide) (pn := 53) rfl (fun _ => ?_) (fun z => absurd z (by decide))
    refine g_aload X21 hx hby at_61 (pc' := 63) rfl rfl rfl ?_
    refine g_callV X21 hx hZ hown (W := 0) (argsL := []) (b := b19) (rest := []) hby at_63 (pc' := 66) rfl (by rw [hml]; rfl) (w_15 hw) (w_16 hw) (w_18 hw) (notFace_of_selects (args := #[]) (mvT hZ (w_18 hw))) (w_17 hw) (w_2 hw) (w_19 hw) (by decide) (rmC l Z a0 hw [] b19 T21.heap n0 bc20 kc20 bl20 kl20 _ _ _ Ei21 Fi21_chunks Fi21_stored Fi21_tail Fi21_length A21_bc20 A21_bl20 nc20 nl20 (Nat.le_trans Z0 (Nat.le_of_eq hb19.symm))) rfl Ei21 (by decide) (by decide) (by decide) (by decide) rfl pd__28_29V rfl rfl (Nat.le_of_eq rfl) ?_
    rintro _ T22 L22 X22 ⟨rfl, N22q, K22, Ei22, Fi22_chunks, Fi22_stored, Fi22_tail, Fi22_length⟩
    have N22 := Fr.app N21 N22q
    have Z22 := Nat.le_trans Z21 K22.1
    have O22 := O21.keep K22 (allS (Nat.le_trans Z0 (Nat.le_of_eq hb19.symm)) all0)
    have E22_b19 := Ei21.keep K22
    have A22_bc20 := A21_bc20.keep K22 (ninS nc20 nin0)
    have A22_bl20 := A21_bl20.keep K22 (ninS nl20 nin0)
    show GoE p e below _ (T22.setTop (mkF m 66 #[.val (.int q1), .val (.int q2), .val (.int q3), .val (.int q4), .val (.int q5), .val (.int (1 : Int32)), .val (.int (q5 &&& (3 : Int32))), .val (.ref b19), .unset] []))
    refine g_aload X22 hx hby at_66 (pc' := 68) rfl rfl rfl ?_
    refine g_callV X22 hx hZ hown (W := 0) (argsL := []) (b := b19) (rest := []) hby at_68 (pc' := 71) rfl (by rw [hml]; rfl) (w_26 hw) (w_27 hw) (w_29 hw) (notFace_of_selects (args := #[]) (mvT hZ (w_29 hw))) (w_28 hw) (w_2 hw) (w_30 hw) (by decide) (rmL l Z a0 hw [] b19 T22.heap n0 _ Fi22_length) rfl Ei22 (by decide) (by decide) (by decide) (by decide) rfl pd__28_29J rfl rfl (Nat.le_of_eq rfl) ?_
    rintro _ T23 L23 X23 ⟨rfl, N23q, e23⟩
    have N23 := Fr.app N22 N23q
    show GoE p e below _ (T23.setTop (mkF m 71 #[.val (.int q1), .val (.int q2), .val (.int q3), .val (.int q4), .val (.int q5), .val (.int (1 : Int32)), .val (.int (q5 &&& (3 : Int32))), .val (.ref b19), .unset] [.long (0 : Int64)]))
    refine g_lconst X23 hx hby at_71 (pc' := 72) rfl (z := (0 : Int64)) rfl ?_
    refine g_lcmp X23 hx hby at_72 (pc' := 73) rfl ?_
    refine g_ifL_eq X23 hx hby at_73 (by decide) (pc' := 78) (by decide) (pn := 76) rfl (fun _ => ?_) (fun z => absurd z (by decide))
    refine g_aload X23 hx hby at_78 (pc' := 80) rfl rfl rfl ?_
    refine g_iload X23 hx hby at_80 (pc' := 82) rfl rfl ?_
    refine g_callV X23 hx hZ hown (W := 0) (argsL := [.int (q5 &&& (3 : Int32))]) (b := b19) (rest := []) hby at_82 (pc' := 85) rfl (by rw [hml]; rfl) (w_31 hw) (w_32 hw) (w_34 hw) (notFace_of_selects (args := #[]) (mvT hZ (w_34 hw))) (w_33 hw) (w_2 hw) (w_35 hw) (by decide) (rmA1 l Z a0 hw [] b19 (q5 &&& (3 : Int32)) T22.heap n0 bF kF (S_F.ext O22.2) (A_F.ext O22.2) _ _ _ Ei22 Fi22_chunks Fi22_stored Fi22_tail Fi22_length (O22.ne A_F.lt (Nat.le_trans Z0 (Nat.le_of_eq hb19.symm))) (own_k3 q5) (Nat.le_trans Z0 (Nat.le_of_eq hb19.symm))) e23 Ei22 (by decide) (by decide) (by decide) (by decide) rfl pd__28I_29V rfl rfl (Nat.le_of_eq rfl) ?_
    rintro _ T24 L24 X24 ⟨rfl, N24q, K24, Ei24, Fi24_chunks, Fi24_stored, Fi24_tail, Fi24_length⟩
    have N24 := Fr.app N23 N24q
    have Z24 := Nat.le_trans Z22 K24.1
    have O24 := O22.keep K24 (allS (Nat.le_trans Z0 (Nat.le_of_eq hb19.symm)) all0)
    have E24_b19 := Ei22.keep K24
    have A24_bc20 := A22_bc20.keep K24 (ninS nc20 nin0)
    have A24_bl20 := A22_bl20.keep K24 (ninS nl20 nin0)
    show GoE p e below _ (T24.setTop (mkF m 85 #[.val (.int q1), .val (.int q2), .val (.int q3), .val (.int q4), .val (.int q5), .val (.int (1 : Int32)), .val (.int (q5 &&& (3 : Int32))), .val (.ref b19), .unset] []))
    refine g_new X24 hx hZ hown hby at_85 (pc' := 88) rfl (w_39 hw) (w_40 hw) (w_41 hw) rfl (by decide) (by decide) ?_
    intro T25 b25 hb25 X25 E25 A25 D25
    have Z25 := Nat.le_trans Z24 E25.1
    have O25o := O24.ext E25
    have E25_b19 := Ei24.ext E25
    have ne25_b19 : b19 ≠ b25 := hb25 ▸ Nat.ne_of_lt Ei24.lt
    have A25_bc20 := A24_bc20.ext E25
    have ne25_bc20 : bc20 ≠ b25 := hb25 ▸ Nat.ne_of_lt A24_bc20.lt
    have A25_bl20 := A24_bl20.ext E25
    have ne25_bl20 : bl20 ≠ b25 := hb25 ▸ Nat.ne_of_lt A24_bl20.lt
    have F25_b19_chunks := Fi24_chunks.ext E25
    have F25_b19_stored := Fi24_stored.ext E25
    have F25_b19_tail := Fi24_tail.ext E25
    have F25_b19_length := Fi24_length.ext E25
    have F25_code : Fld Z T25.heap b25 "com/example/folha/folha/builder/PackedCodesClearPinLaw" "code" "I" (.int (0 : Int32)) := D25 (Or.inl (w_47 hw)) (ty := .int) (by decide)
    have F25_count : Fld Z T25.heap b25 "com/example/folha/folha/builder/PackedCodesClearPinLaw" "count" "I" (.int (0 : Int32)) := D25 (Or.inl (w_69 hw)) (ty := .int) (by decide)
    have F25_times : Fld Z T25.heap b25 "com/example/folha/folha/builder/PackedCodesClearPinLaw" "times" "J" (.long (0 : Int64)) := D25 (Or.inl (w_71 hw)) (ty := .long) (by decide)
    refine g_dup X25 hx hby at_88 (pc' := 89) rfl rfl ?_
    refine g_callI X25 hx hZ hown (W := 1) (argsL := []) (b := b25) (rest := [.ref b25]) hby at_89 (pc' := 92) rfl (by rw [hml]; rfl) (w_42 hw) (w_43 hw) (w_41 hw) (w_44 hw) rfl (by decide) (rmLI l Z a0 hw [] b25 T25.heap n0 _ A25 F25_count F25_code F25_times (Nat.le_trans Z24 (Nat.le_of_eq hb25.symm))) rfl (by decide) (by decide) (by decide) (by decide) rfl pd__28_29V rfl rfl (Nat.le_of_eq rfl) ?_
    rintro _ T26 L26 X26 ⟨rfl, N26q, K26, Ei26, Fi26_count, Fi26_code, Fi26_times⟩
    have N26 := Fr.app N24 N26q
    have Z26 := Nat.le_trans Z25 K26.1
    have O26 := O25o.keep K26 (allS (Nat.le_trans Z24 (Nat.le_of_eq hb25.symm)) all0)
    have E26_b19 := E25_b19.keep K26
    have A26_bc20 := A25_bc20.keep K26 (ninS ne25_bc20 nin0)
    have A26_bl20 := A25_bl20.keep K26 (ninS ne25_bl20 nin0)
    have F26_b19_chunks := F25_b19_chunks.keep K26 (ninS ne25_b19 nin0)
    have F26_b19_stored := F25_b19_stored.keep K26 (ninS ne25_b19 nin0)
    have F26_b19_tail := F25_b19_tail.keep K26 (ninS ne25_b19 nin0)
    have F26_b19_length := F25_b19_length.keep K26 (ninS ne25_b19 nin0)
    have E26_b25 := A25.keep K26
    show GoE p e below _ (T26.setTop (mkF m 92 #[.val (.int q1), .val (.int q2), .val (.int q3), .val (.int q4), .val (.int q5), .val (.int (1 : Int32)), .val (.int (q5 &&& (3 : Int32))), .val (.ref b19), .unset] [.ref b25]))
    refine g_astore X26 hx hby at_92 (pc' := 94) rfl rfl (l' := #[.val (.int q1), .val (.int q2), .val (.int q3), .val (.int q4), .val (.int q5), .val (.int (1 : Int32)), .val (.int (q5 &&& (3 : Int32))), .val (.ref b19), .val (.ref b25)]) rfl ?_
    refine g_aload X26 hx hby at_94 (pc' := 96) rfl rfl rfl ?_
    refine g_aload X26 hx hby at_96 (pc' := 98) rfl rfl rfl ?_
    refine g_callV X26 hx hZ hown (W := 0) (argsL := [.ref b25]) (b := b19) (rest := []) hby at_98 (pc' := 101) rfl (by rw [hml]; rfl) (w_48 hw) (w_49 hw) (w_51 hw) (notFace_of_selects (args := #[]) (mvT hZ (w_51 hw))) (w_50 hw) (w_2 hw) (w_52 hw) (by decide) (rmF l Z a0 hw [] b19 b25 T26.heap n0 _ F26_b19_stored F26_b19_tail ne25_b19 _ _ _ Ei26 Fi26_count Fi26_code Fi26_times (own_t1 (own_k3 q5)).2.2.2.1 (own_t1 (own_k3 q5)).1 (own_t1 (own_k3 q5)).2.2.1 (Nat.le_trans Z24 (Nat.le_of_eq hb25.symm))) rfl E26_b19 (by decide) (by decide) (by decide) (by decide) rfl pd__28Lcom_2fexample_2ffolha_2ffolha_2fbuilder_2fPackedCodes_24Runs_3b_29V rfl rfl (Nat.le_of_eq rfl) ?_
    rintro _ T27 L27 X27 ⟨rfl, N27q, K27, Ei27, Fi27_count, Fi27_code, Fi27_times⟩
    have N27 := Fr.app N26 N27q
    have Z27 := Nat.le_trans Z26 K27.1
    have O27 := O26.keep K27 (allS (Nat.le_trans Z24 (Nat.le_of_eq hb25.symm)) all0)
    have E27_b19 := E26_b19.keep K27
    have A27_bc20 := A26_bc20.keep K27 (ninS ne25_bc20 nin0)
    have A27_bl20 := A26_bl20.keep K27 (ninS ne25_bl20 nin0)
    have F27_b19_chunks := F26_b19_chunks.keep K27 (ninS ne25_b19 nin0)
    have F27_b19_stored := F26_b19_stored.keep K27 (ninS ne25_b19 nin0)
    have F27_b19_tail := F26_b19_tail.keep K27 (ninS ne25_b19 nin0)
    have F27_b19_length := F26_b19_length.keep K27 (ninS ne25_b19 nin0)
    have E27_b25 := Ei26.keep K27
    show GoE p e below _ (T27.setTop (mkF m 101 #[.val (.int q1), .val (.int q2), .val (.int q3), .val (.int q4), .val (.int q5), .val (.int (1 : Int32)), .val (.int (q5 &&& (3 : Int32))), .val (.ref b19), .val (.ref b25)] []))
    refine g_aload X27 hx hby at_101 (pc' := 103) rfl rfl rfl ?_
    refine g_callV X27 hx hZ hown (W := 0) (argsL := []) (b := b19) (rest := []) hby at_103 (pc' := 106) rfl (by rw [hml]; rfl) (w_26 hw) (w_27 hw) (w_29 hw) (notFace_of_selects (args := #[]) (mvT hZ (w_29 hw))) (w_28 hw) (w_2 hw) (w_30 hw) (by decide) (rmL l Z a0 hw [] b19 T27.heap n0 _ F27_b19_length) rfl E27_b19 (by decide) (by decide) (by decide) (by decide) rfl pd__28_29J rfl rfl (Nat.le_of_eq rfl) ?_
    rintro _ T28 L28 X28 ⟨rfl, N28q, e28⟩
    have N28 := Fr.app N27 N28q
    show GoE p e below _ (T28.setTop (mkF m 106 #[.val (.int q1), .val (.int q2), .val (.int q3), .val (.int q4), .val (.int q5), .val (.int (1 : Int32)), .val (.int (q5 &&& (3 : Int32))), .val (.ref b19), .val (.ref b25)] [.long ((0 : Int64) + (1 : Int64))]))
    refine g_lconst X28 hx hby at_106 (pc' := 107) rfl (z := (1 : Int64)) rfl ?_
    refine g_lcmp X28 hx hby at_107 (pc' := 108) rfl ?_
    refine g_ifL_ne X28 hx hby at_108 (by decide) (pc' := 154) (by decide) (pn := 111) rfl (fun z => absurd z (fun z => z (by decide))) (fun hc108_29 => ?_)
    refine g_aload X28 hx hby at_111 (pc' := 113) rfl rfl rfl ?_
    refine g_callV X28 hx hZ hown (W := 0) (argsL := []) (b := b19) (rest := []) hby at_113 (pc' := 116) rfl (by rw [hml]; rfl) (w_72 hw) (w_73 hw) (w_75 hw) (notFace_of_selects (args := #[]) (mvT hZ (w_75 hw))) (w_74 hw) (w_2 hw) (w_76 hw) (by decide) (rmLa l Z a0 hw [] b19 T27.heap n0 _ F27_b19_tail (own_t1 (own_k3 q5)).1) e28 E27_b19 (by decide) (by decide) (by decide) (by decide) rfl pd__28_29I rfl rfl (Nat.le_of_eq rfl) ?_
    rintro _ T30 L30 X30 ⟨rfl, N30q, e30⟩
    have N30 := Fr.app N28 N30q
    show GoE p e below _ (T30.setTop (mkF m 116 #[.val (.int q1), .val (.int q2), .val (.int q3), .val (.int q4), .val (.int q5), .val (.int (1 : Int32)), .val (.int (q5 &&& (3 : Int32))), .val (.ref b19), .val (.ref b25)] [.int (lastV (nx1 (q5 &&& (3 : Int32))))]))
    refine g_iload X30 hx hby at_116 (pc' := 118) rfl rfl ?_
    refine g_icmp_ne X30 hx hby at_118 (by decide) (pc' := 154) (by decide) (pn := 121) rfl (fun z => absurd z (fun z => z (own_t1 (own_k3 q5)).2.2.2.2.2)) (fun hc118_31 => ?_)
    refine g_aload X30 hx hby at_121 (pc' := 123) rfl rfl rfl ?_
    refine g_get X30 hx hZ hown hby at_123 (pc' := 126) rfl (w_68 hw) e30 Fi27_count ?_
    intro T32 X32 e32
    refine g_iconst X32 hx hby at_126 (pc' := 127) rfl (z := (1 : Int32)) rfl ?_
    refine g_icmp_ne X32 hx hby at_127 (by decide) (pc' := 154) (by decide) (pn := 130) rfl (fun z => absurd z (fun z => z (by decide))) (fun hc127_33 => ?_)
    refine g_aload X32 hx hby at_130 (pc' := 132) rfl rfl rfl ?_
    refine g_get X32 hx hZ hown hby at_132 (pc' := 135) rfl (w_46 hw) e32 Fi27_code ?_
    intro T34 X34 e34
    refine g_iload X34 hx hby at_135 (pc' := 137) rfl rfl ?_
    refine g_icmp_ne X34 hx hby at_137 (by decide) (pc' := 154) (by decide) (pn := 140) rfl (fun z => absurd z (fun z => z (own_t1 (own_k3 q5)).2.2.2.2.1)) (fun hc137_35 => ?_)
    refine g_aload X34 hx hby at_140 (pc' := 142) rfl rfl rfl ?_
    refine g_get X34 hx hZ hown hby at_142 (pc' := 145) rfl (w_70 hw) e34 Fi27_times ?_
    intro T36 X36 e36
    refine g_lconst X36 hx hby at_145 (pc' := 146) rfl (z := (1 : Int64)) rfl ?_
    refine g_lcmp X36 hx hby at_146 (pc' := 147) rfl ?_
    refine g_ifL_ne X36 hx hby at_147 (by decide) (pc' := 154) (by decide) (pn := 150) rfl (fun z => absurd z (by decide)) (fun _ => ?_)
    refine g_iconst X36 hx hby at_150 (pc' := 151) rfl (z := (1 : Int32)) rfl ?_
    refine g_goto X36 hx hby at_151 (by decide) (pc' := 155) (by decide) ?_
    exact g_retN (Q := (fun v h L => v = some (.int 1) ∧ Fr n0 L)) (w := (1 : Int32)) X36 hx hby at_155 hret (by simp) (by first | decide | rfl) hlk (by decide) (by decide) ⟨rfl, N30⟩
  · rw [hk1]
    refine g_istore X0 hx hby at_3 (pc' := 5) rfl (l' := #[.val (.int q1), .val (.int q2), .val (.int q3), .val (.int q4), .val (.int q5), .val (.int (2 : Int32)), .unset, .unset, .unset]) rfl ?_
    refine g_iload X0 hx hby at_5 (pc' := 7) rfl rfl ?_
    refine g_iconst X0 hx hby at_7 (pc' := 8) rfl (z := (3 : Int32)) rfl ?_
    refine g_iand X0 hx hby at_8 (pc' := 9) rfl ?_
    refine g_istore X0 hx hby at_9 (pc' := 11) rfl (l' := #[.val (.int q1), .val (.int q2), .val (.int q3), .val (.int q4), .val (.int q5), .val (.int (2 : Int32)), .val (.int (q5 &&& (3 : Int32))), .unset, .unset]) rfl ?_
    refine g_new X0 hx hZ hown hby at_11 (pc' := 14) rfl (w_0 hw) (w_1 hw) (w_2 hw) e0 (by decide) (by decide) ?_
    intro T37 b37 hb37 X37 E37 A37 D37
    have Z37 := Nat.le_trans Z0 E37.1
    have O37o := O0.ext E37
    have F37_chunks : Fld Z T37.heap b37 "com/example/folha/folha/builder/PackedCodes" "chunks" "[[J" (.null) := D37 (Or.inl (w_14 hw)) (ty := (.array (.array .long))) (by decide)
    have F37_stored : Fld Z T37.heap b37 "com/example/folha/folha/builder/PackedCodes" "stored" "J" (.long (0 : Int64)) := D37 (Or.inl (w_21 hw)) (ty := .long) (by decide)
    have F37_tail : Fld Z T37.heap b37 "com/example/folha/folha/builder/PackedCodes" "tail" "J" (.long (0 : Int64)) := D37 (Or.inl (w_23 hw)) (ty := .long) (by decide)
    have F37_length : Fld Z T37.heap b37 "com/example/folha/folha/builder/PackedCodes" "length" "J" (.long (0 : Int64)) := D37 (Or.inl (w_25 hw)) (ty := .long) (by decide)
    refine g_dup X37 hx hby at_14 (pc' := 15) rfl rfl ?_
    refine g_callI X37 hx hZ hown (W := 1) (argsL := []) (b := b37) (rest := [.ref b37]) hby at_15 (pc' := 18) rfl (by rw [hml]; rfl) (w_3 hw) (w_4 hw) (w_2 hw) (w_5 hw) rfl (by decide) (rmI l Z a0 hw [] b37 T37.heap n0 Z37 A37 F37_chunks F37_stored F37_tail F37_length (Nat.le_trans Z0 (Nat.le_of_eq hb37.symm))) rfl (by decide) (by decide) (by decide) (by decide) rfl pd__28_29V rfl rfl (Nat.le_of_eq rfl) ?_
    rintro _ T38 L38 X38 ⟨rfl, N38q, K38, Ei38, bc38, kc38, bl38, kl38, Fi38_chunks, Fi38_stored, Fi38_tail, Fi38_length, Ac38, Al38, nc38, nl38⟩
    have N38 := Fr.app N0 N38q
    have Z38 := Nat.le_trans Z37 K38.1
    have O38 := O37o.keep K38 (allS (Nat.le_trans Z0 (Nat.le_of_eq hb37.symm)) all0)
    have E38_b37 := A37.keep K38
    show GoE p e below _ (T38.setTop (mkF m 18 #[.val (.int q1), .val (.int q2), .val (.int q3), .val (.int q4), .val (.int q5), .val (.int (2 : Int32)), .val (.int (q5 &&& (3 : Int32))), .unset, .unset] [.ref b37]))
    refine g_astore X38 hx hby at_18 (pc' := 20) rfl rfl (l' := #[.val (.int q1), .val (.int q2), .val (.int q3), .val (.int q4), .val (.int q5), .val (.int (2 : Int32)), .val (.int (q5 &&& (3 : Int32))), .val (.ref b37), .unset]) rfl ?_
    refine g_iload X38 hx hby at_20 (pc' := 22) rfl rfl ?_
    refine g_if_le X38 hx hby at_22 (by decide) (pc' := 33) (by decide) (pn := 25) rfl (fun z => absurd z (by decide)) (fun _ => ?_)
    refine g_aload X38 hx hby at_25 (pc' := 27) rfl rfl rfl ?_
    refine g_iloadN X38 hx hby at_27 (pc' := 28) rfl rfl ?_
    refine g_iconst X38 hx hby at_28 (pc' := 29) rfl (z := (3 : Int32)) rfl ?_
    refine g_iand X38 hx hby at_29 (pc' := 30) rfl ?_
    refine g_callV X38 hx hZ hown (W := 0) (argsL := [.int (q2 &&& (3 : Int32))]) (b := b37) (rest := []) hby at_30 (pc' := 33) rfl (by rw [hml]; rfl) (w_31 hw) (w_32 hw) (w_34 hw) (notFace_of_selects (args := #[]) (mvT hZ (w_34 hw))) (w_33 hw) (w_2 hw) (w_35 hw) (by decide) (rmA1 l Z a0 hw [] b37 (q2 &&& (3 : Int32)) T38.heap n0 bF kF (S_F.ext O38.2) (A_F.ext O38.2) _ _ _ Ei38 Fi38_chunks Fi38_stored Fi38_tail Fi38_length (O38.ne A_F.lt (Nat.le_trans Z0 (Nat.le_of_eq hb37.symm))) (own_k3 q2) (Nat.le_trans Z0 (Nat.le_of_eq hb37.symm))) rfl Ei38 (by decide) (by decide) (by decide) (by decide) rfl pd__28I_29V rfl rfl (Nat.le_of_eq rfl) ?_
    rintro _ T39 L39 X39 ⟨rfl, N39q, K39, Ei39, Fi39_chunks, Fi39_stored, Fi39_tail, Fi39_length⟩
    have N39 := Fr.app N38 N39q
    have Z39 := Nat.le_trans Z38 K39.1
    have O39 := O38.keep K39 (allS (Nat.le_trans Z0 (Nat.le_of_eq hb37.symm)) all0)
    have E39_b37 := Ei38.keep K39
    have A39_bc38 := Ac38.keep K39 (ninS nc38 nin0)
    have A39_bl38 := Al38.keep K39 (ninS nl38 nin0)
    show GoE p e below _ (T39.setTop (mkF m 33 #[.val (.int q1), .val (.int q2), .val (.int q3), .val (.int q4), .val (.int q5), .val (.int (2 : Int32)), .val (.int (q5 &&& (3 : Int32))), .val (.ref b37), .unset] []))
    refine g_iload X39 hx hby at_33 (pc' := 35) rfl rfl ?_
    refine g_iconst X39 hx hby at_35 (pc' := 36) rfl (z := (1 : Int32)) rfl ?_
    refine g_icmp_le X39 hx hby at_36 (by decide) (pc' := 47) (by decide) (pn := 39) rfl (fun z => absurd z (by decide)) (fun _ => ?_)
    refine g_aload X39 hx hby at_39 (pc' := 41) rfl rfl rfl ?_
    refine g_iloadN X39 hx hby at_41 (pc' := 42) rfl rfl ?_
    refine g_iconst X39 hx hby at_42 (pc' := 43) rfl (z := (3 : Int32)) rfl ?_
    refine g_iand X39 hx hby at_43 (pc' := 44) rfl ?_
    refine g_callV X39 hx hZ hown (W := 0) (argsL := [.int (q3 &&& (3 : Int32))]) (b := b37) (rest := []) hby at_44 (pc' := 47) rfl (by rw [hml]; rfl) (w_31 hw) (w_32 hw) (w_34 hw) (notFace_of_selects (args := #[]) (mvT hZ (w_34 hw))) (w_33 hw) (w_2 hw) (w_35 hw) (by decide) (rmA2 l Z a0 hw [] b37 (q3 &&& (3 : Int32)) T39.heap n0 (nx1 (q2 &&& (3 : Int32))) _ _ _ Ei39 Fi39_chunks Fi39_stored Fi39_tail Fi39_length (own_t1 (own_k3 q2)).1 (own_t1 (own_k3 q2)).2.1 (own_p1 (own_k3 q2)) (Nat.le_trans Z0 (Nat.le_of_eq hb37.symm))) rfl Ei39 (by decide) (by decide) (by decide) (by decide) rfl pd__28I_29V rfl rfl (Nat.le_of_eq rfl) ?_
    rintro _ T40 L40 X40 ⟨rfl, N40q, K40, Ei40, Fi40_chunks, Fi40_stored, Fi40_tail, Fi40_length⟩
    have N40 := Fr.app N39 N40q
    have Z40 := Nat.le_trans Z39 K40.1
    have O40 := O39.keep K40 (allS (Nat.le_trans Z0 (Nat.le_of_eq hb37.symm)) all0)
    have E40_b37 := Ei39.keep K40
    have A40_bc38 := A39_bc38.keep K40 (ninS nc38 nin0)
    have A40_bl38 := A39_bl38.keep K40 (ninS nl38 nin0)
    show GoE p e below _ (T40.setTop (mkF m 47 #[.val (.int q1), .val (.int q2), .val (.int q3), .val (.int q4), .val (.int q5), .val (.int (2 : Int32)), .val (.int (q5 &&& (3 : Int32))), .val (.ref b37), .unset] []))
    refine g_iload X40 hx hby at_47 (pc' := 49) rfl rfl ?_
    refine g_iconst X40 hx hby at_49 (pc' := 50) rfl (z := (2 : Int32)) rfl ?_
    refine g_icmp_le X40 hx hby at_50 (by decide) (pc' := 61) (by decide) (pn := 53) rfl (fun _ => ?_) (fun z => absurd z (by decide))
    refine g_aload X40 hx hby at_61 (pc' := 63) rfl rfl rfl ?_
    refine g_callV X40 hx hZ hown (W := 0) (argsL := []) (b := b37) (rest := []) hby at_63 (pc' := 66) rfl (by rw [hml]; rfl) (w_15 hw) (w_16 hw) (w_18 hw) (notFace_of_selects (args := #[]) (mvT hZ (w_18 hw))) (w_17 hw) (w_2 hw) (w_19 hw) (by decide) (rmC l Z a0 hw [] b37 T40.heap n0 bc38 kc38 bl38 kl38 _ _ _ Ei40 Fi40_chunks Fi40_stored Fi40_tail Fi40_length A40_bc38 A40_bl38 nc38 nl38 (Nat.le_trans Z0 (Nat.le_of_eq hb37.symm))) rfl Ei40 (by decide) (by decide) (by decide) (by decide) rfl pd__28_29V rfl rfl (Nat.le_of_eq rfl) ?_
    rintro _ T41 L41 X41 ⟨rfl, N41q, K41, Ei41, Fi41_chunks, Fi41_stored, Fi41_tail, Fi41_length⟩
    have N41 := Fr.app N40 N41q
    have Z41 := Nat.le_trans Z40 K41.1
    have O41 := O40.keep K41 (allS (Nat.le_trans Z0 (Nat.le_of_eq hb37.symm)) all0)
    have E41_b37 := Ei40.keep K41
    have A41_bc38 := A40_bc38.keep K41 (ninS nc38 nin0)
    have A41_bl38 := A40_bl38.keep K41 (ninS nl38 nin0)
    show GoE p e below _ (T41.setTop (mkF m 66 #[.val (.int q1), .val (.int q2), .val (.int q3), .val (.int q4), .val (.int q5), .val (.int (2 : Int32)), .val (.int (q5 &&& (3 : Int32))), .val (.ref b37), .unset] []))
    refine g_aload X41 hx hby at_66 (pc' := 68) rfl rfl rfl ?_
    refine g_callV X41 hx hZ hown (W := 0) (argsL := []) (b := b37) (rest := []) hby at_68 (pc' := 71) rfl (by rw [hml]; rfl) (w_26 hw) (w_27 hw) (w_29 hw) (notFace_of_selects (args := #[]) (mvT hZ (w_29 hw))) (w_28 hw) (w_2 hw) (w_30 hw) (by decide) (rmL l Z a0 hw [] b37 T41.heap n0 _ Fi41_length) rfl Ei41 (by decide) (by decide) (by decide) (by decide) rfl pd__28_29J rfl rfl (Nat.le_of_eq rfl) ?_
    rintro _ T42 L42 X42 ⟨rfl, N42q, e42⟩
    have N42 := Fr.app N41 N42q
    show GoE p e below _ (T42.setTop (mkF m 71 #[.val (.int q1), .val (.int q2), .val (.int q3), .val (.int q4), .val (.int q5), .val (.int (2 : Int32)), .val (.int (q5 &&& (3 : Int32))), .val (.ref b37), .unset] [.long (0 : Int64)]))
    refine g_lconst X42 hx hby at_71 (pc' := 72) rfl (z := (0 : Int64)) rfl ?_
    refine g_lcmp X42 hx hby at_72 (pc' := 73) rfl ?_
    refine g_ifL_eq X42 hx hby at_73 (by decide) (pc' := 78) (by decide) (pn := 76) rfl (fun _ => ?_) (fun z => absurd z (by decide))
    refine g_aload X42 hx hby at_78 (pc' := 80) rfl rfl rfl ?_
    refine g_iload X42 hx hby at_80 (pc' := 82) rfl rfl ?_
    refine g_callV X42 hx hZ hown (W := 0) (argsL := [.int (q5 &&& (3 : Int32))]) (b := b37) (rest := []) hby at_82 (pc' := 85) rfl (by rw [hml]; rfl) (w_31 hw) (w_32 hw) (w_34 hw) (notFace_of_selects (args := #[]) (mvT hZ (w_34 hw))) (w_33 hw) (w_2 hw) (w_35 hw) (by decide) (rmA1 l Z a0 hw [] b37 (q5 &&& (3 : Int32)) T41.heap n0 bF kF (S_F.ext O41.2) (A_F.ext O41.2) _ _ _ Ei41 Fi41_chunks Fi41_stored Fi41_tail Fi41_length (O41.ne A_F.lt (Nat.le_trans Z0 (Nat.le_of_eq hb37.symm))) (own_k3 q5) (Nat.le_trans Z0 (Nat.le_of_eq hb37.symm))) e42 Ei41 (by decide) (by decide) (by decide) (by decide) rfl pd__28I_29V rfl rfl (Nat.le_of_eq rfl) ?_
    rintro _ T43 L43 X43 ⟨rfl, N43q, K43, Ei43, Fi43_chunks, Fi43_stored, Fi43_tail, Fi43_length⟩
    have N43 := Fr.app N42 N43q
    have Z43 := Nat.le_trans Z41 K43.1
    have O43 := O41.keep K43 (allS (Nat.le_trans Z0 (Nat.le_of_eq hb37.symm)) all0)
    have E43_b37 := Ei41.keep K43
    have A43_bc38 := A41_bc38.keep K43 (ninS nc38 nin0)
    have A43_bl38 := A41_bl38.keep K43 (ninS nl38 nin0)
    show GoE p e below _ (T43.setTop (mkF m 85 #[.val (.int q1), .val (.int q2), .val (.int q3), .val (.int q4), .val (.int q5), .val (.int (2 : Int32)), .val (.int (q5 &&& (3 : Int32))), .val (.ref b37), .unset] []))
    refine g_new X43 hx hZ hown hby at_85 (pc' := 88) rfl (w_39 hw) (w_40 hw) (w_41 hw) rfl (by decide) (by decide) ?_
    intro T44 b44 hb44 X44 E44 A44 D44
    have Z44 := Nat.le_trans Z43 E44.1
    have O44o := O43.ext E44
    have E44_b37 := Ei43.ext E44
    have ne44_b37 : b37 ≠ b44 := hb44 ▸ Nat.ne_of_lt Ei43.lt
    have A44_bc38 := A43_bc38.ext E44
    have ne44_bc38 : bc38 ≠ b44 := hb44 ▸ Nat.ne_of_lt A43_bc38.lt
    have A44_bl38 := A43_bl38.ext E44
    have ne44_bl38 : bl38 ≠ b44 := hb44 ▸ Nat.ne_of_lt A43_bl38.lt
    have F44_b37_chunks := Fi43_chunks.ext E44
    have F44_b37_stored := Fi43_stored.ext E44
    have F44_b37_tail := Fi43_tail.ext E44
    have F44_b37_length := Fi43_length.ext E44
    have F44_code : Fld Z T44.heap b44 "com/example/folha/folha/builder/PackedCodesClearPinLaw" "code" "I" (.int (0 : Int32)) := D44 (Or.inl (w_47 hw)) (ty := .int) (by decide)
    have F44_count : Fld Z T44.heap b44 "com/example/folha/folha/builder/PackedCodesClearPinLaw" "count" "I" (.int (0 : Int32)) := D44 (Or.inl (w_69 hw)) (ty := .int) (by decide)
    have F44_times : Fld Z T44.heap b44 "com/example/folha/folha/builder/PackedCodesClearPinLaw" "times" "J" (.long (0 : Int64)) := D44 (Or.inl (w_71 hw)) (ty := .long) (by decide)
    refine g_dup X44 hx hby at_88 (pc' := 89) rfl rfl ?_
    refine g_callI X44 hx hZ hown (W := 1) (argsL := []) (b := b44) (rest := [.ref b44]) hby at_89 (pc' := 92) rfl (by rw [hml]; rfl) (w_42 hw) (w_43 hw) (w_41 hw) (w_44 hw) rfl (by decide) (rmLI l Z a0 hw [] b44 T44.heap n0 _ A44 F44_count F44_code F44_times (Nat.le_trans Z43 (Nat.le_of_eq hb44.symm))) rfl (by decide) (by decide) (by decide) (by decide) rfl pd__28_29V rfl rfl (Nat.le_of_eq rfl) ?_
    rintro _ T45 L45 X45 ⟨rfl, N45q, K45, Ei45, Fi45_count, Fi45_code, Fi45_times⟩
    have N45 := Fr.app N43 N45q
    have Z45 := Nat.le_trans Z44 K45.1
    have O45 := O44o.keep K45 (allS (Nat.le_trans Z43 (Nat.le_of_eq hb44.symm)) all0)
    have E45_b37 := E44_b37.keep K45
    have A45_bc38 := A44_bc38.keep K45 (ninS ne44_bc38 nin0)
    have A45_bl38 := A44_bl38.keep K45 (ninS ne44_bl38 nin0)
    have F45_b37_chunks := F44_b37_chunks.keep K45 (ninS ne44_b37 nin0)
    have F45_b37_stored := F44_b37_stored.keep K45 (ninS ne44_b37 nin0)
    have F45_b37_tail := F44_b37_tail.keep K45 (ninS ne44_b37 nin0)
    have F45_b37_length := F44_b37_length.keep K45 (ninS ne44_b37 nin0)
    have E45_b44 := A44.keep K45
    show GoE p e below _ (T45.setTop (mkF m 92 #[.val (.int q1), .val (.int q2), .val (.int q3), .val (.int q4), .val (.int q5), .val (.int (2 : Int32)), .val (.int (q5 &&& (3 : Int32))), .val (.ref b37), .unset] [.ref b44]))
    refine g_astore X45 hx hby at_92 (pc' := 94) rfl rfl (l' := #[.val (.int q1), .val (.int q2), .val (.int q3), .val (.int q4), .val (.int q5), .val (.int (2 : Int32)), .val (.int (q5 &&& (3 : Int32))), .val (.ref b37), .val (.ref b44)]) rfl ?_
    refine g_aload X45 hx hby at_94 (pc' := 96) rfl rfl rfl ?_
    refine g_aload X45 hx hby at_96 (pc' := 98) rfl rfl rfl ?_
    refine g_callV X45 hx hZ hown (W := 0) (argsL := [.ref b44]) (b := b37) (rest := []) hby at_98 (pc' := 101) rfl (by rw [hml]; rfl) (w_48 hw) (w_49 hw) (w_51 hw) (notFace_of_selects (args := #[]) (mvT hZ (w_51 hw))) (w_50 hw) (w_2 hw) (w_52 hw) (by decide) (rmF l Z a0 hw [] b37 b44 T45.heap n0 _ F45_b37_stored F45_b37_tail ne44_b37 _ _ _ Ei45 Fi45_count Fi45_code Fi45_times (own_t1 (own_k3 q5)).2.2.2.1 (own_t1 (own_k3 q5)).1 (own_t1 (own_k3 q5)).2.2.1 (Nat.le_trans Z43 (Nat.le_of_eq hb44.symm))) rfl E45_b37 (by decide) (by decide) (by decide) (by decide) rfl pd__28Lcom_2fexample_2ffolha_2ffolha_2fbuilder_2fPackedCodes_24Runs_3b_29V rfl rfl (Nat.le_of_eq rfl) ?_
    rintro _ T46 L46 X46 ⟨rfl, N46q, K46, Ei46, Fi46_count, Fi46_code, Fi46_times⟩
    have N46 := Fr.app N45 N46q
    have Z46 := Nat.le_trans Z45 K46.1
    have O46 := O45.keep K46 (allS (Nat.le_trans Z43 (Nat.le_of_eq hb44.symm)) all0)
    have E46_b37 := E45_b37.keep K46
    have A46_bc38 := A45_bc38.keep K46 (ninS ne44_bc38 nin0)
    have A46_bl38 := A45_bl38.keep K46 (ninS ne44_bl38 nin0)
    have F46_b37_chunks := F45_b37_chunks.keep K46 (ninS ne44_b37 nin0)
    have F46_b37_stored := F45_b37_stored.keep K46 (ninS ne44_b37 nin0)
    have F46_b37_tail := F45_b37_tail.keep K46 (ninS ne44_b37 nin0)
    have F46_b37_length := F45_b37_length.keep K46 (ninS ne44_b37 nin0)
    have E46_b44 := Ei45.keep K46
    show GoE p e below _ (T46.setTop (mkF m 101 #[.val (.int q1), .val (.int q2), .val (.int q3), .val (.int q4), .val (.int q5), .val (.int (2 : Int32)), .val (.int (q5 &&& (3 : Int32))), .val (.ref b37), .val (.ref b44)] []))
    refine g_aload X46 hx hby at_101 (pc' := 103) rfl rfl rfl ?_
    refine g_callV X46 hx hZ hown (W := 0) (argsL := []) (b := b37) (rest := []) hby at_103 (pc' := 106) rfl (by rw [hml]; rfl) (w_26 hw) (w_27 hw) (w_29 hw) (notFace_of_selects (args := #[]) (mvT hZ (w_29 hw))) (w_28 hw) (w_2 hw) (w_30 hw) (by decide) (rmL l Z a0 hw [] b37 T46.heap n0 _ F46_b37_length) rfl E46_b37 (by decide) (by decide) (by decide) (by decide) rfl pd__28_29J rfl rfl (Nat.le_of_eq rfl) ?_
    rintro _ T47 L47 X47 ⟨rfl, N47q, e47⟩
    have N47 := Fr.app N46 N47q
    show GoE p e below _ (T47.setTop (mkF m 106 #[.val (.int q1), .val (.int q2), .val (.int q3), .val (.int q4), .val (.int q5), .val (.int (2 : Int32)), .val (.int (q5 &&& (3 : Int32))), .val (.ref b37), .val (.ref b44)] [.long ((0 : Int64) + (1 : Int64))]))
    refine g_lconst X47 hx hby at_106 (pc' := 107) rfl (z := (1 : Int64)) rfl ?_
    refine g_lcmp X47 hx hby at_107 (pc' := 108) rfl ?_
    refine g_ifL_ne X47 hx hby at_108 (by decide) (pc' := 154) (by decide) (pn := 111) rfl (fun z => absurd z (fun z => z (by decide))) (fun hc108_48 => ?_)
    refine g_aload X47 hx hby at_111 (pc' := 113) rfl rfl rfl ?_
    refine g_callV X47 hx hZ hown (W := 0) (argsL := []) (b := b37) (rest := []) hby at_113 (pc' := 116) rfl (by rw [hml]; rfl) (w_72 hw) (w_73 hw) (w_75 hw) (notFace_of_selects (args := #[]) (mvT hZ (w_75 hw))) (w_74 hw) (w_2 hw) (w_76 hw) (by decide) (rmLa l Z a0 hw [] b37 T46.heap n0 _ F46_b37_tail (own_t1 (own_k3 q5)).1) e47 E46_b37 (by decide) (by decide) (by decide) (by decide) rfl pd__28_29I rfl rfl (Nat.le_of_eq rfl) ?_
    rintro _ T49 L49 X49 ⟨rfl, N49q, e49⟩
    have N49 := Fr.app N47 N49q
    show GoE p e below _ (T49.setTop (mkF m 116 #[.val (.int q1), .val (.int q2), .val (.int q3), .val (.int q4), .val (.int q5), .val (.int (2 : Int32)), .val (.int (q5 &&& (3 : Int32))), .val (.ref b37), .val (.ref b44)] [.int (lastV (nx1 (q5 &&& (3 : Int32))))]))
    refine g_iload X49 hx hby at_116 (pc' := 118) rfl rfl ?_
    refine g_icmp_ne X49 hx hby at_118 (by decide) (pc' := 154) (by decide) (pn := 121) rfl (fun z => absurd z (fun z => z (own_t1 (own_k3 q5)).2.2.2.2.2)) (fun hc118_50 => ?_)
    refine g_aload X49 hx hby at_121 (pc' := 123) rfl rfl rfl ?_
    refine g_get X49 hx hZ hown hby at_123 (pc' := 126) rfl (w_68 hw) e49 Fi46_count ?_
    intro T51 X51 e51
    refine g_iconst X51 hx hby at_126 (pc' := 127) rfl (z := (1 : Int32)) rfl ?_
    refine g_icmp_ne X51 hx hby at_127 (by decide) (pc' := 154) (by decide) (pn := 130) rfl (fun z => absurd z (fun z => z (by decide))) (fun hc127_52 => ?_)
    refine g_aload X51 hx hby at_130 (pc' := 132) rfl rfl rfl ?_
    refine g_get X51 hx hZ hown hby at_132 (pc' := 135) rfl (w_46 hw) e51 Fi46_code ?_
    intro T53 X53 e53
    refine g_iload X53 hx hby at_135 (pc' := 137) rfl rfl ?_
    refine g_icmp_ne X53 hx hby at_137 (by decide) (pc' := 154) (by decide) (pn := 140) rfl (fun z => absurd z (fun z => z (own_t1 (own_k3 q5)).2.2.2.2.1)) (fun hc137_54 => ?_)
    refine g_aload X53 hx hby at_140 (pc' := 142) rfl rfl rfl ?_
    refine g_get X53 hx hZ hown hby at_142 (pc' := 145) rfl (w_70 hw) e53 Fi46_times ?_
    intro T55 X55 e55
    refine g_lconst X55 hx hby at_145 (pc' := 146) rfl (z := (1 : Int64)) rfl ?_
    refine g_lcmp X55 hx hby at_146 (pc' := 147) rfl ?_
    refine g_ifL_ne X55 hx hby at_147 (by decide) (pc' := 154) (by decide) (pn := 150) rfl (fun z => absurd z (by decide)) (fun _ => ?_)
    refine g_iconst X55 hx hby at_150 (pc' := 151) rfl (z := (1 : Int32)) rfl ?_
    refine g_goto X55 hx hby at_151 (by decide) (pc' := 155) (by decide) ?_
    exact g_retN (Q := (fun v h L => v = some (.int 1) ∧ Fr n0 L)) (w := (1 : Int32)) X55 hx hby at_155 hret (by simp) (by first | decide | rfl) hlk (by decide) (by decide) ⟨rfl, N49⟩
  · rw [hk1]
    refine g_istore X0 hx hby at_3 (pc' := 5) rfl (l' := #[.val (.int q1), .val (.int q2), .val (.int q3), .val (.int q4), .val (.int q5), .val (.int (3 : Int32)), .unset, .unset, .unset]) rfl ?_
    refine g_iload X0 hx hby at_5 (pc' := 7) rfl rfl ?_
    refine g_iconst X0 hx hby at_7 (pc' := 8) rfl (z := (3 : Int32)) rfl ?_
    refine g_iand X0 hx hby at_8 (pc' := 9) rfl ?_
    refine g_istore X0 hx hby at_9 (pc' := 11) rfl (l' := #[.val (.int q1), .val (.int q2), .val (.int q3), .val (.int q4), .val (.int q5), .val (.int (3 : Int32)), .val (.int (q5 &&& (3 : Int32))), .unset, .unset]) rfl ?_
    refine g_new X0 hx hZ hown hby at_11 (pc' := 14) rfl (w_0 hw) (w_1 hw) (w_2 hw) e0 (by decide) (by decide) ?_
    intro T56 b56 hb56 X56 E56 A56 D56
    have Z56 := Nat.le_trans Z0 E56.1
    have O56o := O0.ext E56
    have F56_chunks : Fld Z T56.heap b56 "com/example/folha/folha/builder/PackedCodes" "chunks" "[[J" (.null) := D56 (Or.inl (w_14 hw)) (ty := (.array (.array .long))) (by decide)
    have F56_stored : Fld Z T56.heap b56 "com/example/folha/folha/builder/PackedCodes" "stored" "J" (.long (0 : Int64)) := D56 (Or.inl (w_21 hw)) (ty := .long) (by decide)
    have F56_tail : Fld Z T56.heap b56 "com/example/folha/folha/builder/PackedCodes" "tail" "J" (.long (0 : Int64)) := D56 (Or.inl (w_23 hw)) (ty := .long) (by decide)
    have F56_length : Fld Z T56.heap b56 "com/example/folha/folha/builder/PackedCodes" "length" "J" (.long (0 : Int64)) := D56 (Or.inl (w_25 hw)) (ty := .long) (by decide)
    refine g_dup X56 hx hby at_14 (pc' := 15) rfl rfl ?_
    refine g_callI X56 hx hZ hown (W := 1) (argsL := []) (b := b56) (rest := [.ref b56]) hby at_15 (pc' := 18) rfl (by rw [hml]; rfl) (w_3 hw) (w_4 hw) (w_2 hw) (w_5 hw) rfl (by decide) (rmI l Z a0 hw [] b56 T56.heap n0 Z56 A56 F56_chunks F56_stored F56_tail F56_length (Nat.le_trans Z0 (Nat.le_of_eq hb56.symm))) rfl (by decide) (by decide) (by decide) (by decide) rfl pd__28_29V rfl rfl (Nat.le_of_eq rfl) ?_
    rintro _ T57 L57 X57 ⟨rfl, N57q, K57, Ei57, bc57, kc57, bl57, kl57, Fi57_chunks, Fi57_stored, Fi57_tail, Fi57_length, Ac57, Al57, nc57, nl57⟩
    have N57 := Fr.app N0 N57q
    have Z57 := Nat.le_trans Z56 K57.1
    have O57 := O56o.keep K57 (allS (Nat.le_trans Z0 (Nat.le_of_eq hb56.symm)) all0)
    have E57_b56 := A56.keep K57
    show GoE p e below _ (T57.setTop (mkF m 18 #[.val (.int q1), .val (.int q2), .val (.int q3), .val (.int q4), .val (.int q5), .val (.int (3 : Int32)), .val (.int (q5 &&& (3 : Int32))), .unset, .unset] [.ref b56]))
    refine g_astore X57 hx hby at_18 (pc' := 20) rfl rfl (l' := #[.val (.int q1), .val (.int q2), .val (.int q3), .val (.int q4), .val (.int q5), .val (.int (3 : Int32)), .val (.int (q5 &&& (3 : Int32))), .val (.ref b56), .unset]) rfl ?_
    refine g_iload X57 hx hby at_20 (pc' := 22) rfl rfl ?_
    refine g_if_le X57 hx hby at_22 (by decide) (pc' := 33) (by decide) (pn := 25) rfl (fun z => absurd z (by decide)) (fun _ => ?_)
    refine g_aload X57 hx hby at_25 (pc' := 27) rfl rfl rfl ?_
    refine g_iloadN X57 hx hby at_27 (pc' := 28) rfl rfl ?_
    refine g_iconst X57 hx hby at_28 (pc' := 29) rfl (z := (3 : Int32)) rfl ?_
    refine g_iand X57 hx hby at_29 (pc' := 30) rfl ?_
    refine g_callV X57 hx hZ hown (W := 0) (argsL := [.int (q2 &&& (3 : Int32))]) (b := b56) (rest := []) hby at_30 (pc' := 33) rfl (by rw [hml]; rfl) (w_31 hw) (w_32 hw) (w_34 hw) (notFace_of_selects (args := #[]) (mvT hZ (w_34 hw))) (w_33 hw) (w_2 hw) (w_35 hw) (by decide) (rmA1 l Z a0 hw [] b56 (q2 &&& (3 : Int32)) T57.heap n0 bF kF (S_F.ext O57.2) (A_F.ext O57.2) _ _ _ Ei57 Fi57_chunks Fi57_stored Fi57_tail Fi57_length (O57.ne A_F.lt (Nat.le_trans Z0 (Nat.le_of_eq hb56.symm))) (own_k3 q2) (Nat.le_trans Z0 (Nat.le_of_eq hb56.symm))) rfl Ei57 (by decide) (by decide) (by decide) (by decide) rfl pd__28I_29V rfl rfl (Nat.le_of_eq rfl) ?_
    rintro _ T58 L58 X58 ⟨rfl, N58q, K58, Ei58, Fi58_chunks, Fi58_stored, Fi58_tail, Fi58_length⟩
    have N58 := Fr.app N57 N58q
    have Z58 := Nat.le_trans Z57 K58.1
    have O58 := O57.keep K58 (allS (Nat.le_trans Z0 (Nat.le_of_eq hb56.symm)) all0)
    have E58_b56 := Ei57.keep K58
    have A58_bc57 := Ac57.keep K58 (ninS nc57 nin0)
    have A58_bl57 := Al57.keep K58 (ninS nl57 nin0)
    show GoE p e below _ (T58.setTop (mkF m 33 #[.val (.int q1), .val (.int q2), .val (.int q3), .val (.int q4), .val (.int q5), .val (.int (3 : Int32)), .val (.int (q5 &&& (3 : Int32))), .val (.ref b56), .unset] []))
    refine g_iload X58 hx hby at_33 (pc' := 35) rfl rfl ?_
    refine g_iconst X58 hx hby at_35 (pc' := 36) rfl (z := (1 : Int32)) rfl ?_
    refine g_icmp_le X58 hx hby at_36 (by decide) (pc' := 47) (by decide) (pn := 39) rfl (fun z => absurd z (by decide)) (fun _ => ?_)
    refine g_aload X58 hx hby at_39 (pc' := 41) rfl rfl rfl ?_
    refine g_iloadN X58 hx hby at_41 (pc' := 42) rfl rfl ?_
    refine g_iconst X58 hx hby at_42 (pc' := 43) rfl (z := (3 : Int32)) rfl ?_
    refine g_iand X58 hx hby at_43 (pc' := 44) rfl ?_
    refine g_callV X58 hx hZ hown (W := 0) (argsL := [.int (q3 &&& (3 : Int32))]) (b := b56) (rest := []) hby at_44 (pc' := 47) rfl (by rw [hml]; rfl) (w_31 hw) (w_32 hw) (w_34 hw) (notFace_of_selects (args := #[]) (mvT hZ (w_34 hw))) (w_33 hw) (w_2 hw) (w_35 hw) (by decide) (rmA2 l Z a0 hw [] b56 (q3 &&& (3 : Int32)) T58.heap n0 (nx1 (q2 &&& (3 : Int32))) _ _ _ Ei58 Fi58_chunks Fi58_stored Fi58_tail Fi58_length (own_t1 (own_k3 q2)).1 (own_t1 (own_k3 q2)).2.1 (own_p1 (own_k3 q2)) (Nat.le_trans Z0 (Nat.le_of_eq hb56.symm))) rfl Ei58 (by decide) (by decide) (by decide) (by decide) rfl pd__28I_29V rfl rfl (Nat.le_of_eq rfl) ?_
    rintro _ T59 L59 X59 ⟨rfl, N59q, K59, Ei59, Fi59_chunks, Fi59_stored, Fi59_tail, Fi59_length⟩
    have N59 := Fr.app N58 N59q
    have Z59 := Nat.le_trans Z58 K59.1
    have O59 := O58.keep K59 (allS (Nat.le_trans Z0 (Nat.le_of_eq hb56.symm)) all0)
    have E59_b56 := Ei58.keep K59
    have A59_bc57 := A58_bc57.keep K59 (ninS nc57 nin0)
    have A59_bl57 := A58_bl57.keep K59 (ninS nl57 nin0)
    show GoE p e below _ (T59.setTop (mkF m 47 #[.val (.int q1), .val (.int q2), .val (.int q3), .val (.int q4), .val (.int q5), .val (.int (3 : Int32)), .val (.int (q5 &&& (3 : Int32))), .val (.ref b56), .unset] []))
    refine g_iload X59 hx hby at_47 (pc' := 49) rfl rfl ?_
    refine g_iconst X59 hx hby at_49 (pc' := 50) rfl (z := (2 : Int32)) rfl ?_
    refine g_icmp_le X59 hx hby at_50 (by decide) (pc' := 61) (by decide) (pn := 53) rfl (fun z => absurd z (by decide)) (fun _ => ?_)
    refine g_aload X59 hx hby at_53 (pc' := 55) rfl rfl rfl ?_
    refine g_iloadN X59 hx hby at_55 (pc' := 56) rfl rfl ?_
    refine g_iconst X59 hx hby at_56 (pc' := 57) rfl (z := (3 : Int32)) rfl ?_
    refine g_iand X59 hx hby at_57 (pc' := 58) rfl ?_
    refine g_callV X59 hx hZ hown (W := 0) (argsL := [.int (q4 &&& (3 : Int32))]) (b := b56) (rest := []) hby at_58 (pc' := 61) rfl (by rw [hml]; rfl) (w_31 hw) (w_32 hw) (w_34 hw) (notFace_of_selects (args := #[]) (mvT hZ (w_34 hw))) (w_33 hw) (w_2 hw) (w_35 hw) (by decide) (rmA2 l Z a0 hw [] b56 (q4 &&& (3 : Int32)) T59.heap n0 (nx2 (nx1 (q2 &&& (3 : Int32))) (q3 &&& (3 : Int32))) _ _ _ Ei59 Fi59_chunks Fi59_stored Fi59_tail Fi59_length (own_t2 (own_k3 q2) (own_k3 q3)).1 (own_t2 (own_k3 q2) (own_k3 q3)).2.1 (own_t2 (own_k3 q2) (own_k3 q3)).2.2 (Nat.le_trans Z0 (Nat.le_of_eq hb56.symm))) rfl Ei59 (by decide) (by decide) (by decide) (by decide) rfl pd__28I_29V rfl rfl (Nat.le_of_eq rfl) ?_
    rintro _ T60 L60 X60 ⟨rfl, N60q, K60, Ei60, Fi60_chunks, Fi60_stored, Fi60_tail, Fi60_length⟩
    have N60 := Fr.app N59 N60q
    have Z60 := Nat.le_trans Z59 K60.1
    have O60 := O59.keep K60 (allS (Nat.le_trans Z0 (Nat.le_of_eq hb56.symm)) all0)
    have E60_b56 := Ei59.keep K60
    have A60_bc57 := A59_bc57.keep K60 (ninS nc57 nin0)
    have A60_bl57 := A59_bl57.keep K60 (ninS nl57 nin0)
    show GoE p e below _ (T60.setTop (mkF m 61 #[.val (.int q1), .val (.int q2), .val (.int q3), .val (.int q4), .val (.int q5), .val (.int (3 : Int32)), .val (.int (q5 &&& (3 : Int32))), .val (.ref b56), .unset] []))
    refine g_aload X60 hx hby at_61 (pc' := 63) rfl rfl rfl ?_
    refine g_callV X60 hx hZ hown (W := 0) (argsL := []) (b := b56) (rest := []) hby at_63 (pc' := 66) rfl (by rw [hml]; rfl) (w_15 hw) (w_16 hw) (w_18 hw) (notFace_of_selects (args := #[]) (mvT hZ (w_18 hw))) (w_17 hw) (w_2 hw) (w_19 hw) (by decide) (rmC l Z a0 hw [] b56 T60.heap n0 bc57 kc57 bl57 kl57 _ _ _ Ei60 Fi60_chunks Fi60_stored Fi60_tail Fi60_length A60_bc57 A60_bl57 nc57 nl57 (Nat.le_trans Z0 (Nat.le_of_eq hb56.symm))) rfl Ei60 (by decide) (by decide) (by decide) (by decide) rfl pd__28_29V rfl rfl (Nat.le_of_eq rfl) ?_
    rintro _ T61 L61 X61 ⟨rfl, N61q, K61, Ei61, Fi61_chunks, Fi61_stored, Fi61_tail, Fi61_length⟩
    have N61 := Fr.app N60 N61q
    have Z61 := Nat.le_trans Z60 K61.1
    have O61 := O60.keep K61 (allS (Nat.le_trans Z0 (Nat.le_of_eq hb56.symm)) all0)
    have E61_b56 := Ei60.keep K61
    have A61_bc57 := A60_bc57.keep K61 (ninS nc57 nin0)
    have A61_bl57 := A60_bl57.keep K61 (ninS nl57 nin0)
    show GoE p e below _ (T61.setTop (mkF m 66 #[.val (.int q1), .val (.int q2), .val (.int q3), .val (.int q4), .val (.int q5), .val (.int (3 : Int32)), .val (.int (q5 &&& (3 : Int32))), .val (.ref b56), .unset] []))
    refine g_aload X61 hx hby at_66 (pc' := 68) rfl rfl rfl ?_
    refine g_callV X61 hx hZ hown (W := 0) (argsL := []) (b := b56) (rest := []) hby at_68 (pc' := 71) rfl (by rw [hml]; rfl) (w_26 hw) (w_27 hw) (w_29 hw) (notFace_of_selects (args := #[]) (mvT hZ (w_29 hw))) (w_28 hw) (w_2 hw) (w_30 hw) (by decide) (rmL l Z a0 hw [] b56 T61.heap n0 _ Fi61_length) rfl Ei61 (by decide) (by decide) (by decide) (by decide) rfl pd__28_29J rfl rfl (Nat.le_of_eq rfl) ?_
    rintro _ T62 L62 X62 ⟨rfl, N62q, e62⟩
    have N62 := Fr.app N61 N62q
    show GoE p e below _ (T62.setTop (mkF m 71 #[.val (.int q1), .val (.int q2), .val (.int q3), .val (.int q4), .val (.int q5), .val (.int (3 : Int32)), .val (.int (q5 &&& (3 : Int32))), .val (.ref b56), .unset] [.long (0 : Int64)]))
    refine g_lconst X62 hx hby at_71 (pc' := 72) rfl (z := (0 : Int64)) rfl ?_
    refine g_lcmp X62 hx hby at_72 (pc' := 73) rfl ?_
    refine g_ifL_eq X62 hx hby at_73 (by decide) (pc' := 78) (by decide) (pn := 76) rfl (fun _ => ?_) (fun z => absurd z (by decide))
    refine g_aload X62 hx hby at_78 (pc' := 80) rfl rfl rfl ?_
    refine g_iload X62 hx hby at_80 (pc' := 82) rfl rfl ?_
    refine g_callV X62 hx hZ hown (W := 0) (argsL := [.int (q5 &&& (3 : Int32))]) (b := b56) (rest := []) hby at_82 (pc' := 85) rfl (by rw [hml]; rfl) (w_31 hw) (w_32 hw) (w_34 hw) (notFace_of_selects (args := #[]) (mvT hZ (w_34 hw))) (w_33 hw) (w_2 hw) (w_35 hw) (by decide) (rmA1 l Z a0 hw [] b56 (q5 &&& (3 : Int32)) T61.heap n0 bF kF (S_F.ext O61.2) (A_F.ext O61.2) _ _ _ Ei61 Fi61_chunks Fi61_stored Fi61_tail Fi61_length (O61.ne A_F.lt (Nat.le_trans Z0 (Nat.le_of_eq hb56.symm))) (own_k3 q5) (Nat.le_trans Z0 (Nat.le_of_eq hb56.symm))) e62 Ei61 (by decide) (by decide) (by decide) (by decide) rfl pd__28I_29V rfl rfl (Nat.le_of_eq rfl) ?_
    rintro _ T63 L63 X63 ⟨rfl, N63q, K63, Ei63, Fi63_chunks, Fi63_stored, Fi63_tail, Fi63_length⟩
    have N63 := Fr.app N62 N63q
    have Z63 := Nat.le_trans Z61 K63.1
    have O63 := O61.keep K63 (allS (Nat.le_trans Z0 (Nat.le_of_eq hb56.symm)) all0)
    have E63_b56 := Ei61.keep K63
    have A63_bc57 := A61_bc57.keep K63 (ninS nc57 nin0)
    have A63_bl57 := A61_bl57.keep K63 (ninS nl57 nin0)
    show GoE p e below _ (T63.setTop (mkF m 85 #[.val (.int q1), .val (.int q2), .val (.int q3), .val (.int q4), .val (.int q5), .val (.int (3 : Int32)), .val (.int (q5 &&& (3 : Int32))), .val (.ref b56), .unset] []))
    refine g_new X63 hx hZ hown hby at_85 (pc' := 88) rfl (w_39 hw) (w_40 hw) (w_41 hw) rfl (by decide) (by decide) ?_
    intro T64 b64 hb64 X64 E64 A64 D64
    have Z64 := Nat.le_trans Z63 E64.1
    have O64o := O63.ext E64
    have E64_b56 := Ei63.ext E64
    have ne64_b56 : b56 ≠ b64 := hb64 ▸ Nat.ne_of_lt Ei63.lt
    have A64_bc57 := A63_bc57.ext E64
    have ne64_bc57 : bc57 ≠ b64 := hb64 ▸ Nat.ne_of_lt A63_bc57.lt
    have A64_bl57 := A63_bl57.ext E64
    have ne64_bl57 : bl57 ≠ b64 := hb64 ▸ Nat.ne_of_lt A63_bl57.lt
    have F64_b56_chunks := Fi63_chunks.ext E64
    have F64_b56_stored := Fi63_stored.ext E64
    have F64_b56_tail := Fi63_tail.ext E64
    have F64_b56_length := Fi63_length.ext E64
    have F64_code : Fld Z T64.heap b64 "com/example/folha/folha/builder/PackedCodesClearPinLaw" "code" "I" (.int (0 : Int32)) := D64 (Or.inl (w_47 hw)) (ty := .int) (by decide)
    have F64_count : Fld Z T64.heap b64 "com/example/folha/folha/builder/PackedCodesClearPinLaw" "count" "I" (.int (0 : Int32)) := D64 (Or.inl (w_69 hw)) (ty := .int) (by decide)
    have F64_times : Fld Z T64.heap b64 "com/example/folha/folha/builder/PackedCodesClearPinLaw" "times" "J" (.long (0 : Int64)) := D64 (Or.inl (w_71 hw)) (ty := .long) (by decide)
    refine g_dup X64 hx hby at_88 (pc' := 89) rfl rfl ?_
    refine g_callI X64 hx hZ hown (W := 1) (argsL := []) (b := b64) (rest := [.ref b64]) hby at_89 (pc' := 92) rfl (by rw [hml]; rfl) (w_42 hw) (w_43 hw) (w_41 hw) (w_44 hw) rfl (by decide) (rmLI l Z a0 hw [] b64 T64.heap n0 _ A64 F64_count F64_code F64_times (Nat.le_trans Z63 (Nat.le_of_eq hb64.symm))) rfl (by decide) (by decide) (by decide) (by decide) rfl pd__28_29V rfl rfl (Nat.le_of_eq rfl) ?_
    rintro _ T65 L65 X65 ⟨rfl, N65q, K65, Ei65, Fi65_count, Fi65_code, Fi65_times⟩
    have N65 := Fr.app N63 N65q
    have Z65 := Nat.le_trans Z64 K65.1
    have O65 := O64o.keep K65 (allS (Nat.le_trans Z63 (Nat.le_of_eq hb64.symm)) all0)
    have E65_b56 := E64_b56.keep K65
    have A65_bc57 := A64_bc57.keep K65 (ninS ne64_bc57 nin0)
    have A65_bl57 := A64_bl57.keep K65 (ninS ne64_bl57 nin0)
    have F65_b56_chunks := F64_b56_chunks.keep K65 (ninS ne64_b56 nin0)
    have F65_b56_stored := F64_b56_stored.keep K65 (ninS ne64_b56 nin0)
    have F65_b56_tail := F64_b56_tail.keep K65 (ninS ne64_b56 nin0)
    have F65_b56_length := F64_b56_length.keep K65 (ninS ne64_b56 nin0)
    have E65_b64 := A64.keep K65
    show GoE p e below _ (T65.setTop (mkF m 92 #[.val (.int q1), .val (.int q2), .val (.int q3), .val (.int q4), .val (.int q5), .val (.int (3 : Int32)), .val (.int (q5 &&& (3 : Int32))), .val (.ref b56), .unset] [.ref b64]))
    refine g_astore X65 hx hby at_92 (pc' := 94) rfl rfl (l' := #[.val (.int q1), .val (.int q2), .val (.int q3), .val (.int q4), .val (.int q5), .val (.int (3 : Int32)), .val (.int (q5 &&& (3 : Int32))), .val (.ref b56), .val (.ref b64)]) rfl ?_
    refine g_aload X65 hx hby at_94 (pc' := 96) rfl rfl rfl ?_
    refine g_aload X65 hx hby at_96 (pc' := 98) rfl rfl rfl ?_
    refine g_callV X65 hx hZ hown (W := 0) (argsL := [.ref b64]) (b := b56) (rest := []) hby at_98 (pc' := 101) rfl (by rw [hml]; rfl) (w_48 hw) (w_49 hw) (w_51 hw) (notFace_of_selects (args := #[]) (mvT hZ (w_51 hw))) (w_50 hw) (w_2 hw) (w_52 hw) (by decide) (rmF l Z a0 hw [] b56 b64 T65.heap n0 _ F65_b56_stored F65_b56_tail ne64_b56 _ _ _ Ei65 Fi65_count Fi65_code Fi65_times (own_t1 (own_k3 q5)).2.2.2.1 (own_t1 (own_k3 q5)).1 (own_t1 (own_k3 q5)).2.2.1 (Nat.le_trans Z63 (Nat.le_of_eq hb64.symm))) rfl E65_b56 (by decide) (by decide) (by decide) (by decide) rfl pd__28Lcom_2fexample_2ffolha_2ffolha_2fbuilder_2fPackedCodes_24Runs_3b_29V rfl rfl (Nat.le_of_eq rfl) ?_
    rintro _ T66 L66 X66 ⟨rfl, N66q, K66, Ei66, Fi66_count, Fi66_code, Fi66_times⟩
    have N66 := Fr.app N65 N66q
    have Z66 := Nat.le_trans Z65 K66.1
    have O66 := O65.keep K66 (allS (Nat.le_trans Z63 (Nat.le_of_eq hb64.symm)) all0)
    have E66_b56 := E65_b56.keep K66
    have A66_bc57 := A65_bc57.keep K66 (ninS ne64_bc57 nin0)
    have A66_bl57 := A65_bl57.keep K66 (ninS ne64_bl57 nin0)
    have F66_b56_chunks := F65_b56_chunks.keep K66 (ninS ne64_b56 nin0)
    have F66_b56_stored := F65_b56_stored.keep K66 (ninS ne64_b56 nin0)
    have F66_b56_tail := F65_b56_tail.keep K66 (ninS ne64_b56 nin0)
    have F66_b56_length := F65_b56_length.keep K66 (ninS ne64_b56 nin0)
    have E66_b64 := Ei65.keep K66
    show GoE p e below _ (T66.setTop (mkF m 101 #[.val (.int q1), .val (.int q2), .val (.int q3), .val (.int q4), .val (.int q5), .val (.int (3 : Int32)), .val (.int (q5 &&& (3 : Int32))), .val (.ref b56), .val (.ref b64)] []))
    refine g_aload X66 hx hby at_101 (pc' := 103) rfl rfl rfl ?_
    refine g_callV X66 hx hZ hown (W := 0) (argsL := []) (b := b56) (rest := []) hby at_103 (pc' := 106) rfl (by rw [hml]; rfl) (w_26 hw) (w_27 hw) (w_29 hw) (notFace_of_selects (args := #[]) (mvT hZ (w_29 hw))) (w_28 hw) (w_2 hw) (w_30 hw) (by decide) (rmL l Z a0 hw [] b56 T66.heap n0 _ F66_b56_length) rfl E66_b56 (by decide) (by decide) (by decide) (by decide) rfl pd__28_29J rfl rfl (Nat.le_of_eq rfl) ?_
    rintro _ T67 L67 X67 ⟨rfl, N67q, e67⟩
    have N67 := Fr.app N66 N67q
    show GoE p e below _ (T67.setTop (mkF m 106 #[.val (.int q1), .val (.int q2), .val (.int q3), .val (.int q4), .val (.int q5), .val (.int (3 : Int32)), .val (.int (q5 &&& (3 : Int32))), .val (.ref b56), .val (.ref b64)] [.long ((0 : Int64) + (1 : Int64))]))
    refine g_lconst X67 hx hby at_106 (pc' := 107) rfl (z := (1 : Int64)) rfl ?_
    refine g_lcmp X67 hx hby at_107 (pc' := 108) rfl ?_
    refine g_ifL_ne X67 hx hby at_108 (by decide) (pc' := 154) (by decide) (pn := 111) rfl (fun z => absurd z (fun z => z (by decide))) (fun hc108_68 => ?_)
    refine g_aload X67 hx hby at_111 (pc' := 113) rfl rfl rfl ?_
    refine g_callV X67 hx hZ hown (W := 0) (argsL := []) (b := b56) (rest := []) hby at_113 (pc' := 116) rfl (by rw [hml]; rfl) (w_72 hw) (w_73 hw) (w_75 hw) (notFace_of_selects (args := #[]) (mvT hZ (w_75 hw))) (w_74 hw) (w_2 hw) (w_76 hw) (by decide) (rmLa l Z a0 hw [] b56 T66.heap n0 _ F66_b56_tail (own_t1 (own_k3 q5)).1) e67 E66_b56 (by decide) (by decide) (by decide) (by decide) rfl pd__28_29I rfl rfl (Nat.le_of_eq rfl) ?_
    rintro _ T69 L69 X69 ⟨rfl, N69q, e69⟩
    have N69 := Fr.app N67 N69q
    show GoE p e below _ (T69.setTop (mkF m 116 #[.val (.int q1), .val (.int q2), .val (.int q3), .val (.int q4), .val (.int q5), .val (.int (3 : Int32)), .val (.int (q5 &&& (3 : Int32))), .val (.ref b56), .val (.ref b64)] [.int (lastV (nx1 (q5 &&& (3 : Int32))))]))
    refine g_iload X69 hx hby at_116 (pc' := 118) rfl rfl ?_
    refine g_icmp_ne X69 hx hby at_118 (by decide) (pc' := 154) (by decide) (pn := 121) rfl (fun z => absurd z (fun z => z (own_t1 (own_k3 q5)).2.2.2.2.2)) (fun hc118_70 => ?_)
    refine g_aload X69 hx hby at_121 (pc' := 123) rfl rfl rfl ?_
    refine g_get X69 hx hZ hown hby at_123 (pc' := 126) rfl (w_68 hw) e69 Fi66_count ?_
    intro T71 X71 e71
    refine g_iconst X71 hx hby at_126 (pc' := 127) rfl (z := (1 : Int32)) rfl ?_
    refine g_icmp_ne X71 hx hby at_127 (by decide) (pc' := 154) (by decide) (pn := 130) rfl (fun z => absurd z (fun z => z (by decide))) (fun hc127_72 => ?_)
    refine g_aload X71 hx hby at_130 (pc' := 132) rfl rfl rfl ?_
    refine g_get X71 hx hZ hown hby at_132 (pc' := 135) rfl (w_46 hw) e71 Fi66_code ?_
    intro T73 X73 e73
    refine g_iload X73 hx hby at_135 (pc' := 137) rfl rfl ?_
    refine g_icmp_ne X73 hx hby at_137 (by decide) (pc' := 154) (by decide) (pn := 140) rfl (fun z => absurd z (fun z => z (own_t1 (own_k3 q5)).2.2.2.2.1)) (fun hc137_74 => ?_)
    refine g_aload X73 hx hby at_140 (pc' := 142) rfl rfl rfl ?_
    refine g_get X73 hx hZ hown hby at_142 (pc' := 145) rfl (w_70 hw) e73 Fi66_times ?_
    intro T75 X75 e75
    refine g_lconst X75 hx hby at_145 (pc' := 146) rfl (z := (1 : Int64)) rfl ?_
    refine g_lcmp X75 hx hby at_146 (pc' := 147) rfl ?_
    refine g_ifL_ne X75 hx hby at_147 (by decide) (pc' := 154) (by decide) (pn := 150) rfl (fun z => absurd z (by decide)) (fun _ => ?_)
    refine g_iconst X75 hx hby at_150 (pc' := 151) rfl (z := (1 : Int32)) rfl ?_
    refine g_goto X75 hx hby at_151 (by decide) (pc' := 155) (by decide) ?_
    exact g_retN (Q := (fun v h L => v = some (.int 1) ∧ Fr n0 L)) (w := (1 : Int32)) X75 hx hby at_155 hret (by simp) (by first | decide | rfl) hlk (by decide) (by decide) ⟨rfl, N69⟩
set_option maxRecDepth 65536 in
set_option maxHeartbeats 40000000 in
theorem comes_1 {Post : Tables → Env → Array Value → State → Outcome → State → Prop} (hpost : ∀ tb e args s v u, (limb_1_1.after args s (.returned v) u = true ∧ limb_1_2.after args s (.returned v) u = true ∧ True) → FrameEnd s (.returned v) u (Jvm.fieldLocs frame_1_writes args s ++ Jvm.arrayLocs frame_1_arrays args s ++ Jvm.staticLocs frame_1_statics s) 16 256 → Post tb e args s (.returned v) u) :
    ArmFor flags0 classFile x code maxLocals ret World_1 tables_1 room_1 Calls_1 rest_1 Pre_1 Post := by
  intro l hfl _ _ p e ha hc hk s m args below hf hA hF happ hP
  obtain ⟨hcalls, hrest, hpre⟩ := hP
  obtain ⟨-, -, -, hnamed, -, -, -, hat⟩ := (Spec.applies_iff hf).mp happ
  obtain ⟨hg, hn⟩ := and_e (Cond.before_iff.mp (show (Jvm.Cond.and given_1 narrow_1).before args s = true from hpre))
  obtain ⟨h1, g0⟩ := and_e hg
  obtain ⟨a0, g1⟩ := and_e g0
  obtain ⟨a1, g2⟩ := and_e g1
  obtain ⟨a2, g3⟩ := and_e g2
  obtain ⟨a3, g4⟩ := and_e g3
  have a4 := g4
  obtain ⟨u0, u1, u2, u3, u4, rfl⟩ : ∃ u0 u1 u2 u3 u4 : Value, args = #[u0, u1, u2, u3, u4] := by
    have hs : args.size = 5 := by simpa [Cond.value, given_1] using h1
    obtain ⟨L⟩ := args
    match L, hs with
    | [u0, u1, u2, u3, u4], _ => exact ⟨u0, u1, u2, u3, u4, rfl⟩
  have hw := fun d (hd : d ∈ tables_1) => atoms_spec (ws := Jvm.Cond.code x code maxLocals ret :: tables_1) hat d (List.mem_cons_of_mem _ hd)
  have hfit : Fit s := fun {y c} hc i hi => by
    obtain ⟨ha, rfl⟩ := Array.getElem?_eq_some_iff.mp hc
    have q := List.all_eq_true.mp ((Array.all_eq_true_iff_forall_mem.mp hF) _ (Array.getElem_mem ha)) i (List.mem_range.mpr hi)
    simpa [Array.getElem?_eq_getElem hi] using q
  obtain ⟨i0, e0⟩ := is_v a0
  obtain rfl : u0 = (.int i0) := Option.some.inj e0
  obtain ⟨i1, e1⟩ := is_v a1
  obtain rfl : u1 = (.int i1) := Option.some.inj e1
  obtain ⟨i2, e2⟩ := is_v a2
  obtain rfl : u2 = (.int i2) := Option.some.inj e2
  obtain ⟨i3, e3⟩ := is_v a3
  obtain rfl : u3 = (.int i3) := Option.some.inj e3
  obtain ⟨i4, e4⟩ := is_v a4
  obtain rfl : u4 = (.int i4) := Option.some.inj e4
  obtain ⟨n1, hn⟩ := and_e hn
  obtain ⟨n2, hn⟩ := and_e hn
  obtain ⟨n3, hn⟩ := and_e hn
  obtain ⟨n4, hn⟩ := and_e hn
  obtain ⟨n5, n6⟩ := and_e hn
  obtain ⟨bF, ev⟩ := arr_v n1
  obtain ⟨cl, A⟩ := Arr.start ev n1
  obtain ⟨hl1, hl2⟩ := own_lenS ev A n2
  have S_F := Sta.start ev (Or.inr ⟨w_2 hw, w_37 hw⟩)
  have A_F : Arv s s.heap bF cl.cls .long 4 [.long 8358680908399640576, .long 8454757700450211157, .long 8550834492500781738, .long 8646911284551352319] (.long 0) := Arv.start hfit A hl1 hl2 (by decide) rfl ⟨own_elemL ev A.1 n3, own_elemL ev A.1 n5, own_elemL ev A.1 n6, own_elemL ev A.1 n4, trivial⟩
  obtain ⟨n, o, h1, h2, h3, _, L, rfl, ⟨rfl, N⟩, hq⟩ := rm0 l s _ hw tables_1 i0 i1 i2 i3 i4  s.heap s.heap.size (Nat.le_refl _) (Old.start s) bF cl.cls S_F A_F p e ha hc hk s m _ below hf ((Spec.applies_iff_loose hf).mp happ).1 ⟨rfl, State.Warmed39.refl s, rfl⟩ trivial
  refine ⟨n, _, h1, h2, h3, hpost _ _ _ _ _ _ ⟨Cond.after_iff.mpr rfl, Cond.after_iff.mpr (eq_i res_at (Term.int_eval (1)) rfl), trivial⟩ ⟨hq.1, hq.2.1, (hq.2.2.sift fun y hy => Or.inr (N y hy)).mono (by decide) (by decide)⟩⟩
theorem main_1_1 : Claimed_1_1 := comes_1 fun _ _ _ _ _ _ h hF => ⟨h.1, hF⟩
theorem main_1_2 : Claimed_1_2 := comes_1 fun _ _ _ _ _ _ h hF => ⟨h.2.1, hF⟩
end Jvm.Pilot.@@N@@
namespace Jvm.Pilot.@@N@@
open Jvm Jvm.ClassFile Sem Op Lib Jvm.Free Jvm.Stand Jvm.Pilot.@@N@@.Jvm.D
/-! MADE BY PROGRAM (witnessworld.py) out of the Statement's table words and the real class files: 12 classes; the members and pool entries that the words name. The judged class is class 2, her method 2. -/
namespace start1
open Jvm.ClassFile
def u (s : String) : CpInfo := .utf8 (stringToUtf16 s)
/-- a pool by its gaps: so many unusable entries, then the entry; so many at the end -/
def gap : Nat → List CpInfo → List CpInfo
  | 0, r => r
  | n + 1, r => .unusable :: gap n r
def poolList (es : List (Nat × CpInfo)) (last : Nat) : List CpInfo := es.foldr (fun e r => gap e.1 (e.2 :: r)) (gap last [])
def pool (es : List (Nat × CpInfo)) (last : Nat) : Array CpInfo := ⟨poolList es last⟩
def fileOf (pool : Array CpInfo) (this : Nat) (attrs : Array Attribute := #[]) (ms : Array MethodInfo := #[]) (fl : Nat := 33) (sup : Nat := 0) (ifs : Array Nat := #[]) (fds : Array FieldInfo := #[]) : ClassFile where
  minorVersion := 0
  majorVersion := 65
  constantPool := pool
  accessFlags := fl
  thisClass := this
  superClass := sup
  interfaces := ifs
  fields := fds
  methods := ms
  attributes := attrs
def plain (name : String) (sup : Option ClassId) : Class where
  name := name
  kind := .ordinary
  loader := none
  accessFlags := 33
  super := sup
  interfaces := #[]
  cf := none
  fields := #[]
  methods := #[]
  instanceTypes := #[]
  staticTypes := #[]
  resolved := #[]
  callSites := []
  init := .initialized
  statics := none
  mirror := none

def pool0 : Array CpInfo := pool [(5, u "<init>"), (0, u "()V"), (1, .class_ 10), (1, u "java/lang/Object")] 113

def k0c0 : Code := { maxStack := 0, maxLocals := 1, code := object_method_1_code, exceptionTable := #[], attributes := #[] }
def k0m0 : Method := { name := "<init>", desc := "()V", sig := { parameters := [], returnType := none }, accessFlags := 1, code := some k0c0 }
/-- java/lang/Object -/
def k0 : Class := { plain "java/lang/Object" none with
  accessFlags := 33
  interfaces := #[]
  cf := some (fileOf pool0 8 #[] #[{ accessFlags := 1, nameIndex := 5, descriptorIndex := 6, attributes := #[] }] 33 0 #[] #[])
  fields := #[]
  methods := #[k0m0]
  instanceTypes := #[]
  staticTypes := #[]
  resolved := Array.replicate 124 none
  statics := none }

def pool1 : Array CpInfo := pool [(1, .class_ 2), (0, u "com/example/folha/folha/builder/PackedCodes$Runs"), (0, .class_ 4), (0, u "java/lang/Object"), (0, u "run"), (0, u "(IJ)V"), (3, .class_ 11), (0, u "com/example/folha/folha/builder/PackedCodes")] 2

def k1m0 : Method := { name := "run", desc := "(IJ)V", sig := { parameters := [.int, .long], returnType := none }, accessFlags := 1025, code := none }
/-- com/example/folha/folha/builder/PackedCodes$Runs -/
def k1 : Class := { plain "com/example/folha/folha/builder/PackedCodes$Runs" (some 0) with
  accessFlags := 1536
  interfaces := #[]
  cf := some (fileOf pool1 1 #[.nestHost 10] #[{ accessFlags := 1025, nameIndex := 5, descriptorIndex := 6, attributes := #[] }] 1536 3 #[] #[])
  fields := #[]
  methods := #[k1m0]
  instanceTypes := #[]
  staticTypes := #[]
  resolved := Array.replicate 14 none
  statics := none }

def pool2 : Array CpInfo := pool [(1, .methodref 2 3), (0, .class_ 4), (0, .nameAndType 5 6), (0, u "java/lang/Object"), (0, u "<init>"), (0, u "()V"), (0, .fieldref 8 9), (0, .class_ 10), (0, .nameAndType 11 12), (0, u "com/example/folha/folha/builder/PackedCodesClearPinLaw"), (0, u "code"), (0, u "I"), (0, .fieldref 8 14), (0, .nameAndType 15 12), (0, u "count"), (0, .fieldref 8 17), (0, .nameAndType 18 19), (0, u "times"), (0, u "J"), (0, .class_ 21), (0, u "com/example/folha/folha/builder/PackedCodes"), (0, .methodref 20 3), (0, .methodref 20 24), (0, .nameAndType 25 26), (0, u "add"), (0, u "(I)V"), (0, .methodref 20 28), (0, .nameAndType 29 6), (0, u "clear"), (0, .methodref 20 31), (0, .nameAndType 32 33), (0, u "length"), (0, u "()J"), (0, .methodref 8 3), (0, .methodref 20 36), (0, .nameAndType 37 38), (0, u "forEachRun"), (0, u "(Lcom/example/folha/folha/builder/PackedCodes$Runs;)V"), (0, .methodref 20 40), (0, .nameAndType 41 42), (0, u "last"), (0, u "()I"), (0, .class_ 44), (0, u "com/example/folha/folha/builder/PackedCodes$Runs"), (2, u "run"), (0, u "(IJ)V"), (0, u "law"), (0, u "(IIIII)Z")] 5

def k2c0 : Code := { maxStack := 2, maxLocals := 1, code := method_1_code, exceptionTable := #[], attributes := #[] }
def k2m0 : Method := { name := "<init>", desc := "()V", sig := { parameters := [], returnType := none }, accessFlags := 1, code := some k2c0 }
def k2c1 : Code := { maxStack := 3, maxLocals := 4, code := method_2_code, exceptionTable := #[], attributes := #[] }
def k2m1 : Method := { name := "run", desc := "(IJ)V", sig := { parameters := [.int, .long], returnType := none }, accessFlags := 1, code := some k2c1 }
def k2c2 : Code := { maxStack := 4, maxLocals := 9, code := code, exceptionTable := #[], attributes := #[] }
def k2m2 : Method := { name := "law", desc := "(IIIII)Z", sig := { parameters := [.int, .int, .int, .int, .int], returnType := some .boolean }, accessFlags := 9, code := some k2c2 }
/-- com/example/folha/folha/builder/PackedCodesClearPinLaw -/
def k2 : Class := { plain "com/example/folha/folha/builder/PackedCodesClearPinLaw" (some 0) with
  accessFlags := 49
  interfaces := #[1]
  cf := some (fileOf pool2 8 #[] #[{ accessFlags := 1, nameIndex := 5, descriptorIndex := 6, attributes := #[] }, { accessFlags := 1, nameIndex := 47, descriptorIndex := 48, attributes := #[] }, { accessFlags := 9, nameIndex := 49, descriptorIndex := 50, attributes := #[] }] 49 2 #[43] #[{ accessFlags := 2, nameIndex := 15, descriptorIndex := 12, attributes := #[] }, { accessFlags := 2, nameIndex := 11, descriptorIndex := 12, attributes := #[] }, { accessFlags := 2, nameIndex := 18, descriptorIndex := 19, attributes := #[] }])
  fields := #[{ name := "count", type := .int, accessFlags := 2, slot := 0, constantValue := 0 }, { name := "code", type := .int, accessFlags := 2, slot := 1, constantValue := 0 }, { name := "times", type := .long, accessFlags := 2, slot := 2, constantValue := 0 }]
  methods := #[k2m0, k2m1, k2m2]
  instanceTypes := #[.int, .int, .long]
  staticTypes := #[]
  resolved := Array.replicate 56 none
  statics := none }

def pool3 : Array CpInfo := pool [(3, .class_ 4), (0, u "com/example/folha/folha/builder/PackedCodes"), (0, .methodref 6 7), (0, .class_ 8), (0, .nameAndType 9 10), (0, u "java/lang/Object"), (0, u "<init>"), (0, u "()V"), (0, .class_ 12), (0, u "[J"), (0, .fieldref 3 14), (0, .nameAndType 15 16), (0, u "chunks"), (0, u "[[J"), (0, .fieldref 3 18), (0, .nameAndType 19 20), (0, u "tail"), (0, u "J"), (3, u "(J)I"), (0, .methodref 3 26), (0, .nameAndType 27 24), (0, u "packedLength"), (0, .long 288230376151711744), (1, .fieldref 3 31), (0, .nameAndType 32 12), (0, u "FULL"), (0, .long 9223372036854775808), (1, .long 30), (5, .fieldref 3 42), (0, .nameAndType 43 20), (0, u "length"), (0, .long 2305843009213693951), (5, .fieldref 3 51), (0, .nameAndType 52 20), (0, u "stored"), (0, .methodref 3 54), (0, .nameAndType 55 56), (0, u "give"), (0, u "(JLcom/example/folha/folha/builder/PackedCodes$Runs;)V"), (10, .interfaceMethodref 68 69), (0, .class_ 70), (0, .nameAndType 71 72), (0, u "com/example/folha/folha/builder/PackedCodes$Runs"), (0, u "run"), (0, u "(IJ)V"), (6, u "REPEATED"), (1, u "CODE_SHIFT"), (0, u "I"), (1, u "TIMES"), (0, u "LENGTH_SHIFT"), (1, u "PACKED"), (1, u "CHUNK_BITS"), (1, u "CHUNK"), (1, u "FIRST"), (3, u "add"), (0, u "(I)V"), (1, u "last"), (0, u "()I"), (1, u "()J"), (0, u "forEachRun"), (0, u "(Lcom/example/folha/folha/builder/PackedCodes$Runs;)V"), (0, u "clear")] 6

def k3c0 : Code := { maxStack := 5, maxLocals := 1, code := prog_24_method_1_code, exceptionTable := #[], attributes := #[] }
def k3m0 : Method := { name := "<init>", desc := "()V", sig := { parameters := [], returnType := none }, accessFlags := 0, code := some k3c0 }
def k3c1 : Code := { maxStack := 8, maxLocals := 2, code := prog_24_method_2_code, exceptionTable := #[], attributes := #[] }
def k3m1 : Method := { name := "add", desc := "(I)V", sig := { parameters := [.int], returnType := none }, accessFlags := 0, code := some k3c1 }
def k3c2 : Code := { maxStack := 5, maxLocals := 1, code := prog_24_method_3_code, exceptionTable := #[], attributes := #[] }
def k3m2 : Method := { name := "last", desc := "()I", sig := { parameters := [], returnType := some .int }, accessFlags := 0, code := some k3c2 }
def k3c3 : Code := { maxStack := 2, maxLocals := 1, code := prog_24_method_5_code, exceptionTable := #[], attributes := #[] }
def k3m3 : Method := { name := "length", desc := "()J", sig := { parameters := [], returnType := some .long }, accessFlags := 0, code := some k3c3 }
def k3c4 : Code := { maxStack := 4, maxLocals := 4, code := prog_24_method_6_code, exceptionTable := #[], attributes := #[] }
def k3m4 : Method := { name := "forEachRun", desc := "(Lcom/example/folha/folha/builder/PackedCodes$Runs;)V", sig := { parameters := [(.object "com/example/folha/folha/builder/PackedCodes$Runs")], returnType := none }, accessFlags := 0, code := some k3c4 }
def k3c5 : Code := { maxStack := 5, maxLocals := 1, code := prog_24_method_7_code, exceptionTable := #[], attributes := #[] }
def k3m5 : Method := { name := "clear", desc := "()V", sig := { parameters := [], returnType := none }, accessFlags := 0, code := some k3c5 }
def k3c6 : Code := { maxStack := 6, maxLocals := 4, code := prog_24_method_9_code, exceptionTable := #[], attributes := #[] }
def k3m6 : Method := { name := "give", desc := "(JLcom/example/folha/folha/builder/PackedCodes$Runs;)V", sig := { parameters := [.long, (.object "com/example/folha/folha/builder/PackedCodes$Runs")], returnType := none }, accessFlags := 10, code := some k3c6 }
def k3c7 : Code := { maxStack := 3, maxLocals := 2, code := prog_24_method_11_code, exceptionTable := #[], attributes := #[] }
def k3m7 : Method := { name := "packedLength", desc := "(J)I", sig := { parameters := [.long], returnType := some .int }, accessFlags := 10, code := some k3c7 }
/-- com/example/folha/folha/builder/PackedCodes -/
def k3 : Class := { plain "com/example/folha/folha/builder/PackedCodes" (some 0) with
  accessFlags := 32
  interfaces := #[]
  cf := some (fileOf pool3 3 #[.nestMembers #[68]] #[{ accessFlags := 0, nameIndex := 9, descriptorIndex := 10, attributes := #[] }, { accessFlags := 0, nameIndex := 97, descriptorIndex := 98, attributes := #[] }, { accessFlags := 0, nameIndex := 100, descriptorIndex := 101, attributes := #[] }, { accessFlags := 0, nameIndex := 43, descriptorIndex := 103, attributes := #[] }, { accessFlags := 0, nameIndex := 104, descriptorIndex := 105, attributes := #[] }, { accessFlags := 0, nameIndex := 106, descriptorIndex := 10, attributes := #[] }, { accessFlags := 10, nameIndex := 55, descriptorIndex := 56, attributes := #[] }, { accessFlags := 10, nameIndex := 27, descriptorIndex := 24, attributes := #[] }] 32 6 #[] #[{ accessFlags := 26, nameIndex := 79, descriptorIndex := 20, attributes := #[] }, { accessFlags := 26, nameIndex := 81, descriptorIndex := 82, attributes := #[] }, { accessFlags := 26, nameIndex := 84, descriptorIndex := 20, attributes := #[] }, { accessFlags := 26, nameIndex := 85, descriptorIndex := 82, attributes := #[] }, { accessFlags := 26, nameIndex := 87, descriptorIndex := 82, attributes := #[] }, { accessFlags := 26, nameIndex := 32, descriptorIndex := 12, attributes := #[] }, { accessFlags := 26, nameIndex := 89, descriptorIndex := 82, attributes := #[] }, { accessFlags := 26, nameIndex := 91, descriptorIndex := 82, attributes := #[] }, { accessFlags := 26, nameIndex := 93, descriptorIndex := 82, attributes := #[] }, { accessFlags := 2, nameIndex := 15, descriptorIndex := 16, attributes := #[] }, { accessFlags := 2, nameIndex := 52, descriptorIndex := 20, attributes := #[] }, { accessFlags := 2, nameIndex := 19, descriptorIndex := 20, attributes := #[] }, { accessFlags := 2, nameIndex := 43, descriptorIndex := 20, attributes := #[] }])
  fields := #[{ name := "REPEATED", type := .long, accessFlags := 26, slot := 0, constantValue := 0 }, { name := "CODE_SHIFT", type := .int, accessFlags := 26, slot := 1, constantValue := 0 }, { name := "TIMES", type := .long, accessFlags := 26, slot := 2, constantValue := 0 }, { name := "LENGTH_SHIFT", type := .int, accessFlags := 26, slot := 3, constantValue := 0 }, { name := "PACKED", type := .int, accessFlags := 26, slot := 4, constantValue := 0 }, { name := "FULL", type := (.array .long), accessFlags := 26, slot := 5, constantValue := 0 }, { name := "CHUNK_BITS", type := .int, accessFlags := 26, slot := 6, constantValue := 0 }, { name := "CHUNK", type := .int, accessFlags := 26, slot := 7, constantValue := 0 }, { name := "FIRST", type := .int, accessFlags := 26, slot := 8, constantValue := 0 }, { name := "chunks", type := (.array (.array .long)), accessFlags := 2, slot := 0, constantValue := 0 }, { name := "stored", type := .long, accessFlags := 2, slot := 1, constantValue := 0 }, { name := "tail", type := .long, accessFlags := 2, slot := 2, constantValue := 0 }, { name := "length", type := .long, accessFlags := 2, slot := 3, constantValue := 0 }]
  methods := #[k3m0, k3m1, k3m2, k3m3, k3m4, k3m5, k3m6, k3m7]
  instanceTypes := #[(.array (.array .long)), .long, .long, .long]
  staticTypes := #[.long, .int, .long, .int, .int, (.array .long), .int, .int, .int]
  resolved := Array.replicate 113 none
  statics := some 0 }

def pool4 : Array CpInfo := pool [(1, u "java/lang/Cloneable"), (0, .class_ 1), (0, u "java/lang/Object"), (0, .class_ 3)] 3

/-- java/lang/Cloneable -/
def k4 : Class := { plain "java/lang/Cloneable" (some 0) with
  accessFlags := 1537
  interfaces := #[]
  cf := some (fileOf pool4 2 #[] #[] 1537 4 #[] #[])
  fields := #[]
  methods := #[]
  instanceTypes := #[]
  staticTypes := #[]
  resolved := Array.replicate 8 none
  statics := none }

def pool5 : Array CpInfo := pool [(1, u "java/io/Serializable"), (0, .class_ 1), (0, u "java/lang/Object"), (0, .class_ 3)] 3

/-- java/io/Serializable -/
def k5 : Class := { plain "java/io/Serializable" (some 0) with
  accessFlags := 1537
  interfaces := #[]
  cf := some (fileOf pool5 2 #[] #[] 1537 4 #[] #[])
  fields := #[]
  methods := #[]
  instanceTypes := #[]
  staticTypes := #[]
  resolved := Array.replicate 8 none
  statics := none }

/-- the primitive byte -/
def k6 : Class := { plain "byte" none with kind := .primitive 'B', accessFlags := 0x411 }
/-- [B -/
def k7 : Class := { plain "[B" (some 0) with kind := .array 6 .byte, interfaces := #[4, 5], accessFlags := 1041 }

/-- the primitive int -/
def k8 : Class := { plain "int" none with kind := .primitive 'I', accessFlags := 0x411 }
/-- [I -/
def k9 : Class := { plain "[I" (some 0) with kind := .array 8 .int, interfaces := #[4, 5], accessFlags := 1041 }

/-- the primitive long -/
def k10 : Class := { plain "long" none with kind := .primitive 'J', accessFlags := 0x411 }
/-- [J -/
def k11 : Class := { plain "[J" (some 0) with kind := .array 10 .long, interfaces := #[4, 5], accessFlags := 1041 }

/-- [[J -/
def k12 : Class := { plain "[[J" (some 0) with kind := .array 11 (.array .long), interfaces := #[4, 5], accessFlags := 1041 }

def heap : Heap := #[{ cls := 3, slots := #[.long 0, .int 0, .long 0, .int 0, .int 0, .ref 1, .int 0, .int 0, .int 0], vm := .statics 3 },
  { cls := 11, slots := #[.long 8358680908399640576, .long 8454757700450211157, .long 8550834492500781738, .long 8646911284551352319], vm := .none }]
def classes : Array Class := #[k0, k1, k2, k3, k4, k5, k6, k7, k8, k9, k10, k11, k12]
def interned : List (Array UInt16 × Addr) := []
def slotsUsed : Nat := 13
def theMethod : MethodId := ⟨2, 2⟩
def args0 : Array Value := #[.int 5, .int 7, .int 1, .int 2, .int 3]
def aboutOver (below : List Frame) : State where
  vm := { classes := classes, interned := interned.toArray }
  heap := heap
  slotsUsed := slotsUsed
  threads := #[{ frames := .invoking theMethod args0 :: below }]
def below0 : List Frame := [.native { method := ⟨0, 0⟩, args := #[] }]
def about1 : State := aboutOver below0
def p0 : Program := .bare "" "" ""
def e0 : Env := launch0.env 0 0 0
theorem w_frames : about1.frames = Frame.invoking theMethod args0 :: below0 := rfl
set_option maxRecDepth 65536 in
theorem w_args : argsFit about1.vm theMethod args0 = true := by decide +kernel
set_option maxRecDepth 65536 in
theorem w_heap : heapFits about1 = true := by decide +kernel
set_option maxRecDepth 65536 in
theorem w_runnable : about1.curStatus? = some .runnable := by decide +kernel
set_option maxRecDepth 65536 in
theorem w_alone : about1.alone = true := by decide +kernel
set_option maxRecDepth 65536 in
theorem w_named : about1.methodNamed? x = some theMethod := by decide +kernel
set_option maxRecDepth 65536 in
theorem w_hears : about1.hears theMethod below0 = true := by decide +kernel
set_option maxRecDepth 65536 in
theorem w_ripe : about1.ripe theMethod args0 below0 = true := by decide +kernel
theorem w_running : about1.status = .running := rfl
set_option maxRecDepth 65536 in
theorem w_room : about1.hasRoom e0.platform room_1 = true :=
  launch0.hasRoom_least _ room_1 (by decide +kernel) (by decide +kernel) (by decide +kernel) (by decide +kernel) (by decide +kernel) (by decide +kernel)
theorem allAtoms_all (ts : List Jvm.Cond) (a : Array Jvm.Value) (st : Jvm.State) : (allAtoms ts).before a st = ts.all (fun c => c.before a st) := by
  induction ts with
  | nil => rfl
  | cons c t ih =>
    show (Jvm.Cond.and c (allAtoms t)).before a st = _
    rw [Jvm.Cond.before_and, ih, List.all_cons]
def words1 : List Jvm.Cond := Jvm.Cond.code x code maxLocals ret :: tables_1
/-- a 'code' word, met by the world's own term for the bytes: nothing is compared byte by byte -/
theorem code_word {y : MethodName} {bytes : ByteArray} {mx : Nat} {rt : Option FieldType} {a : Array Value} {s : State} {m : MethodId} {meth : Method} {c : Code} (h1 : s.methodNamed? y = some m) (h2 : s.vm.method? m = some meth) (h3 : meth.code = some c) (h4 : c.code = bytes)
    (h5 : (c.maxLocals == mx && c.exceptionTable.isEmpty && decide (c.maxStack ≤ mostOperands) && decide (meth.sig.returnType = rt) && !meth.locks && decide (parseMethodDescriptor y.desc = some meth.sig)) = true) : (Jvm.Cond.code y bytes mx rt).before a s = true := by
  simp only [Bool.and_eq_true, beq_iff_eq, Bool.not_eq_true', decide_eq_true_eq] at h5
  obtain ⟨⟨⟨⟨⟨g1, g2⟩, g3⟩, g4⟩, g5⟩, g6⟩ := h5
  simp [Cond.before, Cond.holds, Cond.value, h1, h2, h3, h4, g1, g2, g3, g4, g5, g6]
def isCode : Jvm.Cond → Bool
  | .code _ _ _ _ => true
  | _ => false
theorem all_split {L : List Jvm.Cond} {P : Jvm.Cond → Bool} (h1 : L.all (fun c => isCode c || P c) = true) (h2 : ∀ c ∈ L.filter isCode, P c = true) : L.all P = true := by
  refine List.all_eq_true.mpr fun c hc => ?_
  have h := List.all_eq_true.mp h1 c hc
  rcases Bool.eq_false_or_eq_true (isCode c) with hi | hi
  · exact h2 c (List.mem_filter.mpr ⟨hc, hi⟩)
  · simpa [hi] using h
set_option maxRecDepth 65536 in
theorem w_c0 : (Jvm.Cond.code x code maxLocals ret).before args0 about1 = true := code_word (m := ⟨2, 2⟩) (meth := k2m2) (c := k2c2) (by decide +kernel) rfl rfl rfl (by decide +kernel)
set_option maxRecDepth 65536 in
theorem w_c1 : (Jvm.Cond.code ({ cls := "com/example/folha/folha/builder/PackedCodes", name := "<init>", desc := "()V" } : Jvm.MethodName) prog_24_method_1_code (1 : Nat) (Option.none : Option Jvm.ClassFile.FieldType)).before args0 about1 = true := code_word (m := ⟨3, 0⟩) (meth := k3m0) (c := k3c0) (by decide +kernel) rfl rfl rfl (by decide +kernel)
set_option maxRecDepth 65536 in
theorem w_c2 : (Jvm.Cond.code ({ cls := "java/lang/Object", name := "<init>", desc := "()V" } : Jvm.MethodName) object_method_1_code (1 : Nat) (Option.none : Option Jvm.ClassFile.FieldType)).before args0 about1 = true := code_word (m := ⟨0, 0⟩) (meth := k0m0) (c := k0c0) (by decide +kernel) rfl rfl rfl (by decide +kernel)
set_option maxRecDepth 65536 in
theorem w_c3 : (Jvm.Cond.code ({ cls := "com/example/folha/folha/builder/PackedCodes", name := "clear", desc := "()V" } : Jvm.MethodName) prog_24_method_7_code (1 : Nat) (Option.none : Option Jvm.ClassFile.FieldType)).before args0 about1 = true := code_word (m := ⟨3, 5⟩) (meth := k3m5) (c := k3c5) (by decide +kernel) rfl rfl rfl (by decide +kernel)
set_option maxRecDepth 65536 in
theorem w_c4 : (Jvm.Cond.code ({ cls := "com/example/folha/folha/builder/PackedCodes", name := "length", desc := "()J" } : Jvm.MethodName) prog_24_method_5_code (1 : Nat) (Option.some Jvm.ClassFile.FieldType.long)).before args0 about1 = true := code_word (m := ⟨3, 3⟩) (meth := k3m3) (c := k3c3) (by decide +kernel) rfl rfl rfl (by decide +kernel)
set_option maxRecDepth 65536 in
theorem w_c5 : (Jvm.Cond.code ({ cls := "com/example/folha/folha/builder/PackedCodes", name := "add", desc := "(I)V" } : Jvm.MethodName) prog_24_method_2_code (2 : Nat) (Option.none : Option Jvm.ClassFile.FieldType)).before args0 about1 = true := code_word (m := ⟨3, 1⟩) (meth := k3m1) (c := k3c1) (by decide +kernel) rfl rfl rfl (by decide +kernel)
set_option maxRecDepth 65536 in
theorem w_c6 : (Jvm.Cond.code ({ cls := "com/example/folha/folha/builder/PackedCodesClearPinLaw", name := "<init>", desc := "()V" } : Jvm.MethodName) method_1_code (1 : Nat) (Option.none : Option Jvm.ClassFile.FieldType)).before args0 about1 = true := code_word (m := ⟨2, 0⟩) (meth := k2m0) (c := k2c0) (by decide +kernel) rfl rfl rfl (by decide +kernel)
set_option maxRecDepth 65536 in
theorem w_c7 : (Jvm.Cond.code ({ cls := "com/example/folha/folha/builder/PackedCodes", name := "forEachRun", desc := "(Lcom/example/folha/folha/builder/PackedCodes$Runs;)V" } : Jvm.MethodName) prog_24_method_6_code (4 : Nat) (Option.none : Option Jvm.ClassFile.FieldType)).before args0 about1 = true := code_word (m := ⟨3, 4⟩) (meth := k3m4) (c := k3c4) (by decide +kernel) rfl rfl rfl (by decide +kernel)
set_option maxRecDepth 65536 in
theorem w_c8 : (Jvm.Cond.code ({ cls := "com/example/folha/folha/builder/PackedCodes", name := "give", desc := "(JLcom/example/folha/folha/builder/PackedCodes$Runs;)V" } : Jvm.MethodName) prog_24_method_9_code (4 : Nat) (Option.none : Option Jvm.ClassFile.FieldType)).before args0 about1 = true := code_word (m := ⟨3, 6⟩) (meth := k3m6) (c := k3c6) (by decide +kernel) rfl rfl rfl (by decide +kernel)
set_option maxRecDepth 65536 in
theorem w_c9 : (Jvm.Cond.code ({ cls := "com/example/folha/folha/builder/PackedCodes", name := "packedLength", desc := "(J)I" } : Jvm.MethodName) prog_24_method_11_code (2 : Nat) (Option.some Jvm.ClassFile.FieldType.int)).before args0 about1 = true := code_word (m := ⟨3, 7⟩) (meth := k3m7) (c := k3c7) (by decide +kernel) rfl rfl rfl (by decide +kernel)
set_option maxRecDepth 65536 in
theorem w_c10 : (Jvm.Cond.code ({ cls := "com/example/folha/folha/builder/PackedCodesClearPinLaw", name := "run", desc := "(IJ)V" } : Jvm.MethodName) method_2_code (4 : Nat) (Option.none : Option Jvm.ClassFile.FieldType)).before args0 about1 = true := code_word (m := ⟨2, 1⟩) (meth := k2m1) (c := k2c1) (by decide +kernel) rfl rfl rfl (by decide +kernel)
set_option maxRecDepth 65536 in
theorem w_c11 : (Jvm.Cond.code ({ cls := "com/example/folha/folha/builder/PackedCodes", name := "last", desc := "()I" } : Jvm.MethodName) prog_24_method_3_code (1 : Nat) (Option.some Jvm.ClassFile.FieldType.int)).before args0 about1 = true := code_word (m := ⟨3, 2⟩) (meth := k3m2) (c := k3c2) (by decide +kernel) rfl rfl rfl (by decide +kernel)
def codes1 : List Jvm.Cond := [Jvm.Cond.code x code maxLocals ret, Jvm.Cond.code ({ cls := "com/example/folha/folha/builder/PackedCodes", name := "<init>", desc := "()V" } : Jvm.MethodName) prog_24_method_1_code (1 : Nat) (Option.none : Option Jvm.ClassFile.FieldType), Jvm.Cond.code ({ cls := "java/lang/Object", name := "<init>", desc := "()V" } : Jvm.MethodName) object_method_1_code (1 : Nat) (Option.none : Option Jvm.ClassFile.FieldType), Jvm.Cond.code ({ cls := "com/example/folha/folha/builder/PackedCodes", name := "clear", desc := "()V" } : Jvm.MethodName) prog_24_method_7_code (1 : Nat) (Option.none : Option Jvm.ClassFile.FieldType), Jvm.Cond.code ({ cls := "com/example/folha/folha/builder/PackedCodes", name := "length", desc := "()J" } : Jvm.MethodName) prog_24_method_5_code (1 : Nat) (Option.some Jvm.ClassFile.FieldType.long), Jvm.Cond.code ({ cls := "com/example/folha/folha/builder/PackedCodes", name := "add", desc := "(I)V" } : Jvm.MethodName) prog_24_method_2_code (2 : Nat) (Option.none : Option Jvm.ClassFile.FieldType), Jvm.Cond.code ({ cls := "com/example/folha/folha/builder/PackedCodesClearPinLaw", name := "<init>", desc := "()V" } : Jvm.MethodName) method_1_code (1 : Nat) (Option.none : Option Jvm.ClassFile.FieldType), Jvm.Cond.code ({ cls := "com/example/folha/folha/builder/PackedCodes", name := "forEachRun", desc := "(Lcom/example/folha/folha/builder/PackedCodes$Runs;)V" } : Jvm.MethodName) prog_24_method_6_code (4 : Nat) (Option.none : Option Jvm.ClassFile.FieldType), Jvm.Cond.code ({ cls := "com/example/folha/folha/builder/PackedCodes", name := "give", desc := "(JLcom/example/folha/folha/builder/PackedCodes$Runs;)V" } : Jvm.MethodName) prog_24_method_9_code (4 : Nat) (Option.none : Option Jvm.ClassFile.FieldType), Jvm.Cond.code ({ cls := "com/example/folha/folha/builder/PackedCodes", name := "packedLength", desc := "(J)I" } : Jvm.MethodName) prog_24_method_11_code (2 : Nat) (Option.some Jvm.ClassFile.FieldType.int), Jvm.Cond.code ({ cls := "com/example/folha/folha/builder/PackedCodesClearPinLaw", name := "run", desc := "(IJ)V" } : Jvm.MethodName) method_2_code (4 : Nat) (Option.none : Option Jvm.ClassFile.FieldType), Jvm.Cond.code ({ cls := "com/example/folha/folha/builder/PackedCodes", name := "last", desc := "()I" } : Jvm.MethodName) prog_24_method_3_code (1 : Nat) (Option.some Jvm.ClassFile.FieldType.int)]
set_option maxRecDepth 65536 in
theorem codes_eq : words1.filter isCode = codes1 := rfl
theorem w_codes : ∀ c ∈ words1.filter isCode, c.before args0 about1 = true := by
  rw [codes_eq]
  intro c hc
  simp only [codes1, List.mem_cons, List.not_mem_nil, or_false] at hc
  rcases hc with rfl | rfl | rfl | rfl | rfl | rfl | rfl | rfl | rfl | rfl | rfl | rfl
  · exact w_c0
  · exact w_c1
  · exact w_c2
  · exact w_c3
  · exact w_c4
  · exact w_c5
  · exact w_c6
  · exact w_c7
  · exact w_c8
  · exact w_c9
  · exact w_c10
  · exact w_c11
set_option maxRecDepth 65536 in
theorem w_t1 : (words1.take 24).all (fun c => isCode c || c.before args0 about1) = true := by decide +kernel
set_option maxRecDepth 65536 in
theorem w_t2 : ((words1.drop 24).take 24).all (fun c => isCode c || c.before args0 about1) = true := by decide +kernel
set_option maxRecDepth 65536 in
theorem w_t3 : (((words1.drop 24).drop 24).take 24).all (fun c => isCode c || c.before args0 about1) = true := by decide +kernel
set_option maxRecDepth 65536 in
theorem w_t4 : (((words1.drop 24).drop 24).drop 24).all (fun c => isCode c || c.before args0 about1) = true := by decide +kernel
theorem w_tables : (allAtoms (Jvm.Cond.code x code maxLocals ret :: tables_1)).before args0 about1 = true := by
  rw [allAtoms_all]
  show words1.all (fun c => c.before args0 about1) = true
  refine all_split ?_ w_codes
  rw [← List.take_append_drop 24 words1, List.all_append, w_t1, ← List.take_append_drop 24 (words1.drop 24), List.all_append, w_t2, ← List.take_append_drop 24 ((words1.drop 24).drop 24), List.all_append, w_t3, w_t4]
  rfl
set_option maxRecDepth 65536 in
theorem w_case : (Jvm.Cond.and given_1 narrow_1).before args0 about1 = true := by decide +kernel
theorem w_applies : (headSpec (Jvm.Cond.code x code maxLocals ret :: tables_1) room_1).applies x e0.platform about1 = true :=
  (Spec.applies_iff w_frames).mpr ⟨w_running, w_runnable, w_alone, w_named, w_hears, w_ripe, w_room, w_tables⟩
theorem atStart : AtStart classFile x code maxLocals ret World_1 tables_1 room_1 Calls_1 rest_1 Pre_1 launch0 p0 e0 about1 theMethod args0 below0 :=
  ⟨lists_1, trivial, launch0.admits_env _ _ _, launch0.least_env, fairChoices_fair.cas, fairChoices_fair.clock, w_frames, w_args, w_heap, w_applies, trivial, trivial, w_case⟩
end start1
theorem witness_1 : WitnessClaimed_1 := ⟨start1.p0, start1.e0, start1.about1, start1.theMethod, start1.args0, start1.below0, start1.atStart⟩
end Jvm.Pilot.@@N@@
