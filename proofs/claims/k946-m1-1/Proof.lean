import JvmDerived
import JvmDerived.Pilot.@@N@@Statement
import JvmDerived.Pilot.@@N@@Code
set_option linter.unusedVariables false
set_option linter.unusedSimpArgs false
namespace Jvm.RoadKit
open Sem ClassFile Op Lib Jvm.Stand Jvm.Free Jvm.LawKit
section New
variable {p : Program} {l : Launch} {e : Env} {R : Room} {s : State} {m : MethodId} {args : Array Value} {below : List Frame} {meth : Method} {c : Code} {T : State} {locs : List Loc} {cells slots : Nat}
theorem retI (X : Stand p l e R s m args below meth c T locs cells slots) (hx : p.tables.exec = Jvm.exec) {pc : Nat} {Ls : Array Slot} {z : Int32} {rest : List Value} (hret : meth.sig.returnType = some .int) (hd : decode c.code pc = .ok (.ireturn, 1)) {fs : List Frame}
    (hl : ∀ (f : JFrame) (acts : List Action), f.method = m → f.locked = none → f.entered = [] → (doReturn e (T.setTop f) acts (some (.int z))).1 = T.setFrames fs) : Steps p.tables e below (T.setTop (mkF m pc Ls (.int z :: rest))) (T.setFrames fs) := by
  have hm' : T.vm.method? m = some meth := X.method'
  have hn : narrow .int (.int z) = .int z := rfl
  show Steps p.tables e below (T.setTop { method := m, pc := pc, locals := Ls, stack := _ :: rest, locked := none }) _
  jvm_step X.here [X.here.top, hx, hd, hm', hret, hn]
  first | (intro acts; rw [hl _ acts rfl rfl rfl]) | rw [hl _ _ rfl rfl rfl]
  exact Steps.refl _
end New
end Jvm.RoadKit
namespace Jvm.Pilot.@@N@@
open Jvm Jvm.ClassFile Sem Op Lib Jvm.Free Jvm.Stand Jvm.LawKit Jvm.RoadKit Bundle Jvm.Pilot.@@N@@.Jvm.D
open Jvm.Free.XT (ushr ushrL cmpL)
section GoKit
open Jvm.Free.XT (ushr ushrL cmpL)
variable {p : Program} {l : Launch} {e : Env} {R : Room} {s : State} {m : MethodId} {args : Array Value} {below : List Frame} {meth : Method} {c : Code} {T : State} {locs : List Loc} {cells slots : Nat} {Q : Option Value → Heap → List Loc → Prop} {rc rs : Nat} {Fi : Outcome → State → Prop} {bytes : ByteArray} {pc pc' : Nat} {Ls : Array Slot} {rest : List Value}
def GoE (p : Program) (e : Env) (below : List Frame) (Fi : Outcome → State → Prop) (S : State) : Prop :=
  ∃ t o, Steps p.tables e below S t ∧ t.status = .running ∧ Ended t below o ∧ Fi o t
abbrev Go (p : Program) (e : Env) (below : List Frame) (s : State) (rc rs : Nat) (Q : Option Value → Heap → List Loc → Prop) (S : State) : Prop :=
  GoE p e below (fun o t => ∃ v L, o = .returned v ∧ Q v t.heap L ∧ FrameEnd s o t L rc rs) S
theorem GoE.pull {a b : State} (h : GoE p e below Fi b) (f : ∀ t, Steps p.tables e below b t → Steps p.tables e below a t) : GoE p e below Fi a := by
  obtain ⟨t, o, h1, h2⟩ := h
  exact ⟨t, o, f t h1, h2⟩
theorem GoE.imp {Fi' : Outcome → State → Prop} {a : State} (h : GoE p e below Fi a) (f : ∀ o t, Fi o t → Fi' o t) : GoE p e below Fi' a := by
  obtain ⟨t, o, h1, h2, h3, h4⟩ := h
  exact ⟨t, o, h1, h2, h3, f _ _ h4⟩
def Ctr (l : Launch) (Z : State) (y : MethodName) (bytes : ByteArray) (ml : Nat) (ret : Option FieldType) (ws : List Jvm.Cond) (rm : Room) (as : Array Value) (h0 : Heap) (Q : Option Value → Heap → List Loc → Prop) : Prop :=
  MetFree l y (head1 (Jvm.Cond.code y bytes ml ret :: ws) rm) (fun a U => a = as ∧ Z.Warmed39 U.vm ∧ U.heap = h0) (fun _ _ _ _ _ => True) (fun _ U o U' => ∃ v L, o = .returned v ∧ Q v U'.heap L ∧ FrameEnd U o U' L rm.cells rm.slots)
theorem Ctr.enter {Z : State} {y : MethodName} {ml : Nat} {ret : Option FieldType} {ws : List Jvm.Cond} {rm : Room} {as : Array Value} {h0 : Heap} (hpl : plainFor y = true) (hef : ∀ m, entryFrame m as ml = mkF m 0 Ls [])
    (body : ∀ (p : Program) (e : Env) (s : State) (m : MethodId) (below : List Frame) (meth : Method) (c : Code) (T : State), p.tables.exec = Jvm.exec → c.code = bytes → c.maxLocals = ml → s.vm.findClass y.cls = some m.cls → meth.name = y.name → meth.sig.returnType = ret → meth.locks = false → Z.Warmed39 s.vm → s.heap = h0 →
      Stand p l e rm s m as below meth c T [] 0 0 → T.heap = h0 → Go p e below s rm.cells rm.slots Q (T.setTop (mkF m 0 Ls []))) : Ctr l Z y bytes ml ret ws rm as h0 Q := by
  refine MetFree.of_bodySF hpl hisR ?_
  intro p e s m args below meth c s₁ Bd hml0 hP hK
  obtain ⟨rfl, hZ, hh⟩ := hP
  have h := body p e s m below meth c s₁ Bd.exec Bd.bytes hml0 (findClass_of_methodNamed Bd.named) (name_of_methodNamed Bd.named Bd.method).1 Bd.returns (BodyLoose.notSynchronized Bd) hZ hh (Stand.of_body Bd) (by rw [← hh, Bd.state]; rfl)
  exact h.pull fun t k => castTop (hef m) k
theorem Ctr.imp {Z : State} {y : MethodName} {ml : Nat} {ret : Option FieldType} {ws : List Jvm.Cond} {rm : Room} {as : Array Value} {h0 : Heap} {Q' : Option Value → Heap → List Loc → Prop} (C : Ctr l Z y bytes ml ret ws rm as h0 Q) (f : ∀ v h L, Q v h L → Q' v h L) : Ctr l Z y bytes ml ret ws rm as h0 Q' := by
  intro p e ha hc hk s m args below hf happ hP hK
  obtain ⟨n, o, h1, h2, h3, v, L, h4, h5, h6⟩ := C p e ha hc hk s m args below hf happ hP hK
  exact ⟨n, o, h1, h2, h3, v, L, h4, f _ _ _ h5, h6⟩
theorem g_iload (X : Stand p l e R s m args below meth c T locs cells slots) (hx : p.tables.exec = Jvm.exec) {k : Nat} {v : Int32} (hby : c.code = bytes) (hd : decode bytes pc = .ok (.iload k, 2)) (hp : pc + 2 = pc') (hl : Ls[k]? = some (.val (.int v)))
    (H : GoE p e below Fi (T.setTop (mkF m pc' Ls (.int v :: rest)))) : GoE p e below Fi (T.setTop (mkF m pc Ls rest)) := by
  subst hp; exact H.pull fun t k => Jvm.Free.XS.iload X.here hx rfl (hb hby hd) hl k
theorem g_iloadN (X : Stand p l e R s m args below meth c T locs cells slots) (hx : p.tables.exec = Jvm.exec) {k : Fin 4} {v : Int32} (hby : c.code = bytes) (hd : decode bytes pc = .ok (.iload_n k, 1)) (hp : pc + 1 = pc') (hl : Ls[k.val]? = some (.val (.int v)))
    (H : GoE p e below Fi (T.setTop (mkF m pc' Ls (.int v :: rest)))) : GoE p e below Fi (T.setTop (mkF m pc Ls rest)) := by
  subst hp; exact H.pull fun t k => Jvm.Free.XS.iloadN X.here hx rfl (hb hby hd) hl k
theorem g_istore (X : Stand p l e R s m args below meth c T locs cells slots) (hx : p.tables.exec = Jvm.exec) {k : Nat} {x : Int32} {l' : Array Slot} (hby : c.code = bytes) (hd : decode bytes pc = .ok (.istore k, 2)) (hp : pc + 2 = pc') (hl : storeLocals Ls k (.int x) = some l')
    (H : GoE p e below Fi (T.setTop (mkF m pc' l' rest))) : GoE p e below Fi (T.setTop (mkF m pc Ls (.int x :: rest))) := by
  subst hp; exact H.pull fun t k => Jvm.Free.XS.istore X.here hx rfl (hb hby hd) rfl hl k
theorem g_istoreN (X : Stand p l e R s m args below meth c T locs cells slots) (hx : p.tables.exec = Jvm.exec) {k : Fin 4} {x : Int32} {l' : Array Slot} (hby : c.code = bytes) (hd : decode bytes pc = .ok (.istore_n k, 1)) (hp : pc + 1 = pc') (hl : storeLocals Ls k.val (.int x) = some l')
    (H : GoE p e below Fi (T.setTop (mkF m pc' l' rest))) : GoE p e below Fi (T.setTop (mkF m pc Ls (.int x :: rest))) := by
  subst hp; exact H.pull fun t k => Jvm.Free.XS.istoreN X.here hx rfl (hb hby hd) rfl hl k
theorem g_lload (X : Stand p l e R s m args below meth c T locs cells slots) (hx : p.tables.exec = Jvm.exec) {k : Nat} {v : Int64} (hby : c.code = bytes) (hd : decode bytes pc = .ok (.lload k, 2)) (hp : pc + 2 = pc') (hl : Ls[k]? = some (.val (.long v)))
    (H : GoE p e below Fi (T.setTop (mkF m pc' Ls (.long v :: rest)))) : GoE p e below Fi (T.setTop (mkF m pc Ls rest)) := by
  subst hp; exact H.pull fun t k => Jvm.Free.XT.lload X.here hx rfl (hb hby hd) hl k
theorem g_lloadN (X : Stand p l e R s m args below meth c T locs cells slots) (hx : p.tables.exec = Jvm.exec) {k : Fin 4} {v : Int64} (hby : c.code = bytes) (hd : decode bytes pc = .ok (.lload_n k, 1)) (hp : pc + 1 = pc') (hl : Ls[k.val]? = some (.val (.long v)))
    (H : GoE p e below Fi (T.setTop (mkF m pc' Ls (.long v :: rest)))) : GoE p e below Fi (T.setTop (mkF m pc Ls rest)) := by
  subst hp; exact H.pull fun t k => Jvm.Free.XT.lloadN X.here hx rfl (hb hby hd) hl k
theorem g_lstore (X : Stand p l e R s m args below meth c T locs cells slots) (hx : p.tables.exec = Jvm.exec) {k : Nat} {x : Int64} {l' : Array Slot} (hby : c.code = bytes) (hd : decode bytes pc = .ok (.lstore k, 2)) (hp : pc + 2 = pc') (hl : storeLocals Ls k (.long x) = some l')
    (H : GoE p e below Fi (T.setTop (mkF m pc' l' rest))) : GoE p e below Fi (T.setTop (mkF m pc Ls (.long x :: rest))) := by
  subst hp; exact H.pull fun t k => Jvm.Free.XT.lstore X.here hx rfl (hb hby hd) rfl hl k
theorem g_lstoreN (X : Stand p l e R s m args below meth c T locs cells slots) (hx : p.tables.exec = Jvm.exec) {k : Fin 4} {x : Int64} {l' : Array Slot} (hby : c.code = bytes) (hd : decode bytes pc = .ok (.lstore_n k, 1)) (hp : pc + 1 = pc') (hl : storeLocals Ls k.val (.long x) = some l')
    (H : GoE p e below Fi (T.setTop (mkF m pc' l' rest))) : GoE p e below Fi (T.setTop (mkF m pc Ls (.long x :: rest))) := by
  subst hp; exact H.pull fun t k => Jvm.Free.XT.lstoreN X.here hx rfl (hb hby hd) rfl hl k
theorem g_dload (X : Stand p l e R s m args below meth c T locs cells slots) (hx : p.tables.exec = Jvm.exec) {k : Nat} {v : UInt64} (hby : c.code = bytes) (hd : decode bytes pc = .ok (.dload k, 2)) (hp : pc + 2 = pc') (hl : Ls[k]? = some (.val (.double v)))
    (H : GoE p e below Fi (T.setTop (mkF m pc' Ls (.double v :: rest)))) : GoE p e below Fi (T.setTop (mkF m pc Ls rest)) := by
  subst hp; exact H.pull fun t k => Jvm.Free.XS.dload X.here hx rfl (hb hby hd) hl k
theorem g_dloadN (X : Stand p l e R s m args below meth c T locs cells slots) (hx : p.tables.exec = Jvm.exec) {k : Fin 4} {v : UInt64} (hby : c.code = bytes) (hd : decode bytes pc = .ok (.dload_n k, 1)) (hp : pc + 1 = pc') (hl : Ls[k.val]? = some (.val (.double v)))
    (H : GoE p e below Fi (T.setTop (mkF m pc' Ls (.double v :: rest)))) : GoE p e below Fi (T.setTop (mkF m pc Ls rest)) := by
  subst hp; exact H.pull fun t k => Jvm.Free.XS.dloadN X.here hx rfl (hb hby hd) hl k
theorem g_dstore (X : Stand p l e R s m args below meth c T locs cells slots) (hx : p.tables.exec = Jvm.exec) {k : Nat} {x : UInt64} {l' : Array Slot} (hby : c.code = bytes) (hd : decode bytes pc = .ok (.dstore k, 2)) (hp : pc + 2 = pc') (hl : storeLocals Ls k (.double x) = some l')
    (H : GoE p e below Fi (T.setTop (mkF m pc' l' rest))) : GoE p e below Fi (T.setTop (mkF m pc Ls (.double x :: rest))) := by
  subst hp; exact H.pull fun t k => Jvm.Free.XS.dstore X.here hx rfl (hb hby hd) rfl hl k
theorem g_dstoreN (X : Stand p l e R s m args below meth c T locs cells slots) (hx : p.tables.exec = Jvm.exec) {k : Fin 4} {x : UInt64} {l' : Array Slot} (hby : c.code = bytes) (hd : decode bytes pc = .ok (.dstore_n k, 1)) (hp : pc + 1 = pc') (hl : storeLocals Ls k.val (.double x) = some l')
    (H : GoE p e below Fi (T.setTop (mkF m pc' l' rest))) : GoE p e below Fi (T.setTop (mkF m pc Ls (.double x :: rest))) := by
  subst hp; exact H.pull fun t k => Jvm.Free.XS.dstoreN X.here hx rfl (hb hby hd) rfl hl k
theorem g_aload (X : Stand p l e R s m args below meth c T locs cells slots) (hx : p.tables.exec = Jvm.exec) {k : Nat} {v : Value} (hby : c.code = bytes) (hd : decode bytes pc = .ok (.aload k, 2)) (hp : pc + 2 = pc') (hl : Ls[k]? = some (.val v)) (hv : v.isRef = true)
    (H : GoE p e below Fi (T.setTop (mkF m pc' Ls (v :: rest)))) : GoE p e below Fi (T.setTop (mkF m pc Ls rest)) := by
  subst hp; exact H.pull fun t k => Jvm.Free.XS.aload X.here hx rfl (hb hby hd) hl hv k
theorem g_aloadN (X : Stand p l e R s m args below meth c T locs cells slots) (hx : p.tables.exec = Jvm.exec) {k : Fin 4} {v : Value} (hby : c.code = bytes) (hd : decode bytes pc = .ok (.aload_n k, 1)) (hp : pc + 1 = pc') (hl : Ls[k.val]? = some (.val v)) (hv : v.isRef = true)
    (H : GoE p e below Fi (T.setTop (mkF m pc' Ls (v :: rest)))) : GoE p e below Fi (T.setTop (mkF m pc Ls rest)) := by
  subst hp; exact H.pull fun t k => Jvm.Free.XS.aloadN X.here hx rfl (hb hby hd) hl hv k
theorem g_astore (X : Stand p l e R s m args below meth c T locs cells slots) (hx : p.tables.exec = Jvm.exec) {k : Nat} {x : Value} {l' : Array Slot} (hby : c.code = bytes) (hd : decode bytes pc = .ok (.astore k, 2)) (hp : pc + 2 = pc') (hv : x.isRef = true) (hl : storeLocals Ls k x = some l')
    (H : GoE p e below Fi (T.setTop (mkF m pc' l' rest))) : GoE p e below Fi (T.setTop (mkF m pc Ls (x :: rest))) := by
  subst hp; exact H.pull fun t k => Jvm.Free.XS.astore X.here hx rfl (hb hby hd) rfl hv hl k
theorem g_astoreN (X : Stand p l e R s m args below meth c T locs cells slots) (hx : p.tables.exec = Jvm.exec) {k : Fin 4} {x : Value} {l' : Array Slot} (hby : c.code = bytes) (hd : decode bytes pc = .ok (.astore_n k, 1)) (hp : pc + 1 = pc') (hv : x.isRef = true) (hl : storeLocals Ls k.val x = some l')
    (H : GoE p e below Fi (T.setTop (mkF m pc' l' rest))) : GoE p e below Fi (T.setTop (mkF m pc Ls (x :: rest))) := by
  subst hp; exact H.pull fun t k => Jvm.Free.XS.astoreN X.here hx rfl (hb hby hd) rfl hv hl k
theorem g_iconst (X : Stand p l e R s m args below meth c T locs cells slots) (hx : p.tables.exec = Jvm.exec) {i : Int} {z : Int32} (hby : c.code = bytes) (hd : decode bytes pc = .ok (.iconst i, 1)) (hp : pc + 1 = pc') (hz : z = Int32.ofInt i)
    (H : GoE p e below Fi (T.setTop (mkF m pc' Ls (.int z :: rest)))) : GoE p e below Fi (T.setTop (mkF m pc Ls rest)) := by
  subst hp; exact H.pull fun t k => Jvm.Free.XS.iconst X.here hx rfl (hb hby hd) (hz ▸ k)
theorem g_bipush (X : Stand p l e R s m args below meth c T locs cells slots) (hx : p.tables.exec = Jvm.exec) {i : Int} {z : Int32} (hby : c.code = bytes) (hd : decode bytes pc = .ok (.bipush i, 2)) (hp : pc + 2 = pc') (hz : z = (Int8.ofInt i).toInt32)
    (H : GoE p e below Fi (T.setTop (mkF m pc' Ls (.int z :: rest)))) : GoE p e below Fi (T.setTop (mkF m pc Ls rest)) := by
  subst hp; exact H.pull fun t k => Jvm.Free.XS.bipush X.here hx rfl (hb hby hd) (hz ▸ k)
theorem g_sipush (X : Stand p l e R s m args below meth c T locs cells slots) (hx : p.tables.exec = Jvm.exec) {i : Int} {z : Int32} (hby : c.code = bytes) (hd : decode bytes pc = .ok (.sipush i, 3)) (hp : pc + 3 = pc') (hz : z = (Int16.ofInt i).toInt32)
    (H : GoE p e below Fi (T.setTop (mkF m pc' Ls (.int z :: rest)))) : GoE p e below Fi (T.setTop (mkF m pc Ls rest)) := by
  subst hp; exact H.pull fun t k => Jvm.Free.XS.sipush X.here hx rfl (hb hby hd) (hz ▸ k)
theorem g_lconst (X : Stand p l e R s m args below meth c T locs cells slots) (hx : p.tables.exec = Jvm.exec) {i : Fin 2} {z : Int64} (hby : c.code = bytes) (hd : decode bytes pc = .ok (.lconst i, 1)) (hp : pc + 1 = pc') (hz : z = Int64.ofNat i)
    (H : GoE p e below Fi (T.setTop (mkF m pc' Ls (.long z :: rest)))) : GoE p e below Fi (T.setTop (mkF m pc Ls rest)) := by
  subst hp; exact H.pull fun t k => Jvm.Free.XT.lconst X.here hx rfl (hb hby hd) (hz ▸ k)
theorem g_aconstNull (X : Stand p l e R s m args below meth c T locs cells slots) (hx : p.tables.exec = Jvm.exec)  (hby : c.code = bytes) (hd : decode bytes pc = .ok (.aconst_null, 1)) (hp : pc + 1 = pc') 
    (H : GoE p e below Fi (T.setTop (mkF m pc' Ls (.null :: rest)))) : GoE p e below Fi (T.setTop (mkF m pc Ls rest)) := by
  subst hp; exact H.pull fun t k => Jvm.Free.XS.aconstNull X.here hx rfl (hb hby hd) k
theorem g_ldcI (X : Stand p l e R s m args below meth c T locs cells slots) (hx : p.tables.exec = Jvm.exec) {Z : State} {a0 : Array Value} (hZ : Z.Warmed39 s.vm) {own : String} (hown : s.vm.findClass own = some m.cls) {index : Nat} {v : Int32} (hby : c.code = bytes) (hd : decode bytes pc = .ok (.ldc index, 2)) (hp : pc + 2 = pc') (w : (Jvm.Cond.constant own index v).before a0 Z = true)
    (H : GoE p e below Fi (T.setTop (mkF m pc' Ls (.int v :: rest)))) : GoE p e below Fi (T.setTop (mkF m pc Ls rest)) := by
  subst hp; exact H.pull fun t k => X.ldcInt hx hown (mvT hZ w) (g := mkF m pc Ls rest) rfl (hb hby hd) _ k
theorem g_ldcL (X : Stand p l e R s m args below meth c T locs cells slots) (hx : p.tables.exec = Jvm.exec) {Z : State} {a0 : Array Value} (hZ : Z.Warmed39 s.vm) {own : String} (hown : s.vm.findClass own = some m.cls) {index : Nat} {v : Int64} (hby : c.code = bytes) (hd : decode bytes pc = .ok (.ldc2_w index, 3)) (hp : pc + 3 = pc') (w : (Jvm.Cond.constantLong own index v).before a0 Z = true)
    (H : GoE p e below Fi (T.setTop (mkF m pc' Ls (.long v :: rest)))) : GoE p e below Fi (T.setTop (mkF m pc Ls rest)) := by
  subst hp; exact H.pull fun t k => X.ldc2Long hx hown (mvT hZ w) (g := mkF m pc Ls rest) rfl (hb hby hd) _ k
theorem g_ldcD (X : Stand p l e R s m args below meth c T locs cells slots) (hx : p.tables.exec = Jvm.exec) {Z : State} {a0 : Array Value} (hZ : Z.Warmed39 s.vm) {own : String} (hown : s.vm.findClass own = some m.cls) {index : Nat} {v : UInt64} (hby : c.code = bytes) (hd : decode bytes pc = .ok (.ldc2_w index, 3)) (hp : pc + 3 = pc') (w : (Jvm.Cond.constantDouble own index v).before a0 Z = true)
    (H : GoE p e below Fi (T.setTop (mkF m pc' Ls (.double v :: rest)))) : GoE p e below Fi (T.setTop (mkF m pc Ls rest)) := by
  subst hp; exact H.pull fun t k => X.ldc2DoubleC hx hown (mvT hZ w) (g := mkF m pc Ls rest) rfl (hb hby hd) _ k
theorem g_iadd (X : Stand p l e R s m args below meth c T locs cells slots) (hx : p.tables.exec = Jvm.exec) {x y : Int32} (hby : c.code = bytes) (hd : decode bytes pc = .ok (.iadd, 1)) (hp : pc + 1 = pc') 
    (H : GoE p e below Fi (T.setTop (mkF m pc' Ls (.int (x + y) :: rest)))) : GoE p e below Fi (T.setTop (mkF m pc Ls (.int y :: .int x :: rest))) := by
  subst hp; exact H.pull fun t k => Jvm.Free.XS.iadd X.here hx rfl (hb hby hd) rfl k
theorem g_isub (X : Stand p l e R s m args below meth c T locs cells slots) (hx : p.tables.exec = Jvm.exec) {x y : Int32} (hby : c.code = bytes) (hd : decode bytes pc = .ok (.isub, 1)) (hp : pc + 1 = pc') 
    (H : GoE p e below Fi (T.setTop (mkF m pc' Ls (.int (x - y) :: rest)))) : GoE p e below Fi (T.setTop (mkF m pc Ls (.int y :: .int x :: rest))) := by
  subst hp; exact H.pull fun t k => Jvm.Free.XS.isub X.here hx rfl (hb hby hd) rfl k
theorem g_imul (X : Stand p l e R s m args below meth c T locs cells slots) (hx : p.tables.exec = Jvm.exec) {x y : Int32} (hby : c.code = bytes) (hd : decode bytes pc = .ok (.imul, 1)) (hp : pc + 1 = pc') 
    (H : GoE p e below Fi (T.setTop (mkF m pc' Ls (.int (x * y) :: rest)))) : GoE p e below Fi (T.setTop (mkF m pc Ls (.int y :: .int x :: rest))) := by
  subst hp; exact H.pull fun t k => Jvm.Free.XS.imul X.here hx rfl (hb hby hd) rfl k
theorem g_iand (X : Stand p l e R s m args below meth c T locs cells slots) (hx : p.tables.exec = Jvm.exec) {x y : Int32} (hby : c.code = bytes) (hd : decode bytes pc = .ok (.iand, 1)) (hp : pc + 1 = pc') 
    (H : GoE p e below Fi (T.setTop (mkF m pc' Ls (.int (x &&& y) :: rest)))) : GoE p e below Fi (T.setTop (mkF m pc Ls (.int y :: .int x :: rest))) := by
  subst hp; exact H.pull fun t k => Jvm.Free.XS.iand X.here hx rfl (hb hby hd) rfl k
theorem g_ior (X : Stand p l e R s m args below meth c T locs cells slots) (hx : p.tables.exec = Jvm.exec) {x y : Int32} (hby : c.code = bytes) (hd : decode bytes pc = .ok (.ior, 1)) (hp : pc + 1 = pc') 
    (H : GoE p e below Fi (T.setTop (mkF m pc' Ls (.int (x ||| y) :: rest)))) : GoE p e below Fi (T.setTop (mkF m pc Ls (.int y :: .int x :: rest))) := by
  subst hp; exact H.pull fun t k => Jvm.Free.XT.ior X.here hx rfl (hb hby hd) rfl k
theorem g_ixor (X : Stand p l e R s m args below meth c T locs cells slots) (hx : p.tables.exec = Jvm.exec) {x y : Int32} (hby : c.code = bytes) (hd : decode bytes pc = .ok (.ixor, 1)) (hp : pc + 1 = pc') 
    (H : GoE p e below Fi (T.setTop (mkF m pc' Ls (.int (x ^^^ y) :: rest)))) : GoE p e below Fi (T.setTop (mkF m pc Ls (.int y :: .int x :: rest))) := by
  subst hp; exact H.pull fun t k => Jvm.Free.XT.ixor X.here hx rfl (hb hby hd) rfl k
theorem g_ishl (X : Stand p l e R s m args below meth c T locs cells slots) (hx : p.tables.exec = Jvm.exec) {x y : Int32} (hby : c.code = bytes) (hd : decode bytes pc = .ok (.ishl, 1)) (hp : pc + 1 = pc') 
    (H : GoE p e below Fi (T.setTop (mkF m pc' Ls (.int (x <<< (y &&& 31)) :: rest)))) : GoE p e below Fi (T.setTop (mkF m pc Ls (.int y :: .int x :: rest))) := by
  subst hp; exact H.pull fun t k => Jvm.Free.XT.ishl X.here hx rfl (hb hby hd) rfl k
theorem g_ishr (X : Stand p l e R s m args below meth c T locs cells slots) (hx : p.tables.exec = Jvm.exec) {x y : Int32} (hby : c.code = bytes) (hd : decode bytes pc = .ok (.ishr, 1)) (hp : pc + 1 = pc') 
    (H : GoE p e below Fi (T.setTop (mkF m pc' Ls (.int (x >>> (y &&& 31)) :: rest)))) : GoE p e below Fi (T.setTop (mkF m pc Ls (.int y :: .int x :: rest))) := by
  subst hp; exact H.pull fun t k => Jvm.Free.XT.ishr X.here hx rfl (hb hby hd) rfl k
theorem g_iushr (X : Stand p l e R s m args below meth c T locs cells slots) (hx : p.tables.exec = Jvm.exec) {x y : Int32} (hby : c.code = bytes) (hd : decode bytes pc = .ok (.iushr, 1)) (hp : pc + 1 = pc') 
    (H : GoE p e below Fi (T.setTop (mkF m pc' Ls (.int (ushr x y) :: rest)))) : GoE p e below Fi (T.setTop (mkF m pc Ls (.int y :: .int x :: rest))) := by
  subst hp; exact H.pull fun t k => Jvm.Free.XT.iushr X.here hx rfl (hb hby hd) rfl k
theorem g_idiv (X : Stand p l e R s m args below meth c T locs cells slots) (hx : p.tables.exec = Jvm.exec) {x y : Int32} (hby : c.code = bytes) (hd : decode bytes pc = .ok (.idiv, 1)) (hp : pc + 1 = pc') (hy : y ≠ 0)
    (H : GoE p e below Fi (T.setTop (mkF m pc' Ls (.int (x / y) :: rest)))) : GoE p e below Fi (T.setTop (mkF m pc Ls (.int y :: .int x :: rest))) := by
  subst hp; exact H.pull fun t k => Jvm.Free.XS.idiv X.here hx rfl (hb hby hd) rfl hy k
theorem g_irem (X : Stand p l e R s m args below meth c T locs cells slots) (hx : p.tables.exec = Jvm.exec) {x y : Int32} (hby : c.code = bytes) (hd : decode bytes pc = .ok (.irem, 1)) (hp : pc + 1 = pc') (hy : y ≠ 0)
    (H : GoE p e below Fi (T.setTop (mkF m pc' Ls (.int (x - (x / y) * y) :: rest)))) : GoE p e below Fi (T.setTop (mkF m pc Ls (.int y :: .int x :: rest))) := by
  subst hp; exact H.pull fun t k => Jvm.Free.XS.irem X.here hx rfl (hb hby hd) rfl hy k
theorem g_ineg (X : Stand p l e R s m args below meth c T locs cells slots) (hx : p.tables.exec = Jvm.exec) {x : Int32} (hby : c.code = bytes) (hd : decode bytes pc = .ok (.ineg, 1)) (hp : pc + 1 = pc') 
    (H : GoE p e below Fi (T.setTop (mkF m pc' Ls (.int (-x) :: rest)))) : GoE p e below Fi (T.setTop (mkF m pc Ls (.int x :: rest))) := by
  subst hp; exact H.pull fun t k => Jvm.Free.XS.ineg X.here hx rfl (hb hby hd) rfl k
theorem g_ladd (X : Stand p l e R s m args below meth c T locs cells slots) (hx : p.tables.exec = Jvm.exec) {x y : Int64} (hby : c.code = bytes) (hd : decode bytes pc = .ok (.ladd, 1)) (hp : pc + 1 = pc') 
    (H : GoE p e below Fi (T.setTop (mkF m pc' Ls (.long (x + y) :: rest)))) : GoE p e below Fi (T.setTop (mkF m pc Ls (.long y :: .long x :: rest))) := by
  subst hp; exact H.pull fun t k => Jvm.Free.XT.ladd X.here hx rfl (hb hby hd) rfl k
theorem g_lsub (X : Stand p l e R s m args below meth c T locs cells slots) (hx : p.tables.exec = Jvm.exec) {x y : Int64} (hby : c.code = bytes) (hd : decode bytes pc = .ok (.lsub, 1)) (hp : pc + 1 = pc') 
    (H : GoE p e below Fi (T.setTop (mkF m pc' Ls (.long (x - y) :: rest)))) : GoE p e below Fi (T.setTop (mkF m pc Ls (.long y :: .long x :: rest))) := by
  subst hp; exact H.pull fun t k => Jvm.Free.XT.lsub X.here hx rfl (hb hby hd) rfl k
theorem g_lmul (X : Stand p l e R s m args below meth c T locs cells slots) (hx : p.tables.exec = Jvm.exec) {x y : Int64} (hby : c.code = bytes) (hd : decode bytes pc = .ok (.lmul, 1)) (hp : pc + 1 = pc') 
    (H : GoE p e below Fi (T.setTop (mkF m pc' Ls (.long (x * y) :: rest)))) : GoE p e below Fi (T.setTop (mkF m pc Ls (.long y :: .long x :: rest))) := by
  subst hp; exact H.pull fun t k => Jvm.Free.XT.lmul X.here hx rfl (hb hby hd) rfl k
theorem g_land (X : Stand p l e R s m args below meth c T locs cells slots) (hx : p.tables.exec = Jvm.exec) {x y : Int64} (hby : c.code = bytes) (hd : decode bytes pc = .ok (.land, 1)) (hp : pc + 1 = pc') 
    (H : GoE p e below Fi (T.setTop (mkF m pc' Ls (.long (x &&& y) :: rest)))) : GoE p e below Fi (T.setTop (mkF m pc Ls (.long y :: .long x :: rest))) := by
  subst hp; exact H.pull fun t k => Jvm.Free.XT.land X.here hx rfl (hb hby hd) rfl k
theorem g_lor (X : Stand p l e R s m args below meth c T locs cells slots) (hx : p.tables.exec = Jvm.exec) {x y : Int64} (hby : c.code = bytes) (hd : decode bytes pc = .ok (.lor, 1)) (hp : pc + 1 = pc') 
    (H : GoE p e below Fi (T.setTop (mkF m pc' Ls (.long (x ||| y) :: rest)))) : GoE p e below Fi (T.setTop (mkF m pc Ls (.long y :: .long x :: rest))) := by
  subst hp; exact H.pull fun t k => Jvm.Free.XT.lor X.here hx rfl (hb hby hd) rfl k
theorem g_lxor (X : Stand p l e R s m args below meth c T locs cells slots) (hx : p.tables.exec = Jvm.exec) {x y : Int64} (hby : c.code = bytes) (hd : decode bytes pc = .ok (.lxor, 1)) (hp : pc + 1 = pc') 
    (H : GoE p e below Fi (T.setTop (mkF m pc' Ls (.long (x ^^^ y) :: rest)))) : GoE p e below Fi (T.setTop (mkF m pc Ls (.long y :: .long x :: rest))) := by
  subst hp; exact H.pull fun t k => Jvm.Free.XT.lxor X.here hx rfl (hb hby hd) rfl k
theorem g_ldiv (X : Stand p l e R s m args below meth c T locs cells slots) (hx : p.tables.exec = Jvm.exec) {x y : Int64} (hby : c.code = bytes) (hd : decode bytes pc = .ok (.ldiv, 1)) (hp : pc + 1 = pc') (hy : y ≠ 0)
    (H : GoE p e below Fi (T.setTop (mkF m pc' Ls (.long (x / y) :: rest)))) : GoE p e below Fi (T.setTop (mkF m pc Ls (.long y :: .long x :: rest))) := by
  subst hp; exact H.pull fun t k => Jvm.Free.XT.ldiv X.here hx rfl (hb hby hd) rfl hy k
theorem g_lrem (X : Stand p l e R s m args below meth c T locs cells slots) (hx : p.tables.exec = Jvm.exec) {x y : Int64} (hby : c.code = bytes) (hd : decode bytes pc = .ok (.lrem, 1)) (hp : pc + 1 = pc') (hy : y ≠ 0)
    (H : GoE p e below Fi (T.setTop (mkF m pc' Ls (.long (x - (x / y) * y) :: rest)))) : GoE p e below Fi (T.setTop (mkF m pc Ls (.long y :: .long x :: rest))) := by
  subst hp; exact H.pull fun t k => Jvm.Free.XT.lrem X.here hx rfl (hb hby hd) rfl hy k
theorem g_lneg (X : Stand p l e R s m args below meth c T locs cells slots) (hx : p.tables.exec = Jvm.exec) {x : Int64} (hby : c.code = bytes) (hd : decode bytes pc = .ok (.lneg, 1)) (hp : pc + 1 = pc') 
    (H : GoE p e below Fi (T.setTop (mkF m pc' Ls (.long (-x) :: rest)))) : GoE p e below Fi (T.setTop (mkF m pc Ls (.long x :: rest))) := by
  subst hp; exact H.pull fun t k => Jvm.Free.XT.lneg X.here hx rfl (hb hby hd) rfl k
theorem g_lshl (X : Stand p l e R s m args below meth c T locs cells slots) (hx : p.tables.exec = Jvm.exec) {x : Int64} {y : Int32} (hby : c.code = bytes) (hd : decode bytes pc = .ok (.lshl, 1)) (hp : pc + 1 = pc') 
    (H : GoE p e below Fi (T.setTop (mkF m pc' Ls (.long (x <<< (y.toInt64 &&& 63)) :: rest)))) : GoE p e below Fi (T.setTop (mkF m pc Ls (.int y :: .long x :: rest))) := by
  subst hp; exact H.pull fun t k => Jvm.Free.XT.lshl X.here hx rfl (hb hby hd) rfl k
theorem g_lshr (X : Stand p l e R s m args below meth c T locs cells slots) (hx : p.tables.exec = Jvm.exec) {x : Int64} {y : Int32} (hby : c.code = bytes) (hd : decode bytes pc = .ok (.lshr, 1)) (hp : pc + 1 = pc') 
    (H : GoE p e below Fi (T.setTop (mkF m pc' Ls (.long (x >>> (y.toInt64 &&& 63)) :: rest)))) : GoE p e below Fi (T.setTop (mkF m pc Ls (.int y :: .long x :: rest))) := by
  subst hp; exact H.pull fun t k => Jvm.Free.XT.lshr X.here hx rfl (hb hby hd) rfl k
theorem g_lushr (X : Stand p l e R s m args below meth c T locs cells slots) (hx : p.tables.exec = Jvm.exec) {x : Int64} {y : Int32} (hby : c.code = bytes) (hd : decode bytes pc = .ok (.lushr, 1)) (hp : pc + 1 = pc') 
    (H : GoE p e below Fi (T.setTop (mkF m pc' Ls (.long (ushrL x y) :: rest)))) : GoE p e below Fi (T.setTop (mkF m pc Ls (.int y :: .long x :: rest))) := by
  subst hp; exact H.pull fun t k => Jvm.Free.XT.lushr X.here hx rfl (hb hby hd) rfl k
theorem g_i2l (X : Stand p l e R s m args below meth c T locs cells slots) (hx : p.tables.exec = Jvm.exec) {x : Int32} (hby : c.code = bytes) (hd : decode bytes pc = .ok (.i2l, 1)) (hp : pc + 1 = pc') 
    (H : GoE p e below Fi (T.setTop (mkF m pc' Ls (.long x.toInt64 :: rest)))) : GoE p e below Fi (T.setTop (mkF m pc Ls (.int x :: rest))) := by
  subst hp; exact H.pull fun t k => Jvm.Free.XT.i2l X.here hx rfl (hb hby hd) rfl k
theorem g_l2i (X : Stand p l e R s m args below meth c T locs cells slots) (hx : p.tables.exec = Jvm.exec) {x : Int64} (hby : c.code = bytes) (hd : decode bytes pc = .ok (.l2i, 1)) (hp : pc + 1 = pc') 
    (H : GoE p e below Fi (T.setTop (mkF m pc' Ls (.int x.toInt32 :: rest)))) : GoE p e below Fi (T.setTop (mkF m pc Ls (.long x :: rest))) := by
  subst hp; exact H.pull fun t k => Jvm.Free.XT.l2i X.here hx rfl (hb hby hd) rfl k
theorem g_i2b (X : Stand p l e R s m args below meth c T locs cells slots) (hx : p.tables.exec = Jvm.exec) {x : Int32} (hby : c.code = bytes) (hd : decode bytes pc = .ok (.i2b, 1)) (hp : pc + 1 = pc') 
    (H : GoE p e below Fi (T.setTop (mkF m pc' Ls (.int x.toInt8.toInt32 :: rest)))) : GoE p e below Fi (T.setTop (mkF m pc Ls (.int x :: rest))) := by
  subst hp; exact H.pull fun t k => Jvm.Free.XT.i2b X.here hx rfl (hb hby hd) rfl k
theorem g_i2c (X : Stand p l e R s m args below meth c T locs cells slots) (hx : p.tables.exec = Jvm.exec) {x : Int32} (hby : c.code = bytes) (hd : decode bytes pc = .ok (.i2c, 1)) (hp : pc + 1 = pc') 
    (H : GoE p e below Fi (T.setTop (mkF m pc' Ls (.int x.toUInt32.toUInt16.toUInt32.toInt32 :: rest)))) : GoE p e below Fi (T.setTop (mkF m pc Ls (.int x :: rest))) := by
  subst hp; exact H.pull fun t k => Jvm.Free.XT.i2c X.here hx rfl (hb hby hd) rfl k
theorem g_i2s (X : Stand p l e R s m args below meth c T locs cells slots) (hx : p.tables.exec = Jvm.exec) {x : Int32} (hby : c.code = bytes) (hd : decode bytes pc = .ok (.i2s, 1)) (hp : pc + 1 = pc') 
    (H : GoE p e below Fi (T.setTop (mkF m pc' Ls (.int x.toInt16.toInt32 :: rest)))) : GoE p e below Fi (T.setTop (mkF m pc Ls (.int x :: rest))) := by
  subst hp; exact H.pull fun t k => Jvm.Free.XT.i2s X.here hx rfl (hb hby hd) rfl k
theorem g_i2d (X : Stand p l e R s m args below meth c T locs cells slots) (hx : p.tables.exec = Jvm.exec) {x : Int32} (hby : c.code = bytes) (hd : decode bytes pc = .ok (.i2d, 1)) (hp : pc + 1 = pc') 
    (H : GoE p e below Fi (T.setTop (mkF m pc' Ls (.double (FP.l2d x.toInt64) :: rest)))) : GoE p e below Fi (T.setTop (mkF m pc Ls (.int x :: rest))) := by
  subst hp; exact H.pull fun t k => Jvm.Free.XS.i2dS X.here hx rfl (hb hby hd) rfl (i2d_w x) k
theorem g_l2d (X : Stand p l e R s m args below meth c T locs cells slots) (hx : p.tables.exec = Jvm.exec) {x : Int64} (hby : c.code = bytes) (hd : decode bytes pc = .ok (.l2d, 1)) (hp : pc + 1 = pc') 
    (H : GoE p e below Fi (T.setTop (mkF m pc' Ls (.double (FP.l2d x) :: rest)))) : GoE p e below Fi (T.setTop (mkF m pc Ls (.long x :: rest))) := by
  subst hp; exact H.pull fun t k => Jvm.Free.XS.l2dS X.here hx rfl (hb hby hd) rfl rfl k
theorem g_dcmp (X : Stand p l e R s m args below meth c T locs cells slots) (hx : p.tables.exec = Jvm.exec) {o : CmpOp} {x y : UInt64} {v : Int32} (hby : c.code = bytes) (hd : decode bytes pc = .ok (.dcmp o, 1)) (hp : pc + 1 = pc') (hv : cmpValue (FP.dcmp x y) o = v)
    (H : GoE p e below Fi (T.setTop (mkF m pc' Ls (.int v :: rest)))) : GoE p e below Fi (T.setTop (mkF m pc Ls (.double y :: .double x :: rest))) := by
  subst hp; exact H.pull fun t k => Jvm.Free.XS.dcmpS X.here hx rfl (hb hby hd) rfl hv k
theorem g_lcmp (X : Stand p l e R s m args below meth c T locs cells slots) (hx : p.tables.exec = Jvm.exec) {x y : Int64} (hby : c.code = bytes) (hd : decode bytes pc = .ok (.lcmp, 1)) (hp : pc + 1 = pc') 
    (H : GoE p e below Fi (T.setTop (mkF m pc' Ls (.int (cmpL x y) :: rest)))) : GoE p e below Fi (T.setTop (mkF m pc Ls (.long y :: .long x :: rest))) := by
  subst hp; exact H.pull fun t k => Jvm.Free.XT.lcmp X.here hx rfl (hb hby hd) rfl k
theorem g_dup (X : Stand p l e R s m args below meth c T locs cells slots) (hx : p.tables.exec = Jvm.exec) {x : Value} (hby : c.code = bytes) (hd : decode bytes pc = .ok (.dup, 1)) (hp : pc + 1 = pc') (hc : x.category = 1)
    (H : GoE p e below Fi (T.setTop (mkF m pc' Ls (x :: x :: rest)))) : GoE p e below Fi (T.setTop (mkF m pc Ls (x :: rest))) := by
  subst hp; exact H.pull fun t k => Jvm.Free.XS.dup X.here hx rfl (hb hby hd) rfl hc k
theorem g_pop (X : Stand p l e R s m args below meth c T locs cells slots) (hx : p.tables.exec = Jvm.exec) {x : Value} (hby : c.code = bytes) (hd : decode bytes pc = .ok (.pop, 1)) (hp : pc + 1 = pc') (hc : x.category = 1)
    (H : GoE p e below Fi (T.setTop (mkF m pc' Ls rest))) : GoE p e below Fi (T.setTop (mkF m pc Ls (x :: rest))) := by
  subst hp; exact H.pull fun t k => Jvm.Free.XT.pop X.here hx rfl (hb hby hd) rfl hc k
theorem g_iinc (X : Stand p l e R s m args below meth c T locs cells slots) (hx : p.tables.exec = Jvm.exec) {k : Nat} {cst : Int} {x : Int32} {l' : Array Slot} (hby : c.code = bytes) (hd : decode bytes pc = .ok (.iinc k cst, 3)) (hp : pc + 3 = pc') (hl : Ls[k]? = some (.val (.int x))) (hl' : storeLocals Ls k (.int (x + Int32.ofInt cst)) = some l')
    (H : GoE p e below Fi (T.setTop (mkF m pc' l' rest))) : GoE p e below Fi (T.setTop (mkF m pc Ls rest)) := by
  subst hp; exact H.pull fun t k => Jvm.Free.XS.iinc X.here hx rfl (hb hby hd) hl hl' k
theorem g_goto (X : Stand p l e R s m args below meth c T locs cells slots) (hx : p.tables.exec = Jvm.exec) {o : Int} (hby : c.code = bytes) (hd : decode bytes pc = .ok (.goto o, 3)) (ho : 0 ≤ (pc : Int) + o) (hp : ((pc : Int) + o).toNat = pc')
    (H : GoE p e below Fi (T.setTop (mkF m pc' Ls rest))) : GoE p e below Fi (T.setTop (mkF m pc Ls rest)) :=
  H.pull fun t k => Jvm.Free.XS.goto X.here hx rfl rfl (hb hby hd) ho hp k
theorem g_icmp_eq (X : Stand p l e R s m args below meth c T locs cells slots) (hx : p.tables.exec = Jvm.exec) {o : Int} {pn : Nat} (hby : c.code = bytes) {x y : Int32} (hd : decode bytes pc = .ok (.if_icmp .eq o, 3)) (ho : 0 ≤ (pc : Int) + o) (hp : ((pc : Int) + o).toNat = pc') (hn : pc + 3 = pn)
    (HY : x = y → GoE p e below Fi (T.setTop (mkF m pc' Ls rest))) (HN : ¬ (x = y) → GoE p e below Fi (T.setTop (mkF m pn Ls rest))) : GoE p e below Fi (T.setTop (mkF m pc Ls (.int y :: .int x :: rest))) := by
  subst hn
  by_cases q : x = y
  · exact (HY q).pull fun t k => Jvm.Free.XS.icmpYes X.here hx rfl rfl (hb hby hd) rfl (teq q).1 ho hp k
  · have q' : ¬ (x = y) := by first | exact q | exact Decidable.not_not.mp q
    exact (HN q').pull fun t k => Jvm.Free.XS.icmpNo X.here hx rfl (hb hby hd) rfl (feq q').1 k
theorem g_if_eq (X : Stand p l e R s m args below meth c T locs cells slots) (hx : p.tables.exec = Jvm.exec) {o : Int} {pn : Nat} (hby : c.code = bytes) {x : Int32} (hd : decode bytes pc = .ok (.ifCond .eq o, 3)) (ho : 0 ≤ (pc : Int) + o) (hp : ((pc : Int) + o).toNat = pc') (hn : pc + 3 = pn)
    (HY : x = 0 → GoE p e below Fi (T.setTop (mkF m pc' Ls rest))) (HN : ¬ (x = 0) → GoE p e below Fi (T.setTop (mkF m pn Ls rest))) : GoE p e below Fi (T.setTop (mkF m pc Ls (.int x :: rest))) := by
  subst hn
  by_cases q : x = 0
  · exact (HY q).pull fun t k => Jvm.Free.XS.ifYes X.here hx rfl rfl (hb hby hd) rfl ((if0 _ _).trans (teq q).1) ho hp k
  · have q' : ¬ (x = 0) := by first | exact q | exact Decidable.not_not.mp q
    exact (HN q').pull fun t k => Jvm.Free.XS.ifNo X.here hx rfl (hb hby hd) rfl ((if0 _ _).trans (feq q').1) k
theorem cl_W (u v : Int64) : cmpL u v = lcmpW u v := rfl
theorem cl_lt (u v : Int64) : cmpL u v < 0 ↔ u < v := by rw [cl_W]; exact lw_lt u v
theorem cl_gt (u v : Int64) : 0 < cmpL u v ↔ v < u := by rw [cl_W]; exact lw_gt u v
theorem cl_eq (u v : Int64) : cmpL u v = 0 ↔ u = v := by rw [cl_W]; exact lw_eq u v
theorem g_ifL_eq (X : Stand p l e R s m args below meth c T locs cells slots) (hx : p.tables.exec = Jvm.exec) {o : Int} {pn : Nat} (hby : c.code = bytes) {u v : Int64} (hd : decode bytes pc = .ok (.ifCond .eq o, 3)) (ho : 0 ≤ (pc : Int) + o) (hp : ((pc : Int) + o).toNat = pc') (hn : pc + 3 = pn)
    (HY : u = v → GoE p e below Fi (T.setTop (mkF m pc' Ls rest))) (HN : ¬ (u = v) → GoE p e below Fi (T.setTop (mkF m pn Ls rest))) : GoE p e below Fi (T.setTop (mkF m pc Ls (.int (cmpL u v) :: rest))) :=
  g_if_eq X hx hby hd ho hp hn (fun h => HY ((cl_eq u v).mp h)) (fun h => HN (fun z => h ((cl_eq u v).mpr z)))
theorem g_icmp_ne (X : Stand p l e R s m args below meth c T locs cells slots) (hx : p.tables.exec = Jvm.exec) {o : Int} {pn : Nat} (hby : c.code = bytes) {x y : Int32} (hd : decode bytes pc = .ok (.if_icmp .ne o, 3)) (ho : 0 ≤ (pc : Int) + o) (hp : ((pc : Int) + o).toNat = pc') (hn : pc + 3 = pn)
    (HY : ¬ (x = y) → GoE p e below Fi (T.setTop (mkF m pc' Ls rest))) (HN : x = y → GoE p e below Fi (T.setTop (mkF m pn Ls rest))) : GoE p e below Fi (T.setTop (mkF m pc Ls (.int y :: .int x :: rest))) := by
  subst hn
  by_cases q : ¬ (x = y)
  · exact (HY q).pull fun t k => Jvm.Free.XS.icmpYes X.here hx rfl rfl (hb hby hd) rfl (feq q).2 ho hp k
  · have q' : x = y := by first | exact q | exact Decidable.not_not.mp q
    exact (HN q').pull fun t k => Jvm.Free.XS.icmpNo X.here hx rfl (hb hby hd) rfl (teq q').2 k
theorem g_if_ne (X : Stand p l e R s m args below meth c T locs cells slots) (hx : p.tables.exec = Jvm.exec) {o : Int} {pn : Nat} (hby : c.code = bytes) {x : Int32} (hd : decode bytes pc = .ok (.ifCond .ne o, 3)) (ho : 0 ≤ (pc : Int) + o) (hp : ((pc : Int) + o).toNat = pc') (hn : pc + 3 = pn)
    (HY : ¬ (x = 0) → GoE p e below Fi (T.setTop (mkF m pc' Ls rest))) (HN : x = 0 → GoE p e below Fi (T.setTop (mkF m pn Ls rest))) : GoE p e below Fi (T.setTop (mkF m pc Ls (.int x :: rest))) := by
  subst hn
  by_cases q : ¬ (x = 0)
  · exact (HY q).pull fun t k => Jvm.Free.XS.ifYes X.here hx rfl rfl (hb hby hd) rfl ((if0 _ _).trans (feq q).2) ho hp k
  · have q' : x = 0 := by first | exact q | exact Decidable.not_not.mp q
    exact (HN q').pull fun t k => Jvm.Free.XS.ifNo X.here hx rfl (hb hby hd) rfl ((if0 _ _).trans (teq q').2) k
theorem g_ifL_ne (X : Stand p l e R s m args below meth c T locs cells slots) (hx : p.tables.exec = Jvm.exec) {o : Int} {pn : Nat} (hby : c.code = bytes) {u v : Int64} (hd : decode bytes pc = .ok (.ifCond .ne o, 3)) (ho : 0 ≤ (pc : Int) + o) (hp : ((pc : Int) + o).toNat = pc') (hn : pc + 3 = pn)
    (HY : ¬ (u = v) → GoE p e below Fi (T.setTop (mkF m pc' Ls rest))) (HN : u = v → GoE p e below Fi (T.setTop (mkF m pn Ls rest))) : GoE p e below Fi (T.setTop (mkF m pc Ls (.int (cmpL u v) :: rest))) :=
  g_if_ne X hx hby hd ho hp hn (fun h => HY (fun z => h ((cl_eq u v).mpr z))) (fun h => HN ((cl_eq u v).mp h))
theorem g_icmp_lt (X : Stand p l e R s m args below meth c T locs cells slots) (hx : p.tables.exec = Jvm.exec) {o : Int} {pn : Nat} (hby : c.code = bytes) {x y : Int32} (hd : decode bytes pc = .ok (.if_icmp .lt o, 3)) (ho : 0 ≤ (pc : Int) + o) (hp : ((pc : Int) + o).toNat = pc') (hn : pc + 3 = pn)
    (HY : x < y → GoE p e below Fi (T.setTop (mkF m pc' Ls rest))) (HN : ¬ (x < y) → GoE p e below Fi (T.setTop (mkF m pn Ls rest))) : GoE p e below Fi (T.setTop (mkF m pc Ls (.int y :: .int x :: rest))) := by
  subst hn
  by_cases q : x < y
  · exact (HY q).pull fun t k => Jvm.Free.XS.icmpYes X.here hx rfl rfl (hb hby hd) rfl (tlt q).1 ho hp k
  · have q' : ¬ (x < y) := by first | exact q | exact Decidable.not_not.mp q
    exact (HN q').pull fun t k => Jvm.Free.XS.icmpNo X.here hx rfl (hb hby hd) rfl (flt q').1 k
theorem g_if_lt (X : Stand p l e R s m args below meth c T locs cells slots) (hx : p.tables.exec = Jvm.exec) {o : Int} {pn : Nat} (hby : c.code = bytes) {x : Int32} (hd : decode bytes pc = .ok (.ifCond .lt o, 3)) (ho : 0 ≤ (pc : Int) + o) (hp : ((pc : Int) + o).toNat = pc') (hn : pc + 3 = pn)
    (HY : x < 0 → GoE p e below Fi (T.setTop (mkF m pc' Ls rest))) (HN : ¬ (x < 0) → GoE p e below Fi (T.setTop (mkF m pn Ls rest))) : GoE p e below Fi (T.setTop (mkF m pc Ls (.int x :: rest))) := by
  subst hn
  by_cases q : x < 0
  · exact (HY q).pull fun t k => Jvm.Free.XS.ifYes X.here hx rfl rfl (hb hby hd) rfl ((if0 _ _).trans (tlt q).1) ho hp k
  · have q' : ¬ (x < 0) := by first | exact q | exact Decidable.not_not.mp q
    exact (HN q').pull fun t k => Jvm.Free.XS.ifNo X.here hx rfl (hb hby hd) rfl ((if0 _ _).trans (flt q').1) k
theorem g_ifL_lt (X : Stand p l e R s m args below meth c T locs cells slots) (hx : p.tables.exec = Jvm.exec) {o : Int} {pn : Nat} (hby : c.code = bytes) {u v : Int64} (hd : decode bytes pc = .ok (.ifCond .lt o, 3)) (ho : 0 ≤ (pc : Int) + o) (hp : ((pc : Int) + o).toNat = pc') (hn : pc + 3 = pn)
    (HY : u < v → GoE p e below Fi (T.setTop (mkF m pc' Ls rest))) (HN : ¬ (u < v) → GoE p e below Fi (T.setTop (mkF m pn Ls rest))) : GoE p e below Fi (T.setTop (mkF m pc Ls (.int (cmpL u v) :: rest))) :=
  g_if_lt X hx hby hd ho hp hn (fun h => HY ((cl_lt u v).mp h)) (fun h => HN (fun z => h ((cl_lt u v).mpr z)))
theorem g_icmp_ge (X : Stand p l e R s m args below meth c T locs cells slots) (hx : p.tables.exec = Jvm.exec) {o : Int} {pn : Nat} (hby : c.code = bytes) {x y : Int32} (hd : decode bytes pc = .ok (.if_icmp .ge o, 3)) (ho : 0 ≤ (pc : Int) + o) (hp : ((pc : Int) + o).toNat = pc') (hn : pc + 3 = pn)
    (HY : ¬ (x < y) → GoE p e below Fi (T.setTop (mkF m pc' Ls rest))) (HN : x < y → GoE p e below Fi (T.setTop (mkF m pn Ls rest))) : GoE p e below Fi (T.setTop (mkF m pc Ls (.int y :: .int x :: rest))) := by
  subst hn
  by_cases q : ¬ (x < y)
  · exact (HY q).pull fun t k => Jvm.Free.XS.icmpYes X.here hx rfl rfl (hb hby hd) rfl (flt q).2.1 ho hp k
  · have q' : x < y := by first | exact q | exact Decidable.not_not.mp q
    exact (HN q').pull fun t k => Jvm.Free.XS.icmpNo X.here hx rfl (hb hby hd) rfl (tlt q').2.1 k
theorem g_if_ge (X : Stand p l e R s m args below meth c T locs cells slots) (hx : p.tables.exec = Jvm.exec) {o : Int} {pn : Nat} (hby : c.code = bytes) {x : Int32} (hd : decode bytes pc = .ok (.ifCond .ge o, 3)) (ho : 0 ≤ (pc : Int) + o) (hp : ((pc : Int) + o).toNat = pc') (hn : pc + 3 = pn)
    (HY : ¬ (x < 0) → GoE p e below Fi (T.setTop (mkF m pc' Ls rest))) (HN : x < 0 → GoE p e below Fi (T.setTop (mkF m pn Ls rest))) : GoE p e below Fi (T.setTop (mkF m pc Ls (.int x :: rest))) := by
  subst hn
  by_cases q : ¬ (x < 0)
  · exact (HY q).pull fun t k => Jvm.Free.XS.ifYes X.here hx rfl rfl (hb hby hd) rfl ((if0 _ _).trans (flt q).2.1) ho hp k
  · have q' : x < 0 := by first | exact q | exact Decidable.not_not.mp q
    exact (HN q').pull fun t k => Jvm.Free.XS.ifNo X.here hx rfl (hb hby hd) rfl ((if0 _ _).trans (tlt q').2.1) k
theorem g_ifL_ge (X : Stand p l e R s m args below meth c T locs cells slots) (hx : p.tables.exec = Jvm.exec) {o : Int} {pn : Nat} (hby : c.code = bytes) {u v : Int64} (hd : decode bytes pc = .ok (.ifCond .ge o, 3)) (ho : 0 ≤ (pc : Int) + o) (hp : ((pc : Int) + o).toNat = pc') (hn : pc + 3 = pn)
    (HY : ¬ (u < v) → GoE p e below Fi (T.setTop (mkF m pc' Ls rest))) (HN : u < v → GoE p e below Fi (T.setTop (mkF m pn Ls rest))) : GoE p e below Fi (T.setTop (mkF m pc Ls (.int (cmpL u v) :: rest))) :=
  g_if_ge X hx hby hd ho hp hn (fun h => HY (fun z => h ((cl_lt u v).mpr z))) (fun h => HN ((cl_lt u v).mp h))
theorem g_icmp_gt (X : Stand p l e R s m args below meth c T locs cells slots) (hx : p.tables.exec = Jvm.exec) {o : Int} {pn : Nat} (hby : c.code = bytes) {x y : Int32} (hd : decode bytes pc = .ok (.if_icmp .gt o, 3)) (ho : 0 ≤ (pc : Int) + o) (hp : ((pc : Int) + o).toNat = pc') (hn : pc + 3 = pn)
    (HY : y < x → GoE p e below Fi (T.setTop (mkF m pc' Ls rest))) (HN : ¬ (y < x) → GoE p e below Fi (T.setTop (mkF m pn Ls rest))) : GoE p e below Fi (T.setTop (mkF m pc Ls (.int y :: .int x :: rest))) := by
  subst hn
  by_cases q : y < x
  · exact (HY q).pull fun t k => Jvm.Free.XS.icmpYes X.here hx rfl rfl (hb hby hd) rfl (tlt q).2.2.1 ho hp k
  · have q' : ¬ (y < x) := by first | exact q | exact Decidable.not_not.mp q
    exact (HN q').pull fun t k => Jvm.Free.XS.icmpNo X.here hx rfl (hb hby hd) rfl (flt q').2.2.1 k
theorem g_if_gt (X : Stand p l e R s m args below meth c T locs cells slots) (hx : p.tables.exec = Jvm.exec) {o : Int} {pn : Nat} (hby : c.code = bytes) {x : Int32} (hd : decode bytes pc = .ok (.ifCond .gt o, 3)) (ho : 0 ≤ (pc : Int) + o) (hp : ((pc : Int) + o).toNat = pc') (hn : pc + 3 = pn)
    (HY : 0 < x → GoE p e below Fi (T.setTop (mkF m pc' Ls rest))) (HN : ¬ (0 < x) → GoE p e below Fi (T.setTop (mkF m pn Ls rest))) : GoE p e below Fi (T.setTop (mkF m pc Ls (.int x :: rest))) := by
  subst hn
  by_cases q : 0 < x
  · exact (HY q).pull fun t k => Jvm.Free.XS.ifYes X.here hx rfl rfl (hb hby hd) rfl ((if0 _ _).trans (tlt q).2.2.1) ho hp k
  · have q' : ¬ (0 < x) := by first | exact q | exact Decidable.not_not.mp q
    exact (HN q').pull fun t k => Jvm.Free.XS.ifNo X.here hx rfl (hb hby hd) rfl ((if0 _ _).trans (flt q').2.2.1) k
theorem g_ifL_gt (X : Stand p l e R s m args below meth c T locs cells slots) (hx : p.tables.exec = Jvm.exec) {o : Int} {pn : Nat} (hby : c.code = bytes) {u v : Int64} (hd : decode bytes pc = .ok (.ifCond .gt o, 3)) (ho : 0 ≤ (pc : Int) + o) (hp : ((pc : Int) + o).toNat = pc') (hn : pc + 3 = pn)
    (HY : v < u → GoE p e below Fi (T.setTop (mkF m pc' Ls rest))) (HN : ¬ (v < u) → GoE p e below Fi (T.setTop (mkF m pn Ls rest))) : GoE p e below Fi (T.setTop (mkF m pc Ls (.int (cmpL u v) :: rest))) :=
  g_if_gt X hx hby hd ho hp hn (fun h => HY ((cl_gt u v).mp h)) (fun h => HN (fun z => h ((cl_gt u v).mpr z)))
theorem g_icmp_le (X : Stand p l e R s m args below meth c T locs cells slots) (hx : p.tables.exec = Jvm.exec) {o : Int} {pn : Nat} (hby : c.code = bytes) {x y : Int32} (hd : decode bytes pc = .ok (.if_icmp .le o, 3)) (ho : 0 ≤ (pc : Int) + o) (hp : ((pc : Int) + o).toNat = pc') (hn : pc + 3 = pn)
    (HY : ¬ (y < x) → GoE p e below Fi (T.setTop (mkF m pc' Ls rest))) (HN : y < x → GoE p e below Fi (T.setTop (mkF m pn Ls rest))) : GoE p e below Fi (T.setTop (mkF m pc Ls (.int y :: .int x :: rest))) := by
  subst hn
  by_cases q : ¬ (y < x)
  · exact (HY q).pull fun t k => Jvm.Free.XS.icmpYes X.here hx rfl rfl (hb hby hd) rfl (flt q).2.2.2 ho hp k
  · have q' : y < x := by first | exact q | exact Decidable.not_not.mp q
    exact (HN q').pull fun t k => Jvm.Free.XS.icmpNo X.here hx rfl (hb hby hd) rfl (tlt q').2.2.2 k
theorem g_if_le (X : Stand p l e R s m args below meth c T locs cells slots) (hx : p.tables.exec = Jvm.exec) {o : Int} {pn : Nat} (hby : c.code = bytes) {x : Int32} (hd : decode bytes pc = .ok (.ifCond .le o, 3)) (ho : 0 ≤ (pc : Int) + o) (hp : ((pc : Int) + o).toNat = pc') (hn : pc + 3 = pn)
    (HY : ¬ (0 < x) → GoE p e below Fi (T.setTop (mkF m pc' Ls rest))) (HN : 0 < x → GoE p e below Fi (T.setTop (mkF m pn Ls rest))) : GoE p e below Fi (T.setTop (mkF m pc Ls (.int x :: rest))) := by
  subst hn
  by_cases q : ¬ (0 < x)
  · exact (HY q).pull fun t k => Jvm.Free.XS.ifYes X.here hx rfl rfl (hb hby hd) rfl ((if0 _ _).trans (flt q).2.2.2) ho hp k
  · have q' : 0 < x := by first | exact q | exact Decidable.not_not.mp q
    exact (HN q').pull fun t k => Jvm.Free.XS.ifNo X.here hx rfl (hb hby hd) rfl ((if0 _ _).trans (tlt q').2.2.2) k
theorem g_ifL_le (X : Stand p l e R s m args below meth c T locs cells slots) (hx : p.tables.exec = Jvm.exec) {o : Int} {pn : Nat} (hby : c.code = bytes) {u v : Int64} (hd : decode bytes pc = .ok (.ifCond .le o, 3)) (ho : 0 ≤ (pc : Int) + o) (hp : ((pc : Int) + o).toNat = pc') (hn : pc + 3 = pn)
    (HY : ¬ (v < u) → GoE p e below Fi (T.setTop (mkF m pc' Ls rest))) (HN : v < u → GoE p e below Fi (T.setTop (mkF m pn Ls rest))) : GoE p e below Fi (T.setTop (mkF m pc Ls (.int (cmpL u v) :: rest))) :=
  g_if_le X hx hby hd ho hp hn (fun h => HY (fun z => h ((cl_gt u v).mpr z))) (fun h => HN ((cl_gt u v).mp h))
theorem g_ifnull_no (X : Stand p l e R s m args below meth c T locs cells slots) (hx : p.tables.exec = Jvm.exec) {o : Int} {pn : Nat} (hby : c.code = bytes) {b : Addr} (hd : decode bytes pc = .ok (.ifnull o, 3)) (hn : pc + 3 = pn)
    (H : GoE p e below Fi (T.setTop (mkF m pn Ls rest))) : GoE p e below Fi (T.setTop (mkF m pc Ls (.ref b :: rest))) := by
  subst hn; exact H.pull fun t k => Jvm.Free.XS.ifnullNo X.here hx rfl (hb hby hd) rfl k
theorem g_ifnull_yes (X : Stand p l e R s m args below meth c T locs cells slots) (hx : p.tables.exec = Jvm.exec) {o : Int} (hby : c.code = bytes) (hd : decode bytes pc = .ok (.ifnull o, 3)) (ho : 0 ≤ (pc : Int) + o) (hp : ((pc : Int) + o).toNat = pc')
    (H : GoE p e below Fi (T.setTop (mkF m pc' Ls rest))) : GoE p e below Fi (T.setTop (mkF m pc Ls (.null :: rest))) :=
  H.pull fun t k => Jvm.Free.XS.ifnullYes X.here hx rfl rfl (hb hby hd) rfl ho hp k
theorem g_ifnonnull_yes (X : Stand p l e R s m args below meth c T locs cells slots) (hx : p.tables.exec = Jvm.exec) {o : Int} (hby : c.code = bytes) {b : Addr} (hd : decode bytes pc = .ok (.ifnonnull o, 3)) (ho : 0 ≤ (pc : Int) + o) (hp : ((pc : Int) + o).toNat = pc')
    (H : GoE p e below Fi (T.setTop (mkF m pc' Ls rest))) : GoE p e below Fi (T.setTop (mkF m pc Ls (.ref b :: rest))) :=
  H.pull fun t k => Jvm.Free.XT.ifnonnullYes X.here hx rfl rfl (hb hby hd) rfl ho hp k
theorem g_ifnonnull_no (X : Stand p l e R s m args below meth c T locs cells slots) (hx : p.tables.exec = Jvm.exec) {o : Int} {pn : Nat} (hby : c.code = bytes) (hd : decode bytes pc = .ok (.ifnonnull o, 3)) (hn : pc + 3 = pn)
    (H : GoE p e below Fi (T.setTop (mkF m pn Ls rest))) : GoE p e below Fi (T.setTop (mkF m pc Ls (.null :: rest))) := by
  subst hn; exact H.pull fun t k => Jvm.Free.XT.ifnonnullNo X.here hx rfl (hb hby hd) rfl k
theorem g_acmp_yes (X : Stand p l e R s m args below meth c T locs cells slots) (hx : p.tables.exec = Jvm.exec) {o : Int} (hby : c.code = bytes) {cd : ClassFile.ACond} {x y : Value} (hd : decode bytes pc = .ok (.if_acmp cd o, 3)) (ho : 0 ≤ (pc : Int) + o) (hp : ((pc : Int) + o).toNat = pc') (h1 : x.isRef = true) (h2 : y.isRef = true) (hc : Jvm.Free.XT.acmp cd x y = true)
    (H : GoE p e below Fi (T.setTop (mkF m pc' Ls rest))) : GoE p e below Fi (T.setTop (mkF m pc Ls (y :: x :: rest))) :=
  H.pull fun t k => Jvm.Free.XT.acmpYes X.here hx rfl rfl (hb hby hd) rfl h1 h2 hc ho hp k
theorem g_acmp_no (X : Stand p l e R s m args below meth c T locs cells slots) (hx : p.tables.exec = Jvm.exec) {o : Int} {pn : Nat} (hby : c.code = bytes) {cd : ClassFile.ACond} {x y : Value} (hd : decode bytes pc = .ok (.if_acmp cd o, 3)) (hn : pc + 3 = pn) (h1 : x.isRef = true) (h2 : y.isRef = true) (hc : Jvm.Free.XT.acmp cd x y = false)
    (H : GoE p e below Fi (T.setTop (mkF m pn Ls rest))) : GoE p e below Fi (T.setTop (mkF m pc Ls (y :: x :: rest))) := by
  subst hn; exact H.pull fun t k => Jvm.Free.XT.acmpNo X.here hx rfl (hb hby hd) rfl h1 h2 hc k
theorem g_retI (X : Stand p l e R s m args below meth c T locs cells slots) (hx : p.tables.exec = Jvm.exec) {z : Int32} (hby : c.code = bytes) (hd : decode bytes pc = .ok (.ireturn, 1)) (hret : meth.sig.returnType = some .int) (hlk : meth.locks = false) (hc : cells ≤ rc) (hs : slots ≤ rs) (hQ : Q (some (.int z)) T.heap locs) : Go p e below s rc rs Q (T.setTop (mkF m pc Ls (.int z :: rest))) := by
  obtain ⟨fs, hr, hrun, hended, hW, hsame⟩ := X.leave (v := some (.int z)) (fun h => by first | rfl | (rw [hret] at h; cases h)) hlk
  exact ⟨_, _, retI X hx hret (hb hby hd) hr, hrun, hended, _, _, rfl, hQ, ⟨_, rfl⟩, hW, hsame.mono hc hs⟩
theorem g_retN (X : Stand p l e R s m args below meth c T locs cells slots) (hx : p.tables.exec = Jvm.exec) {z w : Int32} {t : FieldType} (hby : c.code = bytes) (hd : decode bytes pc = .ok (.ireturn, 1)) (hret : meth.sig.returnType = some t) (ht : t = .boolean ∨ t = .byte ∨ t = .char ∨ t = .short) (hnar : nar t z = w) (hlk : meth.locks = false) (hc : cells ≤ rc) (hs : slots ≤ rs) (hQ : Q (some (.int w)) T.heap locs) : Go p e below s rc rs Q (T.setTop (mkF m pc Ls (.int z :: rest))) := by
  subst hnar
  obtain ⟨fs, hr, hrun, hended, hW, hsame⟩ := X.leave (v := some (.int (nar t z))) (fun h => by rw [hret] at h; cases h) hlk
  exact ⟨_, _, retN X hx hret ht (hb hby hd) hr, hrun, hended, _, _, rfl, hQ, ⟨_, rfl⟩, hW, hsame.mono hc hs⟩
theorem g_retL (X : Stand p l e R s m args below meth c T locs cells slots) (hx : p.tables.exec = Jvm.exec) {z : Int64} (hby : c.code = bytes) (hd : decode bytes pc = .ok (.lreturn, 1)) (hret : meth.sig.returnType = some .long) (hlk : meth.locks = false) (hc : cells ≤ rc) (hs : slots ≤ rs) (hQ : Q (some (.long z)) T.heap locs) : Go p e below s rc rs Q (T.setTop (mkF m pc Ls [.long z])) := by
  obtain ⟨fs, hr, hrun, hended, hW, hsame⟩ := X.leave (v := some (.long z)) (fun h => by first | rfl | (rw [hret] at h; cases h)) hlk
  exact ⟨_, _, X.lreturnOut hx hret (hb hby hd) hr, hrun, hended, _, _, rfl, hQ, ⟨_, rfl⟩, hW, hsame.mono hc hs⟩
theorem g_retA (X : Stand p l e R s m args below meth c T locs cells slots) (hx : p.tables.exec = Jvm.exec) {z : Value} {t : FieldType} (hby : c.code = bytes) (hd : decode bytes pc = .ok (.areturn, 1)) (hz : z.isRef = true) (hret : meth.sig.returnType = some t) (ht : t.isReference = true) (hlk : meth.locks = false) (hc : cells ≤ rc) (hs : slots ≤ rs) (hQ : Q (some z) T.heap locs) : Go p e below s rc rs Q (T.setTop (mkF m pc Ls [z])) := by
  obtain ⟨fs, hr, hrun, hended, hW, hsame⟩ := X.leave (v := some z) (fun h => by first | rfl | (rw [hret] at h; cases h)) hlk
  exact ⟨_, _, X.areturnOut hx hz hret ht (hb hby hd) hr, hrun, hended, _, _, rfl, hQ, ⟨_, rfl⟩, hW, hsame.mono hc hs⟩
theorem g_retV (X : Stand p l e R s m args below meth c T locs cells slots) (hx : p.tables.exec = Jvm.exec)  (hby : c.code = bytes) (hd : decode bytes pc = .ok (.return_, 1)) (hret : meth.sig.returnType = none) (hlk : meth.locks = false) (hc : cells ≤ rc) (hs : slots ≤ rs) (hQ : Q (none) T.heap locs) : Go p e below s rc rs Q (T.setTop (mkF m pc Ls [])) := by
  obtain ⟨fs, hr, hrun, hended, hW, hsame⟩ := X.leave (v := none) (fun h => by first | rfl | (rw [hret] at h; cases h)) hlk
  exact ⟨_, _, X.returnOut hx hret (hb hby hd) hr, hrun, hended, _, _, rfl, hQ, ⟨_, rfl⟩, hW, hsame.mono hc hs⟩
theorem g_callS (X : Stand p l e R s m args below meth c T locs cells slots) (hx : p.tables.exec = Jvm.exec) {Z : State} {a0 : Array Value} (hZ : Z.Warmed39 s.vm) {own : String} (hown : s.vm.findClass own = some m.cls) {y : MethodName} {cb : ByteArray} {maxL : Nat} {ret : Option FieldType} {rm : Room} {as' : Array Value} {h : Heap} {Q' : Option Value → Heap → List Loc → Prop} {W : Nat} {index : Nat} {argsL : List Value} (hby : c.code = bytes) (hd : decode bytes pc = .ok (.invokestatic index, 3)) (hp : pc + 3 = pc') (hml : Ls.size = c.maxLocals)
    (w1 : (Jvm.Cond.methodLink own index y).before a0 Z = true) (w2 : (Jvm.Cond.static y).before a0 Z = true) (w3 : (Jvm.Cond.initialized y.cls).before a0 Z = true) (w4 : (Jvm.Cond.code y cb maxL ret).before a0 Z = true) (hy : y.cls ≠ "java/lang/invoke/MethodHandle" ∧ y.cls ≠ "java/lang/invoke/VarHandle")
    (C : Ctr l Z y cb maxL ret [] rm as' h Q') (eT : T.heap = h) (hfr : rm.frames + 1 ≤ R.frames) (hlo : W + (maxL + 11) + rm.locals ≤ R.locals) (hce : cells + rm.cells ≤ R.cells) (hsl : slots + rm.slots ≤ R.slots) {stk : List Value} {psig : MethodDescriptor} (has : argsL.toArray = as') (hpd : parseMethodDescriptor y.desc = some psig) (hlen : argsL.length = psig.parameters.length) (hst : stk = argsL.reverse ++ rest) (hW : 2 * 0 + (rest.map fun v => v.category).sum ≤ W)
    (K : ∀ (v : Option Value) (T' : State) (L : List Loc), Stand p l e R s m args below meth c T' (locs ++ L) (cells + rm.cells) (slots + rm.slots) → Q' v T'.heap L → GoE p e below Fi (T'.setTop (mkF m pc' Ls (v.toList ++ rest)))) : GoE p e below Fi (T.setTop (mkF m pc Ls stk)) := by
  subst hp hst has
  obtain ⟨v, _, ⟨T4, L4, k4, n4⟩, -, X4, ⟨Lc, hQ, l4, y4, z4⟩, st⟩ := Jvm.LawKit.callS X hx (y := y) hown (mvT hZ w1) (mvT hZ w2) (mvT hZ w3) (mvT hZ w4) hy (backOf (W := W) C hZ w4 w3 hfr hlo) (g := mkF m pc Ls (argsL.reverse ++ rest)) rfl hml (argsL := argsL) (rest := rest) (fun sig h => by rw [hpd] at h; cases h; exact hlen) rfl hW (hb hby hd) (fun _ _ => ⟨rfl, eT, hce, hsl⟩)
  dsimp only [Pt.U, Pt.locs, Pt.cells, Pt.slots] at X4 l4 y4 z4 st hQ
  subst l4 y4 z4
  exact (K v T4 Lc X4 hQ).pull st
theorem g_callI (X : Stand p l e R s m args below meth c T locs cells slots) (hx : p.tables.exec = Jvm.exec) {Z : State} {a0 : Array Value} (hZ : Z.Warmed39 s.vm) {own : String} (hown : s.vm.findClass own = some m.cls) {y : MethodName} {cb : ByteArray} {maxL : Nat} {rm : Room} {as' : Array Value} {h : Heap} {Q' : Option Value → Heap → List Loc → Prop} {W : Nat} {index : Nat} {argsL : List Value} {b : Addr} (hby : c.code = bytes) (hd : decode bytes pc = .ok (.invokespecial index, 3)) (hp : pc + 3 = pc') (hml : Ls.size = c.maxLocals)
    (w1 : (Jvm.Cond.methodLink own index y).before a0 Z = true) (w2 : (Jvm.Cond.instanceMethod y).before a0 Z = true) (w3 : (Jvm.Cond.initialized y.cls).before a0 Z = true) (w4 : (Jvm.Cond.code y cb maxL none).before a0 Z = true) (hin : y.name = "<init>") (hy : y.cls ≠ "java/lang/invoke/MethodHandle" ∧ y.cls ≠ "java/lang/invoke/VarHandle")
    (C : Ctr l Z y cb maxL none [] rm as' h Q') (eT : T.heap = h) (hfr : rm.frames + 1 ≤ R.frames) (hlo : W + (maxL + 11) + rm.locals ≤ R.locals) (hce : cells + rm.cells ≤ R.cells) (hsl : slots + rm.slots ≤ R.slots) {stk : List Value} {psig : MethodDescriptor} (has : (Value.ref b :: argsL).toArray = as') (hpd : parseMethodDescriptor y.desc = some psig) (hlen : argsL.length = psig.parameters.length) (hst : stk = argsL.reverse ++ Value.ref b :: rest) (hW : 2 * 0 + (rest.map fun v => v.category).sum ≤ W)
    (K : ∀ (v : Option Value) (T' : State) (L : List Loc), Stand p l e R s m args below meth c T' (locs ++ L) (cells + rm.cells) (slots + rm.slots) → Q' v T'.heap L → GoE p e below Fi (T'.setTop (mkF m pc' Ls (v.toList ++ rest)))) : GoE p e below Fi (T.setTop (mkF m pc Ls stk)) := by
  subst hp hst has
  obtain ⟨v, _, ⟨T4, L4, k4, n4⟩, -, X4, ⟨Lc, hQ, l4, y4, z4⟩, st⟩ := X.specialBack hx (y := y) hin hown (mvT hZ w1) (mvT hZ w2) (mvT hZ w4) hy (backOf (W := W) C hZ w4 w3 hfr hlo) (g := mkF m pc Ls (argsL.reverse ++ Value.ref b :: rest)) rfl hml (Steps.refl _) (a := b) (argsL := argsL) (rest := rest) (fun sig h => by rw [hpd] at h; cases h; exact hlen) rfl hW (hb hby hd) (fun _ _ => ⟨rfl, eT, hce, hsl⟩)
  dsimp only [Pt.U, Pt.locs, Pt.cells, Pt.slots] at X4 l4 y4 z4 st hQ
  subst l4 y4 z4
  exact (K v T4 Lc X4 hQ).pull fun t k => st.trans k
theorem g_callV (X : Stand p l e R s m args below meth c T locs cells slots) (hx : p.tables.exec = Jvm.exec) {Z : State} {a0 : Array Value} (hZ : Z.Warmed39 s.vm) {own : String} (hown : s.vm.findClass own = some m.cls) {y : MethodName} {cb : ByteArray} {maxL : Nat} {ret : Option FieldType} {rm : Room} {as' : Array Value} {h : Heap} {Q' : Option Value → Heap → List Loc → Prop} {W : Nat} {index : Nat} {argsL : List Value} {b : Addr} {z : MethodName} {C0 : String} (hby : c.code = bytes) (hd : decode bytes pc = .ok (.invokevirtual index, 3)) (hp : pc + 3 = pc') (hml : Ls.size = c.maxLocals)
    (w1 : (Jvm.Cond.methodLink own index y).before a0 Z = true) (w2 : (Jvm.Cond.declares y).before a0 Z = true) (w5 : (Jvm.Cond.selects C0 y z).before a0 Z = true) (nf : NotFace s y) (w6 : (Jvm.Cond.instanceMethod z).before a0 Z = true) (w3 : (Jvm.Cond.initialized z.cls).before a0 Z = true) (w4 : (Jvm.Cond.code z cb maxL ret).before a0 Z = true) (hy : y.cls ≠ "java/lang/invoke/MethodHandle" ∧ y.cls ≠ "java/lang/invoke/VarHandle")
    (C : Ctr l Z z cb maxL ret [] rm as' h Q') (eT : T.heap = h) (E : Exa Z h b C0) (hfr : rm.frames + 1 ≤ R.frames) (hlo : W + (maxL + 11) + rm.locals ≤ R.locals) (hce : cells + rm.cells ≤ R.cells) (hsl : slots + rm.slots ≤ R.slots) {stk : List Value} {psig : MethodDescriptor} (has : (Value.ref b :: argsL).toArray = as') (hpd : parseMethodDescriptor y.desc = some psig) (hlen : argsL.length = psig.parameters.length) (hst : stk = argsL.reverse ++ Value.ref b :: rest) (hW : 2 * 0 + (rest.map fun v => v.category).sum ≤ W)
    (K : ∀ (v : Option Value) (T' : State) (L : List Loc), Stand p l e R s m args below meth c T' (locs ++ L) (cells + rm.cells) (slots + rm.slots) → Q' v T'.heap L → GoE p e below Fi (T'.setTop (mkF m pc' Ls (v.toList ++ rest)))) : GoE p e below Fi (T.setTop (mkF m pc Ls stk)) := by
  subst hp hst has
  obtain ⟨cq, kq, qa, qb, qc⟩ := isOf hZ eT E
  obtain ⟨v, _, ⟨T4, L4, k4, n4⟩, -, X4, ⟨Lc, hQ, l4, y4, z4⟩, st⟩ := X.virtualBack hx (y := y) (z := z) hown (mvT hZ w1) (mvT hZ w2) nf (mvT hZ w5) (mvT hZ w6) hy (backOf (W := W) C hZ w4 w3 hfr hlo) qa qc (g := mkF m pc Ls (argsL.reverse ++ Value.ref b :: rest)) rfl hml (Steps.refl _) (argsL := argsL) (rest := rest) (fun sig h => by rw [hpd] at h; cases h; exact hlen) rfl hW (hb hby hd) (fun _ _ => ⟨rfl, eT, hce, hsl⟩)
  dsimp only [Pt.U, Pt.locs, Pt.cells, Pt.slots] at X4 l4 y4 z4 st hQ
  subst l4 y4 z4
  exact (K v T4 Lc X4 hQ).pull fun t k => st.trans k
theorem g_new (X : Stand p l e R s m args below meth c T locs cells slots) (hx : p.tables.exec = Jvm.exec) {Z : State} {a0 : Array Value} (hZ : Z.Warmed39 s.vm) {own : String} (hown : s.vm.findClass own = some m.cls) {C : String} {index n : Nat} {h : Heap} (hby : c.code = bytes) (hd : decode bytes pc = .ok (.new index, 3)) (hp : pc + 3 = pc') (w1 : (Jvm.Cond.classLink own index C).before a0 Z = true) (w2 : (Jvm.Cond.instantiable C n).before a0 Z = true) (w3 : (Jvm.Cond.initialized C).before a0 Z = true) (eT : T.heap = h) (hce : cells + 1 ≤ R.cells) (hsl : slots + n ≤ R.slots)
    (K : ∀ (T' : State) (b : Addr), b = h.size → Stand p l e R s m args below meth c T' locs (cells + 1) (slots + n) → Ext h T'.heap → Exa Z T'.heap b C → (∀ {O nm d : String} {ty : FieldType}, Laid Z a0 C O nm d → parseFieldDescriptor d = some ty → Fld Z T'.heap b O nm d (defaultValue ty)) → GoE p e below Fi (T'.setTop (mkF m pc' Ls (.ref b :: rest)))) : GoE p e below Fi (T.setTop (mkF m pc Ls rest)) := by
  subst hp
  obtain ⟨T2, h2, X2, e2, E2, A2, D2, -, st2⟩ := newO X hx hZ hown w1 w2 w3 eT (g := mkF m pc Ls rest) rfl (hb hby hd) hce hsl
  subst e2
  exact (K T2 _ rfl X2 E2 A2 D2).pull st2
theorem g_initO (X : Stand p l e R s m args below meth c T locs cells slots) (hx : p.tables.exec = Jvm.exec) {Z : State} {a0 : Array Value} (hZ : Z.Warmed39 s.vm) {own : String} (hown : s.vm.findClass own = some m.cls) {index : Nat} {h : Heap} {cb : ByteArray} {b : Addr} {W maxL : Nat} (hby : c.code = bytes) (hd : decode bytes pc = .ok (.invokespecial index, 3)) (hp : pc + 3 = pc') (hml : Ls.size = c.maxLocals)
    (F : ∃ T', Stand p l e R s m args below meth c T' locs cells slots ∧ T'.heap = h ∧ ∀ target, Steps p.tables e below (T'.setTop (mkF m (pc + 3) Ls rest)) target → Steps p.tables e below (T.setTop (mkF m pc Ls (.ref b :: rest))) target)
    (K : ∀ T' : State, Stand p l e R s m args below meth c T' locs cells slots → T'.heap = h → GoE p e below Fi (T'.setTop (mkF m pc' Ls rest))) : GoE p e below Fi (T.setTop (mkF m pc Ls (.ref b :: rest))) := by
  subst hp
  obtain ⟨T2, X2, e2, st2⟩ := F
  exact (K T2 X2 e2).pull st2
theorem g_get (X : Stand p l e R s m args below meth c T locs cells slots) (hx : p.tables.exec = Jvm.exec) {Z : State} {a0 : Array Value} (hZ : Z.Warmed39 s.vm) {own : String} (hown : s.vm.findClass own = some m.cls) {O n d : String} {index : Nat} {h : Heap} {a : Addr} {v : Value} (hby : c.code = bytes) (hd : decode bytes pc = .ok (.getfield index, 3)) (hp : pc + 3 = pc') (w : (Jvm.Cond.fieldLink own index O n d).before a0 Z = true) (eT : T.heap = h) (F : Fld Z h a O n d v)
    (K : ∀ T' : State, Stand p l e R s m args below meth c T' locs cells slots → T'.heap = h → GoE p e below Fi (T'.setTop (mkF m pc' Ls (v :: rest)))) : GoE p e below Fi (T.setTop (mkF m pc Ls (.ref a :: rest))) := by
  subst hp
  obtain ⟨T2, X2, e2, st2⟩ := getF X hx hZ hown (host := "") (Or.inl w) Via.refl eT F (g := mkF m pc Ls (.ref a :: rest)) rfl rfl (hb hby hd)
  exact (K T2 X2 e2).pull st2
theorem g_put (X : Stand p l e R s m args below meth c T locs cells slots) (hx : p.tables.exec = Jvm.exec) {Z : State} {a0 : Array Value} (hZ : Z.Warmed39 s.vm) {own : String} (hown : s.vm.findClass own = some m.cls) {O n d C : String} {index kk : Nat} {ty : FieldType} {h : Heap} {a : Addr} {v old : Value} (hby : c.code = bytes) (hd : decode bytes pc = .ok (.putfield index, 3)) (hp : pc + 3 = pc') (w : (Jvm.Cond.fieldLink own index O n d).before a0 Z = true) (eT : T.heap = h) (F : Fld Z h a O n d old) (E : Exa Z h a C) (Lf : (Jvm.Cond.lays C O n d).before a0 Z = true ∨ ((Jvm.Cond.laysFinal C O n d).before a0 Z = true ∧ own = O ∧ meth.name = "<init>")) (wi : (Jvm.Cond.instantiable C kk).before a0 Z = true) (hty : parseFieldDescriptor d = some ty) (hn : narrow ty v = v) (hf : fits ty v = true)
    (K : ∀ T' : State, Stand p l e R s m args below meth c T' (locs ++ [⟨a, RoadKit.slotOf Z O n d⟩]) cells slots → Wr h T'.heap a (RoadKit.slotOf Z O n d) v → GoE p e below Fi (T'.setTop (mkF m pc' Ls rest))) : GoE p e below Fi (T.setTop (mkF m pc Ls (v :: .ref a :: rest))) := by
  subst hp
  obtain ⟨T2, h2, X2, e2, W2, st2⟩ := putF X hx hZ hown (host := "") (Or.inl w) Via.refl eT F E Lf wi hty hn hf (g := mkF m pc Ls (v :: .ref a :: rest)) rfl rfl (hb hby hd)
  subst e2
  exact (K T2 X2 W2).pull st2
theorem g_getS (X : Stand p l e R s m args below meth c T locs cells slots) (hx : p.tables.exec = Jvm.exec) {Z : State} {a0 : Array Value} (hZ : Z.Warmed39 s.vm) {own : String} (hown : s.vm.findClass own = some m.cls) {O n d : String} {index : Nat} {h : Heap} {v : Value} (hby : c.code = bytes) (hd : decode bytes pc = .ok (.getstatic index, 3)) (hp : pc + 3 = pc') (w : (Jvm.Cond.fieldLink own index O n d).before a0 Z = true) (eT : T.heap = h) (F : Sta Z h O n d v)
    (K : ∀ T' : State, Stand p l e R s m args below meth c T' locs cells slots → T'.heap = h → GoE p e below Fi (T'.setTop (mkF m pc' Ls (v :: rest)))) : GoE p e below Fi (T.setTop (mkF m pc Ls rest)) := by
  subst hp
  obtain ⟨T2, X2, e2, st2⟩ := getS X hx hZ hown (host := "") w Via.refl eT F (g := mkF m pc Ls rest) rfl (hb hby hd)
  exact (K T2 X2 e2).pull st2
theorem g_iaload (X : Stand p l e R s m args below meth c T locs cells slots) (hx : p.tables.exec = Jvm.exec) {Z : State} (hZ : Z.Warmed39 s.vm) {h : Heap} {a : Addr} {k : ClassId} {n : Int32} {vs : List Value} {dv : Value} {j : Int32} {v : Value} (hby : c.code = bytes) (hd : decode bytes pc = .ok (.iaload, 1)) (hp : pc + 1 = pc') (eT : T.heap = h) (F : Arv Z h a k .int n vs dv) (hj : ¬ j < 0 ∧ j < n) (u : vs.getD j.toNatClampNeg dv = v)
    (H : GoE p e below Fi (T.setTop (mkF m pc' Ls (v :: rest)))) : GoE p e below Fi (T.setTop (mkF m pc Ls (.int j :: .ref a :: rest))) := by
  subst hp
  obtain ⟨cl, A, q1, S, q3, Hh, G⟩ := F
  exact H.pull fun t k => X.iaload hx (by rw [eT]; exact A.1) (State.isArrayOf_alike hZ.alike A.2.1) A.2.2 (inb_of S hj) (Hh.at (inb_of S hj) u) (g := mkF m pc Ls (.int j :: .ref a :: rest)) rfl rfl (hb hby hd) _ k
theorem g_laload (X : Stand p l e R s m args below meth c T locs cells slots) (hx : p.tables.exec = Jvm.exec) {Z : State} (hZ : Z.Warmed39 s.vm) {h : Heap} {a : Addr} {k : ClassId} {n : Int32} {vs : List Value} {dv : Value} {j : Int32} {v : Value} (hby : c.code = bytes) (hd : decode bytes pc = .ok (.laload, 1)) (hp : pc + 1 = pc') (eT : T.heap = h) (F : Arv Z h a k .long n vs dv) (hj : ¬ j < 0 ∧ j < n) (u : vs.getD j.toNatClampNeg dv = v)
    (H : GoE p e below Fi (T.setTop (mkF m pc' Ls (v :: rest)))) : GoE p e below Fi (T.setTop (mkF m pc Ls (.int j :: .ref a :: rest))) := by
  subst hp
  obtain ⟨cl, A, q1, S, q3, Hh, G⟩ := F
  exact H.pull fun t k => X.laload hx (by rw [eT]; exact A.1) (State.isArrayOf_alike hZ.alike A.2.1) A.2.2 (inb_of S hj) (Hh.at (inb_of S hj) u) (g := mkF m pc Ls (.int j :: .ref a :: rest)) rfl rfl (hb hby hd) _ k
theorem g_caload (X : Stand p l e R s m args below meth c T locs cells slots) (hx : p.tables.exec = Jvm.exec) {Z : State} (hZ : Z.Warmed39 s.vm) {h : Heap} {a : Addr} {k : ClassId} {n : Int32} {vs : List Value} {dv : Value} {j : Int32} {v : Value} (hby : c.code = bytes) (hd : decode bytes pc = .ok (.caload, 1)) (hp : pc + 1 = pc') (eT : T.heap = h) (F : Arv Z h a k .char n vs dv) (hj : ¬ j < 0 ∧ j < n) (u : vs.getD j.toNatClampNeg dv = v)
    (H : GoE p e below Fi (T.setTop (mkF m pc' Ls (v :: rest)))) : GoE p e below Fi (T.setTop (mkF m pc Ls (.int j :: .ref a :: rest))) := by
  subst hp
  obtain ⟨cl, A, q1, S, q3, Hh, G⟩ := F
  exact H.pull fun t k => X.caload hx (by rw [eT]; exact A.1) (State.isArrayOf_alike hZ.alike A.2.1) A.2.2 (inb_of S hj) (Hh.at (inb_of S hj) u) (g := mkF m pc Ls (.int j :: .ref a :: rest)) rfl rfl (hb hby hd) _ k
theorem g_baload (X : Stand p l e R s m args below meth c T locs cells slots) (hx : p.tables.exec = Jvm.exec) {Z : State} (hZ : Z.Warmed39 s.vm) {h : Heap} {a : Addr} {k : ClassId} {n : Int32} {vs : List Value} {dv : Value} {j : Int32} {v : Value} (hby : c.code = bytes) (hd : decode bytes pc = .ok (.baload, 1)) (hp : pc + 1 = pc') (eT : T.heap = h) (F : Arv Z h a k .byte n vs dv) (hj : ¬ j < 0 ∧ j < n) (u : vs.getD j.toNatClampNeg dv = v)
    (H : GoE p e below Fi (T.setTop (mkF m pc' Ls (v :: rest)))) : GoE p e below Fi (T.setTop (mkF m pc Ls (.int j :: .ref a :: rest))) := by
  subst hp
  obtain ⟨cl, A, q1, S, q3, Hh, G⟩ := F
  exact H.pull fun t k => X.baloadBytes hx (by rw [eT]; exact A.1) (State.isArrayOf_alike hZ.alike A.2.1) A.2.2 (inb_of S hj) (Hh.at (inb_of S hj) u) (g := mkF m pc Ls (.int j :: .ref a :: rest)) rfl rfl (hb hby hd) _ k
theorem g_daload (X : Stand p l e R s m args below meth c T locs cells slots) (hx : p.tables.exec = Jvm.exec) {Z : State} (hZ : Z.Warmed39 s.vm) {h : Heap} {a : Addr} {k : ClassId} {n : Int32} {vs : List Value} {dv : Value} {j : Int32} {v : Value} (hby : c.code = bytes) (hd : decode bytes pc = .ok (.daload, 1)) (hp : pc + 1 = pc') (eT : T.heap = h) (F : Arv Z h a k .double n vs dv) (hj : ¬ j < 0 ∧ j < n) (u : vs.getD j.toNatClampNeg dv = v)
    (H : GoE p e below Fi (T.setTop (mkF m pc' Ls (v :: rest)))) : GoE p e below Fi (T.setTop (mkF m pc Ls (.int j :: .ref a :: rest))) := by
  subst hp
  obtain ⟨cl, A, q1, S, q3, Hh, G⟩ := F
  exact H.pull fun t k => X.daload hx (by rw [eT]; exact A.1) (State.isArrayOf_alike hZ.alike A.2.1) A.2.2 (inb_of S hj) (Hh.at (inb_of S hj) u) (g := mkF m pc Ls (.int j :: .ref a :: rest)) rfl rfl (hb hby hd) _ k
theorem g_aaload (X : Stand p l e R s m args below meth c T locs cells slots) (hx : p.tables.exec = Jvm.exec) {Z : State} (hZ : Z.Warmed39 s.vm) {h : Heap} {a : Addr} {k : ClassId} {n : Int32} {vs : List Value} {dv : Value} {ty : FieldType} {j : Int32} {v : Value} (hby : c.code = bytes) (hd : decode bytes pc = .ok (.aaload, 1)) (hp : pc + 1 = pc') (eT : T.heap = h) (F : Arv Z h a k ty n vs dv) (hty : ty.isReference = true) (hj : ¬ j < 0 ∧ j < n) (u : vs.getD j.toNatClampNeg dv = v)
    (H : GoE p e below Fi (T.setTop (mkF m pc' Ls (v :: rest)))) : GoE p e below Fi (T.setTop (mkF m pc Ls (.int j :: .ref a :: rest))) := by
  subst hp
  obtain ⟨cl, A, q1, S, q3, Hh, G⟩ := F
  exact H.pull fun t k => X.aaload hx (by rw [eT]; exact A.1) (State.isArrayOf_alike hZ.alike A.2.1) hty A.2.2 (inb_of S hj) (Hh.at (inb_of S hj) u) (g := mkF m pc Ls (.int j :: .ref a :: rest)) rfl rfl (hb hby hd) _ k
theorem g_alen (X : Stand p l e R s m args below meth c T locs cells slots) (hx : p.tables.exec = Jvm.exec) {Z : State} (hZ : Z.Warmed39 s.vm) {h : Heap} {a : Addr} {k : ClassId} {n : Int32} {vs : List Value} {dv : Value} {ty : FieldType} (hby : c.code = bytes) (hd : decode bytes pc = .ok (.arraylength, 1)) (hp : pc + 1 = pc') (eT : T.heap = h) (F : Arv Z h a k ty n vs dv)
    (H : GoE p e below Fi (T.setTop (mkF m pc' Ls (.int n :: rest)))) : GoE p e below Fi (T.setTop (mkF m pc Ls (.ref a :: rest))) := by
  subst hp
  obtain ⟨cl, A, q1, S, q3, Hh, G⟩ := F
  exact H.pull fun t k => X.arraylength hx (by rw [eT]; exact A.1) (State.isArrayOf_alike hZ.alike A.2.1) (g := mkF m pc Ls (.ref a :: rest)) rfl rfl (hb hby hd) _ (by rw [len_of S q3]; exact k)
theorem g_iastore (X : Stand p l e R s m args below meth c T locs cells slots) (hx : p.tables.exec = Jvm.exec) {Z : State} (hZ : Z.Warmed39 s.vm) {h : Heap} {a : Addr} {k : ClassId} {n : Int32} {vs : List Value} {dv : Value} {j : Int32} {x : Int32} (i : Nat) (hby : c.code = bytes) (hd : decode bytes pc = .ok (.iastore, 1)) (hp : pc + 1 = pc') (eT : T.heap = h) (F : Arv Z h a k .int n vs dv) (hj : ¬ j < 0 ∧ j < n) (hji : j.toNatClampNeg = i) (hi : i < vs.length)
    (K : ∀ T' : State, Stand p l e R s m args below meth c T' (locs ++ [⟨a, j.toNatClampNeg⟩]) cells slots → Wr h T'.heap a j.toNatClampNeg (.int x) → Arv Z T'.heap a k .int n (vs.set i (.int x)) dv → GoE p e below Fi (T'.setTop (mkF m pc' Ls rest))) : GoE p e below Fi (T.setTop (mkF m pc Ls (.int x :: .int j :: .ref a :: rest))) := by
  subst hp
  obtain ⟨cl, A, q1, S, q3, Hh, G⟩ := F
  obtain ⟨T2, h2, X2, e2, W2, st2⟩ := stI X hx hZ eT A (inb_of S hj) (g := mkF m pc Ls (.int x :: .int j :: .ref a :: rest)) rfl rfl (hb hby hd)
  subst e2
  exact (K T2 X2 W2 (Arv.set A q1 S q3 Hh G rfl W2 i hji hi)).pull st2
theorem g_lastore (X : Stand p l e R s m args below meth c T locs cells slots) (hx : p.tables.exec = Jvm.exec) {Z : State} (hZ : Z.Warmed39 s.vm) {h : Heap} {a : Addr} {k : ClassId} {n : Int32} {vs : List Value} {dv : Value} {j : Int32} {x : Int64} (i : Nat) (hby : c.code = bytes) (hd : decode bytes pc = .ok (.lastore, 1)) (hp : pc + 1 = pc') (eT : T.heap = h) (F : Arv Z h a k .long n vs dv) (hj : ¬ j < 0 ∧ j < n) (hji : j.toNatClampNeg = i) (hi : i < vs.length)
    (K : ∀ T' : State, Stand p l e R s m args below meth c T' (locs ++ [⟨a, j.toNatClampNeg⟩]) cells slots → Wr h T'.heap a j.toNatClampNeg (.long x) → Arv Z T'.heap a k .long n (vs.set i (.long x)) dv → GoE p e below Fi (T'.setTop (mkF m pc' Ls rest))) : GoE p e below Fi (T.setTop (mkF m pc Ls (.long x :: .int j :: .ref a :: rest))) := by
  subst hp
  obtain ⟨cl, A, q1, S, q3, Hh, G⟩ := F
  obtain ⟨T2, h2, X2, e2, W2, st2⟩ := stJ X hx hZ eT A (inb_of S hj) (g := mkF m pc Ls (.long x :: .int j :: .ref a :: rest)) rfl rfl (hb hby hd)
  subst e2
  exact (K T2 X2 W2 (Arv.set A q1 S q3 Hh G rfl W2 i hji hi)).pull st2
theorem g_castore (X : Stand p l e R s m args below meth c T locs cells slots) (hx : p.tables.exec = Jvm.exec) {Z : State} (hZ : Z.Warmed39 s.vm) {h : Heap} {a : Addr} {k : ClassId} {n : Int32} {vs : List Value} {dv : Value} {j : Int32} {x : Int32} (i : Nat) (hby : c.code = bytes) (hd : decode bytes pc = .ok (.castore, 1)) (hp : pc + 1 = pc') (eT : T.heap = h) (F : Arv Z h a k .char n vs dv) (hj : ¬ j < 0 ∧ j < n) (hji : j.toNatClampNeg = i) (hi : i < vs.length)
    (K : ∀ T' : State, Stand p l e R s m args below meth c T' (locs ++ [⟨a, j.toNatClampNeg⟩]) cells slots → Wr h T'.heap a j.toNatClampNeg (.int (nar .char x)) → Arv Z T'.heap a k .char n (vs.set i (.int (nar .char x))) dv → GoE p e below Fi (T'.setTop (mkF m pc' Ls rest))) : GoE p e below Fi (T.setTop (mkF m pc Ls (.int x :: .int j :: .ref a :: rest))) := by
  subst hp
  obtain ⟨cl, A, q1, S, q3, Hh, G⟩ := F
  obtain ⟨T2, h2, X2, e2, W2, st2⟩ := stC X hx hZ eT A (inb_of S hj) (g := mkF m pc Ls (.int x :: .int j :: .ref a :: rest)) rfl rfl (hb hby hd)
  subst e2
  exact (K T2 X2 W2 (Arv.set A q1 S q3 Hh G (fits_nar_char x) W2 i hji hi)).pull st2
theorem g_bastore (X : Stand p l e R s m args below meth c T locs cells slots) (hx : p.tables.exec = Jvm.exec) {Z : State} (hZ : Z.Warmed39 s.vm) {h : Heap} {a : Addr} {k : ClassId} {n : Int32} {vs : List Value} {dv : Value} {j : Int32} {x : Int32} (i : Nat) (hby : c.code = bytes) (hd : decode bytes pc = .ok (.bastore, 1)) (hp : pc + 1 = pc') (eT : T.heap = h) (F : Arv Z h a k .byte n vs dv) (hj : ¬ j < 0 ∧ j < n) (hji : j.toNatClampNeg = i) (hi : i < vs.length)
    (K : ∀ T' : State, Stand p l e R s m args below meth c T' (locs ++ [⟨a, j.toNatClampNeg⟩]) cells slots → Wr h T'.heap a j.toNatClampNeg (.int (nar .byte x)) → Arv Z T'.heap a k .byte n (vs.set i (.int (nar .byte x))) dv → GoE p e below Fi (T'.setTop (mkF m pc' Ls rest))) : GoE p e below Fi (T.setTop (mkF m pc Ls (.int x :: .int j :: .ref a :: rest))) := by
  subst hp
  obtain ⟨cl, A, q1, S, q3, Hh, G⟩ := F
  obtain ⟨T2, h2, X2, e2, W2, st2⟩ := stB X hx hZ eT A (inb_of S hj) (g := mkF m pc Ls (.int x :: .int j :: .ref a :: rest)) rfl rfl (hb hby hd)
  subst e2
  exact (K T2 X2 W2 (Arv.set A q1 S q3 Hh G (fits_nar_byte x) W2 i hji hi)).pull st2
theorem g_dastore (X : Stand p l e R s m args below meth c T locs cells slots) (hx : p.tables.exec = Jvm.exec) {Z : State} (hZ : Z.Warmed39 s.vm) {h : Heap} {a : Addr} {k : ClassId} {n : Int32} {vs : List Value} {dv : Value} {j : Int32} {x : UInt64} (i : Nat) (hby : c.code = bytes) (hd : decode bytes pc = .ok (.dastore, 1)) (hp : pc + 1 = pc') (eT : T.heap = h) (F : Arv Z h a k .double n vs dv) (hj : ¬ j < 0 ∧ j < n) (hji : j.toNatClampNeg = i) (hi : i < vs.length)
    (K : ∀ T' : State, Stand p l e R s m args below meth c T' (locs ++ [⟨a, j.toNatClampNeg⟩]) cells slots → Wr h T'.heap a j.toNatClampNeg (.double x) → Arv Z T'.heap a k .double n (vs.set i (.double x)) dv → GoE p e below Fi (T'.setTop (mkF m pc' Ls rest))) : GoE p e below Fi (T.setTop (mkF m pc Ls (.double x :: .int j :: .ref a :: rest))) := by
  subst hp
  obtain ⟨cl, A, q1, S, q3, Hh, G⟩ := F
  obtain ⟨T2, h2, X2, e2, W2, st2⟩ := stD X hx hZ eT A (inb_of S hj) (g := mkF m pc Ls (.double x :: .int j :: .ref a :: rest)) rfl rfl (hb hby hd)
  subst e2
  exact (K T2 X2 W2 (Arv.set A q1 S q3 Hh G rfl W2 i hji hi)).pull st2
theorem g_newarray (X : Stand p l e R s m args below meth c T locs cells slots) (hx : p.tables.exec = Jvm.exec) {Z : State} {a0 : Array Value} (hZ : Z.Warmed39 s.vm) {aty : ArrayType} {h : Heap} {n : Int32} (cap : Nat) (ad : String) (hby : c.code = bytes) (hd : decode bytes pc = .ok (.newarray aty, 2)) (hp : pc + 2 = pc') (w : (Jvm.Cond.arrayClass (newarray.typeOf aty)).before a0 Z = true) (eT : T.heap = h) (hn : ¬ n < 0) (hcap : n.toNatClampNeg ≤ cap) (hbg : cap * 8 ≤ 536870912) (hce : cells + 1 ≤ R.cells) (hsl : slots + cap ≤ R.slots) (had : "[" ++ (newarray.typeOf aty).toString = ad)
    (K : ∀ (T' : State) (b : Addr) (cA : ClassId), b = h.size → Stand p l e R s m args below meth c T' locs (cells + 1) (slots + cap) → Ext h T'.heap → Arv Z T'.heap b cA (newarray.typeOf aty) n (List.replicate cap (defaultValue (newarray.typeOf aty))) (defaultValue (newarray.typeOf aty)) → Exa Z T'.heap b ad → GoE p e below Fi (T'.setTop (mkF m pc' Ls (.ref b :: rest)))) : GoE p e below Fi (T.setTop (mkF m pc Ls (.int n :: rest))) := by
  subst hp
  obtain ⟨T2, h2, cA, X2, e2, E2, A2, Ex2, st2⟩ := newPE X hx hZ w eT (g := mkF m pc Ls (.int n :: rest)) rfl (hb hby hd) rfl hn hcap hbg hce hsl had
  subst e2
  exact (K T2 _ cA rfl X2 E2 ((Arv.new A2 hn).pad (pad_rep [] _ cap)) Ex2).pull st2
theorem g_lswHit (X : Stand p l e R s m args below meth c T locs cells slots) (hx : p.tables.exec = Jvm.exec) {k : Int32} {dflt : Int} {pairs : Array (Int × Int)} {len : Nat} {a off : Int} (hby : c.code = bytes) (hd : decode bytes pc = .ok (.lookupswitch dflt pairs, len)) (hs : (pairs.toList.zip (pairs.toList.drop 1)).all (fun (a, next) => a.1 < next.1) = true) (hf : pairs.find? (·.1 == k.toInt) = some (a, off)) (ho : 0 ≤ (pc : Int) + off) (hp : ((pc : Int) + off).toNat = pc')
    (H : GoE p e below Fi (T.setTop (mkF m pc' Ls rest))) : GoE p e below Fi (T.setTop (mkF m pc Ls (.int k :: rest))) := by
  subst hp
  exact H.pull fun t q => X.lookupswitchHit hx (g := mkF m pc Ls (.int k :: rest)) rfl rfl (hb hby hd) hs hf ho _ q
theorem g_lswMiss (X : Stand p l e R s m args below meth c T locs cells slots) (hx : p.tables.exec = Jvm.exec) {k : Int32} {dflt : Int} {pairs : Array (Int × Int)} {len : Nat} (hby : c.code = bytes) (hd : decode bytes pc = .ok (.lookupswitch dflt pairs, len)) (hs : (pairs.toList.zip (pairs.toList.drop 1)).all (fun (a, next) => a.1 < next.1) = true) (hf : pairs.find? (·.1 == k.toInt) = none) (ho : 0 ≤ (pc : Int) + dflt) (hp : ((pc : Int) + dflt).toNat = pc')
    (H : GoE p e below Fi (T.setTop (mkF m pc' Ls rest))) : GoE p e below Fi (T.setTop (mkF m pc Ls (.int k :: rest))) := by
  subst hp
  exact H.pull fun t q => X.lookupswitchMiss hx (g := mkF m pc Ls (.int k :: rest)) rfl rfl (hb hby hd) hs hf ho _ q
theorem g_castY (X : Stand p l e R s m args below meth c T locs cells slots) (hx : p.tables.exec = Jvm.exec) {Z : State} {a0 : Array Value} (hZ : Z.Warmed39 s.vm) {own : String} (hown : s.vm.findClass own = some m.cls) {C : String} {index : Nat} {h : Heap} {a : Addr} (hby : c.code = bytes) (hd : decode bytes pc = .ok (.checkcast index, 3)) (hp : pc + 3 = pc') (w : (Jvm.Cond.classLink own index C).before a0 Z = true) (eT : T.heap = h) (F : Ins Z h a C true)
    (K : ∀ T' : State, Stand p l e R s m args below meth c T' locs cells slots → T'.heap = h → GoE p e below Fi (T'.setTop (mkF m pc' Ls (.ref a :: rest)))) : GoE p e below Fi (T.setTop (mkF m pc Ls (.ref a :: rest))) := by
  subst hp
  obtain ⟨T2, X2, e2, st2⟩ := castY X hx hZ hown w eT F (g := mkF m pc Ls (.ref a :: rest)) rfl rfl (hb hby hd)
  exact (K T2 X2 e2).pull st2
theorem g_instY (X : Stand p l e R s m args below meth c T locs cells slots) (hx : p.tables.exec = Jvm.exec) {Z : State} {a0 : Array Value} (hZ : Z.Warmed39 s.vm) {own : String} (hown : s.vm.findClass own = some m.cls) {C : String} {index : Nat} {h : Heap} {a : Addr} (hby : c.code = bytes) (hd : decode bytes pc = .ok (.instanceof index, 3)) (hp : pc + 3 = pc') (w : (Jvm.Cond.classLink own index C).before a0 Z = true) (eT : T.heap = h) (F : Ins Z h a C true)
    (K : ∀ T' : State, Stand p l e R s m args below meth c T' locs cells slots → T'.heap = h → GoE p e below Fi (T'.setTop (mkF m pc' Ls (.int 1 :: rest)))) : GoE p e below Fi (T.setTop (mkF m pc Ls (.ref a :: rest))) := by
  subst hp
  obtain ⟨T2, X2, e2, st2⟩ := instY X hx hZ hown w eT F (g := mkF m pc Ls (.ref a :: rest)) rfl rfl (hb hby hd)
  exact (K T2 X2 e2).pull st2
theorem g_instNo (X : Stand p l e R s m args below meth c T locs cells slots) (hx : p.tables.exec = Jvm.exec) {Z : State} {a0 : Array Value} (hZ : Z.Warmed39 s.vm) {own : String} (hown : s.vm.findClass own = some m.cls) {C D : String} {index : Nat} {h : Heap} {a : Addr} (hby : c.code = bytes) (hd : decode bytes pc = .ok (.instanceof index, 3)) (hp : pc + 3 = pc') (w : (Jvm.Cond.classLink own index C).before a0 Z = true) (eT : T.heap = h) (E : Exa Z h a D) (F : ∃ c t, Z.vm.findClass D = some c ∧ Z.vm.findClass C = some t ∧ Z.vm.assignable c t = false)
    (K : ∀ T' : State, Stand p l e R s m args below meth c T' locs cells slots → T'.heap = h → GoE p e below Fi (T'.setTop (mkF m pc' Ls (.int 0 :: rest)))) : GoE p e below Fi (T.setTop (mkF m pc Ls (.ref a :: rest))) := by
  subst hp
  obtain ⟨T2, X2, e2, st2⟩ := instNo X hx hZ hown w eT E F (g := mkF m pc Ls (.ref a :: rest)) rfl rfl (hb hby hd)
  exact (K T2 X2 e2).pull st2
theorem g_callIf (X : Stand p l e R s m args below meth c T locs cells slots) (hx : p.tables.exec = Jvm.exec) {Z : State} {a0 : Array Value} (hZ : Z.Warmed39 s.vm) {own : String} (hown : s.vm.findClass own = some m.cls) {y : MethodName} {cb : ByteArray} {maxL : Nat} {ret : Option FieldType} {rm : Room} {as' : Array Value} {h : Heap} {Q' : Option Value → Heap → List Loc → Prop} {W : Nat} {index : Nat} {argsL : List Value} {b : Addr} {z : MethodName} {C0 : String} {count : Nat} (hby : c.code = bytes) (hd : decode bytes pc = .ok (.invokeinterface index count, 5)) (hp : pc + 5 = pc') (hml : Ls.size = c.maxLocals)
    (w1 : (Jvm.Cond.methodLink own index y).before a0 Z = true) (w2 : (Jvm.Cond.declares y).before a0 Z = true) (w7 : (Jvm.Cond.interfaceMethod y.cls y.cls y.name y.desc).before a0 Z = true) (hd7 : ((Jvm.Cond.interfaceMethod y.cls y.cls y.name y.desc).onTables && (Jvm.Cond.interfaceMethod y.cls y.cls y.name y.desc).keepsFace) = true) (w5 : (Jvm.Cond.selects C0 y z).before a0 Z = true) (w6 : (Jvm.Cond.instanceMethod z).before a0 Z = true) (w8 : (Jvm.Cond.publicMethod z).before a0 Z = true) (w9 : (Jvm.Cond.unhidden C0 y.name y.desc).before a0 Z = true) (w10 : (Jvm.Cond.castable C0 y.cls).before a0 Z = true) (w3 : (Jvm.Cond.initialized z.cls).before a0 Z = true) (w4 : (Jvm.Cond.code z cb maxL ret).before a0 Z = true) (hy : y.cls ≠ "java/lang/invoke/MethodHandle" ∧ y.cls ≠ "java/lang/invoke/VarHandle")
    (C : Ctr l Z z cb maxL ret [] rm as' h Q') (eT : T.heap = h) (E : Exa Z h b C0) (hfr : rm.frames + 1 ≤ R.frames) (hlo : W + (maxL + 11) + rm.locals ≤ R.locals) (hce : cells + rm.cells ≤ R.cells) (hsl : slots + rm.slots ≤ R.slots) {stk : List Value} {psig : MethodDescriptor} (has : (Value.ref b :: argsL).toArray = as') (hpd : parseMethodDescriptor y.desc = some psig) (hlen : argsL.length = psig.parameters.length) (hst : stk = argsL.reverse ++ Value.ref b :: rest) (hW : 2 * 0 + (rest.map fun v => v.category).sum ≤ W)
    (K : ∀ (v : Option Value) (T' : State) (L : List Loc), Stand p l e R s m args below meth c T' (locs ++ L) (cells + rm.cells) (slots + rm.slots) → Q' v T'.heap L → GoE p e below Fi (T'.setTop (mkF m pc' Ls (v.toList ++ rest)))) : GoE p e below Fi (T.setTop (mkF m pc Ls stk)) := by
  subst hp hst has
  obtain ⟨cq, kq, qa, qb, qc⟩ := isOf hZ eT E
  obtain ⟨v, _, ⟨T4, L4, k4, n4⟩, -, X4, ⟨Lc, hQ, l4, y4, z4⟩, st⟩ := X.interfaceBack hx (xi := y) (y := z) hown (mvT hZ w1) (mvT hZ w2) (mvT hZ w7 hd7) (mvT hZ w5) (mvT hZ w6) (mvT hZ w8) (mvT hZ w9) (mvT hZ w10) hy (backOf (W := W) C hZ w4 w3 hfr hlo) qa qb qc (g := mkF m pc Ls (argsL.reverse ++ Value.ref b :: rest)) rfl hml (Steps.refl _) (argsL := argsL) (rest := rest) (fun sig h => by rw [hpd] at h; cases h; exact hlen) rfl hW (hb hby hd) (fun _ _ => ⟨rfl, eT, hce, hsl⟩)
  dsimp only [Pt.U, Pt.locs, Pt.cells, Pt.slots] at X4 l4 y4 z4 st hQ
  subst l4 y4 z4
  exact (K v T4 Lc X4 hQ).pull fun t k => st.trans k
theorem g_anewarrayA (X : Stand p l e R s m args below meth c T locs cells slots) (hx : p.tables.exec = Jvm.exec) {Z : State} {a0 : Array Value} (hZ : Z.Warmed39 s.vm) {own : String} (hown : s.vm.findClass own = some m.cls) {C : String} {ty : FieldType} {index : Nat} {h : Heap} {n : Int32} (cap : Nat) (ad : String) (hby : c.code = bytes) (hd : decode bytes pc = .ok (.anewarray index, 3)) (hp : pc + 3 = pc') (hC : (FieldType.array ty).toString = C) (w1 : (Jvm.Cond.classLink own index C).before a0 Z = true) (w2 : (Jvm.Cond.arrayOver (.array ty)).before a0 Z = true) (eT : T.heap = h) (hn : ¬ n < 0) (hcap : n.toNatClampNeg ≤ cap) (hbg : cap * 8 ≤ 536870912) (hce : cells + 1 ≤ R.cells) (hsl : slots + cap ≤ R.slots) (had : "[" ++ C = ad)
    (K : ∀ (T' : State) (b : Addr) (cA : ClassId), b = h.size → Stand p l e R s m args below meth c T' locs (cells + 1) (slots + cap) → Ext h T'.heap → Arv Z T'.heap b cA (.array ty) n (List.replicate cap .null) .null → Exa Z T'.heap b ad → OvrA Z cA ty C → GoE p e below Fi (T'.setTop (mkF m pc' Ls (.ref b :: rest)))) : GoE p e below Fi (T.setTop (mkF m pc Ls (.int n :: rest))) := by
  subst hp
  obtain ⟨T2, h2, cA, X2, e2, E2, A2, Ex2, O2, st2⟩ := newRA X hx hZ hown hC w1 w2 eT (g := mkF m pc Ls (.int n :: rest)) rfl (hb hby hd) rfl hn hcap hbg hce hsl had
  subst e2
  exact (K T2 _ cA rfl X2 E2 ((Arv.new A2 hn).pad (pad_rep [] _ cap)) Ex2 O2).pull st2
theorem g_aastore (X : Stand p l e R s m args below meth c T locs cells slots) (hx : p.tables.exec = Jvm.exec) {Z : State} (hZ : Z.Warmed39 s.vm) {h : Heap} {a : Addr} {k : ClassId} {n : Int32} {vs : List Value} {dv : Value} {ty : FieldType} {j : Int32} {v : Value} (i : Nat) (hby : c.code = bytes) (hd : decode bytes pc = .ok (.aastore, 1)) (hp : pc + 1 = pc') (eT : T.heap = h) (F : Arv Z h a k ty n vs dv) (hty : ty.isReference = true) (hS : ∀ cl : Cell, Arr Z h a cl ty → cl.cls = k → Sto Z h a v) (hfv : fits ty v = true) (hj : ¬ j < 0 ∧ j < n) (hji : j.toNatClampNeg = i) (hi : i < vs.length)
    (K : ∀ T' : State, Stand p l e R s m args below meth c T' (locs ++ [⟨a, j.toNatClampNeg⟩]) cells slots → Wr h T'.heap a j.toNatClampNeg v → Arv Z T'.heap a k ty n (vs.set i v) dv → GoE p e below Fi (T'.setTop (mkF m pc' Ls rest))) : GoE p e below Fi (T.setTop (mkF m pc Ls (v :: .int j :: .ref a :: rest))) := by
  subst hp
  obtain ⟨cl, A, q1, S, q3, Hh, G⟩ := F
  obtain ⟨T2, h2, X2, e2, W2, st2⟩ := stR X hx hZ eT A (inb_of S hj) hty (hS cl A q1) (g := mkF m pc Ls (v :: .int j :: .ref a :: rest)) rfl rfl (hb hby hd)
  subst e2
  exact (K T2 X2 W2 (Arv.set A q1 S q3 Hh G hfv W2 i hji hi)).pull st2
theorem g_eqI {a b : Int32} (h : a = b) (K : GoE p e below Fi (T.setTop (mkF m pc Ls (.int b :: rest)))) : GoE p e below Fi (T.setTop (mkF m pc Ls (.int a :: rest))) := h ▸ K
theorem g_eqL {a b : Int64} (h : a = b) (K : GoE p e below Fi (T.setTop (mkF m pc Ls (.long b :: rest)))) : GoE p e below Fi (T.setTop (mkF m pc Ls (.long a :: rest))) := h ▸ K
theorem g_newarrayV (X : Stand p l e R s m args below meth c T locs cells slots) (hx : p.tables.exec = Jvm.exec) {Z : State} {a0 : Array Value} (hZ : Z.Warmed39 s.vm) {aty : ArrayType} {h : Heap} {n : Int32} (cap vc : Nat) (ad : String) (hby : c.code = bytes) (hd : decode bytes pc = .ok (.newarray aty, 2)) (hp : pc + 2 = pc') (w : (Jvm.Cond.arrayClass (newarray.typeOf aty)).before a0 Z = true) (eT : T.heap = h) (hn : ¬ n < 0) (hcap : n.toNatClampNeg ≤ cap) (hbg : cap * 8 ≤ 536870912) (hce : cells + 1 ≤ R.cells) (hsl : slots + cap ≤ R.slots) (had : "[" ++ (newarray.typeOf aty).toString = ad)
    (K : ∀ (T' : State) (b : Addr) (cA : ClassId), b = h.size → Stand p l e R s m args below meth c T' locs (cells + 1) (slots + cap) → Ext h T'.heap → Arv Z T'.heap b cA (newarray.typeOf aty) n (List.replicate vc (defaultValue (newarray.typeOf aty))) (defaultValue (newarray.typeOf aty)) → Exa Z T'.heap b ad → GoE p e below Fi (T'.setTop (mkF m pc' Ls (.ref b :: rest)))) : GoE p e below Fi (T.setTop (mkF m pc Ls (.int n :: rest))) := by
  subst hp
  obtain ⟨T2, h2, cA, X2, e2, E2, A2, Ex2, st2⟩ := newPE X hx hZ w eT (g := mkF m pc Ls (.int n :: rest)) rfl (hb hby hd) rfl hn hcap hbg hce hsl had
  subst e2
  exact (K T2 _ cA rfl X2 E2 ((Arv.new A2 hn).pad (pad_rep [] _ vc)) Ex2).pull st2
theorem g_arraycopy (X : Stand p l e R s m args below meth c T locs cells slots) (hx : p.tables.exec = Jvm.exec) {Z : State} {a0 : Array Value} (hZ : Z.Warmed39 s.vm) {own : String} (hown : s.vm.findClass own = some m.cls) {index : Nat} {h : Heap} {a b : Addr} {k k' : ClassId} {ty : FieldType} {n z' sp dp nn : Int32} {vs vd us : List Value} {dv dd : Value} {W n0 : Nat} (hby : c.code = bytes) (hd : decode bytes pc = .ok (.invokestatic index, 3)) (hp : pc + 3 = pc') (hml : Ls.size = c.maxLocals)
    (w1 : (Jvm.Cond.methodLink own index Jvm.Stand.acN).before a0 Z = true) (w2 : (Jvm.Cond.native Jvm.Stand.acN).before a0 Z = true) (w3 : (Jvm.Cond.static Jvm.Stand.acN).before a0 Z = true) (w4 : (Jvm.Cond.initialized "java/lang/System").before a0 Z = true) (eT : T.heap = h) (A : Arv Z h a k ty n vs dv) (B : Arv Z h b k' ty z' vd dd) (hr : refKind ty = false)
    (h1 : ¬ sp < 0) (h2 : ¬ dp < 0) (h3 : ¬ nn < 0) (h4 : sp.toNatClampNeg + nn.toNatClampNeg ≤ n.toNatClampNeg) (h5 : dp.toNatClampNeg + nn.toNatClampNeg ≤ z'.toNatClampNeg) (hus : us = (List.range nn.toNatClampNeg).map fun i => vs.getD (sp.toNatClampNeg + i) dv) (hl : dp.toNatClampNeg + nn.toNatClampNeg ≤ vd.length) (N : Fr n0 locs) (ge : n0 ≤ b)
    (hf : 1 ≤ R.frames) (hW : 2 * 0 + (rest.map fun v => v.category).sum ≤ W) (hlo : W + (nativeFrameWords "java/lang/System" "arraycopy" 5 + 11) ≤ R.locals)
    (K : ∀ (T' : State) (L : List Loc), Stand p l e R s m args below meth c T' L cells slots → Fr n0 L → Keep h T'.heap [b] → Arv Z T'.heap b k' ty z' (vd.take dp.toNatClampNeg ++ us ++ vd.drop (dp.toNatClampNeg + nn.toNatClampNeg)) dd → GoE p e below Fi (T'.setTop (mkF m pc' Ls rest))) : GoE p e below Fi (T.setTop (mkF m pc Ls (.int nn :: .int dp :: .ref b :: .int sp :: .ref a :: rest))) := by
  subst hp
  obtain ⟨T2, h2', L2, X2, e2, N2, K2, A2, st2⟩ := cpA X hx hZ hown w1 w2 w3 w4 eT A B (Or.inl ⟨rfl, hr⟩) h1 h2 h3 h4 h5 hus hl N ge (g := mkF m pc Ls (.int nn :: .int dp :: .ref b :: .int sp :: .ref a :: rest)) rfl hml rfl (hb hby hd) hf hW hlo
  subst e2
  exact (K T2 L2 X2 N2 K2 A2).pull st2
end GoKit
def minL (a b : Int64) : Int64 := if b < a then b else a
def maxL (a b : Int64) : Int64 := if a < b then b else a
def conL (f l d : Int64) : Int32 := if d < f then 0 else if l < d then 0 else 1
def clampL (f l d : Int64) : Int32 := if maxL f (minL d l) = d then 1 else 0
theorem own_le (a b : Int64) : (minL a b).toInt ≤ (maxL a b).toInt := by
  unfold minL maxL
  by_cases h : b < a
  · rw [if_pos h]; rw [Int64.lt_iff_toInt_lt] at h; split <;> rename_i h2 <;> rw [Int64.lt_iff_toInt_lt] at h2 <;> omega
  · rw [if_neg h]; rw [Int64.lt_iff_toInt_lt] at h; split <;> rename_i h2 <;> rw [Int64.lt_iff_toInt_lt] at h2 <;> omega
theorem own_con (f l d : Int64) : conL f l d = if f.toInt ≤ d.toInt ∧ d.toInt ≤ l.toInt then 1 else 0 := by
  unfold conL
  simp only [Int64.lt_iff_toInt_lt]
  by_cases h : d.toInt < f.toInt
  · rw [if_pos h, if_neg (by omega)]
  · rw [if_neg h]
    by_cases h2 : l.toInt < d.toInt
    · rw [if_pos h2, if_neg (by omega)]
    · rw [if_neg h2, if_pos (by omega)]
theorem own_maxI (a b : Int64) : (maxL a b).toInt = if a.toInt < b.toInt then b.toInt else a.toInt := by
  unfold maxL; simp only [Int64.lt_iff_toInt_lt]; split <;> rfl
theorem own_minI (a b : Int64) : (minL a b).toInt = if b.toInt < a.toInt then b.toInt else a.toInt := by
  unfold minL; simp only [Int64.lt_iff_toInt_lt]; split <;> rfl
theorem own_cl (f l d : Int64) (h : f.toInt ≤ l.toInt) : conL f l d = clampL f l d := by
  rw [own_con]; unfold clampL
  have e : (maxL f (minL d l) = d) ↔ (f.toInt ≤ d.toInt ∧ d.toInt ≤ l.toInt) := by
    rw [← Int64.toInt_inj, own_maxI, own_minI]
    by_cases h1 : l.toInt < d.toInt
    · rw [if_pos h1]; split <;> omega
    · rw [if_neg h1]; split <;> omega
  simp only [e]
theorem own_c1 (f l : Int64) (h : f.toInt ≤ l.toInt) : ¬ (conL f l f = 0) := by
  rw [own_con, if_pos (by omega)]; decide
theorem own_c2 (f l : Int64) (h : f.toInt ≤ l.toInt) : ¬ (conL f l l = 0) := by
  rw [own_con, if_pos (by omega)]; decide
theorem own_c3 (f l : Int64) (h : ¬ (f = -9223372036854775808)) : conL f l (f - 1) = 0 := by
  have h1 := c_lsub f 1
  have h2 := rng64 f
  have h3 := rng64 (f - 1)
  have e : (1 : Int64).toInt = 1 := rfl
  have h4 : f.toInt ≠ -9223372036854775808 := fun q => h (Int64.toInt_inj.mp q)
  rw [own_con, if_neg (by omega)]
theorem own_c4 (f l : Int64) (h : ¬ (l = 9223372036854775807)) : conL f l (l + 1) = 0 := by
  have h1 := c_ladd l 1
  have h2 := rng64 l
  have h3 := rng64 (l + 1)
  have e : (1 : Int64).toInt = 1 := rfl
  have h4 : l.toInt ≠ 9223372036854775807 := fun q => h (Int64.toInt_inj.mp q)
  rw [own_con, if_neg (by omega)]
theorem own_nc (f l d : Int64) : nar .boolean (conL f l d) = conL f l d := by
  rw [own_con]; split <;> rfl
theorem own_ncl (f l d : Int64) : nar .boolean (clampL f l d) = clampL f l d := by
  unfold clampL; split <;> rfl
theorem w_0 {Z : State} {a0 : Array Value} (hw : ∀ d ∈ tables_1, d.before a0 Z = true) : (Jvm.Cond.methodLink "com/example/novatio/novatio/conditions/WindowContainsPinLaw" (7 : Nat) ({ cls := "java/lang/Math", name := "min", desc := "(JJ)J" } : Jvm.MethodName)).before a0 Z = true := hw _ (List.mem_of_getElem? (i := 0) rfl)
theorem w_1 {Z : State} {a0 : Array Value} (hw : ∀ d ∈ tables_1, d.before a0 Z = true) : (Jvm.Cond.static ({ cls := "java/lang/Math", name := "min", desc := "(JJ)J" } : Jvm.MethodName)).before a0 Z = true := hw _ (List.mem_of_getElem? (i := 1) rfl)
theorem w_2 {Z : State} {a0 : Array Value} (hw : ∀ d ∈ tables_1, d.before a0 Z = true) : (Jvm.Cond.initialized "java/lang/Math").before a0 Z = true := hw _ (List.mem_of_getElem? (i := 2) rfl)
theorem w_3 {Z : State} {a0 : Array Value} (hw : ∀ d ∈ tables_1, d.before a0 Z = true) : (Jvm.Cond.code ({ cls := "java/lang/Math", name := "min", desc := "(JJ)J" } : Jvm.MethodName) jdk_29_method_70_code (4 : Nat) (Option.some Jvm.ClassFile.FieldType.long)).before a0 Z = true := hw _ (List.mem_of_getElem? (i := 3) rfl)
theorem w_4 {Z : State} {a0 : Array Value} (hw : ∀ d ∈ tables_1, d.before a0 Z = true) : (Jvm.Cond.methodLink "com/example/novatio/novatio/conditions/WindowContainsPinLaw" (13 : Nat) ({ cls := "java/lang/Math", name := "max", desc := "(JJ)J" } : Jvm.MethodName)).before a0 Z = true := hw _ (List.mem_of_getElem? (i := 4) rfl)
theorem w_5 {Z : State} {a0 : Array Value} (hw : ∀ d ∈ tables_1, d.before a0 Z = true) : (Jvm.Cond.static ({ cls := "java/lang/Math", name := "max", desc := "(JJ)J" } : Jvm.MethodName)).before a0 Z = true := hw _ (List.mem_of_getElem? (i := 5) rfl)
theorem w_6 {Z : State} {a0 : Array Value} (hw : ∀ d ∈ tables_1, d.before a0 Z = true) : (Jvm.Cond.code ({ cls := "java/lang/Math", name := "max", desc := "(JJ)J" } : Jvm.MethodName) jdk_29_method_66_code (4 : Nat) (Option.some Jvm.ClassFile.FieldType.long)).before a0 Z = true := hw _ (List.mem_of_getElem? (i := 6) rfl)
theorem w_7 {Z : State} {a0 : Array Value} (hw : ∀ d ∈ tables_1, d.before a0 Z = true) : (Jvm.Cond.classLink "com/example/novatio/novatio/conditions/WindowContainsPinLaw" (16 : Nat) "com/example/novatio/novatio/conditions/FloatingIndex$Window").before a0 Z = true := hw _ (List.mem_of_getElem? (i := 7) rfl)
theorem w_8 {Z : State} {a0 : Array Value} (hw : ∀ d ∈ tables_1, d.before a0 Z = true) : (Jvm.Cond.instantiable "com/example/novatio/novatio/conditions/FloatingIndex$Window" (2 : Nat)).before a0 Z = true := hw _ (List.mem_of_getElem? (i := 8) rfl)
theorem w_9 {Z : State} {a0 : Array Value} (hw : ∀ d ∈ tables_1, d.before a0 Z = true) : (Jvm.Cond.initialized "com/example/novatio/novatio/conditions/FloatingIndex$Window").before a0 Z = true := hw _ (List.mem_of_getElem? (i := 9) rfl)
theorem w_10 {Z : State} {a0 : Array Value} (hw : ∀ d ∈ tables_1, d.before a0 Z = true) : (Jvm.Cond.methodLink "com/example/novatio/novatio/conditions/WindowContainsPinLaw" (18 : Nat) ({ cls := "com/example/novatio/novatio/conditions/FloatingIndex$Window", name := "<init>", desc := "(JJ)V" } : Jvm.MethodName)).before a0 Z = true := hw _ (List.mem_of_getElem? (i := 10) rfl)
theorem w_11 {Z : State} {a0 : Array Value} (hw : ∀ d ∈ tables_1, d.before a0 Z = true) : (Jvm.Cond.instanceMethod ({ cls := "com/example/novatio/novatio/conditions/FloatingIndex$Window", name := "<init>", desc := "(JJ)V" } : Jvm.MethodName)).before a0 Z = true := hw _ (List.mem_of_getElem? (i := 11) rfl)
theorem w_12 {Z : State} {a0 : Array Value} (hw : ∀ d ∈ tables_1, d.before a0 Z = true) : (Jvm.Cond.code ({ cls := "com/example/novatio/novatio/conditions/FloatingIndex$Window", name := "<init>", desc := "(JJ)V" } : Jvm.MethodName) prog_59_method_1_code (5 : Nat) (Option.none : Option Jvm.ClassFile.FieldType)).before a0 Z = true := hw _ (List.mem_of_getElem? (i := 12) rfl)
theorem w_13 {Z : State} {a0 : Array Value} (hw : ∀ d ∈ tables_1, d.before a0 Z = true) : (Jvm.Cond.methodLink "com/example/novatio/novatio/conditions/FloatingIndex$Window" (1 : Nat) ({ cls := "java/lang/Record", name := "<init>", desc := "()V" } : Jvm.MethodName)).before a0 Z = true := hw _ (List.mem_of_getElem? (i := 13) rfl)
theorem w_14 {Z : State} {a0 : Array Value} (hw : ∀ d ∈ tables_1, d.before a0 Z = true) : (Jvm.Cond.instanceMethod ({ cls := "java/lang/Record", name := "<init>", desc := "()V" } : Jvm.MethodName)).before a0 Z = true := hw _ (List.mem_of_getElem? (i := 14) rfl)
theorem w_16 {Z : State} {a0 : Array Value} (hw : ∀ d ∈ tables_1, d.before a0 Z = true) : (Jvm.Cond.initialized "java/lang/Record").before a0 Z = true := hw _ (List.mem_of_getElem? (i := 16) rfl)
theorem w_17 {Z : State} {a0 : Array Value} (hw : ∀ d ∈ tables_1, d.before a0 Z = true) : (Jvm.Cond.code ({ cls := "java/lang/Record", name := "<init>", desc := "()V" } : Jvm.MethodName) jdk_30_method_1_code (1 : Nat) (Option.none : Option Jvm.ClassFile.FieldType)).before a0 Z = true := hw _ (List.mem_of_getElem? (i := 17) rfl)
theorem w_18 {Z : State} {a0 : Array Value} (hw : ∀ d ∈ tables_1, d.before a0 Z = true) : (Jvm.Cond.methodLink "java/lang/Record" (1 : Nat) ({ cls := "java/lang/Object", name := "<init>", desc := "()V" } : Jvm.MethodName)).before a0 Z = true := hw _ (List.mem_of_getElem? (i := 18) rfl)
theorem w_19 {Z : State} {a0 : Array Value} (hw : ∀ d ∈ tables_1, d.before a0 Z = true) : (Jvm.Cond.instanceMethod ({ cls := "java/lang/Object", name := "<init>", desc := "()V" } : Jvm.MethodName)).before a0 Z = true := hw _ (List.mem_of_getElem? (i := 19) rfl)
theorem w_20 {Z : State} {a0 : Array Value} (hw : ∀ d ∈ tables_1, d.before a0 Z = true) : (Jvm.Cond.code ({ cls := "java/lang/Object", name := "<init>", desc := "()V" } : Jvm.MethodName) object_method_1_code (1 : Nat) (Option.none : Option Jvm.ClassFile.FieldType)).before a0 Z = true := hw _ (List.mem_of_getElem? (i := 20) rfl)
theorem w_21 {Z : State} {a0 : Array Value} (hw : ∀ d ∈ tables_1, d.before a0 Z = true) : (Jvm.Cond.fieldLink "com/example/novatio/novatio/conditions/FloatingIndex$Window" (7 : Nat) "com/example/novatio/novatio/conditions/FloatingIndex$Window" "first" "J").before a0 Z = true := hw _ (List.mem_of_getElem? (i := 21) rfl)
theorem w_22 {Z : State} {a0 : Array Value} (hw : ∀ d ∈ tables_1, d.before a0 Z = true) : (Jvm.Cond.laysFinal "com/example/novatio/novatio/conditions/FloatingIndex$Window" "com/example/novatio/novatio/conditions/FloatingIndex$Window" "first" "J").before a0 Z = true := hw _ (List.mem_of_getElem? (i := 22) rfl)
theorem w_23 {Z : State} {a0 : Array Value} (hw : ∀ d ∈ tables_1, d.before a0 Z = true) : (Jvm.Cond.fieldLink "com/example/novatio/novatio/conditions/FloatingIndex$Window" (13 : Nat) "com/example/novatio/novatio/conditions/FloatingIndex$Window" "last" "J").before a0 Z = true := hw _ (List.mem_of_getElem? (i := 23) rfl)
theorem w_24 {Z : State} {a0 : Array Value} (hw : ∀ d ∈ tables_1, d.before a0 Z = true) : (Jvm.Cond.laysFinal "com/example/novatio/novatio/conditions/FloatingIndex$Window" "com/example/novatio/novatio/conditions/FloatingIndex$Window" "last" "J").before a0 Z = true := hw _ (List.mem_of_getElem? (i := 24) rfl)
theorem w_25 {Z : State} {a0 : Array Value} (hw : ∀ d ∈ tables_1, d.before a0 Z = true) : (Jvm.Cond.methodLink "com/example/novatio/novatio/conditions/WindowContainsPinLaw" (21 : Nat) ({ cls := "com/example/novatio/novatio/conditions/FloatingIndex$Window", name := "contains", desc := "(J)Z" } : Jvm.MethodName)).before a0 Z = true := hw _ (List.mem_of_getElem? (i := 25) rfl)
theorem w_26 {Z : State} {a0 : Array Value} (hw : ∀ d ∈ tables_1, d.before a0 Z = true) : (Jvm.Cond.declares ({ cls := "com/example/novatio/novatio/conditions/FloatingIndex$Window", name := "contains", desc := "(J)Z" } : Jvm.MethodName)).before a0 Z = true := hw _ (List.mem_of_getElem? (i := 26) rfl)
theorem w_27 {Z : State} {a0 : Array Value} (hw : ∀ d ∈ tables_1, d.before a0 Z = true) : (Jvm.Cond.instanceMethod ({ cls := "com/example/novatio/novatio/conditions/FloatingIndex$Window", name := "contains", desc := "(J)Z" } : Jvm.MethodName)).before a0 Z = true := hw _ (List.mem_of_getElem? (i := 27) rfl)
theorem w_28 {Z : State} {a0 : Array Value} (hw : ∀ d ∈ tables_1, d.before a0 Z = true) : (Jvm.Cond.selects "com/example/novatio/novatio/conditions/FloatingIndex$Window" ({ cls := "com/example/novatio/novatio/conditions/FloatingIndex$Window", name := "contains", desc := "(J)Z" } : Jvm.MethodName) ({ cls := "com/example/novatio/novatio/conditions/FloatingIndex$Window", name := "contains", desc := "(J)Z" } : Jvm.MethodName)).before a0 Z = true := hw _ (List.mem_of_getElem? (i := 28) rfl)
theorem w_29 {Z : State} {a0 : Array Value} (hw : ∀ d ∈ tables_1, d.before a0 Z = true) : (Jvm.Cond.code ({ cls := "com/example/novatio/novatio/conditions/FloatingIndex$Window", name := "contains", desc := "(J)Z" } : Jvm.MethodName) prog_59_method_2_code (3 : Nat) (Option.some Jvm.ClassFile.FieldType.boolean)).before a0 Z = true := hw _ (List.mem_of_getElem? (i := 29) rfl)
theorem w_30 {Z : State} {a0 : Array Value} (hw : ∀ d ∈ tables_1, d.before a0 Z = true) : (Jvm.Cond.constantLong "com/example/novatio/novatio/conditions/WindowContainsPinLaw" (27 : Nat) (-9223372036854775808 : Int64)).before a0 Z = true := hw _ (List.mem_of_getElem? (i := 30) rfl)
theorem w_31 {Z : State} {a0 : Array Value} (hw : ∀ d ∈ tables_1, d.before a0 Z = true) : (Jvm.Cond.constantLong "com/example/novatio/novatio/conditions/WindowContainsPinLaw" (29 : Nat) (9223372036854775807 : Int64)).before a0 Z = true := hw _ (List.mem_of_getElem? (i := 31) rfl)
theorem w_32 {Z : State} {a0 : Array Value} (hw : ∀ d ∈ tables_1, d.before a0 Z = true) : (Jvm.Cond.methodLink "com/example/novatio/novatio/conditions/WindowContainsPinLaw" (31 : Nat) ({ cls := "com/example/novatio/novatio/conditions/WindowContainsPinLaw", name := "clampRef", desc := "(JJJ)Z" } : Jvm.MethodName)).before a0 Z = true := hw _ (List.mem_of_getElem? (i := 32) rfl)
theorem w_33 {Z : State} {a0 : Array Value} (hw : ∀ d ∈ tables_1, d.before a0 Z = true) : (Jvm.Cond.static ({ cls := "com/example/novatio/novatio/conditions/WindowContainsPinLaw", name := "clampRef", desc := "(JJJ)Z" } : Jvm.MethodName)).before a0 Z = true := hw _ (List.mem_of_getElem? (i := 33) rfl)
theorem w_34 {Z : State} {a0 : Array Value} (hw : ∀ d ∈ tables_1, d.before a0 Z = true) : (Jvm.Cond.initialized "com/example/novatio/novatio/conditions/WindowContainsPinLaw").before a0 Z = true := hw _ (List.mem_of_getElem? (i := 34) rfl)
theorem w_35 {Z : State} {a0 : Array Value} (hw : ∀ d ∈ tables_1, d.before a0 Z = true) : (Jvm.Cond.code ({ cls := "com/example/novatio/novatio/conditions/WindowContainsPinLaw", name := "clampRef", desc := "(JJJ)Z" } : Jvm.MethodName) method_2_code (8 : Nat) (Option.some Jvm.ClassFile.FieldType.boolean)).before a0 Z = true := hw _ (List.mem_of_getElem? (i := 35) rfl)
theorem d1_0 : decode jdk_29_method_70_code 0 = .ok (.lload_n 0, 1) := by decide +kernel
theorem d1_1 : decode jdk_29_method_70_code 1 = .ok (.lload_n 2, 1) := by decide +kernel
theorem d1_2 : decode jdk_29_method_70_code 2 = .ok (.lcmp, 1) := by decide +kernel
theorem d1_3 : decode jdk_29_method_70_code 3 = .ok (.ifCond .gt 7, 3) := by decide +kernel
theorem d1_6 : decode jdk_29_method_70_code 6 = .ok (.lload_n 0, 1) := by decide +kernel
theorem d1_7 : decode jdk_29_method_70_code 7 = .ok (.goto 4, 3) := by decide +kernel
theorem d1_10 : decode jdk_29_method_70_code 10 = .ok (.lload_n 2, 1) := by decide +kernel
theorem d1_11 : decode jdk_29_method_70_code 11 = .ok (.lreturn, 1) := by decide +kernel
theorem d2_0 : decode jdk_29_method_66_code 0 = .ok (.lload_n 0, 1) := by decide +kernel
theorem d2_1 : decode jdk_29_method_66_code 1 = .ok (.lload_n 2, 1) := by decide +kernel
theorem d2_2 : decode jdk_29_method_66_code 2 = .ok (.lcmp, 1) := by decide +kernel
theorem d2_3 : decode jdk_29_method_66_code 3 = .ok (.ifCond .lt 7, 3) := by decide +kernel
theorem d2_6 : decode jdk_29_method_66_code 6 = .ok (.lload_n 0, 1) := by decide +kernel
theorem d2_7 : decode jdk_29_method_66_code 7 = .ok (.goto 4, 3) := by decide +kernel
theorem d2_10 : decode jdk_29_method_66_code 10 = .ok (.lload_n 2, 1) := by decide +kernel
theorem d2_11 : decode jdk_29_method_66_code 11 = .ok (.lreturn, 1) := by decide +kernel
theorem d4_0 : decode jdk_30_method_1_code 0 = .ok (.aload_n 0, 1) := by decide +kernel
theorem d4_1 : decode jdk_30_method_1_code 1 = .ok (.invokespecial 1, 3) := by decide +kernel
theorem d4_4 : decode jdk_30_method_1_code 4 = .ok (.return_, 1) := by decide +kernel
theorem d3_0 : decode prog_59_method_1_code 0 = .ok (.aload_n 0, 1) := by decide +kernel
theorem d3_1 : decode prog_59_method_1_code 1 = .ok (.invokespecial 1, 3) := by decide +kernel
theorem d3_4 : decode prog_59_method_1_code 4 = .ok (.aload_n 0, 1) := by decide +kernel
theorem d3_5 : decode prog_59_method_1_code 5 = .ok (.lload_n 1, 1) := by decide +kernel
theorem d3_6 : decode prog_59_method_1_code 6 = .ok (.putfield 7, 3) := by decide +kernel
theorem d3_9 : decode prog_59_method_1_code 9 = .ok (.aload_n 0, 1) := by decide +kernel
theorem d3_10 : decode prog_59_method_1_code 10 = .ok (.lload_n 3, 1) := by decide +kernel
theorem d3_11 : decode prog_59_method_1_code 11 = .ok (.putfield 13, 3) := by decide +kernel
theorem d3_14 : decode prog_59_method_1_code 14 = .ok (.return_, 1) := by decide +kernel
theorem d6_0 : decode prog_59_method_2_code 0 = .ok (.aload_n 0, 1) := by decide +kernel
theorem d6_1 : decode prog_59_method_2_code 1 = .ok (.getfield 7, 3) := by decide +kernel
theorem d6_4 : decode prog_59_method_2_code 4 = .ok (.lload_n 1, 1) := by decide +kernel
theorem d6_5 : decode prog_59_method_2_code 5 = .ok (.lcmp, 1) := by decide +kernel
theorem d6_6 : decode prog_59_method_2_code 6 = .ok (.ifCond .gt 16, 3) := by decide +kernel
theorem d6_9 : decode prog_59_method_2_code 9 = .ok (.lload_n 1, 1) := by decide +kernel
theorem d6_10 : decode prog_59_method_2_code 10 = .ok (.aload_n 0, 1) := by decide +kernel
theorem d6_11 : decode prog_59_method_2_code 11 = .ok (.getfield 13, 3) := by decide +kernel
theorem d6_14 : decode prog_59_method_2_code 14 = .ok (.lcmp, 1) := by decide +kernel
theorem d6_15 : decode prog_59_method_2_code 15 = .ok (.ifCond .gt 7, 3) := by decide +kernel
theorem d6_18 : decode prog_59_method_2_code 18 = .ok (.iconst 1, 1) := by decide +kernel
theorem d6_19 : decode prog_59_method_2_code 19 = .ok (.goto 4, 3) := by decide +kernel
theorem d6_22 : decode prog_59_method_2_code 22 = .ok (.iconst 0, 1) := by decide +kernel
theorem d6_23 : decode prog_59_method_2_code 23 = .ok (.ireturn, 1) := by decide +kernel
theorem d7_0 : decode method_2_code 0 = .ok (.lload_n 0, 1) := by decide +kernel
theorem d7_1 : decode method_2_code 1 = .ok (.lload 4, 2) := by decide +kernel
theorem d7_3 : decode method_2_code 3 = .ok (.lload_n 2, 1) := by decide +kernel
theorem d7_4 : decode method_2_code 4 = .ok (.invokestatic 7, 3) := by decide +kernel
theorem d7_7 : decode method_2_code 7 = .ok (.invokestatic 13, 3) := by decide +kernel
theorem d7_10 : decode method_2_code 10 = .ok (.lstore 6, 2) := by decide +kernel
theorem d7_12 : decode method_2_code 12 = .ok (.lload 6, 2) := by decide +kernel
theorem d7_14 : decode method_2_code 14 = .ok (.lload 4, 2) := by decide +kernel
theorem d7_16 : decode method_2_code 16 = .ok (.lcmp, 1) := by decide +kernel
theorem d7_17 : decode method_2_code 17 = .ok (.ifCond .ne 7, 3) := by decide +kernel
theorem d7_20 : decode method_2_code 20 = .ok (.iconst 1, 1) := by decide +kernel
theorem d7_21 : decode method_2_code 21 = .ok (.goto 4, 3) := by decide +kernel
theorem d7_24 : decode method_2_code 24 = .ok (.iconst 0, 1) := by decide +kernel
theorem d7_25 : decode method_2_code 25 = .ok (.ireturn, 1) := by decide +kernel
theorem pd__28_29V : parseMethodDescriptor "()V" = some ⟨[], none⟩ := by decide +kernel
theorem pd__28JJ_29J : parseMethodDescriptor "(JJ)J" = some ⟨[.long, .long], some .long⟩ := by decide +kernel
theorem pd__28JJ_29V : parseMethodDescriptor "(JJ)V" = some ⟨[.long, .long], none⟩ := by decide +kernel
theorem pd__28J_29Z : parseMethodDescriptor "(J)Z" = some ⟨[.long], some .boolean⟩ := by decide +kernel
theorem pd__28JJJ_29Z : parseMethodDescriptor "(JJJ)Z" = some ⟨[.long, .long, .long], some .boolean⟩ := by decide +kernel
theorem ef_rm1 (q1 : Int64) (q2 : Int64) (m : MethodId) : entryFrame m #[.long q1, .long q2] 4 = mkF m 0 #[.val (.long q1), .second, .val (.long q2), .second] [] := by
  first | (simp [entryFrame, mkF, argsToLocals, Value.category]; done) | rfl
set_option maxRecDepth 65536 in
set_option maxHeartbeats 40000000 in
theorem rm1 (l : Launch) (Z : State) (a0 : Array Value) (hw : ∀ d ∈ tables_1, d.before a0 Z = true) (ws : List Jvm.Cond) (q1 : Int64) (q2 : Int64) (h0 : Heap) (n0 : Nat)  :
    Ctr l Z ({ cls := "java/lang/Math", name := "min", desc := "(JJ)J" } : Jvm.MethodName) jdk_29_method_70_code 4 (some .long) ws ({ frames := 0, cells := 0, slots := 0, locals := 0 } : Room) #[.long q1, .long q2] h0 (fun v h L => v = some (.long (minL q1 q2)) ∧ Fr n0 L ∧ h = h0) := by
  refine Ctr.enter (Ls := #[.val (.long q1), .second, .val (.long q2), .second]) (by decide +kernel) (fun m => ef_rm1 q1 q2 m) ?_
  intro p e s m below meth c T hx hby hml hown hnm hret hlk hZ hh X0 e0
  have N0 := Fr.nil n0
  refine g_lloadN X0 hx hby d1_0 (pc' := 1) rfl rfl ?_
  refine g_lloadN X0 hx hby d1_1 (pc' := 2) rfl rfl ?_
  refine g_lcmp X0 hx hby d1_2 (pc' := 3) rfl ?_
  refine g_ifL_gt X0 hx hby d1_3 (by decide) (pc' := 10) (by decide) (pn := 6) rfl (fun hc3_1 => ?_) (fun hc3_1 => ?_)
  · refine g_lloadN X0 hx hby d1_10 (pc' := 11) rfl rfl ?_
    exact g_retL (Q := (fun v h L => v = some (.long (minL q1 q2)) ∧ Fr n0 L ∧ h = h0)) X0 hx hby d1_11 hret hlk (by decide) (by decide) ⟨congrArg (fun z : Int64 => some (Value.long z)) (by simp only [minL, hc3_1, if_true, if_false, ↓reduceIte]), N0, e0⟩
  · refine g_lloadN X0 hx hby d1_6 (pc' := 7) rfl rfl ?_
    refine g_goto X0 hx hby d1_7 (by decide) (pc' := 11) (by decide) ?_
    exact g_retL (Q := (fun v h L => v = some (.long (minL q1 q2)) ∧ Fr n0 L ∧ h = h0)) X0 hx hby d1_11 hret hlk (by decide) (by decide) ⟨congrArg (fun z : Int64 => some (Value.long z)) (by simp only [minL, hc3_1, if_true, if_false, ↓reduceIte]), N0, e0⟩
theorem ef_rm2 (q1 : Int64) (q2 : Int64) (m : MethodId) : entryFrame m #[.long q1, .long q2] 4 = mkF m 0 #[.val (.long q1), .second, .val (.long q2), .second] [] := by
  first | (simp [entryFrame, mkF, argsToLocals, Value.category]; done) | rfl
set_option maxRecDepth 65536 in
set_option maxHeartbeats 40000000 in
theorem rm2 (l : Launch) (Z : State) (a0 : Array Value) (hw : ∀ d ∈ tables_1, d.before a0 Z = true) (ws : List Jvm.Cond) (q1 : Int64) (q2 : Int64) (h0 : Heap) (n0 : Nat)  :
    Ctr l Z ({ cls := "java/lang/Math", name := "max", desc := "(JJ)J" } : Jvm.MethodName) jdk_29_method_66_code 4 (some .long) ws ({ frames := 0, cells := 0, slots := 0, locals := 0 } : Room) #[.long q1, .long q2] h0 (fun v h L => v = some (.long (maxL q1 q2)) ∧ Fr n0 L ∧ h = h0) := by
  refine Ctr.enter (Ls := #[.val (.long q1), .second, .val (.long q2), .second]) (by decide +kernel) (fun m => ef_rm2 q1 q2 m) ?_
  intro p e s m below meth c T hx hby hml hown hnm hret hlk hZ hh X0 e0
  have N0 := Fr.nil n0
  refine g_lloadN X0 hx hby d2_0 (pc' := 1) rfl rfl ?_
  refine g_lloadN X0 hx hby d2_1 (pc' := 2) rfl rfl ?_
  refine g_lcmp X0 hx hby d2_2 (pc' := 3) rfl ?_
  refine g_ifL_lt X0 hx hby d2_3 (by decide) (pc' := 10) (by decide) (pn := 6) rfl (fun hc3_1 => ?_) (fun hc3_1 => ?_)
  · refine g_lloadN X0 hx hby d2_10 (pc' := 11) rfl rfl ?_
    exact g_retL (Q := (fun v h L => v = some (.long (maxL q1 q2)) ∧ Fr n0 L ∧ h = h0)) X0 hx hby d2_11 hret hlk (by decide) (by decide) ⟨congrArg (fun z : Int64 => some (Value.long z)) (by simp only [maxL, hc3_1, if_true, if_false, ↓reduceIte]), N0, e0⟩
  · refine g_lloadN X0 hx hby d2_6 (pc' := 7) rfl rfl ?_
    refine g_goto X0 hx hby d2_7 (by decide) (pc' := 11) (by decide) ?_
    exact g_retL (Q := (fun v h L => v = some (.long (maxL q1 q2)) ∧ Fr n0 L ∧ h = h0)) X0 hx hby d2_11 hret hlk (by decide) (by decide) ⟨congrArg (fun z : Int64 => some (Value.long z)) (by simp only [maxL, hc3_1, if_true, if_false, ↓reduceIte]), N0, e0⟩
theorem ef_rm4 (q1 : Addr) (m : MethodId) : entryFrame m #[.ref q1] 1 = mkF m 0 #[.val (.ref q1)] [] := by
  first | (simp [entryFrame, mkF, argsToLocals, Value.category]; done) | rfl
theorem pn_rm4 : plainName "java/lang/Record" = true := by first | (simp [plainName, overriddenIn]; done) | decide +kernel
set_option maxRecDepth 65536 in
set_option maxHeartbeats 40000000 in
theorem rm4 (l : Launch) (Z : State) (a0 : Array Value) (hw : ∀ d ∈ tables_1, d.before a0 Z = true) (ws : List Jvm.Cond) (q1 : Addr) (h0 : Heap) (n0 : Nat)  :
    Ctr l Z ({ cls := "java/lang/Record", name := "<init>", desc := "()V" } : Jvm.MethodName) jdk_30_method_1_code 1 none ws ({ frames := 1, cells := 0, slots := 0, locals := 12 } : Room) #[.ref q1] h0 (fun v h L => v = none ∧ Fr n0 L ∧ h = h0) := by
  refine Ctr.enter (Ls := #[.val (.ref q1)]) (plainFor_of_name pn_rm4) (fun m => ef_rm4 q1 m) ?_
  intro p e s m below meth c T hx hby hml hown hnm hret hlk hZ hh X0 e0
  have N0 := Fr.nil n0
  refine g_aloadN X0 hx hby d4_0 (pc' := 1) rfl rfl rfl ?_
  obtain ⟨T1, X1, e1, st1⟩ := initO X0 hx hZ hown (w_18 hw) (w_19 hw) (w_20 hw) e0 (g := (mkF m 1 #[.val (.ref q1)] [.ref q1])) rfl (by rw [hml]; rfl) rfl (hb hby d4_1) (by decide) (W := 0) (by show 2 * 0 + _ ≤ _; exact Nat.le_of_eq rfl) (by decide)
  refine GoE.pull (b := T1.setTop (mkF m 4 #[.val (.ref q1)] [])) ?_ st1
  exact g_retV (Q := (fun v h L => v = none ∧ Fr n0 L ∧ h = h0)) X1 hx hby d4_4 hret hlk (by decide) (by decide) ⟨rfl, N0, e1⟩
theorem ef_rm3 (q1 : Addr) (q2 : Int64) (q3 : Int64) (m : MethodId) : entryFrame m #[.ref q1, .long q2, .long q3] 5 = mkF m 0 #[.val (.ref q1), .val (.long q2), .second, .val (.long q3), .second] [] := by
  first | (simp [entryFrame, mkF, argsToLocals, Value.category]; done) | rfl
theorem pn_rm3 : plainName "com/example/novatio/novatio/conditions/FloatingIndex$Window" = true := by first | (simp [plainName, overriddenIn]; done) | decide +kernel
set_option maxRecDepth 65536 in
set_option maxHeartbeats 40000000 in
theorem rm3 (l : Launch) (Z : State) (a0 : Array Value) (hw : ∀ d ∈ tables_1, d.before a0 Z = true) (ws : List Jvm.Cond) (q1 : Addr) (q2 : Int64) (q3 : Int64) (h0 : Heap) (n0 : Nat) (u1 u2 : Value) (E_a : Exa Z h0 q1 "com/example/novatio/novatio/conditions/FloatingIndex$Window") (F_first : Fld Z h0 q1 "com/example/novatio/novatio/conditions/FloatingIndex$Window" "first" "J" u1) (F_last : Fld Z h0 q1 "com/example/novatio/novatio/conditions/FloatingIndex$Window" "last" "J" u2) (g_a : n0 ≤ q1) :
    Ctr l Z ({ cls := "com/example/novatio/novatio/conditions/FloatingIndex$Window", name := "<init>", desc := "(JJ)V" } : Jvm.MethodName) prog_59_method_1_code 5 none ws ({ frames := 2, cells := 0, slots := 0, locals := 24 } : Room) #[.ref q1, .long q2, .long q3] h0 (fun v h L => v = none ∧ Fr n0 L ∧ Keep h0 h [q1] ∧ Exa Z h q1 "com/example/novatio/novatio/conditions/FloatingIndex$Window" ∧ Fld Z h q1 "com/example/novatio/novatio/conditions/FloatingIndex$Window" "first" "J" (.long q2) ∧ Fld Z h q1 "com/example/novatio/novatio/conditions/FloatingIndex$Window" "last" "J" (.long q3)) := by
  refine Ctr.enter (Ls := #[.val (.ref q1), .val (.long q2), .second, .val (.long q3), .second]) (plainFor_of_name pn_rm3) (fun m => ef_rm3 q1 q2 q3 m) ?_
  intro p e s m below meth c T hx hby hml hown hnm hret hlk hZ hh X0 e0
  have N0 := Fr.nil n0
  refine g_aloadN X0 hx hby d3_0 (pc' := 1) rfl rfl rfl ?_
  refine g_callI X0 hx hZ hown (W := 0) (argsL := []) (b := q1) (rest := []) hby d3_1 (pc' := 4) rfl (by rw [hml]; rfl) (w_13 hw) (w_14 hw) (w_16 hw) (w_17 hw) rfl (by decide) (rm4 l Z a0 hw [] q1  h0 n0) e0 (by decide) (by decide) (by decide) (by decide) rfl pd__28_29V rfl rfl (Nat.le_of_eq rfl) ?_
  rintro _ T1 L1 X1 ⟨rfl, N1q, e1⟩
  have N1 := Fr.app N0 N1q
  show GoE p e below _ (T1.setTop (mkF m 4 #[.val (.ref q1), .val (.long q2), .second, .val (.long q3), .second] []))
  refine g_aloadN X1 hx hby d3_4 (pc' := 5) rfl rfl rfl ?_
  refine g_lloadN X1 hx hby d3_5 (pc' := 6) rfl rfl ?_
  refine g_put X1 hx hZ hown hby d3_6 (pc' := 9) rfl (w_21 hw) e1 F_first E_a (Or.inr ⟨(w_22 hw), rfl, hnm⟩) (w_8 hw) (ty := .long) (by decide) rfl rfl ?_
  intro T2 X2 W2
  have N2 := Fr.snoc X2 N1 g_a
  have E2_q1 := E_a.wr W2
  have F2_q1_first := F_first.same W2
  have F2_q1_last := F_last.other W2 (Or.inr (slot_ne (Or.inr (w_24 hw)) (Or.inr (w_22 hw)) (by decide) (t := .long) (t' := .long) (by decide) (by decide)))
  have K2 := (Keep.refl h0 [q1]).wr W2 (Or.inl (List.mem_of_getElem? (i := 0) rfl))
  refine g_aloadN X2 hx hby d3_9 (pc' := 10) rfl rfl rfl ?_
  refine g_lloadN X2 hx hby d3_10 (pc' := 11) rfl rfl ?_
  refine g_put X2 hx hZ hown hby d3_11 (pc' := 14) rfl (w_23 hw) rfl F2_q1_last E2_q1 (Or.inr ⟨(w_24 hw), rfl, hnm⟩) (w_8 hw) (ty := .long) (by decide) rfl rfl ?_
  intro T3 X3 W3
  have N3 := Fr.snoc X3 N2 g_a
  have E3_q1 := E2_q1.wr W3
  have F3_q1_first := F2_q1_first.other W3 (Or.inr (slot_ne (Or.inr (w_22 hw)) (Or.inr (w_24 hw)) (by decide) (t := .long) (t' := .long) (by decide) (by decide)))
  have F3_q1_last := F2_q1_last.same W3
  have K3 := K2.wr W3 (Or.inl (List.mem_of_getElem? (i := 0) rfl))
  exact g_retV (Q := (fun v h L => v = none ∧ Fr n0 L ∧ Keep h0 h [q1] ∧ Exa Z h q1 "com/example/novatio/novatio/conditions/FloatingIndex$Window" ∧ Fld Z h q1 "com/example/novatio/novatio/conditions/FloatingIndex$Window" "first" "J" (.long q2) ∧ Fld Z h q1 "com/example/novatio/novatio/conditions/FloatingIndex$Window" "last" "J" (.long q3))) X3 hx hby d3_14 hret hlk (by decide) (by decide) ⟨rfl, N3, K3, E3_q1, F3_q1_first, F3_q1_last⟩
theorem ef_rm6 (q1 : Addr) (q2 : Int64) (m : MethodId) : entryFrame m #[.ref q1, .long q2] 3 = mkF m 0 #[.val (.ref q1), .val (.long q2), .second] [] := by
  first | (simp [entryFrame, mkF, argsToLocals, Value.category]; done) | rfl
theorem pn_rm6 : plainName "com/example/novatio/novatio/conditions/FloatingIndex$Window" = true := by first | (simp [plainName, overriddenIn]; done) | decide +kernel
set_option maxRecDepth 65536 in
set_option maxHeartbeats 40000000 in
theorem rm6 (l : Launch) (Z : State) (a0 : Array Value) (hw : ∀ d ∈ tables_1, d.before a0 Z = true) (ws : List Jvm.Cond) (q1 : Addr) (q2 : Int64) (h0 : Heap) (n0 : Nat) (f1 f2 : Int64) (F_first : Fld Z h0 q1 "com/example/novatio/novatio/conditions/FloatingIndex$Window" "first" "J" (.long f1)) (F_last : Fld Z h0 q1 "com/example/novatio/novatio/conditions/FloatingIndex$Window" "last" "J" (.long f2)) :
    Ctr l Z ({ cls := "com/example/novatio/novatio/conditions/FloatingIndex$Window", name := "contains", desc := "(J)Z" } : Jvm.MethodName) prog_59_method_2_code 3 (some .boolean) ws ({ frames := 0, cells := 0, slots := 0, locals := 0 } : Room) #[.ref q1, .long q2] h0 (fun v h L => v = some (.int (conL f1 f2 q2)) ∧ Fr n0 L ∧ h = h0) := by
  refine Ctr.enter (Ls := #[.val (.ref q1), .val (.long q2), .second]) (plainFor_of_name pn_rm6) (fun m => ef_rm6 q1 q2 m) ?_
  intro p e s m below meth c T hx hby hml hown hnm hret hlk hZ hh X0 e0
  have N0 := Fr.nil n0
  refine g_aloadN X0 hx hby d6_0 (pc' := 1) rfl rfl rfl ?_
  refine g_get X0 hx hZ hown hby d6_1 (pc' := 4) rfl (w_21 hw) e0 F_first ?_
  intro T1 X1 e1
  refine g_lloadN X1 hx hby d6_4 (pc' := 5) rfl rfl ?_
  refine g_lcmp X1 hx hby d6_5 (pc' := 6) rfl ?_
  refine g_ifL_gt X1 hx hby d6_6 (by decide) (pc' := 22) (by decide) (pn := 9) rfl (fun hc6_2 => ?_) (fun hc6_2 => ?_)
  · refine g_iconst X1 hx hby d6_22 (pc' := 23) rfl (z := (0 : Int32)) rfl ?_
    exact g_retN (Q := (fun v h L => v = some (.int (conL f1 f2 q2)) ∧ Fr n0 L ∧ h = h0)) (w := (0 : Int32)) X1 hx hby d6_23 hret (by simp) (by first | decide | rfl) hlk (by decide) (by decide) ⟨congrArg (fun z : Int32 => some (Value.int z)) (by simp only [conL, hc6_2, if_true, if_false, ↓reduceIte]), N0, e1⟩
  · refine g_lloadN X1 hx hby d6_9 (pc' := 10) rfl rfl ?_
    refine g_aloadN X1 hx hby d6_10 (pc' := 11) rfl rfl rfl ?_
    refine g_get X1 hx hZ hown hby d6_11 (pc' := 14) rfl (w_23 hw) e1 F_last ?_
    intro T3 X3 e3
    refine g_lcmp X3 hx hby d6_14 (pc' := 15) rfl ?_
    refine g_ifL_gt X3 hx hby d6_15 (by decide) (pc' := 22) (by decide) (pn := 18) rfl (fun hc15_4 => ?_) (fun hc15_4 => ?_)
    · refine g_iconst X3 hx hby d6_22 (pc' := 23) rfl (z := (0 : Int32)) rfl ?_
      exact g_retN (Q := (fun v h L => v = some (.int (conL f1 f2 q2)) ∧ Fr n0 L ∧ h = h0)) (w := (0 : Int32)) X3 hx hby d6_23 hret (by simp) (by first | decide | rfl) hlk (by decide) (by decide) ⟨congrArg (fun z : Int32 => some (Value.int z)) (by simp only [conL, hc6_2, hc15_4, if_true, if_false, ↓reduceIte]), N0, e3⟩
    · refine g_iconst X3 hx hby d6_18 (pc' := 19) rfl (z := (1 : Int32)) rfl ?_
      refine g_goto X3 hx hby d6_19 (by decide) (pc' := 23) (by decide) ?_
      exact g_retN (Q := (fun v h L => v = some (.int (conL f1 f2 q2)) ∧ Fr n0 L ∧ h = h0)) (w := (1 : Int32)) X3 hx hby d6_23 hret (by simp) (by first | decide | rfl) hlk (by decide) (by decide) ⟨congrArg (fun z : Int32 => some (Value.int z)) (by simp only [conL, hc6_2, hc15_4, if_true, if_false, ↓reduceIte]), N0, e3⟩
theorem ef_rm7 (q1 : Int64) (q2 : Int64) (q3 : Int64) (m : MethodId) : entryFrame m #[.long q1, .long q2, .long q3] 8 = mkF m 0 #[.val (.long q1), .second, .val (.long q2), .second, .val (.long q3), .second, .unset, .unset] [] := by
  first | (simp [entryFrame, mkF, argsToLocals, Value.category]; done) | rfl
theorem pn_rm7 : plainName "com/example/novatio/novatio/conditions/WindowContainsPinLaw" = true := by first | (simp [plainName, overriddenIn]; done) | decide +kernel
set_option maxRecDepth 65536 in
set_option maxHeartbeats 40000000 in
theorem rm7 (l : Launch) (Z : State) (a0 : Array Value) (hw : ∀ d ∈ tables_1, d.before a0 Z = true) (ws : List Jvm.Cond) (q1 : Int64) (q2 : Int64) (q3 : Int64) (h0 : Heap) (n0 : Nat)  :
    Ctr l Z ({ cls := "com/example/novatio/novatio/conditions/WindowContainsPinLaw", name := "clampRef", desc := "(JJJ)Z" } : Jvm.MethodName) method_2_code 8 (some .boolean) ws ({ frames := 1, cells := 0, slots := 0, locals := 17 } : Room) #[.long q1, .long q2, .long q3] h0 (fun v h L => v = some (.int (clampL q1 q2 q3)) ∧ Fr n0 L ∧ h = h0) := by
  refine Ctr.enter (Ls := #[.val (.long q1), .second, .val (.long q2), .second, .val (.long q3), .second, .unset, .unset]) (plainFor_of_name pn_rm7) (fun m => ef_rm7 q1 q2 q3 m) ?_
  intro p e s m below meth c T hx hby hml hown hnm hret hlk hZ hh X0 e0
  have N0 := Fr.nil n0
  refine g_lloadN X0 hx hby d7_0 (pc' := 1) rfl rfl ?_
  refine g_lload X0 hx hby d7_1 (pc' := 3) rfl rfl ?_
  refine g_lloadN X0 hx hby d7_3 (pc' := 4) rfl rfl ?_
  refine g_callS X0 hx hZ hown (W := 2) (argsL := [.long q3, .long q2]) (rest := [.long q1]) hby d7_4 (pc' := 7) rfl (by rw [hml]; rfl) (w_0 hw) (w_1 hw) (w_2 hw) (w_3 hw) (by decide) (rm1 l Z a0 hw [] q3 q2 h0 n0) e0 (by decide) (by decide) (by decide) (by decide) rfl pd__28JJ_29J rfl rfl (Nat.le_of_eq rfl) ?_
  rintro _ T1 L1 X1 ⟨rfl, N1q, e1⟩
  have N1 := Fr.app N0 N1q
  show GoE p e below _ (T1.setTop (mkF m 7 #[.val (.long q1), .second, .val (.long q2), .second, .val (.long q3), .second, .unset, .unset] [.long (minL q3 q2), .long q1]))
  refine g_callS X1 hx hZ hown (W := 0) (argsL := [.long q1, .long (minL q3 q2)]) (rest := []) hby d7_7 (pc' := 10) rfl (by rw [hml]; rfl) (w_4 hw) (w_5 hw) (w_2 hw) (w_6 hw) (by decide) (rm2 l Z a0 hw [] q1 (minL q3 q2) h0 n0) e1 (by decide) (by decide) (by decide) (by decide) rfl pd__28JJ_29J rfl rfl (Nat.le_of_eq rfl) ?_
  rintro _ T2 L2 X2 ⟨rfl, N2q, e2⟩
  have N2 := Fr.app N1 N2q
  show GoE p e below _ (T2.setTop (mkF m 10 #[.val (.long q1), .second, .val (.long q2), .second, .val (.long q3), .second, .unset, .unset] [.long (maxL q1 (minL q3 q2))]))
  refine g_lstore X2 hx hby d7_10 (pc' := 12) rfl (l' := #[.val (.long q1), .second, .val (.long q2), .second, .val (.long q3), .second, .val (.long (maxL q1 (minL q3 q2))), .second]) rfl ?_
  refine g_lload X2 hx hby d7_12 (pc' := 14) rfl rfl ?_
  refine g_lload X2 hx hby d7_14 (pc' := 16) rfl rfl ?_
  refine g_lcmp X2 hx hby d7_16 (pc' := 17) rfl ?_
  refine g_ifL_ne X2 hx hby d7_17 (by decide) (pc' := 24) (by decide) (pn := 20) rfl (fun hc17_3 => ?_) (fun hc17_3 => ?_)
  · refine g_iconst X2 hx hby d7_24 (pc' := 25) rfl (z := (0 : Int32)) rfl ?_
    exact g_retN (Q := (fun v h L => v = some (.int (clampL q1 q2 q3)) ∧ Fr n0 L ∧ h = h0)) (w := (0 : Int32)) X2 hx hby d7_25 hret (by simp) (by first | decide | rfl) hlk (by decide) (by decide) ⟨congrArg (fun z : Int32 => some (Value.int z)) (by simp only [clampL, hc17_3, if_true, if_false, ↓reduceIte]), N2, e2⟩
  · refine g_iconst X2 hx hby d7_20 (pc' := 21) rfl (z := (1 : Int32)) rfl ?_
    refine g_goto X2 hx hby d7_21 (by decide) (pc' := 25) (by decide) ?_
    exact g_retN (Q := (fun v h L => v = some (.int (clampL q1 q2 q3)) ∧ Fr n0 L ∧ h = h0)) (w := (1 : Int32)) X2 hx hby d7_25 hret (by simp) (by first | decide | rfl) hlk (by decide) (by decide) ⟨congrArg (fun z : Int32 => some (Value.int z)) (by simp only [clampL, hc17_3, if_true, if_false, ↓reduceIte]), N2, e2⟩
theorem ef_rm0 (q1 : Int64) (q2 : Int64) (q3 : Int64) (q4 : Int32) (m : MethodId) : entryFrame m #[.long q1, .long q2, .long q3, .int q4] maxLocals = mkF m 0 #[.val (.long q1), .second, .val (.long q2), .second, .val (.long q3), .second, .val (.int q4), .unset, .unset, .unset, .unset, .unset, .unset, .unset, .unset, .unset, .unset] [] := by
  first | (simp [entryFrame, mkF, argsToLocals, Value.category, maxLocals]; done) | rfl
theorem pn_rm0 : plainName "com/example/novatio/novatio/conditions/WindowContainsPinLaw" = true := by first | (simp [plainName, overriddenIn]; done) | decide +kernel
set_option maxRecDepth 65536 in
set_option maxHeartbeats 40000000 in
theorem rm0 (l : Launch) (Z : State) (a0 : Array Value) (hw : ∀ d ∈ tables_1, d.before a0 Z = true) (ws : List Jvm.Cond) (q1 : Int64) (q2 : Int64) (q3 : Int64) (q4 : Int32) (h0 : Heap) (n0 : Nat) (Z0 : n0 ≤ h0.size) :
    Ctr l Z x code maxLocals ret ws room_1 #[.long q1, .long q2, .long q3, .int q4] h0 (fun v h L => v = some (.int 1) ∧ Fr n0 L) := by
  refine Ctr.enter (Ls := #[.val (.long q1), .second, .val (.long q2), .second, .val (.long q3), .second, .val (.int q4), .unset, .unset, .unset, .unset, .unset, .unset, .unset, .unset, .unset, .unset]) (plainFor_of_name pn_rm0) (fun m => ef_rm0 q1 q2 q3 q4 m) ?_
  intro p e s m below meth c T hx hby hml hown hnm hret hlk hZ hh X0 e0
  have N0 := Fr.nil n0
  refine g_lloadN X0 hx hby at_0 (pc' := 1) rfl rfl ?_
  refine g_lloadN X0 hx hby at_1 (pc' := 2) rfl rfl ?_
  refine g_callS X0 hx hZ hown (W := 0) (argsL := [.long q1, .long q2]) (rest := []) hby at_2 (pc' := 5) rfl (by rw [hml]; rfl) (w_0 hw) (w_1 hw) (w_2 hw) (w_3 hw) (by decide) (rm1 l Z a0 hw [] q1 q2 h0 n0) e0 (by decide) (by decide) (by decide) (by decide) rfl pd__28JJ_29J rfl rfl (Nat.le_of_eq rfl) ?_
  rintro _ T1 L1 X1 ⟨rfl, N1q, e1⟩
  have N1 := Fr.app N0 N1q
  show GoE p e below _ (T1.setTop (mkF m 5 #[.val (.long q1), .second, .val (.long q2), .second, .val (.long q3), .second, .val (.int q4), .unset, .unset, .unset, .unset, .unset, .unset, .unset, .unset, .unset, .unset] [.long (minL q1 q2)]))
  refine g_lstore X1 hx hby at_5 (pc' := 7) rfl (l' := #[.val (.long q1), .second, .val (.long q2), .second, .val (.long q3), .second, .val (.int q4), .val (.long (minL q1 q2)), .second, .unset, .unset, .unset, .unset, .unset, .unset, .unset, .unset]) rfl ?_
  refine g_lloadN X1 hx hby at_7 (pc' := 8) rfl rfl ?_
  refine g_lloadN X1 hx hby at_8 (pc' := 9) rfl rfl ?_
  refine g_callS X1 hx hZ hown (W := 0) (argsL := [.long q1, .long q2]) (rest := []) hby at_9 (pc' := 12) rfl (by rw [hml]; rfl) (w_4 hw) (w_5 hw) (w_2 hw) (w_6 hw) (by decide) (rm2 l Z a0 hw [] q1 q2 h0 n0) e1 (by decide) (by decide) (by decide) (by decide) rfl pd__28JJ_29J rfl rfl (Nat.le_of_eq rfl) ?_
  rintro _ T2 L2 X2 ⟨rfl, N2q, e2⟩
  have N2 := Fr.app N1 N2q
  show GoE p e below _ (T2.setTop (mkF m 12 #[.val (.long q1), .second, .val (.long q2), .second, .val (.long q3), .second, .val (.int q4), .val (.long (minL q1 q2)), .second, .unset, .unset, .unset, .unset, .unset, .unset, .unset, .unset] [.long (maxL q1 q2)]))
  refine g_lstore X2 hx hby at_12 (pc' := 14) rfl (l' := #[.val (.long q1), .second, .val (.long q2), .second, .val (.long q3), .second, .val (.int q4), .val (.long (minL q1 q2)), .second, .val (.long (maxL q1 q2)), .second, .unset, .unset, .unset, .unset, .unset, .unset]) rfl ?_
  refine g_new X2 hx hZ hown hby at_14 (pc' := 17) rfl (w_7 hw) (w_8 hw) (w_9 hw) e2 (by decide) (by decide) ?_
  intro T3 b3 hb3 X3 E3 A3 D3
  have Z3 := Nat.le_trans Z0 E3.1
  have F3_first : Fld Z T3.heap b3 "com/example/novatio/novatio/conditions/FloatingIndex$Window" "first" "J" (.long (0 : Int64)) := D3 (Or.inr (w_22 hw)) (ty := .long) (by decide)
  have F3_last : Fld Z T3.heap b3 "com/example/novatio/novatio/conditions/FloatingIndex$Window" "last" "J" (.long (0 : Int64)) := D3 (Or.inr (w_24 hw)) (ty := .long) (by decide)
  refine g_dup X3 hx hby at_17 (pc' := 18) rfl rfl ?_
  refine g_lload X3 hx hby at_18 (pc' := 20) rfl rfl ?_
  refine g_lload X3 hx hby at_20 (pc' := 22) rfl rfl ?_
  refine g_callI X3 hx hZ hown (W := 1) (argsL := [.long (minL q1 q2), .long (maxL q1 q2)]) (b := b3) (rest := [.ref b3]) hby at_22 (pc' := 25) rfl (by rw [hml]; rfl) (w_10 hw) (w_11 hw) (w_9 hw) (w_12 hw) rfl (by decide) (rm3 l Z a0 hw [] b3 (minL q1 q2) (maxL q1 q2) T3.heap n0 _ _ A3 F3_first F3_last (Nat.le_trans Z0 (Nat.le_of_eq hb3.symm))) rfl (by decide) (by decide) (by decide) (by decide) rfl pd__28JJ_29V rfl rfl (Nat.le_of_eq rfl) ?_
  rintro _ T4 L4 X4 ⟨rfl, N4q, K4, E4i, Ff4, Fl4⟩
  have N4 := Fr.app N2 N4q
  show GoE p e below _ (T4.setTop (mkF m 25 #[.val (.long q1), .second, .val (.long q2), .second, .val (.long q3), .second, .val (.int q4), .val (.long (minL q1 q2)), .second, .val (.long (maxL q1 q2)), .second, .unset, .unset, .unset, .unset, .unset, .unset] [.ref b3]))
  refine g_astore X4 hx hby at_25 (pc' := 27) rfl rfl (l' := #[.val (.long q1), .second, .val (.long q2), .second, .val (.long q3), .second, .val (.int q4), .val (.long (minL q1 q2)), .second, .val (.long (maxL q1 q2)), .second, .val (.ref b3), .unset, .unset, .unset, .unset, .unset]) rfl ?_
  refine g_aload X4 hx hby at_27 (pc' := 29) rfl rfl rfl ?_
  refine g_lload X4 hx hby at_29 (pc' := 31) rfl rfl ?_
  refine g_callV X4 hx hZ hown (W := 0) (argsL := [.long (minL q1 q2)]) (b := b3) (rest := []) hby at_31 (pc' := 34) rfl (by rw [hml]; rfl) (w_25 hw) (w_26 hw) (w_28 hw) (notFace_of_selects (args := #[]) (mvT hZ (w_28 hw))) (w_27 hw) (w_9 hw) (w_29 hw) (by decide) (rm6 l Z a0 hw [] b3 (minL q1 q2) T4.heap n0 _ _ Ff4 Fl4) rfl E4i (by decide) (by decide) (by decide) (by decide) rfl pd__28J_29Z rfl rfl (Nat.le_of_eq rfl) ?_
  rintro _ T5 L5 X5 ⟨rfl, N5q, e5⟩
  have N5 := Fr.app N4 N5q
  show GoE p e below _ (T5.setTop (mkF m 34 #[.val (.long q1), .second, .val (.long q2), .second, .val (.long q3), .second, .val (.int q4), .val (.long (minL q1 q2)), .second, .val (.long (maxL q1 q2)), .second, .val (.ref b3), .unset, .unset, .unset, .unset, .unset] [.int (conL (minL q1 q2) (maxL q1 q2) (minL q1 q2))]))
  refine g_if_eq X5 hx hby at_34 (by decide) (pc' := 51) (by decide) (pn := 37) rfl (fun z => absurd z (own_c1 _ _ (own_le q1 q2))) (fun hc34_6 => ?_)
  refine g_aload X5 hx hby at_37 (pc' := 39) rfl rfl rfl ?_
  refine g_lload X5 hx hby at_39 (pc' := 41) rfl rfl ?_
  refine g_callV X5 hx hZ hown (W := 0) (argsL := [.long (maxL q1 q2)]) (b := b3) (rest := []) hby at_41 (pc' := 44) rfl (by rw [hml]; rfl) (w_25 hw) (w_26 hw) (w_28 hw) (notFace_of_selects (args := #[]) (mvT hZ (w_28 hw))) (w_27 hw) (w_9 hw) (w_29 hw) (by decide) (rm6 l Z a0 hw [] b3 (maxL q1 q2) T4.heap n0 _ _ Ff4 Fl4) e5 E4i (by decide) (by decide) (by decide) (by decide) rfl pd__28J_29Z rfl rfl (Nat.le_of_eq rfl) ?_
  rintro _ T7 L7 X7 ⟨rfl, N7q, e7⟩
  have N7 := Fr.app N5 N7q
  show GoE p e below _ (T7.setTop (mkF m 44 #[.val (.long q1), .second, .val (.long q2), .second, .val (.long q3), .second, .val (.int q4), .val (.long (minL q1 q2)), .second, .val (.long (maxL q1 q2)), .second, .val (.ref b3), .unset, .unset, .unset, .unset, .unset] [.int (conL (minL q1 q2) (maxL q1 q2) (maxL q1 q2))]))
  refine g_if_eq X7 hx hby at_44 (by decide) (pc' := 51) (by decide) (pn := 47) rfl (fun z => absurd z (own_c2 _ _ (own_le q1 q2))) (fun hc44_8 => ?_)
  refine g_iconst X7 hx hby at_47 (pc' := 48) rfl (z := (1 : Int32)) rfl ?_
  refine g_goto X7 hx hby at_48 (by decide) (pc' := 52) (by decide) ?_
  refine g_istore X7 hx hby at_52 (pc' := 54) rfl (l' := #[.val (.long q1), .second, .val (.long q2), .second, .val (.long q3), .second, .val (.int q4), .val (.long (minL q1 q2)), .second, .val (.long (maxL q1 q2)), .second, .val (.ref b3), .val (.int (1 : Int32)), .unset, .unset, .unset, .unset]) rfl ?_
  refine g_lload X7 hx hby at_54 (pc' := 56) rfl rfl ?_
  refine g_ldcL X7 hx hZ hown hby at_56 (pc' := 59) rfl (w_30 hw) ?_
  refine g_lcmp X7 hx hby at_59 (pc' := 60) rfl ?_
  refine g_ifL_eq X7 hx hby at_60 (by decide) (pc' := 87) (by decide) (pn := 63) rfl (fun hc60_9 => ?_) (fun hc60_9 => ?_)
  · refine g_lload X7 hx hby at_87 (pc' := 89) rfl rfl ?_
    refine g_ldcL X7 hx hZ hown hby at_89 (pc' := 92) rfl (w_31 hw) ?_
    refine g_lcmp X7 hx hby at_92 (pc' := 93) rfl ?_
    refine g_ifL_eq X7 hx hby at_93 (by decide) (pc' := 120) (by decide) (pn := 96) rfl (fun hc93_10 => ?_) (fun hc93_10 => ?_)
    · refine g_iload X7 hx hby at_120 (pc' := 122) rfl rfl ?_
      refine g_if_eq X7 hx hby at_122 (by decide) (pc' := 148) (by decide) (pn := 125) rfl (fun z => absurd z (by decide)) (fun _ => ?_)
      refine g_aload X7 hx hby at_125 (pc' := 127) rfl rfl rfl ?_
      refine g_lload X7 hx hby at_127 (pc' := 129) rfl rfl ?_
      refine g_callV X7 hx hZ hown (W := 0) (argsL := [.long q3]) (b := b3) (rest := []) hby at_129 (pc' := 132) rfl (by rw [hml]; rfl) (w_25 hw) (w_26 hw) (w_28 hw) (notFace_of_selects (args := #[]) (mvT hZ (w_28 hw))) (w_27 hw) (w_9 hw) (w_29 hw) (by decide) (rm6 l Z a0 hw [] b3 q3 T4.heap n0 _ _ Ff4 Fl4) e7 E4i (by decide) (by decide) (by decide) (by decide) rfl pd__28J_29Z rfl rfl (Nat.le_of_eq rfl) ?_
      rintro _ T11 L11 X11 ⟨rfl, N11q, e11⟩
      have N11 := Fr.app N7 N11q
      show GoE p e below _ (T11.setTop (mkF m 132 #[.val (.long q1), .second, .val (.long q2), .second, .val (.long q3), .second, .val (.int q4), .val (.long (minL q1 q2)), .second, .val (.long (maxL q1 q2)), .second, .val (.ref b3), .val (.int (1 : Int32)), .unset, .unset, .unset, .unset] [.int (conL (minL q1 q2) (maxL q1 q2) q3)]))
      refine g_lload X11 hx hby at_132 (pc' := 134) rfl rfl ?_
      refine g_lload X11 hx hby at_134 (pc' := 136) rfl rfl ?_
      refine g_lload X11 hx hby at_136 (pc' := 138) rfl rfl ?_
      refine g_callS X11 hx hZ hown (W := 1) (argsL := [.long (minL q1 q2), .long (maxL q1 q2), .long q3]) (rest := [.int (conL (minL q1 q2) (maxL q1 q2) q3)]) hby at_138 (pc' := 141) rfl (by rw [hml]; rfl) (w_32 hw) (w_33 hw) (w_34 hw) (w_35 hw) (by decide) (rm7 l Z a0 hw [] (minL q1 q2) (maxL q1 q2) q3 T4.heap n0) e11 (by decide) (by decide) (by decide) (by decide) rfl pd__28JJJ_29Z rfl rfl (Nat.le_of_eq rfl) ?_
      rintro _ T12 L12 X12 ⟨rfl, N12q, e12⟩
      have N12 := Fr.app N11 N12q
      show GoE p e below _ (T12.setTop (mkF m 141 #[.val (.long q1), .second, .val (.long q2), .second, .val (.long q3), .second, .val (.int q4), .val (.long (minL q1 q2)), .second, .val (.long (maxL q1 q2)), .second, .val (.ref b3), .val (.int (1 : Int32)), .unset, .unset, .unset, .unset] [.int (clampL (minL q1 q2) (maxL q1 q2) q3), .int (conL (minL q1 q2) (maxL q1 q2) q3)]))
      refine g_icmp_ne X12 hx hby at_141 (by decide) (pc' := 148) (by decide) (pn := 144) rfl (fun z => absurd z (fun z => z (own_cl _ _ _ (own_le q1 q2)))) (fun hc141_13 => ?_)
      refine g_iconst X12 hx hby at_144 (pc' := 145) rfl (z := (1 : Int32)) rfl ?_
      refine g_goto X12 hx hby at_145 (by decide) (pc' := 149) (by decide) ?_
      refine g_istore X12 hx hby at_149 (pc' := 151) rfl (l' := #[.val (.long q1), .second, .val (.long q2), .second, .val (.long q3), .second, .val (.int q4), .val (.long (minL q1 q2)), .second, .val (.long (maxL q1 q2)), .second, .val (.ref b3), .val (.int (1 : Int32)), .unset, .unset, .unset, .unset]) rfl ?_
      refine g_lload X12 hx hby at_151 (pc' := 153) rfl rfl ?_
      refine g_iload X12 hx hby at_153 (pc' := 155) rfl rfl ?_
      refine g_iconst X12 hx hby at_155 (pc' := 156) rfl (z := (3 : Int32)) rfl ?_
      refine g_iand X12 hx hby at_156 (pc' := 157) rfl ?_
      refine g_iconst X12 hx hby at_157 (pc' := 158) rfl (z := (2 : Int32)) rfl ?_
      refine g_isub X12 hx hby at_158 (pc' := 159) rfl ?_
      refine g_i2l X12 hx hby at_159 (pc' := 160) rfl ?_
      refine g_ladd X12 hx hby at_160 (pc' := 161) rfl ?_
      refine g_lstore X12 hx hby at_161 (pc' := 163) rfl (l' := #[.val (.long q1), .second, .val (.long q2), .second, .val (.long q3), .second, .val (.int q4), .val (.long (minL q1 q2)), .second, .val (.long (maxL q1 q2)), .second, .val (.ref b3), .val (.int (1 : Int32)), .val (.long ((minL q1 q2) + ((q4 &&& (3 : Int32)) - (2 : Int32)).toInt64)), .second, .unset, .unset]) rfl ?_
      refine g_iload X12 hx hby at_163 (pc' := 165) rfl rfl ?_
      refine g_if_eq X12 hx hby at_165 (by decide) (pc' := 191) (by decide) (pn := 168) rfl (fun z => absurd z (by decide)) (fun _ => ?_)
      refine g_aload X12 hx hby at_168 (pc' := 170) rfl rfl rfl ?_
      refine g_lload X12 hx hby at_170 (pc' := 172) rfl rfl ?_
      refine g_callV X12 hx hZ hown (W := 0) (argsL := [.long ((minL q1 q2) + ((q4 &&& (3 : Int32)) - (2 : Int32)).toInt64)]) (b := b3) (rest := []) hby at_172 (pc' := 175) rfl (by rw [hml]; rfl) (w_25 hw) (w_26 hw) (w_28 hw) (notFace_of_selects (args := #[]) (mvT hZ (w_28 hw))) (w_27 hw) (w_9 hw) (w_29 hw) (by decide) (rm6 l Z a0 hw [] b3 ((minL q1 q2) + ((q4 &&& (3 : Int32)) - (2 : Int32)).toInt64) T4.heap n0 _ _ Ff4 Fl4) e12 E4i (by decide) (by decide) (by decide) (by decide) rfl pd__28J_29Z rfl rfl (Nat.le_of_eq rfl) ?_
      rintro _ T14 L14 X14 ⟨rfl, N14q, e14⟩
      have N14 := Fr.app N12 N14q
      show GoE p e below _ (T14.setTop (mkF m 175 #[.val (.long q1), .second, .val (.long q2), .second, .val (.long q3), .second, .val (.int q4), .val (.long (minL q1 q2)), .second, .val (.long (maxL q1 q2)), .second, .val (.ref b3), .val (.int (1 : Int32)), .val (.long ((minL q1 q2) + ((q4 &&& (3 : Int32)) - (2 : Int32)).toInt64)), .second, .unset, .unset] [.int (conL (minL q1 q2) (maxL q1 q2) ((minL q1 q2) + ((q4 &&& (3 : Int32)) - (2 : Int32)).toInt64))]))
      refine g_lload X14 hx hby at_175 (pc' := 177) rfl rfl ?_
      refine g_lload X14 hx hby at_177 (pc' := 179) rfl rfl ?_
      refine g_lload X14 hx hby at_179 (pc' := 181) rfl rfl ?_
      refine g_callS X14 hx hZ hown (W := 1) (argsL := [.long (minL q1 q2), .long (maxL q1 q2), .long ((minL q1 q2) + ((q4 &&& (3 : Int32)) - (2 : Int32)).toInt64)]) (rest := [.int (conL (minL q1 q2) (maxL q1 q2) ((minL q1 q2) + ((q4 &&& (3 : Int32)) - (2 : Int32)).toInt64))]) hby at_181 (pc' := 184) rfl (by rw [hml]; rfl) (w_32 hw) (w_33 hw) (w_34 hw) (w_35 hw) (by decide) (rm7 l Z a0 hw [] (minL q1 q2) (maxL q1 q2) ((minL q1 q2) + ((q4 &&& (3 : Int32)) - (2 : Int32)).toInt64) T4.heap n0) e14 (by decide) (by decide) (by decide) (by decide) rfl pd__28JJJ_29Z rfl rfl (Nat.le_of_eq rfl) ?_
      rintro _ T15 L15 X15 ⟨rfl, N15q, e15⟩
      have N15 := Fr.app N14 N15q
      show GoE p e below _ (T15.setTop (mkF m 184 #[.val (.long q1), .second, .val (.long q2), .second, .val (.long q3), .second, .val (.int q4), .val (.long (minL q1 q2)), .second, .val (.long (maxL q1 q2)), .second, .val (.ref b3), .val (.int (1 : Int32)), .val (.long ((minL q1 q2) + ((q4 &&& (3 : Int32)) - (2 : Int32)).toInt64)), .second, .unset, .unset] [.int (clampL (minL q1 q2) (maxL q1 q2) ((minL q1 q2) + ((q4 &&& (3 : Int32)) - (2 : Int32)).toInt64)), .int (conL (minL q1 q2) (maxL q1 q2) ((minL q1 q2) + ((q4 &&& (3 : Int32)) - (2 : Int32)).toInt64))]))
      refine g_icmp_ne X15 hx hby at_184 (by decide) (pc' := 191) (by decide) (pn := 187) rfl (fun z => absurd z (fun z => z (own_cl _ _ _ (own_le q1 q2)))) (fun hc184_16 => ?_)
      refine g_iconst X15 hx hby at_187 (pc' := 188) rfl (z := (1 : Int32)) rfl ?_
      refine g_goto X15 hx hby at_188 (by decide) (pc' := 192) (by decide) ?_
      refine g_istore X15 hx hby at_192 (pc' := 194) rfl (l' := #[.val (.long q1), .second, .val (.long q2), .second, .val (.long q3), .second, .val (.int q4), .val (.long (minL q1 q2)), .second, .val (.long (maxL q1 q2)), .second, .val (.ref b3), .val (.int (1 : Int32)), .val (.long ((minL q1 q2) + ((q4 &&& (3 : Int32)) - (2 : Int32)).toInt64)), .second, .unset, .unset]) rfl ?_
      refine g_lload X15 hx hby at_194 (pc' := 196) rfl rfl ?_
      refine g_iload X15 hx hby at_196 (pc' := 198) rfl rfl ?_
      refine g_iconst X15 hx hby at_198 (pc' := 199) rfl (z := (2 : Int32)) rfl ?_
      refine g_iushr X15 hx hby at_199 (pc' := 200) rfl ?_
      refine g_iconst X15 hx hby at_200 (pc' := 201) rfl (z := (3 : Int32)) rfl ?_
      refine g_iand X15 hx hby at_201 (pc' := 202) rfl ?_
      refine g_iconst X15 hx hby at_202 (pc' := 203) rfl (z := (1 : Int32)) rfl ?_
      refine g_isub X15 hx hby at_203 (pc' := 204) rfl ?_
      refine g_i2l X15 hx hby at_204 (pc' := 205) rfl ?_
      refine g_ladd X15 hx hby at_205 (pc' := 206) rfl ?_
      refine g_lstore X15 hx hby at_206 (pc' := 208) rfl (l' := #[.val (.long q1), .second, .val (.long q2), .second, .val (.long q3), .second, .val (.int q4), .val (.long (minL q1 q2)), .second, .val (.long (maxL q1 q2)), .second, .val (.ref b3), .val (.int (1 : Int32)), .val (.long ((minL q1 q2) + ((q4 &&& (3 : Int32)) - (2 : Int32)).toInt64)), .second, .val (.long ((maxL q1 q2) + (((ushr q4 (2 : Int32)) &&& (3 : Int32)) - (1 : Int32)).toInt64)), .second]) rfl ?_
      refine g_iload X15 hx hby at_208 (pc' := 210) rfl rfl ?_
      refine g_if_eq X15 hx hby at_210 (by decide) (pc' := 236) (by decide) (pn := 213) rfl (fun z => absurd z (by decide)) (fun _ => ?_)
      refine g_aload X15 hx hby at_213 (pc' := 215) rfl rfl rfl ?_
      refine g_lload X15 hx hby at_215 (pc' := 217) rfl rfl ?_
      refine g_callV X15 hx hZ hown (W := 0) (argsL := [.long ((maxL q1 q2) + (((ushr q4 (2 : Int32)) &&& (3 : Int32)) - (1 : Int32)).toInt64)]) (b := b3) (rest := []) hby at_217 (pc' := 220) rfl (by rw [hml]; rfl) (w_25 hw) (w_26 hw) (w_28 hw) (notFace_of_selects (args := #[]) (mvT hZ (w_28 hw))) (w_27 hw) (w_9 hw) (w_29 hw) (by decide) (rm6 l Z a0 hw [] b3 ((maxL q1 q2) + (((ushr q4 (2 : Int32)) &&& (3 : Int32)) - (1 : Int32)).toInt64) T4.heap n0 _ _ Ff4 Fl4) e15 E4i (by decide) (by decide) (by decide) (by decide) rfl pd__28J_29Z rfl rfl (Nat.le_of_eq rfl) ?_
      rintro _ T17 L17 X17 ⟨rfl, N17q, e17⟩
      have N17 := Fr.app N15 N17q
      show GoE p e below _ (T17.setTop (mkF m 220 #[.val (.long q1), .second, .val (.long q2), .second, .val (.long q3), .second, .val (.int q4), .val (.long (minL q1 q2)), .second, .val (.long (maxL q1 q2)), .second, .val (.ref b3), .val (.int (1 : Int32)), .val (.long ((minL q1 q2) + ((q4 &&& (3 : Int32)) - (2 : Int32)).toInt64)), .second, .val (.long ((maxL q1 q2) + (((ushr q4 (2 : Int32)) &&& (3 : Int32)) - (1 : Int32)).toInt64)), .second] [.int (conL (minL q1 q2) (maxL q1 q2) ((maxL q1 q2) + (((ushr q4 (2 : Int32)) &&& (3 : Int32)) - (1 : Int32)).toInt64))]))
      refine g_lload X17 hx hby at_220 (pc' := 222) rfl rfl ?_
      refine g_lload X17 hx hby at_222 (pc' := 224) rfl rfl ?_
      refine g_lload X17 hx hby at_224 (pc' := 226) rfl rfl ?_
      refine g_callS X17 hx hZ hown (W := 1) (argsL := [.long (minL q1 q2), .long (maxL q1 q2), .long ((maxL q1 q2) + (((ushr q4 (2 : Int32)) &&& (3 : Int32)) - (1 : Int32)).toInt64)]) (rest := [.int (conL (minL q1 q2) (maxL q1 q2) ((maxL q1 q2) + (((ushr q4 (2 : Int32)) &&& (3 : Int32)) - (1 : Int32)).toInt64))]) hby at_226 (pc' := 229) rfl (by rw [hml]; rfl) (w_32 hw) (w_33 hw) (w_34 hw) (w_35 hw) (by decide) (rm7 l Z a0 hw [] (minL q1 q2) (maxL q1 q2) ((maxL q1 q2) + (((ushr q4 (2 : Int32)) &&& (3 : Int32)) - (1 : Int32)).toInt64) T4.heap n0) e17 (by decide) (by decide) (by decide) (by decide) rfl pd__28JJJ_29Z rfl rfl (Nat.le_of_eq rfl) ?_
      rintro _ T18 L18 X18 ⟨rfl, N18q, e18⟩
      have N18 := Fr.app N17 N18q
      show GoE p e below _ (T18.setTop (mkF m 229 #[.val (.long q1), .second, .val (.long q2), .second, .val (.long q3), .second, .val (.int q4), .val (.long (minL q1 q2)), .second, .val (.long (maxL q1 q2)), .second, .val (.ref b3), .val (.int (1 : Int32)), .val (.long ((minL q1 q2) + ((q4 &&& (3 : Int32)) - (2 : Int32)).toInt64)), .second, .val (.long ((maxL q1 q2) + (((ushr q4 (2 : Int32)) &&& (3 : Int32)) - (1 : Int32)).toInt64)), .second] [.int (clampL (minL q1 q2) (maxL q1 q2) ((maxL q1 q2) + (((ushr q4 (2 : Int32)) &&& (3 : Int32)) - (1 : Int32)).toInt64)), .int (conL (minL q1 q2) (maxL q1 q2) ((maxL q1 q2) + (((ushr q4 (2 : Int32)) &&& (3 : Int32)) - (1 : Int32)).toInt64))]))
      refine g_icmp_ne X18 hx hby at_229 (by decide) (pc' := 236) (by decide) (pn := 232) rfl (fun z => absurd z (fun z => z (own_cl _ _ _ (own_le q1 q2)))) (fun hc229_19 => ?_)
      refine g_iconst X18 hx hby at_232 (pc' := 233) rfl (z := (1 : Int32)) rfl ?_
      refine g_goto X18 hx hby at_233 (by decide) (pc' := 237) (by decide) ?_
      refine g_istore X18 hx hby at_237 (pc' := 239) rfl (l' := #[.val (.long q1), .second, .val (.long q2), .second, .val (.long q3), .second, .val (.int q4), .val (.long (minL q1 q2)), .second, .val (.long (maxL q1 q2)), .second, .val (.ref b3), .val (.int (1 : Int32)), .val (.long ((minL q1 q2) + ((q4 &&& (3 : Int32)) - (2 : Int32)).toInt64)), .second, .val (.long ((maxL q1 q2) + (((ushr q4 (2 : Int32)) &&& (3 : Int32)) - (1 : Int32)).toInt64)), .second]) rfl ?_
      refine g_iload X18 hx hby at_239 (pc' := 241) rfl rfl ?_
      exact g_retN (Q := (fun v h L => v = some (.int 1) ∧ Fr n0 L)) (w := (1 : Int32)) X18 hx hby at_241 hret (by simp) (by first | decide | rfl) hlk (by decide) (by decide) ⟨rfl, N18⟩
    · refine g_iload X7 hx hby at_96 (pc' := 98) rfl rfl ?_
      refine g_if_eq X7 hx hby at_98 (by decide) (pc' := 117) (by decide) (pn := 101) rfl (fun z => absurd z (by decide)) (fun _ => ?_)
      refine g_aload X7 hx hby at_101 (pc' := 103) rfl rfl rfl ?_
      refine g_lload X7 hx hby at_103 (pc' := 105) rfl rfl ?_
      refine g_lconst X7 hx hby at_105 (pc' := 106) rfl (z := (1 : Int64)) rfl ?_
      refine g_ladd X7 hx hby at_106 (pc' := 107) rfl ?_
      refine g_callV X7 hx hZ hown (W := 0) (argsL := [.long ((maxL q1 q2) + (1 : Int64))]) (b := b3) (rest := []) hby at_107 (pc' := 110) rfl (by rw [hml]; rfl) (w_25 hw) (w_26 hw) (w_28 hw) (notFace_of_selects (args := #[]) (mvT hZ (w_28 hw))) (w_27 hw) (w_9 hw) (w_29 hw) (by decide) (rm6 l Z a0 hw [] b3 ((maxL q1 q2) + (1 : Int64)) T4.heap n0 _ _ Ff4 Fl4) e7 E4i (by decide) (by decide) (by decide) (by decide) rfl pd__28J_29Z rfl rfl (Nat.le_of_eq rfl) ?_
      rintro _ T20 L20 X20 ⟨rfl, N20q, e20⟩
      have N20 := Fr.app N7 N20q
      show GoE p e below _ (T20.setTop (mkF m 110 #[.val (.long q1), .second, .val (.long q2), .second, .val (.long q3), .second, .val (.int q4), .val (.long (minL q1 q2)), .second, .val (.long (maxL q1 q2)), .second, .val (.ref b3), .val (.int (1 : Int32)), .unset, .unset, .unset, .unset] [.int (conL (minL q1 q2) (maxL q1 q2) ((maxL q1 q2) + (1 : Int64)))]))
      refine g_if_ne X20 hx hby at_110 (by decide) (pc' := 117) (by decide) (pn := 113) rfl (fun z => absurd z (fun z => z (own_c4 _ _ hc93_10))) (fun hc110_21 => ?_)
      refine g_iconst X20 hx hby at_113 (pc' := 114) rfl (z := (1 : Int32)) rfl ?_
      refine g_goto X20 hx hby at_114 (by decide) (pc' := 118) (by decide) ?_
      refine g_istore X20 hx hby at_118 (pc' := 120) rfl (l' := #[.val (.long q1), .second, .val (.long q2), .second, .val (.long q3), .second, .val (.int q4), .val (.long (minL q1 q2)), .second, .val (.long (maxL q1 q2)), .second, .val (.ref b3), .val (.int (1 : Int32)), .unset, .unset, .unset, .unset]) rfl ?_
      refine g_iload X20 hx hby at_120 (pc' := 122) rfl rfl ?_
      refine g_if_eq X20 hx hby at_122 (by decide) (pc' := 148) (by decide) (pn := 125) rfl (fun z => absurd z (by decide)) (fun _ => ?_)
      refine g_aload X20 hx hby at_125 (pc' := 127) rfl rfl rfl ?_
      refine g_lload X20 hx hby at_127 (pc' := 129) rfl rfl ?_
      refine g_callV X20 hx hZ hown (W := 0) (argsL := [.long q3]) (b := b3) (rest := []) hby at_129 (pc' := 132) rfl (by rw [hml]; rfl) (w_25 hw) (w_26 hw) (w_28 hw) (notFace_of_selects (args := #[]) (mvT hZ (w_28 hw))) (w_27 hw) (w_9 hw) (w_29 hw) (by decide) (rm6 l Z a0 hw [] b3 q3 T4.heap n0 _ _ Ff4 Fl4) e20 E4i (by decide) (by decide) (by decide) (by decide) rfl pd__28J_29Z rfl rfl (Nat.le_of_eq rfl) ?_
      rintro _ T22 L22 X22 ⟨rfl, N22q, e22⟩
      have N22 := Fr.app N20 N22q
      show GoE p e below _ (T22.setTop (mkF m 132 #[.val (.long q1), .second, .val (.long q2), .second, .val (.long q3), .second, .val (.int q4), .val (.long (minL q1 q2)), .second, .val (.long (maxL q1 q2)), .second, .val (.ref b3), .val (.int (1 : Int32)), .unset, .unset, .unset, .unset] [.int (conL (minL q1 q2) (maxL q1 q2) q3)]))
      refine g_lload X22 hx hby at_132 (pc' := 134) rfl rfl ?_
      refine g_lload X22 hx hby at_134 (pc' := 136) rfl rfl ?_
      refine g_lload X22 hx hby at_136 (pc' := 138) rfl rfl ?_
      refine g_callS X22 hx hZ hown (W := 1) (argsL := [.long (minL q1 q2), .long (maxL q1 q2), .long q3]) (rest := [.int (conL (minL q1 q2) (maxL q1 q2) q3)]) hby at_138 (pc' := 141) rfl (by rw [hml]; rfl) (w_32 hw) (w_33 hw) (w_34 hw) (w_35 hw) (by decide) (rm7 l Z a0 hw [] (minL q1 q2) (maxL q1 q2) q3 T4.heap n0) e22 (by decide) (by decide) (by decide) (by decide) rfl pd__28JJJ_29Z rfl rfl (Nat.le_of_eq rfl) ?_
      rintro _ T23 L23 X23 ⟨rfl, N23q, e23⟩
      have N23 := Fr.app N22 N23q
      show GoE p e below _ (T23.setTop (mkF m 141 #[.val (.long q1), .second, .val (.long q2), .second, .val (.long q3), .second, .val (.int q4), .val (.long (minL q1 q2)), .second, .val (.long (maxL q1 q2)), .second, .val (.ref b3), .val (.int (1 : Int32)), .unset, .unset, .unset, .unset] [.int (clampL (minL q1 q2) (maxL q1 q2) q3), .int (conL (minL q1 q2) (maxL q1 q2) q3)]))
      refine g_icmp_ne X23 hx hby at_141 (by decide) (pc' := 148) (by decide) (pn := 144) rfl (fun z => absurd z (fun z => z (own_cl _ _ _ (own_le q1 q2)))) (fun hc141_24 => ?_)
      refine g_iconst X23 hx hby at_144 (pc' := 145) rfl (z := (1 : Int32)) rfl ?_
      refine g_goto X23 hx hby at_145 (by decide) (pc' := 149) (by decide) ?_
      refine g_istore X23 hx hby at_149 (pc' := 151) rfl (l' := #[.val (.long q1), .second, .val (.long q2), .second, .val (.long q3), .second, .val (.int q4), .val (.long (minL q1 q2)), .second, .val (.long (maxL q1 q2)), .second, .val (.ref b3), .val (.int (1 : Int32)), .unset, .unset, .unset, .unset]) rfl ?_
      refine g_lload X23 hx hby at_151 (pc' := 153) rfl rfl ?_
      refine g_iload X23 hx hby at_153 (pc' := 155) rfl rfl ?_
      refine g_iconst X23 hx hby at_155 (pc' := 156) rfl (z := (3 : Int32)) rfl ?_
      refine g_iand X23 hx hby at_156 (pc' := 157) rfl ?_
      refine g_iconst X23 hx hby at_157 (pc' := 158) rfl (z := (2 : Int32)) rfl ?_
      refine g_isub X23 hx hby at_158 (pc' := 159) rfl ?_
      refine g_i2l X23 hx hby at_159 (pc' := 160) rfl ?_
      refine g_ladd X23 hx hby at_160 (pc' := 161) rfl ?_
      refine g_lstore X23 hx hby at_161 (pc' := 163) rfl (l' := #[.val (.long q1), .second, .val (.long q2), .second, .val (.long q3), .second, .val (.int q4), .val (.long (minL q1 q2)), .second, .val (.long (maxL q1 q2)), .second, .val (.ref b3), .val (.int (1 : Int32)), .val (.long ((minL q1 q2) + ((q4 &&& (3 : Int32)) - (2 : Int32)).toInt64)), .second, .unset, .unset]) rfl ?_
      refine g_iload X23 hx hby at_163 (pc' := 165) rfl rfl ?_
      refine g_if_eq X23 hx hby at_165 (by decide) (pc' := 191) (by decide) (pn := 168) rfl (fun z => absurd z (by decide)) (fun _ => ?_)
      refine g_aload X23 hx hby at_168 (pc' := 170) rfl rfl rfl ?_
      refine g_lload X23 hx hby at_170 (pc' := 172) rfl rfl ?_
      refine g_callV X23 hx hZ hown (W := 0) (argsL := [.long ((minL q1 q2) + ((q4 &&& (3 : Int32)) - (2 : Int32)).toInt64)]) (b := b3) (rest := []) hby at_172 (pc' := 175) rfl (by rw [hml]; rfl) (w_25 hw) (w_26 hw) (w_28 hw) (notFace_of_selects (args := #[]) (mvT hZ (w_28 hw))) (w_27 hw) (w_9 hw) (w_29 hw) (by decide) (rm6 l Z a0 hw [] b3 ((minL q1 q2) + ((q4 &&& (3 : Int32)) - (2 : Int32)).toInt64) T4.heap n0 _ _ Ff4 Fl4) e23 E4i (by decide) (by decide) (by decide) (by decide) rfl pd__28J_29Z rfl rfl (Nat.le_of_eq rfl) ?_
      rintro _ T25 L25 X25 ⟨rfl, N25q, e25⟩
      have N25 := Fr.app N23 N25q
      show GoE p e below _ (T25.setTop (mkF m 175 #[.val (.long q1), .second, .val (.long q2), .second, .val (.long q3), .second, .val (.int q4), .val (.long (minL q1 q2)), .second, .val (.long (maxL q1 q2)), .second, .val (.ref b3), .val (.int (1 : Int32)), .val (.long ((minL q1 q2) + ((q4 &&& (3 : Int32)) - (2 : Int32)).toInt64)), .second, .unset, .unset] [.int (conL (minL q1 q2) (maxL q1 q2) ((minL q1 q2) + ((q4 &&& (3 : Int32)) - (2 : Int32)).toInt64))]))
      refine g_lload X25 hx hby at_175 (pc' := 177) rfl rfl ?_
      refine g_lload X25 hx hby at_177 (pc' := 179) rfl rfl ?_
      refine g_lload X25 hx hby at_179 (pc' := 181) rfl rfl ?_
      refine g_callS X25 hx hZ hown (W := 1) (argsL := [.long (minL q1 q2), .long (maxL q1 q2), .long ((minL q1 q2) + ((q4 &&& (3 : Int32)) - (2 : Int32)).toInt64)]) (rest := [.int (conL (minL q1 q2) (maxL q1 q2) ((minL q1 q2) + ((q4 &&& (3 : Int32)) - (2 : Int32)).toInt64))]) hby at_181 (pc' := 184) rfl (by rw [hml]; rfl) (w_32 hw) (w_33 hw) (w_34 hw) (w_35 hw) (by decide) (rm7 l Z a0 hw [] (minL q1 q2) (maxL q1 q2) ((minL q1 q2) + ((q4 &&& (3 : Int32)) - (2 : Int32)).toInt64) T4.heap n0) e25 (by decide) (by decide) (by decide) (by decide) rfl pd__28JJJ_29Z rfl rfl (Nat.le_of_eq rfl) ?_
      rintro _ T26 L26 X26 ⟨rfl, N26q, e26⟩
      have N26 := Fr.app N25 N26q
      show GoE p e below _ (T26.setTop (mkF m 184 #[.val (.long q1), .second, .val (.long q2), .second, .val (.long q3), .second, .val (.int q4), .val (.long (minL q1 q2)), .second, .val (.long (maxL q1 q2)), .second, .val (.ref b3), .val (.int (1 : Int32)), .val (.long ((minL q1 q2) + ((q4 &&& (3 : Int32)) - (2 : Int32)).toInt64)), .second, .unset, .unset] [.int (clampL (minL q1 q2) (maxL q1 q2) ((minL q1 q2) + ((q4 &&& (3 : Int32)) - (2 : Int32)).toInt64)), .int (conL (minL q1 q2) (maxL q1 q2) ((minL q1 q2) + ((q4 &&& (3 : Int32)) - (2 : Int32)).toInt64))]))
      refine g_icmp_ne X26 hx hby at_184 (by decide) (pc' := 191) (by decide) (pn := 187) rfl (fun z => absurd z (fun z => z (own_cl _ _ _ (own_le q1 q2)))) (fun hc184_27 => ?_)
      refine g_iconst X26 hx hby at_187 (pc' := 188) rfl (z := (1 : Int32)) rfl ?_
      refine g_goto X26 hx hby at_188 (by decide) (pc' := 192) (by decide) ?_
      refine g_istore X26 hx hby at_192 (pc' := 194) rfl (l' := #[.val (.long q1), .second, .val (.long q2), .second, .val (.long q3), .second, .val (.int q4), .val (.long (minL q1 q2)), .second, .val (.long (maxL q1 q2)), .second, .val (.ref b3), .val (.int (1 : Int32)), .val (.long ((minL q1 q2) + ((q4 &&& (3 : Int32)) - (2 : Int32)).toInt64)), .second, .unset, .unset]) rfl ?_
      refine g_lload X26 hx hby at_194 (pc' := 196) rfl rfl ?_
      refine g_iload X26 hx hby at_196 (pc' := 198) rfl rfl ?_
      refine g_iconst X26 hx hby at_198 (pc' := 199) rfl (z := (2 : Int32)) rfl ?_
      refine g_iushr X26 hx hby at_199 (pc' := 200) rfl ?_
      refine g_iconst X26 hx hby at_200 (pc' := 201) rfl (z := (3 : Int32)) rfl ?_
      refine g_iand X26 hx hby at_201 (pc' := 202) rfl ?_
      refine g_iconst X26 hx hby at_202 (pc' := 203) rfl (z := (1 : Int32)) rfl ?_
      refine g_isub X26 hx hby at_203 (pc' := 204) rfl ?_
      refine g_i2l X26 hx hby at_204 (pc' := 205) rfl ?_
      refine g_ladd X26 hx hby at_205 (pc' := 206) rfl ?_
      refine g_lstore X26 hx hby at_206 (pc' := 208) rfl (l' := #[.val (.long q1), .second, .val (.long q2), .second, .val (.long q3), .second, .val (.int q4), .val (.long (minL q1 q2)), .second, .val (.long (maxL q1 q2)), .second, .val (.ref b3), .val (.int (1 : Int32)), .val (.long ((minL q1 q2) + ((q4 &&& (3 : Int32)) - (2 : Int32)).toInt64)), .second, .val (.long ((maxL q1 q2) + (((ushr q4 (2 : Int32)) &&& (3 : Int32)) - (1 : Int32)).toInt64)), .second]) rfl ?_
      refine g_iload X26 hx hby at_208 (pc' := 210) rfl rfl ?_
      refine g_if_eq X26 hx hby at_210 (by decide) (pc' := 236) (by decide) (pn := 213) rfl (fun z => absurd z (by decide)) (fun _ => ?_)
      refine g_aload X26 hx hby at_213 (pc' := 215) rfl rfl rfl ?_
      refine g_lload X26 hx hby at_215 (pc' := 217) rfl rfl ?_
      refine g_callV X26 hx hZ hown (W := 0) (argsL := [.long ((maxL q1 q2) + (((ushr q4 (2 : Int32)) &&& (3 : Int32)) - (1 : Int32)).toInt64)]) (b := b3) (rest := []) hby at_217 (pc' := 220) rfl (by rw [hml]; rfl) (w_25 hw) (w_26 hw) (w_28 hw) (notFace_of_selects (args := #[]) (mvT hZ (w_28 hw))) (w_27 hw) (w_9 hw) (w_29 hw) (by decide) (rm6 l Z a0 hw [] b3 ((maxL q1 q2) + (((ushr q4 (2 : Int32)) &&& (3 : Int32)) - (1 : Int32)).toInt64) T4.heap n0 _ _ Ff4 Fl4) e26 E4i (by decide) (by decide) (by decide) (by decide) rfl pd__28J_29Z rfl rfl (Nat.le_of_eq rfl) ?_
      rintro _ T28 L28 X28 ⟨rfl, N28q, e28⟩
      have N28 := Fr.app N26 N28q
      show GoE p e below _ (T28.setTop (mkF m 220 #[.val (.long q1), .second, .val (.long q2), .second, .val (.long q3), .second, .val (.int q4), .val (.long (minL q1 q2)), .second, .val (.long (maxL q1 q2)), .second, .val (.ref b3), .val (.int (1 : Int32)), .val (.long ((minL q1 q2) + ((q4 &&& (3 : Int32)) - (2 : Int32)).toInt64)), .second, .val (.long ((maxL q1 q2) + (((ushr q4 (2 : Int32)) &&& (3 : Int32)) - (1 : Int32)).toInt64)), .second] [.int (conL (minL q1 q2) (maxL q1 q2) ((maxL q1 q2) + (((ushr q4 (2 : Int32)) &&& (3 : Int32)) - (1 : Int32)).toInt64))]))
      refine g_lload X28 hx hby at_220 (pc' := 222) rfl rfl ?_
      refine g_lload X28 hx hby at_222 (pc' := 224) rfl rfl ?_
      refine g_lload X28 hx hby at_224 (pc' := 226) rfl rfl ?_
      refine g_callS X28 hx hZ hown (W := 1) (argsL := [.long (minL q1 q2), .long (maxL q1 q2), .long ((maxL q1 q2) + (((ushr q4 (2 : Int32)) &&& (3 : Int32)) - (1 : Int32)).toInt64)]) (rest := [.int (conL (minL q1 q2) (maxL q1 q2) ((maxL q1 q2) + (((ushr q4 (2 : Int32)) &&& (3 : Int32)) - (1 : Int32)).toInt64))]) hby at_226 (pc' := 229) rfl (by rw [hml]; rfl) (w_32 hw) (w_33 hw) (w_34 hw) (w_35 hw) (by decide) (rm7 l Z a0 hw [] (minL q1 q2) (maxL q1 q2) ((maxL q1 q2) + (((ushr q4 (2 : Int32)) &&& (3 : Int32)) - (1 : Int32)).toInt64) T4.heap n0) e28 (by decide) (by decide) (by decide) (by decide) rfl pd__28JJJ_29Z rfl rfl (Nat.le_of_eq rfl) ?_
      rintro _ T29 L29 X29 ⟨rfl, N29q, e29⟩
      have N29 := Fr.app N28 N29q
      show GoE p e below _ (T29.setTop (mkF m 229 #[.val (.long q1), .second, .val (.long q2), .second, .val (.long q3), .second, .val (.int q4), .val (.long (minL q1 q2)), .second, .val (.long (maxL q1 q2)), .second, .val (.ref b3), .val (.int (1 : Int32)), .val (.long ((minL q1 q2) + ((q4 &&& (3 : Int32)) - (2 : Int32)).toInt64)), .second, .val (.long ((maxL q1 q2) + (((ushr q4 (2 : Int32)) &&& (3 : Int32)) - (1 : Int32)).toInt64)), .second] [.int (clampL (minL q1 q2) (maxL q1 q2) ((maxL q1 q2) + (((ushr q4 (2 : Int32)) &&& (3 : Int32)) - (1 : Int32)).toInt64)), .int (conL (minL q1 q2) (maxL q1 q2) ((maxL q1 q2) + (((ushr q4 (2 : Int32)) &&& (3 : Int32)) - (1 : Int32)).toInt64))]))
      refine g_icmp_ne X29 hx hby at_229 (by decide) (pc' := 236) (by decide) (pn := 232) rfl (fun z => absurd z (fun z => z (own_cl _ _ _ (own_le q1 q2)))) (fun hc229_30 => ?_)
      refine g_iconst X29 hx hby at_232 (pc' := 233) rfl (z := (1 : Int32)) rfl ?_
      refine g_goto X29 hx hby at_233 (by decide) (pc' := 237) (by decide) ?_
      refine g_istore X29 hx hby at_237 (pc' := 239) rfl (l' := #[.val (.long q1), .second, .val (.long q2), .second, .val (.long q3), .second, .val (.int q4), .val (.long (minL q1 q2)), .second, .val (.long (maxL q1 q2)), .second, .val (.ref b3), .val (.int (1 : Int32)), .val (.long ((minL q1 q2) + ((q4 &&& (3 : Int32)) - (2 : Int32)).toInt64)), .second, .val (.long ((maxL q1 q2) + (((ushr q4 (2 : Int32)) &&& (3 : Int32)) - (1 : Int32)).toInt64)), .second]) rfl ?_
      refine g_iload X29 hx hby at_239 (pc' := 241) rfl rfl ?_
      exact g_retN (Q := (fun v h L => v = some (.int 1) ∧ Fr n0 L)) (w := (1 : Int32)) X29 hx hby at_241 hret (by simp) (by first | decide | rfl) hlk (by decide) (by decide) ⟨rfl, N29⟩
  · refine g_iload X7 hx hby at_63 (pc' := 65) rfl rfl ?_
    refine g_if_eq X7 hx hby at_65 (by decide) (pc' := 84) (by decide) (pn := 68) rfl (fun z => absurd z (by decide)) (fun _ => ?_)
    refine g_aload X7 hx hby at_68 (pc' := 70) rfl rfl rfl ?_
    refine g_lload X7 hx hby at_70 (pc' := 72) rfl rfl ?_
    refine g_lconst X7 hx hby at_72 (pc' := 73) rfl (z := (1 : Int64)) rfl ?_
    refine g_lsub X7 hx hby at_73 (pc' := 74) rfl ?_
    refine g_callV X7 hx hZ hown (W := 0) (argsL := [.long ((minL q1 q2) - (1 : Int64))]) (b := b3) (rest := []) hby at_74 (pc' := 77) rfl (by rw [hml]; rfl) (w_25 hw) (w_26 hw) (w_28 hw) (notFace_of_selects (args := #[]) (mvT hZ (w_28 hw))) (w_27 hw) (w_9 hw) (w_29 hw) (by decide) (rm6 l Z a0 hw [] b3 ((minL q1 q2) - (1 : Int64)) T4.heap n0 _ _ Ff4 Fl4) e7 E4i (by decide) (by decide) (by decide) (by decide) rfl pd__28J_29Z rfl rfl (Nat.le_of_eq rfl) ?_
    rintro _ T31 L31 X31 ⟨rfl, N31q, e31⟩
    have N31 := Fr.app N7 N31q
    show GoE p e below _ (T31.setTop (mkF m 77 #[.val (.long q1), .second, .val (.long q2), .second, .val (.long q3), .second, .val (.int q4), .val (.long (minL q1 q2)), .second, .val (.long (maxL q1 q2)), .second, .val (.ref b3), .val (.int (1 : Int32)), .unset, .unset, .unset, .unset] [.int (conL (minL q1 q2) (maxL q1 q2) ((minL q1 q2) - (1 : Int64)))]))
    refine g_if_ne X31 hx hby at_77 (by decide) (pc' := 84) (by decide) (pn := 80) rfl (fun z => absurd z (fun z => z (own_c3 _ _ hc60_9))) (fun hc77_32 => ?_)
    refine g_iconst X31 hx hby at_80 (pc' := 81) rfl (z := (1 : Int32)) rfl ?_
    refine g_goto X31 hx hby at_81 (by decide) (pc' := 85) (by decide) ?_
    refine g_istore X31 hx hby at_85 (pc' := 87) rfl (l' := #[.val (.long q1), .second, .val (.long q2), .second, .val (.long q3), .second, .val (.int q4), .val (.long (minL q1 q2)), .second, .val (.long (maxL q1 q2)), .second, .val (.ref b3), .val (.int (1 : Int32)), .unset, .unset, .unset, .unset]) rfl ?_
    refine g_lload X31 hx hby at_87 (pc' := 89) rfl rfl ?_
    refine g_ldcL X31 hx hZ hown hby at_89 (pc' := 92) rfl (w_31 hw) ?_
    refine g_lcmp X31 hx hby at_92 (pc' := 93) rfl ?_
    refine g_ifL_eq X31 hx hby at_93 (by decide) (pc' := 120) (by decide) (pn := 96) rfl (fun hc93_33 => ?_) (fun hc93_33 => ?_)
    · refine g_iload X31 hx hby at_120 (pc' := 122) rfl rfl ?_
      refine g_if_eq X31 hx hby at_122 (by decide) (pc' := 148) (by decide) (pn := 125) rfl (fun z => absurd z (by decide)) (fun _ => ?_)
      refine g_aload X31 hx hby at_125 (pc' := 127) rfl rfl rfl ?_
      refine g_lload X31 hx hby at_127 (pc' := 129) rfl rfl ?_
      refine g_callV X31 hx hZ hown (W := 0) (argsL := [.long q3]) (b := b3) (rest := []) hby at_129 (pc' := 132) rfl (by rw [hml]; rfl) (w_25 hw) (w_26 hw) (w_28 hw) (notFace_of_selects (args := #[]) (mvT hZ (w_28 hw))) (w_27 hw) (w_9 hw) (w_29 hw) (by decide) (rm6 l Z a0 hw [] b3 q3 T4.heap n0 _ _ Ff4 Fl4) e31 E4i (by decide) (by decide) (by decide) (by decide) rfl pd__28J_29Z rfl rfl (Nat.le_of_eq rfl) ?_
      rintro _ T34 L34 X34 ⟨rfl, N34q, e34⟩
      have N34 := Fr.app N31 N34q
      show GoE p e below _ (T34.setTop (mkF m 132 #[.val (.long q1), .second, .val (.long q2), .second, .val (.long q3), .second, .val (.int q4), .val (.long (minL q1 q2)), .second, .val (.long (maxL q1 q2)), .second, .val (.ref b3), .val (.int (1 : Int32)), .unset, .unset, .unset, .unset] [.int (conL (minL q1 q2) (maxL q1 q2) q3)]))
      refine g_lload X34 hx hby at_132 (pc' := 134) rfl rfl ?_
      refine g_lload X34 hx hby at_134 (pc' := 136) rfl rfl ?_
      refine g_lload X34 hx hby at_136 (pc' := 138) rfl rfl ?_
      refine g_callS X34 hx hZ hown (W := 1) (argsL := [.long (minL q1 q2), .long (maxL q1 q2), .long q3]) (rest := [.int (conL (minL q1 q2) (maxL q1 q2) q3)]) hby at_138 (pc' := 141) rfl (by rw [hml]; rfl) (w_32 hw) (w_33 hw) (w_34 hw) (w_35 hw) (by decide) (rm7 l Z a0 hw [] (minL q1 q2) (maxL q1 q2) q3 T4.heap n0) e34 (by decide) (by decide) (by decide) (by decide) rfl pd__28JJJ_29Z rfl rfl (Nat.le_of_eq rfl) ?_
      rintro _ T35 L35 X35 ⟨rfl, N35q, e35⟩
      have N35 := Fr.app N34 N35q
      show GoE p e below _ (T35.setTop (mkF m 141 #[.val (.long q1), .second, .val (.long q2), .second, .val (.long q3), .second, .val (.int q4), .val (.long (minL q1 q2)), .second, .val (.long (maxL q1 q2)), .second, .val (.ref b3), .val (.int (1 : Int32)), .unset, .unset, .unset, .unset] [.int (clampL (minL q1 q2) (maxL q1 q2) q3), .int (conL (minL q1 q2) (maxL q1 q2) q3)]))
      refine g_icmp_ne X35 hx hby at_141 (by decide) (pc' := 148) (by decide) (pn := 144) rfl (fun z => absurd z (fun z => z (own_cl _ _ _ (own_le q1 q2)))) (fun hc141_36 => ?_)
      refine g_iconst X35 hx hby at_144 (pc' := 145) rfl (z := (1 : Int32)) rfl ?_
      refine g_goto X35 hx hby at_145 (by decide) (pc' := 149) (by decide) ?_
      refine g_istore X35 hx hby at_149 (pc' := 151) rfl (l' := #[.val (.long q1), .second, .val (.long q2), .second, .val (.long q3), .second, .val (.int q4), .val (.long (minL q1 q2)), .second, .val (.long (maxL q1 q2)), .second, .val (.ref b3), .val (.int (1 : Int32)), .unset, .unset, .unset, .unset]) rfl ?_
      refine g_lload X35 hx hby at_151 (pc' := 153) rfl rfl ?_
      refine g_iload X35 hx hby at_153 (pc' := 155) rfl rfl ?_
      refine g_iconst X35 hx hby at_155 (pc' := 156) rfl (z := (3 : Int32)) rfl ?_
      refine g_iand X35 hx hby at_156 (pc' := 157) rfl ?_
      refine g_iconst X35 hx hby at_157 (pc' := 158) rfl (z := (2 : Int32)) rfl ?_
      refine g_isub X35 hx hby at_158 (pc' := 159) rfl ?_
      refine g_i2l X35 hx hby at_159 (pc' := 160) rfl ?_
      refine g_ladd X35 hx hby at_160 (pc' := 161) rfl ?_
      refine g_lstore X35 hx hby at_161 (pc' := 163) rfl (l' := #[.val (.long q1), .second, .val (.long q2), .second, .val (.long q3), .second, .val (.int q4), .val (.long (minL q1 q2)), .second, .val (.long (maxL q1 q2)), .second, .val (.ref b3), .val (.int (1 : Int32)), .val (.long ((minL q1 q2) + ((q4 &&& (3 : Int32)) - (2 : Int32)).toInt64)), .second, .unset, .unset]) rfl ?_
      refine g_iload X35 hx hby at_163 (pc' := 165) rfl rfl ?_
      refine g_if_eq X35 hx hby at_165 (by decide) (pc' := 191) (by decide) (pn := 168) rfl (fun z => absurd z (by decide)) (fun _ => ?_)
      refine g_aload X35 hx hby at_168 (pc' := 170) rfl rfl rfl ?_
      refine g_lload X35 hx hby at_170 (pc' := 172) rfl rfl ?_
      refine g_callV X35 hx hZ hown (W := 0) (argsL := [.long ((minL q1 q2) + ((q4 &&& (3 : Int32)) - (2 : Int32)).toInt64)]) (b := b3) (rest := []) hby at_172 (pc' := 175) rfl (by rw [hml]; rfl) (w_25 hw) (w_26 hw) (w_28 hw) (notFace_of_selects (args := #[]) (mvT hZ (w_28 hw))) (w_27 hw) (w_9 hw) (w_29 hw) (by decide) (rm6 l Z a0 hw [] b3 ((minL q1 q2) + ((q4 &&& (3 : Int32)) - (2 : Int32)).toInt64) T4.heap n0 _ _ Ff4 Fl4) e35 E4i (by decide) (by decide) (by decide) (by decide) rfl pd__28J_29Z rfl rfl (Nat.le_of_eq rfl) ?_
      rintro _ T37 L37 X37 ⟨rfl, N37q, e37⟩
      have N37 := Fr.app N35 N37q
      show GoE p e below _ (T37.setTop (mkF m 175 #[.val (.long q1), .second, .val (.long q2), .second, .val (.long q3), .second, .val (.int q4), .val (.long (minL q1 q2)), .second, .val (.long (maxL q1 q2)), .second, .val (.ref b3), .val (.int (1 : Int32)), .val (.long ((minL q1 q2) + ((q4 &&& (3 : Int32)) - (2 : Int32)).toInt64)), .second, .unset, .unset] [.int (conL (minL q1 q2) (maxL q1 q2) ((minL q1 q2) + ((q4 &&& (3 : Int32)) - (2 : Int32)).toInt64))]))
      refine g_lload X37 hx hby at_175 (pc' := 177) rfl rfl ?_
      refine g_lload X37 hx hby at_177 (pc' := 179) rfl rfl ?_
      refine g_lload X37 hx hby at_179 (pc' := 181) rfl rfl ?_
      refine g_callS X37 hx hZ hown (W := 1) (argsL := [.long (minL q1 q2), .long (maxL q1 q2), .long ((minL q1 q2) + ((q4 &&& (3 : Int32)) - (2 : Int32)).toInt64)]) (rest := [.int (conL (minL q1 q2) (maxL q1 q2) ((minL q1 q2) + ((q4 &&& (3 : Int32)) - (2 : Int32)).toInt64))]) hby at_181 (pc' := 184) rfl (by rw [hml]; rfl) (w_32 hw) (w_33 hw) (w_34 hw) (w_35 hw) (by decide) (rm7 l Z a0 hw [] (minL q1 q2) (maxL q1 q2) ((minL q1 q2) + ((q4 &&& (3 : Int32)) - (2 : Int32)).toInt64) T4.heap n0) e37 (by decide) (by decide) (by decide) (by decide) rfl pd__28JJJ_29Z rfl rfl (Nat.le_of_eq rfl) ?_
      rintro _ T38 L38 X38 ⟨rfl, N38q, e38⟩
      have N38 := Fr.app N37 N38q
      show GoE p e below _ (T38.setTop (mkF m 184 #[.val (.long q1), .second, .val (.long q2), .second, .val (.long q3), .second, .val (.int q4), .val (.long (minL q1 q2)), .second, .val (.long (maxL q1 q2)), .second, .val (.ref b3), .val (.int (1 : Int32)), .val (.long ((minL q1 q2) + ((q4 &&& (3 : Int32)) - (2 : Int32)).toInt64)), .second, .unset, .unset] [.int (clampL (minL q1 q2) (maxL q1 q2) ((minL q1 q2) + ((q4 &&& (3 : Int32)) - (2 : Int32)).toInt64)), .int (conL (minL q1 q2) (maxL q1 q2) ((minL q1 q2) + ((q4 &&& (3 : Int32)) - (2 : Int32)).toInt64))]))
      refine g_icmp_ne X38 hx hby at_184 (by decide) (pc' := 191) (by decide) (pn := 187) rfl (fun z => absurd z (fun z => z (own_cl _ _ _ (own_le q1 q2)))) (fun hc184_39 => ?_)
      refine g_iconst X38 hx hby at_187 (pc' := 188) rfl (z := (1 : Int32)) rfl ?_
      refine g_goto X38 hx hby at_188 (by decide) (pc' := 192) (by decide) ?_
      refine g_istore X38 hx hby at_192 (pc' := 194) rfl (l' := #[.val (.long q1), .second, .val (.long q2), .second, .val (.long q3), .second, .val (.int q4), .val (.long (minL q1 q2)), .second, .val (.long (maxL q1 q2)), .second, .val (.ref b3), .val (.int (1 : Int32)), .val (.long ((minL q1 q2) + ((q4 &&& (3 : Int32)) - (2 : Int32)).toInt64)), .second, .unset, .unset]) rfl ?_
      refine g_lload X38 hx hby at_194 (pc' := 196) rfl rfl ?_
      refine g_iload X38 hx hby at_196 (pc' := 198) rfl rfl ?_
      refine g_iconst X38 hx hby at_198 (pc' := 199) rfl (z := (2 : Int32)) rfl ?_
      refine g_iushr X38 hx hby at_199 (pc' := 200) rfl ?_
      refine g_iconst X38 hx hby at_200 (pc' := 201) rfl (z := (3 : Int32)) rfl ?_
      refine g_iand X38 hx hby at_201 (pc' := 202) rfl ?_
      refine g_iconst X38 hx hby at_202 (pc' := 203) rfl (z := (1 : Int32)) rfl ?_
      refine g_isub X38 hx hby at_203 (pc' := 204) rfl ?_
      refine g_i2l X38 hx hby at_204 (pc' := 205) rfl ?_
      refine g_ladd X38 hx hby at_205 (pc' := 206) rfl ?_
      refine g_lstore X38 hx hby at_206 (pc' := 208) rfl (l' := #[.val (.long q1), .second, .val (.long q2), .second, .val (.long q3), .second, .val (.int q4), .val (.long (minL q1 q2)), .second, .val (.long (maxL q1 q2)), .second, .val (.ref b3), .val (.int (1 : Int32)), .val (.long ((minL q1 q2) + ((q4 &&& (3 : Int32)) - (2 : Int32)).toInt64)), .second, .val (.long ((maxL q1 q2) + (((ushr q4 (2 : Int32)) &&& (3 : Int32)) - (1 : Int32)).toInt64)), .second]) rfl ?_
      refine g_iload X38 hx hby at_208 (pc' := 210) rfl rfl ?_
      refine g_if_eq X38 hx hby at_210 (by decide) (pc' := 236) (by decide) (pn := 213) rfl (fun z => absurd z (by decide)) (fun _ => ?_)
      refine g_aload X38 hx hby at_213 (pc' := 215) rfl rfl rfl ?_
      refine g_lload X38 hx hby at_215 (pc' := 217) rfl rfl ?_
      refine g_callV X38 hx hZ hown (W := 0) (argsL := [.long ((maxL q1 q2) + (((ushr q4 (2 : Int32)) &&& (3 : Int32)) - (1 : Int32)).toInt64)]) (b := b3) (rest := []) hby at_217 (pc' := 220) rfl (by rw [hml]; rfl) (w_25 hw) (w_26 hw) (w_28 hw) (notFace_of_selects (args := #[]) (mvT hZ (w_28 hw))) (w_27 hw) (w_9 hw) (w_29 hw) (by decide) (rm6 l Z a0 hw [] b3 ((maxL q1 q2) + (((ushr q4 (2 : Int32)) &&& (3 : Int32)) - (1 : Int32)).toInt64) T4.heap n0 _ _ Ff4 Fl4) e38 E4i (by decide) (by decide) (by decide) (by decide) rfl pd__28J_29Z rfl rfl (Nat.le_of_eq rfl) ?_
      rintro _ T40 L40 X40 ⟨rfl, N40q, e40⟩
      have N40 := Fr.app N38 N40q
      show GoE p e below _ (T40.setTop (mkF m 220 #[.val (.long q1), .second, .val (.long q2), .second, .val (.long q3), .second, .val (.int q4), .val (.long (minL q1 q2)), .second, .val (.long (maxL q1 q2)), .second, .val (.ref b3), .val (.int (1 : Int32)), .val (.long ((minL q1 q2) + ((q4 &&& (3 : Int32)) - (2 : Int32)).toInt64)), .second, .val (.long ((maxL q1 q2) + (((ushr q4 (2 : Int32)) &&& (3 : Int32)) - (1 : Int32)).toInt64)), .second] [.int (conL (minL q1 q2) (maxL q1 q2) ((maxL q1 q2) + (((ushr q4 (2 : Int32)) &&& (3 : Int32)) - (1 : Int32)).toInt64))]))
      refine g_lload X40 hx hby at_220 (pc' := 222) rfl rfl ?_
      refine g_lload X40 hx hby at_222 (pc' := 224) rfl rfl ?_
      refine g_lload X40 hx hby at_224 (pc' := 226) rfl rfl ?_
      refine g_callS X40 hx hZ hown (W := 1) (argsL := [.long (minL q1 q2), .long (maxL q1 q2), .long ((maxL q1 q2) + (((ushr q4 (2 : Int32)) &&& (3 : Int32)) - (1 : Int32)).toInt64)]) (rest := [.int (conL (minL q1 q2) (maxL q1 q2) ((maxL q1 q2) + (((ushr q4 (2 : Int32)) &&& (3 : Int32)) - (1 : Int32)).toInt64))]) hby at_226 (pc' := 229) rfl (by rw [hml]; rfl) (w_32 hw) (w_33 hw) (w_34 hw) (w_35 hw) (by decide) (rm7 l Z a0 hw [] (minL q1 q2) (maxL q1 q2) ((maxL q1 q2) + (((ushr q4 (2 : Int32)) &&& (3 : Int32)) - (1 : Int32)).toInt64) T4.heap n0) e40 (by decide) (by decide) (by decide) (by decide) rfl pd__28JJJ_29Z rfl rfl (Nat.le_of_eq rfl) ?_
      rintro _ T41 L41 X41 ⟨rfl, N41q, e41⟩
      have N41 := Fr.app N40 N41q
      show GoE p e below _ (T41.setTop (mkF m 229 #[.val (.long q1), .second, .val (.long q2), .second, .val (.long q3), .second, .val (.int q4), .val (.long (minL q1 q2)), .second, .val (.long (maxL q1 q2)), .second, .val (.ref b3), .val (.int (1 : Int32)), .val (.long ((minL q1 q2) + ((q4 &&& (3 : Int32)) - (2 : Int32)).toInt64)), .second, .val (.long ((maxL q1 q2) + (((ushr q4 (2 : Int32)) &&& (3 : Int32)) - (1 : Int32)).toInt64)), .second] [.int (clampL (minL q1 q2) (maxL q1 q2) ((maxL q1 q2) + (((ushr q4 (2 : Int32)) &&& (3 : Int32)) - (1 : Int32)).toInt64)), .int (conL (minL q1 q2) (maxL q1 q2) ((maxL q1 q2) + (((ushr q4 (2 : Int32)) &&& (3 : Int32)) - (1 : Int32)).toInt64))]))
      refine g_icmp_ne X41 hx hby at_229 (by decide) (pc' := 236) (by decide) (pn := 232) rfl (fun z => absurd z (fun z => z (own_cl _ _ _ (own_le q1 q2)))) (fun hc229_42 => ?_)
      refine g_iconst X41 hx hby at_232 (pc' := 233) rfl (z := (1 : Int32)) rfl ?_
      refine g_goto X41 hx hby at_233 (by decide) (pc' := 237) (by decide) ?_
      refine g_istore X41 hx hby at_237 (pc' := 239) rfl (l' := #[.val (.long q1), .second, .val (.long q2), .second, .val (.long q3), .second, .val (.int q4), .val (.long (minL q1 q2)), .second, .val (.long (maxL q1 q2)), .second, .val (.ref b3), .val (.int (1 : Int32)), .val (.long ((minL q1 q2) + ((q4 &&& (3 : Int32)) - (2 : Int32)).toInt64)), .second, .val (.long ((maxL q1 q2) + (((ushr q4 (2 : Int32)) &&& (3 : Int32)) - (1 : Int32)).toInt64)), .second]) rfl ?_
      refine g_iload X41 hx hby at_239 (pc' := 241) rfl rfl ?_
      exact g_retN (Q := (fun v h L => v = some (.int 1) ∧ Fr n0 L)) (w := (1 : Int32)) X41 hx hby at_241 hret (by simp) (by first | decide | rfl) hlk (by decide) (by decide) ⟨rfl, N41⟩
    · refine g_iload X31 hx hby at_96 (pc' := 98) rfl rfl ?_
      refine g_if_eq X31 hx hby at_98 (by decide) (pc' := 117) (by decide) (pn := 101) rfl (fun z => absurd z (by decide)) (fun _ => ?_)
      refine g_aload X31 hx hby at_101 (pc' := 103) rfl rfl rfl ?_
      refine g_lload X31 hx hby at_103 (pc' := 105) rfl rfl ?_
      refine g_lconst X31 hx hby at_105 (pc' := 106) rfl (z := (1 : Int64)) rfl ?_
      refine g_ladd X31 hx hby at_106 (pc' := 107) rfl ?_
      refine g_callV X31 hx hZ hown (W := 0) (argsL := [.long ((maxL q1 q2) + (1 : Int64))]) (b := b3) (rest := []) hby at_107 (pc' := 110) rfl (by rw [hml]; rfl) (w_25 hw) (w_26 hw) (w_28 hw) (notFace_of_selects (args := #[]) (mvT hZ (w_28 hw))) (w_27 hw) (w_9 hw) (w_29 hw) (by decide) (rm6 l Z a0 hw [] b3 ((maxL q1 q2) + (1 : Int64)) T4.heap n0 _ _ Ff4 Fl4) e31 E4i (by decide) (by decide) (by decide) (by decide) rfl pd__28J_29Z rfl rfl (Nat.le_of_eq rfl) ?_
      rintro _ T43 L43 X43 ⟨rfl, N43q, e43⟩
      have N43 := Fr.app N31 N43q
      show GoE p e below _ (T43.setTop (mkF m 110 #[.val (.long q1), .second, .val (.long q2), .second, .val (.long q3), .second, .val (.int q4), .val (.long (minL q1 q2)), .second, .val (.long (maxL q1 q2)), .second, .val (.ref b3), .val (.int (1 : Int32)), .unset, .unset, .unset, .unset] [.int (conL (minL q1 q2) (maxL q1 q2) ((maxL q1 q2) + (1 : Int64)))]))
      refine g_if_ne X43 hx hby at_110 (by decide) (pc' := 117) (by decide) (pn := 113) rfl (fun z => absurd z (fun z => z (own_c4 _ _ hc93_33))) (fun hc110_44 => ?_)
      refine g_iconst X43 hx hby at_113 (pc' := 114) rfl (z := (1 : Int32)) rfl ?_
      refine g_goto X43 hx hby at_114 (by decide) (pc' := 118) (by decide) ?_
      refine g_istore X43 hx hby at_118 (pc' := 120) rfl (l' := #[.val (.long q1), .second, .val (.long q2), .second, .val (.long q3), .second, .val (.int q4), .val (.long (minL q1 q2)), .second, .val (.long (maxL q1 q2)), .second, .val (.ref b3), .val (.int (1 : Int32)), .unset, .unset, .unset, .unset]) rfl ?_
      refine g_iload X43 hx hby at_120 (pc' := 122) rfl rfl ?_
      refine g_if_eq X43 hx hby at_122 (by decide) (pc' := 148) (by decide) (pn := 125) rfl (fun z => absurd z (by decide)) (fun _ => ?_)
      refine g_aload X43 hx hby at_125 (pc' := 127) rfl rfl rfl ?_
      refine g_lload X43 hx hby at_127 (pc' := 129) rfl rfl ?_
      refine g_callV X43 hx hZ hown (W := 0) (argsL := [.long q3]) (b := b3) (rest := []) hby at_129 (pc' := 132) rfl (by rw [hml]; rfl) (w_25 hw) (w_26 hw) (w_28 hw) (notFace_of_selects (args := #[]) (mvT hZ (w_28 hw))) (w_27 hw) (w_9 hw) (w_29 hw) (by decide) (rm6 l Z a0 hw [] b3 q3 T4.heap n0 _ _ Ff4 Fl4) e43 E4i (by decide) (by decide) (by decide) (by decide) rfl pd__28J_29Z rfl rfl (Nat.le_of_eq rfl) ?_
      rintro _ T45 L45 X45 ⟨rfl, N45q, e45⟩
      have N45 := Fr.app N43 N45q
      show GoE p e below _ (T45.setTop (mkF m 132 #[.val (.long q1), .second, .val (.long q2), .second, .val (.long q3), .second, .val (.int q4), .val (.long (minL q1 q2)), .second, .val (.long (maxL q1 q2)), .second, .val (.ref b3), .val (.int (1 : Int32)), .unset, .unset, .unset, .unset] [.int (conL (minL q1 q2) (maxL q1 q2) q3)]))
      refine g_lload X45 hx hby at_132 (pc' := 134) rfl rfl ?_
      refine g_lload X45 hx hby at_134 (pc' := 136) rfl rfl ?_
      refine g_lload X45 hx hby at_136 (pc' := 138) rfl rfl ?_
      refine g_callS X45 hx hZ hown (W := 1) (argsL := [.long (minL q1 q2), .long (maxL q1 q2), .long q3]) (rest := [.int (conL (minL q1 q2) (maxL q1 q2) q3)]) hby at_138 (pc' := 141) rfl (by rw [hml]; rfl) (w_32 hw) (w_33 hw) (w_34 hw) (w_35 hw) (by decide) (rm7 l Z a0 hw [] (minL q1 q2) (maxL q1 q2) q3 T4.heap n0) e45 (by decide) (by decide) (by decide) (by decide) rfl pd__28JJJ_29Z rfl rfl (Nat.le_of_eq rfl) ?_
      rintro _ T46 L46 X46 ⟨rfl, N46q, e46⟩
      have N46 := Fr.app N45 N46q
      show GoE p e below _ (T46.setTop (mkF m 141 #[.val (.long q1), .second, .val (.long q2), .second, .val (.long q3), .second, .val (.int q4), .val (.long (minL q1 q2)), .second, .val (.long (maxL q1 q2)), .second, .val (.ref b3), .val (.int (1 : Int32)), .unset, .unset, .unset, .unset] [.int (clampL (minL q1 q2) (maxL q1 q2) q3), .int (conL (minL q1 q2) (maxL q1 q2) q3)]))
      refine g_icmp_ne X46 hx hby at_141 (by decide) (pc' := 148) (by decide) (pn := 144) rfl (fun z => absurd z (fun z => z (own_cl _ _ _ (own_le q1 q2)))) (fun hc141_47 => ?_)
      refine g_iconst X46 hx hby at_144 (pc' := 145) rfl (z := (1 : Int32)) rfl ?_
      refine g_goto X46 hx hby at_145 (by decide) (pc' := 149) (by decide) ?_
      refine g_istore X46 hx hby at_149 (pc' := 151) rfl (l' := #[.val (.long q1), .second, .val (.long q2), .second, .val (.long q3), .second, .val (.int q4), .val (.long (minL q1 q2)), .second, .val (.long (maxL q1 q2)), .second, .val (.ref b3), .val (.int (1 : Int32)), .unset, .unset, .unset, .unset]) rfl ?_
      refine g_lload X46 hx hby at_151 (pc' := 153) rfl rfl ?_
      refine g_iload X46 hx hby at_153 (pc' := 155) rfl rfl ?_
      refine g_iconst X46 hx hby at_155 (pc' := 156) rfl (z := (3 : Int32)) rfl ?_
      refine g_iand X46 hx hby at_156 (pc' := 157) rfl ?_
      refine g_iconst X46 hx hby at_157 (pc' := 158) rfl (z := (2 : Int32)) rfl ?_
      refine g_isub X46 hx hby at_158 (pc' := 159) rfl ?_
      refine g_i2l X46 hx hby at_159 (pc' := 160) rfl ?_
      refine g_ladd X46 hx hby at_160 (pc' := 161) rfl ?_
      refine g_lstore X46 hx hby at_161 (pc' := 163) rfl (l' := #[.val (.long q1), .second, .val (.long q2), .second, .val (.long q3), .second, .val (.int q4), .val (.long (minL q1 q2)), .second, .val (.long (maxL q1 q2)), .second, .val (.ref b3), .val (.int (1 : Int32)), .val (.long ((minL q1 q2) + ((q4 &&& (3 : Int32)) - (2 : Int32)).toInt64)), .second, .unset, .unset]) rfl ?_
      refine g_iload X46 hx hby at_163 (pc' := 165) rfl rfl ?_
      refine g_if_eq X46 hx hby at_165 (by decide) (pc' := 191) (by decide) (pn := 168) rfl (fun z => absurd z (by decide)) (fun _ => ?_)
      refine g_aload X46 hx hby at_168 (pc' := 170) rfl rfl rfl ?_
      refine g_lload X46 hx hby at_170 (pc' := 172) rfl rfl ?_
      refine g_callV X46 hx hZ hown (W := 0) (argsL := [.long ((minL q1 q2) + ((q4 &&& (3 : Int32)) - (2 : Int32)).toInt64)]) (b := b3) (rest := []) hby at_172 (pc' := 175) rfl (by rw [hml]; rfl) (w_25 hw) (w_26 hw) (w_28 hw) (notFace_of_selects (args := #[]) (mvT hZ (w_28 hw))) (w_27 hw) (w_9 hw) (w_29 hw) (by decide) (rm6 l Z a0 hw [] b3 ((minL q1 q2) + ((q4 &&& (3 : Int32)) - (2 : Int32)).toInt64) T4.heap n0 _ _ Ff4 Fl4) e46 E4i (by decide) (by decide) (by decide) (by decide) rfl pd__28J_29Z rfl rfl (Nat.le_of_eq rfl) ?_
      rintro _ T48 L48 X48 ⟨rfl, N48q, e48⟩
      have N48 := Fr.app N46 N48q
      show GoE p e below _ (T48.setTop (mkF m 175 #[.val (.long q1), .second, .val (.long q2), .second, .val (.long q3), .second, .val (.int q4), .val (.long (minL q1 q2)), .second, .val (.long (maxL q1 q2)), .second, .val (.ref b3), .val (.int (1 : Int32)), .val (.long ((minL q1 q2) + ((q4 &&& (3 : Int32)) - (2 : Int32)).toInt64)), .second, .unset, .unset] [.int (conL (minL q1 q2) (maxL q1 q2) ((minL q1 q2) + ((q4 &&& (3 : Int32)) - (2 : Int32)).toInt64))]))
      refine g_lload X48 hx hby at_175 (pc' := 177) rfl rfl ?_
      refine g_lload X48 hx hby at_177 (pc' := 179) rfl rfl ?_
      refine g_lload X48 hx hby at_179 (pc' := 181) rfl rfl ?_
      refine g_callS X48 hx hZ hown (W := 1) (argsL := [.long (minL q1 q2), .long (maxL q1 q2), .long ((minL q1 q2) + ((q4 &&& (3 : Int32)) - (2 : Int32)).toInt64)]) (rest := [.int (conL (minL q1 q2) (maxL q1 q2) ((minL q1 q2) + ((q4 &&& (3 : Int32)) - (2 : Int32)).toInt64))]) hby at_181 (pc' := 184) rfl (by rw [hml]; rfl) (w_32 hw) (w_33 hw) (w_34 hw) (w_35 hw) (by decide) (rm7 l Z a0 hw [] (minL q1 q2) (maxL q1 q2) ((minL q1 q2) + ((q4 &&& (3 : Int32)) - (2 : Int32)).toInt64) T4.heap n0) e48 (by decide) (by decide) (by decide) (by decide) rfl pd__28JJJ_29Z rfl rfl (Nat.le_of_eq rfl) ?_
      rintro _ T49 L49 X49 ⟨rfl, N49q, e49⟩
      have N49 := Fr.app N48 N49q
      show GoE p e below _ (T49.setTop (mkF m 184 #[.val (.long q1), .second, .val (.long q2), .second, .val (.long q3), .second, .val (.int q4), .val (.long (minL q1 q2)), .second, .val (.long (maxL q1 q2)), .second, .val (.ref b3), .val (.int (1 : Int32)), .val (.long ((minL q1 q2) + ((q4 &&& (3 : Int32)) - (2 : Int32)).toInt64)), .second, .unset, .unset] [.int (clampL (minL q1 q2) (maxL q1 q2) ((minL q1 q2) + ((q4 &&& (3 : Int32)) - (2 : Int32)).toInt64)), .int (conL (minL q1 q2) (maxL q1 q2) ((minL q1 q2) + ((q4 &&& (3 : Int32)) - (2 : Int32)).toInt64))]))
      refine g_icmp_ne X49 hx hby at_184 (by decide) (pc' := 191) (by decide) (pn := 187) rfl (fun z => absurd z (fun z => z (own_cl _ _ _ (own_le q1 q2)))) (fun hc184_50 => ?_)
      refine g_iconst X49 hx hby at_187 (pc' := 188) rfl (z := (1 : Int32)) rfl ?_
      refine g_goto X49 hx hby at_188 (by decide) (pc' := 192) (by decide) ?_
      refine g_istore X49 hx hby at_192 (pc' := 194) rfl (l' := #[.val (.long q1), .second, .val (.long q2), .second, .val (.long q3), .second, .val (.int q4), .val (.long (minL q1 q2)), .second, .val (.long (maxL q1 q2)), .second, .val (.ref b3), .val (.int (1 : Int32)), .val (.long ((minL q1 q2) + ((q4 &&& (3 : Int32)) - (2 : Int32)).toInt64)), .second, .unset, .unset]) rfl ?_
      refine g_lload X49 hx hby at_194 (pc' := 196) rfl rfl ?_
      refine g_iload X49 hx hby at_196 (pc' := 198) rfl rfl ?_
      refine g_iconst X49 hx hby at_198 (pc' := 199) rfl (z := (2 : Int32)) rfl ?_
      refine g_iushr X49 hx hby at_199 (pc' := 200) rfl ?_
      refine g_iconst X49 hx hby at_200 (pc' := 201) rfl (z := (3 : Int32)) rfl ?_
      refine g_iand X49 hx hby at_201 (pc' := 202) rfl ?_
      refine g_iconst X49 hx hby at_202 (pc' := 203) rfl (z := (1 : Int32)) rfl ?_
      refine g_isub X49 hx hby at_203 (pc' := 204) rfl ?_
      refine g_i2l X49 hx hby at_204 (pc' := 205) rfl ?_
      refine g_ladd X49 hx hby at_205 (pc' := 206) rfl ?_
      refine g_lstore X49 hx hby at_206 (pc' := 208) rfl (l' := #[.val (.long q1), .second, .val (.long q2), .second, .val (.long q3), .second, .val (.int q4), .val (.long (minL q1 q2)), .second, .val (.long (maxL q1 q2)), .second, .val (.ref b3), .val (.int (1 : Int32)), .val (.long ((minL q1 q2) + ((q4 &&& (3 : Int32)) - (2 : Int32)).toInt64)), .second, .val (.long ((maxL q1 q2) + (((ushr q4 (2 : Int32)) &&& (3 : Int32)) - (1 : Int32)).toInt64)), .second]) rfl ?_
      refine g_iload X49 hx hby at_208 (pc' := 210) rfl rfl ?_
      refine g_if_eq X49 hx hby at_210 (by decide) (pc' := 236) (by decide) (pn := 213) rfl (fun z => absurd z (by decide)) (fun _ => ?_)
      refine g_aload X49 hx hby at_213 (pc' := 215) rfl rfl rfl ?_
      refine g_lload X49 hx hby at_215 (pc' := 217) rfl rfl ?_
      refine g_callV X49 hx hZ hown (W := 0) (argsL := [.long ((maxL q1 q2) + (((ushr q4 (2 : Int32)) &&& (3 : Int32)) - (1 : Int32)).toInt64)]) (b := b3) (rest := []) hby at_217 (pc' := 220) rfl (by rw [hml]; rfl) (w_25 hw) (w_26 hw) (w_28 hw) (notFace_of_selects (args := #[]) (mvT hZ (w_28 hw))) (w_27 hw) (w_9 hw) (w_29 hw) (by decide) (rm6 l Z a0 hw [] b3 ((maxL q1 q2) + (((ushr q4 (2 : Int32)) &&& (3 : Int32)) - (1 : Int32)).toInt64) T4.heap n0 _ _ Ff4 Fl4) e49 E4i (by decide) (by decide) (by decide) (by decide) rfl pd__28J_29Z rfl rfl (Nat.le_of_eq rfl) ?_
      rintro _ T51 L51 X51 ⟨rfl, N51q, e51⟩
      have N51 := Fr.app N49 N51q
      show GoE p e below _ (T51.setTop (mkF m 220 #[.val (.long q1), .second, .val (.long q2), .second, .val (.long q3), .second, .val (.int q4), .val (.long (minL q1 q2)), .second, .val (.long (maxL q1 q2)), .second, .val (.ref b3), .val (.int (1 : Int32)), .val (.long ((minL q1 q2) + ((q4 &&& (3 : Int32)) - (2 : Int32)).toInt64)), .second, .val (.long ((maxL q1 q2) + (((ushr q4 (2 : Int32)) &&& (3 : Int32)) - (1 : Int32)).toInt64)), .second] [.int (conL (minL q1 q2) (maxL q1 q2) ((maxL q1 q2) + (((ushr q4 (2 : Int32)) &&& (3 : Int32)) - (1 : Int32)).toInt64))]))
      refine g_lload X51 hx hby at_220 (pc' := 222) rfl rfl ?_
      refine g_lload X51 hx hby at_222 (pc' := 224) rfl rfl ?_
      refine g_lload X51 hx hby at_224 (pc' := 226) rfl rfl ?_
      refine g_callS X51 hx hZ hown (W := 1) (argsL := [.long (minL q1 q2), .long (maxL q1 q2), .long ((maxL q1 q2) + (((ushr q4 (2 : Int32)) &&& (3 : Int32)) - (1 : Int32)).toInt64)]) (rest := [.int (conL (minL q1 q2) (maxL q1 q2) ((maxL q1 q2) + (((ushr q4 (2 : Int32)) &&& (3 : Int32)) - (1 : Int32)).toInt64))]) hby at_226 (pc' := 229) rfl (by rw [hml]; rfl) (w_32 hw) (w_33 hw) (w_34 hw) (w_35 hw) (by decide) (rm7 l Z a0 hw [] (minL q1 q2) (maxL q1 q2) ((maxL q1 q2) + (((ushr q4 (2 : Int32)) &&& (3 : Int32)) - (1 : Int32)).toInt64) T4.heap n0) e51 (by decide) (by decide) (by decide) (by decide) rfl pd__28JJJ_29Z rfl rfl (Nat.le_of_eq rfl) ?_
      rintro _ T52 L52 X52 ⟨rfl, N52q, e52⟩
      have N52 := Fr.app N51 N52q
      show GoE p e below _ (T52.setTop (mkF m 229 #[.val (.long q1), .second, .val (.long q2), .second, .val (.long q3), .second, .val (.int q4), .val (.long (minL q1 q2)), .second, .val (.long (maxL q1 q2)), .second, .val (.ref b3), .val (.int (1 : Int32)), .val (.long ((minL q1 q2) + ((q4 &&& (3 : Int32)) - (2 : Int32)).toInt64)), .second, .val (.long ((maxL q1 q2) + (((ushr q4 (2 : Int32)) &&& (3 : Int32)) - (1 : Int32)).toInt64)), .second] [.int (clampL (minL q1 q2) (maxL q1 q2) ((maxL q1 q2) + (((ushr q4 (2 : Int32)) &&& (3 : Int32)) - (1 : Int32)).toInt64)), .int (conL (minL q1 q2) (maxL q1 q2) ((maxL q1 q2) + (((ushr q4 (2 : Int32)) &&& (3 : Int32)) - (1 : Int32)).toInt64))]))
      refine g_icmp_ne X52 hx hby at_229 (by decide) (pc' := 236) (by decide) (pn := 232) rfl (fun z => absurd z (fun z => z (own_cl _ _ _ (own_le q1 q2)))) (fun hc229_53 => ?_)
      refine g_iconst X52 hx hby at_232 (pc' := 233) rfl (z := (1 : Int32)) rfl ?_
      refine g_goto X52 hx hby at_233 (by decide) (pc' := 237) (by decide) ?_
      refine g_istore X52 hx hby at_237 (pc' := 239) rfl (l' := #[.val (.long q1), .second, .val (.long q2), .second, .val (.long q3), .second, .val (.int q4), .val (.long (minL q1 q2)), .second, .val (.long (maxL q1 q2)), .second, .val (.ref b3), .val (.int (1 : Int32)), .val (.long ((minL q1 q2) + ((q4 &&& (3 : Int32)) - (2 : Int32)).toInt64)), .second, .val (.long ((maxL q1 q2) + (((ushr q4 (2 : Int32)) &&& (3 : Int32)) - (1 : Int32)).toInt64)), .second]) rfl ?_
      refine g_iload X52 hx hby at_239 (pc' := 241) rfl rfl ?_
      exact g_retN (Q := (fun v h L => v = some (.int 1) ∧ Fr n0 L)) (w := (1 : Int32)) X52 hx hby at_241 hret (by simp) (by first | decide | rfl) hlk (by decide) (by decide) ⟨rfl, N52⟩
set_option maxRecDepth 65536 in
set_option maxHeartbeats 40000000 in
theorem comes_1 {Post : Tables → Env → Array Value → State → Outcome → State → Prop} (hpost : ∀ tb e args s v u, (limb_1_1.after args s (.returned v) u = true ∧ limb_1_2.after args s (.returned v) u = true ∧ True) → FrameEnd s (.returned v) u (Jvm.fieldLocs frame_1_writes args s ++ Jvm.arrayLocs frame_1_arrays args s ++ Jvm.staticLocs frame_1_statics s) 16 128 → Post tb e args s (.returned v) u) :
    ArmFor flags0 classFile x code maxLocals ret World_1 tables_1 room_1 Calls_1 rest_1 Pre_1 Post := by
  intro l hfl _ _ p e ha hc hk s m args below hf hA hF happ hP
  obtain ⟨hcalls, hrest, hpre⟩ := hP
  obtain ⟨-, -, -, hnamed, -, -, -, hat⟩ := (Spec.applies_iff hf).mp happ
  obtain ⟨hg, hn⟩ := and_e (Cond.before_iff.mp (show (Jvm.Cond.and given_1 narrow_1).before args s = true from hpre))
  obtain ⟨h1, g0⟩ := and_e hg
  obtain ⟨a0, g1⟩ := and_e g0
  obtain ⟨a1, g2⟩ := and_e g1
  obtain ⟨a2, g3⟩ := and_e g2
  have a3 := g3
  obtain ⟨u0, u1, u2, u3, rfl⟩ : ∃ u0 u1 u2 u3 : Value, args = #[u0, u1, u2, u3] := by
    have hs : args.size = 4 := by simpa [Cond.value, given_1] using h1
    obtain ⟨L⟩ := args
    match L, hs with
    | [u0, u1, u2, u3], _ => exact ⟨u0, u1, u2, u3, rfl⟩
  have hw := fun d (hd : d ∈ tables_1) => atoms_spec (ws := Jvm.Cond.code x code maxLocals ret :: tables_1) hat d (List.mem_cons_of_mem _ hd)
  have hfit : Fit s := fun {y c} hc i hi => by
    obtain ⟨ha, rfl⟩ := Array.getElem?_eq_some_iff.mp hc
    have q := List.all_eq_true.mp ((Array.all_eq_true_iff_forall_mem.mp hF) _ (Array.getElem_mem ha)) i (List.mem_range.mpr hi)
    simpa [Array.getElem?_eq_getElem hi] using q
  obtain ⟨i0, e0⟩ := isL_v a0
  obtain rfl : u0 = (.long i0) := Option.some.inj e0
  obtain ⟨i1, e1⟩ := isL_v a1
  obtain rfl : u1 = (.long i1) := Option.some.inj e1
  obtain ⟨i2, e2⟩ := isL_v a2
  obtain rfl : u2 = (.long i2) := Option.some.inj e2
  obtain ⟨i3, e3⟩ := is_v a3
  obtain rfl : u3 = (.int i3) := Option.some.inj e3
  obtain ⟨n, o, h1, h2, h3, _, L, rfl, ⟨rfl, N⟩, hq⟩ := rm0 l s _ hw tables_1 i0 i1 i2 i3  s.heap s.heap.size (Nat.le_refl _) p e ha hc hk s m _ below hf ((Spec.applies_iff_loose hf).mp happ).1 ⟨rfl, State.Warmed39.refl s, rfl⟩ trivial
  refine ⟨n, _, h1, h2, h3, hpost _ _ _ _ _ _ ⟨Cond.after_iff.mpr rfl, Cond.after_iff.mpr (eq_i res_at (Term.int_eval (1)) rfl), trivial⟩ ⟨hq.1, hq.2.1, (hq.2.2.sift fun y hy => Or.inr (N y hy)).mono (by decide) (by decide)⟩⟩
theorem main_1_1 : Claimed_1_1 := comes_1 fun _ _ _ _ _ _ h hF => ⟨h.1, hF⟩
theorem main_1_2 : Claimed_1_2 := comes_1 fun _ _ _ _ _ _ h hF => ⟨h.2.1, hF⟩
end Jvm.Pilot.@@N@@
namespace Jvm.Pilot.@@N@@
open Jvm Jvm.ClassFile Sem Op Lib Jvm.Free Jvm.Stand Jvm.Pilot.@@N@@.Jvm.D
/-! MADE BY PROGRAM (witnessworld.py) out of the Statement's table words and the real class files: 11 classes; the members and pool entries that the words name. The judged class is class 1, her method 2. -/
namespace start1
open Jvm.ClassFile
def u (s : String) : CpInfo := .utf8 (stringToUtf16 s)
/-- a pool by its gaps: so many unusable entries, then the entry; so many at the end -/
def gap : Nat → List CpInfo → List CpInfo
  | 0, r => r
  | n + 1, r => .unusable :: gap n r
def poolList (es : List (Nat × CpInfo)) (last : Nat) : List CpInfo := es.foldr (fun e r => gap e.1 (e.2 :: r)) (gap last [])
def pool (es : List (Nat × CpInfo)) (last : Nat) : Array CpInfo := ⟨poolList es last⟩
def fileOf (pool : Array CpInfo) (this : Nat) (attrs : Array Attribute := #[]) (ms : Array MethodInfo := #[]) (fl : Nat := 33) (sup : Nat := 0) (ifs : Array Nat := #[]) (fds : Array FieldInfo := #[]) : ClassFile where
  minorVersion := 0
  majorVersion := 65
  constantPool := pool
  accessFlags := fl
  thisClass := this
  superClass := sup
  interfaces := ifs
  fields := fds
  methods := ms
  attributes := attrs
def plain (name : String) (sup : Option ClassId) : Class where
  name := name
  kind := .ordinary
  loader := none
  accessFlags := 33
  super := sup
  interfaces := #[]
  cf := none
  fields := #[]
  methods := #[]
  instanceTypes := #[]
  staticTypes := #[]
  resolved := #[]
  callSites := []
  init := .initialized
  statics := none
  mirror := none

def pool0 : Array CpInfo := pool [(5, u "<init>"), (0, u "()V"), (1, .class_ 10), (1, u "java/lang/Object")] 113

def k0c0 : Code := { maxStack := 0, maxLocals := 1, code := object_method_1_code, exceptionTable := #[], attributes := #[] }
def k0m0 : Method := { name := "<init>", desc := "()V", sig := { parameters := [], returnType := none }, accessFlags := 1, code := some k0c0 }
/-- java/lang/Object -/
def k0 : Class := { plain "java/lang/Object" none with
  accessFlags := 33
  interfaces := #[]
  cf := some (fileOf pool0 8 #[] #[{ accessFlags := 1, nameIndex := 5, descriptorIndex := 6, attributes := #[] }] 33 0 #[] #[])
  fields := #[]
  methods := #[k0m0]
  instanceTypes := #[]
  staticTypes := #[]
  resolved := Array.replicate 124 none
  statics := none }

def pool1 : Array CpInfo := pool [(2, .class_ 4), (1, u "java/lang/Object"), (0, u "<init>"), (0, u "()V"), (0, .methodref 8 9), (0, .class_ 10), (0, .nameAndType 11 12), (0, u "java/lang/Math"), (0, u "min"), (0, u "(JJ)J"), (0, .methodref 8 14), (0, .nameAndType 15 12), (0, u "max"), (0, .class_ 17), (0, u "com/example/novatio/novatio/conditions/FloatingIndex$Window"), (0, .methodref 16 19), (0, .nameAndType 5 20), (0, u "(JJ)V"), (0, .methodref 16 22), (0, .nameAndType 23 24), (0, u "contains"), (0, u "(J)Z"), (2, .long 9223372036854775808), (1, .long 9223372036854775807), (1, .methodref 32 33), (0, .class_ 34), (0, .nameAndType 35 36), (0, u "com/example/novatio/novatio/conditions/WindowContainsPinLaw"), (0, u "clampRef"), (0, u "(JJJ)Z"), (3, u "law"), (0, u "(JJJI)Z")] 6

def k1m0 : Method := { name := "<init>", desc := "()V", sig := { parameters := [], returnType := none }, accessFlags := 2, code := none }
def k1c1 : Code := { maxStack := 6, maxLocals := 8, code := method_2_code, exceptionTable := #[], attributes := #[] }
def k1m1 : Method := { name := "clampRef", desc := "(JJJ)Z", sig := { parameters := [.long, .long, .long], returnType := some .boolean }, accessFlags := 10, code := some k1c1 }
def k1c2 : Code := { maxStack := 7, maxLocals := 17, code := code, exceptionTable := #[], attributes := #[] }
def k1m2 : Method := { name := "law", desc := "(JJJI)Z", sig := { parameters := [.long, .long, .long, .int], returnType := some .boolean }, accessFlags := 9, code := some k1c2 }
/-- com/example/novatio/novatio/conditions/WindowContainsPinLaw -/
def k1 : Class := { plain "com/example/novatio/novatio/conditions/WindowContainsPinLaw" (some 0) with
  accessFlags := 49
  interfaces := #[]
  cf := some (fileOf pool1 32 #[] #[{ accessFlags := 2, nameIndex := 5, descriptorIndex := 6, attributes := #[] }, { accessFlags := 10, nameIndex := 35, descriptorIndex := 36, attributes := #[] }, { accessFlags := 9, nameIndex := 40, descriptorIndex := 41, attributes := #[] }] 49 2 #[] #[])
  fields := #[]
  methods := #[k1m0, k1m1, k1m2]
  instanceTypes := #[]
  staticTypes := #[]
  resolved := Array.replicate 48 none
  statics := none }

def pool2 : Array CpInfo := pool [(1, .class_ 2), (0, u "java/lang/Math"), (1, .class_ 6), (1, u "java/lang/Object"), (0, u "<init>"), (0, u "()V"), (89, .class_ 100), (1, u "java/lang/Math$RandomNumberGeneratorHolder"), (20, u "(JJ)J"), (50, u "negativeZeroFloatBits"), (0, u "J"), (2, u "negativeZeroDoubleBits"), (21, u "max"), (2, u "min"), (43, u "$assertionsDisabled"), (0, u "Z"), (91, u "twoToTheDoubleScaleDown"), (0, u "D"), (4, u "twoToTheDoubleScaleUp"), (9, u "E"), (3, u "PI"), (2, u "TAU"), (2, u "DEGREES_TO_RADIANS"), (0, u "RADIANS_TO_DEGREES")] 94

def k2m0 : Method := { name := "<init>", desc := "()V", sig := { parameters := [], returnType := none }, accessFlags := 2, code := none }
def k2c1 : Code := { maxStack := 4, maxLocals := 4, code := jdk_29_method_66_code, exceptionTable := #[], attributes := #[] }
def k2m1 : Method := { name := "max", desc := "(JJ)J", sig := { parameters := [.long, .long], returnType := some .long }, accessFlags := 9, code := some k2c1 }
def k2c2 : Code := { maxStack := 4, maxLocals := 4, code := jdk_29_method_70_code, exceptionTable := #[], attributes := #[] }
def k2m2 : Method := { name := "min", desc := "(JJ)J", sig := { parameters := [.long, .long], returnType := some .long }, accessFlags := 9, code := some k2c2 }
/-- java/lang/Math -/
def k2 : Class := { plain "java/lang/Math" (some 0) with
  accessFlags := 49
  interfaces := #[]
  cf := some (fileOf pool2 1 #[.nestMembers #[98]] #[{ accessFlags := 2, nameIndex := 7, descriptorIndex := 8, attributes := #[] }, { accessFlags := 9, nameIndex := 198, descriptorIndex := 121, attributes := #[] }, { accessFlags := 9, nameIndex := 201, descriptorIndex := 121, attributes := #[] }] 49 4 #[] #[{ accessFlags := 25, nameIndex := 354, descriptorIndex := 339, attributes := #[] }, { accessFlags := 25, nameIndex := 358, descriptorIndex := 339, attributes := #[] }, { accessFlags := 25, nameIndex := 361, descriptorIndex := 339, attributes := #[] }, { accessFlags := 26, nameIndex := 364, descriptorIndex := 339, attributes := #[] }, { accessFlags := 26, nameIndex := 365, descriptorIndex := 339, attributes := #[] }, { accessFlags := 26, nameIndex := 172, descriptorIndex := 173, attributes := #[] }, { accessFlags := 26, nameIndex := 176, descriptorIndex := 173, attributes := #[] }, { accessFlags := 8, nameIndex := 344, descriptorIndex := 339, attributes := #[] }, { accessFlags := 8, nameIndex := 338, descriptorIndex := 339, attributes := #[] }, { accessFlags := 4120, nameIndex := 245, descriptorIndex := 246, attributes := #[] }])
  fields := #[{ name := "E", type := .double, accessFlags := 25, slot := 0, constantValue := 0 }, { name := "PI", type := .double, accessFlags := 25, slot := 1, constantValue := 0 }, { name := "TAU", type := .double, accessFlags := 25, slot := 2, constantValue := 0 }, { name := "DEGREES_TO_RADIANS", type := .double, accessFlags := 26, slot := 3, constantValue := 0 }, { name := "RADIANS_TO_DEGREES", type := .double, accessFlags := 26, slot := 4, constantValue := 0 }, { name := "negativeZeroFloatBits", type := .long, accessFlags := 26, slot := 5, constantValue := 0 }, { name := "negativeZeroDoubleBits", type := .long, accessFlags := 26, slot := 6, constantValue := 0 }, { name := "twoToTheDoubleScaleUp", type := .double, accessFlags := 8, slot := 7, constantValue := 0 }, { name := "twoToTheDoubleScaleDown", type := .double, accessFlags := 8, slot := 8, constantValue := 0 }, { name := "$assertionsDisabled", type := .boolean, accessFlags := 4120, slot := 9, constantValue := 0 }]
  methods := #[k2m0, k2m1, k2m2]
  instanceTypes := #[]
  staticTypes := #[.double, .double, .double, .double, .double, .long, .long, .double, .double, .boolean]
  resolved := Array.replicate 460 none
  statics := none }

def pool3 : Array CpInfo := pool [(1, .methodref 2 3), (0, .class_ 4), (0, .nameAndType 5 6), (0, u "java/lang/Object"), (0, u "<init>"), (0, u "()V"), (0, .class_ 8), (0, u "java/lang/Record")] 13

def k3c0 : Code := { maxStack := 1, maxLocals := 1, code := jdk_30_method_1_code, exceptionTable := #[], attributes := #[] }
def k3m0 : Method := { name := "<init>", desc := "()V", sig := { parameters := [], returnType := none }, accessFlags := 4, code := some k3c0 }
/-- java/lang/Record -/
def k3 : Class := { plain "java/lang/Record" (some 0) with
  accessFlags := 1057
  interfaces := #[]
  cf := some (fileOf pool3 7 #[] #[{ accessFlags := 4, nameIndex := 5, descriptorIndex := 6, attributes := #[] }] 1057 2 #[] #[])
  fields := #[]
  methods := #[k3m0]
  instanceTypes := #[]
  staticTypes := #[]
  resolved := Array.replicate 22 none
  statics := none }

def pool4 : Array CpInfo := pool [(1, .methodref 2 3), (0, .class_ 4), (0, .nameAndType 5 6), (0, u "java/lang/Record"), (0, u "<init>"), (0, u "()V"), (0, .fieldref 8 9), (0, .class_ 10), (0, .nameAndType 11 12), (0, u "com/example/novatio/novatio/conditions/FloatingIndex$Window"), (0, u "first"), (0, u "J"), (0, .fieldref 8 14), (0, .nameAndType 15 12), (0, u "last"), (12, u "(JJ)V"), (3, u "contains"), (0, u "(J)Z"), (8, .class_ 43), (0, u "com/example/novatio/novatio/conditions/FloatingIndex")] 20

def k4c0 : Code := { maxStack := 3, maxLocals := 5, code := prog_59_method_1_code, exceptionTable := #[], attributes := #[] }
def k4m0 : Method := { name := "<init>", desc := "(JJ)V", sig := { parameters := [.long, .long], returnType := none }, accessFlags := 1, code := some k4c0 }
def k4c1 : Code := { maxStack := 4, maxLocals := 3, code := prog_59_method_2_code, exceptionTable := #[], attributes := #[] }
def k4m1 : Method := { name := "contains", desc := "(J)Z", sig := { parameters := [.long], returnType := some .boolean }, accessFlags := 1, code := some k4c1 }
/-- com/example/novatio/novatio/conditions/FloatingIndex$Window -/
def k4 : Class := { plain "com/example/novatio/novatio/conditions/FloatingIndex$Window" (some 3) with
  accessFlags := 49
  interfaces := #[]
  cf := some (fileOf pool4 8 #[.nestHost 42] #[{ accessFlags := 1, nameIndex := 5, descriptorIndex := 28, attributes := #[] }, { accessFlags := 1, nameIndex := 32, descriptorIndex := 33, attributes := #[] }] 49 2 #[] #[{ accessFlags := 18, nameIndex := 11, descriptorIndex := 12, attributes := #[] }, { accessFlags := 18, nameIndex := 15, descriptorIndex := 12, attributes := #[] }])
  fields := #[{ name := "first", type := .long, accessFlags := 18, slot := 0, constantValue := 0 }, { name := "last", type := .long, accessFlags := 18, slot := 1, constantValue := 0 }]
  methods := #[k4m0, k4m1]
  instanceTypes := #[.long, .long]
  staticTypes := #[]
  resolved := Array.replicate 64 none
  statics := none }

def pool5 : Array CpInfo := pool [(1, u "java/lang/Cloneable"), (0, .class_ 1), (0, u "java/lang/Object"), (0, .class_ 3)] 3

/-- java/lang/Cloneable -/
def k5 : Class := { plain "java/lang/Cloneable" (some 0) with
  accessFlags := 1537
  interfaces := #[]
  cf := some (fileOf pool5 2 #[] #[] 1537 4 #[] #[])
  fields := #[]
  methods := #[]
  instanceTypes := #[]
  staticTypes := #[]
  resolved := Array.replicate 8 none
  statics := none }

def pool6 : Array CpInfo := pool [(1, u "java/io/Serializable"), (0, .class_ 1), (0, u "java/lang/Object"), (0, .class_ 3)] 3

/-- java/io/Serializable -/
def k6 : Class := { plain "java/io/Serializable" (some 0) with
  accessFlags := 1537
  interfaces := #[]
  cf := some (fileOf pool6 2 #[] #[] 1537 4 #[] #[])
  fields := #[]
  methods := #[]
  instanceTypes := #[]
  staticTypes := #[]
  resolved := Array.replicate 8 none
  statics := none }

/-- the primitive byte -/
def k7 : Class := { plain "byte" none with kind := .primitive 'B', accessFlags := 0x411 }
/-- [B -/
def k8 : Class := { plain "[B" (some 0) with kind := .array 7 .byte, interfaces := #[5, 6], accessFlags := 1041 }

/-- the primitive int -/
def k9 : Class := { plain "int" none with kind := .primitive 'I', accessFlags := 0x411 }
/-- [I -/
def k10 : Class := { plain "[I" (some 0) with kind := .array 9 .int, interfaces := #[5, 6], accessFlags := 1041 }

def heap : Heap := #[]
def classes : Array Class := #[k0, k1, k2, k3, k4, k5, k6, k7, k8, k9, k10]
def interned : List (Array UInt16 × Addr) := []
def slotsUsed : Nat := 0
def theMethod : MethodId := ⟨1, 2⟩
def args0 : Array Value := #[.long 5, .long 7, .long 6, .int 3]
def aboutOver (below : List Frame) : State where
  vm := { classes := classes, interned := interned.toArray }
  heap := heap
  slotsUsed := slotsUsed
  threads := #[{ frames := .invoking theMethod args0 :: below }]
def below0 : List Frame := [.native { method := ⟨0, 0⟩, args := #[] }]
def about1 : State := aboutOver below0
def p0 : Program := .bare "" "" ""
def e0 : Env := launch0.env 0 0 0
theorem w_frames : about1.frames = Frame.invoking theMethod args0 :: below0 := rfl
set_option maxRecDepth 65536 in
theorem w_args : argsFit about1.vm theMethod args0 = true := by decide +kernel
set_option maxRecDepth 65536 in
theorem w_heap : heapFits about1 = true := by decide +kernel
set_option maxRecDepth 65536 in
theorem w_runnable : about1.curStatus? = some .runnable := by decide +kernel
set_option maxRecDepth 65536 in
theorem w_alone : about1.alone = true := by decide +kernel
set_option maxRecDepth 65536 in
theorem w_named : about1.methodNamed? x = some theMethod := by decide +kernel
set_option maxRecDepth 65536 in
theorem w_hears : about1.hears theMethod below0 = true := by decide +kernel
set_option maxRecDepth 65536 in
theorem w_ripe : about1.ripe theMethod args0 below0 = true := by decide +kernel
theorem w_running : about1.status = .running := rfl
set_option maxRecDepth 65536 in
theorem w_room : about1.hasRoom e0.platform room_1 = true :=
  launch0.hasRoom_least _ room_1 (by decide +kernel) (by decide +kernel) (by decide +kernel) (by decide +kernel) (by decide +kernel) (by decide +kernel)
theorem allAtoms_all (ts : List Jvm.Cond) (a : Array Jvm.Value) (st : Jvm.State) : (allAtoms ts).before a st = ts.all (fun c => c.before a st) := by
  induction ts with
  | nil => rfl
  | cons c t ih =>
    show (Jvm.Cond.and c (allAtoms t)).before a st = _
    rw [Jvm.Cond.before_and, ih, List.all_cons]
def words1 : List Jvm.Cond := Jvm.Cond.code x code maxLocals ret :: tables_1
/-- a 'code' word, met by the world's own term for the bytes: nothing is compared byte by byte -/
theorem code_word {y : MethodName} {bytes : ByteArray} {mx : Nat} {rt : Option FieldType} {a : Array Value} {s : State} {m : MethodId} {meth : Method} {c : Code} (h1 : s.methodNamed? y = some m) (h2 : s.vm.method? m = some meth) (h3 : meth.code = some c) (h4 : c.code = bytes)
    (h5 : (c.maxLocals == mx && c.exceptionTable.isEmpty && decide (c.maxStack ≤ mostOperands) && decide (meth.sig.returnType = rt) && !meth.locks && decide (parseMethodDescriptor y.desc = some meth.sig)) = true) : (Jvm.Cond.code y bytes mx rt).before a s = true := by
  simp only [Bool.and_eq_true, beq_iff_eq, Bool.not_eq_true', decide_eq_true_eq] at h5
  obtain ⟨⟨⟨⟨⟨g1, g2⟩, g3⟩, g4⟩, g5⟩, g6⟩ := h5
  simp [Cond.before, Cond.holds, Cond.value, h1, h2, h3, h4, g1, g2, g3, g4, g5, g6]
def isCode : Jvm.Cond → Bool
  | .code _ _ _ _ => true
  | _ => false
theorem all_split {L : List Jvm.Cond} {P : Jvm.Cond → Bool} (h1 : L.all (fun c => isCode c || P c) = true) (h2 : ∀ c ∈ L.filter isCode, P c = true) : L.all P = true := by
  refine List.all_eq_true.mpr fun c hc => ?_
  have h := List.all_eq_true.mp h1 c hc
  rcases Bool.eq_false_or_eq_true (isCode c) with hi | hi
  · exact h2 c (List.mem_filter.mpr ⟨hc, hi⟩)
  · simpa [hi] using h
set_option maxRecDepth 65536 in
theorem w_c0 : (Jvm.Cond.code x code maxLocals ret).before args0 about1 = true := code_word (m := ⟨1, 2⟩) (meth := k1m2) (c := k1c2) (by decide +kernel) rfl rfl rfl (by decide +kernel)
set_option maxRecDepth 65536 in
theorem w_c1 : (Jvm.Cond.code ({ cls := "java/lang/Math", name := "min", desc := "(JJ)J" } : Jvm.MethodName) jdk_29_method_70_code (4 : Nat) (Option.some Jvm.ClassFile.FieldType.long)).before args0 about1 = true := code_word (m := ⟨2, 2⟩) (meth := k2m2) (c := k2c2) (by decide +kernel) rfl rfl rfl (by decide +kernel)
set_option maxRecDepth 65536 in
theorem w_c2 : (Jvm.Cond.code ({ cls := "java/lang/Math", name := "max", desc := "(JJ)J" } : Jvm.MethodName) jdk_29_method_66_code (4 : Nat) (Option.some Jvm.ClassFile.FieldType.long)).before args0 about1 = true := code_word (m := ⟨2, 1⟩) (meth := k2m1) (c := k2c1) (by decide +kernel) rfl rfl rfl (by decide +kernel)
set_option maxRecDepth 65536 in
theorem w_c3 : (Jvm.Cond.code ({ cls := "com/example/novatio/novatio/conditions/FloatingIndex$Window", name := "<init>", desc := "(JJ)V" } : Jvm.MethodName) prog_59_method_1_code (5 : Nat) (Option.none : Option Jvm.ClassFile.FieldType)).before args0 about1 = true := code_word (m := ⟨4, 0⟩) (meth := k4m0) (c := k4c0) (by decide +kernel) rfl rfl rfl (by decide +kernel)
set_option maxRecDepth 65536 in
theorem w_c4 : (Jvm.Cond.code ({ cls := "java/lang/Record", name := "<init>", desc := "()V" } : Jvm.MethodName) jdk_30_method_1_code (1 : Nat) (Option.none : Option Jvm.ClassFile.FieldType)).before args0 about1 = true := code_word (m := ⟨3, 0⟩) (meth := k3m0) (c := k3c0) (by decide +kernel) rfl rfl rfl (by decide +kernel)
set_option maxRecDepth 65536 in
theorem w_c5 : (Jvm.Cond.code ({ cls := "java/lang/Object", name := "<init>", desc := "()V" } : Jvm.MethodName) object_method_1_code (1 : Nat) (Option.none : Option Jvm.ClassFile.FieldType)).before args0 about1 = true := code_word (m := ⟨0, 0⟩) (meth := k0m0) (c := k0c0) (by decide +kernel) rfl rfl rfl (by decide +kernel)
set_option maxRecDepth 65536 in
theorem w_c6 : (Jvm.Cond.code ({ cls := "com/example/novatio/novatio/conditions/FloatingIndex$Window", name := "contains", desc := "(J)Z" } : Jvm.MethodName) prog_59_method_2_code (3 : Nat) (Option.some Jvm.ClassFile.FieldType.boolean)).before args0 about1 = true := code_word (m := ⟨4, 1⟩) (meth := k4m1) (c := k4c1) (by decide +kernel) rfl rfl rfl (by decide +kernel)
set_option maxRecDepth 65536 in
theorem w_c7 : (Jvm.Cond.code ({ cls := "com/example/novatio/novatio/conditions/WindowContainsPinLaw", name := "clampRef", desc := "(JJJ)Z" } : Jvm.MethodName) method_2_code (8 : Nat) (Option.some Jvm.ClassFile.FieldType.boolean)).before args0 about1 = true := code_word (m := ⟨1, 1⟩) (meth := k1m1) (c := k1c1) (by decide +kernel) rfl rfl rfl (by decide +kernel)
def codes1 : List Jvm.Cond := [Jvm.Cond.code x code maxLocals ret, Jvm.Cond.code ({ cls := "java/lang/Math", name := "min", desc := "(JJ)J" } : Jvm.MethodName) jdk_29_method_70_code (4 : Nat) (Option.some Jvm.ClassFile.FieldType.long), Jvm.Cond.code ({ cls := "java/lang/Math", name := "max", desc := "(JJ)J" } : Jvm.MethodName) jdk_29_method_66_code (4 : Nat) (Option.some Jvm.ClassFile.FieldType.long), Jvm.Cond.code ({ cls := "com/example/novatio/novatio/conditions/FloatingIndex$Window", name := "<init>", desc := "(JJ)V" } : Jvm.MethodName) prog_59_method_1_code (5 : Nat) (Option.none : Option Jvm.ClassFile.FieldType), Jvm.Cond.code ({ cls := "java/lang/Record", name := "<init>", desc := "()V" } : Jvm.MethodName) jdk_30_method_1_code (1 : Nat) (Option.none : Option Jvm.ClassFile.FieldType), Jvm.Cond.code ({ cls := "java/lang/Object", name := "<init>", desc := "()V" } : Jvm.MethodName) object_method_1_code (1 : Nat) (Option.none : Option Jvm.ClassFile.FieldType), Jvm.Cond.code ({ cls := "com/example/novatio/novatio/conditions/FloatingIndex$Window", name := "contains", desc := "(J)Z" } : Jvm.MethodName) prog_59_method_2_code (3 : Nat) (Option.some Jvm.ClassFile.FieldType.boolean), Jvm.Cond.code ({ cls := "com/example/novatio/novatio/conditions/WindowContainsPinLaw", name := "clampRef", desc := "(JJJ)Z" } : Jvm.MethodName) method_2_code (8 : Nat) (Option.some Jvm.ClassFile.FieldType.boolean)]
set_option maxRecDepth 65536 in
theorem codes_eq : words1.filter isCode = codes1 := rfl
theorem w_codes : ∀ c ∈ words1.filter isCode, c.before args0 about1 = true := by
  rw [codes_eq]
  intro c hc
  simp only [codes1, List.mem_cons, List.not_mem_nil, or_false] at hc
  rcases hc with rfl | rfl | rfl | rfl | rfl | rfl | rfl | rfl
  · exact w_c0
  · exact w_c1
  · exact w_c2
  · exact w_c3
  · exact w_c4
  · exact w_c5
  · exact w_c6
  · exact w_c7
set_option maxRecDepth 65536 in
theorem w_t1 : (words1.take 24).all (fun c => isCode c || c.before args0 about1) = true := by decide +kernel
set_option maxRecDepth 65536 in
theorem w_t2 : (words1.drop 24).all (fun c => isCode c || c.before args0 about1) = true := by decide +kernel
theorem w_tables : (allAtoms (Jvm.Cond.code x code maxLocals ret :: tables_1)).before args0 about1 = true := by
  rw [allAtoms_all]
  show words1.all (fun c => c.before args0 about1) = true
  refine all_split ?_ w_codes
  rw [← List.take_append_drop 24 words1, List.all_append, w_t1, w_t2]
  rfl
set_option maxRecDepth 65536 in
theorem w_case : (Jvm.Cond.and given_1 narrow_1).before args0 about1 = true := by decide +kernel
theorem w_applies : (headSpec (Jvm.Cond.code x code maxLocals ret :: tables_1) room_1).applies x e0.platform about1 = true :=
  (Spec.applies_iff w_frames).mpr ⟨w_running, w_runnable, w_alone, w_named, w_hears, w_ripe, w_room, w_tables⟩
theorem atStart : AtStart classFile x code maxLocals ret World_1 tables_1 room_1 Calls_1 rest_1 Pre_1 launch0 p0 e0 about1 theMethod args0 below0 :=
  ⟨lists_1, trivial, launch0.admits_env _ _ _, launch0.least_env, fairChoices_fair.cas, fairChoices_fair.clock, w_frames, w_args, w_heap, w_applies, trivial, trivial, w_case⟩
end start1
theorem witness_1 : WitnessClaimed_1 := ⟨start1.p0, start1.e0, start1.about1, start1.theMethod, start1.args0, start1.below0, start1.atStart⟩
end Jvm.Pilot.@@N@@
