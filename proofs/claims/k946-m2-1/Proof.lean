import JvmDerived
import JvmDerived.Pilot.@@N@@Statement
import JvmDerived.Pilot.@@N@@Code
set_option linter.unusedVariables false
set_option linter.unusedSimpArgs false
namespace Jvm.RoadKit
open Sem ClassFile Op Lib Jvm.Stand Jvm.Free Jvm.LawKit
section New
variable {p : Program} {l : Launch} {e : Env} {R : Room} {s : State} {m : MethodId} {args : Array Value} {below : List Frame} {meth : Method} {c : Code} {T : State} {locs : List Loc} {cells slots : Nat}
theorem retI (X : Stand p l e R s m args below meth c T locs cells slots) (hx : p.tables.exec = Jvm.exec) {pc : Nat} {Ls : Array Slot} {z : Int32} {rest : List Value} (hret : meth.sig.returnType = some .int) (hd : decode c.code pc = .ok (.ireturn, 1)) {fs : List Frame}
    (hl : ∀ (f : JFrame) (acts : List Action), f.method = m → f.locked = none → f.entered = [] → (doReturn e (T.setTop f) acts (some (.int z))).1 = T.setFrames fs) : Steps p.tables e below (T.setTop (mkF m pc Ls (.int z :: rest))) (T.setFrames fs) := by
  have hm' : T.vm.method? m = some meth := X.method'
  have hn : narrow .int (.int z) = .int z := rfl
  show Steps p.tables e below (T.setTop { method := m, pc := pc, locals := Ls, stack := _ :: rest, locked := none }) _
  jvm_step X.here [X.here.top, hx, hd, hm', hret, hn]
  first | (intro acts; rw [hl _ acts rfl rfl rfl]) | rw [hl _ _ rfl rfl rfl]
  exact Steps.refl _
end New
end Jvm.RoadKit
namespace Jvm.Pilot.@@N@@
open Jvm Jvm.ClassFile Sem Op Lib Jvm.Free Jvm.Stand Jvm.LawKit Jvm.RoadKit Bundle Jvm.Pilot.@@N@@.Jvm.D
open Jvm.Free.XT (ushr ushrL cmpL)
section GoKit
open Jvm.Free.XT (ushr ushrL cmpL)
variable {p : Program} {l : Launch} {e : Env} {R : Room} {s : State} {m : MethodId} {args : Array Value} {below : List Frame} {meth : Method} {c : Code} {T : State} {locs : List Loc} {cells slots : Nat} {Q : Option Value → Heap → List Loc → Prop} {rc rs : Nat} {Fi : Outcome → State → Prop} {bytes : ByteArray} {pc pc' : Nat} {Ls : Array Slot} {rest : List Value}
def GoE (p : Program) (e : Env) (below : List Frame) (Fi : Outcome → State → Prop) (S : State) : Prop :=
  ∃ t o, Steps p.tables e below S t ∧ t.status = .running ∧ Ended t below o ∧ Fi o t
abbrev Go (p : Program) (e : Env) (below : List Frame) (s : State) (rc rs : Nat) (Q : Option Value → Heap → List Loc → Prop) (S : State) : Prop :=
  GoE p e below (fun o t => ∃ v L, o = .returned v ∧ Q v t.heap L ∧ FrameEnd s o t L rc rs) S
theorem GoE.pull {a b : State} (h : GoE p e below Fi b) (f : ∀ t, Steps p.tables e below b t → Steps p.tables e below a t) : GoE p e below Fi a := by
  obtain ⟨t, o, h1, h2⟩ := h
  exact ⟨t, o, f t h1, h2⟩
theorem GoE.imp {Fi' : Outcome → State → Prop} {a : State} (h : GoE p e below Fi a) (f : ∀ o t, Fi o t → Fi' o t) : GoE p e below Fi' a := by
  obtain ⟨t, o, h1, h2, h3, h4⟩ := h
  exact ⟨t, o, h1, h2, h3, f _ _ h4⟩
def Ctr (l : Launch) (Z : State) (y : MethodName) (bytes : ByteArray) (ml : Nat) (ret : Option FieldType) (ws : List Jvm.Cond) (rm : Room) (as : Array Value) (h0 : Heap) (Q : Option Value → Heap → List Loc → Prop) : Prop :=
  MetFree l y (head1 (Jvm.Cond.code y bytes ml ret :: ws) rm) (fun a U => a = as ∧ Z.Warmed39 U.vm ∧ U.heap = h0) (fun _ _ _ _ _ => True) (fun _ U o U' => ∃ v L, o = .returned v ∧ Q v U'.heap L ∧ FrameEnd U o U' L rm.cells rm.slots)
theorem Ctr.enter {Z : State} {y : MethodName} {ml : Nat} {ret : Option FieldType} {ws : List Jvm.Cond} {rm : Room} {as : Array Value} {h0 : Heap} (hpl : plainFor y = true) (hef : ∀ m, entryFrame m as ml = mkF m 0 Ls [])
    (body : ∀ (p : Program) (e : Env) (s : State) (m : MethodId) (below : List Frame) (meth : Method) (c : Code) (T : State), p.tables.exec = Jvm.exec → c.code = bytes → c.maxLocals = ml → s.vm.findClass y.cls = some m.cls → meth.name = y.name → meth.sig.returnType = ret → meth.locks = false → Z.Warmed39 s.vm → s.heap = h0 →
      Stand p l e rm s m as below meth c T [] 0 0 → T.heap = h0 → Go p e below s rm.cells rm.slots Q (T.setTop (mkF m 0 Ls []))) : Ctr l Z y bytes ml ret ws rm as h0 Q := by
  refine MetFree.of_bodySF hpl hisR ?_
  intro p e s m args below meth c s₁ Bd hml0 hP hK
  obtain ⟨rfl, hZ, hh⟩ := hP
  have h := body p e s m below meth c s₁ Bd.exec Bd.bytes hml0 (findClass_of_methodNamed Bd.named) (name_of_methodNamed Bd.named Bd.method).1 Bd.returns (BodyLoose.notSynchronized Bd) hZ hh (Stand.of_body Bd) (by rw [← hh, Bd.state]; rfl)
  exact h.pull fun t k => castTop (hef m) k
theorem Ctr.imp {Z : State} {y : MethodName} {ml : Nat} {ret : Option FieldType} {ws : List Jvm.Cond} {rm : Room} {as : Array Value} {h0 : Heap} {Q' : Option Value → Heap → List Loc → Prop} (C : Ctr l Z y bytes ml ret ws rm as h0 Q) (f : ∀ v h L, Q v h L → Q' v h L) : Ctr l Z y bytes ml ret ws rm as h0 Q' := by
  intro p e ha hc hk s m args below hf happ hP hK
  obtain ⟨n, o, h1, h2, h3, v, L, h4, h5, h6⟩ := C p e ha hc hk s m args below hf happ hP hK
  exact ⟨n, o, h1, h2, h3, v, L, h4, f _ _ _ h5, h6⟩
theorem g_iload (X : Stand p l e R s m args below meth c T locs cells slots) (hx : p.tables.exec = Jvm.exec) {k : Nat} {v : Int32} (hby : c.code = bytes) (hd : decode bytes pc = .ok (.iload k, 2)) (hp : pc + 2 = pc') (hl : Ls[k]? = some (.val (.int v)))
    (H : GoE p e below Fi (T.setTop (mkF m pc' Ls (.int v :: rest)))) : GoE p e below Fi (T.setTop (mkF m pc Ls rest)) := by
  subst hp; exact H.pull fun t k => Jvm.Free.XS.iload X.here hx rfl (hb hby hd) hl k
theorem g_iloadN (X : Stand p l e R s m args below meth c T locs cells slots) (hx : p.tables.exec = Jvm.exec) {k : Fin 4} {v : Int32} (hby : c.code = bytes) (hd : decode bytes pc = .ok (.iload_n k, 1)) (hp : pc + 1 = pc') (hl : Ls[k.val]? = some (.val (.int v)))
    (H : GoE p e below Fi (T.setTop (mkF m pc' Ls (.int v :: rest)))) : GoE p e below Fi (T.setTop (mkF m pc Ls rest)) := by
  subst hp; exact H.pull fun t k => Jvm.Free.XS.iloadN X.here hx rfl (hb hby hd) hl k
theorem g_istore (X : Stand p l e R s m args below meth c T locs cells slots) (hx : p.tables.exec = Jvm.exec) {k : Nat} {x : Int32} {l' : Array Slot} (hby : c.code = bytes) (hd : decode bytes pc = .ok (.istore k, 2)) (hp : pc + 2 = pc') (hl : storeLocals Ls k (.int x) = some l')
    (H : GoE p e below Fi (T.setTop (mkF m pc' l' rest))) : GoE p e below Fi (T.setTop (mkF m pc Ls (.int x :: rest))) := by
  subst hp; exact H.pull fun t k => Jvm.Free.XS.istore X.here hx rfl (hb hby hd) rfl hl k
theorem g_istoreN (X : Stand p l e R s m args below meth c T locs cells slots) (hx : p.tables.exec = Jvm.exec) {k : Fin 4} {x : Int32} {l' : Array Slot} (hby : c.code = bytes) (hd : decode bytes pc = .ok (.istore_n k, 1)) (hp : pc + 1 = pc') (hl : storeLocals Ls k.val (.int x) = some l')
    (H : GoE p e below Fi (T.setTop (mkF m pc' l' rest))) : GoE p e below Fi (T.setTop (mkF m pc Ls (.int x :: rest))) := by
  subst hp; exact H.pull fun t k => Jvm.Free.XS.istoreN X.here hx rfl (hb hby hd) rfl hl k
theorem g_lload (X : Stand p l e R s m args below meth c T locs cells slots) (hx : p.tables.exec = Jvm.exec) {k : Nat} {v : Int64} (hby : c.code = bytes) (hd : decode bytes pc = .ok (.lload k, 2)) (hp : pc + 2 = pc') (hl : Ls[k]? = some (.val (.long v)))
    (H : GoE p e below Fi (T.setTop (mkF m pc' Ls (.long v :: rest)))) : GoE p e below Fi (T.setTop (mkF m pc Ls rest)) := by
  subst hp; exact H.pull fun t k => Jvm.Free.XT.lload X.here hx rfl (hb hby hd) hl k
theorem g_lloadN (X : Stand p l e R s m args below meth c T locs cells slots) (hx : p.tables.exec = Jvm.exec) {k : Fin 4} {v : Int64} (hby : c.code = bytes) (hd : decode bytes pc = .ok (.lload_n k, 1)) (hp : pc + 1 = pc') (hl : Ls[k.val]? = some (.val (.long v)))
    (H : GoE p e below Fi (T.setTop (mkF m pc' Ls (.long v :: rest)))) : GoE p e below Fi (T.setTop (mkF m pc Ls rest)) := by
  subst hp; exact H.pull fun t k => Jvm.Free.XT.lloadN X.here hx rfl (hb hby hd) hl k
theorem g_lstore (X : Stand p l e R s m args below meth c T locs cells slots) (hx : p.tables.exec = Jvm.exec) {k : Nat} {x : Int64} {l' : Array Slot} (hby : c.code = bytes) (hd : decode bytes pc = .ok (.lstore k, 2)) (hp : pc + 2 = pc') (hl : storeLocals Ls k (.long x) = some l')
    (H : GoE p e below Fi (T.setTop (mkF m pc' l' rest))) : GoE p e below Fi (T.setTop (mkF m pc Ls (.long x :: rest))) := by
  subst hp; exact H.pull fun t k => Jvm.Free.XT.lstore X.here hx rfl (hb hby hd) rfl hl k
theorem g_lstoreN (X : Stand p l e R s m args below meth c T locs cells slots) (hx : p.tables.exec = Jvm.exec) {k : Fin 4} {x : Int64} {l' : Array Slot} (hby : c.code = bytes) (hd : decode bytes pc = .ok (.lstore_n k, 1)) (hp : pc + 1 = pc') (hl : storeLocals Ls k.val (.long x) = some l')
    (H : GoE p e below Fi (T.setTop (mkF m pc' l' rest))) : GoE p e below Fi (T.setTop (mkF m pc Ls (.long x :: rest))) := by
  subst hp; exact H.pull fun t k => Jvm.Free.XT.lstoreN X.here hx rfl (hb hby hd) rfl hl k
theorem g_dload (X : Stand p l e R s m args below meth c T locs cells slots) (hx : p.tables.exec = Jvm.exec) {k : Nat} {v : UInt64} (hby : c.code = bytes) (hd : decode bytes pc = .ok (.dload k, 2)) (hp : pc + 2 = pc') (hl : Ls[k]? = some (.val (.double v)))
    (H : GoE p e below Fi (T.setTop (mkF m pc' Ls (.double v :: rest)))) : GoE p e below Fi (T.setTop (mkF m pc Ls rest)) := by
  subst hp; exact H.pull fun t k => Jvm.Free.XS.dload X.here hx rfl (hb hby hd) hl k
theorem g_dloadN (X : Stand p l e R s m args below meth c T locs cells slots) (hx : p.tables.exec = Jvm.exec) {k : Fin 4} {v : UInt64} (hby : c.code = bytes) (hd : decode bytes pc = .ok (.dload_n k, 1)) (hp : pc + 1 = pc') (hl : Ls[k.val]? = some (.val (.double v)))
    (H : GoE p e below Fi (T.setTop (mkF m pc' Ls (.double v :: rest)))) : GoE p e below Fi (T.setTop (mkF m pc Ls rest)) := by
  subst hp; exact H.pull fun t k => Jvm.Free.XS.dloadN X.here hx rfl (hb hby hd) hl k
theorem g_dstore (X : Stand p l e R s m args below meth c T locs cells slots) (hx : p.tables.exec = Jvm.exec) {k : Nat} {x : UInt64} {l' : Array Slot} (hby : c.code = bytes) (hd : decode bytes pc = .ok (.dstore k, 2)) (hp : pc + 2 = pc') (hl : storeLocals Ls k (.double x) = some l')
    (H : GoE p e below Fi (T.setTop (mkF m pc' l' rest))) : GoE p e below Fi (T.setTop (mkF m pc Ls (.double x :: rest))) := by
  subst hp; exact H.pull fun t k => Jvm.Free.XS.dstore X.here hx rfl (hb hby hd) rfl hl k
theorem g_dstoreN (X : Stand p l e R s m args below meth c T locs cells slots) (hx : p.tables.exec = Jvm.exec) {k : Fin 4} {x : UInt64} {l' : Array Slot} (hby : c.code = bytes) (hd : decode bytes pc = .ok (.dstore_n k, 1)) (hp : pc + 1 = pc') (hl : storeLocals Ls k.val (.double x) = some l')
    (H : GoE p e below Fi (T.setTop (mkF m pc' l' rest))) : GoE p e below Fi (T.setTop (mkF m pc Ls (.double x :: rest))) := by
  subst hp; exact H.pull fun t k => Jvm.Free.XS.dstoreN X.here hx rfl (hb hby hd) rfl hl k
theorem g_aload (X : Stand p l e R s m args below meth c T locs cells slots) (hx : p.tables.exec = Jvm.exec) {k : Nat} {v : Value} (hby : c.code = bytes) (hd : decode bytes pc = .ok (.aload k, 2)) (hp : pc + 2 = pc') (hl : Ls[k]? = some (.val v)) (hv : v.isRef = true)
    (H : GoE p e below Fi (T.setTop (mkF m pc' Ls (v :: rest)))) : GoE p e below Fi (T.setTop (mkF m pc Ls rest)) := by
  subst hp; exact H.pull fun t k => Jvm.Free.XS.aload X.here hx rfl (hb hby hd) hl hv k
theorem g_aloadN (X : Stand p l e R s m args below meth c T locs cells slots) (hx : p.tables.exec = Jvm.exec) {k : Fin 4} {v : Value} (hby : c.code = bytes) (hd : decode bytes pc = .ok (.aload_n k, 1)) (hp : pc + 1 = pc') (hl : Ls[k.val]? = some (.val v)) (hv : v.isRef = true)
    (H : GoE p e below Fi (T.setTop (mkF m pc' Ls (v :: rest)))) : GoE p e below Fi (T.setTop (mkF m pc Ls rest)) := by
  subst hp; exact H.pull fun t k => Jvm.Free.XS.aloadN X.here hx rfl (hb hby hd) hl hv k
theorem g_astore (X : Stand p l e R s m args below meth c T locs cells slots) (hx : p.tables.exec = Jvm.exec) {k : Nat} {x : Value} {l' : Array Slot} (hby : c.code = bytes) (hd : decode bytes pc = .ok (.astore k, 2)) (hp : pc + 2 = pc') (hv : x.isRef = true) (hl : storeLocals Ls k x = some l')
    (H : GoE p e below Fi (T.setTop (mkF m pc' l' rest))) : GoE p e below Fi (T.setTop (mkF m pc Ls (x :: rest))) := by
  subst hp; exact H.pull fun t k => Jvm.Free.XS.astore X.here hx rfl (hb hby hd) rfl hv hl k
theorem g_astoreN (X : Stand p l e R s m args below meth c T locs cells slots) (hx : p.tables.exec = Jvm.exec) {k : Fin 4} {x : Value} {l' : Array Slot} (hby : c.code = bytes) (hd : decode bytes pc = .ok (.astore_n k, 1)) (hp : pc + 1 = pc') (hv : x.isRef = true) (hl : storeLocals Ls k.val x = some l')
    (H : GoE p e below Fi (T.setTop (mkF m pc' l' rest))) : GoE p e below Fi (T.setTop (mkF m pc Ls (x :: rest))) := by
  subst hp; exact H.pull fun t k => Jvm.Free.XS.astoreN X.here hx rfl (hb hby hd) rfl hv hl k
theorem g_iconst (X : Stand p l e R s m args below meth c T locs cells slots) (hx : p.tables.exec = Jvm.exec) {i : Int} {z : Int32} (hby : c.code = bytes) (hd : decode bytes pc = .ok (.iconst i, 1)) (hp : pc + 1 = pc') (hz : z = Int32.ofInt i)
    (H : GoE p e below Fi (T.setTop (mkF m pc' Ls (.int z :: rest)))) : GoE p e below Fi (T.setTop (mkF m pc Ls rest)) := by
  subst hp; exact H.pull fun t k => Jvm.Free.XS.iconst X.here hx rfl (hb hby hd) (hz ▸ k)
theorem g_bipush (X : Stand p l e R s m args below meth c T locs cells slots) (hx : p.tables.exec = Jvm.exec) {i : Int} {z : Int32} (hby : c.code = bytes) (hd : decode bytes pc = .ok (.bipush i, 2)) (hp : pc + 2 = pc') (hz : z = (Int8.ofInt i).toInt32)
    (H : GoE p e below Fi (T.setTop (mkF m pc' Ls (.int z :: rest)))) : GoE p e below Fi (T.setTop (mkF m pc Ls rest)) := by
  subst hp; exact H.pull fun t k => Jvm.Free.XS.bipush X.here hx rfl (hb hby hd) (hz ▸ k)
theorem g_sipush (X : Stand p l e R s m args below meth c T locs cells slots) (hx : p.tables.exec = Jvm.exec) {i : Int} {z : Int32} (hby : c.code = bytes) (hd : decode bytes pc = .ok (.sipush i, 3)) (hp : pc + 3 = pc') (hz : z = (Int16.ofInt i).toInt32)
    (H : GoE p e below Fi (T.setTop (mkF m pc' Ls (.int z :: rest)))) : GoE p e below Fi (T.setTop (mkF m pc Ls rest)) := by
  subst hp; exact H.pull fun t k => Jvm.Free.XS.sipush X.here hx rfl (hb hby hd) (hz ▸ k)
theorem g_lconst (X : Stand p l e R s m args below meth c T locs cells slots) (hx : p.tables.exec = Jvm.exec) {i : Fin 2} {z : Int64} (hby : c.code = bytes) (hd : decode bytes pc = .ok (.lconst i, 1)) (hp : pc + 1 = pc') (hz : z = Int64.ofNat i)
    (H : GoE p e below Fi (T.setTop (mkF m pc' Ls (.long z :: rest)))) : GoE p e below Fi (T.setTop (mkF m pc Ls rest)) := by
  subst hp; exact H.pull fun t k => Jvm.Free.XT.lconst X.here hx rfl (hb hby hd) (hz ▸ k)
theorem g_aconstNull (X : Stand p l e R s m args below meth c T locs cells slots) (hx : p.tables.exec = Jvm.exec)  (hby : c.code = bytes) (hd : decode bytes pc = .ok (.aconst_null, 1)) (hp : pc + 1 = pc') 
    (H : GoE p e below Fi (T.setTop (mkF m pc' Ls (.null :: rest)))) : GoE p e below Fi (T.setTop (mkF m pc Ls rest)) := by
  subst hp; exact H.pull fun t k => Jvm.Free.XS.aconstNull X.here hx rfl (hb hby hd) k
theorem g_ldcI (X : Stand p l e R s m args below meth c T locs cells slots) (hx : p.tables.exec = Jvm.exec) {Z : State} {a0 : Array Value} (hZ : Z.Warmed39 s.vm) {own : String} (hown : s.vm.findClass own = some m.cls) {index : Nat} {v : Int32} (hby : c.code = bytes) (hd : decode bytes pc = .ok (.ldc index, 2)) (hp : pc + 2 = pc') (w : (Jvm.Cond.constant own index v).before a0 Z = true)
    (H : GoE p e below Fi (T.setTop (mkF m pc' Ls (.int v :: rest)))) : GoE p e below Fi (T.setTop (mkF m pc Ls rest)) := by
  subst hp; exact H.pull fun t k => X.ldcInt hx hown (mvT hZ w) (g := mkF m pc Ls rest) rfl (hb hby hd) _ k
theorem g_ldcL (X : Stand p l e R s m args below meth c T locs cells slots) (hx : p.tables.exec = Jvm.exec) {Z : State} {a0 : Array Value} (hZ : Z.Warmed39 s.vm) {own : String} (hown : s.vm.findClass own = some m.cls) {index : Nat} {v : Int64} (hby : c.code = bytes) (hd : decode bytes pc = .ok (.ldc2_w index, 3)) (hp : pc + 3 = pc') (w : (Jvm.Cond.constantLong own index v).before a0 Z = true)
    (H : GoE p e below Fi (T.setTop (mkF m pc' Ls (.long v :: rest)))) : GoE p e below Fi (T.setTop (mkF m pc Ls rest)) := by
  subst hp; exact H.pull fun t k => X.ldc2Long hx hown (mvT hZ w) (g := mkF m pc Ls rest) rfl (hb hby hd) _ k
theorem g_ldcD (X : Stand p l e R s m args below meth c T locs cells slots) (hx : p.tables.exec = Jvm.exec) {Z : State} {a0 : Array Value} (hZ : Z.Warmed39 s.vm) {own : String} (hown : s.vm.findClass own = some m.cls) {index : Nat} {v : UInt64} (hby : c.code = bytes) (hd : decode bytes pc = .ok (.ldc2_w index, 3)) (hp : pc + 3 = pc') (w : (Jvm.Cond.constantDouble own index v).before a0 Z = true)
    (H : GoE p e below Fi (T.setTop (mkF m pc' Ls (.double v :: rest)))) : GoE p e below Fi (T.setTop (mkF m pc Ls rest)) := by
  subst hp; exact H.pull fun t k => X.ldc2DoubleC hx hown (mvT hZ w) (g := mkF m pc Ls rest) rfl (hb hby hd) _ k
theorem g_iadd (X : Stand p l e R s m args below meth c T locs cells slots) (hx : p.tables.exec = Jvm.exec) {x y : Int32} (hby : c.code = bytes) (hd : decode bytes pc = .ok (.iadd, 1)) (hp : pc + 1 = pc') 
    (H : GoE p e below Fi (T.setTop (mkF m pc' Ls (.int (x + y) :: rest)))) : GoE p e below Fi (T.setTop (mkF m pc Ls (.int y :: .int x :: rest))) := by
  subst hp; exact H.pull fun t k => Jvm.Free.XS.iadd X.here hx rfl (hb hby hd) rfl k
theorem g_isub (X : Stand p l e R s m args below meth c T locs cells slots) (hx : p.tables.exec = Jvm.exec) {x y : Int32} (hby : c.code = bytes) (hd : decode bytes pc = .ok (.isub, 1)) (hp : pc + 1 = pc') 
    (H : GoE p e below Fi (T.setTop (mkF m pc' Ls (.int (x - y) :: rest)))) : GoE p e below Fi (T.setTop (mkF m pc Ls (.int y :: .int x :: rest))) := by
  subst hp; exact H.pull fun t k => Jvm.Free.XS.isub X.here hx rfl (hb hby hd) rfl k
theorem g_imul (X : Stand p l e R s m args below meth c T locs cells slots) (hx : p.tables.exec = Jvm.exec) {x y : Int32} (hby : c.code = bytes) (hd : decode bytes pc = .ok (.imul, 1)) (hp : pc + 1 = pc') 
    (H : GoE p e below Fi (T.setTop (mkF m pc' Ls (.int (x * y) :: rest)))) : GoE p e below Fi (T.setTop (mkF m pc Ls (.int y :: .int x :: rest))) := by
  subst hp; exact H.pull fun t k => Jvm.Free.XS.imul X.here hx rfl (hb hby hd) rfl k
theorem g_iand (X : Stand p l e R s m args below meth c T locs cells slots) (hx : p.tables.exec = Jvm.exec) {x y : Int32} (hby : c.code = bytes) (hd : decode bytes pc = .ok (.iand, 1)) (hp : pc + 1 = pc') 
    (H : GoE p e below Fi (T.setTop (mkF m pc' Ls (.int (x &&& y) :: rest)))) : GoE p e below Fi (T.setTop (mkF m pc Ls (.int y :: .int x :: rest))) := by
  subst hp; exact H.pull fun t k => Jvm.Free.XS.iand X.here hx rfl (hb hby hd) rfl k
theorem g_ior (X : Stand p l e R s m args below meth c T locs cells slots) (hx : p.tables.exec = Jvm.exec) {x y : Int32} (hby : c.code = bytes) (hd : decode bytes pc = .ok (.ior, 1)) (hp : pc + 1 = pc') 
    (H : GoE p e below Fi (T.setTop (mkF m pc' Ls (.int (x ||| y) :: rest)))) : GoE p e below Fi (T.setTop (mkF m pc Ls (.int y :: .int x :: rest))) := by
  subst hp; exact H.pull fun t k => Jvm.Free.XT.ior X.here hx rfl (hb hby hd) rfl k
theorem g_ixor (X : Stand p l e R s m args below meth c T locs cells slots) (hx : p.tables.exec = Jvm.exec) {x y : Int32} (hby : c.code = bytes) (hd : decode bytes pc = .ok (.ixor, 1)) (hp : pc + 1 = pc') 
    (H : GoE p e below Fi (T.setTop (mkF m pc' Ls (.int (x ^^^ y) :: rest)))) : GoE p e below Fi (T.setTop (mkF m pc Ls (.int y :: .int x :: rest))) := by
  subst hp; exact H.pull fun t k => Jvm.Free.XT.ixor X.here hx rfl (hb hby hd) rfl k
theorem g_ishl (X : Stand p l e R s m args below meth c T locs cells slots) (hx : p.tables.exec = Jvm.exec) {x y : Int32} (hby : c.code = bytes) (hd : decode bytes pc = .ok (.ishl, 1)) (hp : pc + 1 = pc') 
    (H : GoE p e below Fi (T.setTop (mkF m pc' Ls (.int (x <<< (y &&& 31)) :: rest)))) : GoE p e below Fi (T.setTop (mkF m pc Ls (.int y :: .int x :: rest))) := by
  subst hp; exact H.pull fun t k => Jvm.Free.XT.ishl X.here hx rfl (hb hby hd) rfl k
theorem g_ishr (X : Stand p l e R s m args below meth c T locs cells slots) (hx : p.tables.exec = Jvm.exec) {x y : Int32} (hby : c.code = bytes) (hd : decode bytes pc = .ok (.ishr, 1)) (hp : pc + 1 = pc') 
    (H : GoE p e below Fi (T.setTop (mkF m pc' Ls (.int (x >>> (y &&& 31)) :: rest)))) : GoE p e below Fi (T.setTop (mkF m pc Ls (.int y :: .int x :: rest))) := by
  subst hp; exact H.pull fun t k => Jvm.Free.XT.ishr X.here hx rfl (hb hby hd) rfl k
theorem g_iushr (X : Stand p l e R s m args below meth c T locs cells slots) (hx : p.tables.exec = Jvm.exec) {x y : Int32} (hby : c.code = bytes) (hd : decode bytes pc = .ok (.iushr, 1)) (hp : pc + 1 = pc') 
    (H : GoE p e below Fi (T.setTop (mkF m pc' Ls (.int (ushr x y) :: rest)))) : GoE p e below Fi (T.setTop (mkF m pc Ls (.int y :: .int x :: rest))) := by
  subst hp; exact H.pull fun t k => Jvm.Free.XT.iushr X.here hx rfl (hb hby hd) rfl k
theorem g_idiv (X : Stand p l e R s m args below meth c T locs cells slots) (hx : p.tables.exec = Jvm.exec) {x y : Int32} (hby : c.code = bytes) (hd : decode bytes pc = .ok (.idiv, 1)) (hp : pc + 1 = pc') (hy : y ≠ 0)
    (H : GoE p e below Fi (T.setTop (mkF m pc' Ls (.int (x / y) :: rest)))) : GoE p e below Fi (T.setTop (mkF m pc Ls (.int y :: .int x :: rest))) := by
  subst hp; exact H.pull fun t k => Jvm.Free.XS.idiv X.here hx rfl (hb hby hd) rfl hy k
theorem g_irem (X : Stand p l e R s m args below meth c T locs cells slots) (hx : p.tables.exec = Jvm.exec) {x y : Int32} (hby : c.code = bytes) (hd : decode bytes pc = .ok (.irem, 1)) (hp : pc + 1 = pc') (hy : y ≠ 0)
    (H : GoE p e below Fi (T.setTop (mkF m pc' Ls (.int (x - (x / y) * y) :: rest)))) : GoE p e below Fi (T.setTop (mkF m pc Ls (.int y :: .int x :: rest))) := by
  subst hp; exact H.pull fun t k => Jvm.Free.XS.irem X.here hx rfl (hb hby hd) rfl hy k
theorem g_ineg (X : Stand p l e R s m args below meth c T locs cells slots) (hx : p.tables.exec = Jvm.exec) {x : Int32} (hby : c.code = bytes) (hd : decode bytes pc = .ok (.ineg, 1)) (hp : pc + 1 = pc') 
    (H : GoE p e below Fi (T.setTop (mkF m pc' Ls (.int (-x) :: rest)))) : GoE p e below Fi (T.setTop (mkF m pc Ls (.int x :: rest))) := by
  subst hp; exact H.pull fun t k => Jvm.Free.XS.ineg X.here hx rfl (hb hby hd) rfl k
theorem g_ladd (X : Stand p l e R s m args below meth c T locs cells slots) (hx : p.tables.exec = Jvm.exec) {x y : Int64} (hby : c.code = bytes) (hd : decode bytes pc = .ok (.ladd, 1)) (hp : pc + 1 = pc') 
    (H : GoE p e below Fi (T.setTop (mkF m pc' Ls (.long (x + y) :: rest)))) : GoE p e below Fi (T.setTop (mkF m pc Ls (.long y :: .long x :: rest))) := by
  subst hp; exact H.pull fun t k => Jvm.Free.XT.ladd X.here hx rfl (hb hby hd) rfl k
theorem g_lsub (X : Stand p l e R s m args below meth c T locs cells slots) (hx : p.tables.exec = Jvm.exec) {x y : Int64} (hby : c.code = bytes) (hd : decode bytes pc = .ok (.lsub, 1)) (hp : pc + 1 = pc') 
    (H : GoE p e below Fi (T.setTop (mkF m pc' Ls (.long (x - y) :: rest)))) : GoE p e below Fi (T.setTop (mkF m pc Ls (.long y :: .long x :: rest))) := by
  subst hp; exact H.pull fun t k => Jvm.Free.XT.lsub X.here hx rfl (hb hby hd) rfl k
theorem g_lmul (X : Stand p l e R s m args below meth c T locs cells slots) (hx : p.tables.exec = Jvm.exec) {x y : Int64} (hby : c.code = bytes) (hd : decode bytes pc = .ok (.lmul, 1)) (hp : pc + 1 = pc') 
    (H : GoE p e below Fi (T.setTop (mkF m pc' Ls (.long (x * y) :: rest)))) : GoE p e below Fi (T.setTop (mkF m pc Ls (.long y :: .long x :: rest))) := by
  subst hp; exact H.pull fun t k => Jvm.Free.XT.lmul X.here hx rfl (hb hby hd) rfl k
theorem g_land (X : Stand p l e R s m args below meth c T locs cells slots) (hx : p.tables.exec = Jvm.exec) {x y : Int64} (hby : c.code = bytes) (hd : decode bytes pc = .ok (.land, 1)) (hp : pc + 1 = pc') 
    (H : GoE p e below Fi (T.setTop (mkF m pc' Ls (.long (x &&& y) :: rest)))) : GoE p e below Fi (T.setTop (mkF m pc Ls (.long y :: .long x :: rest))) := by
  subst hp; exact H.pull fun t k => Jvm.Free.XT.land X.here hx rfl (hb hby hd) rfl k
theorem g_lor (X : Stand p l e R s m args below meth c T locs cells slots) (hx : p.tables.exec = Jvm.exec) {x y : Int64} (hby : c.code = bytes) (hd : decode bytes pc = .ok (.lor, 1)) (hp : pc + 1 = pc') 
    (H : GoE p e below Fi (T.setTop (mkF m pc' Ls (.long (x ||| y) :: rest)))) : GoE p e below Fi (T.setTop (mkF m pc Ls (.long y :: .long x :: rest))) := by
  subst hp; exact H.pull fun t k => Jvm.Free.XT.lor X.here hx rfl (hb hby hd) rfl k
theorem g_lxor (X : Stand p l e R s m args below meth c T locs cells slots) (hx : p.tables.exec = Jvm.exec) {x y : Int64} (hby : c.code = bytes) (hd : decode bytes pc = .ok (.lxor, 1)) (hp : pc + 1 = pc') 
    (H : GoE p e below Fi (T.setTop (mkF m pc' Ls (.long (x ^^^ y) :: rest)))) : GoE p e below Fi (T.setTop (mkF m pc Ls (.long y :: .long x :: rest))) := by
  subst hp; exact H.pull fun t k => Jvm.Free.XT.lxor X.here hx rfl (hb hby hd) rfl k
theorem g_ldiv (X : Stand p l e R s m args below meth c T locs cells slots) (hx : p.tables.exec = Jvm.exec) {x y : Int64} (hby : c.code = bytes) (hd : decode bytes pc = .ok (.ldiv, 1)) (hp : pc + 1 = pc') (hy : y ≠ 0)
    (H : GoE p e below Fi (T.setTop (mkF m pc' Ls (.long (x / y) :: rest)))) : GoE p e below Fi (T.setTop (mkF m pc Ls (.long y :: .long x :: rest))) := by
  subst hp; exact H.pull fun t k => Jvm.Free.XT.ldiv X.here hx rfl (hb hby hd) rfl hy k
theorem g_lrem (X : Stand p l e R s m args below meth c T locs cells slots) (hx : p.tables.exec = Jvm.exec) {x y : Int64} (hby : c.code = bytes) (hd : decode bytes pc = .ok (.lrem, 1)) (hp : pc + 1 = pc') (hy : y ≠ 0)
    (H : GoE p e below Fi (T.setTop (mkF m pc' Ls (.long (x - (x / y) * y) :: rest)))) : GoE p e below Fi (T.setTop (mkF m pc Ls (.long y :: .long x :: rest))) := by
  subst hp; exact H.pull fun t k => Jvm.Free.XT.lrem X.here hx rfl (hb hby hd) rfl hy k
theorem g_lneg (X : Stand p l e R s m args below meth c T locs cells slots) (hx : p.tables.exec = Jvm.exec) {x : Int64} (hby : c.code = bytes) (hd : decode bytes pc = .ok (.lneg, 1)) (hp : pc + 1 = pc') 
    (H : GoE p e below Fi (T.setTop (mkF m pc' Ls (.long (-x) :: rest)))) : GoE p e below Fi (T.setTop (mkF m pc Ls (.long x :: rest))) := by
  subst hp; exact H.pull fun t k => Jvm.Free.XT.lneg X.here hx rfl (hb hby hd) rfl k
theorem g_lshl (X : Stand p l e R s m args below meth c T locs cells slots) (hx : p.tables.exec = Jvm.exec) {x : Int64} {y : Int32} (hby : c.code = bytes) (hd : decode bytes pc = .ok (.lshl, 1)) (hp : pc + 1 = pc') 
    (H : GoE p e below Fi (T.setTop (mkF m pc' Ls (.long (x <<< (y.toInt64 &&& 63)) :: rest)))) : GoE p e below Fi (T.setTop (mkF m pc Ls (.int y :: .long x :: rest))) := by
  subst hp; exact H.pull fun t k => Jvm.Free.XT.lshl X.here hx rfl (hb hby hd) rfl k
theorem g_lshr (X : Stand p l e R s m args below meth c T locs cells slots) (hx : p.tables.exec = Jvm.exec) {x : Int64} {y : Int32} (hby : c.code = bytes) (hd : decode bytes pc = .ok (.lshr, 1)) (hp : pc + 1 = pc') 
    (H : GoE p e below Fi (T.setTop (mkF m pc' Ls (.long (x >>> (y.toInt64 &&& 63)) :: rest)))) : GoE p e below Fi (T.setTop (mkF m pc Ls (.int y :: .long x :: rest))) := by
  subst hp; exact H.pull fun t k => Jvm.Free.XT.lshr X.here hx rfl (hb hby hd) rfl k
theorem g_lushr (X : Stand p l e R s m args below meth c T locs cells slots) (hx : p.tables.exec = Jvm.exec) {x : Int64} {y : Int32} (hby : c.code = bytes) (hd : decode bytes pc = .ok (.lushr, 1)) (hp : pc + 1 = pc') 
    (H : GoE p e below Fi (T.setTop (mkF m pc' Ls (.long (ushrL x y) :: rest)))) : GoE p e below Fi (T.setTop (mkF m pc Ls (.int y :: .long x :: rest))) := by
  subst hp; exact H.pull fun t k => Jvm.Free.XT.lushr X.here hx rfl (hb hby hd) rfl k
theorem g_i2l (X : Stand p l e R s m args below meth c T locs cells slots) (hx : p.tables.exec = Jvm.exec) {x : Int32} (hby : c.code = bytes) (hd : decode bytes pc = .ok (.i2l, 1)) (hp : pc + 1 = pc') 
    (H : GoE p e below Fi (T.setTop (mkF m pc' Ls (.long x.toInt64 :: rest)))) : GoE p e below Fi (T.setTop (mkF m pc Ls (.int x :: rest))) := by
  subst hp; exact H.pull fun t k => Jvm.Free.XT.i2l X.here hx rfl (hb hby hd) rfl k
theorem g_l2i (X : Stand p l e R s m args below meth c T locs cells slots) (hx : p.tables.exec = Jvm.exec) {x : Int64} (hby : c.code = bytes) (hd : decode bytes pc = .ok (.l2i, 1)) (hp : pc + 1 = pc') 
    (H : GoE p e below Fi (T.setTop (mkF m pc' Ls (.int x.toInt32 :: rest)))) : GoE p e below Fi (T.setTop (mkF m pc Ls (.long x :: rest))) := by
  subst hp; exact H.pull fun t k => Jvm.Free.XT.l2i X.here hx rfl (hb hby hd) rfl k
theorem g_i2b (X : Stand p l e R s m args below meth c T locs cells slots) (hx : p.tables.exec = Jvm.exec) {x : Int32} (hby : c.code = bytes) (hd : decode bytes pc = .ok (.i2b, 1)) (hp : pc + 1 = pc') 
    (H : GoE p e below Fi (T.setTop (mkF m pc' Ls (.int x.toInt8.toInt32 :: rest)))) : GoE p e below Fi (T.setTop (mkF m pc Ls (.int x :: rest))) := by
  subst hp; exact H.pull fun t k => Jvm.Free.XT.i2b X.here hx rfl (hb hby hd) rfl k
theorem g_i2c (X : Stand p l e R s m args below meth c T locs cells slots) (hx : p.tables.exec = Jvm.exec) {x : Int32} (hby : c.code = bytes) (hd : decode bytes pc = .ok (.i2c, 1)) (hp : pc + 1 = pc') 
    (H : GoE p e below Fi (T.setTop (mkF m pc' Ls (.int x.toUInt32.toUInt16.toUInt32.toInt32 :: rest)))) : GoE p e below Fi (T.setTop (mkF m pc Ls (.int x :: rest))) := by
  subst hp; exact H.pull fun t k => Jvm.Free.XT.i2c X.here hx rfl (hb hby hd) rfl k
theorem g_i2s (X : Stand p l e R s m args below meth c T locs cells slots) (hx : p.tables.exec = Jvm.exec) {x : Int32} (hby : c.code = bytes) (hd : decode bytes pc = .ok (.i2s, 1)) (hp : pc + 1 = pc') 
    (H : GoE p e below Fi (T.setTop (mkF m pc' Ls (.int x.toInt16.toInt32 :: rest)))) : GoE p e below Fi (T.setTop (mkF m pc Ls (.int x :: rest))) := by
  subst hp; exact H.pull fun t k => Jvm.Free.XT.i2s X.here hx rfl (hb hby hd) rfl k
theorem g_i2d (X : Stand p l e R s m args below meth c T locs cells slots) (hx : p.tables.exec = Jvm.exec) {x : Int32} (hby : c.code = bytes) (hd : decode bytes pc = .ok (.i2d, 1)) (hp : pc + 1 = pc') 
    (H : GoE p e below Fi (T.setTop (mkF m pc' Ls (.double (FP.l2d x.toInt64) :: rest)))) : GoE p e below Fi (T.setTop (mkF m pc Ls (.int x :: rest))) := by
  subst hp; exact H.pull fun t k => Jvm.Free.XS.i2dS X.here hx rfl (hb hby hd) rfl (i2d_w x) k
theorem g_l2d (X : Stand p l e R s m args below meth c T locs cells slots) (hx : p.tables.exec = Jvm.exec) {x : Int64} (hby : c.code = bytes) (hd : decode bytes pc = .ok (.l2d, 1)) (hp : pc + 1 = pc') 
    (H : GoE p e below Fi (T.setTop (mkF m pc' Ls (.double (FP.l2d x) :: rest)))) : GoE p e below Fi (T.setTop (mkF m pc Ls (.long x :: rest))) := by
  subst hp; exact H.pull fun t k => Jvm.Free.XS.l2dS X.here hx rfl (hb hby hd) rfl rfl k
theorem g_dcmp (X : Stand p l e R s m args below meth c T locs cells slots) (hx : p.tables.exec = Jvm.exec) {o : CmpOp} {x y : UInt64} {v : Int32} (hby : c.code = bytes) (hd : decode bytes pc = .ok (.dcmp o, 1)) (hp : pc + 1 = pc') (hv : cmpValue (FP.dcmp x y) o = v)
    (H : GoE p e below Fi (T.setTop (mkF m pc' Ls (.int v :: rest)))) : GoE p e below Fi (T.setTop (mkF m pc Ls (.double y :: .double x :: rest))) := by
  subst hp; exact H.pull fun t k => Jvm.Free.XS.dcmpS X.here hx rfl (hb hby hd) rfl hv k
theorem g_lcmp (X : Stand p l e R s m args below meth c T locs cells slots) (hx : p.tables.exec = Jvm.exec) {x y : Int64} (hby : c.code = bytes) (hd : decode bytes pc = .ok (.lcmp, 1)) (hp : pc + 1 = pc') 
    (H : GoE p e below Fi (T.setTop (mkF m pc' Ls (.int (cmpL x y) :: rest)))) : GoE p e below Fi (T.setTop (mkF m pc Ls (.long y :: .long x :: rest))) := by
  subst hp; exact H.pull fun t k => Jvm.Free.XT.lcmp X.here hx rfl (hb hby hd) rfl k
theorem g_dup (X : Stand p l e R s m args below meth c T locs cells slots) (hx : p.tables.exec = Jvm.exec) {x : Value} (hby : c.code = bytes) (hd : decode bytes pc = .ok (.dup, 1)) (hp : pc + 1 = pc') (hc : x.category = 1)
    (H : GoE p e below Fi (T.setTop (mkF m pc' Ls (x :: x :: rest)))) : GoE p e below Fi (T.setTop (mkF m pc Ls (x :: rest))) := by
  subst hp; exact H.pull fun t k => Jvm.Free.XS.dup X.here hx rfl (hb hby hd) rfl hc k
theorem g_pop (X : Stand p l e R s m args below meth c T locs cells slots) (hx : p.tables.exec = Jvm.exec) {x : Value} (hby : c.code = bytes) (hd : decode bytes pc = .ok (.pop, 1)) (hp : pc + 1 = pc') (hc : x.category = 1)
    (H : GoE p e below Fi (T.setTop (mkF m pc' Ls rest))) : GoE p e below Fi (T.setTop (mkF m pc Ls (x :: rest))) := by
  subst hp; exact H.pull fun t k => Jvm.Free.XT.pop X.here hx rfl (hb hby hd) rfl hc k
theorem g_iinc (X : Stand p l e R s m args below meth c T locs cells slots) (hx : p.tables.exec = Jvm.exec) {k : Nat} {cst : Int} {x : Int32} {l' : Array Slot} (hby : c.code = bytes) (hd : decode bytes pc = .ok (.iinc k cst, 3)) (hp : pc + 3 = pc') (hl : Ls[k]? = some (.val (.int x))) (hl' : storeLocals Ls k (.int (x + Int32.ofInt cst)) = some l')
    (H : GoE p e below Fi (T.setTop (mkF m pc' l' rest))) : GoE p e below Fi (T.setTop (mkF m pc Ls rest)) := by
  subst hp; exact H.pull fun t k => Jvm.Free.XS.iinc X.here hx rfl (hb hby hd) hl hl' k
theorem g_goto (X : Stand p l e R s m args below meth c T locs cells slots) (hx : p.tables.exec = Jvm.exec) {o : Int} (hby : c.code = bytes) (hd : decode bytes pc = .ok (.goto o, 3)) (ho : 0 ≤ (pc : Int) + o) (hp : ((pc : Int) + o).toNat = pc')
    (H : GoE p e below Fi (T.setTop (mkF m pc' Ls rest))) : GoE p e below Fi (T.setTop (mkF m pc Ls rest)) :=
  H.pull fun t k => Jvm.Free.XS.goto X.here hx rfl rfl (hb hby hd) ho hp k
theorem g_icmp_eq (X : Stand p l e R s m args below meth c T locs cells slots) (hx : p.tables.exec = Jvm.exec) {o : Int} {pn : Nat} (hby : c.code = bytes) {x y : Int32} (hd : decode bytes pc = .ok (.if_icmp .eq o, 3)) (ho : 0 ≤ (pc : Int) + o) (hp : ((pc : Int) + o).toNat = pc') (hn : pc + 3 = pn)
    (HY : x = y → GoE p e below Fi (T.setTop (mkF m pc' Ls rest))) (HN : ¬ (x = y) → GoE p e below Fi (T.setTop (mkF m pn Ls rest))) : GoE p e below Fi (T.setTop (mkF m pc Ls (.int y :: .int x :: rest))) := by
  subst hn
  by_cases q : x = y
  · exact (HY q).pull fun t k => Jvm.Free.XS.icmpYes X.here hx rfl rfl (hb hby hd) rfl (teq q).1 ho hp k
  · have q' : ¬ (x = y) := by first | exact q | exact Decidable.not_not.mp q
    exact (HN q').pull fun t k => Jvm.Free.XS.icmpNo X.here hx rfl (hb hby hd) rfl (feq q').1 k
theorem g_if_eq (X : Stand p l e R s m args below meth c T locs cells slots) (hx : p.tables.exec = Jvm.exec) {o : Int} {pn : Nat} (hby : c.code = bytes) {x : Int32} (hd : decode bytes pc = .ok (.ifCond .eq o, 3)) (ho : 0 ≤ (pc : Int) + o) (hp : ((pc : Int) + o).toNat = pc') (hn : pc + 3 = pn)
    (HY : x = 0 → GoE p e below Fi (T.setTop (mkF m pc' Ls rest))) (HN : ¬ (x = 0) → GoE p e below Fi (T.setTop (mkF m pn Ls rest))) : GoE p e below Fi (T.setTop (mkF m pc Ls (.int x :: rest))) := by
  subst hn
  by_cases q : x = 0
  · exact (HY q).pull fun t k => Jvm.Free.XS.ifYes X.here hx rfl rfl (hb hby hd) rfl ((if0 _ _).trans (teq q).1) ho hp k
  · have q' : ¬ (x = 0) := by first | exact q | exact Decidable.not_not.mp q
    exact (HN q').pull fun t k => Jvm.Free.XS.ifNo X.here hx rfl (hb hby hd) rfl ((if0 _ _).trans (feq q').1) k
theorem cl_W (u v : Int64) : cmpL u v = lcmpW u v := rfl
theorem cl_lt (u v : Int64) : cmpL u v < 0 ↔ u < v := by rw [cl_W]; exact lw_lt u v
theorem cl_gt (u v : Int64) : 0 < cmpL u v ↔ v < u := by rw [cl_W]; exact lw_gt u v
theorem cl_eq (u v : Int64) : cmpL u v = 0 ↔ u = v := by rw [cl_W]; exact lw_eq u v
theorem g_ifL_eq (X : Stand p l e R s m args below meth c T locs cells slots) (hx : p.tables.exec = Jvm.exec) {o : Int} {pn : Nat} (hby : c.code = bytes) {u v : Int64} (hd : decode bytes pc = .ok (.ifCond .eq o, 3)) (ho : 0 ≤ (pc : Int) + o) (hp : ((pc : Int) + o).toNat = pc') (hn : pc + 3 = pn)
    (HY : u = v → GoE p e below Fi (T.setTop (mkF m pc' Ls rest))) (HN : ¬ (u = v) → GoE p e below Fi (T.setTop (mkF m pn Ls rest))) : GoE p e below Fi (T.setTop (mkF m pc Ls (.int (cmpL u v) :: rest))) :=
  g_if_eq X hx hby hd ho hp hn (fun h => HY ((cl_eq u v).mp h)) (fun h => HN (fun z => h ((cl_eq u v).mpr z)))
theorem g_icmp_ne (X : Stand p l e R s m args below meth c T locs cells slots) (hx : p.tables.exec = Jvm.exec) {o : Int} {pn : Nat} (hby : c.code = bytes) {x y : Int32} (hd : decode bytes pc = .ok (.if_icmp .ne o, 3)) (ho : 0 ≤ (pc : Int) + o) (hp : ((pc : Int) + o).toNat = pc') (hn : pc + 3 = pn)
    (HY : ¬ (x = y) → GoE p e below Fi (T.setTop (mkF m pc' Ls rest))) (HN : x = y → GoE p e below Fi (T.setTop (mkF m pn Ls rest))) : GoE p e below Fi (T.setTop (mkF m pc Ls (.int y :: .int x :: rest))) := by
  subst hn
  by_cases q : ¬ (x = y)
  · exact (HY q).pull fun t k => Jvm.Free.XS.icmpYes X.here hx rfl rfl (hb hby hd) rfl (feq q).2 ho hp k
  · have q' : x = y := by first | exact q | exact Decidable.not_not.mp q
    exact (HN q').pull fun t k => Jvm.Free.XS.icmpNo X.here hx rfl (hb hby hd) rfl (teq q').2 k
theorem g_if_ne (X : Stand p l e R s m args below meth c T locs cells slots) (hx : p.tables.exec = Jvm.exec) {o : Int} {pn : Nat} (hby : c.code = bytes) {x : Int32} (hd : decode bytes pc = .ok (.ifCond .ne o, 3)) (ho : 0 ≤ (pc : Int) + o) (hp : ((pc : Int) + o).toNat = pc') (hn : pc + 3 = pn)
    (HY : ¬ (x = 0) → GoE p e below Fi (T.setTop (mkF m pc' Ls rest))) (HN : x = 0 → GoE p e below Fi (T.setTop (mkF m pn Ls rest))) : GoE p e below Fi (T.setTop (mkF m pc Ls (.int x :: rest))) := by
  subst hn
  by_cases q : ¬ (x = 0)
  · exact (HY q).pull fun t k => Jvm.Free.XS.ifYes X.here hx rfl rfl (hb hby hd) rfl ((if0 _ _).trans (feq q).2) ho hp k
  · have q' : x = 0 := by first | exact q | exact Decidable.not_not.mp q
    exact (HN q').pull fun t k => Jvm.Free.XS.ifNo X.here hx rfl (hb hby hd) rfl ((if0 _ _).trans (teq q').2) k
theorem g_ifL_ne (X : Stand p l e R s m args below meth c T locs cells slots) (hx : p.tables.exec = Jvm.exec) {o : Int} {pn : Nat} (hby : c.code = bytes) {u v : Int64} (hd : decode bytes pc = .ok (.ifCond .ne o, 3)) (ho : 0 ≤ (pc : Int) + o) (hp : ((pc : Int) + o).toNat = pc') (hn : pc + 3 = pn)
    (HY : ¬ (u = v) → GoE p e below Fi (T.setTop (mkF m pc' Ls rest))) (HN : u = v → GoE p e below Fi (T.setTop (mkF m pn Ls rest))) : GoE p e below Fi (T.setTop (mkF m pc Ls (.int (cmpL u v) :: rest))) :=
  g_if_ne X hx hby hd ho hp hn (fun h => HY (fun z => h ((cl_eq u v).mpr z))) (fun h => HN ((cl_eq u v).mp h))
theorem g_icmp_lt (X : Stand p l e R s m args below meth c T locs cells slots) (hx : p.tables.exec = Jvm.exec) {o : Int} {pn : Nat} (hby : c.code = bytes) {x y : Int32} (hd : decode bytes pc = .ok (.if_icmp .lt o, 3)) (ho : 0 ≤ (pc : Int) + o) (hp : ((pc : Int) + o).toNat = pc') (hn : pc + 3 = pn)
    (HY : x < y → GoE p e below Fi (T.setTop (mkF m pc' Ls rest))) (HN : ¬ (x < y) → GoE p e below Fi (T.setTop (mkF m pn Ls rest))) : GoE p e below Fi (T.setTop (mkF m pc Ls (.int y :: .int x :: rest))) := by
  subst hn
  by_cases q : x < y
  · exact (HY q).pull fun t k => Jvm.Free.XS.icmpYes X.here hx rfl rfl (hb hby hd) rfl (tlt q).1 ho hp k
  · have q' : ¬ (x < y) := by first | exact q | exact Decidable.not_not.mp q
    exact (HN q').pull fun t k => Jvm.Free.XS.icmpNo X.here hx rfl (hb hby hd) rfl (flt q').1 k
theorem g_if_lt (X : Stand p l e R s m args below meth c T locs cells slots) (hx : p.tables.exec = Jvm.exec) {o : Int} {pn : Nat} (hby : c.code = bytes) {x : Int32} (hd : decode bytes pc = .ok (.ifCond .lt o, 3)) (ho : 0 ≤ (pc : Int) + o) (hp : ((pc : Int) + o).toNat = pc') (hn : pc + 3 = pn)
    (HY : x < 0 → GoE p e below Fi (T.setTop (mkF m pc' Ls rest))) (HN : ¬ (x < 0) → GoE p e below Fi (T.setTop (mkF m pn Ls rest))) : GoE p e below Fi (T.setTop (mkF m pc Ls (.int x :: rest))) := by
  subst hn
  by_cases q : x < 0
  · exact (HY q).pull fun t k => Jvm.Free.XS.ifYes X.here hx rfl rfl (hb hby hd) rfl ((if0 _ _).trans (tlt q).1) ho hp k
  · have q' : ¬ (x < 0) := by first | exact q | exact Decidable.not_not.mp q
    exact (HN q').pull fun t k => Jvm.Free.XS.ifNo X.here hx rfl (hb hby hd) rfl ((if0 _ _).trans (flt q').1) k
theorem g_ifL_lt (X : Stand p l e R s m args below meth c T locs cells slots) (hx : p.tables.exec = Jvm.exec) {o : Int} {pn : Nat} (hby : c.code = bytes) {u v : Int64} (hd : decode bytes pc = .ok (.ifCond .lt o, 3)) (ho : 0 ≤ (pc : Int) + o) (hp : ((pc : Int) + o).toNat = pc') (hn : pc + 3 = pn)
    (HY : u < v → GoE p e below Fi (T.setTop (mkF m pc' Ls rest))) (HN : ¬ (u < v) → GoE p e below Fi (T.setTop (mkF m pn Ls rest))) : GoE p e below Fi (T.setTop (mkF m pc Ls (.int (cmpL u v) :: rest))) :=
  g_if_lt X hx hby hd ho hp hn (fun h => HY ((cl_lt u v).mp h)) (fun h => HN (fun z => h ((cl_lt u v).mpr z)))
theorem g_icmp_ge (X : Stand p l e R s m args below meth c T locs cells slots) (hx : p.tables.exec = Jvm.exec) {o : Int} {pn : Nat} (hby : c.code = bytes) {x y : Int32} (hd : decode bytes pc = .ok (.if_icmp .ge o, 3)) (ho : 0 ≤ (pc : Int) + o) (hp : ((pc : Int) + o).toNat = pc') (hn : pc + 3 = pn)
    (HY : ¬ (x < y) → GoE p e below Fi (T.setTop (mkF m pc' Ls rest))) (HN : x < y → GoE p e below Fi (T.setTop (mkF m pn Ls rest))) : GoE p e below Fi (T.setTop (mkF m pc Ls (.int y :: .int x :: rest))) := by
  subst hn
  by_cases q : ¬ (x < y)
  · exact (HY q).pull fun t k => Jvm.Free.XS.icmpYes X.here hx rfl rfl (hb hby hd) rfl (flt q).2.1 ho hp k
  · have q' : x < y := by first | exact q | exact Decidable.not_not.mp q
    exact (HN q').pull fun t k => Jvm.Free.XS.icmpNo X.here hx rfl (hb hby hd) rfl (tlt q').2.1 k
theorem g_if_ge (X : Stand p l e R s m args below meth c T locs cells slots) (hx : p.tables.exec = Jvm.exec) {o : Int} {pn : Nat} (hby : c.code = bytes) {x : Int32} (hd : decode bytes pc = .ok (.ifCond .ge o, 3)) (ho : 0 ≤ (pc : Int) + o) (hp : ((pc : Int) + o).toNat = pc') (hn : pc + 3 = pn)
    (HY : ¬ (x < 0) → GoE p e below Fi (T.setTop (mkF m pc' Ls rest))) (HN : x < 0 → GoE p e below Fi (T.setTop (mkF m pn Ls rest))) : GoE p e below Fi (T.setTop (mkF m pc Ls (.int x :: rest))) := by
  subst hn
  by_cases q : ¬ (x < 0)
  · exact (HY q).pull fun t k => Jvm.Free.XS.ifYes X.here hx rfl rfl (hb hby hd) rfl ((if0 _ _).trans (flt q).2.1) ho hp k
  · have q' : x < 0 := by first | exact q | exact Decidable.not_not.mp q
    exact (HN q').pull fun t k => Jvm.Free.XS.ifNo X.here hx rfl (hb hby hd) rfl ((if0 _ _).trans (tlt q').2.1) k
theorem g_ifL_ge (X : Stand p l e R s m args below meth c T locs cells slots) (hx : p.tables.exec = Jvm.exec) {o : Int} {pn : Nat} (hby : c.code = bytes) {u v : Int64} (hd : decode bytes pc = .ok (.ifCond .ge o, 3)) (ho : 0 ≤ (pc : Int) + o) (hp : ((pc : Int) + o).toNat = pc') (hn : pc + 3 = pn)
    (HY : ¬ (u < v) → GoE p e below Fi (T.setTop (mkF m pc' Ls rest))) (HN : u < v → GoE p e below Fi (T.setTop (mkF m pn Ls rest))) : GoE p e below Fi (T.setTop (mkF m pc Ls (.int (cmpL u v) :: rest))) :=
  g_if_ge X hx hby hd ho hp hn (fun h => HY (fun z => h ((cl_lt u v).mpr z))) (fun h => HN ((cl_lt u v).mp h))
theorem g_icmp_gt (X : Stand p l e R s m args below meth c T locs cells slots) (hx : p.tables.exec = Jvm.exec) {o : Int} {pn : Nat} (hby : c.code = bytes) {x y : Int32} (hd : decode bytes pc = .ok (.if_icmp .gt o, 3)) (ho : 0 ≤ (pc : Int) + o) (hp : ((pc : Int) + o).toNat = pc') (hn : pc + 3 = pn)
    (HY : y < x → GoE p e below Fi (T.setTop (mkF m pc' Ls rest))) (HN : ¬ (y < x) → GoE p e below Fi (T.setTop (mkF m pn Ls rest))) : GoE p e below Fi (T.setTop (mkF m pc Ls (.int y :: .int x :: rest))) := by
  subst hn
  by_cases q : y < x
  · exact (HY q).pull fun t k => Jvm.Free.XS.icmpYes X.here hx rfl rfl (hb hby hd) rfl (tlt q).2.2.1 ho hp k
  · have q' : ¬ (y < x) := by first | exact q | exact Decidable.not_not.mp q
    exact (HN q').pull fun t k => Jvm.Free.XS.icmpNo X.here hx rfl (hb hby hd) rfl (flt q').2.2.1 k
theorem g_if_gt (X : Stand p l e R s m args below meth c T locs cells slots) (hx : p.tables.exec = Jvm.exec) {o : Int} {pn : Nat} (hby : c.code = bytes) {x : Int32} (hd : decode bytes pc = .ok (.ifCond .gt o, 3)) (ho : 0 ≤ (pc : Int) + o) (hp : ((pc : Int) + o).toNat = pc') (hn : pc + 3 = pn)
    (HY : 0 < x → GoE p e below Fi (T.setTop (mkF m pc' Ls rest))) (HN : ¬ (0 < x) → GoE p e below Fi (T.setTop (mkF m pn Ls rest))) : GoE p e below Fi (T.setTop (mkF m pc Ls (.int x :: rest))) := by
  subst hn
  by_cases q : 0 < x
  · exact (HY q).pull fun t k => Jvm.Free.XS.ifYes X.here hx rfl rfl (hb hby hd) rfl ((if0 _ _).trans (tlt q).2.2.1) ho hp k
  · have q' : ¬ (0 < x) := by first | exact q | exact Decidable.not_not.mp q
    exact (HN q').pull fun t k => Jvm.Free.XS.ifNo X.here hx rfl (hb hby hd) rfl ((if0 _ _).trans (flt q').2.2.1) k
theorem g_ifL_gt (X : Stand p l e R s m args below meth c T locs cells slots) (hx : p.tables.exec = Jvm.exec) {o : Int} {pn : Nat} (hby : c.code = bytes) {u v : Int64} (hd : decode bytes pc = .ok (.ifCond .gt o, 3)) (ho : 0 ≤ (pc : Int) + o) (hp : ((pc : Int) + o).toNat = pc') (hn : pc + 3 = pn)
    (HY : v < u → GoE p e below Fi (T.setTop (mkF m pc' Ls rest))) (HN : ¬ (v < u) → GoE p e below Fi (T.setTop (mkF m pn Ls rest))) : GoE p e below Fi (T.setTop (mkF m pc Ls (.int (cmpL u v) :: rest))) :=
  g_if_gt X hx hby hd ho hp hn (fun h => HY ((cl_gt u v).mp h)) (fun h => HN (fun z => h ((cl_gt u v).mpr z)))
theorem g_icmp_le (X : Stand p l e R s m args below meth c T locs cells slots) (hx : p.tables.exec = Jvm.exec) {o : Int} {pn : Nat} (hby : c.code = bytes) {x y : Int32} (hd : decode bytes pc = .ok (.if_icmp .le o, 3)) (ho : 0 ≤ (pc : Int) + o) (hp : ((pc : Int) + o).toNat = pc') (hn : pc + 3 = pn)
    (HY : ¬ (y < x) → GoE p e below Fi (T.setTop (mkF m pc' Ls rest))) (HN : y < x → GoE p e below Fi (T.setTop (mkF m pn Ls rest))) : GoE p e below Fi (T.setTop (mkF m pc Ls (.int y :: .int x :: rest))) := by
  subst hn
  by_cases q : ¬ (y < x)
  · exact (HY q).pull fun t k => Jvm.Free.XS.icmpYes X.here hx rfl rfl (hb hby hd) rfl (flt q).2.2.2 ho hp k
  · have q' : y < x := by first | exact q | exact Decidable.not_not.mp q
    exact (HN q').pull fun t k => Jvm.Free.XS.icmpNo X.here hx rfl (hb hby hd) rfl (tlt q').2.2.2 k
theorem g_if_le (X : Stand p l e R s m args below meth c T locs cells slots) (hx : p.tables.exec = Jvm.exec) {o : Int} {pn : Nat} (hby : c.code = bytes) {x : Int32} (hd : decode bytes pc = .ok (.ifCond .le o, 3)) (ho : 0 ≤ (pc : Int) + o) (hp : ((pc : Int) + o).toNat = pc') (hn : pc + 3 = pn)
    (HY : ¬ (0 < x) → GoE p e below Fi (T.setTop (mkF m pc' Ls rest))) (HN : 0 < x → GoE p e below Fi (T.setTop (mkF m pn Ls rest))) : GoE p e below Fi (T.setTop (mkF m pc Ls (.int x :: rest))) := by
  subst hn
  by_cases q : ¬ (0 < x)
  · exact (HY q).pull fun t k => Jvm.Free.XS.ifYes X.here hx rfl rfl (hb hby hd) rfl ((if0 _ _).trans (flt q).2.2.2) ho hp k
  · have q' : 0 < x := by first | exact q | exact Decidable.not_not.mp q
    exact (HN q').pull fun t k => Jvm.Free.XS.ifNo X.here hx rfl (hb hby hd) rfl ((if0 _ _).trans (tlt q').2.2.2) k
theorem g_ifL_le (X : Stand p l e R s m args below meth c T locs cells slots) (hx : p.tables.exec = Jvm.exec) {o : Int} {pn : Nat} (hby : c.code = bytes) {u v : Int64} (hd : decode bytes pc = .ok (.ifCond .le o, 3)) (ho : 0 ≤ (pc : Int) + o) (hp : ((pc : Int) + o).toNat = pc') (hn : pc + 3 = pn)
    (HY : ¬ (v < u) → GoE p e below Fi (T.setTop (mkF m pc' Ls rest))) (HN : v < u → GoE p e below Fi (T.setTop (mkF m pn Ls rest))) : GoE p e below Fi (T.setTop (mkF m pc Ls (.int (cmpL u v) :: rest))) :=
  g_if_le X hx hby hd ho hp hn (fun h => HY (fun z => h ((cl_gt u v).mpr z))) (fun h => HN ((cl_gt u v).mp h))
theorem g_ifnull_no (X : Stand p l e R s m args below meth c T locs cells slots) (hx : p.tables.exec = Jvm.exec) {o : Int} {pn : Nat} (hby : c.code = bytes) {b : Addr} (hd : decode bytes pc = .ok (.ifnull o, 3)) (hn : pc + 3 = pn)
    (H : GoE p e below Fi (T.setTop (mkF m pn Ls rest))) : GoE p e below Fi (T.setTop (mkF m pc Ls (.ref b :: rest))) := by
  subst hn; exact H.pull fun t k => Jvm.Free.XS.ifnullNo X.here hx rfl (hb hby hd) rfl k
theorem g_ifnull_yes (X : Stand p l e R s m args below meth c T locs cells slots) (hx : p.tables.exec = Jvm.exec) {o : Int} (hby : c.code = bytes) (hd : decode bytes pc = .ok (.ifnull o, 3)) (ho : 0 ≤ (pc : Int) + o) (hp : ((pc : Int) + o).toNat = pc')
    (H : GoE p e below Fi (T.setTop (mkF m pc' Ls rest))) : GoE p e below Fi (T.setTop (mkF m pc Ls (.null :: rest))) :=
  H.pull fun t k => Jvm.Free.XS.ifnullYes X.here hx rfl rfl (hb hby hd) rfl ho hp k
theorem g_ifnonnull_yes (X : Stand p l e R s m args below meth c T locs cells slots) (hx : p.tables.exec = Jvm.exec) {o : Int} (hby : c.code = bytes) {b : Addr} (hd : decode bytes pc = .ok (.ifnonnull o, 3)) (ho : 0 ≤ (pc : Int) + o) (hp : ((pc : Int) + o).toNat = pc')
    (H : GoE p e below Fi (T.setTop (mkF m pc' Ls rest))) : GoE p e below Fi (T.setTop (mkF m pc Ls (.ref b :: rest))) :=
  H.pull fun t k => Jvm.Free.XT.ifnonnullYes X.here hx rfl rfl (hb hby hd) rfl ho hp k
theorem g_ifnonnull_no (X : Stand p l e R s m args below meth c T locs cells slots) (hx : p.tables.exec = Jvm.exec) {o : Int} {pn : Nat} (hby : c.code = bytes) (hd : decode bytes pc = .ok (.ifnonnull o, 3)) (hn : pc + 3 = pn)
    (H : GoE p e below Fi (T.setTop (mkF m pn Ls rest))) : GoE p e below Fi (T.setTop (mkF m pc Ls (.null :: rest))) := by
  subst hn; exact H.pull fun t k => Jvm.Free.XT.ifnonnullNo X.here hx rfl (hb hby hd) rfl k
theorem g_acmp_yes (X : Stand p l e R s m args below meth c T locs cells slots) (hx : p.tables.exec = Jvm.exec) {o : Int} (hby : c.code = bytes) {cd : ClassFile.ACond} {x y : Value} (hd : decode bytes pc = .ok (.if_acmp cd o, 3)) (ho : 0 ≤ (pc : Int) + o) (hp : ((pc : Int) + o).toNat = pc') (h1 : x.isRef = true) (h2 : y.isRef = true) (hc : Jvm.Free.XT.acmp cd x y = true)
    (H : GoE p e below Fi (T.setTop (mkF m pc' Ls rest))) : GoE p e below Fi (T.setTop (mkF m pc Ls (y :: x :: rest))) :=
  H.pull fun t k => Jvm.Free.XT.acmpYes X.here hx rfl rfl (hb hby hd) rfl h1 h2 hc ho hp k
theorem g_acmp_no (X : Stand p l e R s m args below meth c T locs cells slots) (hx : p.tables.exec = Jvm.exec) {o : Int} {pn : Nat} (hby : c.code = bytes) {cd : ClassFile.ACond} {x y : Value} (hd : decode bytes pc = .ok (.if_acmp cd o, 3)) (hn : pc + 3 = pn) (h1 : x.isRef = true) (h2 : y.isRef = true) (hc : Jvm.Free.XT.acmp cd x y = false)
    (H : GoE p e below Fi (T.setTop (mkF m pn Ls rest))) : GoE p e below Fi (T.setTop (mkF m pc Ls (y :: x :: rest))) := by
  subst hn; exact H.pull fun t k => Jvm.Free.XT.acmpNo X.here hx rfl (hb hby hd) rfl h1 h2 hc k
theorem g_retI (X : Stand p l e R s m args below meth c T locs cells slots) (hx : p.tables.exec = Jvm.exec) {z : Int32} (hby : c.code = bytes) (hd : decode bytes pc = .ok (.ireturn, 1)) (hret : meth.sig.returnType = some .int) (hlk : meth.locks = false) (hc : cells ≤ rc) (hs : slots ≤ rs) (hQ : Q (some (.int z)) T.heap locs) : Go p e below s rc rs Q (T.setTop (mkF m pc Ls (.int z :: rest))) := by
  obtain ⟨fs, hr, hrun, hended, hW, hsame⟩ := X.leave (v := some (.int z)) (fun h => by first | rfl | (rw [hret] at h; cases h)) hlk
  exact ⟨_, _, retI X hx hret (hb hby hd) hr, hrun, hended, _, _, rfl, hQ, ⟨_, rfl⟩, hW, hsame.mono hc hs⟩
theorem g_retN (X : Stand p l e R s m args below meth c T locs cells slots) (hx : p.tables.exec = Jvm.exec) {z w : Int32} {t : FieldType} (hby : c.code = bytes) (hd : decode bytes pc = .ok (.ireturn, 1)) (hret : meth.sig.returnType = some t) (ht : t = .boolean ∨ t = .byte ∨ t = .char ∨ t = .short) (hnar : nar t z = w) (hlk : meth.locks = false) (hc : cells ≤ rc) (hs : slots ≤ rs) (hQ : Q (some (.int w)) T.heap locs) : Go p e below s rc rs Q (T.setTop (mkF m pc Ls (.int z :: rest))) := by
  subst hnar
  obtain ⟨fs, hr, hrun, hended, hW, hsame⟩ := X.leave (v := some (.int (nar t z))) (fun h => by rw [hret] at h; cases h) hlk
  exact ⟨_, _, retN X hx hret ht (hb hby hd) hr, hrun, hended, _, _, rfl, hQ, ⟨_, rfl⟩, hW, hsame.mono hc hs⟩
theorem g_retL (X : Stand p l e R s m args below meth c T locs cells slots) (hx : p.tables.exec = Jvm.exec) {z : Int64} (hby : c.code = bytes) (hd : decode bytes pc = .ok (.lreturn, 1)) (hret : meth.sig.returnType = some .long) (hlk : meth.locks = false) (hc : cells ≤ rc) (hs : slots ≤ rs) (hQ : Q (some (.long z)) T.heap locs) : Go p e below s rc rs Q (T.setTop (mkF m pc Ls [.long z])) := by
  obtain ⟨fs, hr, hrun, hended, hW, hsame⟩ := X.leave (v := some (.long z)) (fun h => by first | rfl | (rw [hret] at h; cases h)) hlk
  exact ⟨_, _, X.lreturnOut hx hret (hb hby hd) hr, hrun, hended, _, _, rfl, hQ, ⟨_, rfl⟩, hW, hsame.mono hc hs⟩
theorem g_retA (X : Stand p l e R s m args below meth c T locs cells slots) (hx : p.tables.exec = Jvm.exec) {z : Value} {t : FieldType} (hby : c.code = bytes) (hd : decode bytes pc = .ok (.areturn, 1)) (hz : z.isRef = true) (hret : meth.sig.returnType = some t) (ht : t.isReference = true) (hlk : meth.locks = false) (hc : cells ≤ rc) (hs : slots ≤ rs) (hQ : Q (some z) T.heap locs) : Go p e below s rc rs Q (T.setTop (mkF m pc Ls [z])) := by
  obtain ⟨fs, hr, hrun, hended, hW, hsame⟩ := X.leave (v := some z) (fun h => by first | rfl | (rw [hret] at h; cases h)) hlk
  exact ⟨_, _, X.areturnOut hx hz hret ht (hb hby hd) hr, hrun, hended, _, _, rfl, hQ, ⟨_, rfl⟩, hW, hsame.mono hc hs⟩
theorem g_retV (X : Stand p l e R s m args below meth c T locs cells slots) (hx : p.tables.exec = Jvm.exec)  (hby : c.code = bytes) (hd : decode bytes pc = .ok (.return_, 1)) (hret : meth.sig.returnType = none) (hlk : meth.locks = false) (hc : cells ≤ rc) (hs : slots ≤ rs) (hQ : Q (none) T.heap locs) : Go p e below s rc rs Q (T.setTop (mkF m pc Ls [])) := by
  obtain ⟨fs, hr, hrun, hended, hW, hsame⟩ := X.leave (v := none) (fun h => by first | rfl | (rw [hret] at h; cases h)) hlk
  exact ⟨_, _, X.returnOut hx hret (hb hby hd) hr, hrun, hended, _, _, rfl, hQ, ⟨_, rfl⟩, hW, hsame.mono hc hs⟩
theorem g_callS (X : Stand p l e R s m args below meth c T locs cells slots) (hx : p.tables.exec = Jvm.exec) {Z : State} {a0 : Array Value} (hZ : Z.Warmed39 s.vm) {own : String} (hown : s.vm.findClass own = some m.cls) {y : MethodName} {cb : ByteArray} {maxL : Nat} {ret : Option FieldType} {rm : Room} {as' : Array Value} {h : Heap} {Q' : Option Value → Heap → List Loc → Prop} {W : Nat} {index : Nat} {argsL : List Value} (hby : c.code = bytes) (hd : decode bytes pc = .ok (.invokestatic index, 3)) (hp : pc + 3 = pc') (hml : Ls.size = c.maxLocals)
    (w1 : (Jvm.Cond.methodLink own index y).before a0 Z = true) (w2 : (Jvm.Cond.static y).before a0 Z = true) (w3 : (Jvm.Cond.initialized y.cls).before a0 Z = true) (w4 : (Jvm.Cond.code y cb maxL ret).before a0 Z = true) (hy : y.cls ≠ "java/lang/invoke/MethodHandle" ∧ y.cls ≠ "java/lang/invoke/VarHandle")
    (C : Ctr l Z y cb maxL ret [] rm as' h Q') (eT : T.heap = h) (hfr : rm.frames + 1 ≤ R.frames) (hlo : W + (maxL + 11) + rm.locals ≤ R.locals) (hce : cells + rm.cells ≤ R.cells) (hsl : slots + rm.slots ≤ R.slots) {stk : List Value} {psig : MethodDescriptor} (has : argsL.toArray = as') (hpd : parseMethodDescriptor y.desc = some psig) (hlen : argsL.length = psig.parameters.length) (hst : stk = argsL.reverse ++ rest) (hW : 2 * 0 + (rest.map fun v => v.category).sum ≤ W)
    (K : ∀ (v : Option Value) (T' : State) (L : List Loc), Stand p l e R s m args below meth c T' (locs ++ L) (cells + rm.cells) (slots + rm.slots) → Q' v T'.heap L → GoE p e below Fi (T'.setTop (mkF m pc' Ls (v.toList ++ rest)))) : GoE p e below Fi (T.setTop (mkF m pc Ls stk)) := by
  subst hp hst has
  obtain ⟨v, _, ⟨T4, L4, k4, n4⟩, -, X4, ⟨Lc, hQ, l4, y4, z4⟩, st⟩ := Jvm.LawKit.callS X hx (y := y) hown (mvT hZ w1) (mvT hZ w2) (mvT hZ w3) (mvT hZ w4) hy (backOf (W := W) C hZ w4 w3 hfr hlo) (g := mkF m pc Ls (argsL.reverse ++ rest)) rfl hml (argsL := argsL) (rest := rest) (fun sig h => by rw [hpd] at h; cases h; exact hlen) rfl hW (hb hby hd) (fun _ _ => ⟨rfl, eT, hce, hsl⟩)
  dsimp only [Pt.U, Pt.locs, Pt.cells, Pt.slots] at X4 l4 y4 z4 st hQ
  subst l4 y4 z4
  exact (K v T4 Lc X4 hQ).pull st
theorem g_callI (X : Stand p l e R s m args below meth c T locs cells slots) (hx : p.tables.exec = Jvm.exec) {Z : State} {a0 : Array Value} (hZ : Z.Warmed39 s.vm) {own : String} (hown : s.vm.findClass own = some m.cls) {y : MethodName} {cb : ByteArray} {maxL : Nat} {rm : Room} {as' : Array Value} {h : Heap} {Q' : Option Value → Heap → List Loc → Prop} {W : Nat} {index : Nat} {argsL : List Value} {b : Addr} (hby : c.code = bytes) (hd : decode bytes pc = .ok (.invokespecial index, 3)) (hp : pc + 3 = pc') (hml : Ls.size = c.maxLocals)
    (w1 : (Jvm.Cond.methodLink own index y).before a0 Z = true) (w2 : (Jvm.Cond.instanceMethod y).before a0 Z = true) (w3 : (Jvm.Cond.initialized y.cls).before a0 Z = true) (w4 : (Jvm.Cond.code y cb maxL none).before a0 Z = true) (hin : y.name = "<init>") (hy : y.cls ≠ "java/lang/invoke/MethodHandle" ∧ y.cls ≠ "java/lang/invoke/VarHandle")
    (C : Ctr l Z y cb maxL none [] rm as' h Q') (eT : T.heap = h) (hfr : rm.frames + 1 ≤ R.frames) (hlo : W + (maxL + 11) + rm.locals ≤ R.locals) (hce : cells + rm.cells ≤ R.cells) (hsl : slots + rm.slots ≤ R.slots) {stk : List Value} {psig : MethodDescriptor} (has : (Value.ref b :: argsL).toArray = as') (hpd : parseMethodDescriptor y.desc = some psig) (hlen : argsL.length = psig.parameters.length) (hst : stk = argsL.reverse ++ Value.ref b :: rest) (hW : 2 * 0 + (rest.map fun v => v.category).sum ≤ W)
    (K : ∀ (v : Option Value) (T' : State) (L : List Loc), Stand p l e R s m args below meth c T' (locs ++ L) (cells + rm.cells) (slots + rm.slots) → Q' v T'.heap L → GoE p e below Fi (T'.setTop (mkF m pc' Ls (v.toList ++ rest)))) : GoE p e below Fi (T.setTop (mkF m pc Ls stk)) := by
  subst hp hst has
  obtain ⟨v, _, ⟨T4, L4, k4, n4⟩, -, X4, ⟨Lc, hQ, l4, y4, z4⟩, st⟩ := X.specialBack hx (y := y) hin hown (mvT hZ w1) (mvT hZ w2) (mvT hZ w4) hy (backOf (W := W) C hZ w4 w3 hfr hlo) (g := mkF m pc Ls (argsL.reverse ++ Value.ref b :: rest)) rfl hml (Steps.refl _) (a := b) (argsL := argsL) (rest := rest) (fun sig h => by rw [hpd] at h; cases h; exact hlen) rfl hW (hb hby hd) (fun _ _ => ⟨rfl, eT, hce, hsl⟩)
  dsimp only [Pt.U, Pt.locs, Pt.cells, Pt.slots] at X4 l4 y4 z4 st hQ
  subst l4 y4 z4
  exact (K v T4 Lc X4 hQ).pull fun t k => st.trans k
theorem g_callV (X : Stand p l e R s m args below meth c T locs cells slots) (hx : p.tables.exec = Jvm.exec) {Z : State} {a0 : Array Value} (hZ : Z.Warmed39 s.vm) {own : String} (hown : s.vm.findClass own = some m.cls) {y : MethodName} {cb : ByteArray} {maxL : Nat} {ret : Option FieldType} {rm : Room} {as' : Array Value} {h : Heap} {Q' : Option Value → Heap → List Loc → Prop} {W : Nat} {index : Nat} {argsL : List Value} {b : Addr} {z : MethodName} {C0 : String} (hby : c.code = bytes) (hd : decode bytes pc = .ok (.invokevirtual index, 3)) (hp : pc + 3 = pc') (hml : Ls.size = c.maxLocals)
    (w1 : (Jvm.Cond.methodLink own index y).before a0 Z = true) (w2 : (Jvm.Cond.declares y).before a0 Z = true) (w5 : (Jvm.Cond.selects C0 y z).before a0 Z = true) (nf : NotFace s y) (w6 : (Jvm.Cond.instanceMethod z).before a0 Z = true) (w3 : (Jvm.Cond.initialized z.cls).before a0 Z = true) (w4 : (Jvm.Cond.code z cb maxL ret).before a0 Z = true) (hy : y.cls ≠ "java/lang/invoke/MethodHandle" ∧ y.cls ≠ "java/lang/invoke/VarHandle")
    (C : Ctr l Z z cb maxL ret [] rm as' h Q') (eT : T.heap = h) (E : Exa Z h b C0) (hfr : rm.frames + 1 ≤ R.frames) (hlo : W + (maxL + 11) + rm.locals ≤ R.locals) (hce : cells + rm.cells ≤ R.cells) (hsl : slots + rm.slots ≤ R.slots) {stk : List Value} {psig : MethodDescriptor} (has : (Value.ref b :: argsL).toArray = as') (hpd : parseMethodDescriptor y.desc = some psig) (hlen : argsL.length = psig.parameters.length) (hst : stk = argsL.reverse ++ Value.ref b :: rest) (hW : 2 * 0 + (rest.map fun v => v.category).sum ≤ W)
    (K : ∀ (v : Option Value) (T' : State) (L : List Loc), Stand p l e R s m args below meth c T' (locs ++ L) (cells + rm.cells) (slots + rm.slots) → Q' v T'.heap L → GoE p e below Fi (T'.setTop (mkF m pc' Ls (v.toList ++ rest)))) : GoE p e below Fi (T.setTop (mkF m pc Ls stk)) := by
  subst hp hst has
  obtain ⟨cq, kq, qa, qb, qc⟩ := isOf hZ eT E
  obtain ⟨v, _, ⟨T4, L4, k4, n4⟩, -, X4, ⟨Lc, hQ, l4, y4, z4⟩, st⟩ := X.virtualBack hx (y := y) (z := z) hown (mvT hZ w1) (mvT hZ w2) nf (mvT hZ w5) (mvT hZ w6) hy (backOf (W := W) C hZ w4 w3 hfr hlo) qa qc (g := mkF m pc Ls (argsL.reverse ++ Value.ref b :: rest)) rfl hml (Steps.refl _) (argsL := argsL) (rest := rest) (fun sig h => by rw [hpd] at h; cases h; exact hlen) rfl hW (hb hby hd) (fun _ _ => ⟨rfl, eT, hce, hsl⟩)
  dsimp only [Pt.U, Pt.locs, Pt.cells, Pt.slots] at X4 l4 y4 z4 st hQ
  subst l4 y4 z4
  exact (K v T4 Lc X4 hQ).pull fun t k => st.trans k
theorem g_new (X : Stand p l e R s m args below meth c T locs cells slots) (hx : p.tables.exec = Jvm.exec) {Z : State} {a0 : Array Value} (hZ : Z.Warmed39 s.vm) {own : String} (hown : s.vm.findClass own = some m.cls) {C : String} {index n : Nat} {h : Heap} (hby : c.code = bytes) (hd : decode bytes pc = .ok (.new index, 3)) (hp : pc + 3 = pc') (w1 : (Jvm.Cond.classLink own index C).before a0 Z = true) (w2 : (Jvm.Cond.instantiable C n).before a0 Z = true) (w3 : (Jvm.Cond.initialized C).before a0 Z = true) (eT : T.heap = h) (hce : cells + 1 ≤ R.cells) (hsl : slots + n ≤ R.slots)
    (K : ∀ (T' : State) (b : Addr), b = h.size → Stand p l e R s m args below meth c T' locs (cells + 1) (slots + n) → Ext h T'.heap → Exa Z T'.heap b C → (∀ {O nm d : String} {ty : FieldType}, Laid Z a0 C O nm d → parseFieldDescriptor d = some ty → Fld Z T'.heap b O nm d (defaultValue ty)) → GoE p e below Fi (T'.setTop (mkF m pc' Ls (.ref b :: rest)))) : GoE p e below Fi (T.setTop (mkF m pc Ls rest)) := by
  subst hp
  obtain ⟨T2, h2, X2, e2, E2, A2, D2, -, st2⟩ := newO X hx hZ hown w1 w2 w3 eT (g := mkF m pc Ls rest) rfl (hb hby hd) hce hsl
  subst e2
  exact (K T2 _ rfl X2 E2 A2 D2).pull st2
theorem g_initO (X : Stand p l e R s m args below meth c T locs cells slots) (hx : p.tables.exec = Jvm.exec) {Z : State} {a0 : Array Value} (hZ : Z.Warmed39 s.vm) {own : String} (hown : s.vm.findClass own = some m.cls) {index : Nat} {h : Heap} {cb : ByteArray} {b : Addr} {W maxL : Nat} (hby : c.code = bytes) (hd : decode bytes pc = .ok (.invokespecial index, 3)) (hp : pc + 3 = pc') (hml : Ls.size = c.maxLocals)
    (F : ∃ T', Stand p l e R s m args below meth c T' locs cells slots ∧ T'.heap = h ∧ ∀ target, Steps p.tables e below (T'.setTop (mkF m (pc + 3) Ls rest)) target → Steps p.tables e below (T.setTop (mkF m pc Ls (.ref b :: rest))) target)
    (K : ∀ T' : State, Stand p l e R s m args below meth c T' locs cells slots → T'.heap = h → GoE p e below Fi (T'.setTop (mkF m pc' Ls rest))) : GoE p e below Fi (T.setTop (mkF m pc Ls (.ref b :: rest))) := by
  subst hp
  obtain ⟨T2, X2, e2, st2⟩ := F
  exact (K T2 X2 e2).pull st2
theorem g_get (X : Stand p l e R s m args below meth c T locs cells slots) (hx : p.tables.exec = Jvm.exec) {Z : State} {a0 : Array Value} (hZ : Z.Warmed39 s.vm) {own : String} (hown : s.vm.findClass own = some m.cls) {O n d : String} {index : Nat} {h : Heap} {a : Addr} {v : Value} (hby : c.code = bytes) (hd : decode bytes pc = .ok (.getfield index, 3)) (hp : pc + 3 = pc') (w : (Jvm.Cond.fieldLink own index O n d).before a0 Z = true) (eT : T.heap = h) (F : Fld Z h a O n d v)
    (K : ∀ T' : State, Stand p l e R s m args below meth c T' locs cells slots → T'.heap = h → GoE p e below Fi (T'.setTop (mkF m pc' Ls (v :: rest)))) : GoE p e below Fi (T.setTop (mkF m pc Ls (.ref a :: rest))) := by
  subst hp
  obtain ⟨T2, X2, e2, st2⟩ := getF X hx hZ hown (host := "") (Or.inl w) Via.refl eT F (g := mkF m pc Ls (.ref a :: rest)) rfl rfl (hb hby hd)
  exact (K T2 X2 e2).pull st2
theorem g_put (X : Stand p l e R s m args below meth c T locs cells slots) (hx : p.tables.exec = Jvm.exec) {Z : State} {a0 : Array Value} (hZ : Z.Warmed39 s.vm) {own : String} (hown : s.vm.findClass own = some m.cls) {O n d C : String} {index kk : Nat} {ty : FieldType} {h : Heap} {a : Addr} {v old : Value} (hby : c.code = bytes) (hd : decode bytes pc = .ok (.putfield index, 3)) (hp : pc + 3 = pc') (w : (Jvm.Cond.fieldLink own index O n d).before a0 Z = true) (eT : T.heap = h) (F : Fld Z h a O n d old) (E : Exa Z h a C) (Lf : (Jvm.Cond.lays C O n d).before a0 Z = true ∨ ((Jvm.Cond.laysFinal C O n d).before a0 Z = true ∧ own = O ∧ meth.name = "<init>")) (wi : (Jvm.Cond.instantiable C kk).before a0 Z = true) (hty : parseFieldDescriptor d = some ty) (hn : narrow ty v = v) (hf : fits ty v = true)
    (K : ∀ T' : State, Stand p l e R s m args below meth c T' (locs ++ [⟨a, RoadKit.slotOf Z O n d⟩]) cells slots → Wr h T'.heap a (RoadKit.slotOf Z O n d) v → GoE p e below Fi (T'.setTop (mkF m pc' Ls rest))) : GoE p e below Fi (T.setTop (mkF m pc Ls (v :: .ref a :: rest))) := by
  subst hp
  obtain ⟨T2, h2, X2, e2, W2, st2⟩ := putF X hx hZ hown (host := "") (Or.inl w) Via.refl eT F E Lf wi hty hn hf (g := mkF m pc Ls (v :: .ref a :: rest)) rfl rfl (hb hby hd)
  subst e2
  exact (K T2 X2 W2).pull st2
theorem g_getS (X : Stand p l e R s m args below meth c T locs cells slots) (hx : p.tables.exec = Jvm.exec) {Z : State} {a0 : Array Value} (hZ : Z.Warmed39 s.vm) {own : String} (hown : s.vm.findClass own = some m.cls) {O n d : String} {index : Nat} {h : Heap} {v : Value} (hby : c.code = bytes) (hd : decode bytes pc = .ok (.getstatic index, 3)) (hp : pc + 3 = pc') (w : (Jvm.Cond.fieldLink own index O n d).before a0 Z = true) (eT : T.heap = h) (F : Sta Z h O n d v)
    (K : ∀ T' : State, Stand p l e R s m args below meth c T' locs cells slots → T'.heap = h → GoE p e below Fi (T'.setTop (mkF m pc' Ls (v :: rest)))) : GoE p e below Fi (T.setTop (mkF m pc Ls rest)) := by
  subst hp
  obtain ⟨T2, X2, e2, st2⟩ := getS X hx hZ hown (host := "") w Via.refl eT F (g := mkF m pc Ls rest) rfl (hb hby hd)
  exact (K T2 X2 e2).pull st2
theorem g_iaload (X : Stand p l e R s m args below meth c T locs cells slots) (hx : p.tables.exec = Jvm.exec) {Z : State} (hZ : Z.Warmed39 s.vm) {h : Heap} {a : Addr} {k : ClassId} {n : Int32} {vs : List Value} {dv : Value} {j : Int32} {v : Value} (hby : c.code = bytes) (hd : decode bytes pc = .ok (.iaload, 1)) (hp : pc + 1 = pc') (eT : T.heap = h) (F : Arv Z h a k .int n vs dv) (hj : ¬ j < 0 ∧ j < n) (u : vs.getD j.toNatClampNeg dv = v)
    (H : GoE p e below Fi (T.setTop (mkF m pc' Ls (v :: rest)))) : GoE p e below Fi (T.setTop (mkF m pc Ls (.int j :: .ref a :: rest))) := by
  subst hp
  obtain ⟨cl, A, q1, S, q3, Hh, G⟩ := F
  exact H.pull fun t k => X.iaload hx (by rw [eT]; exact A.1) (State.isArrayOf_alike hZ.alike A.2.1) A.2.2 (inb_of S hj) (Hh.at (inb_of S hj) u) (g := mkF m pc Ls (.int j :: .ref a :: rest)) rfl rfl (hb hby hd) _ k
theorem g_laload (X : Stand p l e R s m args below meth c T locs cells slots) (hx : p.tables.exec = Jvm.exec) {Z : State} (hZ : Z.Warmed39 s.vm) {h : Heap} {a : Addr} {k : ClassId} {n : Int32} {vs : List Value} {dv : Value} {j : Int32} {v : Value} (hby : c.code = bytes) (hd : decode bytes pc = .ok (.laload, 1)) (hp : pc + 1 = pc') (eT : T.heap = h) (F : Arv Z h a k .long n vs dv) (hj : ¬ j < 0 ∧ j < n) (u : vs.getD j.toNatClampNeg dv = v)
    (H : GoE p e below Fi (T.setTop (mkF m pc' Ls (v :: rest)))) : GoE p e below Fi (T.setTop (mkF m pc Ls (.int j :: .ref a :: rest))) := by
  subst hp
  obtain ⟨cl, A, q1, S, q3, Hh, G⟩ := F
  exact H.pull fun t k => X.laload hx (by rw [eT]; exact A.1) (State.isArrayOf_alike hZ.alike A.2.1) A.2.2 (inb_of S hj) (Hh.at (inb_of S hj) u) (g := mkF m pc Ls (.int j :: .ref a :: rest)) rfl rfl (hb hby hd) _ k
theorem g_caload (X : Stand p l e R s m args below meth c T locs cells slots) (hx : p.tables.exec = Jvm.exec) {Z : State} (hZ : Z.Warmed39 s.vm) {h : Heap} {a : Addr} {k : ClassId} {n : Int32} {vs : List Value} {dv : Value} {j : Int32} {v : Value} (hby : c.code = bytes) (hd : decode bytes pc = .ok (.caload, 1)) (hp : pc + 1 = pc') (eT : T.heap = h) (F : Arv Z h a k .char n vs dv) (hj : ¬ j < 0 ∧ j < n) (u : vs.getD j.toNatClampNeg dv = v)
    (H : GoE p e below Fi (T.setTop (mkF m pc' Ls (v :: rest)))) : GoE p e below Fi (T.setTop (mkF m pc Ls (.int j :: .ref a :: rest))) := by
  subst hp
  obtain ⟨cl, A, q1, S, q3, Hh, G⟩ := F
  exact H.pull fun t k => X.caload hx (by rw [eT]; exact A.1) (State.isArrayOf_alike hZ.alike A.2.1) A.2.2 (inb_of S hj) (Hh.at (inb_of S hj) u) (g := mkF m pc Ls (.int j :: .ref a :: rest)) rfl rfl (hb hby hd) _ k
theorem g_baload (X : Stand p l e R s m args below meth c T locs cells slots) (hx : p.tables.exec = Jvm.exec) {Z : State} (hZ : Z.Warmed39 s.vm) {h : Heap} {a : Addr} {k : ClassId} {n : Int32} {vs : List Value} {dv : Value} {j : Int32} {v : Value} (hby : c.code = bytes) (hd : decode bytes pc = .ok (.baload, 1)) (hp : pc + 1 = pc') (eT : T.heap = h) (F : Arv Z h a k .byte n vs dv) (hj : ¬ j < 0 ∧ j < n) (u : vs.getD j.toNatClampNeg dv = v)
    (H : GoE p e below Fi (T.setTop (mkF m pc' Ls (v :: rest)))) : GoE p e below Fi (T.setTop (mkF m pc Ls (.int j :: .ref a :: rest))) := by
  subst hp
  obtain ⟨cl, A, q1, S, q3, Hh, G⟩ := F
  exact H.pull fun t k => X.baloadBytes hx (by rw [eT]; exact A.1) (State.isArrayOf_alike hZ.alike A.2.1) A.2.2 (inb_of S hj) (Hh.at (inb_of S hj) u) (g := mkF m pc Ls (.int j :: .ref a :: rest)) rfl rfl (hb hby hd) _ k
theorem g_daload (X : Stand p l e R s m args below meth c T locs cells slots) (hx : p.tables.exec = Jvm.exec) {Z : State} (hZ : Z.Warmed39 s.vm) {h : Heap} {a : Addr} {k : ClassId} {n : Int32} {vs : List Value} {dv : Value} {j : Int32} {v : Value} (hby : c.code = bytes) (hd : decode bytes pc = .ok (.daload, 1)) (hp : pc + 1 = pc') (eT : T.heap = h) (F : Arv Z h a k .double n vs dv) (hj : ¬ j < 0 ∧ j < n) (u : vs.getD j.toNatClampNeg dv = v)
    (H : GoE p e below Fi (T.setTop (mkF m pc' Ls (v :: rest)))) : GoE p e below Fi (T.setTop (mkF m pc Ls (.int j :: .ref a :: rest))) := by
  subst hp
  obtain ⟨cl, A, q1, S, q3, Hh, G⟩ := F
  exact H.pull fun t k => X.daload hx (by rw [eT]; exact A.1) (State.isArrayOf_alike hZ.alike A.2.1) A.2.2 (inb_of S hj) (Hh.at (inb_of S hj) u) (g := mkF m pc Ls (.int j :: .ref a :: rest)) rfl rfl (hb hby hd) _ k
theorem g_aaload (X : Stand p l e R s m args below meth c T locs cells slots) (hx : p.tables.exec = Jvm.exec) {Z : State} (hZ : Z.Warmed39 s.vm) {h : Heap} {a : Addr} {k : ClassId} {n : Int32} {vs : List Value} {dv : Value} {ty : FieldType} {j : Int32} {v : Value} (hby : c.code = bytes) (hd : decode bytes pc = .ok (.aaload, 1)) (hp : pc + 1 = pc') (eT : T.heap = h) (F : Arv Z h a k ty n vs dv) (hty : ty.isReference = true) (hj : ¬ j < 0 ∧ j < n) (u : vs.getD j.toNatClampNeg dv = v)
    (H : GoE p e below Fi (T.setTop (mkF m pc' Ls (v :: rest)))) : GoE p e below Fi (T.setTop (mkF m pc Ls (.int j :: .ref a :: rest))) := by
  subst hp
  obtain ⟨cl, A, q1, S, q3, Hh, G⟩ := F
  exact H.pull fun t k => X.aaload hx (by rw [eT]; exact A.1) (State.isArrayOf_alike hZ.alike A.2.1) hty A.2.2 (inb_of S hj) (Hh.at (inb_of S hj) u) (g := mkF m pc Ls (.int j :: .ref a :: rest)) rfl rfl (hb hby hd) _ k
theorem g_alen (X : Stand p l e R s m args below meth c T locs cells slots) (hx : p.tables.exec = Jvm.exec) {Z : State} (hZ : Z.Warmed39 s.vm) {h : Heap} {a : Addr} {k : ClassId} {n : Int32} {vs : List Value} {dv : Value} {ty : FieldType} (hby : c.code = bytes) (hd : decode bytes pc = .ok (.arraylength, 1)) (hp : pc + 1 = pc') (eT : T.heap = h) (F : Arv Z h a k ty n vs dv)
    (H : GoE p e below Fi (T.setTop (mkF m pc' Ls (.int n :: rest)))) : GoE p e below Fi (T.setTop (mkF m pc Ls (.ref a :: rest))) := by
  subst hp
  obtain ⟨cl, A, q1, S, q3, Hh, G⟩ := F
  exact H.pull fun t k => X.arraylength hx (by rw [eT]; exact A.1) (State.isArrayOf_alike hZ.alike A.2.1) (g := mkF m pc Ls (.ref a :: rest)) rfl rfl (hb hby hd) _ (by rw [len_of S q3]; exact k)
theorem g_iastore (X : Stand p l e R s m args below meth c T locs cells slots) (hx : p.tables.exec = Jvm.exec) {Z : State} (hZ : Z.Warmed39 s.vm) {h : Heap} {a : Addr} {k : ClassId} {n : Int32} {vs : List Value} {dv : Value} {j : Int32} {x : Int32} (i : Nat) (hby : c.code = bytes) (hd : decode bytes pc = .ok (.iastore, 1)) (hp : pc + 1 = pc') (eT : T.heap = h) (F : Arv Z h a k .int n vs dv) (hj : ¬ j < 0 ∧ j < n) (hji : j.toNatClampNeg = i) (hi : i < vs.length)
    (K : ∀ T' : State, Stand p l e R s m args below meth c T' (locs ++ [⟨a, j.toNatClampNeg⟩]) cells slots → Wr h T'.heap a j.toNatClampNeg (.int x) → Arv Z T'.heap a k .int n (vs.set i (.int x)) dv → GoE p e below Fi (T'.setTop (mkF m pc' Ls rest))) : GoE p e below Fi (T.setTop (mkF m pc Ls (.int x :: .int j :: .ref a :: rest))) := by
  subst hp
  obtain ⟨cl, A, q1, S, q3, Hh, G⟩ := F
  obtain ⟨T2, h2, X2, e2, W2, st2⟩ := stI X hx hZ eT A (inb_of S hj) (g := mkF m pc Ls (.int x :: .int j :: .ref a :: rest)) rfl rfl (hb hby hd)
  subst e2
  exact (K T2 X2 W2 (Arv.set A q1 S q3 Hh G rfl W2 i hji hi)).pull st2
theorem g_lastore (X : Stand p l e R s m args below meth c T locs cells slots) (hx : p.tables.exec = Jvm.exec) {Z : State} (hZ : Z.Warmed39 s.vm) {h : Heap} {a : Addr} {k : ClassId} {n : Int32} {vs : List Value} {dv : Value} {j : Int32} {x : Int64} (i : Nat) (hby : c.code = bytes) (hd : decode bytes pc = .ok (.lastore, 1)) (hp : pc + 1 = pc') (eT : T.heap = h) (F : Arv Z h a k .long n vs dv) (hj : ¬ j < 0 ∧ j < n) (hji : j.toNatClampNeg = i) (hi : i < vs.length)
    (K : ∀ T' : State, Stand p l e R s m args below meth c T' (locs ++ [⟨a, j.toNatClampNeg⟩]) cells slots → Wr h T'.heap a j.toNatClampNeg (.long x) → Arv Z T'.heap a k .long n (vs.set i (.long x)) dv → GoE p e below Fi (T'.setTop (mkF m pc' Ls rest))) : GoE p e below Fi (T.setTop (mkF m pc Ls (.long x :: .int j :: .ref a :: rest))) := by
  subst hp
  obtain ⟨cl, A, q1, S, q3, Hh, G⟩ := F
  obtain ⟨T2, h2, X2, e2, W2, st2⟩ := stJ X hx hZ eT A (inb_of S hj) (g := mkF m pc Ls (.long x :: .int j :: .ref a :: rest)) rfl rfl (hb hby hd)
  subst e2
  exact (K T2 X2 W2 (Arv.set A q1 S q3 Hh G rfl W2 i hji hi)).pull st2
theorem g_castore (X : Stand p l e R s m args below meth c T locs cells slots) (hx : p.tables.exec = Jvm.exec) {Z : State} (hZ : Z.Warmed39 s.vm) {h : Heap} {a : Addr} {k : ClassId} {n : Int32} {vs : List Value} {dv : Value} {j : Int32} {x : Int32} (i : Nat) (hby : c.code = bytes) (hd : decode bytes pc = .ok (.castore, 1)) (hp : pc + 1 = pc') (eT : T.heap = h) (F : Arv Z h a k .char n vs dv) (hj : ¬ j < 0 ∧ j < n) (hji : j.toNatClampNeg = i) (hi : i < vs.length)
    (K : ∀ T' : State, Stand p l e R s m args below meth c T' (locs ++ [⟨a, j.toNatClampNeg⟩]) cells slots → Wr h T'.heap a j.toNatClampNeg (.int (nar .char x)) → Arv Z T'.heap a k .char n (vs.set i (.int (nar .char x))) dv → GoE p e below Fi (T'.setTop (mkF m pc' Ls rest))) : GoE p e below Fi (T.setTop (mkF m pc Ls (.int x :: .int j :: .ref a :: rest))) := by
  subst hp
  obtain ⟨cl, A, q1, S, q3, Hh, G⟩ := F
  obtain ⟨T2, h2, X2, e2, W2, st2⟩ := stC X hx hZ eT A (inb_of S hj) (g := mkF m pc Ls (.int x :: .int j :: .ref a :: rest)) rfl rfl (hb hby hd)
  subst e2
  exact (K T2 X2 W2 (Arv.set A q1 S q3 Hh G (fits_nar_char x) W2 i hji hi)).pull st2
theorem g_bastore (X : Stand p l e R s m args below meth c T locs cells slots) (hx : p.tables.exec = Jvm.exec) {Z : State} (hZ : Z.Warmed39 s.vm) {h : Heap} {a : Addr} {k : ClassId} {n : Int32} {vs : List Value} {dv : Value} {j : Int32} {x : Int32} (i : Nat) (hby : c.code = bytes) (hd : decode bytes pc = .ok (.bastore, 1)) (hp : pc + 1 = pc') (eT : T.heap = h) (F : Arv Z h a k .byte n vs dv) (hj : ¬ j < 0 ∧ j < n) (hji : j.toNatClampNeg = i) (hi : i < vs.length)
    (K : ∀ T' : State, Stand p l e R s m args below meth c T' (locs ++ [⟨a, j.toNatClampNeg⟩]) cells slots → Wr h T'.heap a j.toNatClampNeg (.int (nar .byte x)) → Arv Z T'.heap a k .byte n (vs.set i (.int (nar .byte x))) dv → GoE p e below Fi (T'.setTop (mkF m pc' Ls rest))) : GoE p e below Fi (T.setTop (mkF m pc Ls (.int x :: .int j :: .ref a :: rest))) := by
  subst hp
  obtain ⟨cl, A, q1, S, q3, Hh, G⟩ := F
  obtain ⟨T2, h2, X2, e2, W2, st2⟩ := stB X hx hZ eT A (inb_of S hj) (g := mkF m pc Ls (.int x :: .int j :: .ref a :: rest)) rfl rfl (hb hby hd)
  subst e2
  exact (K T2 X2 W2 (Arv.set A q1 S q3 Hh G (fits_nar_byte x) W2 i hji hi)).pull st2
theorem g_dastore (X : Stand p l e R s m args below meth c T locs cells slots) (hx : p.tables.exec = Jvm.exec) {Z : State} (hZ : Z.Warmed39 s.vm) {h : Heap} {a : Addr} {k : ClassId} {n : Int32} {vs : List Value} {dv : Value} {j : Int32} {x : UInt64} (i : Nat) (hby : c.code = bytes) (hd : decode bytes pc = .ok (.dastore, 1)) (hp : pc + 1 = pc') (eT : T.heap = h) (F : Arv Z h a k .double n vs dv) (hj : ¬ j < 0 ∧ j < n) (hji : j.toNatClampNeg = i) (hi : i < vs.length)
    (K : ∀ T' : State, Stand p l e R s m args below meth c T' (locs ++ [⟨a, j.toNatClampNeg⟩]) cells slots → Wr h T'.heap a j.toNatClampNeg (.double x) → Arv Z T'.heap a k .double n (vs.set i (.double x)) dv → GoE p e below Fi (T'.setTop (mkF m pc' Ls rest))) : GoE p e below Fi (T.setTop (mkF m pc Ls (.double x :: .int j :: .ref a :: rest))) := by
  subst hp
  obtain ⟨cl, A, q1, S, q3, Hh, G⟩ := F
  obtain ⟨T2, h2, X2, e2, W2, st2⟩ := stD X hx hZ eT A (inb_of S hj) (g := mkF m pc Ls (.double x :: .int j :: .ref a :: rest)) rfl rfl (hb hby hd)
  subst e2
  exact (K T2 X2 W2 (Arv.set A q1 S q3 Hh G rfl W2 i hji hi)).pull st2
theorem g_newarray (X : Stand p l e R s m args below meth c T locs cells slots) (hx : p.tables.exec = Jvm.exec) {Z : State} {a0 : Array Value} (hZ : Z.Warmed39 s.vm) {aty : ArrayType} {h : Heap} {n : Int32} (cap : Nat) (ad : String) (hby : c.code = bytes) (hd : decode bytes pc = .ok (.newarray aty, 2)) (hp : pc + 2 = pc') (w : (Jvm.Cond.arrayClass (newarray.typeOf aty)).before a0 Z = true) (eT : T.heap = h) (hn : ¬ n < 0) (hcap : n.toNatClampNeg ≤ cap) (hbg : cap * 8 ≤ 536870912) (hce : cells + 1 ≤ R.cells) (hsl : slots + cap ≤ R.slots) (had : "[" ++ (newarray.typeOf aty).toString = ad)
    (K : ∀ (T' : State) (b : Addr) (cA : ClassId), b = h.size → Stand p l e R s m args below meth c T' locs (cells + 1) (slots + cap) → Ext h T'.heap → Arv Z T'.heap b cA (newarray.typeOf aty) n (List.replicate cap (defaultValue (newarray.typeOf aty))) (defaultValue (newarray.typeOf aty)) → Exa Z T'.heap b ad → GoE p e below Fi (T'.setTop (mkF m pc' Ls (.ref b :: rest)))) : GoE p e below Fi (T.setTop (mkF m pc Ls (.int n :: rest))) := by
  subst hp
  obtain ⟨T2, h2, cA, X2, e2, E2, A2, Ex2, st2⟩ := newPE X hx hZ w eT (g := mkF m pc Ls (.int n :: rest)) rfl (hb hby hd) rfl hn hcap hbg hce hsl had
  subst e2
  exact (K T2 _ cA rfl X2 E2 ((Arv.new A2 hn).pad (pad_rep [] _ cap)) Ex2).pull st2
theorem g_lswHit (X : Stand p l e R s m args below meth c T locs cells slots) (hx : p.tables.exec = Jvm.exec) {k : Int32} {dflt : Int} {pairs : Array (Int × Int)} {len : Nat} {a off : Int} (hby : c.code = bytes) (hd : decode bytes pc = .ok (.lookupswitch dflt pairs, len)) (hs : (pairs.toList.zip (pairs.toList.drop 1)).all (fun (a, next) => a.1 < next.1) = true) (hf : pairs.find? (·.1 == k.toInt) = some (a, off)) (ho : 0 ≤ (pc : Int) + off) (hp : ((pc : Int) + off).toNat = pc')
    (H : GoE p e below Fi (T.setTop (mkF m pc' Ls rest))) : GoE p e below Fi (T.setTop (mkF m pc Ls (.int k :: rest))) := by
  subst hp
  exact H.pull fun t q => X.lookupswitchHit hx (g := mkF m pc Ls (.int k :: rest)) rfl rfl (hb hby hd) hs hf ho _ q
theorem g_lswMiss (X : Stand p l e R s m args below meth c T locs cells slots) (hx : p.tables.exec = Jvm.exec) {k : Int32} {dflt : Int} {pairs : Array (Int × Int)} {len : Nat} (hby : c.code = bytes) (hd : decode bytes pc = .ok (.lookupswitch dflt pairs, len)) (hs : (pairs.toList.zip (pairs.toList.drop 1)).all (fun (a, next) => a.1 < next.1) = true) (hf : pairs.find? (·.1 == k.toInt) = none) (ho : 0 ≤ (pc : Int) + dflt) (hp : ((pc : Int) + dflt).toNat = pc')
    (H : GoE p e below Fi (T.setTop (mkF m pc' Ls rest))) : GoE p e below Fi (T.setTop (mkF m pc Ls (.int k :: rest))) := by
  subst hp
  exact H.pull fun t q => X.lookupswitchMiss hx (g := mkF m pc Ls (.int k :: rest)) rfl rfl (hb hby hd) hs hf ho _ q
theorem g_castY (X : Stand p l e R s m args below meth c T locs cells slots) (hx : p.tables.exec = Jvm.exec) {Z : State} {a0 : Array Value} (hZ : Z.Warmed39 s.vm) {own : String} (hown : s.vm.findClass own = some m.cls) {C : String} {index : Nat} {h : Heap} {a : Addr} (hby : c.code = bytes) (hd : decode bytes pc = .ok (.checkcast index, 3)) (hp : pc + 3 = pc') (w : (Jvm.Cond.classLink own index C).before a0 Z = true) (eT : T.heap = h) (F : Ins Z h a C true)
    (K : ∀ T' : State, Stand p l e R s m args below meth c T' locs cells slots → T'.heap = h → GoE p e below Fi (T'.setTop (mkF m pc' Ls (.ref a :: rest)))) : GoE p e below Fi (T.setTop (mkF m pc Ls (.ref a :: rest))) := by
  subst hp
  obtain ⟨T2, X2, e2, st2⟩ := castY X hx hZ hown w eT F (g := mkF m pc Ls (.ref a :: rest)) rfl rfl (hb hby hd)
  exact (K T2 X2 e2).pull st2
theorem g_instY (X : Stand p l e R s m args below meth c T locs cells slots) (hx : p.tables.exec = Jvm.exec) {Z : State} {a0 : Array Value} (hZ : Z.Warmed39 s.vm) {own : String} (hown : s.vm.findClass own = some m.cls) {C : String} {index : Nat} {h : Heap} {a : Addr} (hby : c.code = bytes) (hd : decode bytes pc = .ok (.instanceof index, 3)) (hp : pc + 3 = pc') (w : (Jvm.Cond.classLink own index C).before a0 Z = true) (eT : T.heap = h) (F : Ins Z h a C true)
    (K : ∀ T' : State, Stand p l e R s m args below meth c T' locs cells slots → T'.heap = h → GoE p e below Fi (T'.setTop (mkF m pc' Ls (.int 1 :: rest)))) : GoE p e below Fi (T.setTop (mkF m pc Ls (.ref a :: rest))) := by
  subst hp
  obtain ⟨T2, X2, e2, st2⟩ := instY X hx hZ hown w eT F (g := mkF m pc Ls (.ref a :: rest)) rfl rfl (hb hby hd)
  exact (K T2 X2 e2).pull st2
theorem g_instNo (X : Stand p l e R s m args below meth c T locs cells slots) (hx : p.tables.exec = Jvm.exec) {Z : State} {a0 : Array Value} (hZ : Z.Warmed39 s.vm) {own : String} (hown : s.vm.findClass own = some m.cls) {C D : String} {index : Nat} {h : Heap} {a : Addr} (hby : c.code = bytes) (hd : decode bytes pc = .ok (.instanceof index, 3)) (hp : pc + 3 = pc') (w : (Jvm.Cond.classLink own index C).before a0 Z = true) (eT : T.heap = h) (E : Exa Z h a D) (F : ∃ c t, Z.vm.findClass D = some c ∧ Z.vm.findClass C = some t ∧ Z.vm.assignable c t = false)
    (K : ∀ T' : State, Stand p l e R s m args below meth c T' locs cells slots → T'.heap = h → GoE p e below Fi (T'.setTop (mkF m pc' Ls (.int 0 :: rest)))) : GoE p e below Fi (T.setTop (mkF m pc Ls (.ref a :: rest))) := by
  subst hp
  obtain ⟨T2, X2, e2, st2⟩ := instNo X hx hZ hown w eT E F (g := mkF m pc Ls (.ref a :: rest)) rfl rfl (hb hby hd)
  exact (K T2 X2 e2).pull st2
theorem g_callIf (X : Stand p l e R s m args below meth c T locs cells slots) (hx : p.tables.exec = Jvm.exec) {Z : State} {a0 : Array Value} (hZ : Z.Warmed39 s.vm) {own : String} (hown : s.vm.findClass own = some m.cls) {y : MethodName} {cb : ByteArray} {maxL : Nat} {ret : Option FieldType} {rm : Room} {as' : Array Value} {h : Heap} {Q' : Option Value → Heap → List Loc → Prop} {W : Nat} {index : Nat} {argsL : List Value} {b : Addr} {z : MethodName} {C0 : String} {count : Nat} (hby : c.code = bytes) (hd : decode bytes pc = .ok (.invokeinterface index count, 5)) (hp : pc + 5 = pc') (hml : Ls.size = c.maxLocals)
    (w1 : (Jvm.Cond.methodLink own index y).before a0 Z = true) (w2 : (Jvm.Cond.declares y).before a0 Z = true) (w7 : (Jvm.Cond.interfaceMethod y.cls y.cls y.name y.desc).before a0 Z = true) (hd7 : ((Jvm.Cond.interfaceMethod y.cls y.cls y.name y.desc).onTables && (Jvm.Cond.interfaceMethod y.cls y.cls y.name y.desc).keepsFace) = true) (w5 : (Jvm.Cond.selects C0 y z).before a0 Z = true) (w6 : (Jvm.Cond.instanceMethod z).before a0 Z = true) (w8 : (Jvm.Cond.publicMethod z).before a0 Z = true) (w9 : (Jvm.Cond.unhidden C0 y.name y.desc).before a0 Z = true) (w10 : (Jvm.Cond.castable C0 y.cls).before a0 Z = true) (w3 : (Jvm.Cond.initialized z.cls).before a0 Z = true) (w4 : (Jvm.Cond.code z cb maxL ret).before a0 Z = true) (hy : y.cls ≠ "java/lang/invoke/MethodHandle" ∧ y.cls ≠ "java/lang/invoke/VarHandle")
    (C : Ctr l Z z cb maxL ret [] rm as' h Q') (eT : T.heap = h) (E : Exa Z h b C0) (hfr : rm.frames + 1 ≤ R.frames) (hlo : W + (maxL + 11) + rm.locals ≤ R.locals) (hce : cells + rm.cells ≤ R.cells) (hsl : slots + rm.slots ≤ R.slots) {stk : List Value} {psig : MethodDescriptor} (has : (Value.ref b :: argsL).toArray = as') (hpd : parseMethodDescriptor y.desc = some psig) (hlen : argsL.length = psig.parameters.length) (hst : stk = argsL.reverse ++ Value.ref b :: rest) (hW : 2 * 0 + (rest.map fun v => v.category).sum ≤ W)
    (K : ∀ (v : Option Value) (T' : State) (L : List Loc), Stand p l e R s m args below meth c T' (locs ++ L) (cells + rm.cells) (slots + rm.slots) → Q' v T'.heap L → GoE p e below Fi (T'.setTop (mkF m pc' Ls (v.toList ++ rest)))) : GoE p e below Fi (T.setTop (mkF m pc Ls stk)) := by
  subst hp hst has
  obtain ⟨cq, kq, qa, qb, qc⟩ := isOf hZ eT E
  obtain ⟨v, _, ⟨T4, L4, k4, n4⟩, -, X4, ⟨Lc, hQ, l4, y4, z4⟩, st⟩ := X.interfaceBack hx (xi := y) (y := z) hown (mvT hZ w1) (mvT hZ w2) (mvT hZ w7 hd7) (mvT hZ w5) (mvT hZ w6) (mvT hZ w8) (mvT hZ w9) (mvT hZ w10) hy (backOf (W := W) C hZ w4 w3 hfr hlo) qa qb qc (g := mkF m pc Ls (argsL.reverse ++ Value.ref b :: rest)) rfl hml (Steps.refl _) (argsL := argsL) (rest := rest) (fun sig h => by rw [hpd] at h; cases h; exact hlen) rfl hW (hb hby hd) (fun _ _ => ⟨rfl, eT, hce, hsl⟩)
  dsimp only [Pt.U, Pt.locs, Pt.cells, Pt.slots] at X4 l4 y4 z4 st hQ
  subst l4 y4 z4
  exact (K v T4 Lc X4 hQ).pull fun t k => st.trans k
theorem g_anewarrayA (X : Stand p l e R s m args below meth c T locs cells slots) (hx : p.tables.exec = Jvm.exec) {Z : State} {a0 : Array Value} (hZ : Z.Warmed39 s.vm) {own : String} (hown : s.vm.findClass own = some m.cls) {C : String} {ty : FieldType} {index : Nat} {h : Heap} {n : Int32} (cap : Nat) (ad : String) (hby : c.code = bytes) (hd : decode bytes pc = .ok (.anewarray index, 3)) (hp : pc + 3 = pc') (hC : (FieldType.array ty).toString = C) (w1 : (Jvm.Cond.classLink own index C).before a0 Z = true) (w2 : (Jvm.Cond.arrayOver (.array ty)).before a0 Z = true) (eT : T.heap = h) (hn : ¬ n < 0) (hcap : n.toNatClampNeg ≤ cap) (hbg : cap * 8 ≤ 536870912) (hce : cells + 1 ≤ R.cells) (hsl : slots + cap ≤ R.slots) (had : "[" ++ C = ad)
    (K : ∀ (T' : State) (b : Addr) (cA : ClassId), b = h.size → Stand p l e R s m args below meth c T' locs (cells + 1) (slots + cap) → Ext h T'.heap → Arv Z T'.heap b cA (.array ty) n (List.replicate cap .null) .null → Exa Z T'.heap b ad → OvrA Z cA ty C → GoE p e below Fi (T'.setTop (mkF m pc' Ls (.ref b :: rest)))) : GoE p e below Fi (T.setTop (mkF m pc Ls (.int n :: rest))) := by
  subst hp
  obtain ⟨T2, h2, cA, X2, e2, E2, A2, Ex2, O2, st2⟩ := newRA X hx hZ hown hC w1 w2 eT (g := mkF m pc Ls (.int n :: rest)) rfl (hb hby hd) rfl hn hcap hbg hce hsl had
  subst e2
  exact (K T2 _ cA rfl X2 E2 ((Arv.new A2 hn).pad (pad_rep [] _ cap)) Ex2 O2).pull st2
theorem g_aastore (X : Stand p l e R s m args below meth c T locs cells slots) (hx : p.tables.exec = Jvm.exec) {Z : State} (hZ : Z.Warmed39 s.vm) {h : Heap} {a : Addr} {k : ClassId} {n : Int32} {vs : List Value} {dv : Value} {ty : FieldType} {j : Int32} {v : Value} (i : Nat) (hby : c.code = bytes) (hd : decode bytes pc = .ok (.aastore, 1)) (hp : pc + 1 = pc') (eT : T.heap = h) (F : Arv Z h a k ty n vs dv) (hty : ty.isReference = true) (hS : ∀ cl : Cell, Arr Z h a cl ty → cl.cls = k → Sto Z h a v) (hfv : fits ty v = true) (hj : ¬ j < 0 ∧ j < n) (hji : j.toNatClampNeg = i) (hi : i < vs.length)
    (K : ∀ T' : State, Stand p l e R s m args below meth c T' (locs ++ [⟨a, j.toNatClampNeg⟩]) cells slots → Wr h T'.heap a j.toNatClampNeg v → Arv Z T'.heap a k ty n (vs.set i v) dv → GoE p e below Fi (T'.setTop (mkF m pc' Ls rest))) : GoE p e below Fi (T.setTop (mkF m pc Ls (v :: .int j :: .ref a :: rest))) := by
  subst hp
  obtain ⟨cl, A, q1, S, q3, Hh, G⟩ := F
  obtain ⟨T2, h2, X2, e2, W2, st2⟩ := stR X hx hZ eT A (inb_of S hj) hty (hS cl A q1) (g := mkF m pc Ls (v :: .int j :: .ref a :: rest)) rfl rfl (hb hby hd)
  subst e2
  exact (K T2 X2 W2 (Arv.set A q1 S q3 Hh G hfv W2 i hji hi)).pull st2
theorem g_eqI {a b : Int32} (h : a = b) (K : GoE p e below Fi (T.setTop (mkF m pc Ls (.int b :: rest)))) : GoE p e below Fi (T.setTop (mkF m pc Ls (.int a :: rest))) := h ▸ K
theorem g_eqL {a b : Int64} (h : a = b) (K : GoE p e below Fi (T.setTop (mkF m pc Ls (.long b :: rest)))) : GoE p e below Fi (T.setTop (mkF m pc Ls (.long a :: rest))) := h ▸ K
theorem g_newarrayV (X : Stand p l e R s m args below meth c T locs cells slots) (hx : p.tables.exec = Jvm.exec) {Z : State} {a0 : Array Value} (hZ : Z.Warmed39 s.vm) {aty : ArrayType} {h : Heap} {n : Int32} (cap vc : Nat) (ad : String) (hby : c.code = bytes) (hd : decode bytes pc = .ok (.newarray aty, 2)) (hp : pc + 2 = pc') (w : (Jvm.Cond.arrayClass (newarray.typeOf aty)).before a0 Z = true) (eT : T.heap = h) (hn : ¬ n < 0) (hcap : n.toNatClampNeg ≤ cap) (hbg : cap * 8 ≤ 536870912) (hce : cells + 1 ≤ R.cells) (hsl : slots + cap ≤ R.slots) (had : "[" ++ (newarray.typeOf aty).toString = ad)
    (K : ∀ (T' : State) (b : Addr) (cA : ClassId), b = h.size → Stand p l e R s m args below meth c T' locs (cells + 1) (slots + cap) → Ext h T'.heap → Arv Z T'.heap b cA (newarray.typeOf aty) n (List.replicate vc (defaultValue (newarray.typeOf aty))) (defaultValue (newarray.typeOf aty)) → Exa Z T'.heap b ad → GoE p e below Fi (T'.setTop (mkF m pc' Ls (.ref b :: rest)))) : GoE p e below Fi (T.setTop (mkF m pc Ls (.int n :: rest))) := by
  subst hp
  obtain ⟨T2, h2, cA, X2, e2, E2, A2, Ex2, st2⟩ := newPE X hx hZ w eT (g := mkF m pc Ls (.int n :: rest)) rfl (hb hby hd) rfl hn hcap hbg hce hsl had
  subst e2
  exact (K T2 _ cA rfl X2 E2 ((Arv.new A2 hn).pad (pad_rep [] _ vc)) Ex2).pull st2
theorem g_arraycopy (X : Stand p l e R s m args below meth c T locs cells slots) (hx : p.tables.exec = Jvm.exec) {Z : State} {a0 : Array Value} (hZ : Z.Warmed39 s.vm) {own : String} (hown : s.vm.findClass own = some m.cls) {index : Nat} {h : Heap} {a b : Addr} {k k' : ClassId} {ty : FieldType} {n z' sp dp nn : Int32} {vs vd us : List Value} {dv dd : Value} {W n0 : Nat} (hby : c.code = bytes) (hd : decode bytes pc = .ok (.invokestatic index, 3)) (hp : pc + 3 = pc') (hml : Ls.size = c.maxLocals)
    (w1 : (Jvm.Cond.methodLink own index Jvm.Stand.acN).before a0 Z = true) (w2 : (Jvm.Cond.native Jvm.Stand.acN).before a0 Z = true) (w3 : (Jvm.Cond.static Jvm.Stand.acN).before a0 Z = true) (w4 : (Jvm.Cond.initialized "java/lang/System").before a0 Z = true) (eT : T.heap = h) (A : Arv Z h a k ty n vs dv) (B : Arv Z h b k' ty z' vd dd) (hr : refKind ty = false)
    (h1 : ¬ sp < 0) (h2 : ¬ dp < 0) (h3 : ¬ nn < 0) (h4 : sp.toNatClampNeg + nn.toNatClampNeg ≤ n.toNatClampNeg) (h5 : dp.toNatClampNeg + nn.toNatClampNeg ≤ z'.toNatClampNeg) (hus : us = (List.range nn.toNatClampNeg).map fun i => vs.getD (sp.toNatClampNeg + i) dv) (hl : dp.toNatClampNeg + nn.toNatClampNeg ≤ vd.length) (N : Fr n0 locs) (ge : n0 ≤ b)
    (hf : 1 ≤ R.frames) (hW : 2 * 0 + (rest.map fun v => v.category).sum ≤ W) (hlo : W + (nativeFrameWords "java/lang/System" "arraycopy" 5 + 11) ≤ R.locals)
    (K : ∀ (T' : State) (L : List Loc), Stand p l e R s m args below meth c T' L cells slots → Fr n0 L → Keep h T'.heap [b] → Arv Z T'.heap b k' ty z' (vd.take dp.toNatClampNeg ++ us ++ vd.drop (dp.toNatClampNeg + nn.toNatClampNeg)) dd → GoE p e below Fi (T'.setTop (mkF m pc' Ls rest))) : GoE p e below Fi (T.setTop (mkF m pc Ls (.int nn :: .int dp :: .ref b :: .int sp :: .ref a :: rest))) := by
  subst hp
  obtain ⟨T2, h2', L2, X2, e2, N2, K2, A2, st2⟩ := cpA X hx hZ hown w1 w2 w3 w4 eT A B (Or.inl ⟨rfl, hr⟩) h1 h2 h3 h4 h5 hus hl N ge (g := mkF m pc Ls (.int nn :: .int dp :: .ref b :: .int sp :: .ref a :: rest)) rfl hml rfl (hb hby hd) hf hW hlo
  subst e2
  exact (K T2 L2 X2 N2 K2 A2).pull st2
end GoKit
theorem own_lenS {args : Array Value} {s : State} {t : Term} {b : Addr} {cl : Cell} {ty : FieldType} {n : Int32} (ht : t.eval args s none [] s = some (.ref b)) (A : Arr s s.heap b cl ty) (h : (Jvm.Cond.eq (.length t) (.int n)).value args s none s [] = some true) : cl.slots.size < 2 ^ 31 ∧ cl.slots.size.toInt32 = n := by
  obtain ⟨x, y, h1, h2, -, -⟩ := cmp_v (Or.inl h)
  have hA : s.arrayAt? b = some cl := A.fin (Vm.Alike.refl _)
  by_cases q : cl.slots.size < 2 ^ 31
  · exact ⟨q, gotT (Cond.eq_ints (len_f ht hA q) (Term.int_eval n)) h⟩
  · exfalso
    have h3 : (Term.length t).eval args s none [] s = none := by
      simp only [Term.eval, ht, Option.bind_eq_bind, Option.bind_some, hA]
      exact if_neg q
    rw [h3] at h1; cases h1
theorem own_elemI {args : Array Value} {s : State} {t : Term} {b : Addr} {cl : Cell} {i v : Int32} (ht : t.eval args s none [] s = some (.ref b)) (hc : s.heap[b]? = some cl) (h : (Jvm.Cond.eq (.elem t (.int i)) (.int v)).value args s none s [] = some true) : cl.slots[i.toNatClampNeg]? = some (.int v) := by
  obtain ⟨x, y, h1, h2, -, hk⟩ := cmp_v (Or.inl h)
  cases (Term.int_eval v).symm.trans h2
  obtain ⟨c2, e1, -, e3⟩ := elem_at h1 ht (Term.int_eval i)
  cases hc.symm.trans e1
  obtain ⟨x, rfl⟩ : ∃ z, x = Value.int z := hk
  rw [e3]
  have := gotT (Cond.eq_ints h1 (Term.int_eval v)) h
  rw [this]
theorem own_elemL {args : Array Value} {s : State} {t : Term} {b : Addr} {cl : Cell} {i : Int32} {v : Int64} (ht : t.eval args s none [] s = some (.ref b)) (hc : s.heap[b]? = some cl) (h : (Jvm.Cond.eq (.elem t (.int i)) (.long v)).value args s none s [] = some true) : cl.slots[i.toNatClampNeg]? = some (.long v) := by
  obtain ⟨x, y, h1, h2, -, hk⟩ := cmp_v (Or.inl h)
  have h2' : (Term.long v).eval args s none [] s = some (.long v) := by simp [Term.eval]
  cases h2'.symm.trans h2
  obtain ⟨c2, e1, -, e3⟩ := elem_at h1 ht (Term.int_eval i)
  cases hc.symm.trans e1
  obtain ⟨x, rfl⟩ : ∃ z, x = Value.long z := hk
  rw [e3]
  have := gotT (eq_L h1 h2') h
  rw [this]
theorem own_fldI {args : Array Value} {s : State} {t : Term} {b : Addr} {C n : String} {v : Int32} (ht : t.eval args s none [] s = some (.ref b)) (h : (Jvm.Cond.eq (.field t C n "I") (.int v)).value args s none s [] = some true) : Fld s s.heap b C n "I" (.int v) := by
  obtain ⟨x, y, h1, h2, -, hk⟩ := cmp_v (Or.inl h)
  cases (Term.int_eval v).symm.trans h2
  have h3 := h1
  rw [fld_at ht] at h3
  obtain ⟨x, rfl⟩ : ∃ z, x = Value.int z := hk
  have := gotT (Cond.eq_ints h1 (Term.int_eval v)) h
  rw [this] at h3
  exact Fld.start h3
theorem own_fldN {args : Array Value} {s : State} {t : Term} {b : Addr} {C n d : String} (ht : t.eval args s none [] s = some (.ref b)) (h : (Jvm.Cond.eq (.field t C n d) .null).value args s none s [] = some true) : Fld s s.heap b C n d .null := by
  have h1 := null_v h
  rw [fld_at ht] at h1
  exact Fld.start h1
theorem own_stI {args : Array Value} {s : State} {t : Term} {v : Int32} (h : (Jvm.Cond.eq t (.int v)).value args s none s [] = some true) : t.eval args s none [] s = some (.int v) := by
  obtain ⟨x, y, h1, h2, -, hk⟩ := cmp_v (Or.inl h)
  cases (Term.int_eval v).symm.trans h2
  obtain ⟨x, rfl⟩ : ∃ z, x = Value.int z := hk
  have := gotT (Cond.eq_ints h1 (Term.int_eval v)) h
  rw [this] at h1
  exact h1
theorem own_stR {args : Array Value} {s : State} {t u : Term} {a b : Addr} (h1 : t.eval args s none [] s = some (.ref a)) (h2 : u.eval args s none [] s = some (.ref b)) (h : (Jvm.Cond.eq t u).value args s none s [] = some true) : a = b := by
  have := gotT (eq_R h1 h2 rfl rfl) h
  cases this
  rfl
theorem w_0 {Z : State} {a0 : Array Value} (hw : ∀ d ∈ tables_1, d.before a0 Z = true) : (Jvm.Cond.fieldLink "com/example/novatio/novatio/conditions/PriceAlignmentFormulaCountsCurrencyDaysPinLaw" (7 : Nat) "com/example/novatio/novatio/conditions/PriceAlignmentFormula" "ACCRUED" "Lcom/example/novatio/novatio/conditions/PriceAlignmentFormula;").before a0 Z = true := hw _ (List.mem_of_getElem? (i := 0) rfl)
theorem w_1 {Z : State} {a0 : Array Value} (hw : ∀ d ∈ tables_1, d.before a0 Z = true) : (Jvm.Cond.initialized "com/example/novatio/novatio/conditions/PriceAlignmentFormula").before a0 Z = true := hw _ (List.mem_of_getElem? (i := 1) rfl)
theorem w_2 {Z : State} {a0 : Array Value} (hw : ∀ d ∈ tables_1, d.before a0 Z = true) : (Jvm.Cond.laysStatic "com/example/novatio/novatio/conditions/PriceAlignmentFormula" "ACCRUED" "Lcom/example/novatio/novatio/conditions/PriceAlignmentFormula;").before a0 Z = true := hw _ (List.mem_of_getElem? (i := 2) rfl)
theorem w_3 {Z : State} {a0 : Array Value} (hw : ∀ d ∈ tables_1, d.before a0 Z = true) : (Jvm.Cond.methodLink "com/example/novatio/novatio/conditions/PriceAlignmentFormulaCountsCurrencyDaysPinLaw" (22 : Nat) ({ cls := "com/example/novatio/novatio/conditions/PriceAlignmentFormula", name := "countsCurrencyDays", desc := "()Z" } : Jvm.MethodName)).before a0 Z = true := hw _ (List.mem_of_getElem? (i := 3) rfl)
theorem w_4 {Z : State} {a0 : Array Value} (hw : ∀ d ∈ tables_1, d.before a0 Z = true) : (Jvm.Cond.declares ({ cls := "com/example/novatio/novatio/conditions/PriceAlignmentFormula", name := "countsCurrencyDays", desc := "()Z" } : Jvm.MethodName)).before a0 Z = true := hw _ (List.mem_of_getElem? (i := 4) rfl)
theorem w_5 {Z : State} {a0 : Array Value} (hw : ∀ d ∈ tables_1, d.before a0 Z = true) : (Jvm.Cond.instanceMethod ({ cls := "com/example/novatio/novatio/conditions/PriceAlignmentFormula", name := "countsCurrencyDays", desc := "()Z" } : Jvm.MethodName)).before a0 Z = true := hw _ (List.mem_of_getElem? (i := 5) rfl)
theorem w_6 {Z : State} {a0 : Array Value} (hw : ∀ d ∈ tables_1, d.before a0 Z = true) : (Jvm.Cond.selects "com/example/novatio/novatio/conditions/PriceAlignmentFormula" ({ cls := "com/example/novatio/novatio/conditions/PriceAlignmentFormula", name := "countsCurrencyDays", desc := "()Z" } : Jvm.MethodName) ({ cls := "com/example/novatio/novatio/conditions/PriceAlignmentFormula", name := "countsCurrencyDays", desc := "()Z" } : Jvm.MethodName)).before a0 Z = true := hw _ (List.mem_of_getElem? (i := 6) rfl)
theorem w_7 {Z : State} {a0 : Array Value} (hw : ∀ d ∈ tables_1, d.before a0 Z = true) : (Jvm.Cond.code ({ cls := "com/example/novatio/novatio/conditions/PriceAlignmentFormula", name := "countsCurrencyDays", desc := "()Z" } : Jvm.MethodName) prog_64_method_5_code (1 : Nat) (Option.some Jvm.ClassFile.FieldType.boolean)).before a0 Z = true := hw _ (List.mem_of_getElem? (i := 7) rfl)
theorem w_8 {Z : State} {a0 : Array Value} (hw : ∀ d ∈ tables_1, d.before a0 Z = true) : (Jvm.Cond.fieldLink "com/example/novatio/novatio/conditions/PriceAlignmentFormula" (3 : Nat) "com/example/novatio/novatio/conditions/PriceAlignmentFormula" "ACCRUED" "Lcom/example/novatio/novatio/conditions/PriceAlignmentFormula;").before a0 Z = true := hw _ (List.mem_of_getElem? (i := 8) rfl)
theorem w_9 {Z : State} {a0 : Array Value} (hw : ∀ d ∈ tables_1, d.before a0 Z = true) : (Jvm.Cond.fieldLink "com/example/novatio/novatio/conditions/PriceAlignmentFormulaCountsCurrencyDaysPinLaw" (19 : Nat) "com/example/novatio/novatio/conditions/PriceAlignmentFormula" "OVERNIGHT_SETTLED_LATER" "Lcom/example/novatio/novatio/conditions/PriceAlignmentFormula;").before a0 Z = true := hw _ (List.mem_of_getElem? (i := 9) rfl)
theorem w_10 {Z : State} {a0 : Array Value} (hw : ∀ d ∈ tables_1, d.before a0 Z = true) : (Jvm.Cond.laysStatic "com/example/novatio/novatio/conditions/PriceAlignmentFormula" "OVERNIGHT_SETTLED_LATER" "Lcom/example/novatio/novatio/conditions/PriceAlignmentFormula;").before a0 Z = true := hw _ (List.mem_of_getElem? (i := 10) rfl)
theorem w_11 {Z : State} {a0 : Array Value} (hw : ∀ d ∈ tables_1, d.before a0 Z = true) : (Jvm.Cond.fieldLink "com/example/novatio/novatio/conditions/PriceAlignmentFormulaCountsCurrencyDaysPinLaw" (16 : Nat) "com/example/novatio/novatio/conditions/PriceAlignmentFormula" "OVERNIGHT_PUBLISHED_LATER" "Lcom/example/novatio/novatio/conditions/PriceAlignmentFormula;").before a0 Z = true := hw _ (List.mem_of_getElem? (i := 11) rfl)
theorem w_12 {Z : State} {a0 : Array Value} (hw : ∀ d ∈ tables_1, d.before a0 Z = true) : (Jvm.Cond.laysStatic "com/example/novatio/novatio/conditions/PriceAlignmentFormula" "OVERNIGHT_PUBLISHED_LATER" "Lcom/example/novatio/novatio/conditions/PriceAlignmentFormula;").before a0 Z = true := hw _ (List.mem_of_getElem? (i := 12) rfl)
theorem w_13 {Z : State} {a0 : Array Value} (hw : ∀ d ∈ tables_1, d.before a0 Z = true) : (Jvm.Cond.fieldLink "com/example/novatio/novatio/conditions/PriceAlignmentFormulaCountsCurrencyDaysPinLaw" (13 : Nat) "com/example/novatio/novatio/conditions/PriceAlignmentFormula" "OVERNIGHT" "Lcom/example/novatio/novatio/conditions/PriceAlignmentFormula;").before a0 Z = true := hw _ (List.mem_of_getElem? (i := 13) rfl)
theorem w_14 {Z : State} {a0 : Array Value} (hw : ∀ d ∈ tables_1, d.before a0 Z = true) : (Jvm.Cond.laysStatic "com/example/novatio/novatio/conditions/PriceAlignmentFormula" "OVERNIGHT" "Lcom/example/novatio/novatio/conditions/PriceAlignmentFormula;").before a0 Z = true := hw _ (List.mem_of_getElem? (i := 14) rfl)
theorem d1_0 : decode prog_64_method_5_code 0 = .ok (.aload_n 0, 1) := by decide +kernel
theorem d1_1 : decode prog_64_method_5_code 1 = .ok (.getstatic 3, 3) := by decide +kernel
theorem d1_4 : decode prog_64_method_5_code 4 = .ok (.if_acmp .eq 7, 3) := by decide +kernel
theorem d1_7 : decode prog_64_method_5_code 7 = .ok (.iconst 1, 1) := by decide +kernel
theorem d1_8 : decode prog_64_method_5_code 8 = .ok (.goto 4, 3) := by decide +kernel
theorem d1_11 : decode prog_64_method_5_code 11 = .ok (.iconst 0, 1) := by decide +kernel
theorem d1_12 : decode prog_64_method_5_code 12 = .ok (.ireturn, 1) := by decide +kernel
theorem pd__28_29Z : parseMethodDescriptor "()Z" = some ⟨[], some .boolean⟩ := by decide +kernel
theorem ef_rm1 (q1 : Addr) (m : MethodId) : entryFrame m #[.ref q1] 1 = mkF m 0 #[.val (.ref q1)] [] := by
  first | (simp [entryFrame, mkF, argsToLocals, Value.category]; done) | rfl
theorem pn_rm1 : plainName "com/example/novatio/novatio/conditions/PriceAlignmentFormula" = true := by first | (simp [plainName, overriddenIn]; done) | decide +kernel
set_option maxRecDepth 65536 in
set_option maxHeartbeats 40000000 in
theorem rm1 (l : Launch) (Z : State) (a0 : Array Value) (hw : ∀ d ∈ tables_1, d.before a0 Z = true) (ws : List Jvm.Cond) (q1 : Addr) (h0 : Heap) (n0 : Nat) (S0 : Sta Z h0 "com/example/novatio/novatio/conditions/PriceAlignmentFormula" "ACCRUED" "Lcom/example/novatio/novatio/conditions/PriceAlignmentFormula;" (.ref q1)) :
    Ctr l Z ({ cls := "com/example/novatio/novatio/conditions/PriceAlignmentFormula", name := "countsCurrencyDays", desc := "()Z" } : Jvm.MethodName) prog_64_method_5_code 1 (some .boolean) ws ({ frames := 0, cells := 0, slots := 0, locals := 0 } : Room) #[.ref q1] h0 (fun v h L => v = some (.int 0) ∧ Fr n0 L ∧ h = h0) := by
  refine Ctr.enter (Ls := #[.val (.ref q1)]) (plainFor_of_name pn_rm1) (fun m => ef_rm1 q1 m) ?_
  intro p e s m below meth c T hx hby hml hown hnm hret hlk hZ hh X0 e0
  have N0 := Fr.nil n0
  refine g_aloadN X0 hx hby d1_0 (pc' := 1) rfl rfl rfl ?_
  refine g_getS X0 hx hZ hown hby d1_1 (pc' := 4) rfl (w_8 hw) e0 S0 ?_
  intro T1 X1 e1
  refine g_acmp_yes X1 hx hby d1_4 (by decide) (pc' := 11) (by decide) rfl rfl (by simp [Jvm.Free.XT.acmp]) ?_
  refine g_iconst X1 hx hby d1_11 (pc' := 12) rfl (z := (0 : Int32)) rfl ?_
  exact g_retN (Q := (fun v h L => v = some (.int 0) ∧ Fr n0 L ∧ h = h0)) (w := (0 : Int32)) X1 hx hby d1_12 hret (by simp) (by first | decide | rfl) hlk (by decide) (by decide) ⟨rfl, N0, e1⟩
theorem ef_rm2 (q1 : Addr) (m : MethodId) : entryFrame m #[.ref q1] 1 = mkF m 0 #[.val (.ref q1)] [] := by
  first | (simp [entryFrame, mkF, argsToLocals, Value.category]; done) | rfl
theorem pn_rm2 : plainName "com/example/novatio/novatio/conditions/PriceAlignmentFormula" = true := by first | (simp [plainName, overriddenIn]; done) | decide +kernel
set_option maxRecDepth 65536 in
set_option maxHeartbeats 40000000 in
theorem rm2 (l : Launch) (Z : State) (a0 : Array Value) (hw : ∀ d ∈ tables_1, d.before a0 Z = true) (ws : List Jvm.Cond) (q1 : Addr) (h0 : Heap) (n0 : Nat) (b0 : Addr) (S0 : Sta Z h0 "com/example/novatio/novatio/conditions/PriceAlignmentFormula" "ACCRUED" "Lcom/example/novatio/novatio/conditions/PriceAlignmentFormula;" (.ref b0)) (hne : q1 ≠ b0) :
    Ctr l Z ({ cls := "com/example/novatio/novatio/conditions/PriceAlignmentFormula", name := "countsCurrencyDays", desc := "()Z" } : Jvm.MethodName) prog_64_method_5_code 1 (some .boolean) ws ({ frames := 0, cells := 0, slots := 0, locals := 0 } : Room) #[.ref q1] h0 (fun v h L => v = some (.int 1) ∧ Fr n0 L ∧ h = h0) := by
  refine Ctr.enter (Ls := #[.val (.ref q1)]) (plainFor_of_name pn_rm2) (fun m => ef_rm2 q1 m) ?_
  intro p e s m below meth c T hx hby hml hown hnm hret hlk hZ hh X0 e0
  have N0 := Fr.nil n0
  refine g_aloadN X0 hx hby d1_0 (pc' := 1) rfl rfl rfl ?_
  refine g_getS X0 hx hZ hown hby d1_1 (pc' := 4) rfl (w_8 hw) e0 S0 ?_
  intro T1 X1 e1
  refine g_acmp_no X1 hx hby d1_4 (pn := 7) rfl rfl rfl (by simp [Jvm.Free.XT.acmp, hne]) ?_
  refine g_iconst X1 hx hby d1_7 (pc' := 8) rfl (z := (1 : Int32)) rfl ?_
  refine g_goto X1 hx hby d1_8 (by decide) (pc' := 12) (by decide) ?_
  exact g_retN (Q := (fun v h L => v = some (.int 1) ∧ Fr n0 L ∧ h = h0)) (w := (1 : Int32)) X1 hx hby d1_12 hret (by simp) (by first | decide | rfl) hlk (by decide) (by decide) ⟨rfl, N0, e1⟩
theorem ef_rm0 (q1 : Int32) (m : MethodId) : entryFrame m #[.int q1] maxLocals = mkF m 0 #[.val (.int q1), .unset, .unset, .unset] [] := by
  first | (simp [entryFrame, mkF, argsToLocals, Value.category, maxLocals]; done) | rfl
theorem pn_rm0 : plainName "com/example/novatio/novatio/conditions/PriceAlignmentFormulaCountsCurrencyDaysPinLaw" = true := by first | (simp [plainName, overriddenIn]; done) | decide +kernel
set_option maxRecDepth 65536 in
set_option maxHeartbeats 40000000 in
theorem rm0 (l : Launch) (Z : State) (a0 : Array Value) (hw : ∀ d ∈ tables_1, d.before a0 Z = true) (ws : List Jvm.Cond) (q1 : Int32) (h0 : Heap) (n0 : Nat) (b0 b1 b2 b3 : Addr) (S0 : Sta Z h0 "com/example/novatio/novatio/conditions/PriceAlignmentFormula" "ACCRUED" "Lcom/example/novatio/novatio/conditions/PriceAlignmentFormula;" (.ref b0)) (E0 : Exa Z h0 b0 "com/example/novatio/novatio/conditions/PriceAlignmentFormula") (S1 : Sta Z h0 "com/example/novatio/novatio/conditions/PriceAlignmentFormula" "OVERNIGHT" "Lcom/example/novatio/novatio/conditions/PriceAlignmentFormula;" (.ref b1)) (E1 : Exa Z h0 b1 "com/example/novatio/novatio/conditions/PriceAlignmentFormula") (S2 : Sta Z h0 "com/example/novatio/novatio/conditions/PriceAlignmentFormula" "OVERNIGHT_PUBLISHED_LATER" "Lcom/example/novatio/novatio/conditions/PriceAlignmentFormula;" (.ref b2)) (E2 : Exa Z h0 b2 "com/example/novatio/novatio/conditions/PriceAlignmentFormula") (S3 : Sta Z h0 "com/example/novatio/novatio/conditions/PriceAlignmentFormula" "OVERNIGHT_SETTLED_LATER" "Lcom/example/novatio/novatio/conditions/PriceAlignmentFormula;" (.ref b3)) (E3 : Exa Z h0 b3 "com/example/novatio/novatio/conditions/PriceAlignmentFormula") (ne1 : b1 ≠ b0) (ne2 : b2 ≠ b0) (ne3 : b3 ≠ b0) :
    Ctr l Z x code maxLocals ret ws room_1 #[.int q1] h0 (fun v h L => v = some (.int 1) ∧ Fr n0 L) := by
  refine Ctr.enter (Ls := #[.val (.int q1), .unset, .unset, .unset]) (plainFor_of_name pn_rm0) (fun m => ef_rm0 q1 m) ?_
  intro p e s m below meth c T hx hby hml hown hnm hret hlk hZ hh X0 e0
  have N0 := Fr.nil n0
  refine g_iloadN X0 hx hby at_0 (pc' := 1) rfl rfl ?_
  refine g_iconst X0 hx hby at_1 (pc' := 2) rfl (z := (3 : Int32)) rfl ?_
  refine g_iand X0 hx hby at_2 (pc' := 3) rfl ?_
  refine g_istoreN X0 hx hby at_3 (pc' := 4) rfl (l' := #[.val (.int q1), .val (.int (q1 &&& (3 : Int32))), .unset, .unset]) rfl ?_
  refine g_iloadN X0 hx hby at_4 (pc' := 5) rfl rfl ?_
  refine g_if_ne X0 hx hby at_5 (by decide) (pc' := 17) (by decide) (pn := 8) rfl (fun hc5_1 => ?_) (fun hc5_1 => ?_)
  · refine g_iloadN X0 hx hby at_17 (pc' := 18) rfl rfl ?_
    refine g_iconst X0 hx hby at_18 (pc' := 19) rfl (z := (1 : Int32)) rfl ?_
    refine g_icmp_ne X0 hx hby at_19 (by decide) (pc' := 31) (by decide) (pn := 22) rfl (fun hc19_2 => ?_) (fun hc19_2 => ?_)
    · refine g_iloadN X0 hx hby at_31 (pc' := 32) rfl rfl ?_
      refine g_iconst X0 hx hby at_32 (pc' := 33) rfl (z := (2 : Int32)) rfl ?_
      refine g_icmp_ne X0 hx hby at_33 (by decide) (pc' := 45) (by decide) (pn := 36) rfl (fun hc33_3 => ?_) (fun hc33_3 => ?_)
      · refine g_getS X0 hx hZ hown hby at_45 (pc' := 48) rfl (w_9 hw) e0 S3 ?_
        intro T4 X4 e4
        refine g_astoreN X4 hx hby at_48 (pc' := 49) rfl rfl (l' := #[.val (.int q1), .val (.int (q1 &&& (3 : Int32))), .val (.ref b3), .unset]) rfl ?_
        refine g_iconst X4 hx hby at_49 (pc' := 50) rfl (z := (1 : Int32)) rfl ?_
        refine g_istoreN X4 hx hby at_50 (pc' := 51) rfl (l' := #[.val (.int q1), .val (.int (q1 &&& (3 : Int32))), .val (.ref b3), .val (.int (1 : Int32))]) rfl ?_
        refine g_aloadN X4 hx hby at_51 (pc' := 52) rfl rfl rfl ?_
        refine g_callV X4 hx hZ hown (W := 0) (argsL := []) (b := b3) (rest := []) hby at_52 (pc' := 55) rfl (by rw [hml]; rfl) (w_3 hw) (w_4 hw) (w_6 hw) (notFace_of_selects (args := #[]) (mvT hZ (w_6 hw))) (w_5 hw) (w_1 hw) (w_7 hw) (by decide) (rm2 l Z a0 hw [] b3 h0 n0 b0 S0 ne3) e4 E3 (by decide) (by decide) (by decide) (by decide) rfl pd__28_29Z rfl rfl (Nat.le_of_eq rfl) ?_
        rintro _ T5 L5 X5 ⟨rfl, N5q, e5⟩
        have N5 := Fr.app N0 N5q
        show GoE p e below _ (T5.setTop (mkF m 55 #[.val (.int q1), .val (.int (q1 &&& (3 : Int32))), .val (.ref b3), .val (.int (1 : Int32))] [.int (1 : Int32)]))
        refine g_iloadN X5 hx hby at_55 (pc' := 56) rfl rfl ?_
        refine g_icmp_ne X5 hx hby at_56 (by decide) (pc' := 63) (by decide) (pn := 59) rfl (fun z => absurd z (by decide)) (fun _ => ?_)
        refine g_iconst X5 hx hby at_59 (pc' := 60) rfl (z := (1 : Int32)) rfl ?_
        refine g_goto X5 hx hby at_60 (by decide) (pc' := 64) (by decide) ?_
        exact g_retN (Q := (fun v h L => v = some (.int 1) ∧ Fr n0 L)) (w := (1 : Int32)) X5 hx hby at_64 hret (by simp) (by first | decide | rfl) hlk (by decide) (by decide) ⟨rfl, N5⟩
      · refine g_getS X0 hx hZ hown hby at_36 (pc' := 39) rfl (w_11 hw) e0 S2 ?_
        intro T6 X6 e6
        refine g_astoreN X6 hx hby at_39 (pc' := 40) rfl rfl (l' := #[.val (.int q1), .val (.int (q1 &&& (3 : Int32))), .val (.ref b2), .unset]) rfl ?_
        refine g_iconst X6 hx hby at_40 (pc' := 41) rfl (z := (1 : Int32)) rfl ?_
        refine g_istoreN X6 hx hby at_41 (pc' := 42) rfl (l' := #[.val (.int q1), .val (.int (q1 &&& (3 : Int32))), .val (.ref b2), .val (.int (1 : Int32))]) rfl ?_
        refine g_goto X6 hx hby at_42 (by decide) (pc' := 51) (by decide) ?_
        refine g_aloadN X6 hx hby at_51 (pc' := 52) rfl rfl rfl ?_
        refine g_callV X6 hx hZ hown (W := 0) (argsL := []) (b := b2) (rest := []) hby at_52 (pc' := 55) rfl (by rw [hml]; rfl) (w_3 hw) (w_4 hw) (w_6 hw) (notFace_of_selects (args := #[]) (mvT hZ (w_6 hw))) (w_5 hw) (w_1 hw) (w_7 hw) (by decide) (rm2 l Z a0 hw [] b2 h0 n0 b0 S0 ne2) e6 E2 (by decide) (by decide) (by decide) (by decide) rfl pd__28_29Z rfl rfl (Nat.le_of_eq rfl) ?_
        rintro _ T7 L7 X7 ⟨rfl, N7q, e7⟩
        have N7 := Fr.app N0 N7q
        show GoE p e below _ (T7.setTop (mkF m 55 #[.val (.int q1), .val (.int (q1 &&& (3 : Int32))), .val (.ref b2), .val (.int (1 : Int32))] [.int (1 : Int32)]))
        refine g_iloadN X7 hx hby at_55 (pc' := 56) rfl rfl ?_
        refine g_icmp_ne X7 hx hby at_56 (by decide) (pc' := 63) (by decide) (pn := 59) rfl (fun z => absurd z (by decide)) (fun _ => ?_)
        refine g_iconst X7 hx hby at_59 (pc' := 60) rfl (z := (1 : Int32)) rfl ?_
        refine g_goto X7 hx hby at_60 (by decide) (pc' := 64) (by decide) ?_
        exact g_retN (Q := (fun v h L => v = some (.int 1) ∧ Fr n0 L)) (w := (1 : Int32)) X7 hx hby at_64 hret (by simp) (by first | decide | rfl) hlk (by decide) (by decide) ⟨rfl, N7⟩
    · refine g_getS X0 hx hZ hown hby at_22 (pc' := 25) rfl (w_13 hw) e0 S1 ?_
      intro T8 X8 e8
      refine g_astoreN X8 hx hby at_25 (pc' := 26) rfl rfl (l' := #[.val (.int q1), .val (.int (q1 &&& (3 : Int32))), .val (.ref b1), .unset]) rfl ?_
      refine g_iconst X8 hx hby at_26 (pc' := 27) rfl (z := (1 : Int32)) rfl ?_
      refine g_istoreN X8 hx hby at_27 (pc' := 28) rfl (l' := #[.val (.int q1), .val (.int (q1 &&& (3 : Int32))), .val (.ref b1), .val (.int (1 : Int32))]) rfl ?_
      refine g_goto X8 hx hby at_28 (by decide) (pc' := 51) (by decide) ?_
      refine g_aloadN X8 hx hby at_51 (pc' := 52) rfl rfl rfl ?_
      refine g_callV X8 hx hZ hown (W := 0) (argsL := []) (b := b1) (rest := []) hby at_52 (pc' := 55) rfl (by rw [hml]; rfl) (w_3 hw) (w_4 hw) (w_6 hw) (notFace_of_selects (args := #[]) (mvT hZ (w_6 hw))) (w_5 hw) (w_1 hw) (w_7 hw) (by decide) (rm2 l Z a0 hw [] b1 h0 n0 b0 S0 ne1) e8 E1 (by decide) (by decide) (by decide) (by decide) rfl pd__28_29Z rfl rfl (Nat.le_of_eq rfl) ?_
      rintro _ T9 L9 X9 ⟨rfl, N9q, e9⟩
      have N9 := Fr.app N0 N9q
      show GoE p e below _ (T9.setTop (mkF m 55 #[.val (.int q1), .val (.int (q1 &&& (3 : Int32))), .val (.ref b1), .val (.int (1 : Int32))] [.int (1 : Int32)]))
      refine g_iloadN X9 hx hby at_55 (pc' := 56) rfl rfl ?_
      refine g_icmp_ne X9 hx hby at_56 (by decide) (pc' := 63) (by decide) (pn := 59) rfl (fun z => absurd z (by decide)) (fun _ => ?_)
      refine g_iconst X9 hx hby at_59 (pc' := 60) rfl (z := (1 : Int32)) rfl ?_
      refine g_goto X9 hx hby at_60 (by decide) (pc' := 64) (by decide) ?_
      exact g_retN (Q := (fun v h L => v = some (.int 1) ∧ Fr n0 L)) (w := (1 : Int32)) X9 hx hby at_64 hret (by simp) (by first | decide | rfl) hlk (by decide) (by decide) ⟨rfl, N9⟩
  · refine g_getS X0 hx hZ hown hby at_8 (pc' := 11) rfl (w_0 hw) e0 S0 ?_
    intro T10 X10 e10
    refine g_astoreN X10 hx hby at_11 (pc' := 12) rfl rfl (l' := #[.val (.int q1), .val (.int (q1 &&& (3 : Int32))), .val (.ref b0), .unset]) rfl ?_
    refine g_iconst X10 hx hby at_12 (pc' := 13) rfl (z := (0 : Int32)) rfl ?_
    refine g_istoreN X10 hx hby at_13 (pc' := 14) rfl (l' := #[.val (.int q1), .val (.int (q1 &&& (3 : Int32))), .val (.ref b0), .val (.int (0 : Int32))]) rfl ?_
    refine g_goto X10 hx hby at_14 (by decide) (pc' := 51) (by decide) ?_
    refine g_aloadN X10 hx hby at_51 (pc' := 52) rfl rfl rfl ?_
    refine g_callV X10 hx hZ hown (W := 0) (argsL := []) (b := b0) (rest := []) hby at_52 (pc' := 55) rfl (by rw [hml]; rfl) (w_3 hw) (w_4 hw) (w_6 hw) (notFace_of_selects (args := #[]) (mvT hZ (w_6 hw))) (w_5 hw) (w_1 hw) (w_7 hw) (by decide) (rm1 l Z a0 hw [] b0 h0 n0 S0) e10 E0 (by decide) (by decide) (by decide) (by decide) rfl pd__28_29Z rfl rfl (Nat.le_of_eq rfl) ?_
    rintro _ T11 L11 X11 ⟨rfl, N11q, e11⟩
    have N11 := Fr.app N0 N11q
    show GoE p e below _ (T11.setTop (mkF m 55 #[.val (.int q1), .val (.int (q1 &&& (3 : Int32))), .val (.ref b0), .val (.int (0 : Int32))] [.int (0 : Int32)]))
    refine g_iloadN X11 hx hby at_55 (pc' := 56) rfl rfl ?_
    refine g_icmp_ne X11 hx hby at_56 (by decide) (pc' := 63) (by decide) (pn := 59) rfl (fun z => absurd z (by decide)) (fun _ => ?_)
    refine g_iconst X11 hx hby at_59 (pc' := 60) rfl (z := (1 : Int32)) rfl ?_
    refine g_goto X11 hx hby at_60 (by decide) (pc' := 64) (by decide) ?_
    exact g_retN (Q := (fun v h L => v = some (.int 1) ∧ Fr n0 L)) (w := (1 : Int32)) X11 hx hby at_64 hret (by simp) (by first | decide | rfl) hlk (by decide) (by decide) ⟨rfl, N11⟩
set_option maxRecDepth 65536 in
set_option maxHeartbeats 40000000 in
theorem comes_1 {Post : Tables → Env → Array Value → State → Outcome → State → Prop} (hpost : ∀ tb e args s v u, (limb_1_1.after args s (.returned v) u = true ∧ limb_1_2.after args s (.returned v) u = true ∧ True) → FrameEnd s (.returned v) u (Jvm.fieldLocs frame_1_writes args s ++ Jvm.arrayLocs frame_1_arrays args s ++ Jvm.staticLocs frame_1_statics s) 0 0 → Post tb e args s (.returned v) u) :
    ArmFor flags0 classFile x code maxLocals ret World_1 tables_1 room_1 Calls_1 rest_1 Pre_1 Post := by
  intro l hfl _ _ p e ha hc hk s m args below hf hA hF happ hP
  obtain ⟨hcalls, hrest, hpre⟩ := hP
  obtain ⟨-, -, -, hnamed, -, -, -, hat⟩ := (Spec.applies_iff hf).mp happ
  obtain ⟨hg, hn⟩ := and_e (Cond.before_iff.mp (show (Jvm.Cond.and given_1 narrow_1).before args s = true from hpre))
  obtain ⟨h1, g0⟩ := and_e hg
  have a0 := g0
  obtain ⟨u0, rfl⟩ : ∃ u0 : Value, args = #[u0] := by
    have hs : args.size = 1 := by simpa [Cond.value, given_1] using h1
    obtain ⟨L⟩ := args
    match L, hs with
    | [u0], _ => exact ⟨u0, rfl⟩
  have hw := fun d (hd : d ∈ tables_1) => atoms_spec (ws := Jvm.Cond.code x code maxLocals ret :: tables_1) hat d (List.mem_cons_of_mem _ hd)
  have hfit : Fit s := fun {y c} hc i hi => by
    obtain ⟨ha, rfl⟩ := Array.getElem?_eq_some_iff.mp hc
    have q := List.all_eq_true.mp ((Array.all_eq_true_iff_forall_mem.mp hF) _ (Array.getElem_mem ha)) i (List.mem_range.mpr hi)
    simpa [Array.getElem?_eq_getElem hi] using q
  obtain ⟨i0, e0⟩ := is_v a0
  obtain rfl : u0 = (.int i0) := Option.some.inj e0
  obtain ⟨m0, hn⟩ := and_e hn
  obtain ⟨m1, hn⟩ := and_e hn
  obtain ⟨m2, hn⟩ := and_e hn
  obtain ⟨m3, hn⟩ := and_e hn
  obtain ⟨m4, hn⟩ := and_e hn
  obtain ⟨m5, hn⟩ := and_e hn
  obtain ⟨m6, m7⟩ := and_e hn
  obtain ⟨b0, ev0⟩ := exa_v m0
  have S0 := Sta.start ev0 (Or.inr ⟨w_1 hw, w_2 hw⟩)
  have E0 := Exa.start ev0 m0
  have F0 := own_fldI ev0 m3
  obtain ⟨b1, ev1⟩ := exa_v m6
  have S1 := Sta.start ev1 (Or.inr ⟨w_1 hw, w_14 hw⟩)
  have E1 := Exa.start ev1 m6
  have F1 := own_fldI ev1 m7
  obtain ⟨b2, ev2⟩ := exa_v m4
  have S2 := Sta.start ev2 (Or.inr ⟨w_1 hw, w_12 hw⟩)
  have E2 := Exa.start ev2 m4
  have F2 := own_fldI ev2 m5
  obtain ⟨b3, ev3⟩ := exa_v m1
  have S3 := Sta.start ev3 (Or.inr ⟨w_1 hw, w_10 hw⟩)
  have E3 := Exa.start ev3 m1
  have F3 := own_fldI ev3 m2
  have ne1 : b1 ≠ b0 := F1.ne F0 (by decide)
  have ne2 : b2 ≠ b0 := F2.ne F0 (by decide)
  have ne3 : b3 ≠ b0 := F3.ne F0 (by decide)
  obtain ⟨n, o, h1, h2, h3, _, L, rfl, ⟨rfl, N⟩, hq⟩ := rm0 l s _ hw tables_1 i0  s.heap s.heap.size b0 b1 b2 b3 S0 E0 S1 E1 S2 E2 S3 E3 ne1 ne2 ne3 p e ha hc hk s m _ below hf ((Spec.applies_iff_loose hf).mp happ).1 ⟨rfl, State.Warmed39.refl s, rfl⟩ trivial
  refine ⟨n, _, h1, h2, h3, hpost _ _ _ _ _ _ ⟨Cond.after_iff.mpr rfl, Cond.after_iff.mpr (eq_i res_at (Term.int_eval (1)) rfl), trivial⟩ ⟨hq.1, hq.2.1, (hq.2.2.sift fun y hy => Or.inr (N y hy)).mono (by decide) (by decide)⟩⟩
theorem main_1_1 : Claimed_1_1 := comes_1 fun _ _ _ _ _ _ h hF => ⟨h.1, hF⟩
theorem main_1_2 : Claimed_1_2 := comes_1 fun _ _ _ _ _ _ h hF => ⟨h.2.1, hF⟩
end Jvm.Pilot.@@N@@
namespace Jvm.Pilot.@@N@@
open Jvm Jvm.ClassFile Sem Op Lib Jvm.Free Jvm.Stand Jvm.Pilot.@@N@@.Jvm.D
/-! MADE BY PROGRAM (witnessworld.py) out of the Statement's table words and the real class files: 12 classes; the members and pool entries that the words name. The judged class is class 1, her method 1. -/
namespace start1
open Jvm.ClassFile
def u (s : String) : CpInfo := .utf8 (stringToUtf16 s)
/-- a pool by its gaps: so many unusable entries, then the entry; so many at the end -/
def gap : Nat → List CpInfo → List CpInfo
  | 0, r => r
  | n + 1, r => .unusable :: gap n r
def poolList (es : List (Nat × CpInfo)) (last : Nat) : List CpInfo := es.foldr (fun e r => gap e.1 (e.2 :: r)) (gap last [])
def pool (es : List (Nat × CpInfo)) (last : Nat) : Array CpInfo := ⟨poolList es last⟩
def fileOf (pool : Array CpInfo) (this : Nat) (attrs : Array Attribute := #[]) (ms : Array MethodInfo := #[]) (fl : Nat := 33) (sup : Nat := 0) (ifs : Array Nat := #[]) (fds : Array FieldInfo := #[]) : ClassFile where
  minorVersion := 0
  majorVersion := 65
  constantPool := pool
  accessFlags := fl
  thisClass := this
  superClass := sup
  interfaces := ifs
  fields := fds
  methods := ms
  attributes := attrs
def plain (name : String) (sup : Option ClassId) : Class where
  name := name
  kind := .ordinary
  loader := none
  accessFlags := 33
  super := sup
  interfaces := #[]
  cf := none
  fields := #[]
  methods := #[]
  instanceTypes := #[]
  staticTypes := #[]
  resolved := #[]
  callSites := []
  init := .initialized
  statics := none
  mirror := none

def pool0 : Array CpInfo := pool [(5, u "<init>"), (0, u "()V"), (1, .class_ 10), (1, u "java/lang/Object")] 113

def k0m0 : Method := { name := "<init>", desc := "()V", sig := { parameters := [], returnType := none }, accessFlags := 1, code := none }
/-- java/lang/Object -/
def k0 : Class := { plain "java/lang/Object" none with
  accessFlags := 33
  interfaces := #[]
  cf := some (fileOf pool0 8 #[] #[{ accessFlags := 1, nameIndex := 5, descriptorIndex := 6, attributes := #[] }] 33 0 #[] #[])
  fields := #[]
  methods := #[k0m0]
  instanceTypes := #[]
  staticTypes := #[]
  resolved := Array.replicate 124 none
  statics := none }

def pool1 : Array CpInfo := pool [(2, .class_ 4), (1, u "java/lang/Object"), (0, u "<init>"), (0, u "()V"), (0, .fieldref 8 9), (0, .class_ 10), (0, .nameAndType 11 12), (0, u "com/example/novatio/novatio/conditions/PriceAlignmentFormula"), (0, u "ACCRUED"), (0, u "Lcom/example/novatio/novatio/conditions/PriceAlignmentFormula;"), (0, .fieldref 8 14), (0, .nameAndType 15 12), (0, u "OVERNIGHT"), (0, .fieldref 8 17), (0, .nameAndType 18 12), (0, u "OVERNIGHT_PUBLISHED_LATER"), (0, .fieldref 8 20), (0, .nameAndType 21 12), (0, u "OVERNIGHT_SETTLED_LATER"), (0, .methodref 8 23), (0, .nameAndType 24 25), (0, u "countsCurrencyDays"), (0, u "()Z"), (0, .class_ 27), (0, u "com/example/novatio/novatio/conditions/PriceAlignmentFormulaCountsCurrencyDaysPinLaw"), (2, u "law"), (0, u "(I)Z")] 3

def k1m0 : Method := { name := "<init>", desc := "()V", sig := { parameters := [], returnType := none }, accessFlags := 1, code := none }
def k1c1 : Code := { maxStack := 2, maxLocals := 4, code := code, exceptionTable := #[], attributes := #[] }
def k1m1 : Method := { name := "law", desc := "(I)Z", sig := { parameters := [.int], returnType := some .boolean }, accessFlags := 9, code := some k1c1 }
/-- com/example/novatio/novatio/conditions/PriceAlignmentFormulaCountsCurrencyDaysPinLaw -/
def k1 : Class := { plain "com/example/novatio/novatio/conditions/PriceAlignmentFormulaCountsCurrencyDaysPinLaw" (some 0) with
  accessFlags := 49
  interfaces := #[]
  cf := some (fileOf pool1 26 #[] #[{ accessFlags := 1, nameIndex := 5, descriptorIndex := 6, attributes := #[] }, { accessFlags := 9, nameIndex := 30, descriptorIndex := 31, attributes := #[] }] 49 2 #[] #[])
  fields := #[]
  methods := #[k1m0, k1m1]
  instanceTypes := #[]
  staticTypes := #[]
  resolved := Array.replicate 35 none
  statics := none }

def pool2 : Array CpInfo := pool [(1, .class_ 2), (0, u "java/lang/constant/Constable"), (0, .class_ 4), (0, u "java/lang/Object")] 6

/-- java/lang/constant/Constable -/
def k2 : Class := { plain "java/lang/constant/Constable" (some 0) with
  accessFlags := 1537
  interfaces := #[]
  cf := some (fileOf pool2 1 #[] #[] 1537 3 #[] #[])
  fields := #[]
  methods := #[]
  instanceTypes := #[]
  staticTypes := #[]
  resolved := Array.replicate 11 none
  statics := none }

def pool3 : Array CpInfo := pool [(1, .class_ 2), (0, u "java/lang/Comparable"), (0, .class_ 4), (0, u "java/lang/Object")] 7

/-- java/lang/Comparable -/
def k3 : Class := { plain "java/lang/Comparable" (some 0) with
  accessFlags := 1537
  interfaces := #[]
  cf := some (fileOf pool3 1 #[] #[] 1537 3 #[] #[])
  fields := #[]
  methods := #[]
  instanceTypes := #[]
  staticTypes := #[]
  resolved := Array.replicate 12 none
  statics := none }

def pool4 : Array CpInfo := pool [(1, .class_ 2), (0, u "java/io/Serializable"), (0, .class_ 4), (0, u "java/lang/Object")] 2

/-- java/io/Serializable -/
def k4 : Class := { plain "java/io/Serializable" (some 0) with
  accessFlags := 1537
  interfaces := #[]
  cf := some (fileOf pool4 1 #[] #[] 1537 3 #[] #[])
  fields := #[]
  methods := #[]
  instanceTypes := #[]
  staticTypes := #[]
  resolved := Array.replicate 7 none
  statics := none }

def pool5 : Array CpInfo := pool [(2, .class_ 4), (1, u "java/lang/Enum"), (0, u "name"), (0, u "Ljava/lang/String;"), (2, u "ordinal"), (0, u "I"), (1, .class_ 14), (1, u "java/lang/Object"), (4, u "hash"), (86, .class_ 108), (1, u "java/lang/Enum$EnumDesc"), (2, .class_ 112), (0, u "java/lang/constant/Constable"), (0, .class_ 114), (0, u "java/lang/Comparable"), (0, .class_ 116), (0, u "java/io/Serializable")] 87

/-- java/lang/Enum -/
def k5 : Class := { plain "java/lang/Enum" (some 0) with
  accessFlags := 1057
  interfaces := #[2, 3, 4]
  cf := some (fileOf pool5 2 #[.nestMembers #[106]] #[] 1057 12 #[111, 113, 115] #[{ accessFlags := 18, nameIndex := 5, descriptorIndex := 6, attributes := #[] }, { accessFlags := 18, nameIndex := 9, descriptorIndex := 10, attributes := #[] }, { accessFlags := 2, nameIndex := 19, descriptorIndex := 10, attributes := #[] }])
  fields := #[{ name := "name", type := (.object "java/lang/String"), accessFlags := 18, slot := 0, constantValue := 0 }, { name := "ordinal", type := .int, accessFlags := 18, slot := 1, constantValue := 0 }, { name := "hash", type := .int, accessFlags := 2, slot := 2, constantValue := 0 }]
  methods := #[]
  instanceTypes := #[(.object "java/lang/String"), .int, .int]
  staticTypes := #[]
  resolved := Array.replicate 204 none
  statics := none }

def pool6 : Array CpInfo := pool [(1, .class_ 2), (0, u "com/example/novatio/novatio/conditions/PriceAlignmentFormula"), (0, .fieldref 1 4), (0, .nameAndType 5 6), (0, u "ACCRUED"), (0, u "Lcom/example/novatio/novatio/conditions/PriceAlignmentFormula;"), (2, u "OVERNIGHT"), (2, u "OVERNIGHT_PUBLISHED_LATER"), (2, u "OVERNIGHT_SETTLED_LATER"), (2, u "$VALUES"), (0, u "[Lcom/example/novatio/novatio/conditions/PriceAlignmentFormula;"), (6, .class_ 28), (1, u "java/lang/Enum"), (8, u "key"), (0, u "Ljava/lang/String;"), (27, u "countsCurrencyDays"), (0, u "()Z")] 6

def k6c0 : Code := { maxStack := 2, maxLocals := 1, code := prog_64_method_5_code, exceptionTable := #[], attributes := #[] }
def k6m0 : Method := { name := "countsCurrencyDays", desc := "()Z", sig := { parameters := [], returnType := some .boolean }, accessFlags := 1, code := some k6c0 }
/-- com/example/novatio/novatio/conditions/PriceAlignmentFormula -/
def k6 : Class := { plain "com/example/novatio/novatio/conditions/PriceAlignmentFormula" (some 5) with
  accessFlags := 16433
  interfaces := #[]
  cf := some (fileOf pool6 1 #[] #[{ accessFlags := 1, nameIndex := 66, descriptorIndex := 67, attributes := #[] }] 16433 26 #[] #[{ accessFlags := 16409, nameIndex := 5, descriptorIndex := 6, attributes := #[] }, { accessFlags := 16409, nameIndex := 9, descriptorIndex := 6, attributes := #[] }, { accessFlags := 16409, nameIndex := 12, descriptorIndex := 6, attributes := #[] }, { accessFlags := 16409, nameIndex := 15, descriptorIndex := 6, attributes := #[] }, { accessFlags := 18, nameIndex := 37, descriptorIndex := 38, attributes := #[] }, { accessFlags := 4122, nameIndex := 18, descriptorIndex := 19, attributes := #[] }])
  fields := #[{ name := "ACCRUED", type := (.object "com/example/novatio/novatio/conditions/PriceAlignmentFormula"), accessFlags := 16409, slot := 0, constantValue := 0 }, { name := "OVERNIGHT", type := (.object "com/example/novatio/novatio/conditions/PriceAlignmentFormula"), accessFlags := 16409, slot := 1, constantValue := 0 }, { name := "OVERNIGHT_PUBLISHED_LATER", type := (.object "com/example/novatio/novatio/conditions/PriceAlignmentFormula"), accessFlags := 16409, slot := 2, constantValue := 0 }, { name := "OVERNIGHT_SETTLED_LATER", type := (.object "com/example/novatio/novatio/conditions/PriceAlignmentFormula"), accessFlags := 16409, slot := 3, constantValue := 0 }, { name := "key", type := (.object "java/lang/String"), accessFlags := 18, slot := 3, constantValue := 0 }, { name := "$VALUES", type := (.array (.object "com/example/novatio/novatio/conditions/PriceAlignmentFormula")), accessFlags := 4122, slot := 4, constantValue := 0 }]
  methods := #[k6m0]
  instanceTypes := #[(.object "java/lang/String"), .int, .int, (.object "java/lang/String")]
  staticTypes := #[(.object "com/example/novatio/novatio/conditions/PriceAlignmentFormula"), (.object "com/example/novatio/novatio/conditions/PriceAlignmentFormula"), (.object "com/example/novatio/novatio/conditions/PriceAlignmentFormula"), (.object "com/example/novatio/novatio/conditions/PriceAlignmentFormula"), (.array (.object "com/example/novatio/novatio/conditions/PriceAlignmentFormula"))]
  resolved := Array.replicate 74 none
  statics := some 0 }

def pool7 : Array CpInfo := pool [(1, u "java/lang/Cloneable"), (0, .class_ 1), (0, u "java/lang/Object"), (0, .class_ 3)] 3

/-- java/lang/Cloneable -/
def k7 : Class := { plain "java/lang/Cloneable" (some 0) with
  accessFlags := 1537
  interfaces := #[]
  cf := some (fileOf pool7 2 #[] #[] 1537 4 #[] #[])
  fields := #[]
  methods := #[]
  instanceTypes := #[]
  staticTypes := #[]
  resolved := Array.replicate 8 none
  statics := none }

/-- the primitive byte -/
def k8 : Class := { plain "byte" none with kind := .primitive 'B', accessFlags := 0x411 }
/-- [B -/
def k9 : Class := { plain "[B" (some 0) with kind := .array 8 .byte, interfaces := #[7, 4], accessFlags := 1041 }

/-- the primitive int -/
def k10 : Class := { plain "int" none with kind := .primitive 'I', accessFlags := 0x411 }
/-- [I -/
def k11 : Class := { plain "[I" (some 0) with kind := .array 10 .int, interfaces := #[7, 4], accessFlags := 1041 }

def heap : Heap := #[{ cls := 6, slots := #[.ref 1, .ref 2, .ref 3, .ref 4, .null], vm := .statics 6 },
  { cls := 6, slots := #[.null, .int 0, .int 0, .null], vm := .none },
  { cls := 6, slots := #[.null, .int 1, .int 0, .null], vm := .none },
  { cls := 6, slots := #[.null, .int 2, .int 0, .null], vm := .none },
  { cls := 6, slots := #[.null, .int 3, .int 0, .null], vm := .none }]
def classes : Array Class := #[k0, k1, k2, k3, k4, k5, k6, k7, k8, k9, k10, k11]
def interned : List (Array UInt16 × Addr) := []
def slotsUsed : Nat := 21
def theMethod : MethodId := ⟨1, 1⟩
def args0 : Array Value := #[.int 5]
def aboutOver (below : List Frame) : State where
  vm := { classes := classes, interned := interned.toArray }
  heap := heap
  slotsUsed := slotsUsed
  threads := #[{ frames := .invoking theMethod args0 :: below }]
def below0 : List Frame := [.native { method := ⟨0, 0⟩, args := #[] }]
def about1 : State := aboutOver below0
def p0 : Program := .bare "" "" ""
def e0 : Env := launch0.env 0 0 0
theorem w_frames : about1.frames = Frame.invoking theMethod args0 :: below0 := rfl
set_option maxRecDepth 65536 in
theorem w_args : argsFit about1.vm theMethod args0 = true := by decide +kernel
set_option maxRecDepth 65536 in
theorem w_heap : heapFits about1 = true := by decide +kernel
set_option maxRecDepth 65536 in
theorem w_runnable : about1.curStatus? = some .runnable := by decide +kernel
set_option maxRecDepth 65536 in
theorem w_alone : about1.alone = true := by decide +kernel
set_option maxRecDepth 65536 in
theorem w_named : about1.methodNamed? x = some theMethod := by decide +kernel
set_option maxRecDepth 65536 in
theorem w_hears : about1.hears theMethod below0 = true := by decide +kernel
set_option maxRecDepth 65536 in
theorem w_ripe : about1.ripe theMethod args0 below0 = true := by decide +kernel
theorem w_running : about1.status = .running := rfl
set_option maxRecDepth 65536 in
theorem w_room : about1.hasRoom e0.platform room_1 = true :=
  launch0.hasRoom_least _ room_1 (by decide +kernel) (by decide +kernel) (by decide +kernel) (by decide +kernel) (by decide +kernel) (by decide +kernel)
theorem allAtoms_all (ts : List Jvm.Cond) (a : Array Jvm.Value) (st : Jvm.State) : (allAtoms ts).before a st = ts.all (fun c => c.before a st) := by
  induction ts with
  | nil => rfl
  | cons c t ih =>
    show (Jvm.Cond.and c (allAtoms t)).before a st = _
    rw [Jvm.Cond.before_and, ih, List.all_cons]
def words1 : List Jvm.Cond := Jvm.Cond.code x code maxLocals ret :: tables_1
/-- a 'code' word, met by the world's own term for the bytes: nothing is compared byte by byte -/
theorem code_word {y : MethodName} {bytes : ByteArray} {mx : Nat} {rt : Option FieldType} {a : Array Value} {s : State} {m : MethodId} {meth : Method} {c : Code} (h1 : s.methodNamed? y = some m) (h2 : s.vm.method? m = some meth) (h3 : meth.code = some c) (h4 : c.code = bytes)
    (h5 : (c.maxLocals == mx && c.exceptionTable.isEmpty && decide (c.maxStack ≤ mostOperands) && decide (meth.sig.returnType = rt) && !meth.locks && decide (parseMethodDescriptor y.desc = some meth.sig)) = true) : (Jvm.Cond.code y bytes mx rt).before a s = true := by
  simp only [Bool.and_eq_true, beq_iff_eq, Bool.not_eq_true', decide_eq_true_eq] at h5
  obtain ⟨⟨⟨⟨⟨g1, g2⟩, g3⟩, g4⟩, g5⟩, g6⟩ := h5
  simp [Cond.before, Cond.holds, Cond.value, h1, h2, h3, h4, g1, g2, g3, g4, g5, g6]
def isCode : Jvm.Cond → Bool
  | .code _ _ _ _ => true
  | _ => false
theorem all_split {L : List Jvm.Cond} {P : Jvm.Cond → Bool} (h1 : L.all (fun c => isCode c || P c) = true) (h2 : ∀ c ∈ L.filter isCode, P c = true) : L.all P = true := by
  refine List.all_eq_true.mpr fun c hc => ?_
  have h := List.all_eq_true.mp h1 c hc
  rcases Bool.eq_false_or_eq_true (isCode c) with hi | hi
  · exact h2 c (List.mem_filter.mpr ⟨hc, hi⟩)
  · simpa [hi] using h
set_option maxRecDepth 65536 in
theorem w_c0 : (Jvm.Cond.code x code maxLocals ret).before args0 about1 = true := code_word (m := ⟨1, 1⟩) (meth := k1m1) (c := k1c1) (by decide +kernel) rfl rfl rfl (by decide +kernel)
set_option maxRecDepth 65536 in
theorem w_c1 : (Jvm.Cond.code ({ cls := "com/example/novatio/novatio/conditions/PriceAlignmentFormula", name := "countsCurrencyDays", desc := "()Z" } : Jvm.MethodName) prog_64_method_5_code (1 : Nat) (Option.some Jvm.ClassFile.FieldType.boolean)).before args0 about1 = true := code_word (m := ⟨6, 0⟩) (meth := k6m0) (c := k6c0) (by decide +kernel) rfl rfl rfl (by decide +kernel)
def codes1 : List Jvm.Cond := [Jvm.Cond.code x code maxLocals ret, Jvm.Cond.code ({ cls := "com/example/novatio/novatio/conditions/PriceAlignmentFormula", name := "countsCurrencyDays", desc := "()Z" } : Jvm.MethodName) prog_64_method_5_code (1 : Nat) (Option.some Jvm.ClassFile.FieldType.boolean)]
set_option maxRecDepth 65536 in
theorem codes_eq : words1.filter isCode = codes1 := rfl
theorem w_codes : ∀ c ∈ words1.filter isCode, c.before args0 about1 = true := by
  rw [codes_eq]
  intro c hc
  simp only [codes1, List.mem_cons, List.not_mem_nil, or_false] at hc
  rcases hc with rfl | rfl
  · exact w_c0
  · exact w_c1
set_option maxRecDepth 65536 in
theorem w_t1 : words1.all (fun c => isCode c || c.before args0 about1) = true := by decide +kernel
theorem w_tables : (allAtoms (Jvm.Cond.code x code maxLocals ret :: tables_1)).before args0 about1 = true := by
  rw [allAtoms_all]
  show words1.all (fun c => c.before args0 about1) = true
  refine all_split ?_ w_codes
  rw [w_t1]
set_option maxRecDepth 65536 in
theorem w_case : (Jvm.Cond.and given_1 narrow_1).before args0 about1 = true := by decide +kernel
theorem w_applies : (headSpec (Jvm.Cond.code x code maxLocals ret :: tables_1) room_1).applies x e0.platform about1 = true :=
  (Spec.applies_iff w_frames).mpr ⟨w_running, w_runnable, w_alone, w_named, w_hears, w_ripe, w_room, w_tables⟩
theorem atStart : AtStart classFile x code maxLocals ret World_1 tables_1 room_1 Calls_1 rest_1 Pre_1 launch0 p0 e0 about1 theMethod args0 below0 :=
  ⟨lists_1, trivial, launch0.admits_env _ _ _, launch0.least_env, fairChoices_fair.cas, fairChoices_fair.clock, w_frames, w_args, w_heap, w_applies, trivial, trivial, w_case⟩
end start1
theorem witness_1 : WitnessClaimed_1 := ⟨start1.p0, start1.e0, start1.about1, start1.theMethod, start1.args0, start1.below0, start1.atStart⟩
end Jvm.Pilot.@@N@@
