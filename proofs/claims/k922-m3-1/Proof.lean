import JvmDerived
import JvmDerived.Pilot.@@N@@Statement
import JvmDerived.Pilot.@@N@@Code
set_option linter.unusedVariables false
set_option linter.unusedSimpArgs false
namespace Jvm.RoadKit
open Sem ClassFile Op Lib Jvm.Stand Jvm.Free Jvm.LawKit
section New
variable {p : Program} {l : Launch} {e : Env} {R : Room} {s : State} {m : MethodId} {args : Array Value} {below : List Frame} {meth : Method} {c : Code} {T : State} {locs : List Loc} {cells slots : Nat}
theorem retI (X : Stand p l e R s m args below meth c T locs cells slots) (hx : p.tables.exec = Jvm.exec) {pc : Nat} {Ls : Array Slot} {z : Int32} {rest : List Value} (hret : meth.sig.returnType = some .int) (hd : decode c.code pc = .ok (.ireturn, 1)) {fs : List Frame}
    (hl : ∀ (f : JFrame) (acts : List Action), f.method = m → f.locked = none → f.entered = [] → (doReturn e (T.setTop f) acts (some (.int z))).1 = T.setFrames fs) : Steps p.tables e below (T.setTop (mkF m pc Ls (.int z :: rest))) (T.setFrames fs) := by
  have hm' : T.vm.method? m = some meth := X.method'
  have hn : narrow .int (.int z) = .int z := rfl
  show Steps p.tables e below (T.setTop { method := m, pc := pc, locals := Ls, stack := _ :: rest, locked := none }) _
  jvm_step X.here [X.here.top, hx, hd, hm', hret, hn]
  first | (intro acts; rw [hl _ acts rfl rfl rfl]) | rw [hl _ _ rfl rfl rfl]
  exact Steps.refl _
end New
end Jvm.RoadKit
namespace Jvm.Pilot.@@N@@
open Jvm Jvm.ClassFile Sem Op Lib Jvm.Free Jvm.Stand Jvm.LawKit Jvm.RoadKit Bundle Jvm.Pilot.@@N@@.Jvm.D
open Jvm.Free.XT (ushr ushrL cmpL)
section GoKit
open Jvm.Free.XT (ushr ushrL cmpL)
variable {p : Program} {l : Launch} {e : Env} {R : Room} {s : State} {m : MethodId} {args : Array Value} {below : List Frame} {meth : Method} {c : Code} {T : State} {locs : List Loc} {cells slots : Nat} {Q : Option Value → Heap → List Loc → Prop} {rc rs : Nat} {Fi : Outcome → State → Prop} {bytes : ByteArray} {pc pc' : Nat} {Ls : Array Slot} {rest : List Value}
def GoE (p : Program) (e : Env) (below : List Frame) (Fi : Outcome → State → Prop) (S : State) : Prop :=
  ∃ t o, Steps p.tables e below S t ∧ t.status = .running ∧ Ended t below o ∧ Fi o t
abbrev Go (p : Program) (e : Env) (below : List Frame) (s : State) (rc rs : Nat) (Q : Option Value → Heap → List Loc → Prop) (S : State) : Prop :=
  GoE p e below (fun o t => ∃ v L, o = .returned v ∧ Q v t.heap L ∧ FrameEnd s o t L rc rs) S
theorem GoE.pull {a b : State} (h : GoE p e below Fi b) (f : ∀ t, Steps p.tables e below b t → Steps p.tables e below a t) : GoE p e below Fi a := by
  obtain ⟨t, o, h1, h2⟩ := h
  exact ⟨t, o, f t h1, h2⟩
theorem GoE.imp {Fi' : Outcome → State → Prop} {a : State} (h : GoE p e below Fi a) (f : ∀ o t, Fi o t → Fi' o t) : GoE p e below Fi' a := by
  obtain ⟨t, o, h1, h2, h3, h4⟩ := h
  exact ⟨t, o, h1, h2, h3, f _ _ h4⟩
def Ctr (l : Launch) (Z : State) (y : MethodName) (bytes : ByteArray) (ml : Nat) (ret : Option FieldType) (ws : List Jvm.Cond) (rm : Room) (as : Array Value) (h0 : Heap) (Q : Option Value → Heap → List Loc → Prop) : Prop :=
  MetFree l y (head1 (Jvm.Cond.code y bytes ml ret :: ws) rm) (fun a U => a = as ∧ Z.Warmed39 U.vm ∧ U.heap = h0) (fun _ _ _ _ _ => True) (fun _ U o U' => ∃ v L, o = .returned v ∧ Q v U'.heap L ∧ FrameEnd U o U' L rm.cells rm.slots)
theorem Ctr.enter {Z : State} {y : MethodName} {ml : Nat} {ret : Option FieldType} {ws : List Jvm.Cond} {rm : Room} {as : Array Value} {h0 : Heap} (hpl : plainFor y = true) (hef : ∀ m, entryFrame m as ml = mkF m 0 Ls [])
    (body : ∀ (p : Program) (e : Env) (s : State) (m : MethodId) (below : List Frame) (meth : Method) (c : Code) (T : State), p.tables.exec = Jvm.exec → c.code = bytes → c.maxLocals = ml → s.vm.findClass y.cls = some m.cls → meth.name = y.name → meth.sig.returnType = ret → meth.locks = false → Z.Warmed39 s.vm → s.heap = h0 →
      Stand p l e rm s m as below meth c T [] 0 0 → T.heap = h0 → Go p e below s rm.cells rm.slots Q (T.setTop (mkF m 0 Ls []))) : Ctr l Z y bytes ml ret ws rm as h0 Q := by
  refine MetFree.of_bodySF hpl hisR ?_
  intro p e s m args below meth c s₁ Bd hml0 hP hK
  obtain ⟨rfl, hZ, hh⟩ := hP
  have h := body p e s m below meth c s₁ Bd.exec Bd.bytes hml0 (findClass_of_methodNamed Bd.named) (name_of_methodNamed Bd.named Bd.method).1 Bd.returns (BodyLoose.notSynchronized Bd) hZ hh (Stand.of_body Bd) (by rw [← hh, Bd.state]; rfl)
  exact h.pull fun t k => castTop (hef m) k
theorem Ctr.imp {Z : State} {y : MethodName} {ml : Nat} {ret : Option FieldType} {ws : List Jvm.Cond} {rm : Room} {as : Array Value} {h0 : Heap} {Q' : Option Value → Heap → List Loc → Prop} (C : Ctr l Z y bytes ml ret ws rm as h0 Q) (f : ∀ v h L, Q v h L → Q' v h L) : Ctr l Z y bytes ml ret ws rm as h0 Q' := by
  intro p e ha hc hk s m args below hf happ hP hK
  obtain ⟨n, o, h1, h2, h3, v, L, h4, h5, h6⟩ := C p e ha hc hk s m args below hf happ hP hK
  exact ⟨n, o, h1, h2, h3, v, L, h4, f _ _ _ h5, h6⟩
theorem g_iload (X : Stand p l e R s m args below meth c T locs cells slots) (hx : p.tables.exec = Jvm.exec) {k : Nat} {v : Int32} (hby : c.code = bytes) (hd : decode bytes pc = .ok (.iload k, 2)) (hp : pc + 2 = pc') (hl : Ls[k]? = some (.val (.int v)))
    (H : GoE p e below Fi (T.setTop (mkF m pc' Ls (.int v :: rest)))) : GoE p e below Fi (T.setTop (mkF m pc Ls rest)) := by
  subst hp; exact H.pull fun t k => Jvm.Free.XS.iload X.here hx rfl (hb hby hd) hl k
theorem g_iloadN (X : Stand p l e R s m args below meth c T locs cells slots) (hx : p.tables.exec = Jvm.exec) {k : Fin 4} {v : Int32} (hby : c.code = bytes) (hd : decode bytes pc = .ok (.iload_n k, 1)) (hp : pc + 1 = pc') (hl : Ls[k.val]? = some (.val (.int v)))
    (H : GoE p e below Fi (T.setTop (mkF m pc' Ls (.int v :: rest)))) : GoE p e below Fi (T.setTop (mkF m pc Ls rest)) := by
  subst hp; exact H.pull fun t k => Jvm.Free.XS.iloadN X.here hx rfl (hb hby hd) hl k
theorem g_istore (X : Stand p l e R s m args below meth c T locs cells slots) (hx : p.tables.exec = Jvm.exec) {k : Nat} {x : Int32} {l' : Array Slot} (hby : c.code = bytes) (hd : decode bytes pc = .ok (.istore k, 2)) (hp : pc + 2 = pc') (hl : storeLocals Ls k (.int x) = some l')
    (H : GoE p e below Fi (T.setTop (mkF m pc' l' rest))) : GoE p e below Fi (T.setTop (mkF m pc Ls (.int x :: rest))) := by
  subst hp; exact H.pull fun t k => Jvm.Free.XS.istore X.here hx rfl (hb hby hd) rfl hl k
theorem g_istoreN (X : Stand p l e R s m args below meth c T locs cells slots) (hx : p.tables.exec = Jvm.exec) {k : Fin 4} {x : Int32} {l' : Array Slot} (hby : c.code = bytes) (hd : decode bytes pc = .ok (.istore_n k, 1)) (hp : pc + 1 = pc') (hl : storeLocals Ls k.val (.int x) = some l')
    (H : GoE p e below Fi (T.setTop (mkF m pc' l' rest))) : GoE p e below Fi (T.setTop (mkF m pc Ls (.int x :: rest))) := by
  subst hp; exact H.pull fun t k => Jvm.Free.XS.istoreN X.here hx rfl (hb hby hd) rfl hl k
theorem g_aload (X : Stand p l e R s m args below meth c T locs cells slots) (hx : p.tables.exec = Jvm.exec) {k : Nat} {v : Value} (hby : c.code = bytes) (hd : decode bytes pc = .ok (.aload k, 2)) (hp : pc + 2 = pc') (hl : Ls[k]? = some (.val v)) (hv : v.isRef = true)
    (H : GoE p e below Fi (T.setTop (mkF m pc' Ls (v :: rest)))) : GoE p e below Fi (T.setTop (mkF m pc Ls rest)) := by
  subst hp; exact H.pull fun t k => Jvm.Free.XS.aload X.here hx rfl (hb hby hd) hl hv k
theorem g_aloadN (X : Stand p l e R s m args below meth c T locs cells slots) (hx : p.tables.exec = Jvm.exec) {k : Fin 4} {v : Value} (hby : c.code = bytes) (hd : decode bytes pc = .ok (.aload_n k, 1)) (hp : pc + 1 = pc') (hl : Ls[k.val]? = some (.val v)) (hv : v.isRef = true)
    (H : GoE p e below Fi (T.setTop (mkF m pc' Ls (v :: rest)))) : GoE p e below Fi (T.setTop (mkF m pc Ls rest)) := by
  subst hp; exact H.pull fun t k => Jvm.Free.XS.aloadN X.here hx rfl (hb hby hd) hl hv k
theorem g_astore (X : Stand p l e R s m args below meth c T locs cells slots) (hx : p.tables.exec = Jvm.exec) {k : Nat} {x : Value} {l' : Array Slot} (hby : c.code = bytes) (hd : decode bytes pc = .ok (.astore k, 2)) (hp : pc + 2 = pc') (hv : x.isRef = true) (hl : storeLocals Ls k x = some l')
    (H : GoE p e below Fi (T.setTop (mkF m pc' l' rest))) : GoE p e below Fi (T.setTop (mkF m pc Ls (x :: rest))) := by
  subst hp; exact H.pull fun t k => Jvm.Free.XS.astore X.here hx rfl (hb hby hd) rfl hv hl k
theorem g_astoreN (X : Stand p l e R s m args below meth c T locs cells slots) (hx : p.tables.exec = Jvm.exec) {k : Fin 4} {x : Value} {l' : Array Slot} (hby : c.code = bytes) (hd : decode bytes pc = .ok (.astore_n k, 1)) (hp : pc + 1 = pc') (hv : x.isRef = true) (hl : storeLocals Ls k.val x = some l')
    (H : GoE p e below Fi (T.setTop (mkF m pc' l' rest))) : GoE p e below Fi (T.setTop (mkF m pc Ls (x :: rest))) := by
  subst hp; exact H.pull fun t k => Jvm.Free.XS.astoreN X.here hx rfl (hb hby hd) rfl hv hl k
theorem g_iconst (X : Stand p l e R s m args below meth c T locs cells slots) (hx : p.tables.exec = Jvm.exec) {i : Int} {z : Int32} (hby : c.code = bytes) (hd : decode bytes pc = .ok (.iconst i, 1)) (hp : pc + 1 = pc') (hz : z = Int32.ofInt i)
    (H : GoE p e below Fi (T.setTop (mkF m pc' Ls (.int z :: rest)))) : GoE p e below Fi (T.setTop (mkF m pc Ls rest)) := by
  subst hp; exact H.pull fun t k => Jvm.Free.XS.iconst X.here hx rfl (hb hby hd) (hz ▸ k)
theorem g_bipush (X : Stand p l e R s m args below meth c T locs cells slots) (hx : p.tables.exec = Jvm.exec) {i : Int} {z : Int32} (hby : c.code = bytes) (hd : decode bytes pc = .ok (.bipush i, 2)) (hp : pc + 2 = pc') (hz : z = (Int8.ofInt i).toInt32)
    (H : GoE p e below Fi (T.setTop (mkF m pc' Ls (.int z :: rest)))) : GoE p e below Fi (T.setTop (mkF m pc Ls rest)) := by
  subst hp; exact H.pull fun t k => Jvm.Free.XS.bipush X.here hx rfl (hb hby hd) (hz ▸ k)
theorem g_sipush (X : Stand p l e R s m args below meth c T locs cells slots) (hx : p.tables.exec = Jvm.exec) {i : Int} {z : Int32} (hby : c.code = bytes) (hd : decode bytes pc = .ok (.sipush i, 3)) (hp : pc + 3 = pc') (hz : z = (Int16.ofInt i).toInt32)
    (H : GoE p e below Fi (T.setTop (mkF m pc' Ls (.int z :: rest)))) : GoE p e below Fi (T.setTop (mkF m pc Ls rest)) := by
  subst hp; exact H.pull fun t k => Jvm.Free.XS.sipush X.here hx rfl (hb hby hd) (hz ▸ k)
theorem g_aconstNull (X : Stand p l e R s m args below meth c T locs cells slots) (hx : p.tables.exec = Jvm.exec)  (hby : c.code = bytes) (hd : decode bytes pc = .ok (.aconst_null, 1)) (hp : pc + 1 = pc') 
    (H : GoE p e below Fi (T.setTop (mkF m pc' Ls (.null :: rest)))) : GoE p e below Fi (T.setTop (mkF m pc Ls rest)) := by
  subst hp; exact H.pull fun t k => Jvm.Free.XS.aconstNull X.here hx rfl (hb hby hd) k
theorem g_ldcI (X : Stand p l e R s m args below meth c T locs cells slots) (hx : p.tables.exec = Jvm.exec) {Z : State} {a0 : Array Value} (hZ : Z.Warmed39 s.vm) {own : String} (hown : s.vm.findClass own = some m.cls) {index : Nat} {v : Int32} (hby : c.code = bytes) (hd : decode bytes pc = .ok (.ldc index, 2)) (hp : pc + 2 = pc') (w : (Jvm.Cond.constant own index v).before a0 Z = true)
    (H : GoE p e below Fi (T.setTop (mkF m pc' Ls (.int v :: rest)))) : GoE p e below Fi (T.setTop (mkF m pc Ls rest)) := by
  subst hp; exact H.pull fun t k => X.ldcInt hx hown (mvT hZ w) (g := mkF m pc Ls rest) rfl (hb hby hd) _ k
theorem g_isub (X : Stand p l e R s m args below meth c T locs cells slots) (hx : p.tables.exec = Jvm.exec) {x y : Int32} (hby : c.code = bytes) (hd : decode bytes pc = .ok (.isub, 1)) (hp : pc + 1 = pc') 
    (H : GoE p e below Fi (T.setTop (mkF m pc' Ls (.int (x - y) :: rest)))) : GoE p e below Fi (T.setTop (mkF m pc Ls (.int y :: .int x :: rest))) := by
  subst hp; exact H.pull fun t k => Jvm.Free.XS.isub X.here hx rfl (hb hby hd) rfl k
theorem g_iand (X : Stand p l e R s m args below meth c T locs cells slots) (hx : p.tables.exec = Jvm.exec) {x y : Int32} (hby : c.code = bytes) (hd : decode bytes pc = .ok (.iand, 1)) (hp : pc + 1 = pc') 
    (H : GoE p e below Fi (T.setTop (mkF m pc' Ls (.int (x &&& y) :: rest)))) : GoE p e below Fi (T.setTop (mkF m pc Ls (.int y :: .int x :: rest))) := by
  subst hp; exact H.pull fun t k => Jvm.Free.XS.iand X.here hx rfl (hb hby hd) rfl k
theorem g_ishr (X : Stand p l e R s m args below meth c T locs cells slots) (hx : p.tables.exec = Jvm.exec) {x y : Int32} (hby : c.code = bytes) (hd : decode bytes pc = .ok (.ishr, 1)) (hp : pc + 1 = pc') 
    (H : GoE p e below Fi (T.setTop (mkF m pc' Ls (.int (x >>> (y &&& 31)) :: rest)))) : GoE p e below Fi (T.setTop (mkF m pc Ls (.int y :: .int x :: rest))) := by
  subst hp; exact H.pull fun t k => Jvm.Free.XT.ishr X.here hx rfl (hb hby hd) rfl k
theorem g_iushr (X : Stand p l e R s m args below meth c T locs cells slots) (hx : p.tables.exec = Jvm.exec) {x y : Int32} (hby : c.code = bytes) (hd : decode bytes pc = .ok (.iushr, 1)) (hp : pc + 1 = pc') 
    (H : GoE p e below Fi (T.setTop (mkF m pc' Ls (.int (ushr x y) :: rest)))) : GoE p e below Fi (T.setTop (mkF m pc Ls (.int y :: .int x :: rest))) := by
  subst hp; exact H.pull fun t k => Jvm.Free.XT.iushr X.here hx rfl (hb hby hd) rfl k
theorem g_irem (X : Stand p l e R s m args below meth c T locs cells slots) (hx : p.tables.exec = Jvm.exec) {x y : Int32} (hby : c.code = bytes) (hd : decode bytes pc = .ok (.irem, 1)) (hp : pc + 1 = pc') (hy : y ≠ 0)
    (H : GoE p e below Fi (T.setTop (mkF m pc' Ls (.int (x - (x / y) * y) :: rest)))) : GoE p e below Fi (T.setTop (mkF m pc Ls (.int y :: .int x :: rest))) := by
  subst hp; exact H.pull fun t k => Jvm.Free.XS.irem X.here hx rfl (hb hby hd) rfl hy k
theorem g_i2b (X : Stand p l e R s m args below meth c T locs cells slots) (hx : p.tables.exec = Jvm.exec) {x : Int32} (hby : c.code = bytes) (hd : decode bytes pc = .ok (.i2b, 1)) (hp : pc + 1 = pc') 
    (H : GoE p e below Fi (T.setTop (mkF m pc' Ls (.int x.toInt8.toInt32 :: rest)))) : GoE p e below Fi (T.setTop (mkF m pc Ls (.int x :: rest))) := by
  subst hp; exact H.pull fun t k => Jvm.Free.XT.i2b X.here hx rfl (hb hby hd) rfl k
theorem g_i2c (X : Stand p l e R s m args below meth c T locs cells slots) (hx : p.tables.exec = Jvm.exec) {x : Int32} (hby : c.code = bytes) (hd : decode bytes pc = .ok (.i2c, 1)) (hp : pc + 1 = pc') 
    (H : GoE p e below Fi (T.setTop (mkF m pc' Ls (.int x.toUInt32.toUInt16.toUInt32.toInt32 :: rest)))) : GoE p e below Fi (T.setTop (mkF m pc Ls (.int x :: rest))) := by
  subst hp; exact H.pull fun t k => Jvm.Free.XT.i2c X.here hx rfl (hb hby hd) rfl k
theorem g_dup (X : Stand p l e R s m args below meth c T locs cells slots) (hx : p.tables.exec = Jvm.exec) {x : Value} (hby : c.code = bytes) (hd : decode bytes pc = .ok (.dup, 1)) (hp : pc + 1 = pc') (hc : x.category = 1)
    (H : GoE p e below Fi (T.setTop (mkF m pc' Ls (x :: x :: rest)))) : GoE p e below Fi (T.setTop (mkF m pc Ls (x :: rest))) := by
  subst hp; exact H.pull fun t k => Jvm.Free.XS.dup X.here hx rfl (hb hby hd) rfl hc k
theorem g_pop (X : Stand p l e R s m args below meth c T locs cells slots) (hx : p.tables.exec = Jvm.exec) {x : Value} (hby : c.code = bytes) (hd : decode bytes pc = .ok (.pop, 1)) (hp : pc + 1 = pc') (hc : x.category = 1)
    (H : GoE p e below Fi (T.setTop (mkF m pc' Ls rest))) : GoE p e below Fi (T.setTop (mkF m pc Ls (x :: rest))) := by
  subst hp; exact H.pull fun t k => Jvm.Free.XT.pop X.here hx rfl (hb hby hd) rfl hc k
theorem g_iinc (X : Stand p l e R s m args below meth c T locs cells slots) (hx : p.tables.exec = Jvm.exec) {k : Nat} {cst : Int} {x : Int32} {l' : Array Slot} (hby : c.code = bytes) (hd : decode bytes pc = .ok (.iinc k cst, 3)) (hp : pc + 3 = pc') (hl : Ls[k]? = some (.val (.int x))) (hl' : storeLocals Ls k (.int (x + Int32.ofInt cst)) = some l')
    (H : GoE p e below Fi (T.setTop (mkF m pc' l' rest))) : GoE p e below Fi (T.setTop (mkF m pc Ls rest)) := by
  subst hp; exact H.pull fun t k => Jvm.Free.XS.iinc X.here hx rfl (hb hby hd) hl hl' k
theorem g_goto (X : Stand p l e R s m args below meth c T locs cells slots) (hx : p.tables.exec = Jvm.exec) {o : Int} (hby : c.code = bytes) (hd : decode bytes pc = .ok (.goto o, 3)) (ho : 0 ≤ (pc : Int) + o) (hp : ((pc : Int) + o).toNat = pc')
    (H : GoE p e below Fi (T.setTop (mkF m pc' Ls rest))) : GoE p e below Fi (T.setTop (mkF m pc Ls rest)) :=
  H.pull fun t k => Jvm.Free.XS.goto X.here hx rfl rfl (hb hby hd) ho hp k
theorem g_icmp_eq (X : Stand p l e R s m args below meth c T locs cells slots) (hx : p.tables.exec = Jvm.exec) {o : Int} {pn : Nat} (hby : c.code = bytes) {x y : Int32} (hd : decode bytes pc = .ok (.if_icmp .eq o, 3)) (ho : 0 ≤ (pc : Int) + o) (hp : ((pc : Int) + o).toNat = pc') (hn : pc + 3 = pn)
    (HY : x = y → GoE p e below Fi (T.setTop (mkF m pc' Ls rest))) (HN : ¬ (x = y) → GoE p e below Fi (T.setTop (mkF m pn Ls rest))) : GoE p e below Fi (T.setTop (mkF m pc Ls (.int y :: .int x :: rest))) := by
  subst hn
  by_cases q : x = y
  · exact (HY q).pull fun t k => Jvm.Free.XS.icmpYes X.here hx rfl rfl (hb hby hd) rfl (teq q).1 ho hp k
  · have q' : ¬ (x = y) := by first | exact q | exact Decidable.not_not.mp q
    exact (HN q').pull fun t k => Jvm.Free.XS.icmpNo X.here hx rfl (hb hby hd) rfl (feq q').1 k
theorem g_if_eq (X : Stand p l e R s m args below meth c T locs cells slots) (hx : p.tables.exec = Jvm.exec) {o : Int} {pn : Nat} (hby : c.code = bytes) {x : Int32} (hd : decode bytes pc = .ok (.ifCond .eq o, 3)) (ho : 0 ≤ (pc : Int) + o) (hp : ((pc : Int) + o).toNat = pc') (hn : pc + 3 = pn)
    (HY : x = 0 → GoE p e below Fi (T.setTop (mkF m pc' Ls rest))) (HN : ¬ (x = 0) → GoE p e below Fi (T.setTop (mkF m pn Ls rest))) : GoE p e below Fi (T.setTop (mkF m pc Ls (.int x :: rest))) := by
  subst hn
  by_cases q : x = 0
  · exact (HY q).pull fun t k => Jvm.Free.XS.ifYes X.here hx rfl rfl (hb hby hd) rfl ((if0 _ _).trans (teq q).1) ho hp k
  · have q' : ¬ (x = 0) := by first | exact q | exact Decidable.not_not.mp q
    exact (HN q').pull fun t k => Jvm.Free.XS.ifNo X.here hx rfl (hb hby hd) rfl ((if0 _ _).trans (feq q').1) k
theorem g_icmp_ne (X : Stand p l e R s m args below meth c T locs cells slots) (hx : p.tables.exec = Jvm.exec) {o : Int} {pn : Nat} (hby : c.code = bytes) {x y : Int32} (hd : decode bytes pc = .ok (.if_icmp .ne o, 3)) (ho : 0 ≤ (pc : Int) + o) (hp : ((pc : Int) + o).toNat = pc') (hn : pc + 3 = pn)
    (HY : ¬ (x = y) → GoE p e below Fi (T.setTop (mkF m pc' Ls rest))) (HN : x = y → GoE p e below Fi (T.setTop (mkF m pn Ls rest))) : GoE p e below Fi (T.setTop (mkF m pc Ls (.int y :: .int x :: rest))) := by
  subst hn
  by_cases q : ¬ (x = y)
  · exact (HY q).pull fun t k => Jvm.Free.XS.icmpYes X.here hx rfl rfl (hb hby hd) rfl (feq q).2 ho hp k
  · have q' : x = y := by first | exact q | exact Decidable.not_not.mp q
    exact (HN q').pull fun t k => Jvm.Free.XS.icmpNo X.here hx rfl (hb hby hd) rfl (teq q').2 k
theorem g_if_ne (X : Stand p l e R s m args below meth c T locs cells slots) (hx : p.tables.exec = Jvm.exec) {o : Int} {pn : Nat} (hby : c.code = bytes) {x : Int32} (hd : decode bytes pc = .ok (.ifCond .ne o, 3)) (ho : 0 ≤ (pc : Int) + o) (hp : ((pc : Int) + o).toNat = pc') (hn : pc + 3 = pn)
    (HY : ¬ (x = 0) → GoE p e below Fi (T.setTop (mkF m pc' Ls rest))) (HN : x = 0 → GoE p e below Fi (T.setTop (mkF m pn Ls rest))) : GoE p e below Fi (T.setTop (mkF m pc Ls (.int x :: rest))) := by
  subst hn
  by_cases q : ¬ (x = 0)
  · exact (HY q).pull fun t k => Jvm.Free.XS.ifYes X.here hx rfl rfl (hb hby hd) rfl ((if0 _ _).trans (feq q).2) ho hp k
  · have q' : x = 0 := by first | exact q | exact Decidable.not_not.mp q
    exact (HN q').pull fun t k => Jvm.Free.XS.ifNo X.here hx rfl (hb hby hd) rfl ((if0 _ _).trans (teq q').2) k
theorem g_icmp_lt (X : Stand p l e R s m args below meth c T locs cells slots) (hx : p.tables.exec = Jvm.exec) {o : Int} {pn : Nat} (hby : c.code = bytes) {x y : Int32} (hd : decode bytes pc = .ok (.if_icmp .lt o, 3)) (ho : 0 ≤ (pc : Int) + o) (hp : ((pc : Int) + o).toNat = pc') (hn : pc + 3 = pn)
    (HY : x < y → GoE p e below Fi (T.setTop (mkF m pc' Ls rest))) (HN : ¬ (x < y) → GoE p e below Fi (T.setTop (mkF m pn Ls rest))) : GoE p e below Fi (T.setTop (mkF m pc Ls (.int y :: .int x :: rest))) := by
  subst hn
  by_cases q : x < y
  · exact (HY q).pull fun t k => Jvm.Free.XS.icmpYes X.here hx rfl rfl (hb hby hd) rfl (tlt q).1 ho hp k
  · have q' : ¬ (x < y) := by first | exact q | exact Decidable.not_not.mp q
    exact (HN q').pull fun t k => Jvm.Free.XS.icmpNo X.here hx rfl (hb hby hd) rfl (flt q').1 k
theorem g_if_lt (X : Stand p l e R s m args below meth c T locs cells slots) (hx : p.tables.exec = Jvm.exec) {o : Int} {pn : Nat} (hby : c.code = bytes) {x : Int32} (hd : decode bytes pc = .ok (.ifCond .lt o, 3)) (ho : 0 ≤ (pc : Int) + o) (hp : ((pc : Int) + o).toNat = pc') (hn : pc + 3 = pn)
    (HY : x < 0 → GoE p e below Fi (T.setTop (mkF m pc' Ls rest))) (HN : ¬ (x < 0) → GoE p e below Fi (T.setTop (mkF m pn Ls rest))) : GoE p e below Fi (T.setTop (mkF m pc Ls (.int x :: rest))) := by
  subst hn
  by_cases q : x < 0
  · exact (HY q).pull fun t k => Jvm.Free.XS.ifYes X.here hx rfl rfl (hb hby hd) rfl ((if0 _ _).trans (tlt q).1) ho hp k
  · have q' : ¬ (x < 0) := by first | exact q | exact Decidable.not_not.mp q
    exact (HN q').pull fun t k => Jvm.Free.XS.ifNo X.here hx rfl (hb hby hd) rfl ((if0 _ _).trans (flt q').1) k
theorem g_icmp_ge (X : Stand p l e R s m args below meth c T locs cells slots) (hx : p.tables.exec = Jvm.exec) {o : Int} {pn : Nat} (hby : c.code = bytes) {x y : Int32} (hd : decode bytes pc = .ok (.if_icmp .ge o, 3)) (ho : 0 ≤ (pc : Int) + o) (hp : ((pc : Int) + o).toNat = pc') (hn : pc + 3 = pn)
    (HY : ¬ (x < y) → GoE p e below Fi (T.setTop (mkF m pc' Ls rest))) (HN : x < y → GoE p e below Fi (T.setTop (mkF m pn Ls rest))) : GoE p e below Fi (T.setTop (mkF m pc Ls (.int y :: .int x :: rest))) := by
  subst hn
  by_cases q : ¬ (x < y)
  · exact (HY q).pull fun t k => Jvm.Free.XS.icmpYes X.here hx rfl rfl (hb hby hd) rfl (flt q).2.1 ho hp k
  · have q' : x < y := by first | exact q | exact Decidable.not_not.mp q
    exact (HN q').pull fun t k => Jvm.Free.XS.icmpNo X.here hx rfl (hb hby hd) rfl (tlt q').2.1 k
theorem g_icmp_le (X : Stand p l e R s m args below meth c T locs cells slots) (hx : p.tables.exec = Jvm.exec) {o : Int} {pn : Nat} (hby : c.code = bytes) {x y : Int32} (hd : decode bytes pc = .ok (.if_icmp .le o, 3)) (ho : 0 ≤ (pc : Int) + o) (hp : ((pc : Int) + o).toNat = pc') (hn : pc + 3 = pn)
    (HY : ¬ (y < x) → GoE p e below Fi (T.setTop (mkF m pc' Ls rest))) (HN : y < x → GoE p e below Fi (T.setTop (mkF m pn Ls rest))) : GoE p e below Fi (T.setTop (mkF m pc Ls (.int y :: .int x :: rest))) := by
  subst hn
  by_cases q : ¬ (y < x)
  · exact (HY q).pull fun t k => Jvm.Free.XS.icmpYes X.here hx rfl rfl (hb hby hd) rfl (flt q).2.2.2 ho hp k
  · have q' : y < x := by first | exact q | exact Decidable.not_not.mp q
    exact (HN q').pull fun t k => Jvm.Free.XS.icmpNo X.here hx rfl (hb hby hd) rfl (tlt q').2.2.2 k
theorem g_if_le (X : Stand p l e R s m args below meth c T locs cells slots) (hx : p.tables.exec = Jvm.exec) {o : Int} {pn : Nat} (hby : c.code = bytes) {x : Int32} (hd : decode bytes pc = .ok (.ifCond .le o, 3)) (ho : 0 ≤ (pc : Int) + o) (hp : ((pc : Int) + o).toNat = pc') (hn : pc + 3 = pn)
    (HY : ¬ (0 < x) → GoE p e below Fi (T.setTop (mkF m pc' Ls rest))) (HN : 0 < x → GoE p e below Fi (T.setTop (mkF m pn Ls rest))) : GoE p e below Fi (T.setTop (mkF m pc Ls (.int x :: rest))) := by
  subst hn
  by_cases q : ¬ (0 < x)
  · exact (HY q).pull fun t k => Jvm.Free.XS.ifYes X.here hx rfl rfl (hb hby hd) rfl ((if0 _ _).trans (flt q).2.2.2) ho hp k
  · have q' : 0 < x := by first | exact q | exact Decidable.not_not.mp q
    exact (HN q').pull fun t k => Jvm.Free.XS.ifNo X.here hx rfl (hb hby hd) rfl ((if0 _ _).trans (tlt q').2.2.2) k
theorem g_ifnull_no (X : Stand p l e R s m args below meth c T locs cells slots) (hx : p.tables.exec = Jvm.exec) {o : Int} {pn : Nat} (hby : c.code = bytes) {b : Addr} (hd : decode bytes pc = .ok (.ifnull o, 3)) (hn : pc + 3 = pn)
    (H : GoE p e below Fi (T.setTop (mkF m pn Ls rest))) : GoE p e below Fi (T.setTop (mkF m pc Ls (.ref b :: rest))) := by
  subst hn; exact H.pull fun t k => Jvm.Free.XS.ifnullNo X.here hx rfl (hb hby hd) rfl k
theorem g_ifnull_yes (X : Stand p l e R s m args below meth c T locs cells slots) (hx : p.tables.exec = Jvm.exec) {o : Int} (hby : c.code = bytes) (hd : decode bytes pc = .ok (.ifnull o, 3)) (ho : 0 ≤ (pc : Int) + o) (hp : ((pc : Int) + o).toNat = pc')
    (H : GoE p e below Fi (T.setTop (mkF m pc' Ls rest))) : GoE p e below Fi (T.setTop (mkF m pc Ls (.null :: rest))) :=
  H.pull fun t k => Jvm.Free.XS.ifnullYes X.here hx rfl rfl (hb hby hd) rfl ho hp k
theorem g_ifnonnull_yes (X : Stand p l e R s m args below meth c T locs cells slots) (hx : p.tables.exec = Jvm.exec) {o : Int} (hby : c.code = bytes) {b : Addr} (hd : decode bytes pc = .ok (.ifnonnull o, 3)) (ho : 0 ≤ (pc : Int) + o) (hp : ((pc : Int) + o).toNat = pc')
    (H : GoE p e below Fi (T.setTop (mkF m pc' Ls rest))) : GoE p e below Fi (T.setTop (mkF m pc Ls (.ref b :: rest))) :=
  H.pull fun t k => Jvm.Free.XT.ifnonnullYes X.here hx rfl rfl (hb hby hd) rfl ho hp k
theorem g_acmp_yes (X : Stand p l e R s m args below meth c T locs cells slots) (hx : p.tables.exec = Jvm.exec) {o : Int} (hby : c.code = bytes) {cd : ClassFile.ACond} {x y : Value} (hd : decode bytes pc = .ok (.if_acmp cd o, 3)) (ho : 0 ≤ (pc : Int) + o) (hp : ((pc : Int) + o).toNat = pc') (h1 : x.isRef = true) (h2 : y.isRef = true) (hc : Jvm.Free.XT.acmp cd x y = true)
    (H : GoE p e below Fi (T.setTop (mkF m pc' Ls rest))) : GoE p e below Fi (T.setTop (mkF m pc Ls (y :: x :: rest))) :=
  H.pull fun t k => Jvm.Free.XT.acmpYes X.here hx rfl rfl (hb hby hd) rfl h1 h2 hc ho hp k
theorem g_acmp_no (X : Stand p l e R s m args below meth c T locs cells slots) (hx : p.tables.exec = Jvm.exec) {o : Int} {pn : Nat} (hby : c.code = bytes) {cd : ClassFile.ACond} {x y : Value} (hd : decode bytes pc = .ok (.if_acmp cd o, 3)) (hn : pc + 3 = pn) (h1 : x.isRef = true) (h2 : y.isRef = true) (hc : Jvm.Free.XT.acmp cd x y = false)
    (H : GoE p e below Fi (T.setTop (mkF m pn Ls rest))) : GoE p e below Fi (T.setTop (mkF m pc Ls (y :: x :: rest))) := by
  subst hn; exact H.pull fun t k => Jvm.Free.XT.acmpNo X.here hx rfl (hb hby hd) rfl h1 h2 hc k
theorem g_retI (X : Stand p l e R s m args below meth c T locs cells slots) (hx : p.tables.exec = Jvm.exec) {z : Int32} (hby : c.code = bytes) (hd : decode bytes pc = .ok (.ireturn, 1)) (hret : meth.sig.returnType = some .int) (hlk : meth.locks = false) (hc : cells ≤ rc) (hs : slots ≤ rs) (hQ : Q (some (.int z)) T.heap locs) : Go p e below s rc rs Q (T.setTop (mkF m pc Ls (.int z :: rest))) := by
  obtain ⟨fs, hr, hrun, hended, hW, hsame⟩ := X.leave (v := some (.int z)) (fun h => by first | rfl | (rw [hret] at h; cases h)) hlk
  exact ⟨_, _, retI X hx hret (hb hby hd) hr, hrun, hended, _, _, rfl, hQ, ⟨_, rfl⟩, hW, hsame.mono hc hs⟩
theorem g_retN (X : Stand p l e R s m args below meth c T locs cells slots) (hx : p.tables.exec = Jvm.exec) {z w : Int32} {t : FieldType} (hby : c.code = bytes) (hd : decode bytes pc = .ok (.ireturn, 1)) (hret : meth.sig.returnType = some t) (ht : t = .boolean ∨ t = .byte ∨ t = .char ∨ t = .short) (hnar : nar t z = w) (hlk : meth.locks = false) (hc : cells ≤ rc) (hs : slots ≤ rs) (hQ : Q (some (.int w)) T.heap locs) : Go p e below s rc rs Q (T.setTop (mkF m pc Ls (.int z :: rest))) := by
  subst hnar
  obtain ⟨fs, hr, hrun, hended, hW, hsame⟩ := X.leave (v := some (.int (nar t z))) (fun h => by rw [hret] at h; cases h) hlk
  exact ⟨_, _, retN X hx hret ht (hb hby hd) hr, hrun, hended, _, _, rfl, hQ, ⟨_, rfl⟩, hW, hsame.mono hc hs⟩
theorem g_retA (X : Stand p l e R s m args below meth c T locs cells slots) (hx : p.tables.exec = Jvm.exec) {z : Value} {t : FieldType} (hby : c.code = bytes) (hd : decode bytes pc = .ok (.areturn, 1)) (hz : z.isRef = true) (hret : meth.sig.returnType = some t) (ht : t.isReference = true) (hlk : meth.locks = false) (hc : cells ≤ rc) (hs : slots ≤ rs) (hQ : Q (some z) T.heap locs) : Go p e below s rc rs Q (T.setTop (mkF m pc Ls [z])) := by
  obtain ⟨fs, hr, hrun, hended, hW, hsame⟩ := X.leave (v := some z) (fun h => by first | rfl | (rw [hret] at h; cases h)) hlk
  exact ⟨_, _, X.areturnOut hx hz hret ht (hb hby hd) hr, hrun, hended, _, _, rfl, hQ, ⟨_, rfl⟩, hW, hsame.mono hc hs⟩
theorem g_retV (X : Stand p l e R s m args below meth c T locs cells slots) (hx : p.tables.exec = Jvm.exec)  (hby : c.code = bytes) (hd : decode bytes pc = .ok (.return_, 1)) (hret : meth.sig.returnType = none) (hlk : meth.locks = false) (hc : cells ≤ rc) (hs : slots ≤ rs) (hQ : Q (none) T.heap locs) : Go p e below s rc rs Q (T.setTop (mkF m pc Ls [])) := by
  obtain ⟨fs, hr, hrun, hended, hW, hsame⟩ := X.leave (v := none) (fun h => by first | rfl | (rw [hret] at h; cases h)) hlk
  exact ⟨_, _, X.returnOut hx hret (hb hby hd) hr, hrun, hended, _, _, rfl, hQ, ⟨_, rfl⟩, hW, hsame.mono hc hs⟩
theorem g_callS (X : Stand p l e R s m args below meth c T locs cells slots) (hx : p.tables.exec = Jvm.exec) {Z : State} {a0 : Array Value} (hZ : Z.Warmed39 s.vm) {own : String} (hown : s.vm.findClass own = some m.cls) {y : MethodName} {cb : ByteArray} {maxL : Nat} {ret : Option FieldType} {rm : Room} {as' : Array Value} {h : Heap} {Q' : Option Value → Heap → List Loc → Prop} {W : Nat} {index : Nat} {argsL : List Value} (hby : c.code = bytes) (hd : decode bytes pc = .ok (.invokestatic index, 3)) (hp : pc + 3 = pc') (hml : Ls.size = c.maxLocals)
    (w1 : (Jvm.Cond.methodLink own index y).before a0 Z = true) (w2 : (Jvm.Cond.static y).before a0 Z = true) (w3 : (Jvm.Cond.initialized y.cls).before a0 Z = true) (w4 : (Jvm.Cond.code y cb maxL ret).before a0 Z = true) (hy : y.cls ≠ "java/lang/invoke/MethodHandle" ∧ y.cls ≠ "java/lang/invoke/VarHandle")
    (C : Ctr l Z y cb maxL ret [] rm as' h Q') (eT : T.heap = h) (hfr : rm.frames + 1 ≤ R.frames) (hlo : W + (maxL + 11) + rm.locals ≤ R.locals) (hce : cells + rm.cells ≤ R.cells) (hsl : slots + rm.slots ≤ R.slots) {stk : List Value} {psig : MethodDescriptor} (has : argsL.toArray = as') (hpd : parseMethodDescriptor y.desc = some psig) (hlen : argsL.length = psig.parameters.length) (hst : stk = argsL.reverse ++ rest) (hW : 2 * 0 + (rest.map fun v => v.category).sum ≤ W)
    (K : ∀ (v : Option Value) (T' : State) (L : List Loc), Stand p l e R s m args below meth c T' (locs ++ L) (cells + rm.cells) (slots + rm.slots) → Q' v T'.heap L → GoE p e below Fi (T'.setTop (mkF m pc' Ls (v.toList ++ rest)))) : GoE p e below Fi (T.setTop (mkF m pc Ls stk)) := by
  subst hp hst has
  obtain ⟨v, _, ⟨T4, L4, k4, n4⟩, -, X4, ⟨Lc, hQ, l4, y4, z4⟩, st⟩ := Jvm.LawKit.callS X hx (y := y) hown (mvT hZ w1) (mvT hZ w2) (mvT hZ w3) (mvT hZ w4) hy (backOf (W := W) C hZ w4 w3 hfr hlo) (g := mkF m pc Ls (argsL.reverse ++ rest)) rfl hml (argsL := argsL) (rest := rest) (fun sig h => by rw [hpd] at h; cases h; exact hlen) rfl hW (hb hby hd) (fun _ _ => ⟨rfl, eT, hce, hsl⟩)
  dsimp only [Pt.U, Pt.locs, Pt.cells, Pt.slots] at X4 l4 y4 z4 st hQ
  subst l4 y4 z4
  exact (K v T4 Lc X4 hQ).pull st
theorem g_callI (X : Stand p l e R s m args below meth c T locs cells slots) (hx : p.tables.exec = Jvm.exec) {Z : State} {a0 : Array Value} (hZ : Z.Warmed39 s.vm) {own : String} (hown : s.vm.findClass own = some m.cls) {y : MethodName} {cb : ByteArray} {maxL : Nat} {rm : Room} {as' : Array Value} {h : Heap} {Q' : Option Value → Heap → List Loc → Prop} {W : Nat} {index : Nat} {argsL : List Value} {b : Addr} (hby : c.code = bytes) (hd : decode bytes pc = .ok (.invokespecial index, 3)) (hp : pc + 3 = pc') (hml : Ls.size = c.maxLocals)
    (w1 : (Jvm.Cond.methodLink own index y).before a0 Z = true) (w2 : (Jvm.Cond.instanceMethod y).before a0 Z = true) (w3 : (Jvm.Cond.initialized y.cls).before a0 Z = true) (w4 : (Jvm.Cond.code y cb maxL none).before a0 Z = true) (hin : y.name = "<init>") (hy : y.cls ≠ "java/lang/invoke/MethodHandle" ∧ y.cls ≠ "java/lang/invoke/VarHandle")
    (C : Ctr l Z y cb maxL none [] rm as' h Q') (eT : T.heap = h) (hfr : rm.frames + 1 ≤ R.frames) (hlo : W + (maxL + 11) + rm.locals ≤ R.locals) (hce : cells + rm.cells ≤ R.cells) (hsl : slots + rm.slots ≤ R.slots) {stk : List Value} {psig : MethodDescriptor} (has : (Value.ref b :: argsL).toArray = as') (hpd : parseMethodDescriptor y.desc = some psig) (hlen : argsL.length = psig.parameters.length) (hst : stk = argsL.reverse ++ Value.ref b :: rest) (hW : 2 * 0 + (rest.map fun v => v.category).sum ≤ W)
    (K : ∀ (v : Option Value) (T' : State) (L : List Loc), Stand p l e R s m args below meth c T' (locs ++ L) (cells + rm.cells) (slots + rm.slots) → Q' v T'.heap L → GoE p e below Fi (T'.setTop (mkF m pc' Ls (v.toList ++ rest)))) : GoE p e below Fi (T.setTop (mkF m pc Ls stk)) := by
  subst hp hst has
  obtain ⟨v, _, ⟨T4, L4, k4, n4⟩, -, X4, ⟨Lc, hQ, l4, y4, z4⟩, st⟩ := X.specialBack hx (y := y) hin hown (mvT hZ w1) (mvT hZ w2) (mvT hZ w4) hy (backOf (W := W) C hZ w4 w3 hfr hlo) (g := mkF m pc Ls (argsL.reverse ++ Value.ref b :: rest)) rfl hml (Steps.refl _) (a := b) (argsL := argsL) (rest := rest) (fun sig h => by rw [hpd] at h; cases h; exact hlen) rfl hW (hb hby hd) (fun _ _ => ⟨rfl, eT, hce, hsl⟩)
  dsimp only [Pt.U, Pt.locs, Pt.cells, Pt.slots] at X4 l4 y4 z4 st hQ
  subst l4 y4 z4
  exact (K v T4 Lc X4 hQ).pull fun t k => st.trans k
theorem g_callV (X : Stand p l e R s m args below meth c T locs cells slots) (hx : p.tables.exec = Jvm.exec) {Z : State} {a0 : Array Value} (hZ : Z.Warmed39 s.vm) {own : String} (hown : s.vm.findClass own = some m.cls) {y : MethodName} {cb : ByteArray} {maxL : Nat} {ret : Option FieldType} {rm : Room} {as' : Array Value} {h : Heap} {Q' : Option Value → Heap → List Loc → Prop} {W : Nat} {index : Nat} {argsL : List Value} {b : Addr} {z : MethodName} {C0 : String} (hby : c.code = bytes) (hd : decode bytes pc = .ok (.invokevirtual index, 3)) (hp : pc + 3 = pc') (hml : Ls.size = c.maxLocals)
    (w1 : (Jvm.Cond.methodLink own index y).before a0 Z = true) (w2 : (Jvm.Cond.declares y).before a0 Z = true) (w5 : (Jvm.Cond.selects C0 y z).before a0 Z = true) (nf : NotFace s y) (w6 : (Jvm.Cond.instanceMethod z).before a0 Z = true) (w3 : (Jvm.Cond.initialized z.cls).before a0 Z = true) (w4 : (Jvm.Cond.code z cb maxL ret).before a0 Z = true) (hy : y.cls ≠ "java/lang/invoke/MethodHandle" ∧ y.cls ≠ "java/lang/invoke/VarHandle")
    (C : Ctr l Z z cb maxL ret [] rm as' h Q') (eT : T.heap = h) (E : Exa Z h b C0) (hfr : rm.frames + 1 ≤ R.frames) (hlo : W + (maxL + 11) + rm.locals ≤ R.locals) (hce : cells + rm.cells ≤ R.cells) (hsl : slots + rm.slots ≤ R.slots) {stk : List Value} {psig : MethodDescriptor} (has : (Value.ref b :: argsL).toArray = as') (hpd : parseMethodDescriptor y.desc = some psig) (hlen : argsL.length = psig.parameters.length) (hst : stk = argsL.reverse ++ Value.ref b :: rest) (hW : 2 * 0 + (rest.map fun v => v.category).sum ≤ W)
    (K : ∀ (v : Option Value) (T' : State) (L : List Loc), Stand p l e R s m args below meth c T' (locs ++ L) (cells + rm.cells) (slots + rm.slots) → Q' v T'.heap L → GoE p e below Fi (T'.setTop (mkF m pc' Ls (v.toList ++ rest)))) : GoE p e below Fi (T.setTop (mkF m pc Ls stk)) := by
  subst hp hst has
  obtain ⟨cq, kq, qa, qb, qc⟩ := isOf hZ eT E
  obtain ⟨v, _, ⟨T4, L4, k4, n4⟩, -, X4, ⟨Lc, hQ, l4, y4, z4⟩, st⟩ := X.virtualBack hx (y := y) (z := z) hown (mvT hZ w1) (mvT hZ w2) nf (mvT hZ w5) (mvT hZ w6) hy (backOf (W := W) C hZ w4 w3 hfr hlo) qa qc (g := mkF m pc Ls (argsL.reverse ++ Value.ref b :: rest)) rfl hml (Steps.refl _) (argsL := argsL) (rest := rest) (fun sig h => by rw [hpd] at h; cases h; exact hlen) rfl hW (hb hby hd) (fun _ _ => ⟨rfl, eT, hce, hsl⟩)
  dsimp only [Pt.U, Pt.locs, Pt.cells, Pt.slots] at X4 l4 y4 z4 st hQ
  subst l4 y4 z4
  exact (K v T4 Lc X4 hQ).pull fun t k => st.trans k
theorem g_new (X : Stand p l e R s m args below meth c T locs cells slots) (hx : p.tables.exec = Jvm.exec) {Z : State} {a0 : Array Value} (hZ : Z.Warmed39 s.vm) {own : String} (hown : s.vm.findClass own = some m.cls) {C : String} {index n : Nat} {h : Heap} (hby : c.code = bytes) (hd : decode bytes pc = .ok (.new index, 3)) (hp : pc + 3 = pc') (w1 : (Jvm.Cond.classLink own index C).before a0 Z = true) (w2 : (Jvm.Cond.instantiable C n).before a0 Z = true) (w3 : (Jvm.Cond.initialized C).before a0 Z = true) (eT : T.heap = h) (hce : cells + 1 ≤ R.cells) (hsl : slots + n ≤ R.slots)
    (K : ∀ (T' : State) (b : Addr), b = h.size → Stand p l e R s m args below meth c T' locs (cells + 1) (slots + n) → Ext h T'.heap → Exa Z T'.heap b C → (∀ {O nm d : String} {ty : FieldType}, Laid Z a0 C O nm d → parseFieldDescriptor d = some ty → Fld Z T'.heap b O nm d (defaultValue ty)) → GoE p e below Fi (T'.setTop (mkF m pc' Ls (.ref b :: rest)))) : GoE p e below Fi (T.setTop (mkF m pc Ls rest)) := by
  subst hp
  obtain ⟨T2, h2, X2, e2, E2, A2, D2, -, st2⟩ := newO X hx hZ hown w1 w2 w3 eT (g := mkF m pc Ls rest) rfl (hb hby hd) hce hsl
  subst e2
  exact (K T2 _ rfl X2 E2 A2 D2).pull st2
theorem g_get (X : Stand p l e R s m args below meth c T locs cells slots) (hx : p.tables.exec = Jvm.exec) {Z : State} {a0 : Array Value} (hZ : Z.Warmed39 s.vm) {own : String} (hown : s.vm.findClass own = some m.cls) {O n d : String} {index : Nat} {h : Heap} {a : Addr} {v : Value} (hby : c.code = bytes) (hd : decode bytes pc = .ok (.getfield index, 3)) (hp : pc + 3 = pc') (w : (Jvm.Cond.fieldLink own index O n d).before a0 Z = true) (eT : T.heap = h) (F : Fld Z h a O n d v)
    (K : ∀ T' : State, Stand p l e R s m args below meth c T' locs cells slots → T'.heap = h → GoE p e below Fi (T'.setTop (mkF m pc' Ls (v :: rest)))) : GoE p e below Fi (T.setTop (mkF m pc Ls (.ref a :: rest))) := by
  subst hp
  obtain ⟨T2, X2, e2, st2⟩ := getF X hx hZ hown (host := "") (Or.inl w) Via.refl eT F (g := mkF m pc Ls (.ref a :: rest)) rfl rfl (hb hby hd)
  exact (K T2 X2 e2).pull st2
theorem g_put (X : Stand p l e R s m args below meth c T locs cells slots) (hx : p.tables.exec = Jvm.exec) {Z : State} {a0 : Array Value} (hZ : Z.Warmed39 s.vm) {own : String} (hown : s.vm.findClass own = some m.cls) {O n d C : String} {index kk : Nat} {ty : FieldType} {h : Heap} {a : Addr} {v old : Value} (hby : c.code = bytes) (hd : decode bytes pc = .ok (.putfield index, 3)) (hp : pc + 3 = pc') (w : (Jvm.Cond.fieldLink own index O n d).before a0 Z = true) (eT : T.heap = h) (F : Fld Z h a O n d old) (E : Exa Z h a C) (Lf : (Jvm.Cond.lays C O n d).before a0 Z = true ∨ ((Jvm.Cond.laysFinal C O n d).before a0 Z = true ∧ own = O ∧ meth.name = "<init>")) (wi : (Jvm.Cond.instantiable C kk).before a0 Z = true) (hty : parseFieldDescriptor d = some ty) (hn : narrow ty v = v) (hf : fits ty v = true)
    (K : ∀ T' : State, Stand p l e R s m args below meth c T' (locs ++ [⟨a, RoadKit.slotOf Z O n d⟩]) cells slots → Wr h T'.heap a (RoadKit.slotOf Z O n d) v → GoE p e below Fi (T'.setTop (mkF m pc' Ls rest))) : GoE p e below Fi (T.setTop (mkF m pc Ls (v :: .ref a :: rest))) := by
  subst hp
  obtain ⟨T2, h2, X2, e2, W2, st2⟩ := putF X hx hZ hown (host := "") (Or.inl w) Via.refl eT F E Lf wi hty hn hf (g := mkF m pc Ls (v :: .ref a :: rest)) rfl rfl (hb hby hd)
  subst e2
  exact (K T2 X2 W2).pull st2
theorem g_getS (X : Stand p l e R s m args below meth c T locs cells slots) (hx : p.tables.exec = Jvm.exec) {Z : State} {a0 : Array Value} (hZ : Z.Warmed39 s.vm) {own : String} (hown : s.vm.findClass own = some m.cls) {O n d : String} {index : Nat} {h : Heap} {v : Value} (hby : c.code = bytes) (hd : decode bytes pc = .ok (.getstatic index, 3)) (hp : pc + 3 = pc') (w : (Jvm.Cond.fieldLink own index O n d).before a0 Z = true) (eT : T.heap = h) (F : Sta Z h O n d v)
    (K : ∀ T' : State, Stand p l e R s m args below meth c T' locs cells slots → T'.heap = h → GoE p e below Fi (T'.setTop (mkF m pc' Ls (v :: rest)))) : GoE p e below Fi (T.setTop (mkF m pc Ls rest)) := by
  subst hp
  obtain ⟨T2, X2, e2, st2⟩ := getS X hx hZ hown (host := "") w Via.refl eT F (g := mkF m pc Ls rest) rfl (hb hby hd)
  exact (K T2 X2 e2).pull st2
theorem g_caload (X : Stand p l e R s m args below meth c T locs cells slots) (hx : p.tables.exec = Jvm.exec) {Z : State} (hZ : Z.Warmed39 s.vm) {h : Heap} {a : Addr} {k : ClassId} {n : Int32} {vs : List Value} {dv : Value} {j : Int32} {v : Value} (hby : c.code = bytes) (hd : decode bytes pc = .ok (.caload, 1)) (hp : pc + 1 = pc') (eT : T.heap = h) (F : Arv Z h a k .char n vs dv) (hj : ¬ j < 0 ∧ j < n) (u : vs.getD j.toNatClampNeg dv = v)
    (H : GoE p e below Fi (T.setTop (mkF m pc' Ls (v :: rest)))) : GoE p e below Fi (T.setTop (mkF m pc Ls (.int j :: .ref a :: rest))) := by
  subst hp
  obtain ⟨cl, A, q1, S, q3, Hh, G⟩ := F
  exact H.pull fun t k => X.caload hx (by rw [eT]; exact A.1) (State.isArrayOf_alike hZ.alike A.2.1) A.2.2 (inb_of S hj) (Hh.at (inb_of S hj) u) (g := mkF m pc Ls (.int j :: .ref a :: rest)) rfl rfl (hb hby hd) _ k
theorem g_baload (X : Stand p l e R s m args below meth c T locs cells slots) (hx : p.tables.exec = Jvm.exec) {Z : State} (hZ : Z.Warmed39 s.vm) {h : Heap} {a : Addr} {k : ClassId} {n : Int32} {vs : List Value} {dv : Value} {j : Int32} {v : Value} (hby : c.code = bytes) (hd : decode bytes pc = .ok (.baload, 1)) (hp : pc + 1 = pc') (eT : T.heap = h) (F : Arv Z h a k .byte n vs dv) (hj : ¬ j < 0 ∧ j < n) (u : vs.getD j.toNatClampNeg dv = v)
    (H : GoE p e below Fi (T.setTop (mkF m pc' Ls (v :: rest)))) : GoE p e below Fi (T.setTop (mkF m pc Ls (.int j :: .ref a :: rest))) := by
  subst hp
  obtain ⟨cl, A, q1, S, q3, Hh, G⟩ := F
  exact H.pull fun t k => X.baloadBytes hx (by rw [eT]; exact A.1) (State.isArrayOf_alike hZ.alike A.2.1) A.2.2 (inb_of S hj) (Hh.at (inb_of S hj) u) (g := mkF m pc Ls (.int j :: .ref a :: rest)) rfl rfl (hb hby hd) _ k
theorem g_aaload (X : Stand p l e R s m args below meth c T locs cells slots) (hx : p.tables.exec = Jvm.exec) {Z : State} (hZ : Z.Warmed39 s.vm) {h : Heap} {a : Addr} {k : ClassId} {n : Int32} {vs : List Value} {dv : Value} {ty : FieldType} {j : Int32} {v : Value} (hby : c.code = bytes) (hd : decode bytes pc = .ok (.aaload, 1)) (hp : pc + 1 = pc') (eT : T.heap = h) (F : Arv Z h a k ty n vs dv) (hty : ty.isReference = true) (hj : ¬ j < 0 ∧ j < n) (u : vs.getD j.toNatClampNeg dv = v)
    (H : GoE p e below Fi (T.setTop (mkF m pc' Ls (v :: rest)))) : GoE p e below Fi (T.setTop (mkF m pc Ls (.int j :: .ref a :: rest))) := by
  subst hp
  obtain ⟨cl, A, q1, S, q3, Hh, G⟩ := F
  exact H.pull fun t k => X.aaload hx (by rw [eT]; exact A.1) (State.isArrayOf_alike hZ.alike A.2.1) hty A.2.2 (inb_of S hj) (Hh.at (inb_of S hj) u) (g := mkF m pc Ls (.int j :: .ref a :: rest)) rfl rfl (hb hby hd) _ k
theorem g_alen (X : Stand p l e R s m args below meth c T locs cells slots) (hx : p.tables.exec = Jvm.exec) {Z : State} (hZ : Z.Warmed39 s.vm) {h : Heap} {a : Addr} {k : ClassId} {n : Int32} {vs : List Value} {dv : Value} {ty : FieldType} (hby : c.code = bytes) (hd : decode bytes pc = .ok (.arraylength, 1)) (hp : pc + 1 = pc') (eT : T.heap = h) (F : Arv Z h a k ty n vs dv)
    (H : GoE p e below Fi (T.setTop (mkF m pc' Ls (.int n :: rest)))) : GoE p e below Fi (T.setTop (mkF m pc Ls (.ref a :: rest))) := by
  subst hp
  obtain ⟨cl, A, q1, S, q3, Hh, G⟩ := F
  exact H.pull fun t k => X.arraylength hx (by rw [eT]; exact A.1) (State.isArrayOf_alike hZ.alike A.2.1) (g := mkF m pc Ls (.ref a :: rest)) rfl rfl (hb hby hd) _ (by rw [len_of S q3]; exact k)
theorem g_castore (X : Stand p l e R s m args below meth c T locs cells slots) (hx : p.tables.exec = Jvm.exec) {Z : State} (hZ : Z.Warmed39 s.vm) {h : Heap} {a : Addr} {k : ClassId} {n : Int32} {vs : List Value} {dv : Value} {j : Int32} {x : Int32} (i : Nat) (hby : c.code = bytes) (hd : decode bytes pc = .ok (.castore, 1)) (hp : pc + 1 = pc') (eT : T.heap = h) (F : Arv Z h a k .char n vs dv) (hj : ¬ j < 0 ∧ j < n) (hji : j.toNatClampNeg = i) (hi : i < vs.length)
    (K : ∀ T' : State, Stand p l e R s m args below meth c T' (locs ++ [⟨a, j.toNatClampNeg⟩]) cells slots → Wr h T'.heap a j.toNatClampNeg (.int (nar .char x)) → Arv Z T'.heap a k .char n (vs.set i (.int (nar .char x))) dv → GoE p e below Fi (T'.setTop (mkF m pc' Ls rest))) : GoE p e below Fi (T.setTop (mkF m pc Ls (.int x :: .int j :: .ref a :: rest))) := by
  subst hp
  obtain ⟨cl, A, q1, S, q3, Hh, G⟩ := F
  obtain ⟨T2, h2, X2, e2, W2, st2⟩ := stC X hx hZ eT A (inb_of S hj) (g := mkF m pc Ls (.int x :: .int j :: .ref a :: rest)) rfl rfl (hb hby hd)
  subst e2
  exact (K T2 X2 W2 (Arv.set A q1 S q3 Hh G (fits_nar_char x) W2 i hji hi)).pull st2
theorem g_bastore (X : Stand p l e R s m args below meth c T locs cells slots) (hx : p.tables.exec = Jvm.exec) {Z : State} (hZ : Z.Warmed39 s.vm) {h : Heap} {a : Addr} {k : ClassId} {n : Int32} {vs : List Value} {dv : Value} {j : Int32} {x : Int32} (i : Nat) (hby : c.code = bytes) (hd : decode bytes pc = .ok (.bastore, 1)) (hp : pc + 1 = pc') (eT : T.heap = h) (F : Arv Z h a k .byte n vs dv) (hj : ¬ j < 0 ∧ j < n) (hji : j.toNatClampNeg = i) (hi : i < vs.length)
    (K : ∀ T' : State, Stand p l e R s m args below meth c T' (locs ++ [⟨a, j.toNatClampNeg⟩]) cells slots → Wr h T'.heap a j.toNatClampNeg (.int (nar .byte x)) → Arv Z T'.heap a k .byte n (vs.set i (.int (nar .byte x))) dv → GoE p e below Fi (T'.setTop (mkF m pc' Ls rest))) : GoE p e below Fi (T.setTop (mkF m pc Ls (.int x :: .int j :: .ref a :: rest))) := by
  subst hp
  obtain ⟨cl, A, q1, S, q3, Hh, G⟩ := F
  obtain ⟨T2, h2, X2, e2, W2, st2⟩ := stB X hx hZ eT A (inb_of S hj) (g := mkF m pc Ls (.int x :: .int j :: .ref a :: rest)) rfl rfl (hb hby hd)
  subst e2
  exact (K T2 X2 W2 (Arv.set A q1 S q3 Hh G (fits_nar_byte x) W2 i hji hi)).pull st2
theorem g_newarray (X : Stand p l e R s m args below meth c T locs cells slots) (hx : p.tables.exec = Jvm.exec) {Z : State} {a0 : Array Value} (hZ : Z.Warmed39 s.vm) {aty : ArrayType} {h : Heap} {n : Int32} (cap : Nat) (ad : String) (hby : c.code = bytes) (hd : decode bytes pc = .ok (.newarray aty, 2)) (hp : pc + 2 = pc') (w : (Jvm.Cond.arrayClass (newarray.typeOf aty)).before a0 Z = true) (eT : T.heap = h) (hn : ¬ n < 0) (hcap : n.toNatClampNeg ≤ cap) (hbg : cap * 8 ≤ 536870912) (hce : cells + 1 ≤ R.cells) (hsl : slots + cap ≤ R.slots) (had : "[" ++ (newarray.typeOf aty).toString = ad)
    (K : ∀ (T' : State) (b : Addr) (cA : ClassId), b = h.size → Stand p l e R s m args below meth c T' locs (cells + 1) (slots + cap) → Ext h T'.heap → Arv Z T'.heap b cA (newarray.typeOf aty) n (List.replicate cap (defaultValue (newarray.typeOf aty))) (defaultValue (newarray.typeOf aty)) → Exa Z T'.heap b ad → GoE p e below Fi (T'.setTop (mkF m pc' Ls (.ref b :: rest)))) : GoE p e below Fi (T.setTop (mkF m pc Ls (.int n :: rest))) := by
  subst hp
  obtain ⟨T2, h2, cA, X2, e2, E2, A2, Ex2, st2⟩ := newPE X hx hZ w eT (g := mkF m pc Ls (.int n :: rest)) rfl (hb hby hd) rfl hn hcap hbg hce hsl had
  subst e2
  exact (K T2 _ cA rfl X2 E2 ((Arv.new A2 hn).pad (pad_rep [] _ cap)) Ex2).pull st2
theorem g_castY (X : Stand p l e R s m args below meth c T locs cells slots) (hx : p.tables.exec = Jvm.exec) {Z : State} {a0 : Array Value} (hZ : Z.Warmed39 s.vm) {own : String} (hown : s.vm.findClass own = some m.cls) {C : String} {index : Nat} {h : Heap} {a : Addr} (hby : c.code = bytes) (hd : decode bytes pc = .ok (.checkcast index, 3)) (hp : pc + 3 = pc') (w : (Jvm.Cond.classLink own index C).before a0 Z = true) (eT : T.heap = h) (F : Ins Z h a C true)
    (K : ∀ T' : State, Stand p l e R s m args below meth c T' locs cells slots → T'.heap = h → GoE p e below Fi (T'.setTop (mkF m pc' Ls (.ref a :: rest)))) : GoE p e below Fi (T.setTop (mkF m pc Ls (.ref a :: rest))) := by
  subst hp
  obtain ⟨T2, X2, e2, st2⟩ := castY X hx hZ hown w eT F (g := mkF m pc Ls (.ref a :: rest)) rfl rfl (hb hby hd)
  exact (K T2 X2 e2).pull st2
theorem g_instY (X : Stand p l e R s m args below meth c T locs cells slots) (hx : p.tables.exec = Jvm.exec) {Z : State} {a0 : Array Value} (hZ : Z.Warmed39 s.vm) {own : String} (hown : s.vm.findClass own = some m.cls) {C : String} {index : Nat} {h : Heap} {a : Addr} (hby : c.code = bytes) (hd : decode bytes pc = .ok (.instanceof index, 3)) (hp : pc + 3 = pc') (w : (Jvm.Cond.classLink own index C).before a0 Z = true) (eT : T.heap = h) (F : Ins Z h a C true)
    (K : ∀ T' : State, Stand p l e R s m args below meth c T' locs cells slots → T'.heap = h → GoE p e below Fi (T'.setTop (mkF m pc' Ls (.int 1 :: rest)))) : GoE p e below Fi (T.setTop (mkF m pc Ls (.ref a :: rest))) := by
  subst hp
  obtain ⟨T2, X2, e2, st2⟩ := instY X hx hZ hown w eT F (g := mkF m pc Ls (.ref a :: rest)) rfl rfl (hb hby hd)
  exact (K T2 X2 e2).pull st2
theorem g_castNull (X : Stand p l e R s m args below meth c T locs cells slots) (hx : p.tables.exec = Jvm.exec) {index : Nat} (hby : c.code = bytes) (hd : decode bytes pc = .ok (.checkcast index, 3)) (hp : pc + 3 = pc') (H : GoE p e below Fi (T.setTop (mkF m pc' Ls (.null :: rest)))) : GoE p e below Fi (T.setTop (mkF m pc Ls (.null :: rest))) := by
  subst hp
  exact H.pull fun t k => X.checkcastNull hx (g := mkF m pc Ls (.null :: rest)) rfl rfl (hb hby hd) _ k
theorem g_eqI {a b : Int32} (h : a = b) (K : GoE p e below Fi (T.setTop (mkF m pc Ls (.int b :: rest)))) : GoE p e below Fi (T.setTop (mkF m pc Ls (.int a :: rest))) := h ▸ K
end GoKit
section GoWKit
variable {p : Program} {l : Launch} {e : Env} {R : Room} {s : State} {m : MethodId} {args : Array Value} {below : List Frame} {meth : Method} {c : Code} {T : State} {locs : List Loc} {cells slots : Nat} {Q : Option Value → Heap → List Loc → Prop} {rc rs : Nat} {Fi : Outcome → State → Prop} {bytes : ByteArray} {pc pc' : Nat} {Ls : Array Slot} {rest : List Value}
abbrev GoW (p : Program) (e : Env) (below : List Frame) (s : State) (rc rs : Nat) (Q : Option Value → Heap → List Loc → Prop) (S : State) : Prop :=
  GoE p e below (fun o t => ∃ v L, o = .returned v ∧ Q v t.heap L ∧ ReturnedEndW s o t L rc rs) S
theorem GoW.of_go {vm0 : Vm} {k0 : Nat} {S : State} (Q : Option Value → Heap → List Loc → Prop) (hS : s.Since vm0 k0) (h : Go p e below (s.setVm vm0) rc rs (fun v h L => Q v h L ∧ k0 ≤ h.size) S) : GoW p e below s rc rs Q S :=
  h.imp fun o t ⟨v, L, h1, h2, h3⟩ => by
    obtain ⟨a, b, d⟩ := hS.ended h3.2.1 h2.2 h3.2.2
    exact ⟨v, L, h1, h2.1, h3.1, a, b, d⟩
def CtrW (l : Launch) (Z : State) (y : MethodName) (bytes : ByteArray) (ml : Nat) (ret : Option FieldType) (ws : List Jvm.Cond) (rm : Room) (as : Array Value) (h0 : Heap) (Q : Option Value → Heap → List Loc → Prop) : Prop :=
  MetFree l y (head1 (Jvm.Cond.code y bytes ml ret :: ws) rm) (fun a U => a = as ∧ Z.Warmed39 U.vm ∧ U.heap = h0) (fun _ _ _ _ _ => True) (fun _ U o U' => ∃ v L, o = .returned v ∧ Q v U'.heap L ∧ ReturnedEndW U o U' L rm.cells rm.slots)
theorem CtrW.enter {Z : State} {y : MethodName} {ml : Nat} {ret : Option FieldType} {ws : List Jvm.Cond} {rm : Room} {as : Array Value} {h0 : Heap} (hpl : plainFor y = true) (hef : ∀ m, entryFrame m as ml = mkF m 0 Ls [])
    (body : ∀ (p : Program) (e : Env) (s : State) (m : MethodId) (below : List Frame) (meth : Method) (c : Code) (T : State), p.tables.exec = Jvm.exec → c.code = bytes → c.maxLocals = ml → (s.setVm s.vm).vm.findClass y.cls = some m.cls → meth.name = y.name → meth.sig.returnType = ret → meth.locks = false → Z.Warmed39 (s.setVm s.vm).vm → s.heap = h0 →
      Stand p l e rm (s.setVm s.vm) m as below meth c T [] 0 0 → T.heap = h0 → s.Since s.vm h0.size → GoW p e below s rm.cells rm.slots Q (T.setTop (mkF m 0 Ls []))) : CtrW l Z y bytes ml ret ws rm as h0 Q := by
  refine MetFree.of_bodySF hpl hisR ?_
  intro p e s m args below meth c s₁ Bd hml0 hP hK
  obtain ⟨rfl, hZ, hh⟩ := hP
  have h := body p e s m below meth c s₁ Bd.exec Bd.bytes hml0 (findClass_of_methodNamed Bd.named) (name_of_methodNamed Bd.named Bd.method).1 Bd.returns (BodyLoose.notSynchronized Bd) hZ hh (Stand.of_body Bd) (by rw [← hh, Bd.state]; rfl) ((State.WarmedH.refl s).since _)
  exact h.pull fun t k => castTop (hef m) k
theorem g_clone (X : Stand p l e R s m args below meth c T locs cells slots) (hx : p.tables.exec = Jvm.exec) {Z : State} {a0 : Array Value} (hZ : Z.Warmed39 s.vm) {own : String} (hown : s.vm.findClass own = some m.cls) {index : Nat} {ad : String} {h : Heap} {a : Addr} {k : ClassId} {n : Int32} {vs : List Value} {dv : Value} {ty : FieldType} {W : Nat} (cap : Nat) (hby : c.code = bytes) (hd : decode bytes pc = .ok (.invokevirtual index, 3)) (hp : pc + 3 = pc') (hml : Ls.size = c.maxLocals)
    (w1 : (Jvm.Cond.methodLink own index ⟨ad, "clone", "()Ljava/lang/Object;"⟩).before a0 Z = true) (w2 : (Jvm.Cond.sameMethod ad "java/lang/Object" "clone" "()Ljava/lang/Object;").before a0 Z = true) (w3 : (Jvm.Cond.native ⟨"java/lang/Object", "clone", "()Ljava/lang/Object;"⟩).before a0 Z = true) (w4 : (Jvm.Cond.instanceMethod ⟨"java/lang/Object", "clone", "()Ljava/lang/Object;"⟩).before a0 Z = true) (w5 : (Jvm.Cond.selects ad ⟨ad, "clone", "()Ljava/lang/Object;"⟩ ⟨"java/lang/Object", "clone", "()Ljava/lang/Object;"⟩).before a0 Z = true) (w6 : (Jvm.Cond.castable ad "java/lang/Cloneable").before a0 Z = true)
    (eT : T.heap = h) (F : Arv Z h a k ty n vs dv) (E : Exa Z h a ad) (hfr : 1 ≤ R.frames) (hW : 2 * 0 + (rest.map fun v => v.category).sum ≤ W) (hlo : W + 14 ≤ R.locals) (hcap : n.toNatClampNeg ≤ cap) (hce : cells + 1 ≤ R.cells) (hsl : slots + cap ≤ R.slots)
    (K : ∀ (T' : State) (b : Addr), b = h.size → Stand p l e R s m args below meth c T' locs (cells + 1) (slots + cap) → Ext h T'.heap → Arv Z T'.heap b k ty n vs dv → Exa Z T'.heap b ad → GoE p e below Fi (T'.setTop (mkF m pc' Ls (.ref b :: rest)))) : GoE p e below Fi (T.setTop (mkF m pc Ls (.ref a :: rest))) := by
  subst hp
  obtain ⟨T2, h2, X2, e2, E2, A2, Ex2, st2⟩ := cloneH X hx hZ hown w1 w2 w3 w4 w5 w6 eT F.arh E (g := mkF m pc Ls (.ref a :: rest)) rfl hml rfl (hb hby hd) hfr hW hlo hcap hce hsl
  subst e2
  exact (K T2 _ rfl X2 E2 A2 Ex2).pull st2
end GoWKit
section GoHKit
variable {p : Program} {l : Launch} {e : Env} {R : Room} {s : State} {m : MethodId} {args : Array Value} {below : List Frame} {meth : Method} {c : Code} {T : State} {locs : List Loc} {cells slots : Nat} {Q : Option Value → Heap → List Loc → Prop} {rc rs : Nat} {Fi : Outcome → State → Prop} {bytes : ByteArray} {pc pc' : Nat} {Ls : Array Slot} {rest : List Value} {Z : State} {EL : List (String × Nat)}
abbrev GoH (Z : State) (EL : List (String × Nat)) (p : Program) (e : Env) (below : List Frame) (s : State) (rc rs : Nat) (Q : Option Value → Heap → List Loc → Prop) (S : State) : Prop :=
  GoE p e below (fun o t => ∃ v L, o = .returned v ∧ Q v t.heap L ∧ CHr Z EL s.vm s.heap t.vm t.heap ∧ ReturnedEndW s o t L rc rs) S
theorem GoH.of_go {vm0 : Vm} {k0 : Nat} {S : State} {a0 : Array Value} (Q : Option Value → Heap → List Loc → Prop) (hS : s.Since vm0 k0) (hZ : Z.Warmed39 (s.setVm vm0).vm) (w : EW Z a0 EL) (h : Go p e below (s.setVm vm0) rc rs (fun v h L => Q v h L ∧ k0 ≤ h.size ∧ CHr Z EL s.vm s.heap vm0 h) S) : GoH Z EL p e below s rc rs Q S :=
  h.imp fun o t ⟨v, L, h1, h2, h3⟩ => by
    obtain ⟨a, b, d⟩ := hS.ended h3.2.1 h2.2.1 h3.2.2
    have q := CHv.later (h := t.heap) (h' := t.heap) hZ (show (Wst Z vm0 t.heap).Warmed39 t.vm from h3.2.1.wide) w ⟨Nat.le_refl _, fun _ _ q => q⟩ (Or.inl h3.2.1.interned_eq) h2.2.2.1
    exact ⟨v, L, h1, h2.1, h2.2.2.trans ⟨q.1, Nat.le_refl _, q.2⟩, h3.1, a, b, d⟩
def CtrH (EL : List (String × Nat)) (l : Launch) (Z : State) (y : MethodName) (bytes : ByteArray) (ml : Nat) (ret : Option FieldType) (ws : List Jvm.Cond) (rm : Room) (as : Array Value) (h0 : Heap) (Q : Option Value → Heap → List Loc → Prop) : Prop :=
  MetFree l y (head1 (Jvm.Cond.code y bytes ml ret :: ws) rm) (fun a U => a = as ∧ Z.Warmed39 U.vm ∧ U.heap = h0 ∧ CHv Z EL U.vm h0) (fun _ _ _ _ _ => True) (fun _ U o U' => ∃ v L, o = .returned v ∧ Q v U'.heap L ∧ CHr Z EL U.vm U.heap U'.vm U'.heap ∧ ReturnedEndW U o U' L rm.cells rm.slots)
theorem CtrH.enter {y : MethodName} {ml : Nat} {ret : Option FieldType} {ws : List Jvm.Cond} {rm : Room} {as : Array Value} {h0 : Heap} (hpl : plainFor y = true) (hef : ∀ m, entryFrame m as ml = mkF m 0 Ls [])
    (body : ∀ (p : Program) (e : Env) (s : State) (m : MethodId) (below : List Frame) (meth : Method) (c : Code) (T : State), p.tables.exec = Jvm.exec → c.code = bytes → c.maxLocals = ml → (s.setVm s.vm).vm.findClass y.cls = some m.cls → meth.name = y.name → meth.sig.returnType = ret → meth.locks = false → Z.Warmed39 (s.setVm s.vm).vm → s.heap = h0 →
      Stand p l e rm (s.setVm s.vm) m as below meth c T [] 0 0 → T.heap = h0 → s.Since s.vm h0.size → CHr Z EL s.vm s.heap s.vm h0 → GoH Z EL p e below s rm.cells rm.slots Q (T.setTop (mkF m 0 Ls []))) : CtrH EL l Z y bytes ml ret ws rm as h0 Q := by
  refine MetFree.of_bodySF hpl hisR ?_
  intro p e s m args below meth c s₁ Bd hml0 hP hK
  obtain ⟨rfl, hZ, hh, hC⟩ := hP
  have h := body p e s m below meth c s₁ Bd.exec Bd.bytes hml0 (findClass_of_methodNamed Bd.named) (name_of_methodNamed Bd.named Bd.method).1 Bd.returns (BodyLoose.notSynchronized Bd) hZ hh (Stand.of_body Bd) (by rw [← hh, Bd.state]; rfl) ((State.WarmedH.refl s).since _) (by rw [hh]; exact CHr.refl hC)
  exact h.pull fun t k => castTop (hef m) k
theorem g_ldcH {vm0 : Vm} (X : Stand p l e R (s.setVm vm0) m args below meth c T locs cells slots) (hx : p.tables.exec = Jvm.exec) {a0 : Array Value} (hZ : Z.Warmed39 (s.setVm vm0).vm) {own : String} (hown : (s.setVm vm0).vm.findClass own = some m.cls) {text : String} {index : Nat} {h : Heap} {k0 : Nat} (n : Nat) (vs : List Value) (z : Int32) (hby : c.code = bytes) (hd : decode bytes pc = .ok (.ldc index, 2)) (hp : pc + 2 = pc') (w : (Jvm.Cond.stringLink own index text).before a0 Z = true) (wS : ∀ a ∈ Bundle.stringAtoms, a.before a0 Z = true) (eT : T.heap = h) (hS : s.Since vm0 k0) (hk : k0 ≤ h.size) (hEL : EW Z a0 EL) (hmem : (own, index) ∈ EL) (C : CHv Z EL vm0 h) (ht : (∀ c ∈ text.toList, c.toNat < 256) ∧ text.toList.map (fun c => Value.int (Jvm.Lit.byteI c.toNat.toUInt16)) = vs) (hz : ¬ z < 0) (hl : z.toNatClampNeg = vs.length) (hn : 4 * text.toList.length ≤ n) (hbig : n ≤ 536870912) (hc : cells + 2 ≤ R.cells) (hl' : slots + (n + 4) ≤ R.slots)
    (K : ∀ (a : Addr) (T' : State) (k1 : Nat) (b : Addr) (k : ClassId), Stand p l e R (s.setVm T'.vm) m args below meth c T' locs (cells + 2) (slots + (n + 4)) → Ext h T'.heap → s.Since T'.vm k1 → k1 ≤ T'.heap.size → Z.Warmed39 (s.setVm T'.vm).vm → (s.setVm T'.vm).vm.findClass own = some m.cls → Exa Z T'.heap a "java/lang/String" → Fld Z T'.heap a "java/lang/String" "coder" "B" (.int 0) → Fld Z T'.heap a "java/lang/String" "value" "[B" (.ref b) → Arv Z T'.heap b k .byte z vs (.int 0) → CHr Z EL vm0 h T'.vm T'.heap → (∀ x, Safe Z EL T'.vm T'.heap x → x ≠ a ∧ x ≠ b) → GoE p e below Fi (T'.setTop (mkF m pc' Ls (.ref a :: rest)))) : GoE p e below Fi (T.setTop (mkF m pc Ls rest)) := by
  subst hp
  obtain ⟨a, T2, h2, k1, b, k, X2, e2, E2, S2, q2, Z2, o2, x1, f1, f2, v1, -, -, C2, L2, sf, st2⟩ := ldcCH X hx hZ hown w wS eT hS hk hEL hmem C ht hz hl (g := mkF m pc Ls rest) rfl (hb hby hd) hn hbig hc hl'
  subst e2
  exact (K a T2 k1 b k X2 E2 S2 q2 Z2 o2 x1 f1 f2 v1 C2 sf).pull st2
theorem g_callSH {vm0 : Vm} (X : Stand p l e R (s.setVm vm0) m args below meth c T locs cells slots) (hx : p.tables.exec = Jvm.exec) {a0 : Array Value} (hZ : Z.Warmed39 (s.setVm vm0).vm) {own : String} (hown : (s.setVm vm0).vm.findClass own = some m.cls) {y : MethodName} {cb : ByteArray} {maxL : Nat} {ret : Option FieldType} {rm : Room} {as' : Array Value} {h : Heap} {Q' : Option Value → Heap → List Loc → Prop} {W : Nat} {index : Nat} {argsL : List Value} {k0 : Nat} (hby : c.code = bytes) (hd : decode bytes pc = .ok (.invokestatic index, 3)) (hp : pc + 3 = pc') (hml : Ls.size = c.maxLocals)
    (w1 : (Jvm.Cond.methodLink own index y).before a0 Z = true) (w2 : (Jvm.Cond.static y).before a0 Z = true) (w3 : (Jvm.Cond.initialized y.cls).before a0 Z = true) (w4 : (Jvm.Cond.code y cb maxL ret).before a0 Z = true) (hy : y.cls ≠ "java/lang/invoke/MethodHandle" ∧ y.cls ≠ "java/lang/invoke/VarHandle")
    (C : CtrH EL l Z y cb maxL ret [] rm as' h Q') (eT : T.heap = h) (hS : s.Since vm0 k0) (hk : k0 ≤ h.size) (hEL : EW Z a0 EL) (hC : CHv Z EL vm0 h) (hfr : rm.frames + 1 ≤ R.frames) (hlo : W + (maxL + 11) + rm.locals ≤ R.locals) (hce : cells + rm.cells ≤ R.cells) (hsl : slots + rm.slots ≤ R.slots) {stk : List Value} {psig : MethodDescriptor} (has : argsL.toArray = as') (hpd : parseMethodDescriptor y.desc = some psig) (hlen : argsL.length = psig.parameters.length) (hst : stk = argsL.reverse ++ rest) (hW : 2 * 0 + (rest.map fun v => v.category).sum ≤ W)
    (K : ∀ (v : Option Value) (T' : State) (L : List Loc), Stand p l e R (s.setVm T'.vm) m args below meth c T' (locs ++ L) (cells + rm.cells) (slots + rm.slots) → Q' v T'.heap L → s.Since T'.vm T'.heap.size → Z.Warmed39 (s.setVm T'.vm).vm → (s.setVm T'.vm).vm.findClass own = some m.cls → CHr Z EL vm0 h T'.vm T'.heap → GoE p e below Fi (T'.setTop (mkF m pc' Ls (v.toList ++ rest)))) : GoE p e below Fi (T.setTop (mkF m pc Ls stk)) := by
  subst hp hst has
  obtain ⟨v, _, ⟨T4, L4, k4, n4⟩, -, X4, S4, g4, ⟨Lc, hQ, l4, y4, z4, C4⟩, st⟩ := callSS X hx (y := y) hown (mvT hZ w1) (mvT hZ w2) (mvT hZ w3) (mvT hZ w4) hy (backOfSH (W := W) C hZ w4 w3 hfr hlo hEL hC) (g := mkF m pc Ls (argsL.reverse ++ rest)) rfl hml (argsL := argsL) (rest := rest) (fun sig h => by rw [hpd] at h; cases h; exact hlen) rfl hW (hb hby hd) (fun _ _ => ⟨rfl, eT, hce, hsl⟩)
  dsimp only [Pt.U, Pt.locs, Pt.cells, Pt.slots] at X4 l4 y4 z4 st hQ S4 g4 C4
  subst l4 y4 z4
  exact (K v T4 Lc X4 hQ (hS.trans S4 (Nat.le_trans hk (by rw [← eT]; exact g4))) (State.Warmed39.trans hZ S4.1) ((S4.1.alike.findClass _ _).trans hown) C4).pull fun t k => st.trans k
theorem g_callIH {vm0 : Vm} (X : Stand p l e R (s.setVm vm0) m args below meth c T locs cells slots) (hx : p.tables.exec = Jvm.exec) {a0 : Array Value} (hZ : Z.Warmed39 (s.setVm vm0).vm) {own : String} (hown : (s.setVm vm0).vm.findClass own = some m.cls) {y : MethodName} {cb : ByteArray} {maxL : Nat} {rm : Room} {as' : Array Value} {h : Heap} {Q' : Option Value → Heap → List Loc → Prop} {W : Nat} {index : Nat} {argsL : List Value} {b : Addr} {k0 : Nat} (hby : c.code = bytes) (hd : decode bytes pc = .ok (.invokespecial index, 3)) (hp : pc + 3 = pc') (hml : Ls.size = c.maxLocals)
    (w1 : (Jvm.Cond.methodLink own index y).before a0 Z = true) (w2 : (Jvm.Cond.instanceMethod y).before a0 Z = true) (w3 : (Jvm.Cond.initialized y.cls).before a0 Z = true) (w4 : (Jvm.Cond.code y cb maxL none).before a0 Z = true) (hin : y.name = "<init>") (hy : y.cls ≠ "java/lang/invoke/MethodHandle" ∧ y.cls ≠ "java/lang/invoke/VarHandle")
    (C : CtrH EL l Z y cb maxL none [] rm as' h Q') (eT : T.heap = h) (hS : s.Since vm0 k0) (hk : k0 ≤ h.size) (hEL : EW Z a0 EL) (hC : CHv Z EL vm0 h) (hfr : rm.frames + 1 ≤ R.frames) (hlo : W + (maxL + 11) + rm.locals ≤ R.locals) (hce : cells + rm.cells ≤ R.cells) (hsl : slots + rm.slots ≤ R.slots) {stk : List Value} {psig : MethodDescriptor} (has : (Value.ref b :: argsL).toArray = as') (hpd : parseMethodDescriptor y.desc = some psig) (hlen : argsL.length = psig.parameters.length) (hst : stk = argsL.reverse ++ Value.ref b :: rest) (hW : 2 * 0 + (rest.map fun v => v.category).sum ≤ W)
    (K : ∀ (v : Option Value) (T' : State) (L : List Loc), Stand p l e R (s.setVm T'.vm) m args below meth c T' (locs ++ L) (cells + rm.cells) (slots + rm.slots) → Q' v T'.heap L → s.Since T'.vm T'.heap.size → Z.Warmed39 (s.setVm T'.vm).vm → (s.setVm T'.vm).vm.findClass own = some m.cls → CHr Z EL vm0 h T'.vm T'.heap → GoE p e below Fi (T'.setTop (mkF m pc' Ls (v.toList ++ rest)))) : GoE p e below Fi (T.setTop (mkF m pc Ls stk)) := by
  subst hp hst has
  obtain ⟨v, _, ⟨T4, L4, k4, n4⟩, -, X4, S4, g4, ⟨Lc, hQ, l4, y4, z4, C4⟩, st⟩ := X.specialBackS hx (y := y) hin hown (mvT hZ w1) (mvT hZ w2) (mvT hZ w4) hy (backOfSH (W := W) C hZ w4 w3 hfr hlo hEL hC) (g := mkF m pc Ls (argsL.reverse ++ Value.ref b :: rest)) rfl hml (Steps.refl _) (a := b) (argsL := argsL) (rest := rest) (fun sig h => by rw [hpd] at h; cases h; exact hlen) rfl hW (hb hby hd) (fun _ _ => ⟨rfl, eT, hce, hsl⟩)
  dsimp only [Pt.U, Pt.locs, Pt.cells, Pt.slots] at X4 l4 y4 z4 st hQ S4 g4 C4
  subst l4 y4 z4
  exact (K v T4 Lc X4 hQ (hS.trans S4 (Nat.le_trans hk (by rw [← eT]; exact g4))) (State.Warmed39.trans hZ S4.1) ((S4.1.alike.findClass _ _).trans hown) C4).pull fun t k => st.trans k
end GoHKit

theorem own_lenS {args : Array Value} {s : State} {t : Term} {b : Addr} {cl : Cell} {ty : FieldType} {n : Int32} (ht : t.eval args s none [] s = some (.ref b)) (A : Arr s s.heap b cl ty) (h : (Jvm.Cond.eq (.length t) (.int n)).value args s none s [] = some true) : cl.slots.size < 2 ^ 31 ∧ cl.slots.size.toInt32 = n := by
  obtain ⟨x, y, h1, h2, -, -⟩ := cmp_v (Or.inl h)
  have hA : s.arrayAt? b = some cl := A.fin (Vm.Alike.refl _)
  by_cases q : cl.slots.size < 2 ^ 31
  · exact ⟨q, gotT (Cond.eq_ints (len_f ht hA q) (Term.int_eval n)) h⟩
  · exfalso
    have h3 : (Term.length t).eval args s none [] s = none := by
      simp only [Term.eval, ht, Option.bind_eq_bind, Option.bind_some, hA]
      exact if_neg q
    rw [h3] at h1; cases h1
theorem own_elemI {args : Array Value} {s : State} {t : Term} {b : Addr} {cl : Cell} {i v : Int32} (ht : t.eval args s none [] s = some (.ref b)) (hc : s.heap[b]? = some cl) (h : (Jvm.Cond.eq (.elem t (.int i)) (.int v)).value args s none s [] = some true) : cl.slots[i.toNatClampNeg]? = some (.int v) := by
  obtain ⟨x, y, h1, h2, -, hk⟩ := cmp_v (Or.inl h)
  cases (Term.int_eval v).symm.trans h2
  obtain ⟨c2, e1, -, e3⟩ := elem_at h1 ht (Term.int_eval i)
  cases hc.symm.trans e1
  obtain ⟨x, rfl⟩ : ∃ z, x = Value.int z := hk
  rw [e3]
  have := gotT (Cond.eq_ints h1 (Term.int_eval v)) h
  rw [this]
theorem own_elemL {args : Array Value} {s : State} {t : Term} {b : Addr} {cl : Cell} {i : Int32} {v : Int64} (ht : t.eval args s none [] s = some (.ref b)) (hc : s.heap[b]? = some cl) (h : (Jvm.Cond.eq (.elem t (.int i)) (.long v)).value args s none s [] = some true) : cl.slots[i.toNatClampNeg]? = some (.long v) := by
  obtain ⟨x, y, h1, h2, -, hk⟩ := cmp_v (Or.inl h)
  have h2' : (Term.long v).eval args s none [] s = some (.long v) := by simp [Term.eval]
  cases h2'.symm.trans h2
  obtain ⟨c2, e1, -, e3⟩ := elem_at h1 ht (Term.int_eval i)
  cases hc.symm.trans e1
  obtain ⟨x, rfl⟩ : ∃ z, x = Value.long z := hk
  rw [e3]
  have := gotT (eq_L h1 h2') h
  rw [this]
theorem own_fldI {args : Array Value} {s : State} {t : Term} {b : Addr} {C n : String} {v : Int32} (ht : t.eval args s none [] s = some (.ref b)) (h : (Jvm.Cond.eq (.field t C n "I") (.int v)).value args s none s [] = some true) : Fld s s.heap b C n "I" (.int v) := by
  obtain ⟨x, y, h1, h2, -, hk⟩ := cmp_v (Or.inl h)
  cases (Term.int_eval v).symm.trans h2
  have h3 := h1
  rw [fld_at ht] at h3
  obtain ⟨x, rfl⟩ : ∃ z, x = Value.int z := hk
  have := gotT (Cond.eq_ints h1 (Term.int_eval v)) h
  rw [this] at h3
  exact Fld.start h3
theorem own_fldN {args : Array Value} {s : State} {t : Term} {b : Addr} {C n d : String} (ht : t.eval args s none [] s = some (.ref b)) (h : (Jvm.Cond.eq (.field t C n d) .null).value args s none s [] = some true) : Fld s s.heap b C n d .null := by
  have h1 := null_v h
  rw [fld_at ht] at h1
  exact Fld.start h1
theorem own_stI {args : Array Value} {s : State} {t : Term} {v : Int32} (h : (Jvm.Cond.eq t (.int v)).value args s none s [] = some true) : t.eval args s none [] s = some (.int v) := by
  obtain ⟨x, y, h1, h2, -, hk⟩ := cmp_v (Or.inl h)
  cases (Term.int_eval v).symm.trans h2
  obtain ⟨x, rfl⟩ : ∃ z, x = Value.int z := hk
  have := gotT (Cond.eq_ints h1 (Term.int_eval v)) h
  rw [this] at h1
  exact h1
theorem own_stR {args : Array Value} {s : State} {t u : Term} {a b : Addr} (h1 : t.eval args s none [] s = some (.ref a)) (h2 : u.eval args s none [] s = some (.ref b)) (h : (Jvm.Cond.eq t u).value args s none s [] = some true) : a = b := by
  have := gotT (eq_R h1 h2 rfl rfl) h
  cases this
  rfl

def ELs : List (String × Nat) := [("com/example/phaseline/phaseline/game/KindNamedPinLaw", 8), ("com/example/phaseline/phaseline/game/KindNamedPinLaw", 10), ("com/example/phaseline/phaseline/game/KindNamedPinLaw", 12), ("com/example/phaseline/phaseline/game/KindNamedPinLaw", 14), ("com/example/phaseline/phaseline/game/KindNamedPinLaw", 16), ("java/lang/String", 7)]
def wl_0 : List Int32 := [(115 : Int32), (105 : Int32), (100 : Int32), (101 : Int32)]
def wl_1 : List Int32 := [(110 : Int32), (117 : Int32), (109 : Int32), (98 : Int32), (101 : Int32), (114 : Int32)]
def wl_2 : List Int32 := [(116 : Int32), (101 : Int32), (120 : Int32), (116 : Int32)]
def wl_3 : List Int32 := [(121 : Int32), (101 : Int32), (115 : Int32), (45 : Int32), (110 : Int32), (111 : Int32)]
def wl_4 : List Int32 := [(110 : Int32), (111 : Int32), (110 : Int32), (101 : Int32)]
def BY (c : Int32) : Prop := 0 ≤ c.toInt ∧ c.toInt < 256
def lat (c : Int32) : Int32 := nar .byte (c.toInt8.toInt32)
def lch (a : Int32) : Int32 := (a &&& (255 : Int32)).toUInt32.toUInt16.toUInt32.toInt32
theorem own_tl (a b : Int32) : (a < b) = (a.toInt < b.toInt) := propext Int32.lt_iff_toInt_lt
theorem own_bl (x : Int32) : BY (lch x) := by
  have e8 : ((2 ^ 8 : Nat) : Int) = 256 := rfl
  have a := c_mask x 255 8 (by decide) (by decide)
  rw [e8] at a
  unfold BY lch
  generalize x &&& (255 : Int32) = y at a ⊢
  have q := c_i2c y
  omega
theorem own_narc {c : Int32} (h : BY c) : nar .char c = c := by
  obtain ⟨a, b⟩ := h
  have q := c_i2c c
  exact Int32.toInt_inj.mp (show c.toUInt32.toUInt16.toUInt32.toInt32.toInt = _ by omega)
theorem own_le255 {c : Int32} (h : BY c) : ¬ (255 : Int32) < c := by
  obtain ⟨a, b⟩ := h
  rw [own_tl]
  have e : (255 : Int32).toInt = 255 := by decide
  omega
def atV (bs : List Int32) (i pos c : Int32) : Int32 := if i = pos then c else if i < Int32.ofNat bs.length then lch (bs.getD i.toNatClampNeg 0) else c
theorem own_at (bs : List Int32) (i pos : Int32) {c : Int32} (h : BY c) : BY (atV bs i pos c) := by
  unfold atV
  split
  · exact h
  · split
    · exact own_bl _
    · exact h
def buildL (bs : List Int32) (len pos c : Int32) : List Int32 := if len = 0 then [] else if len = (1 : Int32) then [lat (atV bs (0 : Int32) pos c)] else if len = (2 : Int32) then [lat (atV bs (0 : Int32) pos c), lat (atV bs (1 : Int32) pos c)] else if len = (3 : Int32) then [lat (atV bs (0 : Int32) pos c), lat (atV bs (1 : Int32) pos c), lat (atV bs (2 : Int32) pos c)] else if len = (4 : Int32) then [lat (atV bs (0 : Int32) pos c), lat (atV bs (1 : Int32) pos c), lat (atV bs (2 : Int32) pos c), lat (atV bs (3 : Int32) pos c)] else if len = (5 : Int32) then [lat (atV bs (0 : Int32) pos c), lat (atV bs (1 : Int32) pos c), lat (atV bs (2 : Int32) pos c), lat (atV bs (3 : Int32) pos c), lat (atV bs (4 : Int32) pos c)] else if len = (6 : Int32) then [lat (atV bs (0 : Int32) pos c), lat (atV bs (1 : Int32) pos c), lat (atV bs (2 : Int32) pos c), lat (atV bs (3 : Int32) pos c), lat (atV bs (4 : Int32) pos c), lat (atV bs (5 : Int32) pos c)] else [lat (atV bs (0 : Int32) pos c), lat (atV bs (1 : Int32) pos c), lat (atV bs (2 : Int32) pos c), lat (atV bs (3 : Int32) pos c), lat (atV bs (4 : Int32) pos c), lat (atV bs (5 : Int32) pos c), lat (atV bs (6 : Int32) pos c)]
def Txt (Z : State) (h : Heap) (s : Addr) (bs : List Int32) : Prop := Exa Z h s "java/lang/String" ∧ bs.length ≤ 7 ∧ ∃ (b : Addr) (k : ClassId), Fld Z h s "java/lang/String" "value" "[B" (.ref b) ∧ Fld Z h s "java/lang/String" "coder" "B" (.int (0 : Int32)) ∧ Arv Z h b k .byte (Int32.ofNat bs.length) (bs.map Value.int) (.int 0)
theorem Txt.lt {Z : State} {h : Heap} {s : Addr} {cs : List Int32} (T : Txt Z h s cs) : s < h.size := T.1.lt
theorem Txt.ext {Z : State} {h h' : Heap} {s : Addr} {cs : List Int32} (T : Txt Z h s cs) (E : Ext h h') : Txt Z h' s cs := by
  obtain ⟨a, a2, b, k, f1, f2, v⟩ := T
  exact ⟨a.ext E, a2, b, k, f1.ext E, f2.ext E, v.ext E⟩
theorem Txt.keep0 {Z : State} {h h' : Heap} {s : Addr} {cs : List Int32} (T : Txt Z h s cs) (K : Keep h h' []) : Txt Z h' s cs := by
  obtain ⟨a, a2, b, k, f1, f2, v⟩ := T
  exact ⟨a.keep K, a2, b, k, f1.keep K nin0, f2.keep K nin0, v.keep K nin0⟩
theorem own_ofn {n m : Nat} (h1 : n ≤ 7) (h2 : m ≤ 7) (h : Int32.ofNat n = Int32.ofNat m) : n = m := by
  have z := congrArg Int32.toInt h
  have e1 : (Int32.ofNat n).toInt = n := Int32.toInt_ofNat_of_lt (by omega)
  have e2 : (Int32.ofNat m).toInt = m := Int32.toInt_ofNat_of_lt (by omega)
  omega
theorem own_clamp {n : Nat} (h1 : n ≤ 7) : (Int32.ofNat n).toNatClampNeg = n := by
  have e1 : (Int32.ofNat n).toInt = n := Int32.toInt_ofNat_of_lt (by omega)
  simp only [Int32.toNatClampNeg, e1]
  omega
theorem own_getD (bs : List Int32) (j : Nat) : (bs.map Value.int).getD j (.int 0) = .int (bs.getD j 0) := by
  simp only [List.getD_eq_getElem?_getD, List.getElem?_map]
  cases bs[j]? <;> rfl
theorem own_txt {Z : State} {h : Heap} {s : Addr} {xs ys : List Int32} (T1 : Txt Z h s xs) (T2 : Txt Z h s ys) : xs = ys := by
  obtain ⟨-, l1, b, k, f1, -, c1, A1, q1, S1, p1, H1, -⟩ := T1
  obtain ⟨-, l2, b', k', f2, -, c2, A2, q2, S2, p2, H2, -⟩ := T2
  have eb : b = b' := by
    by_cases e : b = b'
    · exact e
    · exact absurd rfl (f1.ne f2 (fun z => e (by injection z)))
  subst eb
  have ec : c1 = c2 := Option.some.inj (A1.1.symm.trans A2.1)
  subst ec
  rw [own_clamp l1] at S1
  rw [own_clamp l2] at S2
  refine List.ext_getElem (by omega) ?_
  intro i h1 h2
  have a := H1 i (by omega)
  have b := H2 i (by omega)
  rw [own_getD] at a b
  have e := Option.some.inj (a.symm.trans b)
  injection e with e
  simpa [List.getD_eq_getElem?_getD, List.getElem?_eq_getElem h1, List.getElem?_eq_getElem h2] using e
theorem own_safe0 {Z : State} {EL : List (String × Nat)} {vm : Vm} {h : Heap} {x : Addr} (hal : Z.vm.Alike vm) (E : Exa Z h x "java/lang/String") (F : Fld Z h x "java/lang/String" "value" "[B" .null) : Safe Z EL vm h x := fun B => by
  obtain ⟨cell, k, e1, e2, e3, -, -⟩ := E
  have nm : ∀ {n : String} {c : ClassId}, vm.findClass n = some c → c = cell.cls → n = "java/lang/String" := fun {n c} f e => by
    subst e
    rw [hal.findClass] at f
    obtain ⟨k1, q1, q2⟩ := Vm.findClass_spec f
    obtain ⟨k2, q3, q4⟩ := Vm.findClass_spec e2
    cases q1.symm.trans q3
    exact q2.symm.trans q4
  obtain ⟨p, -, u, a, -, q, -, F', rfl | rfl⟩ := B
  · have ha : h[q.sa]? = some q.sC := F'.ha
    cases ha.symm.trans e1
    obtain ⟨cS, ⟨⟨s1, s2, s3, ⟨cv, kv, iv, s4, s4'⟩, -, s6, s7, s8, -⟩, -⟩, -⟩ := F'
    obtain ⟨c2, cf, kf, i, fl, g1, g2, g3, g4, g5, g6, g7⟩ := F
    cases ha.symm.trans g1
    obtain ⟨kv', z4⟩ := ff_back hal s4
    cases g2.symm.trans z4
    cases g7.symm.trans s8
  · cases (show h[q.sd]? = some q.SA from F'.hd).symm.trans e1
    obtain ⟨cS, -, -, f, -⟩ := F'
    exact absurd (nm f rfl) (by decide)
def eqT (cs ds : List Int32) : Int32 := if cs = ds then 1 else 0
theorem own_eqY {a b : List Int32} (h : ¬ eqT a b = 0) : a = b := by
  unfold eqT at h
  by_cases q : a = b
  · exact q
  · rw [if_neg q] at h; exact absurd rfl h
theorem own_eqN {a b : List Int32} (h : eqT a b = 0) : a ≠ b := fun q => by
  unfold eqT at h
  rw [if_pos q] at h
  exact absurd h (by decide)
theorem own_01 (a b : List Int32) (h : ¬ eqT a b = 0) : (1 : Int32) = eqT a b := by
  rw [eqT, if_pos (own_eqY h)]
theorem own_shr0 (x : Int32) : (x >>> ((0 : Int32) &&& 31)) = x := by
  have e0 : ((2 ^ 0 : Nat) : Int) = 1 := rfl
  have a := c_ishr x 0 0 (by decide)
  rw [e0] at a
  exact Int32.toInt_inj.mp (by omega)
theorem own_elemR {args : Array Value} {s : State} {t u : Term} {b r : Addr} {cl : Cell} {i : Int32} (ht : t.eval args s none [] s = some (.ref b)) (hc : s.heap[b]? = some cl) (hu : u.eval args s none [] s = some (.ref r)) (h : (Jvm.Cond.eq (.elem t (.int i)) u).value args s none s [] = some true) : cl.slots[i.toNatClampNeg]? = some (.ref r) := by
  obtain ⟨x, y, h1, h2, hk, hk'⟩ := cmp_v (Or.inl h)
  cases hu.symm.trans h2
  obtain ⟨c2, e1, -, e3⟩ := elem_at h1 ht (Term.int_eval i)
  cases hc.symm.trans e1
  have hr : x.isRef = true := by
    have q : Kin (.ref r) x := hk'
    exact q.2
  have := gotT (eq_R h1 hu hr rfl) h
  rw [e3, this]
theorem own_fldR {args : Array Value} {s : State} {t : Term} {a b : Addr} {C n d : String} (ht : t.eval args s none [] s = some (.ref a)) (h : (Term.field t C n d).eval args s none [] s = some (.ref b)) : Fld s s.heap a C n d (.ref b) := by
  rw [fld_at ht] at h
  exact Fld.start h
theorem own_fldB {args : Array Value} {s : State} {t : Term} {b : Addr} {C n : String} {v : Int32} (ht : t.eval args s none [] s = some (.ref b)) (h : (Jvm.Cond.eq (.field t C n "B") (.int v)).value args s none s [] = some true) : Fld s s.heap b C n "B" (.int v) := by
  obtain ⟨x, y, h1, h2, -, hk⟩ := cmp_v (Or.inl h)
  cases (Term.int_eval v).symm.trans h2
  obtain ⟨x, rfl⟩ : ∃ z, x = Value.int z := hk
  have e := gotT (Cond.eq_ints h1 (Term.int_eval v)) h
  rw [e, fld_at ht] at h1
  exact Fld.start h1
def SSt (Z : State) (cs : Int32) (fm : Value) : Prop := ¬ cs = 0 ∧ Sta Z Z.heap "java/lang/String" "COMPACT_STRINGS" "Z" (.int cs) ∧ Sta Z Z.heap "jdk/internal/util/Preconditions" "SIOOBE_FORMATTER" "Ljava/util/function/BiFunction;" fm ∧ fm.isRef = true
def KSt (Z : State) (kd0 kd1 kd2 kd3 kd4 wd0 wd1 wd2 wd3 bV em : Addr) (kV : ClassId) : Prop := Sta Z Z.heap "com/example/phaseline/phaseline/game/Kind" "SIDE" "Lcom/example/phaseline/phaseline/game/Kind;" (.ref kd0) ∧ Sta Z Z.heap "com/example/phaseline/phaseline/game/Kind" "NUMBER" "Lcom/example/phaseline/phaseline/game/Kind;" (.ref kd1) ∧ Sta Z Z.heap "com/example/phaseline/phaseline/game/Kind" "TEXT" "Lcom/example/phaseline/phaseline/game/Kind;" (.ref kd2) ∧ Sta Z Z.heap "com/example/phaseline/phaseline/game/Kind" "YES_NO" "Lcom/example/phaseline/phaseline/game/Kind;" (.ref kd3) ∧ Sta Z Z.heap "com/example/phaseline/phaseline/game/Kind" "NONE" "Lcom/example/phaseline/phaseline/game/Kind;" (.ref kd4) ∧ Sta Z Z.heap "com/example/phaseline/phaseline/game/Kind" "$VALUES" "[Lcom/example/phaseline/phaseline/game/Kind;" (.ref bV) ∧ Arv Z Z.heap bV kV (.object "com/example/phaseline/phaseline/game/Kind") (5 : Int32) [.ref kd0, .ref kd1, .ref kd2, .ref kd3, .ref kd4] (.null) ∧ Exa Z Z.heap bV "[Lcom/example/phaseline/phaseline/game/Kind;" ∧ Fld Z Z.heap kd0 "com/example/phaseline/phaseline/game/Kind" "word" "Ljava/lang/String;" (.ref wd0) ∧ Fld Z Z.heap kd1 "com/example/phaseline/phaseline/game/Kind" "word" "Ljava/lang/String;" (.ref wd1) ∧ Fld Z Z.heap kd2 "com/example/phaseline/phaseline/game/Kind" "word" "Ljava/lang/String;" (.ref wd2) ∧ Fld Z Z.heap kd3 "com/example/phaseline/phaseline/game/Kind" "word" "Ljava/lang/String;" (.ref wd3) ∧ Txt Z Z.heap wd0 wl_0 ∧ Txt Z Z.heap wd1 wl_1 ∧ Txt Z Z.heap wd2 wl_2 ∧ Txt Z Z.heap wd3 wl_3 ∧ Exa Z Z.heap kd0 "com/example/phaseline/phaseline/game/Kind" ∧ Exa Z Z.heap kd1 "com/example/phaseline/phaseline/game/Kind" ∧ Exa Z Z.heap kd2 "com/example/phaseline/phaseline/game/Kind" ∧ Exa Z Z.heap kd3 "com/example/phaseline/phaseline/game/Kind" ∧ kd0 ≠ kd4 ∧ kd1 ≠ kd4 ∧ kd2 ≠ kd4 ∧ kd3 ≠ kd4 ∧ Sta Z Z.heap "java/util/Optional" "EMPTY" "Ljava/util/Optional;" (.ref em) ∧ Fld Z Z.heap em "java/util/Optional" "value" "Ljava/lang/Object;" (.null) ∧ Exa Z Z.heap em "java/util/Optional"

theorem w_0 {Z : State} {a0 : Array Value} (hw : ∀ d ∈ tables_1, d.before a0 Z = true) : (Jvm.Cond.constant "com/example/phaseline/phaseline/game/KindNamedPinLaw" (7 : Nat) (2147483647 : Int32)).before a0 Z = true := hw _ (List.mem_of_getElem? (i := 0) rfl)
theorem w_1 {Z : State} {a0 : Array Value} (hw : ∀ d ∈ tables_1, d.before a0 Z = true) : (Jvm.Cond.stringLink "com/example/phaseline/phaseline/game/KindNamedPinLaw" (8 : Nat) "side").before a0 Z = true := hw _ (List.mem_of_getElem? (i := 1) rfl)
theorem w_2 {Z : State} {a0 : Array Value} (hw : ∀ d ∈ tables_1, d.before a0 Z = true) : (Jvm.Cond.initialized "java/lang/String").before a0 Z = true := hw _ (List.mem_of_getElem? (i := 2) rfl)
theorem w_3 {Z : State} {a0 : Array Value} (hw : ∀ d ∈ tables_1, d.before a0 Z = true) : (Jvm.Cond.instantiable "java/lang/String" (4 : Nat)).before a0 Z = true := hw _ (List.mem_of_getElem? (i := 3) rfl)
theorem w_4 {Z : State} {a0 : Array Value} (hw : ∀ d ∈ tables_1, d.before a0 Z = true) : (Jvm.Cond.arrayClass Jvm.ClassFile.FieldType.byte).before a0 Z = true := hw _ (List.mem_of_getElem? (i := 4) rfl)
theorem w_5 {Z : State} {a0 : Array Value} (hw : ∀ d ∈ tables_1, d.before a0 Z = true) : (Jvm.Cond.laysFinal "java/lang/String" "java/lang/String" "value" "[B").before a0 Z = true := hw _ (List.mem_of_getElem? (i := 5) rfl)
theorem w_6 {Z : State} {a0 : Array Value} (hw : ∀ d ∈ tables_1, d.before a0 Z = true) : (Jvm.Cond.laysFinal "java/lang/String" "java/lang/String" "coder" "B").before a0 Z = true := hw _ (List.mem_of_getElem? (i := 6) rfl)
theorem w_7 {Z : State} {a0 : Array Value} (hw : ∀ d ∈ tables_1, d.before a0 Z = true) : (Jvm.Cond.soleField "java/lang/String" "value").before a0 Z = true := hw _ (List.mem_of_getElem? (i := 7) rfl)
theorem w_8 {Z : State} {a0 : Array Value} (hw : ∀ d ∈ tables_1, d.before a0 Z = true) : (Jvm.Cond.soleField "java/lang/String" "coder").before a0 Z = true := hw _ (List.mem_of_getElem? (i := 8) rfl)
theorem w_9 {Z : State} {a0 : Array Value} (hw : ∀ d ∈ tables_1, d.before a0 Z = true) : (Jvm.Cond.methodLink "com/example/phaseline/phaseline/game/KindNamedPinLaw" (24 : Nat) ({ cls := "com/example/phaseline/phaseline/game/KindNamedPinLaw", name := "build", desc := "(Ljava/lang/String;IIC)Ljava/lang/String;" } : Jvm.MethodName)).before a0 Z = true := hw _ (List.mem_of_getElem? (i := 9) rfl)
theorem w_10 {Z : State} {a0 : Array Value} (hw : ∀ d ∈ tables_1, d.before a0 Z = true) : (Jvm.Cond.static ({ cls := "com/example/phaseline/phaseline/game/KindNamedPinLaw", name := "build", desc := "(Ljava/lang/String;IIC)Ljava/lang/String;" } : Jvm.MethodName)).before a0 Z = true := hw _ (List.mem_of_getElem? (i := 10) rfl)
theorem w_11 {Z : State} {a0 : Array Value} (hw : ∀ d ∈ tables_1, d.before a0 Z = true) : (Jvm.Cond.initialized "com/example/phaseline/phaseline/game/KindNamedPinLaw").before a0 Z = true := hw _ (List.mem_of_getElem? (i := 11) rfl)
theorem w_12 {Z : State} {a0 : Array Value} (hw : ∀ d ∈ tables_1, d.before a0 Z = true) : (Jvm.Cond.code ({ cls := "com/example/phaseline/phaseline/game/KindNamedPinLaw", name := "build", desc := "(Ljava/lang/String;IIC)Ljava/lang/String;" } : Jvm.MethodName) method_5_code (5 : Nat) (Option.some (Jvm.ClassFile.FieldType.object "java/lang/String"))).before a0 Z = true := hw _ (List.mem_of_getElem? (i := 12) rfl)
theorem w_13 {Z : State} {a0 : Array Value} (hw : ∀ d ∈ tables_1, d.before a0 Z = true) : (Jvm.Cond.arrayClass Jvm.ClassFile.FieldType.char).before a0 Z = true := hw _ (List.mem_of_getElem? (i := 13) rfl)
theorem w_14 {Z : State} {a0 : Array Value} (hw : ∀ d ∈ tables_1, d.before a0 Z = true) : (Jvm.Cond.classLink "com/example/phaseline/phaseline/game/KindNamedPinLaw" (19 : Nat) "java/lang/String").before a0 Z = true := hw _ (List.mem_of_getElem? (i := 14) rfl)
theorem w_15 {Z : State} {a0 : Array Value} (hw : ∀ d ∈ tables_1, d.before a0 Z = true) : (Jvm.Cond.methodLink "com/example/phaseline/phaseline/game/KindNamedPinLaw" (71 : Nat) ({ cls := "java/lang/String", name := "<init>", desc := "([C)V" } : Jvm.MethodName)).before a0 Z = true := hw _ (List.mem_of_getElem? (i := 15) rfl)
theorem w_16 {Z : State} {a0 : Array Value} (hw : ∀ d ∈ tables_1, d.before a0 Z = true) : (Jvm.Cond.instanceMethod ({ cls := "java/lang/String", name := "<init>", desc := "([C)V" } : Jvm.MethodName)).before a0 Z = true := hw _ (List.mem_of_getElem? (i := 16) rfl)
theorem w_17 {Z : State} {a0 : Array Value} (hw : ∀ d ∈ tables_1, d.before a0 Z = true) : (Jvm.Cond.code ({ cls := "java/lang/String", name := "<init>", desc := "([C)V" } : Jvm.MethodName) jdk_42_method_3_code (2 : Nat) (Option.none : Option Jvm.ClassFile.FieldType)).before a0 Z = true := hw _ (List.mem_of_getElem? (i := 17) rfl)
theorem w_18 {Z : State} {a0 : Array Value} (hw : ∀ d ∈ tables_1, d.before a0 Z = true) : (Jvm.Cond.methodLink "java/lang/String" (27 : Nat) ({ cls := "java/lang/String", name := "<init>", desc := "([CIILjava/lang/Void;)V" } : Jvm.MethodName)).before a0 Z = true := hw _ (List.mem_of_getElem? (i := 18) rfl)
theorem w_19 {Z : State} {a0 : Array Value} (hw : ∀ d ∈ tables_1, d.before a0 Z = true) : (Jvm.Cond.instanceMethod ({ cls := "java/lang/String", name := "<init>", desc := "([CIILjava/lang/Void;)V" } : Jvm.MethodName)).before a0 Z = true := hw _ (List.mem_of_getElem? (i := 19) rfl)
theorem w_21 {Z : State} {a0 : Array Value} (hw : ∀ d ∈ tables_1, d.before a0 Z = true) : (Jvm.Cond.code ({ cls := "java/lang/String", name := "<init>", desc := "([CIILjava/lang/Void;)V" } : Jvm.MethodName) jdk_42_method_149_code (6 : Nat) (Option.none : Option Jvm.ClassFile.FieldType)).before a0 Z = true := hw _ (List.mem_of_getElem? (i := 21) rfl)
theorem w_22 {Z : State} {a0 : Array Value} (hw : ∀ d ∈ tables_1, d.before a0 Z = true) : (Jvm.Cond.methodLink "java/lang/String" (1 : Nat) ({ cls := "java/lang/Object", name := "<init>", desc := "()V" } : Jvm.MethodName)).before a0 Z = true := hw _ (List.mem_of_getElem? (i := 22) rfl)
theorem w_23 {Z : State} {a0 : Array Value} (hw : ∀ d ∈ tables_1, d.before a0 Z = true) : (Jvm.Cond.instanceMethod ({ cls := "java/lang/Object", name := "<init>", desc := "()V" } : Jvm.MethodName)).before a0 Z = true := hw _ (List.mem_of_getElem? (i := 23) rfl)
theorem w_24 {Z : State} {a0 : Array Value} (hw : ∀ d ∈ tables_1, d.before a0 Z = true) : (Jvm.Cond.code ({ cls := "java/lang/Object", name := "<init>", desc := "()V" } : Jvm.MethodName) object_method_1_code (1 : Nat) (Option.none : Option Jvm.ClassFile.FieldType)).before a0 Z = true := hw _ (List.mem_of_getElem? (i := 24) rfl)
theorem w_25 {Z : State} {a0 : Array Value} (hw : ∀ d ∈ tables_1, d.before a0 Z = true) : (Jvm.Cond.stringLink "java/lang/String" (7 : Nat) "").before a0 Z = true := hw _ (List.mem_of_getElem? (i := 25) rfl)
theorem w_26 {Z : State} {a0 : Array Value} (hw : ∀ d ∈ tables_1, d.before a0 Z = true) : (Jvm.Cond.fieldLink "java/lang/String" (9 : Nat) "java/lang/String" "value" "[B").before a0 Z = true := hw _ (List.mem_of_getElem? (i := 26) rfl)
theorem w_27 {Z : State} {a0 : Array Value} (hw : ∀ d ∈ tables_1, d.before a0 Z = true) : (Jvm.Cond.fieldLink "java/lang/String" (15 : Nat) "java/lang/String" "coder" "B").before a0 Z = true := hw _ (List.mem_of_getElem? (i := 27) rfl)
theorem w_28 {Z : State} {a0 : Array Value} (hw : ∀ d ∈ tables_1, d.before a0 Z = true) : (Jvm.Cond.methodLink "com/example/phaseline/phaseline/game/KindNamedPinLaw" (30 : Nat) ({ cls := "com/example/phaseline/phaseline/game/Kind", name := "named", desc := "(Ljava/lang/String;)Ljava/util/Optional;" } : Jvm.MethodName)).before a0 Z = true := hw _ (List.mem_of_getElem? (i := 28) rfl)
theorem w_29 {Z : State} {a0 : Array Value} (hw : ∀ d ∈ tables_1, d.before a0 Z = true) : (Jvm.Cond.static ({ cls := "com/example/phaseline/phaseline/game/Kind", name := "named", desc := "(Ljava/lang/String;)Ljava/util/Optional;" } : Jvm.MethodName)).before a0 Z = true := hw _ (List.mem_of_getElem? (i := 29) rfl)
theorem w_30 {Z : State} {a0 : Array Value} (hw : ∀ d ∈ tables_1, d.before a0 Z = true) : (Jvm.Cond.initialized "com/example/phaseline/phaseline/game/Kind").before a0 Z = true := hw _ (List.mem_of_getElem? (i := 30) rfl)
theorem w_31 {Z : State} {a0 : Array Value} (hw : ∀ d ∈ tables_1, d.before a0 Z = true) : (Jvm.Cond.code ({ cls := "com/example/phaseline/phaseline/game/Kind", name := "named", desc := "(Ljava/lang/String;)Ljava/util/Optional;" } : Jvm.MethodName) prog_14_method_7_code (5 : Nat) (Option.some (Jvm.ClassFile.FieldType.object "java/util/Optional"))).before a0 Z = true := hw _ (List.mem_of_getElem? (i := 31) rfl)
theorem w_32 {Z : State} {a0 : Array Value} (hw : ∀ d ∈ tables_1, d.before a0 Z = true) : (Jvm.Cond.methodLink "com/example/phaseline/phaseline/game/Kind" (50 : Nat) ({ cls := "com/example/phaseline/phaseline/game/Kind", name := "values", desc := "()[Lcom/example/phaseline/phaseline/game/Kind;" } : Jvm.MethodName)).before a0 Z = true := hw _ (List.mem_of_getElem? (i := 32) rfl)
theorem w_33 {Z : State} {a0 : Array Value} (hw : ∀ d ∈ tables_1, d.before a0 Z = true) : (Jvm.Cond.static ({ cls := "com/example/phaseline/phaseline/game/Kind", name := "values", desc := "()[Lcom/example/phaseline/phaseline/game/Kind;" } : Jvm.MethodName)).before a0 Z = true := hw _ (List.mem_of_getElem? (i := 33) rfl)
theorem w_34 {Z : State} {a0 : Array Value} (hw : ∀ d ∈ tables_1, d.before a0 Z = true) : (Jvm.Cond.code ({ cls := "com/example/phaseline/phaseline/game/Kind", name := "values", desc := "()[Lcom/example/phaseline/phaseline/game/Kind;" } : Jvm.MethodName) prog_14_method_1_code (0 : Nat) (Option.some (Jvm.ClassFile.FieldType.array (Jvm.ClassFile.FieldType.object "com/example/phaseline/phaseline/game/Kind")))).before a0 Z = true := hw _ (List.mem_of_getElem? (i := 34) rfl)
theorem w_35 {Z : State} {a0 : Array Value} (hw : ∀ d ∈ tables_1, d.before a0 Z = true) : (Jvm.Cond.fieldLink "com/example/phaseline/phaseline/game/Kind" (19 : Nat) "com/example/phaseline/phaseline/game/Kind" "$VALUES" "[Lcom/example/phaseline/phaseline/game/Kind;").before a0 Z = true := hw _ (List.mem_of_getElem? (i := 35) rfl)
theorem w_36 {Z : State} {a0 : Array Value} (hw : ∀ d ∈ tables_1, d.before a0 Z = true) : (Jvm.Cond.laysStatic "com/example/phaseline/phaseline/game/Kind" "$VALUES" "[Lcom/example/phaseline/phaseline/game/Kind;").before a0 Z = true := hw _ (List.mem_of_getElem? (i := 36) rfl)
theorem w_37 {Z : State} {a0 : Array Value} (hw : ∀ d ∈ tables_1, d.before a0 Z = true) : (Jvm.Cond.methodLink "com/example/phaseline/phaseline/game/Kind" (23 : Nat) ({ cls := "[Lcom/example/phaseline/phaseline/game/Kind;", name := "clone", desc := "()Ljava/lang/Object;" } : Jvm.MethodName)).before a0 Z = true := hw _ (List.mem_of_getElem? (i := 37) rfl)
theorem w_38 {Z : State} {a0 : Array Value} (hw : ∀ d ∈ tables_1, d.before a0 Z = true) : (Jvm.Cond.sameMethod "[Lcom/example/phaseline/phaseline/game/Kind;" "java/lang/Object" "clone" "()Ljava/lang/Object;").before a0 Z = true := hw _ (List.mem_of_getElem? (i := 38) rfl)
theorem w_40 {Z : State} {a0 : Array Value} (hw : ∀ d ∈ tables_1, d.before a0 Z = true) : (Jvm.Cond.instanceMethod ({ cls := "java/lang/Object", name := "clone", desc := "()Ljava/lang/Object;" } : Jvm.MethodName)).before a0 Z = true := hw _ (List.mem_of_getElem? (i := 40) rfl)
theorem w_41 {Z : State} {a0 : Array Value} (hw : ∀ d ∈ tables_1, d.before a0 Z = true) : (Jvm.Cond.selects "[Lcom/example/phaseline/phaseline/game/Kind;" ({ cls := "[Lcom/example/phaseline/phaseline/game/Kind;", name := "clone", desc := "()Ljava/lang/Object;" } : Jvm.MethodName) ({ cls := "java/lang/Object", name := "clone", desc := "()Ljava/lang/Object;" } : Jvm.MethodName)).before a0 Z = true := hw _ (List.mem_of_getElem? (i := 41) rfl)
theorem w_42 {Z : State} {a0 : Array Value} (hw : ∀ d ∈ tables_1, d.before a0 Z = true) : (Jvm.Cond.native ({ cls := "java/lang/Object", name := "clone", desc := "()Ljava/lang/Object;" } : Jvm.MethodName)).before a0 Z = true := hw _ (List.mem_of_getElem? (i := 42) rfl)
theorem w_43 {Z : State} {a0 : Array Value} (hw : ∀ d ∈ tables_1, d.before a0 Z = true) : (Jvm.Cond.castable "[Lcom/example/phaseline/phaseline/game/Kind;" "java/lang/Cloneable").before a0 Z = true := hw _ (List.mem_of_getElem? (i := 43) rfl)
theorem w_44 {Z : State} {a0 : Array Value} (hw : ∀ d ∈ tables_1, d.before a0 Z = true) : (Jvm.Cond.laysStatic "com/example/phaseline/phaseline/game/Kind" "SIDE" "Lcom/example/phaseline/phaseline/game/Kind;").before a0 Z = true := hw _ (List.mem_of_getElem? (i := 44) rfl)
theorem w_45 {Z : State} {a0 : Array Value} (hw : ∀ d ∈ tables_1, d.before a0 Z = true) : (Jvm.Cond.laysStatic "com/example/phaseline/phaseline/game/Kind" "NUMBER" "Lcom/example/phaseline/phaseline/game/Kind;").before a0 Z = true := hw _ (List.mem_of_getElem? (i := 45) rfl)
theorem w_46 {Z : State} {a0 : Array Value} (hw : ∀ d ∈ tables_1, d.before a0 Z = true) : (Jvm.Cond.laysStatic "com/example/phaseline/phaseline/game/Kind" "TEXT" "Lcom/example/phaseline/phaseline/game/Kind;").before a0 Z = true := hw _ (List.mem_of_getElem? (i := 46) rfl)
theorem w_47 {Z : State} {a0 : Array Value} (hw : ∀ d ∈ tables_1, d.before a0 Z = true) : (Jvm.Cond.laysStatic "com/example/phaseline/phaseline/game/Kind" "YES_NO" "Lcom/example/phaseline/phaseline/game/Kind;").before a0 Z = true := hw _ (List.mem_of_getElem? (i := 47) rfl)
theorem w_48 {Z : State} {a0 : Array Value} (hw : ∀ d ∈ tables_1, d.before a0 Z = true) : (Jvm.Cond.laysStatic "com/example/phaseline/phaseline/game/Kind" "NONE" "Lcom/example/phaseline/phaseline/game/Kind;").before a0 Z = true := hw _ (List.mem_of_getElem? (i := 48) rfl)
theorem w_50 {Z : State} {a0 : Array Value} (hw : ∀ d ∈ tables_1, d.before a0 Z = true) : (Jvm.Cond.classLink "com/example/phaseline/phaseline/game/Kind" (24 : Nat) "[Lcom/example/phaseline/phaseline/game/Kind;").before a0 Z = true := hw _ (List.mem_of_getElem? (i := 50) rfl)
theorem w_52 {Z : State} {a0 : Array Value} (hw : ∀ d ∈ tables_1, d.before a0 Z = true) : (Jvm.Cond.fieldLink "com/example/phaseline/phaseline/game/Kind" (16 : Nat) "com/example/phaseline/phaseline/game/Kind" "NONE" "Lcom/example/phaseline/phaseline/game/Kind;").before a0 Z = true := hw _ (List.mem_of_getElem? (i := 52) rfl)
theorem w_53 {Z : State} {a0 : Array Value} (hw : ∀ d ∈ tables_1, d.before a0 Z = true) : (Jvm.Cond.fieldLink "com/example/phaseline/phaseline/game/Kind" (38 : Nat) "com/example/phaseline/phaseline/game/Kind" "word" "Ljava/lang/String;").before a0 Z = true := hw _ (List.mem_of_getElem? (i := 53) rfl)
theorem w_55 {Z : State} {a0 : Array Value} (hw : ∀ d ∈ tables_1, d.before a0 Z = true) : (Jvm.Cond.methodLink "com/example/phaseline/phaseline/game/Kind" (60 : Nat) ({ cls := "java/lang/String", name := "equals", desc := "(Ljava/lang/Object;)Z" } : Jvm.MethodName)).before a0 Z = true := hw _ (List.mem_of_getElem? (i := 55) rfl)
theorem w_56 {Z : State} {a0 : Array Value} (hw : ∀ d ∈ tables_1, d.before a0 Z = true) : (Jvm.Cond.declares ({ cls := "java/lang/String", name := "equals", desc := "(Ljava/lang/Object;)Z" } : Jvm.MethodName)).before a0 Z = true := hw _ (List.mem_of_getElem? (i := 56) rfl)
theorem w_57 {Z : State} {a0 : Array Value} (hw : ∀ d ∈ tables_1, d.before a0 Z = true) : (Jvm.Cond.instanceMethod ({ cls := "java/lang/String", name := "equals", desc := "(Ljava/lang/Object;)Z" } : Jvm.MethodName)).before a0 Z = true := hw _ (List.mem_of_getElem? (i := 57) rfl)
theorem w_58 {Z : State} {a0 : Array Value} (hw : ∀ d ∈ tables_1, d.before a0 Z = true) : (Jvm.Cond.selects "java/lang/String" ({ cls := "java/lang/String", name := "equals", desc := "(Ljava/lang/Object;)Z" } : Jvm.MethodName) ({ cls := "java/lang/String", name := "equals", desc := "(Ljava/lang/Object;)Z" } : Jvm.MethodName)).before a0 Z = true := hw _ (List.mem_of_getElem? (i := 58) rfl)
theorem w_59 {Z : State} {a0 : Array Value} (hw : ∀ d ∈ tables_1, d.before a0 Z = true) : (Jvm.Cond.code ({ cls := "java/lang/String", name := "equals", desc := "(Ljava/lang/Object;)Z" } : Jvm.MethodName) jdk_42_method_66_code (3 : Nat) (Option.some Jvm.ClassFile.FieldType.boolean)).before a0 Z = true := hw _ (List.mem_of_getElem? (i := 59) rfl)
theorem w_60 {Z : State} {a0 : Array Value} (hw : ∀ d ∈ tables_1, d.before a0 Z = true) : (Jvm.Cond.classLink "java/lang/String" (10 : Nat) "java/lang/String").before a0 Z = true := hw _ (List.mem_of_getElem? (i := 60) rfl)
theorem w_61 {Z : State} {a0 : Array Value} (hw : ∀ d ∈ tables_1, d.before a0 Z = true) : (Jvm.Cond.fieldLink "java/lang/String" (38 : Nat) "java/lang/String" "COMPACT_STRINGS" "Z").before a0 Z = true := hw _ (List.mem_of_getElem? (i := 61) rfl)
theorem w_62 {Z : State} {a0 : Array Value} (hw : ∀ d ∈ tables_1, d.before a0 Z = true) : (Jvm.Cond.methodLink "java/lang/String" (541 : Nat) ({ cls := "java/lang/StringLatin1", name := "equals", desc := "([B[B)Z" } : Jvm.MethodName)).before a0 Z = true := hw _ (List.mem_of_getElem? (i := 62) rfl)
theorem w_63 {Z : State} {a0 : Array Value} (hw : ∀ d ∈ tables_1, d.before a0 Z = true) : (Jvm.Cond.static ({ cls := "java/lang/StringLatin1", name := "equals", desc := "([B[B)Z" } : Jvm.MethodName)).before a0 Z = true := hw _ (List.mem_of_getElem? (i := 63) rfl)
theorem w_64 {Z : State} {a0 : Array Value} (hw : ∀ d ∈ tables_1, d.before a0 Z = true) : (Jvm.Cond.initialized "java/lang/StringLatin1").before a0 Z = true := hw _ (List.mem_of_getElem? (i := 64) rfl)
theorem w_65 {Z : State} {a0 : Array Value} (hw : ∀ d ∈ tables_1, d.before a0 Z = true) : (Jvm.Cond.code ({ cls := "java/lang/StringLatin1", name := "equals", desc := "([B[B)Z" } : Jvm.MethodName) jdk_43_method_13_code (3 : Nat) (Option.some Jvm.ClassFile.FieldType.boolean)).before a0 Z = true := hw _ (List.mem_of_getElem? (i := 65) rfl)
theorem w_66 {Z : State} {a0 : Array Value} (hw : ∀ d ∈ tables_1, d.before a0 Z = true) : (Jvm.Cond.methodLink "com/example/phaseline/phaseline/game/Kind" (71 : Nat) ({ cls := "java/util/Optional", name := "empty", desc := "()Ljava/util/Optional;" } : Jvm.MethodName)).before a0 Z = true := hw _ (List.mem_of_getElem? (i := 66) rfl)
theorem w_67 {Z : State} {a0 : Array Value} (hw : ∀ d ∈ tables_1, d.before a0 Z = true) : (Jvm.Cond.static ({ cls := "java/util/Optional", name := "empty", desc := "()Ljava/util/Optional;" } : Jvm.MethodName)).before a0 Z = true := hw _ (List.mem_of_getElem? (i := 67) rfl)
theorem w_68 {Z : State} {a0 : Array Value} (hw : ∀ d ∈ tables_1, d.before a0 Z = true) : (Jvm.Cond.initialized "java/util/Optional").before a0 Z = true := hw _ (List.mem_of_getElem? (i := 68) rfl)
theorem w_69 {Z : State} {a0 : Array Value} (hw : ∀ d ∈ tables_1, d.before a0 Z = true) : (Jvm.Cond.code ({ cls := "java/util/Optional", name := "empty", desc := "()Ljava/util/Optional;" } : Jvm.MethodName) jdk_32_method_1_code (1 : Nat) (Option.some (Jvm.ClassFile.FieldType.object "java/util/Optional"))).before a0 Z = true := hw _ (List.mem_of_getElem? (i := 69) rfl)
theorem w_70 {Z : State} {a0 : Array Value} (hw : ∀ d ∈ tables_1, d.before a0 Z = true) : (Jvm.Cond.fieldLink "java/util/Optional" (1 : Nat) "java/util/Optional" "EMPTY" "Ljava/util/Optional;").before a0 Z = true := hw _ (List.mem_of_getElem? (i := 70) rfl)
theorem w_71 {Z : State} {a0 : Array Value} (hw : ∀ d ∈ tables_1, d.before a0 Z = true) : (Jvm.Cond.methodLink "com/example/phaseline/phaseline/game/KindNamedPinLaw" (36 : Nat) ({ cls := "java/util/Optional", name := "orElse", desc := "(Ljava/lang/Object;)Ljava/lang/Object;" } : Jvm.MethodName)).before a0 Z = true := hw _ (List.mem_of_getElem? (i := 71) rfl)
theorem w_72 {Z : State} {a0 : Array Value} (hw : ∀ d ∈ tables_1, d.before a0 Z = true) : (Jvm.Cond.declares ({ cls := "java/util/Optional", name := "orElse", desc := "(Ljava/lang/Object;)Ljava/lang/Object;" } : Jvm.MethodName)).before a0 Z = true := hw _ (List.mem_of_getElem? (i := 72) rfl)
theorem w_73 {Z : State} {a0 : Array Value} (hw : ∀ d ∈ tables_1, d.before a0 Z = true) : (Jvm.Cond.instanceMethod ({ cls := "java/util/Optional", name := "orElse", desc := "(Ljava/lang/Object;)Ljava/lang/Object;" } : Jvm.MethodName)).before a0 Z = true := hw _ (List.mem_of_getElem? (i := 73) rfl)
theorem w_74 {Z : State} {a0 : Array Value} (hw : ∀ d ∈ tables_1, d.before a0 Z = true) : (Jvm.Cond.selects "java/util/Optional" ({ cls := "java/util/Optional", name := "orElse", desc := "(Ljava/lang/Object;)Ljava/lang/Object;" } : Jvm.MethodName) ({ cls := "java/util/Optional", name := "orElse", desc := "(Ljava/lang/Object;)Ljava/lang/Object;" } : Jvm.MethodName)).before a0 Z = true := hw _ (List.mem_of_getElem? (i := 74) rfl)
theorem w_75 {Z : State} {a0 : Array Value} (hw : ∀ d ∈ tables_1, d.before a0 Z = true) : (Jvm.Cond.code ({ cls := "java/util/Optional", name := "orElse", desc := "(Ljava/lang/Object;)Ljava/lang/Object;" } : Jvm.MethodName) jdk_32_method_15_code (2 : Nat) (Option.some (Jvm.ClassFile.FieldType.object "java/lang/Object"))).before a0 Z = true := hw _ (List.mem_of_getElem? (i := 75) rfl)
theorem w_76 {Z : State} {a0 : Array Value} (hw : ∀ d ∈ tables_1, d.before a0 Z = true) : (Jvm.Cond.fieldLink "java/util/Optional" (13 : Nat) "java/util/Optional" "value" "Ljava/lang/Object;").before a0 Z = true := hw _ (List.mem_of_getElem? (i := 76) rfl)
theorem w_77 {Z : State} {a0 : Array Value} (hw : ∀ d ∈ tables_1, d.before a0 Z = true) : (Jvm.Cond.laysFinal "java/util/Optional" "java/util/Optional" "value" "Ljava/lang/Object;").before a0 Z = true := hw _ (List.mem_of_getElem? (i := 77) rfl)
theorem w_78 {Z : State} {a0 : Array Value} (hw : ∀ d ∈ tables_1, d.before a0 Z = true) : (Jvm.Cond.methodLink "com/example/phaseline/phaseline/game/KindNamedPinLaw" (42 : Nat) ({ cls := "com/example/phaseline/phaseline/game/KindNamedPinLaw", name := "expected", desc := "(Ljava/lang/String;)Lcom/example/phaseline/phaseline/game/Kind;" } : Jvm.MethodName)).before a0 Z = true := hw _ (List.mem_of_getElem? (i := 78) rfl)
theorem w_79 {Z : State} {a0 : Array Value} (hw : ∀ d ∈ tables_1, d.before a0 Z = true) : (Jvm.Cond.static ({ cls := "com/example/phaseline/phaseline/game/KindNamedPinLaw", name := "expected", desc := "(Ljava/lang/String;)Lcom/example/phaseline/phaseline/game/Kind;" } : Jvm.MethodName)).before a0 Z = true := hw _ (List.mem_of_getElem? (i := 79) rfl)
theorem w_80 {Z : State} {a0 : Array Value} (hw : ∀ d ∈ tables_1, d.before a0 Z = true) : (Jvm.Cond.code ({ cls := "com/example/phaseline/phaseline/game/KindNamedPinLaw", name := "expected", desc := "(Ljava/lang/String;)Lcom/example/phaseline/phaseline/game/Kind;" } : Jvm.MethodName) method_3_code (1 : Nat) (Option.some (Jvm.ClassFile.FieldType.object "com/example/phaseline/phaseline/game/Kind"))).before a0 Z = true := hw _ (List.mem_of_getElem? (i := 80) rfl)
theorem w_81 {Z : State} {a0 : Array Value} (hw : ∀ d ∈ tables_1, d.before a0 Z = true) : (Jvm.Cond.methodLink "com/example/phaseline/phaseline/game/KindNamedPinLaw" (46 : Nat) ({ cls := "java/lang/String", name := "equals", desc := "(Ljava/lang/Object;)Z" } : Jvm.MethodName)).before a0 Z = true := hw _ (List.mem_of_getElem? (i := 81) rfl)
theorem w_82 {Z : State} {a0 : Array Value} (hw : ∀ d ∈ tables_1, d.before a0 Z = true) : (Jvm.Cond.stringLink "com/example/phaseline/phaseline/game/KindNamedPinLaw" (10 : Nat) "number").before a0 Z = true := hw _ (List.mem_of_getElem? (i := 82) rfl)
theorem w_83 {Z : State} {a0 : Array Value} (hw : ∀ d ∈ tables_1, d.before a0 Z = true) : (Jvm.Cond.stringLink "com/example/phaseline/phaseline/game/KindNamedPinLaw" (12 : Nat) "text").before a0 Z = true := hw _ (List.mem_of_getElem? (i := 83) rfl)
theorem w_84 {Z : State} {a0 : Array Value} (hw : ∀ d ∈ tables_1, d.before a0 Z = true) : (Jvm.Cond.stringLink "com/example/phaseline/phaseline/game/KindNamedPinLaw" (14 : Nat) "yes-no").before a0 Z = true := hw _ (List.mem_of_getElem? (i := 84) rfl)
theorem w_85 {Z : State} {a0 : Array Value} (hw : ∀ d ∈ tables_1, d.before a0 Z = true) : (Jvm.Cond.methodLink "com/example/phaseline/phaseline/game/KindNamedPinLaw" (18 : Nat) ({ cls := "java/lang/String", name := "length", desc := "()I" } : Jvm.MethodName)).before a0 Z = true := hw _ (List.mem_of_getElem? (i := 85) rfl)
theorem w_86 {Z : State} {a0 : Array Value} (hw : ∀ d ∈ tables_1, d.before a0 Z = true) : (Jvm.Cond.declares ({ cls := "java/lang/String", name := "length", desc := "()I" } : Jvm.MethodName)).before a0 Z = true := hw _ (List.mem_of_getElem? (i := 86) rfl)
theorem w_87 {Z : State} {a0 : Array Value} (hw : ∀ d ∈ tables_1, d.before a0 Z = true) : (Jvm.Cond.instanceMethod ({ cls := "java/lang/String", name := "length", desc := "()I" } : Jvm.MethodName)).before a0 Z = true := hw _ (List.mem_of_getElem? (i := 87) rfl)
theorem w_88 {Z : State} {a0 : Array Value} (hw : ∀ d ∈ tables_1, d.before a0 Z = true) : (Jvm.Cond.selects "java/lang/String" ({ cls := "java/lang/String", name := "length", desc := "()I" } : Jvm.MethodName) ({ cls := "java/lang/String", name := "length", desc := "()I" } : Jvm.MethodName)).before a0 Z = true := hw _ (List.mem_of_getElem? (i := 88) rfl)
theorem w_89 {Z : State} {a0 : Array Value} (hw : ∀ d ∈ tables_1, d.before a0 Z = true) : (Jvm.Cond.code ({ cls := "java/lang/String", name := "length", desc := "()I" } : Jvm.MethodName) jdk_42_method_54_code (1 : Nat) (Option.some Jvm.ClassFile.FieldType.int)).before a0 Z = true := hw _ (List.mem_of_getElem? (i := 89) rfl)
theorem w_90 {Z : State} {a0 : Array Value} (hw : ∀ d ∈ tables_1, d.before a0 Z = true) : (Jvm.Cond.methodLink "java/lang/String" (335 : Nat) ({ cls := "java/lang/String", name := "coder", desc := "()B" } : Jvm.MethodName)).before a0 Z = true := hw _ (List.mem_of_getElem? (i := 90) rfl)
theorem w_91 {Z : State} {a0 : Array Value} (hw : ∀ d ∈ tables_1, d.before a0 Z = true) : (Jvm.Cond.declares ({ cls := "java/lang/String", name := "coder", desc := "()B" } : Jvm.MethodName)).before a0 Z = true := hw _ (List.mem_of_getElem? (i := 91) rfl)
theorem w_92 {Z : State} {a0 : Array Value} (hw : ∀ d ∈ tables_1, d.before a0 Z = true) : (Jvm.Cond.instanceMethod ({ cls := "java/lang/String", name := "coder", desc := "()B" } : Jvm.MethodName)).before a0 Z = true := hw _ (List.mem_of_getElem? (i := 92) rfl)
theorem w_93 {Z : State} {a0 : Array Value} (hw : ∀ d ∈ tables_1, d.before a0 Z = true) : (Jvm.Cond.selects "java/lang/String" ({ cls := "java/lang/String", name := "coder", desc := "()B" } : Jvm.MethodName) ({ cls := "java/lang/String", name := "coder", desc := "()B" } : Jvm.MethodName)).before a0 Z = true := hw _ (List.mem_of_getElem? (i := 93) rfl)
theorem w_94 {Z : State} {a0 : Array Value} (hw : ∀ d ∈ tables_1, d.before a0 Z = true) : (Jvm.Cond.code ({ cls := "java/lang/String", name := "coder", desc := "()B" } : Jvm.MethodName) jdk_42_method_152_code (1 : Nat) (Option.some Jvm.ClassFile.FieldType.byte)).before a0 Z = true := hw _ (List.mem_of_getElem? (i := 94) rfl)
theorem w_95 {Z : State} {a0 : Array Value} (hw : ∀ d ∈ tables_1, d.before a0 Z = true) : (Jvm.Cond.methodLink "com/example/phaseline/phaseline/game/KindNamedPinLaw" (67 : Nat) ({ cls := "com/example/phaseline/phaseline/game/KindNamedPinLaw", name := "at", desc := "(Ljava/lang/String;IIC)C" } : Jvm.MethodName)).before a0 Z = true := hw _ (List.mem_of_getElem? (i := 95) rfl)
theorem w_96 {Z : State} {a0 : Array Value} (hw : ∀ d ∈ tables_1, d.before a0 Z = true) : (Jvm.Cond.static ({ cls := "com/example/phaseline/phaseline/game/KindNamedPinLaw", name := "at", desc := "(Ljava/lang/String;IIC)C" } : Jvm.MethodName)).before a0 Z = true := hw _ (List.mem_of_getElem? (i := 96) rfl)
theorem w_97 {Z : State} {a0 : Array Value} (hw : ∀ d ∈ tables_1, d.before a0 Z = true) : (Jvm.Cond.code ({ cls := "com/example/phaseline/phaseline/game/KindNamedPinLaw", name := "at", desc := "(Ljava/lang/String;IIC)C" } : Jvm.MethodName) method_4_code (4 : Nat) (Option.some Jvm.ClassFile.FieldType.char)).before a0 Z = true := hw _ (List.mem_of_getElem? (i := 97) rfl)
theorem w_98 {Z : State} {a0 : Array Value} (hw : ∀ d ∈ tables_1, d.before a0 Z = true) : (Jvm.Cond.methodLink "com/example/phaseline/phaseline/game/KindNamedPinLaw" (63 : Nat) ({ cls := "java/lang/String", name := "charAt", desc := "(I)C" } : Jvm.MethodName)).before a0 Z = true := hw _ (List.mem_of_getElem? (i := 98) rfl)
theorem w_99 {Z : State} {a0 : Array Value} (hw : ∀ d ∈ tables_1, d.before a0 Z = true) : (Jvm.Cond.declares ({ cls := "java/lang/String", name := "charAt", desc := "(I)C" } : Jvm.MethodName)).before a0 Z = true := hw _ (List.mem_of_getElem? (i := 99) rfl)
theorem w_100 {Z : State} {a0 : Array Value} (hw : ∀ d ∈ tables_1, d.before a0 Z = true) : (Jvm.Cond.instanceMethod ({ cls := "java/lang/String", name := "charAt", desc := "(I)C" } : Jvm.MethodName)).before a0 Z = true := hw _ (List.mem_of_getElem? (i := 100) rfl)
theorem w_101 {Z : State} {a0 : Array Value} (hw : ∀ d ∈ tables_1, d.before a0 Z = true) : (Jvm.Cond.selects "java/lang/String" ({ cls := "java/lang/String", name := "charAt", desc := "(I)C" } : Jvm.MethodName) ({ cls := "java/lang/String", name := "charAt", desc := "(I)C" } : Jvm.MethodName)).before a0 Z = true := hw _ (List.mem_of_getElem? (i := 101) rfl)
theorem w_102 {Z : State} {a0 : Array Value} (hw : ∀ d ∈ tables_1, d.before a0 Z = true) : (Jvm.Cond.code ({ cls := "java/lang/String", name := "charAt", desc := "(I)C" } : Jvm.MethodName) jdk_42_method_56_code (2 : Nat) (Option.some Jvm.ClassFile.FieldType.char)).before a0 Z = true := hw _ (List.mem_of_getElem? (i := 102) rfl)
theorem w_103 {Z : State} {a0 : Array Value} (hw : ∀ d ∈ tables_1, d.before a0 Z = true) : (Jvm.Cond.methodLink "java/lang/String" (492 : Nat) ({ cls := "java/lang/String", name := "isLatin1", desc := "()Z" } : Jvm.MethodName)).before a0 Z = true := hw _ (List.mem_of_getElem? (i := 103) rfl)
theorem w_104 {Z : State} {a0 : Array Value} (hw : ∀ d ∈ tables_1, d.before a0 Z = true) : (Jvm.Cond.declares ({ cls := "java/lang/String", name := "isLatin1", desc := "()Z" } : Jvm.MethodName)).before a0 Z = true := hw _ (List.mem_of_getElem? (i := 104) rfl)
theorem w_105 {Z : State} {a0 : Array Value} (hw : ∀ d ∈ tables_1, d.before a0 Z = true) : (Jvm.Cond.instanceMethod ({ cls := "java/lang/String", name := "isLatin1", desc := "()Z" } : Jvm.MethodName)).before a0 Z = true := hw _ (List.mem_of_getElem? (i := 105) rfl)
theorem w_106 {Z : State} {a0 : Array Value} (hw : ∀ d ∈ tables_1, d.before a0 Z = true) : (Jvm.Cond.selects "java/lang/String" ({ cls := "java/lang/String", name := "isLatin1", desc := "()Z" } : Jvm.MethodName) ({ cls := "java/lang/String", name := "isLatin1", desc := "()Z" } : Jvm.MethodName)).before a0 Z = true := hw _ (List.mem_of_getElem? (i := 106) rfl)
theorem w_107 {Z : State} {a0 : Array Value} (hw : ∀ d ∈ tables_1, d.before a0 Z = true) : (Jvm.Cond.code ({ cls := "java/lang/String", name := "isLatin1", desc := "()Z" } : Jvm.MethodName) jdk_42_method_154_code (1 : Nat) (Option.some Jvm.ClassFile.FieldType.boolean)).before a0 Z = true := hw _ (List.mem_of_getElem? (i := 107) rfl)
theorem w_108 {Z : State} {a0 : Array Value} (hw : ∀ d ∈ tables_1, d.before a0 Z = true) : (Jvm.Cond.methodLink "java/lang/String" (495 : Nat) ({ cls := "java/lang/StringLatin1", name := "charAt", desc := "([BI)C" } : Jvm.MethodName)).before a0 Z = true := hw _ (List.mem_of_getElem? (i := 108) rfl)
theorem w_109 {Z : State} {a0 : Array Value} (hw : ∀ d ∈ tables_1, d.before a0 Z = true) : (Jvm.Cond.static ({ cls := "java/lang/StringLatin1", name := "charAt", desc := "([BI)C" } : Jvm.MethodName)).before a0 Z = true := hw _ (List.mem_of_getElem? (i := 109) rfl)
theorem w_110 {Z : State} {a0 : Array Value} (hw : ∀ d ∈ tables_1, d.before a0 Z = true) : (Jvm.Cond.code ({ cls := "java/lang/StringLatin1", name := "charAt", desc := "([BI)C" } : Jvm.MethodName) jdk_43_method_2_code (2 : Nat) (Option.some Jvm.ClassFile.FieldType.char)).before a0 Z = true := hw _ (List.mem_of_getElem? (i := 110) rfl)
theorem w_111 {Z : State} {a0 : Array Value} (hw : ∀ d ∈ tables_1, d.before a0 Z = true) : (Jvm.Cond.methodLink "java/lang/StringLatin1" (9 : Nat) ({ cls := "java/lang/String", name := "checkIndex", desc := "(II)V" } : Jvm.MethodName)).before a0 Z = true := hw _ (List.mem_of_getElem? (i := 111) rfl)
theorem w_112 {Z : State} {a0 : Array Value} (hw : ∀ d ∈ tables_1, d.before a0 Z = true) : (Jvm.Cond.static ({ cls := "java/lang/String", name := "checkIndex", desc := "(II)V" } : Jvm.MethodName)).before a0 Z = true := hw _ (List.mem_of_getElem? (i := 112) rfl)
theorem w_113 {Z : State} {a0 : Array Value} (hw : ∀ d ∈ tables_1, d.before a0 Z = true) : (Jvm.Cond.code ({ cls := "java/lang/String", name := "checkIndex", desc := "(II)V" } : Jvm.MethodName) jdk_42_method_155_code (2 : Nat) (Option.none : Option Jvm.ClassFile.FieldType)).before a0 Z = true := hw _ (List.mem_of_getElem? (i := 113) rfl)
theorem w_114 {Z : State} {a0 : Array Value} (hw : ∀ d ∈ tables_1, d.before a0 Z = true) : (Jvm.Cond.fieldLink "java/lang/String" (1053 : Nat) "jdk/internal/util/Preconditions" "SIOOBE_FORMATTER" "Ljava/util/function/BiFunction;").before a0 Z = true := hw _ (List.mem_of_getElem? (i := 114) rfl)
theorem w_115 {Z : State} {a0 : Array Value} (hw : ∀ d ∈ tables_1, d.before a0 Z = true) : (Jvm.Cond.initialized "jdk/internal/util/Preconditions").before a0 Z = true := hw _ (List.mem_of_getElem? (i := 115) rfl)
theorem w_116 {Z : State} {a0 : Array Value} (hw : ∀ d ∈ tables_1, d.before a0 Z = true) : (Jvm.Cond.methodLink "java/lang/String" (1059 : Nat) ({ cls := "jdk/internal/util/Preconditions", name := "checkIndex", desc := "(IILjava/util/function/BiFunction;)I" } : Jvm.MethodName)).before a0 Z = true := hw _ (List.mem_of_getElem? (i := 116) rfl)
theorem w_117 {Z : State} {a0 : Array Value} (hw : ∀ d ∈ tables_1, d.before a0 Z = true) : (Jvm.Cond.static ({ cls := "jdk/internal/util/Preconditions", name := "checkIndex", desc := "(IILjava/util/function/BiFunction;)I" } : Jvm.MethodName)).before a0 Z = true := hw _ (List.mem_of_getElem? (i := 117) rfl)
theorem w_118 {Z : State} {a0 : Array Value} (hw : ∀ d ∈ tables_1, d.before a0 Z = true) : (Jvm.Cond.code ({ cls := "jdk/internal/util/Preconditions", name := "checkIndex", desc := "(IILjava/util/function/BiFunction;)I" } : Jvm.MethodName) jdk_41_method_11_code (3 : Nat) (Option.some Jvm.ClassFile.FieldType.int)).before a0 Z = true := hw _ (List.mem_of_getElem? (i := 118) rfl)
theorem w_119 {Z : State} {a0 : Array Value} (hw : ∀ d ∈ tables_1, d.before a0 Z = true) : (Jvm.Cond.methodLink "java/lang/String" (177 : Nat) ({ cls := "java/lang/StringUTF16", name := "compress", desc := "([CII)[B" } : Jvm.MethodName)).before a0 Z = true := hw _ (List.mem_of_getElem? (i := 119) rfl)
theorem w_120 {Z : State} {a0 : Array Value} (hw : ∀ d ∈ tables_1, d.before a0 Z = true) : (Jvm.Cond.static ({ cls := "java/lang/StringUTF16", name := "compress", desc := "([CII)[B" } : Jvm.MethodName)).before a0 Z = true := hw _ (List.mem_of_getElem? (i := 120) rfl)
theorem w_121 {Z : State} {a0 : Array Value} (hw : ∀ d ∈ tables_1, d.before a0 Z = true) : (Jvm.Cond.initialized "java/lang/StringUTF16").before a0 Z = true := hw _ (List.mem_of_getElem? (i := 121) rfl)
theorem w_122 {Z : State} {a0 : Array Value} (hw : ∀ d ∈ tables_1, d.before a0 Z = true) : (Jvm.Cond.code ({ cls := "java/lang/StringUTF16", name := "compress", desc := "([CII)[B" } : Jvm.MethodName) jdk_52_method_16_code (6 : Nat) (Option.some (Jvm.ClassFile.FieldType.array Jvm.ClassFile.FieldType.byte))).before a0 Z = true := hw _ (List.mem_of_getElem? (i := 122) rfl)
theorem w_123 {Z : State} {a0 : Array Value} (hw : ∀ d ∈ tables_1, d.before a0 Z = true) : (Jvm.Cond.methodLink "java/lang/StringUTF16" (115 : Nat) ({ cls := "java/lang/StringUTF16", name := "compress", desc := "([CI[BII)I" } : Jvm.MethodName)).before a0 Z = true := hw _ (List.mem_of_getElem? (i := 123) rfl)
theorem w_124 {Z : State} {a0 : Array Value} (hw : ∀ d ∈ tables_1, d.before a0 Z = true) : (Jvm.Cond.static ({ cls := "java/lang/StringUTF16", name := "compress", desc := "([CI[BII)I" } : Jvm.MethodName)).before a0 Z = true := hw _ (List.mem_of_getElem? (i := 124) rfl)
theorem w_125 {Z : State} {a0 : Array Value} (hw : ∀ d ∈ tables_1, d.before a0 Z = true) : (Jvm.Cond.code ({ cls := "java/lang/StringUTF16", name := "compress", desc := "([CI[BII)I" } : Jvm.MethodName) jdk_52_method_21_code (7 : Nat) (Option.some Jvm.ClassFile.FieldType.int)).before a0 Z = true := hw _ (List.mem_of_getElem? (i := 125) rfl)
theorem w_126 {Z : State} {a0 : Array Value} (hw : ∀ d ∈ tables_1, d.before a0 Z = true) : (Jvm.Cond.methodLink "java/lang/String" (47 : Nat) ({ cls := "java/lang/StringUTF16", name := "coderFromArrayLen", desc := "([BI)B" } : Jvm.MethodName)).before a0 Z = true := hw _ (List.mem_of_getElem? (i := 126) rfl)
theorem w_127 {Z : State} {a0 : Array Value} (hw : ∀ d ∈ tables_1, d.before a0 Z = true) : (Jvm.Cond.static ({ cls := "java/lang/StringUTF16", name := "coderFromArrayLen", desc := "([BI)B" } : Jvm.MethodName)).before a0 Z = true := hw _ (List.mem_of_getElem? (i := 127) rfl)
theorem w_128 {Z : State} {a0 : Array Value} (hw : ∀ d ∈ tables_1, d.before a0 Z = true) : (Jvm.Cond.code ({ cls := "java/lang/StringUTF16", name := "coderFromArrayLen", desc := "([BI)B" } : Jvm.MethodName) jdk_52_method_15_code (2 : Nat) (Option.some Jvm.ClassFile.FieldType.byte)).before a0 Z = true := hw _ (List.mem_of_getElem? (i := 128) rfl)
theorem w_129 {Z : State} {a0 : Array Value} (hw : ∀ d ∈ tables_1, d.before a0 Z = true) : (Jvm.Cond.methodLink "com/example/phaseline/phaseline/game/Kind" (65 : Nat) ({ cls := "java/util/Optional", name := "of", desc := "(Ljava/lang/Object;)Ljava/util/Optional;" } : Jvm.MethodName)).before a0 Z = true := hw _ (List.mem_of_getElem? (i := 129) rfl)
theorem w_130 {Z : State} {a0 : Array Value} (hw : ∀ d ∈ tables_1, d.before a0 Z = true) : (Jvm.Cond.static ({ cls := "java/util/Optional", name := "of", desc := "(Ljava/lang/Object;)Ljava/util/Optional;" } : Jvm.MethodName)).before a0 Z = true := hw _ (List.mem_of_getElem? (i := 130) rfl)
theorem w_131 {Z : State} {a0 : Array Value} (hw : ∀ d ∈ tables_1, d.before a0 Z = true) : (Jvm.Cond.code ({ cls := "java/util/Optional", name := "of", desc := "(Ljava/lang/Object;)Ljava/util/Optional;" } : Jvm.MethodName) jdk_32_method_3_code (1 : Nat) (Option.some (Jvm.ClassFile.FieldType.object "java/util/Optional"))).before a0 Z = true := hw _ (List.mem_of_getElem? (i := 131) rfl)
theorem w_132 {Z : State} {a0 : Array Value} (hw : ∀ d ∈ tables_1, d.before a0 Z = true) : (Jvm.Cond.classLink "java/util/Optional" (2 : Nat) "java/util/Optional").before a0 Z = true := hw _ (List.mem_of_getElem? (i := 132) rfl)
theorem w_133 {Z : State} {a0 : Array Value} (hw : ∀ d ∈ tables_1, d.before a0 Z = true) : (Jvm.Cond.instantiable "java/util/Optional" (1 : Nat)).before a0 Z = true := hw _ (List.mem_of_getElem? (i := 133) rfl)
theorem w_134 {Z : State} {a0 : Array Value} (hw : ∀ d ∈ tables_1, d.before a0 Z = true) : (Jvm.Cond.methodLink "java/util/Optional" (17 : Nat) ({ cls := "java/util/Objects", name := "requireNonNull", desc := "(Ljava/lang/Object;)Ljava/lang/Object;" } : Jvm.MethodName)).before a0 Z = true := hw _ (List.mem_of_getElem? (i := 134) rfl)
theorem w_135 {Z : State} {a0 : Array Value} (hw : ∀ d ∈ tables_1, d.before a0 Z = true) : (Jvm.Cond.static ({ cls := "java/util/Objects", name := "requireNonNull", desc := "(Ljava/lang/Object;)Ljava/lang/Object;" } : Jvm.MethodName)).before a0 Z = true := hw _ (List.mem_of_getElem? (i := 135) rfl)
theorem w_136 {Z : State} {a0 : Array Value} (hw : ∀ d ∈ tables_1, d.before a0 Z = true) : (Jvm.Cond.initialized "java/util/Objects").before a0 Z = true := hw _ (List.mem_of_getElem? (i := 136) rfl)
theorem w_137 {Z : State} {a0 : Array Value} (hw : ∀ d ∈ tables_1, d.before a0 Z = true) : (Jvm.Cond.code ({ cls := "java/util/Objects", name := "requireNonNull", desc := "(Ljava/lang/Object;)Ljava/lang/Object;" } : Jvm.MethodName) jdk_31_method_10_code (1 : Nat) (Option.some (Jvm.ClassFile.FieldType.object "java/lang/Object"))).before a0 Z = true := hw _ (List.mem_of_getElem? (i := 137) rfl)
theorem w_138 {Z : State} {a0 : Array Value} (hw : ∀ d ∈ tables_1, d.before a0 Z = true) : (Jvm.Cond.methodLink "java/util/Optional" (23 : Nat) ({ cls := "java/util/Optional", name := "<init>", desc := "(Ljava/lang/Object;)V" } : Jvm.MethodName)).before a0 Z = true := hw _ (List.mem_of_getElem? (i := 138) rfl)
theorem w_139 {Z : State} {a0 : Array Value} (hw : ∀ d ∈ tables_1, d.before a0 Z = true) : (Jvm.Cond.instanceMethod ({ cls := "java/util/Optional", name := "<init>", desc := "(Ljava/lang/Object;)V" } : Jvm.MethodName)).before a0 Z = true := hw _ (List.mem_of_getElem? (i := 139) rfl)
theorem w_141 {Z : State} {a0 : Array Value} (hw : ∀ d ∈ tables_1, d.before a0 Z = true) : (Jvm.Cond.code ({ cls := "java/util/Optional", name := "<init>", desc := "(Ljava/lang/Object;)V" } : Jvm.MethodName) jdk_32_method_2_code (2 : Nat) (Option.none : Option Jvm.ClassFile.FieldType)).before a0 Z = true := hw _ (List.mem_of_getElem? (i := 141) rfl)
theorem w_142 {Z : State} {a0 : Array Value} (hw : ∀ d ∈ tables_1, d.before a0 Z = true) : (Jvm.Cond.methodLink "java/util/Optional" (7 : Nat) ({ cls := "java/lang/Object", name := "<init>", desc := "()V" } : Jvm.MethodName)).before a0 Z = true := hw _ (List.mem_of_getElem? (i := 142) rfl)
theorem w_143 {Z : State} {a0 : Array Value} (hw : ∀ d ∈ tables_1, d.before a0 Z = true) : (Jvm.Cond.classLink "com/example/phaseline/phaseline/game/KindNamedPinLaw" (31 : Nat) "com/example/phaseline/phaseline/game/Kind").before a0 Z = true := hw _ (List.mem_of_getElem? (i := 143) rfl)
theorem w_145 {Z : State} {a0 : Array Value} (hw : ∀ d ∈ tables_1, d.before a0 Z = true) : (Jvm.Cond.fieldLink "com/example/phaseline/phaseline/game/KindNamedPinLaw" (60 : Nat) "com/example/phaseline/phaseline/game/Kind" "YES_NO" "Lcom/example/phaseline/phaseline/game/Kind;").before a0 Z = true := hw _ (List.mem_of_getElem? (i := 145) rfl)
theorem w_146 {Z : State} {a0 : Array Value} (hw : ∀ d ∈ tables_1, d.before a0 Z = true) : (Jvm.Cond.fieldLink "com/example/phaseline/phaseline/game/KindNamedPinLaw" (57 : Nat) "com/example/phaseline/phaseline/game/Kind" "TEXT" "Lcom/example/phaseline/phaseline/game/Kind;").before a0 Z = true := hw _ (List.mem_of_getElem? (i := 146) rfl)
theorem w_147 {Z : State} {a0 : Array Value} (hw : ∀ d ∈ tables_1, d.before a0 Z = true) : (Jvm.Cond.stringLink "com/example/phaseline/phaseline/game/KindNamedPinLaw" (16 : Nat) "none").before a0 Z = true := hw _ (List.mem_of_getElem? (i := 147) rfl)
theorem w_148 {Z : State} {a0 : Array Value} (hw : ∀ d ∈ tables_1, d.before a0 Z = true) : (Jvm.Cond.fieldLink "com/example/phaseline/phaseline/game/KindNamedPinLaw" (54 : Nat) "com/example/phaseline/phaseline/game/Kind" "NUMBER" "Lcom/example/phaseline/phaseline/game/Kind;").before a0 Z = true := hw _ (List.mem_of_getElem? (i := 148) rfl)
theorem w_149 {Z : State} {a0 : Array Value} (hw : ∀ d ∈ tables_1, d.before a0 Z = true) : (Jvm.Cond.fieldLink "com/example/phaseline/phaseline/game/KindNamedPinLaw" (50 : Nat) "com/example/phaseline/phaseline/game/Kind" "SIDE" "Lcom/example/phaseline/phaseline/game/Kind;").before a0 Z = true := hw _ (List.mem_of_getElem? (i := 149) rfl)
theorem own_str {Z : State} {a0 : Array Value} (hw : ∀ d ∈ tables_1, d.before a0 Z = true) : ∀ a ∈ Bundle.stringAtoms, a.before a0 Z = true := by
  intro a ha
  simp only [Bundle.stringAtoms, List.mem_cons, List.not_mem_nil, or_false] at ha
  rcases ha with rfl | rfl | rfl | rfl | rfl | rfl | rfl
  · exact w_2 hw
  · exact w_3 hw
  · exact w_4 hw
  · exact w_5 hw
  · exact w_6 hw
  · exact w_7 hw
  · exact w_8 hw
theorem own_EL {Z : State} {a0 : Array Value} (hw : ∀ d ∈ tables_1, d.before a0 Z = true) : EW Z a0 ELs := (EW.cons (w_1 hw) (by decide) (EW.cons (w_82 hw) (by decide) (EW.cons (w_83 hw) (by decide) (EW.cons (w_84 hw) (by decide) (EW.cons (w_147 hw) (by decide) (EW.cons (w_25 hw) (by decide) EW.nil))))))
theorem d21_0 : decode jdk_52_method_21_code 0 = .ok (.iconst 0, 1) := by decide +kernel
theorem d21_1 : decode jdk_52_method_21_code 1 = .ok (.istore 5, 2) := by decide +kernel
theorem d21_3 : decode jdk_52_method_21_code 3 = .ok (.iload 5, 2) := by decide +kernel
theorem d21_5 : decode jdk_52_method_21_code 5 = .ok (.iload 4, 2) := by decide +kernel
theorem d21_7 : decode jdk_52_method_21_code 7 = .ok (.if_icmp .ge 37, 3) := by decide +kernel
theorem d21_10 : decode jdk_52_method_21_code 10 = .ok (.aload_n 0, 1) := by decide +kernel
theorem d21_11 : decode jdk_52_method_21_code 11 = .ok (.iload_n 1, 1) := by decide +kernel
theorem d21_12 : decode jdk_52_method_21_code 12 = .ok (.caload, 1) := by decide +kernel
theorem d21_13 : decode jdk_52_method_21_code 13 = .ok (.istore 6, 2) := by decide +kernel
theorem d21_15 : decode jdk_52_method_21_code 15 = .ok (.iload 6, 2) := by decide +kernel
theorem d21_17 : decode jdk_52_method_21_code 17 = .ok (.sipush 255, 3) := by decide +kernel
theorem d21_20 : decode jdk_52_method_21_code 20 = .ok (.if_icmp .le 6, 3) := by decide +kernel
theorem d21_23 : decode jdk_52_method_21_code 23 = .ok (.iload 5, 2) := by decide +kernel
theorem d21_25 : decode jdk_52_method_21_code 25 = .ok (.ireturn, 1) := by decide +kernel
theorem d21_26 : decode jdk_52_method_21_code 26 = .ok (.aload_n 2, 1) := by decide +kernel
theorem d21_27 : decode jdk_52_method_21_code 27 = .ok (.iload_n 3, 1) := by decide +kernel
theorem d21_28 : decode jdk_52_method_21_code 28 = .ok (.iload 6, 2) := by decide +kernel
theorem d21_30 : decode jdk_52_method_21_code 30 = .ok (.i2b, 1) := by decide +kernel
theorem d21_31 : decode jdk_52_method_21_code 31 = .ok (.bastore, 1) := by decide +kernel
theorem d21_32 : decode jdk_52_method_21_code 32 = .ok (.iinc 1 1, 3) := by decide +kernel
theorem d21_35 : decode jdk_52_method_21_code 35 = .ok (.iinc 3 1, 3) := by decide +kernel
theorem d21_38 : decode jdk_52_method_21_code 38 = .ok (.iinc 5 1, 3) := by decide +kernel
theorem d21_41 : decode jdk_52_method_21_code 41 = .ok (.goto (-38), 3) := by decide +kernel
theorem d21_44 : decode jdk_52_method_21_code 44 = .ok (.iload 4, 2) := by decide +kernel
theorem d21_46 : decode jdk_52_method_21_code 46 = .ok (.ireturn, 1) := by decide +kernel
theorem d20_0 : decode jdk_52_method_16_code 0 = .ok (.iload_n 2, 1) := by decide +kernel
theorem d20_1 : decode jdk_52_method_16_code 1 = .ok (.newarray .byte, 2) := by decide +kernel
theorem d20_3 : decode jdk_52_method_16_code 3 = .ok (.astore_n 3, 1) := by decide +kernel
theorem d20_4 : decode jdk_52_method_16_code 4 = .ok (.aload_n 0, 1) := by decide +kernel
theorem d20_5 : decode jdk_52_method_16_code 5 = .ok (.iload_n 1, 1) := by decide +kernel
theorem d20_6 : decode jdk_52_method_16_code 6 = .ok (.aload_n 3, 1) := by decide +kernel
theorem d20_7 : decode jdk_52_method_16_code 7 = .ok (.iconst 0, 1) := by decide +kernel
theorem d20_8 : decode jdk_52_method_16_code 8 = .ok (.iload_n 2, 1) := by decide +kernel
theorem d20_9 : decode jdk_52_method_16_code 9 = .ok (.invokestatic 115, 3) := by decide +kernel
theorem d20_12 : decode jdk_52_method_16_code 12 = .ok (.istore 4, 2) := by decide +kernel
theorem d20_14 : decode jdk_52_method_16_code 14 = .ok (.iload 4, 2) := by decide +kernel
theorem d20_16 : decode jdk_52_method_16_code 16 = .ok (.iload_n 2, 1) := by decide +kernel
theorem d20_17 : decode jdk_52_method_16_code 17 = .ok (.if_icmp .eq 40, 3) := by decide +kernel
theorem d20_20 : decode jdk_52_method_16_code 20 = .ok (.aload_n 0, 1) := by decide +kernel
theorem d20_21 : decode jdk_52_method_16_code 21 = .ok (.iload_n 1, 1) := by decide +kernel
theorem d20_22 : decode jdk_52_method_16_code 22 = .ok (.iload_n 2, 1) := by decide +kernel
theorem d20_23 : decode jdk_52_method_16_code 23 = .ok (.invokestatic 119, 3) := by decide +kernel
theorem d20_26 : decode jdk_52_method_16_code 26 = .ok (.astore 5, 2) := by decide +kernel
theorem d20_28 : decode jdk_52_method_16_code 28 = .ok (.aload 5, 2) := by decide +kernel
theorem d20_30 : decode jdk_52_method_16_code 30 = .ok (.iload 4, 2) := by decide +kernel
theorem d20_32 : decode jdk_52_method_16_code 32 = .ok (.invokestatic 71, 3) := by decide +kernel
theorem d20_35 : decode jdk_52_method_16_code 35 = .ok (.sipush 255, 3) := by decide +kernel
theorem d20_38 : decode jdk_52_method_16_code 38 = .ok (.if_icmp .gt 16, 3) := by decide +kernel
theorem d20_41 : decode jdk_52_method_16_code 41 = .ok (.aload 5, 2) := by decide +kernel
theorem d20_43 : decode jdk_52_method_16_code 43 = .ok (.iconst 0, 1) := by decide +kernel
theorem d20_44 : decode jdk_52_method_16_code 44 = .ok (.aload_n 3, 1) := by decide +kernel
theorem d20_45 : decode jdk_52_method_16_code 45 = .ok (.iconst 0, 1) := by decide +kernel
theorem d20_46 : decode jdk_52_method_16_code 46 = .ok (.iload_n 2, 1) := by decide +kernel
theorem d20_47 : decode jdk_52_method_16_code 47 = .ok (.invokestatic 123, 3) := by decide +kernel
theorem d20_50 : decode jdk_52_method_16_code 50 = .ok (.iload_n 2, 1) := by decide +kernel
theorem d20_51 : decode jdk_52_method_16_code 51 = .ok (.if_icmp .eq 6, 3) := by decide +kernel
theorem d20_54 : decode jdk_52_method_16_code 54 = .ok (.aload 5, 2) := by decide +kernel
theorem d20_56 : decode jdk_52_method_16_code 56 = .ok (.areturn, 1) := by decide +kernel
theorem d20_57 : decode jdk_52_method_16_code 57 = .ok (.aload_n 3, 1) := by decide +kernel
theorem d20_58 : decode jdk_52_method_16_code 58 = .ok (.areturn, 1) := by decide +kernel
theorem d22_0 : decode jdk_52_method_15_code 0 = .ok (.iload_n 1, 1) := by decide +kernel
theorem d22_1 : decode jdk_52_method_15_code 1 = .ok (.aload_n 0, 1) := by decide +kernel
theorem d22_2 : decode jdk_52_method_15_code 2 = .ok (.arraylength, 1) := by decide +kernel
theorem d22_3 : decode jdk_52_method_15_code 3 = .ok (.isub, 1) := by decide +kernel
theorem d22_4 : decode jdk_52_method_15_code 4 = .ok (.bipush 31, 2) := by decide +kernel
theorem d22_6 : decode jdk_52_method_15_code 6 = .ok (.iushr, 1) := by decide +kernel
theorem d22_7 : decode jdk_52_method_15_code 7 = .ok (.i2b, 1) := by decide +kernel
theorem d22_8 : decode jdk_52_method_15_code 8 = .ok (.ireturn, 1) := by decide +kernel
theorem d3_0 : decode jdk_42_method_149_code 0 = .ok (.aload_n 0, 1) := by decide +kernel
theorem d3_1 : decode jdk_42_method_149_code 1 = .ok (.invokespecial 1, 3) := by decide +kernel
theorem d3_4 : decode jdk_42_method_149_code 4 = .ok (.iload_n 3, 1) := by decide +kernel
theorem d3_5 : decode jdk_42_method_149_code 5 = .ok (.ifCond .ne 22, 3) := by decide +kernel
theorem d3_8 : decode jdk_42_method_149_code 8 = .ok (.aload_n 0, 1) := by decide +kernel
theorem d3_9 : decode jdk_42_method_149_code 9 = .ok (.ldc 7, 2) := by decide +kernel
theorem d3_11 : decode jdk_42_method_149_code 11 = .ok (.getfield 9, 3) := by decide +kernel
theorem d3_14 : decode jdk_42_method_149_code 14 = .ok (.putfield 9, 3) := by decide +kernel
theorem d3_17 : decode jdk_42_method_149_code 17 = .ok (.aload_n 0, 1) := by decide +kernel
theorem d3_18 : decode jdk_42_method_149_code 18 = .ok (.ldc 7, 2) := by decide +kernel
theorem d3_20 : decode jdk_42_method_149_code 20 = .ok (.getfield 15, 3) := by decide +kernel
theorem d3_23 : decode jdk_42_method_149_code 23 = .ok (.putfield 15, 3) := by decide +kernel
theorem d3_26 : decode jdk_42_method_149_code 26 = .ok (.return_, 1) := by decide +kernel
theorem d3_27 : decode jdk_42_method_149_code 27 = .ok (.getstatic 38, 3) := by decide +kernel
theorem d3_30 : decode jdk_42_method_149_code 30 = .ok (.ifCond .eq 28, 3) := by decide +kernel
theorem d3_33 : decode jdk_42_method_149_code 33 = .ok (.aload_n 1, 1) := by decide +kernel
theorem d3_34 : decode jdk_42_method_149_code 34 = .ok (.iload_n 2, 1) := by decide +kernel
theorem d3_35 : decode jdk_42_method_149_code 35 = .ok (.iload_n 3, 1) := by decide +kernel
theorem d3_36 : decode jdk_42_method_149_code 36 = .ok (.invokestatic 177, 3) := by decide +kernel
theorem d3_39 : decode jdk_42_method_149_code 39 = .ok (.astore 5, 2) := by decide +kernel
theorem d3_41 : decode jdk_42_method_149_code 41 = .ok (.aload_n 0, 1) := by decide +kernel
theorem d3_42 : decode jdk_42_method_149_code 42 = .ok (.aload 5, 2) := by decide +kernel
theorem d3_44 : decode jdk_42_method_149_code 44 = .ok (.iload_n 3, 1) := by decide +kernel
theorem d3_45 : decode jdk_42_method_149_code 45 = .ok (.invokestatic 47, 3) := by decide +kernel
theorem d3_48 : decode jdk_42_method_149_code 48 = .ok (.putfield 15, 3) := by decide +kernel
theorem d3_51 : decode jdk_42_method_149_code 51 = .ok (.aload_n 0, 1) := by decide +kernel
theorem d3_52 : decode jdk_42_method_149_code 52 = .ok (.aload 5, 2) := by decide +kernel
theorem d3_54 : decode jdk_42_method_149_code 54 = .ok (.putfield 9, 3) := by decide +kernel
theorem d3_57 : decode jdk_42_method_149_code 57 = .ok (.return_, 1) := by decide +kernel
theorem d3_58 : decode jdk_42_method_149_code 58 = .ok (.aload_n 0, 1) := by decide +kernel
theorem d3_59 : decode jdk_42_method_149_code 59 = .ok (.iconst 1, 1) := by decide +kernel
theorem d3_60 : decode jdk_42_method_149_code 60 = .ok (.putfield 15, 3) := by decide +kernel
theorem d3_63 : decode jdk_42_method_149_code 63 = .ok (.aload_n 0, 1) := by decide +kernel
theorem d3_64 : decode jdk_42_method_149_code 64 = .ok (.aload_n 1, 1) := by decide +kernel
theorem d3_65 : decode jdk_42_method_149_code 65 = .ok (.iload_n 2, 1) := by decide +kernel
theorem d3_66 : decode jdk_42_method_149_code 66 = .ok (.iload_n 3, 1) := by decide +kernel
theorem d3_67 : decode jdk_42_method_149_code 67 = .ok (.invokestatic 180, 3) := by decide +kernel
theorem d3_70 : decode jdk_42_method_149_code 70 = .ok (.putfield 9, 3) := by decide +kernel
theorem d3_73 : decode jdk_42_method_149_code 73 = .ok (.return_, 1) := by decide +kernel
theorem d2_0 : decode jdk_42_method_3_code 0 = .ok (.aload_n 0, 1) := by decide +kernel
theorem d2_1 : decode jdk_42_method_3_code 1 = .ok (.aload_n 1, 1) := by decide +kernel
theorem d2_2 : decode jdk_42_method_3_code 2 = .ok (.iconst 0, 1) := by decide +kernel
theorem d2_3 : decode jdk_42_method_3_code 3 = .ok (.aload_n 1, 1) := by decide +kernel
theorem d2_4 : decode jdk_42_method_3_code 4 = .ok (.arraylength, 1) := by decide +kernel
theorem d2_5 : decode jdk_42_method_3_code 5 = .ok (.aconst_null, 1) := by decide +kernel
theorem d2_6 : decode jdk_42_method_3_code 6 = .ok (.invokespecial 27, 3) := by decide +kernel
theorem d2_9 : decode jdk_42_method_3_code 9 = .ok (.return_, 1) := by decide +kernel
theorem d19_0 : decode jdk_41_method_11_code 0 = .ok (.iload_n 0, 1) := by decide +kernel
theorem d19_1 : decode jdk_41_method_11_code 1 = .ok (.ifCond .lt 8, 3) := by decide +kernel
theorem d19_4 : decode jdk_41_method_11_code 4 = .ok (.iload_n 0, 1) := by decide +kernel
theorem d19_5 : decode jdk_41_method_11_code 5 = .ok (.iload_n 1, 1) := by decide +kernel
theorem d19_6 : decode jdk_41_method_11_code 6 = .ok (.if_icmp .lt 10, 3) := by decide +kernel
theorem d19_9 : decode jdk_41_method_11_code 9 = .ok (.aload_n 2, 1) := by decide +kernel
theorem d19_10 : decode jdk_41_method_11_code 10 = .ok (.iload_n 0, 1) := by decide +kernel
theorem d19_11 : decode jdk_41_method_11_code 11 = .ok (.iload_n 1, 1) := by decide +kernel
theorem d19_12 : decode jdk_41_method_11_code 12 = .ok (.invokestatic 95, 3) := by decide +kernel
theorem d19_15 : decode jdk_41_method_11_code 15 = .ok (.athrow, 1) := by decide +kernel
theorem d19_16 : decode jdk_41_method_11_code 16 = .ok (.iload_n 0, 1) := by decide +kernel
theorem d19_17 : decode jdk_41_method_11_code 17 = .ok (.ireturn, 1) := by decide +kernel
theorem d18_0 : decode jdk_42_method_155_code 0 = .ok (.iload_n 0, 1) := by decide +kernel
theorem d18_1 : decode jdk_42_method_155_code 1 = .ok (.iload_n 1, 1) := by decide +kernel
theorem d18_2 : decode jdk_42_method_155_code 2 = .ok (.getstatic 1053, 3) := by decide +kernel
theorem d18_5 : decode jdk_42_method_155_code 5 = .ok (.invokestatic 1059, 3) := by decide +kernel
theorem d18_8 : decode jdk_42_method_155_code 8 = .ok (.pop, 1) := by decide +kernel
theorem d18_9 : decode jdk_42_method_155_code 9 = .ok (.return_, 1) := by decide +kernel
theorem d17_0 : decode jdk_43_method_2_code 0 = .ok (.iload_n 1, 1) := by decide +kernel
theorem d17_1 : decode jdk_43_method_2_code 1 = .ok (.aload_n 0, 1) := by decide +kernel
theorem d17_2 : decode jdk_43_method_2_code 2 = .ok (.arraylength, 1) := by decide +kernel
theorem d17_3 : decode jdk_43_method_2_code 3 = .ok (.invokestatic 9, 3) := by decide +kernel
theorem d17_6 : decode jdk_43_method_2_code 6 = .ok (.aload_n 0, 1) := by decide +kernel
theorem d17_7 : decode jdk_43_method_2_code 7 = .ok (.iload_n 1, 1) := by decide +kernel
theorem d17_8 : decode jdk_43_method_2_code 8 = .ok (.baload, 1) := by decide +kernel
theorem d17_9 : decode jdk_43_method_2_code 9 = .ok (.sipush 255, 3) := by decide +kernel
theorem d17_12 : decode jdk_43_method_2_code 12 = .ok (.iand, 1) := by decide +kernel
theorem d17_13 : decode jdk_43_method_2_code 13 = .ok (.i2c, 1) := by decide +kernel
theorem d17_14 : decode jdk_43_method_2_code 14 = .ok (.ireturn, 1) := by decide +kernel
theorem d16_0 : decode jdk_42_method_154_code 0 = .ok (.getstatic 38, 3) := by decide +kernel
theorem d16_3 : decode jdk_42_method_154_code 3 = .ok (.ifCond .eq 14, 3) := by decide +kernel
theorem d16_6 : decode jdk_42_method_154_code 6 = .ok (.aload_n 0, 1) := by decide +kernel
theorem d16_7 : decode jdk_42_method_154_code 7 = .ok (.getfield 15, 3) := by decide +kernel
theorem d16_10 : decode jdk_42_method_154_code 10 = .ok (.ifCond .ne 7, 3) := by decide +kernel
theorem d16_13 : decode jdk_42_method_154_code 13 = .ok (.iconst 1, 1) := by decide +kernel
theorem d16_14 : decode jdk_42_method_154_code 14 = .ok (.goto 4, 3) := by decide +kernel
theorem d16_17 : decode jdk_42_method_154_code 17 = .ok (.iconst 0, 1) := by decide +kernel
theorem d16_18 : decode jdk_42_method_154_code 18 = .ok (.ireturn, 1) := by decide +kernel
theorem d13_0 : decode jdk_42_method_152_code 0 = .ok (.getstatic 38, 3) := by decide +kernel
theorem d13_3 : decode jdk_42_method_152_code 3 = .ok (.ifCond .eq 10, 3) := by decide +kernel
theorem d13_6 : decode jdk_42_method_152_code 6 = .ok (.aload_n 0, 1) := by decide +kernel
theorem d13_7 : decode jdk_42_method_152_code 7 = .ok (.getfield 15, 3) := by decide +kernel
theorem d13_10 : decode jdk_42_method_152_code 10 = .ok (.goto 4, 3) := by decide +kernel
theorem d13_13 : decode jdk_42_method_152_code 13 = .ok (.iconst 1, 1) := by decide +kernel
theorem d13_14 : decode jdk_42_method_152_code 14 = .ok (.ireturn, 1) := by decide +kernel
theorem d12_0 : decode jdk_42_method_54_code 0 = .ok (.aload_n 0, 1) := by decide +kernel
theorem d12_1 : decode jdk_42_method_54_code 1 = .ok (.getfield 9, 3) := by decide +kernel
theorem d12_4 : decode jdk_42_method_54_code 4 = .ok (.arraylength, 1) := by decide +kernel
theorem d12_5 : decode jdk_42_method_54_code 5 = .ok (.aload_n 0, 1) := by decide +kernel
theorem d12_6 : decode jdk_42_method_54_code 6 = .ok (.invokevirtual 335, 3) := by decide +kernel
theorem d12_9 : decode jdk_42_method_54_code 9 = .ok (.ishr, 1) := by decide +kernel
theorem d12_10 : decode jdk_42_method_54_code 10 = .ok (.ireturn, 1) := by decide +kernel
theorem d15_0 : decode jdk_42_method_56_code 0 = .ok (.aload_n 0, 1) := by decide +kernel
theorem d15_1 : decode jdk_42_method_56_code 1 = .ok (.invokevirtual 492, 3) := by decide +kernel
theorem d15_4 : decode jdk_42_method_56_code 4 = .ok (.ifCond .eq 12, 3) := by decide +kernel
theorem d15_7 : decode jdk_42_method_56_code 7 = .ok (.aload_n 0, 1) := by decide +kernel
theorem d15_8 : decode jdk_42_method_56_code 8 = .ok (.getfield 9, 3) := by decide +kernel
theorem d15_11 : decode jdk_42_method_56_code 11 = .ok (.iload_n 1, 1) := by decide +kernel
theorem d15_12 : decode jdk_42_method_56_code 12 = .ok (.invokestatic 495, 3) := by decide +kernel
theorem d15_15 : decode jdk_42_method_56_code 15 = .ok (.ireturn, 1) := by decide +kernel
theorem d15_16 : decode jdk_42_method_56_code 16 = .ok (.aload_n 0, 1) := by decide +kernel
theorem d15_17 : decode jdk_42_method_56_code 17 = .ok (.getfield 9, 3) := by decide +kernel
theorem d15_20 : decode jdk_42_method_56_code 20 = .ok (.iload_n 1, 1) := by decide +kernel
theorem d15_21 : decode jdk_42_method_56_code 21 = .ok (.invokestatic 498, 3) := by decide +kernel
theorem d15_24 : decode jdk_42_method_56_code 24 = .ok (.ireturn, 1) := by decide +kernel
theorem d14_0 : decode method_4_code 0 = .ok (.iload_n 1, 1) := by decide +kernel
theorem d14_1 : decode method_4_code 1 = .ok (.iload_n 2, 1) := by decide +kernel
theorem d14_2 : decode method_4_code 2 = .ok (.if_icmp .ne 5, 3) := by decide +kernel
theorem d14_5 : decode method_4_code 5 = .ok (.iload_n 3, 1) := by decide +kernel
theorem d14_6 : decode method_4_code 6 = .ok (.ireturn, 1) := by decide +kernel
theorem d14_7 : decode method_4_code 7 = .ok (.iload_n 1, 1) := by decide +kernel
theorem d14_8 : decode method_4_code 8 = .ok (.aload_n 0, 1) := by decide +kernel
theorem d14_9 : decode method_4_code 9 = .ok (.invokevirtual 18, 3) := by decide +kernel
theorem d14_12 : decode method_4_code 12 = .ok (.if_icmp .ge 9, 3) := by decide +kernel
theorem d14_15 : decode method_4_code 15 = .ok (.aload_n 0, 1) := by decide +kernel
theorem d14_16 : decode method_4_code 16 = .ok (.iload_n 1, 1) := by decide +kernel
theorem d14_17 : decode method_4_code 17 = .ok (.invokevirtual 63, 3) := by decide +kernel
theorem d14_20 : decode method_4_code 20 = .ok (.ireturn, 1) := by decide +kernel
theorem d14_21 : decode method_4_code 21 = .ok (.iload_n 3, 1) := by decide +kernel
theorem d14_22 : decode method_4_code 22 = .ok (.ireturn, 1) := by decide +kernel
theorem d1_0 : decode method_5_code 0 = .ok (.iload_n 1, 1) := by decide +kernel
theorem d1_1 : decode method_5_code 1 = .ok (.ifCond .ne 11, 3) := by decide +kernel
theorem d1_4 : decode method_5_code 4 = .ok (.iconst 0, 1) := by decide +kernel
theorem d1_5 : decode method_5_code 5 = .ok (.newarray .char, 2) := by decide +kernel
theorem d1_7 : decode method_5_code 7 = .ok (.astore 4, 2) := by decide +kernel
theorem d1_9 : decode method_5_code 9 = .ok (.goto 89, 3) := by decide +kernel
theorem d1_12 : decode method_5_code 12 = .ok (.iload_n 1, 1) := by decide +kernel
theorem d1_13 : decode method_5_code 13 = .ok (.iconst 1, 1) := by decide +kernel
theorem d1_14 : decode method_5_code 14 = .ok (.if_icmp .ne 11, 3) := by decide +kernel
theorem d1_17 : decode method_5_code 17 = .ok (.iconst 1, 1) := by decide +kernel
theorem d1_18 : decode method_5_code 18 = .ok (.newarray .char, 2) := by decide +kernel
theorem d1_20 : decode method_5_code 20 = .ok (.astore 4, 2) := by decide +kernel
theorem d1_22 : decode method_5_code 22 = .ok (.goto 76, 3) := by decide +kernel
theorem d1_25 : decode method_5_code 25 = .ok (.iload_n 1, 1) := by decide +kernel
theorem d1_26 : decode method_5_code 26 = .ok (.iconst 2, 1) := by decide +kernel
theorem d1_27 : decode method_5_code 27 = .ok (.if_icmp .ne 11, 3) := by decide +kernel
theorem d1_30 : decode method_5_code 30 = .ok (.iconst 2, 1) := by decide +kernel
theorem d1_31 : decode method_5_code 31 = .ok (.newarray .char, 2) := by decide +kernel
theorem d1_33 : decode method_5_code 33 = .ok (.astore 4, 2) := by decide +kernel
theorem d1_35 : decode method_5_code 35 = .ok (.goto 63, 3) := by decide +kernel
theorem d1_38 : decode method_5_code 38 = .ok (.iload_n 1, 1) := by decide +kernel
theorem d1_39 : decode method_5_code 39 = .ok (.iconst 3, 1) := by decide +kernel
theorem d1_40 : decode method_5_code 40 = .ok (.if_icmp .ne 11, 3) := by decide +kernel
theorem d1_43 : decode method_5_code 43 = .ok (.iconst 3, 1) := by decide +kernel
theorem d1_44 : decode method_5_code 44 = .ok (.newarray .char, 2) := by decide +kernel
theorem d1_46 : decode method_5_code 46 = .ok (.astore 4, 2) := by decide +kernel
theorem d1_48 : decode method_5_code 48 = .ok (.goto 50, 3) := by decide +kernel
theorem d1_51 : decode method_5_code 51 = .ok (.iload_n 1, 1) := by decide +kernel
theorem d1_52 : decode method_5_code 52 = .ok (.iconst 4, 1) := by decide +kernel
theorem d1_53 : decode method_5_code 53 = .ok (.if_icmp .ne 11, 3) := by decide +kernel
theorem d1_56 : decode method_5_code 56 = .ok (.iconst 4, 1) := by decide +kernel
theorem d1_57 : decode method_5_code 57 = .ok (.newarray .char, 2) := by decide +kernel
theorem d1_59 : decode method_5_code 59 = .ok (.astore 4, 2) := by decide +kernel
theorem d1_61 : decode method_5_code 61 = .ok (.goto 37, 3) := by decide +kernel
theorem d1_64 : decode method_5_code 64 = .ok (.iload_n 1, 1) := by decide +kernel
theorem d1_65 : decode method_5_code 65 = .ok (.iconst 5, 1) := by decide +kernel
theorem d1_66 : decode method_5_code 66 = .ok (.if_icmp .ne 11, 3) := by decide +kernel
theorem d1_69 : decode method_5_code 69 = .ok (.iconst 5, 1) := by decide +kernel
theorem d1_70 : decode method_5_code 70 = .ok (.newarray .char, 2) := by decide +kernel
theorem d1_72 : decode method_5_code 72 = .ok (.astore 4, 2) := by decide +kernel
theorem d1_74 : decode method_5_code 74 = .ok (.goto 24, 3) := by decide +kernel
theorem d1_77 : decode method_5_code 77 = .ok (.iload_n 1, 1) := by decide +kernel
theorem d1_78 : decode method_5_code 78 = .ok (.bipush 6, 2) := by decide +kernel
theorem d1_80 : decode method_5_code 80 = .ok (.if_icmp .ne 12, 3) := by decide +kernel
theorem d1_83 : decode method_5_code 83 = .ok (.bipush 6, 2) := by decide +kernel
theorem d1_85 : decode method_5_code 85 = .ok (.newarray .char, 2) := by decide +kernel
theorem d1_87 : decode method_5_code 87 = .ok (.astore 4, 2) := by decide +kernel
theorem d1_89 : decode method_5_code 89 = .ok (.goto 9, 3) := by decide +kernel
theorem d1_92 : decode method_5_code 92 = .ok (.bipush 7, 2) := by decide +kernel
theorem d1_94 : decode method_5_code 94 = .ok (.newarray .char, 2) := by decide +kernel
theorem d1_96 : decode method_5_code 96 = .ok (.astore 4, 2) := by decide +kernel
theorem d1_98 : decode method_5_code 98 = .ok (.aload 4, 2) := by decide +kernel
theorem d1_100 : decode method_5_code 100 = .ok (.arraylength, 1) := by decide +kernel
theorem d1_101 : decode method_5_code 101 = .ok (.ifCond .le 14, 3) := by decide +kernel
theorem d1_104 : decode method_5_code 104 = .ok (.aload 4, 2) := by decide +kernel
theorem d1_106 : decode method_5_code 106 = .ok (.iconst 0, 1) := by decide +kernel
theorem d1_107 : decode method_5_code 107 = .ok (.aload_n 0, 1) := by decide +kernel
theorem d1_108 : decode method_5_code 108 = .ok (.iconst 0, 1) := by decide +kernel
theorem d1_109 : decode method_5_code 109 = .ok (.iload_n 2, 1) := by decide +kernel
theorem d1_110 : decode method_5_code 110 = .ok (.iload_n 3, 1) := by decide +kernel
theorem d1_111 : decode method_5_code 111 = .ok (.invokestatic 67, 3) := by decide +kernel
theorem d1_114 : decode method_5_code 114 = .ok (.castore, 1) := by decide +kernel
theorem d1_115 : decode method_5_code 115 = .ok (.aload 4, 2) := by decide +kernel
theorem d1_117 : decode method_5_code 117 = .ok (.arraylength, 1) := by decide +kernel
theorem d1_118 : decode method_5_code 118 = .ok (.iconst 1, 1) := by decide +kernel
theorem d1_119 : decode method_5_code 119 = .ok (.if_icmp .le 14, 3) := by decide +kernel
theorem d1_122 : decode method_5_code 122 = .ok (.aload 4, 2) := by decide +kernel
theorem d1_124 : decode method_5_code 124 = .ok (.iconst 1, 1) := by decide +kernel
theorem d1_125 : decode method_5_code 125 = .ok (.aload_n 0, 1) := by decide +kernel
theorem d1_126 : decode method_5_code 126 = .ok (.iconst 1, 1) := by decide +kernel
theorem d1_127 : decode method_5_code 127 = .ok (.iload_n 2, 1) := by decide +kernel
theorem d1_128 : decode method_5_code 128 = .ok (.iload_n 3, 1) := by decide +kernel
theorem d1_129 : decode method_5_code 129 = .ok (.invokestatic 67, 3) := by decide +kernel
theorem d1_132 : decode method_5_code 132 = .ok (.castore, 1) := by decide +kernel
theorem d1_133 : decode method_5_code 133 = .ok (.aload 4, 2) := by decide +kernel
theorem d1_135 : decode method_5_code 135 = .ok (.arraylength, 1) := by decide +kernel
theorem d1_136 : decode method_5_code 136 = .ok (.iconst 2, 1) := by decide +kernel
theorem d1_137 : decode method_5_code 137 = .ok (.if_icmp .le 14, 3) := by decide +kernel
theorem d1_140 : decode method_5_code 140 = .ok (.aload 4, 2) := by decide +kernel
theorem d1_142 : decode method_5_code 142 = .ok (.iconst 2, 1) := by decide +kernel
theorem d1_143 : decode method_5_code 143 = .ok (.aload_n 0, 1) := by decide +kernel
theorem d1_144 : decode method_5_code 144 = .ok (.iconst 2, 1) := by decide +kernel
theorem d1_145 : decode method_5_code 145 = .ok (.iload_n 2, 1) := by decide +kernel
theorem d1_146 : decode method_5_code 146 = .ok (.iload_n 3, 1) := by decide +kernel
theorem d1_147 : decode method_5_code 147 = .ok (.invokestatic 67, 3) := by decide +kernel
theorem d1_150 : decode method_5_code 150 = .ok (.castore, 1) := by decide +kernel
theorem d1_151 : decode method_5_code 151 = .ok (.aload 4, 2) := by decide +kernel
theorem d1_153 : decode method_5_code 153 = .ok (.arraylength, 1) := by decide +kernel
theorem d1_154 : decode method_5_code 154 = .ok (.iconst 3, 1) := by decide +kernel
theorem d1_155 : decode method_5_code 155 = .ok (.if_icmp .le 14, 3) := by decide +kernel
theorem d1_158 : decode method_5_code 158 = .ok (.aload 4, 2) := by decide +kernel
theorem d1_160 : decode method_5_code 160 = .ok (.iconst 3, 1) := by decide +kernel
theorem d1_161 : decode method_5_code 161 = .ok (.aload_n 0, 1) := by decide +kernel
theorem d1_162 : decode method_5_code 162 = .ok (.iconst 3, 1) := by decide +kernel
theorem d1_163 : decode method_5_code 163 = .ok (.iload_n 2, 1) := by decide +kernel
theorem d1_164 : decode method_5_code 164 = .ok (.iload_n 3, 1) := by decide +kernel
theorem d1_165 : decode method_5_code 165 = .ok (.invokestatic 67, 3) := by decide +kernel
theorem d1_168 : decode method_5_code 168 = .ok (.castore, 1) := by decide +kernel
theorem d1_169 : decode method_5_code 169 = .ok (.aload 4, 2) := by decide +kernel
theorem d1_171 : decode method_5_code 171 = .ok (.arraylength, 1) := by decide +kernel
theorem d1_172 : decode method_5_code 172 = .ok (.iconst 4, 1) := by decide +kernel
theorem d1_173 : decode method_5_code 173 = .ok (.if_icmp .le 14, 3) := by decide +kernel
theorem d1_176 : decode method_5_code 176 = .ok (.aload 4, 2) := by decide +kernel
theorem d1_178 : decode method_5_code 178 = .ok (.iconst 4, 1) := by decide +kernel
theorem d1_179 : decode method_5_code 179 = .ok (.aload_n 0, 1) := by decide +kernel
theorem d1_180 : decode method_5_code 180 = .ok (.iconst 4, 1) := by decide +kernel
theorem d1_181 : decode method_5_code 181 = .ok (.iload_n 2, 1) := by decide +kernel
theorem d1_182 : decode method_5_code 182 = .ok (.iload_n 3, 1) := by decide +kernel
theorem d1_183 : decode method_5_code 183 = .ok (.invokestatic 67, 3) := by decide +kernel
theorem d1_186 : decode method_5_code 186 = .ok (.castore, 1) := by decide +kernel
theorem d1_187 : decode method_5_code 187 = .ok (.aload 4, 2) := by decide +kernel
theorem d1_189 : decode method_5_code 189 = .ok (.arraylength, 1) := by decide +kernel
theorem d1_190 : decode method_5_code 190 = .ok (.iconst 5, 1) := by decide +kernel
theorem d1_191 : decode method_5_code 191 = .ok (.if_icmp .le 14, 3) := by decide +kernel
theorem d1_194 : decode method_5_code 194 = .ok (.aload 4, 2) := by decide +kernel
theorem d1_196 : decode method_5_code 196 = .ok (.iconst 5, 1) := by decide +kernel
theorem d1_197 : decode method_5_code 197 = .ok (.aload_n 0, 1) := by decide +kernel
theorem d1_198 : decode method_5_code 198 = .ok (.iconst 5, 1) := by decide +kernel
theorem d1_199 : decode method_5_code 199 = .ok (.iload_n 2, 1) := by decide +kernel
theorem d1_200 : decode method_5_code 200 = .ok (.iload_n 3, 1) := by decide +kernel
theorem d1_201 : decode method_5_code 201 = .ok (.invokestatic 67, 3) := by decide +kernel
theorem d1_204 : decode method_5_code 204 = .ok (.castore, 1) := by decide +kernel
theorem d1_205 : decode method_5_code 205 = .ok (.aload 4, 2) := by decide +kernel
theorem d1_207 : decode method_5_code 207 = .ok (.arraylength, 1) := by decide +kernel
theorem d1_208 : decode method_5_code 208 = .ok (.bipush 6, 2) := by decide +kernel
theorem d1_210 : decode method_5_code 210 = .ok (.if_icmp .le 16, 3) := by decide +kernel
theorem d1_213 : decode method_5_code 213 = .ok (.aload 4, 2) := by decide +kernel
theorem d1_215 : decode method_5_code 215 = .ok (.bipush 6, 2) := by decide +kernel
theorem d1_217 : decode method_5_code 217 = .ok (.aload_n 0, 1) := by decide +kernel
theorem d1_218 : decode method_5_code 218 = .ok (.bipush 6, 2) := by decide +kernel
theorem d1_220 : decode method_5_code 220 = .ok (.iload_n 2, 1) := by decide +kernel
theorem d1_221 : decode method_5_code 221 = .ok (.iload_n 3, 1) := by decide +kernel
theorem d1_222 : decode method_5_code 222 = .ok (.invokestatic 67, 3) := by decide +kernel
theorem d1_225 : decode method_5_code 225 = .ok (.castore, 1) := by decide +kernel
theorem d1_226 : decode method_5_code 226 = .ok (.new 19, 3) := by decide +kernel
theorem d1_229 : decode method_5_code 229 = .ok (.dup, 1) := by decide +kernel
theorem d1_230 : decode method_5_code 230 = .ok (.aload 4, 2) := by decide +kernel
theorem d1_232 : decode method_5_code 232 = .ok (.invokespecial 71, 3) := by decide +kernel
theorem d1_235 : decode method_5_code 235 = .ok (.areturn, 1) := by decide +kernel
theorem d8_0 : decode jdk_43_method_13_code 0 = .ok (.aload_n 0, 1) := by decide +kernel
theorem d8_1 : decode jdk_43_method_13_code 1 = .ok (.arraylength, 1) := by decide +kernel
theorem d8_2 : decode jdk_43_method_13_code 2 = .ok (.aload_n 1, 1) := by decide +kernel
theorem d8_3 : decode jdk_43_method_13_code 3 = .ok (.arraylength, 1) := by decide +kernel
theorem d8_4 : decode jdk_43_method_13_code 4 = .ok (.if_icmp .ne 30, 3) := by decide +kernel
theorem d8_7 : decode jdk_43_method_13_code 7 = .ok (.iconst 0, 1) := by decide +kernel
theorem d8_8 : decode jdk_43_method_13_code 8 = .ok (.istore_n 2, 1) := by decide +kernel
theorem d8_9 : decode jdk_43_method_13_code 9 = .ok (.iload_n 2, 1) := by decide +kernel
theorem d8_10 : decode jdk_43_method_13_code 10 = .ok (.aload_n 0, 1) := by decide +kernel
theorem d8_11 : decode jdk_43_method_13_code 11 = .ok (.arraylength, 1) := by decide +kernel
theorem d8_12 : decode jdk_43_method_13_code 12 = .ok (.if_icmp .ge 20, 3) := by decide +kernel
theorem d8_15 : decode jdk_43_method_13_code 15 = .ok (.aload_n 0, 1) := by decide +kernel
theorem d8_16 : decode jdk_43_method_13_code 16 = .ok (.iload_n 2, 1) := by decide +kernel
theorem d8_17 : decode jdk_43_method_13_code 17 = .ok (.baload, 1) := by decide +kernel
theorem d8_18 : decode jdk_43_method_13_code 18 = .ok (.aload_n 1, 1) := by decide +kernel
theorem d8_19 : decode jdk_43_method_13_code 19 = .ok (.iload_n 2, 1) := by decide +kernel
theorem d8_20 : decode jdk_43_method_13_code 20 = .ok (.baload, 1) := by decide +kernel
theorem d8_21 : decode jdk_43_method_13_code 21 = .ok (.if_icmp .eq 5, 3) := by decide +kernel
theorem d8_24 : decode jdk_43_method_13_code 24 = .ok (.iconst 0, 1) := by decide +kernel
theorem d8_25 : decode jdk_43_method_13_code 25 = .ok (.ireturn, 1) := by decide +kernel
theorem d8_26 : decode jdk_43_method_13_code 26 = .ok (.iinc 2 1, 3) := by decide +kernel
theorem d8_29 : decode jdk_43_method_13_code 29 = .ok (.goto (-20), 3) := by decide +kernel
theorem d8_32 : decode jdk_43_method_13_code 32 = .ok (.iconst 1, 1) := by decide +kernel
theorem d8_33 : decode jdk_43_method_13_code 33 = .ok (.ireturn, 1) := by decide +kernel
theorem d8_34 : decode jdk_43_method_13_code 34 = .ok (.iconst 0, 1) := by decide +kernel
theorem d8_35 : decode jdk_43_method_13_code 35 = .ok (.ireturn, 1) := by decide +kernel
theorem d7_0 : decode jdk_42_method_66_code 0 = .ok (.aload_n 0, 1) := by decide +kernel
theorem d7_1 : decode jdk_42_method_66_code 1 = .ok (.aload_n 1, 1) := by decide +kernel
theorem d7_2 : decode jdk_42_method_66_code 2 = .ok (.if_acmp .ne 5, 3) := by decide +kernel
theorem d7_5 : decode jdk_42_method_66_code 5 = .ok (.iconst 1, 1) := by decide +kernel
theorem d7_6 : decode jdk_42_method_66_code 6 = .ok (.ireturn, 1) := by decide +kernel
theorem d7_7 : decode jdk_42_method_66_code 7 = .ok (.aload_n 1, 1) := by decide +kernel
theorem d7_8 : decode jdk_42_method_66_code 8 = .ok (.instanceof 10, 3) := by decide +kernel
theorem d7_11 : decode jdk_42_method_66_code 11 = .ok (.ifCond .eq 43, 3) := by decide +kernel
theorem d7_14 : decode jdk_42_method_66_code 14 = .ok (.aload_n 1, 1) := by decide +kernel
theorem d7_15 : decode jdk_42_method_66_code 15 = .ok (.checkcast 10, 3) := by decide +kernel
theorem d7_18 : decode jdk_42_method_66_code 18 = .ok (.astore_n 2, 1) := by decide +kernel
theorem d7_19 : decode jdk_42_method_66_code 19 = .ok (.getstatic 38, 3) := by decide +kernel
theorem d7_22 : decode jdk_42_method_66_code 22 = .ok (.ifCond .eq 14, 3) := by decide +kernel
theorem d7_25 : decode jdk_42_method_66_code 25 = .ok (.aload_n 0, 1) := by decide +kernel
theorem d7_26 : decode jdk_42_method_66_code 26 = .ok (.getfield 15, 3) := by decide +kernel
theorem d7_29 : decode jdk_42_method_66_code 29 = .ok (.aload_n 2, 1) := by decide +kernel
theorem d7_30 : decode jdk_42_method_66_code 30 = .ok (.getfield 15, 3) := by decide +kernel
theorem d7_33 : decode jdk_42_method_66_code 33 = .ok (.if_icmp .ne 21, 3) := by decide +kernel
theorem d7_36 : decode jdk_42_method_66_code 36 = .ok (.aload_n 0, 1) := by decide +kernel
theorem d7_37 : decode jdk_42_method_66_code 37 = .ok (.getfield 9, 3) := by decide +kernel
theorem d7_40 : decode jdk_42_method_66_code 40 = .ok (.aload_n 2, 1) := by decide +kernel
theorem d7_41 : decode jdk_42_method_66_code 41 = .ok (.getfield 9, 3) := by decide +kernel
theorem d7_44 : decode jdk_42_method_66_code 44 = .ok (.invokestatic 541, 3) := by decide +kernel
theorem d7_47 : decode jdk_42_method_66_code 47 = .ok (.ifCond .eq 7, 3) := by decide +kernel
theorem d7_50 : decode jdk_42_method_66_code 50 = .ok (.iconst 1, 1) := by decide +kernel
theorem d7_51 : decode jdk_42_method_66_code 51 = .ok (.goto 4, 3) := by decide +kernel
theorem d7_54 : decode jdk_42_method_66_code 54 = .ok (.iconst 0, 1) := by decide +kernel
theorem d7_55 : decode jdk_42_method_66_code 55 = .ok (.ireturn, 1) := by decide +kernel
theorem d24_0 : decode jdk_31_method_10_code 0 = .ok (.aload_n 0, 1) := by decide +kernel
theorem d24_1 : decode jdk_31_method_10_code 1 = .ok (.ifnonnull 11, 3) := by decide +kernel
theorem d24_4 : decode jdk_31_method_10_code 4 = .ok (.new 84, 3) := by decide +kernel
theorem d24_7 : decode jdk_31_method_10_code 7 = .ok (.dup, 1) := by decide +kernel
theorem d24_8 : decode jdk_31_method_10_code 8 = .ok (.invokespecial 86, 3) := by decide +kernel
theorem d24_11 : decode jdk_31_method_10_code 11 = .ok (.athrow, 1) := by decide +kernel
theorem d24_12 : decode jdk_31_method_10_code 12 = .ok (.aload_n 0, 1) := by decide +kernel
theorem d24_13 : decode jdk_31_method_10_code 13 = .ok (.areturn, 1) := by decide +kernel
theorem d25_0 : decode jdk_32_method_2_code 0 = .ok (.aload_n 0, 1) := by decide +kernel
theorem d25_1 : decode jdk_32_method_2_code 1 = .ok (.invokespecial 7, 3) := by decide +kernel
theorem d25_4 : decode jdk_32_method_2_code 4 = .ok (.aload_n 0, 1) := by decide +kernel
theorem d25_5 : decode jdk_32_method_2_code 5 = .ok (.aload_n 1, 1) := by decide +kernel
theorem d25_6 : decode jdk_32_method_2_code 6 = .ok (.putfield 13, 3) := by decide +kernel
theorem d25_9 : decode jdk_32_method_2_code 9 = .ok (.return_, 1) := by decide +kernel
theorem d23_0 : decode jdk_32_method_3_code 0 = .ok (.new 2, 3) := by decide +kernel
theorem d23_3 : decode jdk_32_method_3_code 3 = .ok (.dup, 1) := by decide +kernel
theorem d23_4 : decode jdk_32_method_3_code 4 = .ok (.aload_n 0, 1) := by decide +kernel
theorem d23_5 : decode jdk_32_method_3_code 5 = .ok (.invokestatic 17, 3) := by decide +kernel
theorem d23_8 : decode jdk_32_method_3_code 8 = .ok (.invokespecial 23, 3) := by decide +kernel
theorem d23_11 : decode jdk_32_method_3_code 11 = .ok (.areturn, 1) := by decide +kernel
theorem d10_0 : decode jdk_32_method_15_code 0 = .ok (.aload_n 0, 1) := by decide +kernel
theorem d10_1 : decode jdk_32_method_15_code 1 = .ok (.getfield 13, 3) := by decide +kernel
theorem d10_4 : decode jdk_32_method_15_code 4 = .ok (.ifnull 10, 3) := by decide +kernel
theorem d10_7 : decode jdk_32_method_15_code 7 = .ok (.aload_n 0, 1) := by decide +kernel
theorem d10_8 : decode jdk_32_method_15_code 8 = .ok (.getfield 13, 3) := by decide +kernel
theorem d10_11 : decode jdk_32_method_15_code 11 = .ok (.goto 4, 3) := by decide +kernel
theorem d10_14 : decode jdk_32_method_15_code 14 = .ok (.aload_n 1, 1) := by decide +kernel
theorem d10_15 : decode jdk_32_method_15_code 15 = .ok (.areturn, 1) := by decide +kernel
theorem d9_0 : decode jdk_32_method_1_code 0 = .ok (.getstatic 1, 3) := by decide +kernel
theorem d9_3 : decode jdk_32_method_1_code 3 = .ok (.astore_n 0, 1) := by decide +kernel
theorem d9_4 : decode jdk_32_method_1_code 4 = .ok (.aload_n 0, 1) := by decide +kernel
theorem d9_5 : decode jdk_32_method_1_code 5 = .ok (.areturn, 1) := by decide +kernel
theorem d6_0 : decode prog_14_method_1_code 0 = .ok (.getstatic 19, 3) := by decide +kernel
theorem d6_3 : decode prog_14_method_1_code 3 = .ok (.invokevirtual 23, 3) := by decide +kernel
theorem d6_6 : decode prog_14_method_1_code 6 = .ok (.checkcast 24, 3) := by decide +kernel
theorem d6_9 : decode prog_14_method_1_code 9 = .ok (.areturn, 1) := by decide +kernel
theorem d5_0 : decode prog_14_method_7_code 0 = .ok (.invokestatic 50, 3) := by decide +kernel
theorem d5_3 : decode prog_14_method_7_code 3 = .ok (.astore_n 1, 1) := by decide +kernel
theorem d5_4 : decode prog_14_method_7_code 4 = .ok (.aload_n 1, 1) := by decide +kernel
theorem d5_5 : decode prog_14_method_7_code 5 = .ok (.arraylength, 1) := by decide +kernel
theorem d5_6 : decode prog_14_method_7_code 6 = .ok (.istore_n 2, 1) := by decide +kernel
theorem d5_7 : decode prog_14_method_7_code 7 = .ok (.iconst 0, 1) := by decide +kernel
theorem d5_8 : decode prog_14_method_7_code 8 = .ok (.istore_n 3, 1) := by decide +kernel
theorem d5_9 : decode prog_14_method_7_code 9 = .ok (.iload_n 3, 1) := by decide +kernel
theorem d5_10 : decode prog_14_method_7_code 10 = .ok (.iload_n 2, 1) := by decide +kernel
theorem d5_11 : decode prog_14_method_7_code 11 = .ok (.if_icmp .ge 40, 3) := by decide +kernel
theorem d5_14 : decode prog_14_method_7_code 14 = .ok (.aload_n 1, 1) := by decide +kernel
theorem d5_15 : decode prog_14_method_7_code 15 = .ok (.iload_n 3, 1) := by decide +kernel
theorem d5_16 : decode prog_14_method_7_code 16 = .ok (.aaload, 1) := by decide +kernel
theorem d5_17 : decode prog_14_method_7_code 17 = .ok (.astore 4, 2) := by decide +kernel
theorem d5_19 : decode prog_14_method_7_code 19 = .ok (.aload 4, 2) := by decide +kernel
theorem d5_21 : decode prog_14_method_7_code 21 = .ok (.getstatic 16, 3) := by decide +kernel
theorem d5_24 : decode prog_14_method_7_code 24 = .ok (.if_acmp .eq 21, 3) := by decide +kernel
theorem d5_27 : decode prog_14_method_7_code 27 = .ok (.aload 4, 2) := by decide +kernel
theorem d5_29 : decode prog_14_method_7_code 29 = .ok (.getfield 38, 3) := by decide +kernel
theorem d5_32 : decode prog_14_method_7_code 32 = .ok (.aload_n 0, 1) := by decide +kernel
theorem d5_33 : decode prog_14_method_7_code 33 = .ok (.invokevirtual 60, 3) := by decide +kernel
theorem d5_36 : decode prog_14_method_7_code 36 = .ok (.ifCond .eq 9, 3) := by decide +kernel
theorem d5_39 : decode prog_14_method_7_code 39 = .ok (.aload 4, 2) := by decide +kernel
theorem d5_41 : decode prog_14_method_7_code 41 = .ok (.invokestatic 65, 3) := by decide +kernel
theorem d5_44 : decode prog_14_method_7_code 44 = .ok (.areturn, 1) := by decide +kernel
theorem d5_45 : decode prog_14_method_7_code 45 = .ok (.iinc 3 1, 3) := by decide +kernel
theorem d5_48 : decode prog_14_method_7_code 48 = .ok (.goto (-39), 3) := by decide +kernel
theorem d5_51 : decode prog_14_method_7_code 51 = .ok (.invokestatic 71, 3) := by decide +kernel
theorem d5_54 : decode prog_14_method_7_code 54 = .ok (.areturn, 1) := by decide +kernel
theorem d11_0 : decode method_3_code 0 = .ok (.aload_n 0, 1) := by decide +kernel
theorem d11_1 : decode method_3_code 1 = .ok (.ldc 8, 2) := by decide +kernel
theorem d11_3 : decode method_3_code 3 = .ok (.invokevirtual 46, 3) := by decide +kernel
theorem d11_6 : decode method_3_code 6 = .ok (.ifCond .eq 7, 3) := by decide +kernel
theorem d11_9 : decode method_3_code 9 = .ok (.getstatic 50, 3) := by decide +kernel
theorem d11_12 : decode method_3_code 12 = .ok (.areturn, 1) := by decide +kernel
theorem d11_13 : decode method_3_code 13 = .ok (.aload_n 0, 1) := by decide +kernel
theorem d11_14 : decode method_3_code 14 = .ok (.ldc 10, 2) := by decide +kernel
theorem d11_16 : decode method_3_code 16 = .ok (.invokevirtual 46, 3) := by decide +kernel
theorem d11_19 : decode method_3_code 19 = .ok (.ifCond .eq 7, 3) := by decide +kernel
theorem d11_22 : decode method_3_code 22 = .ok (.getstatic 54, 3) := by decide +kernel
theorem d11_25 : decode method_3_code 25 = .ok (.areturn, 1) := by decide +kernel
theorem d11_26 : decode method_3_code 26 = .ok (.aload_n 0, 1) := by decide +kernel
theorem d11_27 : decode method_3_code 27 = .ok (.ldc 12, 2) := by decide +kernel
theorem d11_29 : decode method_3_code 29 = .ok (.invokevirtual 46, 3) := by decide +kernel
theorem d11_32 : decode method_3_code 32 = .ok (.ifCond .eq 7, 3) := by decide +kernel
theorem d11_35 : decode method_3_code 35 = .ok (.getstatic 57, 3) := by decide +kernel
theorem d11_38 : decode method_3_code 38 = .ok (.areturn, 1) := by decide +kernel
theorem d11_39 : decode method_3_code 39 = .ok (.aload_n 0, 1) := by decide +kernel
theorem d11_40 : decode method_3_code 40 = .ok (.ldc 14, 2) := by decide +kernel
theorem d11_42 : decode method_3_code 42 = .ok (.invokevirtual 46, 3) := by decide +kernel
theorem d11_45 : decode method_3_code 45 = .ok (.ifCond .eq 7, 3) := by decide +kernel
theorem d11_48 : decode method_3_code 48 = .ok (.getstatic 60, 3) := by decide +kernel
theorem d11_51 : decode method_3_code 51 = .ok (.areturn, 1) := by decide +kernel
theorem d11_52 : decode method_3_code 52 = .ok (.aconst_null, 1) := by decide +kernel
theorem d11_53 : decode method_3_code 53 = .ok (.areturn, 1) := by decide +kernel
theorem pd__28_5bCI_5bBII_29I : parseMethodDescriptor "([CI[BII)I" = some ⟨[(.array .char), .int, (.array .byte), .int, .int], some .int⟩ := by decide +kernel
theorem pd__28_5bCII_29_5bB : parseMethodDescriptor "([CII)[B" = some ⟨[(.array .char), .int, .int], some (.array .byte)⟩ := by decide +kernel
theorem pd__28_5bBI_29B : parseMethodDescriptor "([BI)B" = some ⟨[(.array .byte), .int], some .byte⟩ := by decide +kernel
theorem pd__28_5bCIILjava_2flang_2fVoid_3b_29V : parseMethodDescriptor "([CIILjava/lang/Void;)V" = some ⟨[(.array .char), .int, .int, (.object "java/lang/Void")], none⟩ := by decide +kernel
theorem pd__28IILjava_2futil_2ffunction_2fBiFunction_3b_29I : parseMethodDescriptor "(IILjava/util/function/BiFunction;)I" = some ⟨[.int, .int, (.object "java/util/function/BiFunction")], some .int⟩ := by decide +kernel
theorem pd__28II_29V : parseMethodDescriptor "(II)V" = some ⟨[.int, .int], none⟩ := by decide +kernel
theorem pd__28_29B : parseMethodDescriptor "()B" = some ⟨[], some .byte⟩ := by decide +kernel
theorem pd__28_29Z : parseMethodDescriptor "()Z" = some ⟨[], some .boolean⟩ := by decide +kernel
theorem pd__28_5bBI_29C : parseMethodDescriptor "([BI)C" = some ⟨[(.array .byte), .int], some .char⟩ := by decide +kernel
theorem pd__28_29I : parseMethodDescriptor "()I" = some ⟨[], some .int⟩ := by decide +kernel
theorem pd__28I_29C : parseMethodDescriptor "(I)C" = some ⟨[.int], some .char⟩ := by decide +kernel
theorem pd__28Ljava_2flang_2fString_3bIIC_29C : parseMethodDescriptor "(Ljava/lang/String;IIC)C" = some ⟨[(.object "java/lang/String"), .int, .int, .char], some .char⟩ := by decide +kernel
theorem pd__28_5bC_29V : parseMethodDescriptor "([C)V" = some ⟨[(.array .char)], none⟩ := by decide +kernel
theorem pd__28_5bB_5bB_29Z : parseMethodDescriptor "([B[B)Z" = some ⟨[(.array .byte), (.array .byte)], some .boolean⟩ := by decide +kernel
theorem pd__28Ljava_2flang_2fObject_3b_29Ljava_2flang_2fObject_3b : parseMethodDescriptor "(Ljava/lang/Object;)Ljava/lang/Object;" = some ⟨[(.object "java/lang/Object")], some (.object "java/lang/Object")⟩ := by decide +kernel
theorem pd__28Ljava_2flang_2fObject_3b_29V : parseMethodDescriptor "(Ljava/lang/Object;)V" = some ⟨[(.object "java/lang/Object")], none⟩ := by decide +kernel
theorem pd__28_29_5bLcom_2fexample_2fphaseline_2fphaseline_2fgame_2fKind_3b : parseMethodDescriptor "()[Lcom/example/phaseline/phaseline/game/Kind;" = some ⟨[], some (.array (.object "com/example/phaseline/phaseline/game/Kind"))⟩ := by decide +kernel
theorem pd__28Ljava_2flang_2fObject_3b_29Z : parseMethodDescriptor "(Ljava/lang/Object;)Z" = some ⟨[(.object "java/lang/Object")], some .boolean⟩ := by decide +kernel
theorem pd__28_29Ljava_2futil_2fOptional_3b : parseMethodDescriptor "()Ljava/util/Optional;" = some ⟨[], some (.object "java/util/Optional")⟩ := by decide +kernel
theorem pd__28Ljava_2flang_2fObject_3b_29Ljava_2futil_2fOptional_3b : parseMethodDescriptor "(Ljava/lang/Object;)Ljava/util/Optional;" = some ⟨[(.object "java/lang/Object")], some (.object "java/util/Optional")⟩ := by decide +kernel
theorem pd__28Ljava_2flang_2fString_3b_29Ljava_2futil_2fOptional_3b : parseMethodDescriptor "(Ljava/lang/String;)Ljava/util/Optional;" = some ⟨[(.object "java/lang/String")], some (.object "java/util/Optional")⟩ := by decide +kernel
theorem pd__28Ljava_2flang_2fString_3b_29Lcom_2fexample_2fphaseline_2fphaseline_2fgame_2fKind_3b : parseMethodDescriptor "(Ljava/lang/String;)Lcom/example/phaseline/phaseline/game/Kind;" = some ⟨[(.object "java/lang/String")], some (.object "com/example/phaseline/phaseline/game/Kind")⟩ := by decide +kernel
theorem pd__28Ljava_2flang_2fString_3bIIC_29Ljava_2flang_2fString_3b : parseMethodDescriptor "(Ljava/lang/String;IIC)Ljava/lang/String;" = some ⟨[(.object "java/lang/String"), .int, .int, .char], some (.object "java/lang/String")⟩ := by decide +kernel
theorem ef_rmC51 (q1 : Addr) (q3 : Addr) (m : MethodId) : entryFrame m #[.ref q1, .int (0 : Int32), .ref q3, .int (0 : Int32), .int (1 : Int32)] 7 = mkF m 0 #[.val (.ref q1), .val (.int (0 : Int32)), .val (.ref q3), .val (.int (0 : Int32)), .val (.int (1 : Int32)), .unset, .unset] [] := by
  first | (simp [entryFrame, mkF, argsToLocals, Value.category]; done) | rfl
set_option maxRecDepth 65536 in
set_option maxHeartbeats 40000000 in
theorem rmC51 (l : Launch) (Z : State) (a0 : Array Value) (hw : ∀ d ∈ tables_1, d.before a0 Z = true) (ws : List Jvm.Cond) (q1 : Addr) (q3 : Addr) (h0 : Heap) (n0 : Nat) (x0 : Int32) (kc : ClassId) (A_c : Arv Z h0 q1 kc .char (1 : Int32) [.int x0] (.int 0)) (hx0 : BY x0) (kb : ClassId) (A_b : Arv Z h0 q3 kb .byte (1 : Int32) [.int 0] (.int 0)) (n_cb : q1 ≠ q3) (g_b : n0 ≤ q3) :
    Ctr l Z ({ cls := "java/lang/StringUTF16", name := "compress", desc := "([CI[BII)I" } : Jvm.MethodName) jdk_52_method_21_code 7 (some .int) ws ({ frames := 0, cells := 0, slots := 0, locals := 0 } : Room) #[.ref q1, .int (0 : Int32), .ref q3, .int (0 : Int32), .int (1 : Int32)] h0 (fun v h L => v = some (.int (1 : Int32)) ∧ Fr n0 L ∧ Keep h0 h [q3] ∧ Arv Z h q3 kb .byte (1 : Int32) [.int (lat x0)] (.int 0)) := by
  refine Ctr.enter (Ls := #[.val (.ref q1), .val (.int (0 : Int32)), .val (.ref q3), .val (.int (0 : Int32)), .val (.int (1 : Int32)), .unset, .unset]) (by decide +kernel) (fun m => ef_rmC51 q1 q3 m) ?_
  intro p e s m below meth c T hx hby hml hown hnm hret hlk hZ hh X0 e0
  have N0 := Fr.nil n0
  refine g_iconst X0 hx hby d21_0 (pc' := 1) rfl (z := (0 : Int32)) rfl ?_
  refine g_istore X0 hx hby d21_1 (pc' := 3) rfl (l' := #[.val (.ref q1), .val (.int (0 : Int32)), .val (.ref q3), .val (.int (0 : Int32)), .val (.int (1 : Int32)), .val (.int (0 : Int32)), .unset]) rfl ?_
  refine g_iload X0 hx hby d21_3 (pc' := 5) rfl rfl ?_
  refine g_iload X0 hx hby d21_5 (pc' := 7) rfl rfl ?_
  refine g_icmp_ge X0 hx hby d21_7 (by decide) (pc' := 44) (by decide) (pn := 10) rfl (fun z => absurd z (by decide)) (fun _ => ?_)
  refine g_aloadN X0 hx hby d21_10 (pc' := 11) rfl rfl rfl ?_
  refine g_iloadN X0 hx hby d21_11 (pc' := 12) rfl rfl ?_
  refine g_caload X0 hx hZ hby d21_12 (pc' := 13) rfl e0 A_c (by decide) (v := .int x0) rfl ?_
  refine g_istore X0 hx hby d21_13 (pc' := 15) rfl (l' := #[.val (.ref q1), .val (.int (0 : Int32)), .val (.ref q3), .val (.int (0 : Int32)), .val (.int (1 : Int32)), .val (.int (0 : Int32)), .val (.int x0)]) rfl ?_
  refine g_iload X0 hx hby d21_15 (pc' := 17) rfl rfl ?_
  refine g_sipush X0 hx hby d21_17 (pc' := 20) rfl (z := (255 : Int32)) rfl ?_
  refine g_icmp_le X0 hx hby d21_20 (by decide) (pc' := 26) (by decide) (pn := 23) rfl (fun hc20_1 => ?_) (fun z => absurd z (own_le255 hx0))
  refine g_aloadN X0 hx hby d21_26 (pc' := 27) rfl rfl rfl ?_
  refine g_iloadN X0 hx hby d21_27 (pc' := 28) rfl rfl ?_
  refine g_iload X0 hx hby d21_28 (pc' := 30) rfl rfl ?_
  refine g_i2b X0 hx hby d21_30 (pc' := 31) rfl ?_
  refine g_bastore X0 hx hZ 0 hby d21_31 (pc' := 32) rfl e0 A_b (by decide) (by decide) (by first | decide | simp) ?_
  intro T2 X2 W2 A2v
  have N2 := Fr.snoc X2 N0 g_b
  have A2_q1 := A_c.other W2 n_cb
  have K2 := (Keep.refl h0 [q3]).wr W2 (Or.inl (List.mem_of_getElem? (i := 0) rfl))
  have A2 : Arv Z T2.heap q3 kb .byte (1 : Int32) [.int (nar .byte x0.toInt8.toInt32)] (.int 0) := A2v
  refine g_iinc X2 hx hby d21_32 (pc' := 35) rfl rfl (l' := #[.val (.ref q1), .val (.int (1 : Int32)), .val (.ref q3), .val (.int (0 : Int32)), .val (.int (1 : Int32)), .val (.int (0 : Int32)), .val (.int x0)]) rfl ?_
  refine g_iinc X2 hx hby d21_35 (pc' := 38) rfl rfl (l' := #[.val (.ref q1), .val (.int (1 : Int32)), .val (.ref q3), .val (.int (1 : Int32)), .val (.int (1 : Int32)), .val (.int (0 : Int32)), .val (.int x0)]) rfl ?_
  refine g_iinc X2 hx hby d21_38 (pc' := 41) rfl rfl (l' := #[.val (.ref q1), .val (.int (1 : Int32)), .val (.ref q3), .val (.int (1 : Int32)), .val (.int (1 : Int32)), .val (.int (1 : Int32)), .val (.int x0)]) rfl ?_
  refine g_goto X2 hx hby d21_41 (by decide) (pc' := 3) (by decide) ?_
  refine g_iload X2 hx hby d21_3 (pc' := 5) rfl rfl ?_
  refine g_iload X2 hx hby d21_5 (pc' := 7) rfl rfl ?_
  refine g_icmp_ge X2 hx hby d21_7 (by decide) (pc' := 44) (by decide) (pn := 10) rfl (fun _ => ?_) (fun z => absurd z (by decide))
  refine g_iload X2 hx hby d21_44 (pc' := 46) rfl rfl ?_
  exact g_retI (Q := (fun v h L => v = some (.int (1 : Int32)) ∧ Fr n0 L ∧ Keep h0 h [q3] ∧ Arv Z h q3 kb .byte (1 : Int32) [.int (lat x0)] (.int 0))) X2 hx hby d21_46 hret hlk (by decide) (by decide) ⟨rfl, N2, K2, A2⟩
theorem ef_rmC52 (q1 : Addr) (q3 : Addr) (m : MethodId) : entryFrame m #[.ref q1, .int (0 : Int32), .ref q3, .int (0 : Int32), .int (2 : Int32)] 7 = mkF m 0 #[.val (.ref q1), .val (.int (0 : Int32)), .val (.ref q3), .val (.int (0 : Int32)), .val (.int (2 : Int32)), .unset, .unset] [] := by
  first | (simp [entryFrame, mkF, argsToLocals, Value.category]; done) | rfl
set_option maxRecDepth 65536 in
set_option maxHeartbeats 40000000 in
theorem rmC52 (l : Launch) (Z : State) (a0 : Array Value) (hw : ∀ d ∈ tables_1, d.before a0 Z = true) (ws : List Jvm.Cond) (q1 : Addr) (q3 : Addr) (h0 : Heap) (n0 : Nat) (x0 x1 : Int32) (kc : ClassId) (A_c : Arv Z h0 q1 kc .char (2 : Int32) [.int x0, .int x1] (.int 0)) (hx0 : BY x0) (hx1 : BY x1) (kb : ClassId) (A_b : Arv Z h0 q3 kb .byte (2 : Int32) [.int 0, .int 0] (.int 0)) (n_cb : q1 ≠ q3) (g_b : n0 ≤ q3) :
    Ctr l Z ({ cls := "java/lang/StringUTF16", name := "compress", desc := "([CI[BII)I" } : Jvm.MethodName) jdk_52_method_21_code 7 (some .int) ws ({ frames := 0, cells := 0, slots := 0, locals := 0 } : Room) #[.ref q1, .int (0 : Int32), .ref q3, .int (0 : Int32), .int (2 : Int32)] h0 (fun v h L => v = some (.int (2 : Int32)) ∧ Fr n0 L ∧ Keep h0 h [q3] ∧ Arv Z h q3 kb .byte (2 : Int32) [.int (lat x0), .int (lat x1)] (.int 0)) := by
  refine Ctr.enter (Ls := #[.val (.ref q1), .val (.int (0 : Int32)), .val (.ref q3), .val (.int (0 : Int32)), .val (.int (2 : Int32)), .unset, .unset]) (by decide +kernel) (fun m => ef_rmC52 q1 q3 m) ?_
  intro p e s m below meth c T hx hby hml hown hnm hret hlk hZ hh X0 e0
  have N0 := Fr.nil n0
  refine g_iconst X0 hx hby d21_0 (pc' := 1) rfl (z := (0 : Int32)) rfl ?_
  refine g_istore X0 hx hby d21_1 (pc' := 3) rfl (l' := #[.val (.ref q1), .val (.int (0 : Int32)), .val (.ref q3), .val (.int (0 : Int32)), .val (.int (2 : Int32)), .val (.int (0 : Int32)), .unset]) rfl ?_
  refine g_iload X0 hx hby d21_3 (pc' := 5) rfl rfl ?_
  refine g_iload X0 hx hby d21_5 (pc' := 7) rfl rfl ?_
  refine g_icmp_ge X0 hx hby d21_7 (by decide) (pc' := 44) (by decide) (pn := 10) rfl (fun z => absurd z (by decide)) (fun _ => ?_)
  refine g_aloadN X0 hx hby d21_10 (pc' := 11) rfl rfl rfl ?_
  refine g_iloadN X0 hx hby d21_11 (pc' := 12) rfl rfl ?_
  refine g_caload X0 hx hZ hby d21_12 (pc' := 13) rfl e0 A_c (by decide) (v := .int x0) rfl ?_
  refine g_istore X0 hx hby d21_13 (pc' := 15) rfl (l' := #[.val (.ref q1), .val (.int (0 : Int32)), .val (.ref q3), .val (.int (0 : Int32)), .val (.int (2 : Int32)), .val (.int (0 : Int32)), .val (.int x0)]) rfl ?_
  refine g_iload X0 hx hby d21_15 (pc' := 17) rfl rfl ?_
  refine g_sipush X0 hx hby d21_17 (pc' := 20) rfl (z := (255 : Int32)) rfl ?_
  refine g_icmp_le X0 hx hby d21_20 (by decide) (pc' := 26) (by decide) (pn := 23) rfl (fun hc20_1 => ?_) (fun z => absurd z (own_le255 hx0))
  refine g_aloadN X0 hx hby d21_26 (pc' := 27) rfl rfl rfl ?_
  refine g_iloadN X0 hx hby d21_27 (pc' := 28) rfl rfl ?_
  refine g_iload X0 hx hby d21_28 (pc' := 30) rfl rfl ?_
  refine g_i2b X0 hx hby d21_30 (pc' := 31) rfl ?_
  refine g_bastore X0 hx hZ 0 hby d21_31 (pc' := 32) rfl e0 A_b (by decide) (by decide) (by first | decide | simp) ?_
  intro T2 X2 W2 A2v
  have N2 := Fr.snoc X2 N0 g_b
  have A2_q1 := A_c.other W2 n_cb
  have K2 := (Keep.refl h0 [q3]).wr W2 (Or.inl (List.mem_of_getElem? (i := 0) rfl))
  have A2 : Arv Z T2.heap q3 kb .byte (2 : Int32) [.int (nar .byte x0.toInt8.toInt32), .int 0] (.int 0) := A2v
  refine g_iinc X2 hx hby d21_32 (pc' := 35) rfl rfl (l' := #[.val (.ref q1), .val (.int (1 : Int32)), .val (.ref q3), .val (.int (0 : Int32)), .val (.int (2 : Int32)), .val (.int (0 : Int32)), .val (.int x0)]) rfl ?_
  refine g_iinc X2 hx hby d21_35 (pc' := 38) rfl rfl (l' := #[.val (.ref q1), .val (.int (1 : Int32)), .val (.ref q3), .val (.int (1 : Int32)), .val (.int (2 : Int32)), .val (.int (0 : Int32)), .val (.int x0)]) rfl ?_
  refine g_iinc X2 hx hby d21_38 (pc' := 41) rfl rfl (l' := #[.val (.ref q1), .val (.int (1 : Int32)), .val (.ref q3), .val (.int (1 : Int32)), .val (.int (2 : Int32)), .val (.int (1 : Int32)), .val (.int x0)]) rfl ?_
  refine g_goto X2 hx hby d21_41 (by decide) (pc' := 3) (by decide) ?_
  refine g_iload X2 hx hby d21_3 (pc' := 5) rfl rfl ?_
  refine g_iload X2 hx hby d21_5 (pc' := 7) rfl rfl ?_
  refine g_icmp_ge X2 hx hby d21_7 (by decide) (pc' := 44) (by decide) (pn := 10) rfl (fun z => absurd z (by decide)) (fun _ => ?_)
  refine g_aloadN X2 hx hby d21_10 (pc' := 11) rfl rfl rfl ?_
  refine g_iloadN X2 hx hby d21_11 (pc' := 12) rfl rfl ?_
  refine g_caload X2 hx hZ hby d21_12 (pc' := 13) rfl rfl A2_q1 (by decide) (v := .int x1) rfl ?_
  refine g_istore X2 hx hby d21_13 (pc' := 15) rfl (l' := #[.val (.ref q1), .val (.int (1 : Int32)), .val (.ref q3), .val (.int (1 : Int32)), .val (.int (2 : Int32)), .val (.int (1 : Int32)), .val (.int x1)]) rfl ?_
  refine g_iload X2 hx hby d21_15 (pc' := 17) rfl rfl ?_
  refine g_sipush X2 hx hby d21_17 (pc' := 20) rfl (z := (255 : Int32)) rfl ?_
  refine g_icmp_le X2 hx hby d21_20 (by decide) (pc' := 26) (by decide) (pn := 23) rfl (fun hc20_3 => ?_) (fun z => absurd z (own_le255 hx1))
  refine g_aloadN X2 hx hby d21_26 (pc' := 27) rfl rfl rfl ?_
  refine g_iloadN X2 hx hby d21_27 (pc' := 28) rfl rfl ?_
  refine g_iload X2 hx hby d21_28 (pc' := 30) rfl rfl ?_
  refine g_i2b X2 hx hby d21_30 (pc' := 31) rfl ?_
  refine g_bastore X2 hx hZ 1 hby d21_31 (pc' := 32) rfl rfl A2 (by decide) (by decide) (by first | decide | simp) ?_
  intro T4 X4 W4 A4v
  have N4 := Fr.snoc X4 N2 g_b
  have A4_q1 := A2_q1.other W4 n_cb
  have K4 := K2.wr W4 (Or.inl (List.mem_of_getElem? (i := 0) rfl))
  have A4 : Arv Z T4.heap q3 kb .byte (2 : Int32) [.int (nar .byte x0.toInt8.toInt32), .int (nar .byte x1.toInt8.toInt32)] (.int 0) := A4v
  refine g_iinc X4 hx hby d21_32 (pc' := 35) rfl rfl (l' := #[.val (.ref q1), .val (.int (2 : Int32)), .val (.ref q3), .val (.int (1 : Int32)), .val (.int (2 : Int32)), .val (.int (1 : Int32)), .val (.int x1)]) rfl ?_
  refine g_iinc X4 hx hby d21_35 (pc' := 38) rfl rfl (l' := #[.val (.ref q1), .val (.int (2 : Int32)), .val (.ref q3), .val (.int (2 : Int32)), .val (.int (2 : Int32)), .val (.int (1 : Int32)), .val (.int x1)]) rfl ?_
  refine g_iinc X4 hx hby d21_38 (pc' := 41) rfl rfl (l' := #[.val (.ref q1), .val (.int (2 : Int32)), .val (.ref q3), .val (.int (2 : Int32)), .val (.int (2 : Int32)), .val (.int (2 : Int32)), .val (.int x1)]) rfl ?_
  refine g_goto X4 hx hby d21_41 (by decide) (pc' := 3) (by decide) ?_
  refine g_iload X4 hx hby d21_3 (pc' := 5) rfl rfl ?_
  refine g_iload X4 hx hby d21_5 (pc' := 7) rfl rfl ?_
  refine g_icmp_ge X4 hx hby d21_7 (by decide) (pc' := 44) (by decide) (pn := 10) rfl (fun _ => ?_) (fun z => absurd z (by decide))
  refine g_iload X4 hx hby d21_44 (pc' := 46) rfl rfl ?_
  exact g_retI (Q := (fun v h L => v = some (.int (2 : Int32)) ∧ Fr n0 L ∧ Keep h0 h [q3] ∧ Arv Z h q3 kb .byte (2 : Int32) [.int (lat x0), .int (lat x1)] (.int 0))) X4 hx hby d21_46 hret hlk (by decide) (by decide) ⟨rfl, N4, K4, A4⟩
theorem ef_rmC53 (q1 : Addr) (q3 : Addr) (m : MethodId) : entryFrame m #[.ref q1, .int (0 : Int32), .ref q3, .int (0 : Int32), .int (3 : Int32)] 7 = mkF m 0 #[.val (.ref q1), .val (.int (0 : Int32)), .val (.ref q3), .val (.int (0 : Int32)), .val (.int (3 : Int32)), .unset, .unset] [] := by
  first | (simp [entryFrame, mkF, argsToLocals, Value.category]; done) | rfl
set_option maxRecDepth 65536 in
set_option maxHeartbeats 40000000 in
theorem rmC53 (l : Launch) (Z : State) (a0 : Array Value) (hw : ∀ d ∈ tables_1, d.before a0 Z = true) (ws : List Jvm.Cond) (q1 : Addr) (q3 : Addr) (h0 : Heap) (n0 : Nat) (x0 x1 x2 : Int32) (kc : ClassId) (A_c : Arv Z h0 q1 kc .char (3 : Int32) [.int x0, .int x1, .int x2] (.int 0)) (hx0 : BY x0) (hx1 : BY x1) (hx2 : BY x2) (kb : ClassId) (A_b : Arv Z h0 q3 kb .byte (3 : Int32) [.int 0, .int 0, .int 0] (.int 0)) (n_cb : q1 ≠ q3) (g_b : n0 ≤ q3) :
    Ctr l Z ({ cls := "java/lang/StringUTF16", name := "compress", desc := "([CI[BII)I" } : Jvm.MethodName) jdk_52_method_21_code 7 (some .int) ws ({ frames := 0, cells := 0, slots := 0, locals := 0 } : Room) #[.ref q1, .int (0 : Int32), .ref q3, .int (0 : Int32), .int (3 : Int32)] h0 (fun v h L => v = some (.int (3 : Int32)) ∧ Fr n0 L ∧ Keep h0 h [q3] ∧ Arv Z h q3 kb .byte (3 : Int32) [.int (lat x0), .int (lat x1), .int (lat x2)] (.int 0)) := by
  refine Ctr.enter (Ls := #[.val (.ref q1), .val (.int (0 : Int32)), .val (.ref q3), .val (.int (0 : Int32)), .val (.int (3 : Int32)), .unset, .unset]) (by decide +kernel) (fun m => ef_rmC53 q1 q3 m) ?_
  intro p e s m below meth c T hx hby hml hown hnm hret hlk hZ hh X0 e0
  have N0 := Fr.nil n0
  refine g_iconst X0 hx hby d21_0 (pc' := 1) rfl (z := (0 : Int32)) rfl ?_
  refine g_istore X0 hx hby d21_1 (pc' := 3) rfl (l' := #[.val (.ref q1), .val (.int (0 : Int32)), .val (.ref q3), .val (.int (0 : Int32)), .val (.int (3 : Int32)), .val (.int (0 : Int32)), .unset]) rfl ?_
  refine g_iload X0 hx hby d21_3 (pc' := 5) rfl rfl ?_
  refine g_iload X0 hx hby d21_5 (pc' := 7) rfl rfl ?_
  refine g_icmp_ge X0 hx hby d21_7 (by decide) (pc' := 44) (by decide) (pn := 10) rfl (fun z => absurd z (by decide)) (fun _ => ?_)
  refine g_aloadN X0 hx hby d21_10 (pc' := 11) rfl rfl rfl ?_
  refine g_iloadN X0 hx hby d21_11 (pc' := 12) rfl rfl ?_
  refine g_caload X0 hx hZ hby d21_12 (pc' := 13) rfl e0 A_c (by decide) (v := .int x0) rfl ?_
  refine g_istore X0 hx hby d21_13 (pc' := 15) rfl (l' := #[.val (.ref q1), .val (.int (0 : Int32)), .val (.ref q3), .val (.int (0 : Int32)), .val (.int (3 : Int32)), .val (.int (0 : Int32)), .val (.int x0)]) rfl ?_
  refine g_iload X0 hx hby d21_15 (pc' := 17) rfl rfl ?_
  refine g_sipush X0 hx hby d21_17 (pc' := 20) rfl (z := (255 : Int32)) rfl ?_
  refine g_icmp_le X0 hx hby d21_20 (by decide) (pc' := 26) (by decide) (pn := 23) rfl (fun hc20_1 => ?_) (fun z => absurd z (own_le255 hx0))
  refine g_aloadN X0 hx hby d21_26 (pc' := 27) rfl rfl rfl ?_
  refine g_iloadN X0 hx hby d21_27 (pc' := 28) rfl rfl ?_
  refine g_iload X0 hx hby d21_28 (pc' := 30) rfl rfl ?_
  refine g_i2b X0 hx hby d21_30 (pc' := 31) rfl ?_
  refine g_bastore X0 hx hZ 0 hby d21_31 (pc' := 32) rfl e0 A_b (by decide) (by decide) (by first | decide | simp) ?_
  intro T2 X2 W2 A2v
  have N2 := Fr.snoc X2 N0 g_b
  have A2_q1 := A_c.other W2 n_cb
  have K2 := (Keep.refl h0 [q3]).wr W2 (Or.inl (List.mem_of_getElem? (i := 0) rfl))
  have A2 : Arv Z T2.heap q3 kb .byte (3 : Int32) [.int (nar .byte x0.toInt8.toInt32), .int 0, .int 0] (.int 0) := A2v
  refine g_iinc X2 hx hby d21_32 (pc' := 35) rfl rfl (l' := #[.val (.ref q1), .val (.int (1 : Int32)), .val (.ref q3), .val (.int (0 : Int32)), .val (.int (3 : Int32)), .val (.int (0 : Int32)), .val (.int x0)]) rfl ?_
  refine g_iinc X2 hx hby d21_35 (pc' := 38) rfl rfl (l' := #[.val (.ref q1), .val (.int (1 : Int32)), .val (.ref q3), .val (.int (1 : Int32)), .val (.int (3 : Int32)), .val (.int (0 : Int32)), .val (.int x0)]) rfl ?_
  refine g_iinc X2 hx hby d21_38 (pc' := 41) rfl rfl (l' := #[.val (.ref q1), .val (.int (1 : Int32)), .val (.ref q3), .val (.int (1 : Int32)), .val (.int (3 : Int32)), .val (.int (1 : Int32)), .val (.int x0)]) rfl ?_
  refine g_goto X2 hx hby d21_41 (by decide) (pc' := 3) (by decide) ?_
  refine g_iload X2 hx hby d21_3 (pc' := 5) rfl rfl ?_
  refine g_iload X2 hx hby d21_5 (pc' := 7) rfl rfl ?_
  refine g_icmp_ge X2 hx hby d21_7 (by decide) (pc' := 44) (by decide) (pn := 10) rfl (fun z => absurd z (by decide)) (fun _ => ?_)
  refine g_aloadN X2 hx hby d21_10 (pc' := 11) rfl rfl rfl ?_
  refine g_iloadN X2 hx hby d21_11 (pc' := 12) rfl rfl ?_
  refine g_caload X2 hx hZ hby d21_12 (pc' := 13) rfl rfl A2_q1 (by decide) (v := .int x1) rfl ?_
  refine g_istore X2 hx hby d21_13 (pc' := 15) rfl (l' := #[.val (.ref q1), .val (.int (1 : Int32)), .val (.ref q3), .val (.int (1 : Int32)), .val (.int (3 : Int32)), .val (.int (1 : Int32)), .val (.int x1)]) rfl ?_
  refine g_iload X2 hx hby d21_15 (pc' := 17) rfl rfl ?_
  refine g_sipush X2 hx hby d21_17 (pc' := 20) rfl (z := (255 : Int32)) rfl ?_
  refine g_icmp_le X2 hx hby d21_20 (by decide) (pc' := 26) (by decide) (pn := 23) rfl (fun hc20_3 => ?_) (fun z => absurd z (own_le255 hx1))
  refine g_aloadN X2 hx hby d21_26 (pc' := 27) rfl rfl rfl ?_
  refine g_iloadN X2 hx hby d21_27 (pc' := 28) rfl rfl ?_
  refine g_iload X2 hx hby d21_28 (pc' := 30) rfl rfl ?_
  refine g_i2b X2 hx hby d21_30 (pc' := 31) rfl ?_
  refine g_bastore X2 hx hZ 1 hby d21_31 (pc' := 32) rfl rfl A2 (by decide) (by decide) (by first | decide | simp) ?_
  intro T4 X4 W4 A4v
  have N4 := Fr.snoc X4 N2 g_b
  have A4_q1 := A2_q1.other W4 n_cb
  have K4 := K2.wr W4 (Or.inl (List.mem_of_getElem? (i := 0) rfl))
  have A4 : Arv Z T4.heap q3 kb .byte (3 : Int32) [.int (nar .byte x0.toInt8.toInt32), .int (nar .byte x1.toInt8.toInt32), .int 0] (.int 0) := A4v
  refine g_iinc X4 hx hby d21_32 (pc' := 35) rfl rfl (l' := #[.val (.ref q1), .val (.int (2 : Int32)), .val (.ref q3), .val (.int (1 : Int32)), .val (.int (3 : Int32)), .val (.int (1 : Int32)), .val (.int x1)]) rfl ?_
  refine g_iinc X4 hx hby d21_35 (pc' := 38) rfl rfl (l' := #[.val (.ref q1), .val (.int (2 : Int32)), .val (.ref q3), .val (.int (2 : Int32)), .val (.int (3 : Int32)), .val (.int (1 : Int32)), .val (.int x1)]) rfl ?_
  refine g_iinc X4 hx hby d21_38 (pc' := 41) rfl rfl (l' := #[.val (.ref q1), .val (.int (2 : Int32)), .val (.ref q3), .val (.int (2 : Int32)), .val (.int (3 : Int32)), .val (.int (2 : Int32)), .val (.int x1)]) rfl ?_
  refine g_goto X4 hx hby d21_41 (by decide) (pc' := 3) (by decide) ?_
  refine g_iload X4 hx hby d21_3 (pc' := 5) rfl rfl ?_
  refine g_iload X4 hx hby d21_5 (pc' := 7) rfl rfl ?_
  refine g_icmp_ge X4 hx hby d21_7 (by decide) (pc' := 44) (by decide) (pn := 10) rfl (fun z => absurd z (by decide)) (fun _ => ?_)
  refine g_aloadN X4 hx hby d21_10 (pc' := 11) rfl rfl rfl ?_
  refine g_iloadN X4 hx hby d21_11 (pc' := 12) rfl rfl ?_
  refine g_caload X4 hx hZ hby d21_12 (pc' := 13) rfl rfl A4_q1 (by decide) (v := .int x2) rfl ?_
  refine g_istore X4 hx hby d21_13 (pc' := 15) rfl (l' := #[.val (.ref q1), .val (.int (2 : Int32)), .val (.ref q3), .val (.int (2 : Int32)), .val (.int (3 : Int32)), .val (.int (2 : Int32)), .val (.int x2)]) rfl ?_
  refine g_iload X4 hx hby d21_15 (pc' := 17) rfl rfl ?_
  refine g_sipush X4 hx hby d21_17 (pc' := 20) rfl (z := (255 : Int32)) rfl ?_
  refine g_icmp_le X4 hx hby d21_20 (by decide) (pc' := 26) (by decide) (pn := 23) rfl (fun hc20_5 => ?_) (fun z => absurd z (own_le255 hx2))
  refine g_aloadN X4 hx hby d21_26 (pc' := 27) rfl rfl rfl ?_
  refine g_iloadN X4 hx hby d21_27 (pc' := 28) rfl rfl ?_
  refine g_iload X4 hx hby d21_28 (pc' := 30) rfl rfl ?_
  refine g_i2b X4 hx hby d21_30 (pc' := 31) rfl ?_
  refine g_bastore X4 hx hZ 2 hby d21_31 (pc' := 32) rfl rfl A4 (by decide) (by decide) (by first | decide | simp) ?_
  intro T6 X6 W6 A6v
  have N6 := Fr.snoc X6 N4 g_b
  have A6_q1 := A4_q1.other W6 n_cb
  have K6 := K4.wr W6 (Or.inl (List.mem_of_getElem? (i := 0) rfl))
  have A6 : Arv Z T6.heap q3 kb .byte (3 : Int32) [.int (nar .byte x0.toInt8.toInt32), .int (nar .byte x1.toInt8.toInt32), .int (nar .byte x2.toInt8.toInt32)] (.int 0) := A6v
  refine g_iinc X6 hx hby d21_32 (pc' := 35) rfl rfl (l' := #[.val (.ref q1), .val (.int (3 : Int32)), .val (.ref q3), .val (.int (2 : Int32)), .val (.int (3 : Int32)), .val (.int (2 : Int32)), .val (.int x2)]) rfl ?_
  refine g_iinc X6 hx hby d21_35 (pc' := 38) rfl rfl (l' := #[.val (.ref q1), .val (.int (3 : Int32)), .val (.ref q3), .val (.int (3 : Int32)), .val (.int (3 : Int32)), .val (.int (2 : Int32)), .val (.int x2)]) rfl ?_
  refine g_iinc X6 hx hby d21_38 (pc' := 41) rfl rfl (l' := #[.val (.ref q1), .val (.int (3 : Int32)), .val (.ref q3), .val (.int (3 : Int32)), .val (.int (3 : Int32)), .val (.int (3 : Int32)), .val (.int x2)]) rfl ?_
  refine g_goto X6 hx hby d21_41 (by decide) (pc' := 3) (by decide) ?_
  refine g_iload X6 hx hby d21_3 (pc' := 5) rfl rfl ?_
  refine g_iload X6 hx hby d21_5 (pc' := 7) rfl rfl ?_
  refine g_icmp_ge X6 hx hby d21_7 (by decide) (pc' := 44) (by decide) (pn := 10) rfl (fun _ => ?_) (fun z => absurd z (by decide))
  refine g_iload X6 hx hby d21_44 (pc' := 46) rfl rfl ?_
  exact g_retI (Q := (fun v h L => v = some (.int (3 : Int32)) ∧ Fr n0 L ∧ Keep h0 h [q3] ∧ Arv Z h q3 kb .byte (3 : Int32) [.int (lat x0), .int (lat x1), .int (lat x2)] (.int 0))) X6 hx hby d21_46 hret hlk (by decide) (by decide) ⟨rfl, N6, K6, A6⟩
theorem ef_rmC54 (q1 : Addr) (q3 : Addr) (m : MethodId) : entryFrame m #[.ref q1, .int (0 : Int32), .ref q3, .int (0 : Int32), .int (4 : Int32)] 7 = mkF m 0 #[.val (.ref q1), .val (.int (0 : Int32)), .val (.ref q3), .val (.int (0 : Int32)), .val (.int (4 : Int32)), .unset, .unset] [] := by
  first | (simp [entryFrame, mkF, argsToLocals, Value.category]; done) | rfl
set_option maxRecDepth 65536 in
set_option maxHeartbeats 40000000 in
theorem rmC54 (l : Launch) (Z : State) (a0 : Array Value) (hw : ∀ d ∈ tables_1, d.before a0 Z = true) (ws : List Jvm.Cond) (q1 : Addr) (q3 : Addr) (h0 : Heap) (n0 : Nat) (x0 x1 x2 x3 : Int32) (kc : ClassId) (A_c : Arv Z h0 q1 kc .char (4 : Int32) [.int x0, .int x1, .int x2, .int x3] (.int 0)) (hx0 : BY x0) (hx1 : BY x1) (hx2 : BY x2) (hx3 : BY x3) (kb : ClassId) (A_b : Arv Z h0 q3 kb .byte (4 : Int32) [.int 0, .int 0, .int 0, .int 0] (.int 0)) (n_cb : q1 ≠ q3) (g_b : n0 ≤ q3) :
    Ctr l Z ({ cls := "java/lang/StringUTF16", name := "compress", desc := "([CI[BII)I" } : Jvm.MethodName) jdk_52_method_21_code 7 (some .int) ws ({ frames := 0, cells := 0, slots := 0, locals := 0 } : Room) #[.ref q1, .int (0 : Int32), .ref q3, .int (0 : Int32), .int (4 : Int32)] h0 (fun v h L => v = some (.int (4 : Int32)) ∧ Fr n0 L ∧ Keep h0 h [q3] ∧ Arv Z h q3 kb .byte (4 : Int32) [.int (lat x0), .int (lat x1), .int (lat x2), .int (lat x3)] (.int 0)) := by
  refine Ctr.enter (Ls := #[.val (.ref q1), .val (.int (0 : Int32)), .val (.ref q3), .val (.int (0 : Int32)), .val (.int (4 : Int32)), .unset, .unset]) (by decide +kernel) (fun m => ef_rmC54 q1 q3 m) ?_
  intro p e s m below meth c T hx hby hml hown hnm hret hlk hZ hh X0 e0
  have N0 := Fr.nil n0
  refine g_iconst X0 hx hby d21_0 (pc' := 1) rfl (z := (0 : Int32)) rfl ?_
  refine g_istore X0 hx hby d21_1 (pc' := 3) rfl (l' := #[.val (.ref q1), .val (.int (0 : Int32)), .val (.ref q3), .val (.int (0 : Int32)), .val (.int (4 : Int32)), .val (.int (0 : Int32)), .unset]) rfl ?_
  refine g_iload X0 hx hby d21_3 (pc' := 5) rfl rfl ?_
  refine g_iload X0 hx hby d21_5 (pc' := 7) rfl rfl ?_
  refine g_icmp_ge X0 hx hby d21_7 (by decide) (pc' := 44) (by decide) (pn := 10) rfl (fun z => absurd z (by decide)) (fun _ => ?_)
  refine g_aloadN X0 hx hby d21_10 (pc' := 11) rfl rfl rfl ?_
  refine g_iloadN X0 hx hby d21_11 (pc' := 12) rfl rfl ?_
  refine g_caload X0 hx hZ hby d21_12 (pc' := 13) rfl e0 A_c (by decide) (v := .int x0) rfl ?_
  refine g_istore X0 hx hby d21_13 (pc' := 15) rfl (l' := #[.val (.ref q1), .val (.int (0 : Int32)), .val (.ref q3), .val (.int (0 : Int32)), .val (.int (4 : Int32)), .val (.int (0 : Int32)), .val (.int x0)]) rfl ?_
  refine g_iload X0 hx hby d21_15 (pc' := 17) rfl rfl ?_
  refine g_sipush X0 hx hby d21_17 (pc' := 20) rfl (z := (255 : Int32)) rfl ?_
  refine g_icmp_le X0 hx hby d21_20 (by decide) (pc' := 26) (by decide) (pn := 23) rfl (fun hc20_1 => ?_) (fun z => absurd z (own_le255 hx0))
  refine g_aloadN X0 hx hby d21_26 (pc' := 27) rfl rfl rfl ?_
  refine g_iloadN X0 hx hby d21_27 (pc' := 28) rfl rfl ?_
  refine g_iload X0 hx hby d21_28 (pc' := 30) rfl rfl ?_
  refine g_i2b X0 hx hby d21_30 (pc' := 31) rfl ?_
  refine g_bastore X0 hx hZ 0 hby d21_31 (pc' := 32) rfl e0 A_b (by decide) (by decide) (by first | decide | simp) ?_
  intro T2 X2 W2 A2v
  have N2 := Fr.snoc X2 N0 g_b
  have A2_q1 := A_c.other W2 n_cb
  have K2 := (Keep.refl h0 [q3]).wr W2 (Or.inl (List.mem_of_getElem? (i := 0) rfl))
  have A2 : Arv Z T2.heap q3 kb .byte (4 : Int32) [.int (nar .byte x0.toInt8.toInt32), .int 0, .int 0, .int 0] (.int 0) := A2v
  refine g_iinc X2 hx hby d21_32 (pc' := 35) rfl rfl (l' := #[.val (.ref q1), .val (.int (1 : Int32)), .val (.ref q3), .val (.int (0 : Int32)), .val (.int (4 : Int32)), .val (.int (0 : Int32)), .val (.int x0)]) rfl ?_
  refine g_iinc X2 hx hby d21_35 (pc' := 38) rfl rfl (l' := #[.val (.ref q1), .val (.int (1 : Int32)), .val (.ref q3), .val (.int (1 : Int32)), .val (.int (4 : Int32)), .val (.int (0 : Int32)), .val (.int x0)]) rfl ?_
  refine g_iinc X2 hx hby d21_38 (pc' := 41) rfl rfl (l' := #[.val (.ref q1), .val (.int (1 : Int32)), .val (.ref q3), .val (.int (1 : Int32)), .val (.int (4 : Int32)), .val (.int (1 : Int32)), .val (.int x0)]) rfl ?_
  refine g_goto X2 hx hby d21_41 (by decide) (pc' := 3) (by decide) ?_
  refine g_iload X2 hx hby d21_3 (pc' := 5) rfl rfl ?_
  refine g_iload X2 hx hby d21_5 (pc' := 7) rfl rfl ?_
  refine g_icmp_ge X2 hx hby d21_7 (by decide) (pc' := 44) (by decide) (pn := 10) rfl (fun z => absurd z (by decide)) (fun _ => ?_)
  refine g_aloadN X2 hx hby d21_10 (pc' := 11) rfl rfl rfl ?_
  refine g_iloadN X2 hx hby d21_11 (pc' := 12) rfl rfl ?_
  refine g_caload X2 hx hZ hby d21_12 (pc' := 13) rfl rfl A2_q1 (by decide) (v := .int x1) rfl ?_
  refine g_istore X2 hx hby d21_13 (pc' := 15) rfl (l' := #[.val (.ref q1), .val (.int (1 : Int32)), .val (.ref q3), .val (.int (1 : Int32)), .val (.int (4 : Int32)), .val (.int (1 : Int32)), .val (.int x1)]) rfl ?_
  refine g_iload X2 hx hby d21_15 (pc' := 17) rfl rfl ?_
  refine g_sipush X2 hx hby d21_17 (pc' := 20) rfl (z := (255 : Int32)) rfl ?_
  refine g_icmp_le X2 hx hby d21_20 (by decide) (pc' := 26) (by decide) (pn := 23) rfl (fun hc20_3 => ?_) (fun z => absurd z (own_le255 hx1))
  refine g_aloadN X2 hx hby d21_26 (pc' := 27) rfl rfl rfl ?_
  refine g_iloadN X2 hx hby d21_27 (pc' := 28) rfl rfl ?_
  refine g_iload X2 hx hby d21_28 (pc' := 30) rfl rfl ?_
  refine g_i2b X2 hx hby d21_30 (pc' := 31) rfl ?_
  refine g_bastore X2 hx hZ 1 hby d21_31 (pc' := 32) rfl rfl A2 (by decide) (by decide) (by first | decide | simp) ?_
  intro T4 X4 W4 A4v
  have N4 := Fr.snoc X4 N2 g_b
  have A4_q1 := A2_q1.other W4 n_cb
  have K4 := K2.wr W4 (Or.inl (List.mem_of_getElem? (i := 0) rfl))
  have A4 : Arv Z T4.heap q3 kb .byte (4 : Int32) [.int (nar .byte x0.toInt8.toInt32), .int (nar .byte x1.toInt8.toInt32), .int 0, .int 0] (.int 0) := A4v
  refine g_iinc X4 hx hby d21_32 (pc' := 35) rfl rfl (l' := #[.val (.ref q1), .val (.int (2 : Int32)), .val (.ref q3), .val (.int (1 : Int32)), .val (.int (4 : Int32)), .val (.int (1 : Int32)), .val (.int x1)]) rfl ?_
  refine g_iinc X4 hx hby d21_35 (pc' := 38) rfl rfl (l' := #[.val (.ref q1), .val (.int (2 : Int32)), .val (.ref q3), .val (.int (2 : Int32)), .val (.int (4 : Int32)), .val (.int (1 : Int32)), .val (.int x1)]) rfl ?_
  refine g_iinc X4 hx hby d21_38 (pc' := 41) rfl rfl (l' := #[.val (.ref q1), .val (.int (2 : Int32)), .val (.ref q3), .val (.int (2 : Int32)), .val (.int (4 : Int32)), .val (.int (2 : Int32)), .val (.int x1)]) rfl ?_
  refine g_goto X4 hx hby d21_41 (by decide) (pc' := 3) (by decide) ?_
  refine g_iload X4 hx hby d21_3 (pc' := 5) rfl rfl ?_
  refine g_iload X4 hx hby d21_5 (pc' := 7) rfl rfl ?_
  refine g_icmp_ge X4 hx hby d21_7 (by decide) (pc' := 44) (by decide) (pn := 10) rfl (fun z => absurd z (by decide)) (fun _ => ?_)
  refine g_aloadN X4 hx hby d21_10 (pc' := 11) rfl rfl rfl ?_
  refine g_iloadN X4 hx hby d21_11 (pc' := 12) rfl rfl ?_
  refine g_caload X4 hx hZ hby d21_12 (pc' := 13) rfl rfl A4_q1 (by decide) (v := .int x2) rfl ?_
  refine g_istore X4 hx hby d21_13 (pc' := 15) rfl (l' := #[.val (.ref q1), .val (.int (2 : Int32)), .val (.ref q3), .val (.int (2 : Int32)), .val (.int (4 : Int32)), .val (.int (2 : Int32)), .val (.int x2)]) rfl ?_
  refine g_iload X4 hx hby d21_15 (pc' := 17) rfl rfl ?_
  refine g_sipush X4 hx hby d21_17 (pc' := 20) rfl (z := (255 : Int32)) rfl ?_
  refine g_icmp_le X4 hx hby d21_20 (by decide) (pc' := 26) (by decide) (pn := 23) rfl (fun hc20_5 => ?_) (fun z => absurd z (own_le255 hx2))
  refine g_aloadN X4 hx hby d21_26 (pc' := 27) rfl rfl rfl ?_
  refine g_iloadN X4 hx hby d21_27 (pc' := 28) rfl rfl ?_
  refine g_iload X4 hx hby d21_28 (pc' := 30) rfl rfl ?_
  refine g_i2b X4 hx hby d21_30 (pc' := 31) rfl ?_
  refine g_bastore X4 hx hZ 2 hby d21_31 (pc' := 32) rfl rfl A4 (by decide) (by decide) (by first | decide | simp) ?_
  intro T6 X6 W6 A6v
  have N6 := Fr.snoc X6 N4 g_b
  have A6_q1 := A4_q1.other W6 n_cb
  have K6 := K4.wr W6 (Or.inl (List.mem_of_getElem? (i := 0) rfl))
  have A6 : Arv Z T6.heap q3 kb .byte (4 : Int32) [.int (nar .byte x0.toInt8.toInt32), .int (nar .byte x1.toInt8.toInt32), .int (nar .byte x2.toInt8.toInt32), .int 0] (.int 0) := A6v
  refine g_iinc X6 hx hby d21_32 (pc' := 35) rfl rfl (l' := #[.val (.ref q1), .val (.int (3 : Int32)), .val (.ref q3), .val (.int (2 : Int32)), .val (.int (4 : Int32)), .val (.int (2 : Int32)), .val (.int x2)]) rfl ?_
  refine g_iinc X6 hx hby d21_35 (pc' := 38) rfl rfl (l' := #[.val (.ref q1), .val (.int (3 : Int32)), .val (.ref q3), .val (.int (3 : Int32)), .val (.int (4 : Int32)), .val (.int (2 : Int32)), .val (.int x2)]) rfl ?_
  refine g_iinc X6 hx hby d21_38 (pc' := 41) rfl rfl (l' := #[.val (.ref q1), .val (.int (3 : Int32)), .val (.ref q3), .val (.int (3 : Int32)), .val (.int (4 : Int32)), .val (.int (3 : Int32)), .val (.int x2)]) rfl ?_
  refine g_goto X6 hx hby d21_41 (by decide) (pc' := 3) (by decide) ?_
  refine g_iload X6 hx hby d21_3 (pc' := 5) rfl rfl ?_
  refine g_iload X6 hx hby d21_5 (pc' := 7) rfl rfl ?_
  refine g_icmp_ge X6 hx hby d21_7 (by decide) (pc' := 44) (by decide) (pn := 10) rfl (fun z => absurd z (by decide)) (fun _ => ?_)
  refine g_aloadN X6 hx hby d21_10 (pc' := 11) rfl rfl rfl ?_
  refine g_iloadN X6 hx hby d21_11 (pc' := 12) rfl rfl ?_
  refine g_caload X6 hx hZ hby d21_12 (pc' := 13) rfl rfl A6_q1 (by decide) (v := .int x3) rfl ?_
  refine g_istore X6 hx hby d21_13 (pc' := 15) rfl (l' := #[.val (.ref q1), .val (.int (3 : Int32)), .val (.ref q3), .val (.int (3 : Int32)), .val (.int (4 : Int32)), .val (.int (3 : Int32)), .val (.int x3)]) rfl ?_
  refine g_iload X6 hx hby d21_15 (pc' := 17) rfl rfl ?_
  refine g_sipush X6 hx hby d21_17 (pc' := 20) rfl (z := (255 : Int32)) rfl ?_
  refine g_icmp_le X6 hx hby d21_20 (by decide) (pc' := 26) (by decide) (pn := 23) rfl (fun hc20_7 => ?_) (fun z => absurd z (own_le255 hx3))
  refine g_aloadN X6 hx hby d21_26 (pc' := 27) rfl rfl rfl ?_
  refine g_iloadN X6 hx hby d21_27 (pc' := 28) rfl rfl ?_
  refine g_iload X6 hx hby d21_28 (pc' := 30) rfl rfl ?_
  refine g_i2b X6 hx hby d21_30 (pc' := 31) rfl ?_
  refine g_bastore X6 hx hZ 3 hby d21_31 (pc' := 32) rfl rfl A6 (by decide) (by decide) (by first | decide | simp) ?_
  intro T8 X8 W8 A8v
  have N8 := Fr.snoc X8 N6 g_b
  have A8_q1 := A6_q1.other W8 n_cb
  have K8 := K6.wr W8 (Or.inl (List.mem_of_getElem? (i := 0) rfl))
  have A8 : Arv Z T8.heap q3 kb .byte (4 : Int32) [.int (nar .byte x0.toInt8.toInt32), .int (nar .byte x1.toInt8.toInt32), .int (nar .byte x2.toInt8.toInt32), .int (nar .byte x3.toInt8.toInt32)] (.int 0) := A8v
  refine g_iinc X8 hx hby d21_32 (pc' := 35) rfl rfl (l' := #[.val (.ref q1), .val (.int (4 : Int32)), .val (.ref q3), .val (.int (3 : Int32)), .val (.int (4 : Int32)), .val (.int (3 : Int32)), .val (.int x3)]) rfl ?_
  refine g_iinc X8 hx hby d21_35 (pc' := 38) rfl rfl (l' := #[.val (.ref q1), .val (.int (4 : Int32)), .val (.ref q3), .val (.int (4 : Int32)), .val (.int (4 : Int32)), .val (.int (3 : Int32)), .val (.int x3)]) rfl ?_
  refine g_iinc X8 hx hby d21_38 (pc' := 41) rfl rfl (l' := #[.val (.ref q1), .val (.int (4 : Int32)), .val (.ref q3), .val (.int (4 : Int32)), .val (.int (4 : Int32)), .val (.int (4 : Int32)), .val (.int x3)]) rfl ?_
  refine g_goto X8 hx hby d21_41 (by decide) (pc' := 3) (by decide) ?_
  refine g_iload X8 hx hby d21_3 (pc' := 5) rfl rfl ?_
  refine g_iload X8 hx hby d21_5 (pc' := 7) rfl rfl ?_
  refine g_icmp_ge X8 hx hby d21_7 (by decide) (pc' := 44) (by decide) (pn := 10) rfl (fun _ => ?_) (fun z => absurd z (by decide))
  refine g_iload X8 hx hby d21_44 (pc' := 46) rfl rfl ?_
  exact g_retI (Q := (fun v h L => v = some (.int (4 : Int32)) ∧ Fr n0 L ∧ Keep h0 h [q3] ∧ Arv Z h q3 kb .byte (4 : Int32) [.int (lat x0), .int (lat x1), .int (lat x2), .int (lat x3)] (.int 0))) X8 hx hby d21_46 hret hlk (by decide) (by decide) ⟨rfl, N8, K8, A8⟩
theorem ef_rmC55 (q1 : Addr) (q3 : Addr) (m : MethodId) : entryFrame m #[.ref q1, .int (0 : Int32), .ref q3, .int (0 : Int32), .int (5 : Int32)] 7 = mkF m 0 #[.val (.ref q1), .val (.int (0 : Int32)), .val (.ref q3), .val (.int (0 : Int32)), .val (.int (5 : Int32)), .unset, .unset] [] := by
  first | (simp [entryFrame, mkF, argsToLocals, Value.category]; done) | rfl
set_option maxRecDepth 65536 in
set_option maxHeartbeats 40000000 in
theorem rmC55 (l : Launch) (Z : State) (a0 : Array Value) (hw : ∀ d ∈ tables_1, d.before a0 Z = true) (ws : List Jvm.Cond) (q1 : Addr) (q3 : Addr) (h0 : Heap) (n0 : Nat) (x0 x1 x2 x3 x4 : Int32) (kc : ClassId) (A_c : Arv Z h0 q1 kc .char (5 : Int32) [.int x0, .int x1, .int x2, .int x3, .int x4] (.int 0)) (hx0 : BY x0) (hx1 : BY x1) (hx2 : BY x2) (hx3 : BY x3) (hx4 : BY x4) (kb : ClassId) (A_b : Arv Z h0 q3 kb .byte (5 : Int32) [.int 0, .int 0, .int 0, .int 0, .int 0] (.int 0)) (n_cb : q1 ≠ q3) (g_b : n0 ≤ q3) :
    Ctr l Z ({ cls := "java/lang/StringUTF16", name := "compress", desc := "([CI[BII)I" } : Jvm.MethodName) jdk_52_method_21_code 7 (some .int) ws ({ frames := 0, cells := 0, slots := 0, locals := 0 } : Room) #[.ref q1, .int (0 : Int32), .ref q3, .int (0 : Int32), .int (5 : Int32)] h0 (fun v h L => v = some (.int (5 : Int32)) ∧ Fr n0 L ∧ Keep h0 h [q3] ∧ Arv Z h q3 kb .byte (5 : Int32) [.int (lat x0), .int (lat x1), .int (lat x2), .int (lat x3), .int (lat x4)] (.int 0)) := by
  refine Ctr.enter (Ls := #[.val (.ref q1), .val (.int (0 : Int32)), .val (.ref q3), .val (.int (0 : Int32)), .val (.int (5 : Int32)), .unset, .unset]) (by decide +kernel) (fun m => ef_rmC55 q1 q3 m) ?_
  intro p e s m below meth c T hx hby hml hown hnm hret hlk hZ hh X0 e0
  have N0 := Fr.nil n0
  refine g_iconst X0 hx hby d21_0 (pc' := 1) rfl (z := (0 : Int32)) rfl ?_
  refine g_istore X0 hx hby d21_1 (pc' := 3) rfl (l' := #[.val (.ref q1), .val (.int (0 : Int32)), .val (.ref q3), .val (.int (0 : Int32)), .val (.int (5 : Int32)), .val (.int (0 : Int32)), .unset]) rfl ?_
  refine g_iload X0 hx hby d21_3 (pc' := 5) rfl rfl ?_
  refine g_iload X0 hx hby d21_5 (pc' := 7) rfl rfl ?_
  refine g_icmp_ge X0 hx hby d21_7 (by decide) (pc' := 44) (by decide) (pn := 10) rfl (fun z => absurd z (by decide)) (fun _ => ?_)
  refine g_aloadN X0 hx hby d21_10 (pc' := 11) rfl rfl rfl ?_
  refine g_iloadN X0 hx hby d21_11 (pc' := 12) rfl rfl ?_
  refine g_caload X0 hx hZ hby d21_12 (pc' := 13) rfl e0 A_c (by decide) (v := .int x0) rfl ?_
  refine g_istore X0 hx hby d21_13 (pc' := 15) rfl (l' := #[.val (.ref q1), .val (.int (0 : Int32)), .val (.ref q3), .val (.int (0 : Int32)), .val (.int (5 : Int32)), .val (.int (0 : Int32)), .val (.int x0)]) rfl ?_
  refine g_iload X0 hx hby d21_15 (pc' := 17) rfl rfl ?_
  refine g_sipush X0 hx hby d21_17 (pc' := 20) rfl (z := (255 : Int32)) rfl ?_
  refine g_icmp_le X0 hx hby d21_20 (by decide) (pc' := 26) (by decide) (pn := 23) rfl (fun hc20_1 => ?_) (fun z => absurd z (own_le255 hx0))
  refine g_aloadN X0 hx hby d21_26 (pc' := 27) rfl rfl rfl ?_
  refine g_iloadN X0 hx hby d21_27 (pc' := 28) rfl rfl ?_
  refine g_iload X0 hx hby d21_28 (pc' := 30) rfl rfl ?_
  refine g_i2b X0 hx hby d21_30 (pc' := 31) rfl ?_
  refine g_bastore X0 hx hZ 0 hby d21_31 (pc' := 32) rfl e0 A_b (by decide) (by decide) (by first | decide | simp) ?_
  intro T2 X2 W2 A2v
  have N2 := Fr.snoc X2 N0 g_b
  have A2_q1 := A_c.other W2 n_cb
  have K2 := (Keep.refl h0 [q3]).wr W2 (Or.inl (List.mem_of_getElem? (i := 0) rfl))
  have A2 : Arv Z T2.heap q3 kb .byte (5 : Int32) [.int (nar .byte x0.toInt8.toInt32), .int 0, .int 0, .int 0, .int 0] (.int 0) := A2v
  refine g_iinc X2 hx hby d21_32 (pc' := 35) rfl rfl (l' := #[.val (.ref q1), .val (.int (1 : Int32)), .val (.ref q3), .val (.int (0 : Int32)), .val (.int (5 : Int32)), .val (.int (0 : Int32)), .val (.int x0)]) rfl ?_
  refine g_iinc X2 hx hby d21_35 (pc' := 38) rfl rfl (l' := #[.val (.ref q1), .val (.int (1 : Int32)), .val (.ref q3), .val (.int (1 : Int32)), .val (.int (5 : Int32)), .val (.int (0 : Int32)), .val (.int x0)]) rfl ?_
  refine g_iinc X2 hx hby d21_38 (pc' := 41) rfl rfl (l' := #[.val (.ref q1), .val (.int (1 : Int32)), .val (.ref q3), .val (.int (1 : Int32)), .val (.int (5 : Int32)), .val (.int (1 : Int32)), .val (.int x0)]) rfl ?_
  refine g_goto X2 hx hby d21_41 (by decide) (pc' := 3) (by decide) ?_
  refine g_iload X2 hx hby d21_3 (pc' := 5) rfl rfl ?_
  refine g_iload X2 hx hby d21_5 (pc' := 7) rfl rfl ?_
  refine g_icmp_ge X2 hx hby d21_7 (by decide) (pc' := 44) (by decide) (pn := 10) rfl (fun z => absurd z (by decide)) (fun _ => ?_)
  refine g_aloadN X2 hx hby d21_10 (pc' := 11) rfl rfl rfl ?_
  refine g_iloadN X2 hx hby d21_11 (pc' := 12) rfl rfl ?_
  refine g_caload X2 hx hZ hby d21_12 (pc' := 13) rfl rfl A2_q1 (by decide) (v := .int x1) rfl ?_
  refine g_istore X2 hx hby d21_13 (pc' := 15) rfl (l' := #[.val (.ref q1), .val (.int (1 : Int32)), .val (.ref q3), .val (.int (1 : Int32)), .val (.int (5 : Int32)), .val (.int (1 : Int32)), .val (.int x1)]) rfl ?_
  refine g_iload X2 hx hby d21_15 (pc' := 17) rfl rfl ?_
  refine g_sipush X2 hx hby d21_17 (pc' := 20) rfl (z := (255 : Int32)) rfl ?_
  refine g_icmp_le X2 hx hby d21_20 (by decide) (pc' := 26) (by decide) (pn := 23) rfl (fun hc20_3 => ?_) (fun z => absurd z (own_le255 hx1))
  refine g_aloadN X2 hx hby d21_26 (pc' := 27) rfl rfl rfl ?_
  refine g_iloadN X2 hx hby d21_27 (pc' := 28) rfl rfl ?_
  refine g_iload X2 hx hby d21_28 (pc' := 30) rfl rfl ?_
  refine g_i2b X2 hx hby d21_30 (pc' := 31) rfl ?_
  refine g_bastore X2 hx hZ 1 hby d21_31 (pc' := 32) rfl rfl A2 (by decide) (by decide) (by first | decide | simp) ?_
  intro T4 X4 W4 A4v
  have N4 := Fr.snoc X4 N2 g_b
  have A4_q1 := A2_q1.other W4 n_cb
  have K4 := K2.wr W4 (Or.inl (List.mem_of_getElem? (i := 0) rfl))
  have A4 : Arv Z T4.heap q3 kb .byte (5 : Int32) [.int (nar .byte x0.toInt8.toInt32), .int (nar .byte x1.toInt8.toInt32), .int 0, .int 0, .int 0] (.int 0) := A4v
  refine g_iinc X4 hx hby d21_32 (pc' := 35) rfl rfl (l' := #[.val (.ref q1), .val (.int (2 : Int32)), .val (.ref q3), .val (.int (1 : Int32)), .val (.int (5 : Int32)), .val (.int (1 : Int32)), .val (.int x1)]) rfl ?_
  refine g_iinc X4 hx hby d21_35 (pc' := 38) rfl rfl (l' := #[.val (.ref q1), .val (.int (2 : Int32)), .val (.ref q3), .val (.int (2 : Int32)), .val (.int (5 : Int32)), .val (.int (1 : Int32)), .val (.int x1)]) rfl ?_
  refine g_iinc X4 hx hby d21_38 (pc' := 41) rfl rfl (l' := #[.val (.ref q1), .val (.int (2 : Int32)), .val (.ref q3), .val (.int (2 : Int32)), .val (.int (5 : Int32)), .val (.int (2 : Int32)), .val (.int x1)]) rfl ?_
  refine g_goto X4 hx hby d21_41 (by decide) (pc' := 3) (by decide) ?_
  refine g_iload X4 hx hby d21_3 (pc' := 5) rfl rfl ?_
  refine g_iload X4 hx hby d21_5 (pc' := 7) rfl rfl ?_
  refine g_icmp_ge X4 hx hby d21_7 (by decide) (pc' := 44) (by decide) (pn := 10) rfl (fun z => absurd z (by decide)) (fun _ => ?_)
  refine g_aloadN X4 hx hby d21_10 (pc' := 11) rfl rfl rfl ?_
  refine g_iloadN X4 hx hby d21_11 (pc' := 12) rfl rfl ?_
  refine g_caload X4 hx hZ hby d21_12 (pc' := 13) rfl rfl A4_q1 (by decide) (v := .int x2) rfl ?_
  refine g_istore X4 hx hby d21_13 (pc' := 15) rfl (l' := #[.val (.ref q1), .val (.int (2 : Int32)), .val (.ref q3), .val (.int (2 : Int32)), .val (.int (5 : Int32)), .val (.int (2 : Int32)), .val (.int x2)]) rfl ?_
  refine g_iload X4 hx hby d21_15 (pc' := 17) rfl rfl ?_
  refine g_sipush X4 hx hby d21_17 (pc' := 20) rfl (z := (255 : Int32)) rfl ?_
  refine g_icmp_le X4 hx hby d21_20 (by decide) (pc' := 26) (by decide) (pn := 23) rfl (fun hc20_5 => ?_) (fun z => absurd z (own_le255 hx2))
  refine g_aloadN X4 hx hby d21_26 (pc' := 27) rfl rfl rfl ?_
  refine g_iloadN X4 hx hby d21_27 (pc' := 28) rfl rfl ?_
  refine g_iload X4 hx hby d21_28 (pc' := 30) rfl rfl ?_
  refine g_i2b X4 hx hby d21_30 (pc' := 31) rfl ?_
  refine g_bastore X4 hx hZ 2 hby d21_31 (pc' := 32) rfl rfl A4 (by decide) (by decide) (by first | decide | simp) ?_
  intro T6 X6 W6 A6v
  have N6 := Fr.snoc X6 N4 g_b
  have A6_q1 := A4_q1.other W6 n_cb
  have K6 := K4.wr W6 (Or.inl (List.mem_of_getElem? (i := 0) rfl))
  have A6 : Arv Z T6.heap q3 kb .byte (5 : Int32) [.int (nar .byte x0.toInt8.toInt32), .int (nar .byte x1.toInt8.toInt32), .int (nar .byte x2.toInt8.toInt32), .int 0, .int 0] (.int 0) := A6v
  refine g_iinc X6 hx hby d21_32 (pc' := 35) rfl rfl (l' := #[.val (.ref q1), .val (.int (3 : Int32)), .val (.ref q3), .val (.int (2 : Int32)), .val (.int (5 : Int32)), .val (.int (2 : Int32)), .val (.int x2)]) rfl ?_
  refine g_iinc X6 hx hby d21_35 (pc' := 38) rfl rfl (l' := #[.val (.ref q1), .val (.int (3 : Int32)), .val (.ref q3), .val (.int (3 : Int32)), .val (.int (5 : Int32)), .val (.int (2 : Int32)), .val (.int x2)]) rfl ?_
  refine g_iinc X6 hx hby d21_38 (pc' := 41) rfl rfl (l' := #[.val (.ref q1), .val (.int (3 : Int32)), .val (.ref q3), .val (.int (3 : Int32)), .val (.int (5 : Int32)), .val (.int (3 : Int32)), .val (.int x2)]) rfl ?_
  refine g_goto X6 hx hby d21_41 (by decide) (pc' := 3) (by decide) ?_
  refine g_iload X6 hx hby d21_3 (pc' := 5) rfl rfl ?_
  refine g_iload X6 hx hby d21_5 (pc' := 7) rfl rfl ?_
  refine g_icmp_ge X6 hx hby d21_7 (by decide) (pc' := 44) (by decide) (pn := 10) rfl (fun z => absurd z (by decide)) (fun _ => ?_)
  refine g_aloadN X6 hx hby d21_10 (pc' := 11) rfl rfl rfl ?_
  refine g_iloadN X6 hx hby d21_11 (pc' := 12) rfl rfl ?_
  refine g_caload X6 hx hZ hby d21_12 (pc' := 13) rfl rfl A6_q1 (by decide) (v := .int x3) rfl ?_
  refine g_istore X6 hx hby d21_13 (pc' := 15) rfl (l' := #[.val (.ref q1), .val (.int (3 : Int32)), .val (.ref q3), .val (.int (3 : Int32)), .val (.int (5 : Int32)), .val (.int (3 : Int32)), .val (.int x3)]) rfl ?_
  refine g_iload X6 hx hby d21_15 (pc' := 17) rfl rfl ?_
  refine g_sipush X6 hx hby d21_17 (pc' := 20) rfl (z := (255 : Int32)) rfl ?_
  refine g_icmp_le X6 hx hby d21_20 (by decide) (pc' := 26) (by decide) (pn := 23) rfl (fun hc20_7 => ?_) (fun z => absurd z (own_le255 hx3))
  refine g_aloadN X6 hx hby d21_26 (pc' := 27) rfl rfl rfl ?_
  refine g_iloadN X6 hx hby d21_27 (pc' := 28) rfl rfl ?_
  refine g_iload X6 hx hby d21_28 (pc' := 30) rfl rfl ?_
  refine g_i2b X6 hx hby d21_30 (pc' := 31) rfl ?_
  refine g_bastore X6 hx hZ 3 hby d21_31 (pc' := 32) rfl rfl A6 (by decide) (by decide) (by first | decide | simp) ?_
  intro T8 X8 W8 A8v
  have N8 := Fr.snoc X8 N6 g_b
  have A8_q1 := A6_q1.other W8 n_cb
  have K8 := K6.wr W8 (Or.inl (List.mem_of_getElem? (i := 0) rfl))
  have A8 : Arv Z T8.heap q3 kb .byte (5 : Int32) [.int (nar .byte x0.toInt8.toInt32), .int (nar .byte x1.toInt8.toInt32), .int (nar .byte x2.toInt8.toInt32), .int (nar .byte x3.toInt8.toInt32), .int 0] (.int 0) := A8v
  refine g_iinc X8 hx hby d21_32 (pc' := 35) rfl rfl (l' := #[.val (.ref q1), .val (.int (4 : Int32)), .val (.ref q3), .val (.int (3 : Int32)), .val (.int (5 : Int32)), .val (.int (3 : Int32)), .val (.int x3)]) rfl ?_
  refine g_iinc X8 hx hby d21_35 (pc' := 38) rfl rfl (l' := #[.val (.ref q1), .val (.int (4 : Int32)), .val (.ref q3), .val (.int (4 : Int32)), .val (.int (5 : Int32)), .val (.int (3 : Int32)), .val (.int x3)]) rfl ?_
  refine g_iinc X8 hx hby d21_38 (pc' := 41) rfl rfl (l' := #[.val (.ref q1), .val (.int (4 : Int32)), .val (.ref q3), .val (.int (4 : Int32)), .val (.int (5 : Int32)), .val (.int (4 : Int32)), .val (.int x3)]) rfl ?_
  refine g_goto X8 hx hby d21_41 (by decide) (pc' := 3) (by decide) ?_
  refine g_iload X8 hx hby d21_3 (pc' := 5) rfl rfl ?_
  refine g_iload X8 hx hby d21_5 (pc' := 7) rfl rfl ?_
  refine g_icmp_ge X8 hx hby d21_7 (by decide) (pc' := 44) (by decide) (pn := 10) rfl (fun z => absurd z (by decide)) (fun _ => ?_)
  refine g_aloadN X8 hx hby d21_10 (pc' := 11) rfl rfl rfl ?_
  refine g_iloadN X8 hx hby d21_11 (pc' := 12) rfl rfl ?_
  refine g_caload X8 hx hZ hby d21_12 (pc' := 13) rfl rfl A8_q1 (by decide) (v := .int x4) rfl ?_
  refine g_istore X8 hx hby d21_13 (pc' := 15) rfl (l' := #[.val (.ref q1), .val (.int (4 : Int32)), .val (.ref q3), .val (.int (4 : Int32)), .val (.int (5 : Int32)), .val (.int (4 : Int32)), .val (.int x4)]) rfl ?_
  refine g_iload X8 hx hby d21_15 (pc' := 17) rfl rfl ?_
  refine g_sipush X8 hx hby d21_17 (pc' := 20) rfl (z := (255 : Int32)) rfl ?_
  refine g_icmp_le X8 hx hby d21_20 (by decide) (pc' := 26) (by decide) (pn := 23) rfl (fun hc20_9 => ?_) (fun z => absurd z (own_le255 hx4))
  refine g_aloadN X8 hx hby d21_26 (pc' := 27) rfl rfl rfl ?_
  refine g_iloadN X8 hx hby d21_27 (pc' := 28) rfl rfl ?_
  refine g_iload X8 hx hby d21_28 (pc' := 30) rfl rfl ?_
  refine g_i2b X8 hx hby d21_30 (pc' := 31) rfl ?_
  refine g_bastore X8 hx hZ 4 hby d21_31 (pc' := 32) rfl rfl A8 (by decide) (by decide) (by first | decide | simp) ?_
  intro T10 X10 W10 A10v
  have N10 := Fr.snoc X10 N8 g_b
  have A10_q1 := A8_q1.other W10 n_cb
  have K10 := K8.wr W10 (Or.inl (List.mem_of_getElem? (i := 0) rfl))
  have A10 : Arv Z T10.heap q3 kb .byte (5 : Int32) [.int (nar .byte x0.toInt8.toInt32), .int (nar .byte x1.toInt8.toInt32), .int (nar .byte x2.toInt8.toInt32), .int (nar .byte x3.toInt8.toInt32), .int (nar .byte x4.toInt8.toInt32)] (.int 0) := A10v
  refine g_iinc X10 hx hby d21_32 (pc' := 35) rfl rfl (l' := #[.val (.ref q1), .val (.int (5 : Int32)), .val (.ref q3), .val (.int (4 : Int32)), .val (.int (5 : Int32)), .val (.int (4 : Int32)), .val (.int x4)]) rfl ?_
  refine g_iinc X10 hx hby d21_35 (pc' := 38) rfl rfl (l' := #[.val (.ref q1), .val (.int (5 : Int32)), .val (.ref q3), .val (.int (5 : Int32)), .val (.int (5 : Int32)), .val (.int (4 : Int32)), .val (.int x4)]) rfl ?_
  refine g_iinc X10 hx hby d21_38 (pc' := 41) rfl rfl (l' := #[.val (.ref q1), .val (.int (5 : Int32)), .val (.ref q3), .val (.int (5 : Int32)), .val (.int (5 : Int32)), .val (.int (5 : Int32)), .val (.int x4)]) rfl ?_
  refine g_goto X10 hx hby d21_41 (by decide) (pc' := 3) (by decide) ?_
  refine g_iload X10 hx hby d21_3 (pc' := 5) rfl rfl ?_
  refine g_iload X10 hx hby d21_5 (pc' := 7) rfl rfl ?_
  refine g_icmp_ge X10 hx hby d21_7 (by decide) (pc' := 44) (by decide) (pn := 10) rfl (fun _ => ?_) (fun z => absurd z (by decide))
  refine g_iload X10 hx hby d21_44 (pc' := 46) rfl rfl ?_
  exact g_retI (Q := (fun v h L => v = some (.int (5 : Int32)) ∧ Fr n0 L ∧ Keep h0 h [q3] ∧ Arv Z h q3 kb .byte (5 : Int32) [.int (lat x0), .int (lat x1), .int (lat x2), .int (lat x3), .int (lat x4)] (.int 0))) X10 hx hby d21_46 hret hlk (by decide) (by decide) ⟨rfl, N10, K10, A10⟩
theorem ef_rmC56 (q1 : Addr) (q3 : Addr) (m : MethodId) : entryFrame m #[.ref q1, .int (0 : Int32), .ref q3, .int (0 : Int32), .int (6 : Int32)] 7 = mkF m 0 #[.val (.ref q1), .val (.int (0 : Int32)), .val (.ref q3), .val (.int (0 : Int32)), .val (.int (6 : Int32)), .unset, .unset] [] := by
  first | (simp [entryFrame, mkF, argsToLocals, Value.category]; done) | rfl
set_option maxRecDepth 65536 in
set_option maxHeartbeats 40000000 in
theorem rmC56 (l : Launch) (Z : State) (a0 : Array Value) (hw : ∀ d ∈ tables_1, d.before a0 Z = true) (ws : List Jvm.Cond) (q1 : Addr) (q3 : Addr) (h0 : Heap) (n0 : Nat) (x0 x1 x2 x3 x4 x5 : Int32) (kc : ClassId) (A_c : Arv Z h0 q1 kc .char (6 : Int32) [.int x0, .int x1, .int x2, .int x3, .int x4, .int x5] (.int 0)) (hx0 : BY x0) (hx1 : BY x1) (hx2 : BY x2) (hx3 : BY x3) (hx4 : BY x4) (hx5 : BY x5) (kb : ClassId) (A_b : Arv Z h0 q3 kb .byte (6 : Int32) [.int 0, .int 0, .int 0, .int 0, .int 0, .int 0] (.int 0)) (n_cb : q1 ≠ q3) (g_b : n0 ≤ q3) :
    Ctr l Z ({ cls := "java/lang/StringUTF16", name := "compress", desc := "([CI[BII)I" } : Jvm.MethodName) jdk_52_method_21_code 7 (some .int) ws ({ frames := 0, cells := 0, slots := 0, locals := 0 } : Room) #[.ref q1, .int (0 : Int32), .ref q3, .int (0 : Int32), .int (6 : Int32)] h0 (fun v h L => v = some (.int (6 : Int32)) ∧ Fr n0 L ∧ Keep h0 h [q3] ∧ Arv Z h q3 kb .byte (6 : Int32) [.int (lat x0), .int (lat x1), .int (lat x2), .int (lat x3), .int (lat x4), .int (lat x5)] (.int 0)) := by
  refine Ctr.enter (Ls := #[.val (.ref q1), .val (.int (0 : Int32)), .val (.ref q3), .val (.int (0 : Int32)), .val (.int (6 : Int32)), .unset, .unset]) (by decide +kernel) (fun m => ef_rmC56 q1 q3 m) ?_
  intro p e s m below meth c T hx hby hml hown hnm hret hlk hZ hh X0 e0
  have N0 := Fr.nil n0
  refine g_iconst X0 hx hby d21_0 (pc' := 1) rfl (z := (0 : Int32)) rfl ?_
  refine g_istore X0 hx hby d21_1 (pc' := 3) rfl (l' := #[.val (.ref q1), .val (.int (0 : Int32)), .val (.ref q3), .val (.int (0 : Int32)), .val (.int (6 : Int32)), .val (.int (0 : Int32)), .unset]) rfl ?_
  refine g_iload X0 hx hby d21_3 (pc' := 5) rfl rfl ?_
  refine g_iload X0 hx hby d21_5 (pc' := 7) rfl rfl ?_
  refine g_icmp_ge X0 hx hby d21_7 (by decide) (pc' := 44) (by decide) (pn := 10) rfl (fun z => absurd z (by decide)) (fun _ => ?_)
  refine g_aloadN X0 hx hby d21_10 (pc' := 11) rfl rfl rfl ?_
  refine g_iloadN X0 hx hby d21_11 (pc' := 12) rfl rfl ?_
  refine g_caload X0 hx hZ hby d21_12 (pc' := 13) rfl e0 A_c (by decide) (v := .int x0) rfl ?_
  refine g_istore X0 hx hby d21_13 (pc' := 15) rfl (l' := #[.val (.ref q1), .val (.int (0 : Int32)), .val (.ref q3), .val (.int (0 : Int32)), .val (.int (6 : Int32)), .val (.int (0 : Int32)), .val (.int x0)]) rfl ?_
  refine g_iload X0 hx hby d21_15 (pc' := 17) rfl rfl ?_
  refine g_sipush X0 hx hby d21_17 (pc' := 20) rfl (z := (255 : Int32)) rfl ?_
  refine g_icmp_le X0 hx hby d21_20 (by decide) (pc' := 26) (by decide) (pn := 23) rfl (fun hc20_1 => ?_) (fun z => absurd z (own_le255 hx0))
  refine g_aloadN X0 hx hby d21_26 (pc' := 27) rfl rfl rfl ?_
  refine g_iloadN X0 hx hby d21_27 (pc' := 28) rfl rfl ?_
  refine g_iload X0 hx hby d21_28 (pc' := 30) rfl rfl ?_
  refine g_i2b X0 hx hby d21_30 (pc' := 31) rfl ?_
  refine g_bastore X0 hx hZ 0 hby d21_31 (pc' := 32) rfl e0 A_b (by decide) (by decide) (by first | decide | simp) ?_
  intro T2 X2 W2 A2v
  have N2 := Fr.snoc X2 N0 g_b
  have A2_q1 := A_c.other W2 n_cb
  have K2 := (Keep.refl h0 [q3]).wr W2 (Or.inl (List.mem_of_getElem? (i := 0) rfl))
  have A2 : Arv Z T2.heap q3 kb .byte (6 : Int32) [.int (nar .byte x0.toInt8.toInt32), .int 0, .int 0, .int 0, .int 0, .int 0] (.int 0) := A2v
  refine g_iinc X2 hx hby d21_32 (pc' := 35) rfl rfl (l' := #[.val (.ref q1), .val (.int (1 : Int32)), .val (.ref q3), .val (.int (0 : Int32)), .val (.int (6 : Int32)), .val (.int (0 : Int32)), .val (.int x0)]) rfl ?_
  refine g_iinc X2 hx hby d21_35 (pc' := 38) rfl rfl (l' := #[.val (.ref q1), .val (.int (1 : Int32)), .val (.ref q3), .val (.int (1 : Int32)), .val (.int (6 : Int32)), .val (.int (0 : Int32)), .val (.int x0)]) rfl ?_
  refine g_iinc X2 hx hby d21_38 (pc' := 41) rfl rfl (l' := #[.val (.ref q1), .val (.int (1 : Int32)), .val (.ref q3), .val (.int (1 : Int32)), .val (.int (6 : Int32)), .val (.int (1 : Int32)), .val (.int x0)]) rfl ?_
  refine g_goto X2 hx hby d21_41 (by decide) (pc' := 3) (by decide) ?_
  refine g_iload X2 hx hby d21_3 (pc' := 5) rfl rfl ?_
  refine g_iload X2 hx hby d21_5 (pc' := 7) rfl rfl ?_
  refine g_icmp_ge X2 hx hby d21_7 (by decide) (pc' := 44) (by decide) (pn := 10) rfl (fun z => absurd z (by decide)) (fun _ => ?_)
  refine g_aloadN X2 hx hby d21_10 (pc' := 11) rfl rfl rfl ?_
  refine g_iloadN X2 hx hby d21_11 (pc' := 12) rfl rfl ?_
  refine g_caload X2 hx hZ hby d21_12 (pc' := 13) rfl rfl A2_q1 (by decide) (v := .int x1) rfl ?_
  refine g_istore X2 hx hby d21_13 (pc' := 15) rfl (l' := #[.val (.ref q1), .val (.int (1 : Int32)), .val (.ref q3), .val (.int (1 : Int32)), .val (.int (6 : Int32)), .val (.int (1 : Int32)), .val (.int x1)]) rfl ?_
  refine g_iload X2 hx hby d21_15 (pc' := 17) rfl rfl ?_
  refine g_sipush X2 hx hby d21_17 (pc' := 20) rfl (z := (255 : Int32)) rfl ?_
  refine g_icmp_le X2 hx hby d21_20 (by decide) (pc' := 26) (by decide) (pn := 23) rfl (fun hc20_3 => ?_) (fun z => absurd z (own_le255 hx1))
  refine g_aloadN X2 hx hby d21_26 (pc' := 27) rfl rfl rfl ?_
  refine g_iloadN X2 hx hby d21_27 (pc' := 28) rfl rfl ?_
  refine g_iload X2 hx hby d21_28 (pc' := 30) rfl rfl ?_
  refine g_i2b X2 hx hby d21_30 (pc' := 31) rfl ?_
  refine g_bastore X2 hx hZ 1 hby d21_31 (pc' := 32) rfl rfl A2 (by decide) (by decide) (by first | decide | simp) ?_
  intro T4 X4 W4 A4v
  have N4 := Fr.snoc X4 N2 g_b
  have A4_q1 := A2_q1.other W4 n_cb
  have K4 := K2.wr W4 (Or.inl (List.mem_of_getElem? (i := 0) rfl))
  have A4 : Arv Z T4.heap q3 kb .byte (6 : Int32) [.int (nar .byte x0.toInt8.toInt32), .int (nar .byte x1.toInt8.toInt32), .int 0, .int 0, .int 0, .int 0] (.int 0) := A4v
  refine g_iinc X4 hx hby d21_32 (pc' := 35) rfl rfl (l' := #[.val (.ref q1), .val (.int (2 : Int32)), .val (.ref q3), .val (.int (1 : Int32)), .val (.int (6 : Int32)), .val (.int (1 : Int32)), .val (.int x1)]) rfl ?_
  refine g_iinc X4 hx hby d21_35 (pc' := 38) rfl rfl (l' := #[.val (.ref q1), .val (.int (2 : Int32)), .val (.ref q3), .val (.int (2 : Int32)), .val (.int (6 : Int32)), .val (.int (1 : Int32)), .val (.int x1)]) rfl ?_
  refine g_iinc X4 hx hby d21_38 (pc' := 41) rfl rfl (l' := #[.val (.ref q1), .val (.int (2 : Int32)), .val (.ref q3), .val (.int (2 : Int32)), .val (.int (6 : Int32)), .val (.int (2 : Int32)), .val (.int x1)]) rfl ?_
  refine g_goto X4 hx hby d21_41 (by decide) (pc' := 3) (by decide) ?_
  refine g_iload X4 hx hby d21_3 (pc' := 5) rfl rfl ?_
  refine g_iload X4 hx hby d21_5 (pc' := 7) rfl rfl ?_
  refine g_icmp_ge X4 hx hby d21_7 (by decide) (pc' := 44) (by decide) (pn := 10) rfl (fun z => absurd z (by decide)) (fun _ => ?_)
  refine g_aloadN X4 hx hby d21_10 (pc' := 11) rfl rfl rfl ?_
  refine g_iloadN X4 hx hby d21_11 (pc' := 12) rfl rfl ?_
  refine g_caload X4 hx hZ hby d21_12 (pc' := 13) rfl rfl A4_q1 (by decide) (v := .int x2) rfl ?_
  refine g_istore X4 hx hby d21_13 (pc' := 15) rfl (l' := #[.val (.ref q1), .val (.int (2 : Int32)), .val (.ref q3), .val (.int (2 : Int32)), .val (.int (6 : Int32)), .val (.int (2 : Int32)), .val (.int x2)]) rfl ?_
  refine g_iload X4 hx hby d21_15 (pc' := 17) rfl rfl ?_
  refine g_sipush X4 hx hby d21_17 (pc' := 20) rfl (z := (255 : Int32)) rfl ?_
  refine g_icmp_le X4 hx hby d21_20 (by decide) (pc' := 26) (by decide) (pn := 23) rfl (fun hc20_5 => ?_) (fun z => absurd z (own_le255 hx2))
  refine g_aloadN X4 hx hby d21_26 (pc' := 27) rfl rfl rfl ?_
  refine g_iloadN X4 hx hby d21_27 (pc' := 28) rfl rfl ?_
  refine g_iload X4 hx hby d21_28 (pc' := 30) rfl rfl ?_
  refine g_i2b X4 hx hby d21_30 (pc' := 31) rfl ?_
  refine g_bastore X4 hx hZ 2 hby d21_31 (pc' := 32) rfl rfl A4 (by decide) (by decide) (by first | decide | simp) ?_
  intro T6 X6 W6 A6v
  have N6 := Fr.snoc X6 N4 g_b
  have A6_q1 := A4_q1.other W6 n_cb
  have K6 := K4.wr W6 (Or.inl (List.mem_of_getElem? (i := 0) rfl))
  have A6 : Arv Z T6.heap q3 kb .byte (6 : Int32) [.int (nar .byte x0.toInt8.toInt32), .int (nar .byte x1.toInt8.toInt32), .int (nar .byte x2.toInt8.toInt32), .int 0, .int 0, .int 0] (.int 0) := A6v
  refine g_iinc X6 hx hby d21_32 (pc' := 35) rfl rfl (l' := #[.val (.ref q1), .val (.int (3 : Int32)), .val (.ref q3), .val (.int (2 : Int32)), .val (.int (6 : Int32)), .val (.int (2 : Int32)), .val (.int x2)]) rfl ?_
  refine g_iinc X6 hx hby d21_35 (pc' := 38) rfl rfl (l' := #[.val (.ref q1), .val (.int (3 : Int32)), .val (.ref q3), .val (.int (3 : Int32)), .val (.int (6 : Int32)), .val (.int (2 : Int32)), .val (.int x2)]) rfl ?_
  refine g_iinc X6 hx hby d21_38 (pc' := 41) rfl rfl (l' := #[.val (.ref q1), .val (.int (3 : Int32)), .val (.ref q3), .val (.int (3 : Int32)), .val (.int (6 : Int32)), .val (.int (3 : Int32)), .val (.int x2)]) rfl ?_
  refine g_goto X6 hx hby d21_41 (by decide) (pc' := 3) (by decide) ?_
  refine g_iload X6 hx hby d21_3 (pc' := 5) rfl rfl ?_
  refine g_iload X6 hx hby d21_5 (pc' := 7) rfl rfl ?_
  refine g_icmp_ge X6 hx hby d21_7 (by decide) (pc' := 44) (by decide) (pn := 10) rfl (fun z => absurd z (by decide)) (fun _ => ?_)
  refine g_aloadN X6 hx hby d21_10 (pc' := 11) rfl rfl rfl ?_
  refine g_iloadN X6 hx hby d21_11 (pc' := 12) rfl rfl ?_
  refine g_caload X6 hx hZ hby d21_12 (pc' := 13) rfl rfl A6_q1 (by decide) (v := .int x3) rfl ?_
  refine g_istore X6 hx hby d21_13 (pc' := 15) rfl (l' := #[.val (.ref q1), .val (.int (3 : Int32)), .val (.ref q3), .val (.int (3 : Int32)), .val (.int (6 : Int32)), .val (.int (3 : Int32)), .val (.int x3)]) rfl ?_
  refine g_iload X6 hx hby d21_15 (pc' := 17) rfl rfl ?_
  refine g_sipush X6 hx hby d21_17 (pc' := 20) rfl (z := (255 : Int32)) rfl ?_
  refine g_icmp_le X6 hx hby d21_20 (by decide) (pc' := 26) (by decide) (pn := 23) rfl (fun hc20_7 => ?_) (fun z => absurd z (own_le255 hx3))
  refine g_aloadN X6 hx hby d21_26 (pc' := 27) rfl rfl rfl ?_
  refine g_iloadN X6 hx hby d21_27 (pc' := 28) rfl rfl ?_
  refine g_iload X6 hx hby d21_28 (pc' := 30) rfl rfl ?_
  refine g_i2b X6 hx hby d21_30 (pc' := 31) rfl ?_
  refine g_bastore X6 hx hZ 3 hby d21_31 (pc' := 32) rfl rfl A6 (by decide) (by decide) (by first | decide | simp) ?_
  intro T8 X8 W8 A8v
  have N8 := Fr.snoc X8 N6 g_b
  have A8_q1 := A6_q1.other W8 n_cb
  have K8 := K6.wr W8 (Or.inl (List.mem_of_getElem? (i := 0) rfl))
  have A8 : Arv Z T8.heap q3 kb .byte (6 : Int32) [.int (nar .byte x0.toInt8.toInt32), .int (nar .byte x1.toInt8.toInt32), .int (nar .byte x2.toInt8.toInt32), .int (nar .byte x3.toInt8.toInt32), .int 0, .int 0] (.int 0) := A8v
  refine g_iinc X8 hx hby d21_32 (pc' := 35) rfl rfl (l' := #[.val (.ref q1), .val (.int (4 : Int32)), .val (.ref q3), .val (.int (3 : Int32)), .val (.int (6 : Int32)), .val (.int (3 : Int32)), .val (.int x3)]) rfl ?_
  refine g_iinc X8 hx hby d21_35 (pc' := 38) rfl rfl (l' := #[.val (.ref q1), .val (.int (4 : Int32)), .val (.ref q3), .val (.int (4 : Int32)), .val (.int (6 : Int32)), .val (.int (3 : Int32)), .val (.int x3)]) rfl ?_
  refine g_iinc X8 hx hby d21_38 (pc' := 41) rfl rfl (l' := #[.val (.ref q1), .val (.int (4 : Int32)), .val (.ref q3), .val (.int (4 : Int32)), .val (.int (6 : Int32)), .val (.int (4 : Int32)), .val (.int x3)]) rfl ?_
  refine g_goto X8 hx hby d21_41 (by decide) (pc' := 3) (by decide) ?_
  refine g_iload X8 hx hby d21_3 (pc' := 5) rfl rfl ?_
  refine g_iload X8 hx hby d21_5 (pc' := 7) rfl rfl ?_
  refine g_icmp_ge X8 hx hby d21_7 (by decide) (pc' := 44) (by decide) (pn := 10) rfl (fun z => absurd z (by decide)) (fun _ => ?_)
  refine g_aloadN X8 hx hby d21_10 (pc' := 11) rfl rfl rfl ?_
  refine g_iloadN X8 hx hby d21_11 (pc' := 12) rfl rfl ?_
  refine g_caload X8 hx hZ hby d21_12 (pc' := 13) rfl rfl A8_q1 (by decide) (v := .int x4) rfl ?_
  refine g_istore X8 hx hby d21_13 (pc' := 15) rfl (l' := #[.val (.ref q1), .val (.int (4 : Int32)), .val (.ref q3), .val (.int (4 : Int32)), .val (.int (6 : Int32)), .val (.int (4 : Int32)), .val (.int x4)]) rfl ?_
  refine g_iload X8 hx hby d21_15 (pc' := 17) rfl rfl ?_
  refine g_sipush X8 hx hby d21_17 (pc' := 20) rfl (z := (255 : Int32)) rfl ?_
  refine g_icmp_le X8 hx hby d21_20 (by decide) (pc' := 26) (by decide) (pn := 23) rfl (fun hc20_9 => ?_) (fun z => absurd z (own_le255 hx4))
  refine g_aloadN X8 hx hby d21_26 (pc' := 27) rfl rfl rfl ?_
  refine g_iloadN X8 hx hby d21_27 (pc' := 28) rfl rfl ?_
  refine g_iload X8 hx hby d21_28 (pc' := 30) rfl rfl ?_
  refine g_i2b X8 hx hby d21_30 (pc' := 31) rfl ?_
  refine g_bastore X8 hx hZ 4 hby d21_31 (pc' := 32) rfl rfl A8 (by decide) (by decide) (by first | decide | simp) ?_
  intro T10 X10 W10 A10v
  have N10 := Fr.snoc X10 N8 g_b
  have A10_q1 := A8_q1.other W10 n_cb
  have K10 := K8.wr W10 (Or.inl (List.mem_of_getElem? (i := 0) rfl))
  have A10 : Arv Z T10.heap q3 kb .byte (6 : Int32) [.int (nar .byte x0.toInt8.toInt32), .int (nar .byte x1.toInt8.toInt32), .int (nar .byte x2.toInt8.toInt32), .int (nar .byte x3.toInt8.toInt32), .int (nar .byte x4.toInt8.toInt32), .int 0] (.int 0) := A10v
  refine g_iinc X10 hx hby d21_32 (pc' := 35) rfl rfl (l' := #[.val (.ref q1), .val (.int (5 : Int32)), .val (.ref q3), .val (.int (4 : Int32)), .val (.int (6 : Int32)), .val (.int (4 : Int32)), .val (.int x4)]) rfl ?_
  refine g_iinc X10 hx hby d21_35 (pc' := 38) rfl rfl (l' := #[.val (.ref q1), .val (.int (5 : Int32)), .val (.ref q3), .val (.int (5 : Int32)), .val (.int (6 : Int32)), .val (.int (4 : Int32)), .val (.int x4)]) rfl ?_
  refine g_iinc X10 hx hby d21_38 (pc' := 41) rfl rfl (l' := #[.val (.ref q1), .val (.int (5 : Int32)), .val (.ref q3), .val (.int (5 : Int32)), .val (.int (6 : Int32)), .val (.int (5 : Int32)), .val (.int x4)]) rfl ?_
  refine g_goto X10 hx hby d21_41 (by decide) (pc' := 3) (by decide) ?_
  refine g_iload X10 hx hby d21_3 (pc' := 5) rfl rfl ?_
  refine g_iload X10 hx hby d21_5 (pc' := 7) rfl rfl ?_
  refine g_icmp_ge X10 hx hby d21_7 (by decide) (pc' := 44) (by decide) (pn := 10) rfl (fun z => absurd z (by decide)) (fun _ => ?_)
  refine g_aloadN X10 hx hby d21_10 (pc' := 11) rfl rfl rfl ?_
  refine g_iloadN X10 hx hby d21_11 (pc' := 12) rfl rfl ?_
  refine g_caload X10 hx hZ hby d21_12 (pc' := 13) rfl rfl A10_q1 (by decide) (v := .int x5) rfl ?_
  refine g_istore X10 hx hby d21_13 (pc' := 15) rfl (l' := #[.val (.ref q1), .val (.int (5 : Int32)), .val (.ref q3), .val (.int (5 : Int32)), .val (.int (6 : Int32)), .val (.int (5 : Int32)), .val (.int x5)]) rfl ?_
  refine g_iload X10 hx hby d21_15 (pc' := 17) rfl rfl ?_
  refine g_sipush X10 hx hby d21_17 (pc' := 20) rfl (z := (255 : Int32)) rfl ?_
  refine g_icmp_le X10 hx hby d21_20 (by decide) (pc' := 26) (by decide) (pn := 23) rfl (fun hc20_11 => ?_) (fun z => absurd z (own_le255 hx5))
  refine g_aloadN X10 hx hby d21_26 (pc' := 27) rfl rfl rfl ?_
  refine g_iloadN X10 hx hby d21_27 (pc' := 28) rfl rfl ?_
  refine g_iload X10 hx hby d21_28 (pc' := 30) rfl rfl ?_
  refine g_i2b X10 hx hby d21_30 (pc' := 31) rfl ?_
  refine g_bastore X10 hx hZ 5 hby d21_31 (pc' := 32) rfl rfl A10 (by decide) (by decide) (by first | decide | simp) ?_
  intro T12 X12 W12 A12v
  have N12 := Fr.snoc X12 N10 g_b
  have A12_q1 := A10_q1.other W12 n_cb
  have K12 := K10.wr W12 (Or.inl (List.mem_of_getElem? (i := 0) rfl))
  have A12 : Arv Z T12.heap q3 kb .byte (6 : Int32) [.int (nar .byte x0.toInt8.toInt32), .int (nar .byte x1.toInt8.toInt32), .int (nar .byte x2.toInt8.toInt32), .int (nar .byte x3.toInt8.toInt32), .int (nar .byte x4.toInt8.toInt32), .int (nar .byte x5.toInt8.toInt32)] (.int 0) := A12v
  refine g_iinc X12 hx hby d21_32 (pc' := 35) rfl rfl (l' := #[.val (.ref q1), .val (.int (6 : Int32)), .val (.ref q3), .val (.int (5 : Int32)), .val (.int (6 : Int32)), .val (.int (5 : Int32)), .val (.int x5)]) rfl ?_
  refine g_iinc X12 hx hby d21_35 (pc' := 38) rfl rfl (l' := #[.val (.ref q1), .val (.int (6 : Int32)), .val (.ref q3), .val (.int (6 : Int32)), .val (.int (6 : Int32)), .val (.int (5 : Int32)), .val (.int x5)]) rfl ?_
  refine g_iinc X12 hx hby d21_38 (pc' := 41) rfl rfl (l' := #[.val (.ref q1), .val (.int (6 : Int32)), .val (.ref q3), .val (.int (6 : Int32)), .val (.int (6 : Int32)), .val (.int (6 : Int32)), .val (.int x5)]) rfl ?_
  refine g_goto X12 hx hby d21_41 (by decide) (pc' := 3) (by decide) ?_
  refine g_iload X12 hx hby d21_3 (pc' := 5) rfl rfl ?_
  refine g_iload X12 hx hby d21_5 (pc' := 7) rfl rfl ?_
  refine g_icmp_ge X12 hx hby d21_7 (by decide) (pc' := 44) (by decide) (pn := 10) rfl (fun _ => ?_) (fun z => absurd z (by decide))
  refine g_iload X12 hx hby d21_44 (pc' := 46) rfl rfl ?_
  exact g_retI (Q := (fun v h L => v = some (.int (6 : Int32)) ∧ Fr n0 L ∧ Keep h0 h [q3] ∧ Arv Z h q3 kb .byte (6 : Int32) [.int (lat x0), .int (lat x1), .int (lat x2), .int (lat x3), .int (lat x4), .int (lat x5)] (.int 0))) X12 hx hby d21_46 hret hlk (by decide) (by decide) ⟨rfl, N12, K12, A12⟩
theorem ef_rmC57 (q1 : Addr) (q3 : Addr) (m : MethodId) : entryFrame m #[.ref q1, .int (0 : Int32), .ref q3, .int (0 : Int32), .int (7 : Int32)] 7 = mkF m 0 #[.val (.ref q1), .val (.int (0 : Int32)), .val (.ref q3), .val (.int (0 : Int32)), .val (.int (7 : Int32)), .unset, .unset] [] := by
  first | (simp [entryFrame, mkF, argsToLocals, Value.category]; done) | rfl
set_option maxRecDepth 65536 in
set_option maxHeartbeats 40000000 in
theorem rmC57 (l : Launch) (Z : State) (a0 : Array Value) (hw : ∀ d ∈ tables_1, d.before a0 Z = true) (ws : List Jvm.Cond) (q1 : Addr) (q3 : Addr) (h0 : Heap) (n0 : Nat) (x0 x1 x2 x3 x4 x5 x6 : Int32) (kc : ClassId) (A_c : Arv Z h0 q1 kc .char (7 : Int32) [.int x0, .int x1, .int x2, .int x3, .int x4, .int x5, .int x6] (.int 0)) (hx0 : BY x0) (hx1 : BY x1) (hx2 : BY x2) (hx3 : BY x3) (hx4 : BY x4) (hx5 : BY x5) (hx6 : BY x6) (kb : ClassId) (A_b : Arv Z h0 q3 kb .byte (7 : Int32) [.int 0, .int 0, .int 0, .int 0, .int 0, .int 0, .int 0] (.int 0)) (n_cb : q1 ≠ q3) (g_b : n0 ≤ q3) :
    Ctr l Z ({ cls := "java/lang/StringUTF16", name := "compress", desc := "([CI[BII)I" } : Jvm.MethodName) jdk_52_method_21_code 7 (some .int) ws ({ frames := 0, cells := 0, slots := 0, locals := 0 } : Room) #[.ref q1, .int (0 : Int32), .ref q3, .int (0 : Int32), .int (7 : Int32)] h0 (fun v h L => v = some (.int (7 : Int32)) ∧ Fr n0 L ∧ Keep h0 h [q3] ∧ Arv Z h q3 kb .byte (7 : Int32) [.int (lat x0), .int (lat x1), .int (lat x2), .int (lat x3), .int (lat x4), .int (lat x5), .int (lat x6)] (.int 0)) := by
  refine Ctr.enter (Ls := #[.val (.ref q1), .val (.int (0 : Int32)), .val (.ref q3), .val (.int (0 : Int32)), .val (.int (7 : Int32)), .unset, .unset]) (by decide +kernel) (fun m => ef_rmC57 q1 q3 m) ?_
  intro p e s m below meth c T hx hby hml hown hnm hret hlk hZ hh X0 e0
  have N0 := Fr.nil n0
  refine g_iconst X0 hx hby d21_0 (pc' := 1) rfl (z := (0 : Int32)) rfl ?_
  refine g_istore X0 hx hby d21_1 (pc' := 3) rfl (l' := #[.val (.ref q1), .val (.int (0 : Int32)), .val (.ref q3), .val (.int (0 : Int32)), .val (.int (7 : Int32)), .val (.int (0 : Int32)), .unset]) rfl ?_
  refine g_iload X0 hx hby d21_3 (pc' := 5) rfl rfl ?_
  refine g_iload X0 hx hby d21_5 (pc' := 7) rfl rfl ?_
  refine g_icmp_ge X0 hx hby d21_7 (by decide) (pc' := 44) (by decide) (pn := 10) rfl (fun z => absurd z (by decide)) (fun _ => ?_)
  refine g_aloadN X0 hx hby d21_10 (pc' := 11) rfl rfl rfl ?_
  refine g_iloadN X0 hx hby d21_11 (pc' := 12) rfl rfl ?_
  refine g_caload X0 hx hZ hby d21_12 (pc' := 13) rfl e0 A_c (by decide) (v := .int x0) rfl ?_
  refine g_istore X0 hx hby d21_13 (pc' := 15) rfl (l' := #[.val (.ref q1), .val (.int (0 : Int32)), .val (.ref q3), .val (.int (0 : Int32)), .val (.int (7 : Int32)), .val (.int (0 : Int32)), .val (.int x0)]) rfl ?_
  refine g_iload X0 hx hby d21_15 (pc' := 17) rfl rfl ?_
  refine g_sipush X0 hx hby d21_17 (pc' := 20) rfl (z := (255 : Int32)) rfl ?_
  refine g_icmp_le X0 hx hby d21_20 (by decide) (pc' := 26) (by decide) (pn := 23) rfl (fun hc20_1 => ?_) (fun z => absurd z (own_le255 hx0))
  refine g_aloadN X0 hx hby d21_26 (pc' := 27) rfl rfl rfl ?_
  refine g_iloadN X0 hx hby d21_27 (pc' := 28) rfl rfl ?_
  refine g_iload X0 hx hby d21_28 (pc' := 30) rfl rfl ?_
  refine g_i2b X0 hx hby d21_30 (pc' := 31) rfl ?_
  refine g_bastore X0 hx hZ 0 hby d21_31 (pc' := 32) rfl e0 A_b (by decide) (by decide) (by first | decide | simp) ?_
  intro T2 X2 W2 A2v
  have N2 := Fr.snoc X2 N0 g_b
  have A2_q1 := A_c.other W2 n_cb
  have K2 := (Keep.refl h0 [q3]).wr W2 (Or.inl (List.mem_of_getElem? (i := 0) rfl))
  have A2 : Arv Z T2.heap q3 kb .byte (7 : Int32) [.int (nar .byte x0.toInt8.toInt32), .int 0, .int 0, .int 0, .int 0, .int 0, .int 0] (.int 0) := A2v
  refine g_iinc X2 hx hby d21_32 (pc' := 35) rfl rfl (l' := #[.val (.ref q1), .val (.int (1 : Int32)), .val (.ref q3), .val (.int (0 : Int32)), .val (.int (7 : Int32)), .val (.int (0 : Int32)), .val (.int x0)]) rfl ?_
  refine g_iinc X2 hx hby d21_35 (pc' := 38) rfl rfl (l' := #[.val (.ref q1), .val (.int (1 : Int32)), .val (.ref q3), .val (.int (1 : Int32)), .val (.int (7 : Int32)), .val (.int (0 : Int32)), .val (.int x0)]) rfl ?_
  refine g_iinc X2 hx hby d21_38 (pc' := 41) rfl rfl (l' := #[.val (.ref q1), .val (.int (1 : Int32)), .val (.ref q3), .val (.int (1 : Int32)), .val (.int (7 : Int32)), .val (.int (1 : Int32)), .val (.int x0)]) rfl ?_
  refine g_goto X2 hx hby d21_41 (by decide) (pc' := 3) (by decide) ?_
  refine g_iload X2 hx hby d21_3 (pc' := 5) rfl rfl ?_
  refine g_iload X2 hx hby d21_5 (pc' := 7) rfl rfl ?_
  refine g_icmp_ge X2 hx hby d21_7 (by decide) (pc' := 44) (by decide) (pn := 10) rfl (fun z => absurd z (by decide)) (fun _ => ?_)
  refine g_aloadN X2 hx hby d21_10 (pc' := 11) rfl rfl rfl ?_
  refine g_iloadN X2 hx hby d21_11 (pc' := 12) rfl rfl ?_
  refine g_caload X2 hx hZ hby d21_12 (pc' := 13) rfl rfl A2_q1 (by decide) (v := .int x1) rfl ?_
  refine g_istore X2 hx hby d21_13 (pc' := 15) rfl (l' := #[.val (.ref q1), .val (.int (1 : Int32)), .val (.ref q3), .val (.int (1 : Int32)), .val (.int (7 : Int32)), .val (.int (1 : Int32)), .val (.int x1)]) rfl ?_
  refine g_iload X2 hx hby d21_15 (pc' := 17) rfl rfl ?_
  refine g_sipush X2 hx hby d21_17 (pc' := 20) rfl (z := (255 : Int32)) rfl ?_
  refine g_icmp_le X2 hx hby d21_20 (by decide) (pc' := 26) (by decide) (pn := 23) rfl (fun hc20_3 => ?_) (fun z => absurd z (own_le255 hx1))
  refine g_aloadN X2 hx hby d21_26 (pc' := 27) rfl rfl rfl ?_
  refine g_iloadN X2 hx hby d21_27 (pc' := 28) rfl rfl ?_
  refine g_iload X2 hx hby d21_28 (pc' := 30) rfl rfl ?_
  refine g_i2b X2 hx hby d21_30 (pc' := 31) rfl ?_
  refine g_bastore X2 hx hZ 1 hby d21_31 (pc' := 32) rfl rfl A2 (by decide) (by decide) (by first | decide | simp) ?_
  intro T4 X4 W4 A4v
  have N4 := Fr.snoc X4 N2 g_b
  have A4_q1 := A2_q1.other W4 n_cb
  have K4 := K2.wr W4 (Or.inl (List.mem_of_getElem? (i := 0) rfl))
  have A4 : Arv Z T4.heap q3 kb .byte (7 : Int32) [.int (nar .byte x0.toInt8.toInt32), .int (nar .byte x1.toInt8.toInt32), .int 0, .int 0, .int 0, .int 0, .int 0] (.int 0) := A4v
  refine g_iinc X4 hx hby d21_32 (pc' := 35) rfl rfl (l' := #[.val (.ref q1), .val (.int (2 : Int32)), .val (.ref q3), .val (.int (1 : Int32)), .val (.int (7 : Int32)), .val (.int (1 : Int32)), .val (.int x1)]) rfl ?_
  refine g_iinc X4 hx hby d21_35 (pc' := 38) rfl rfl (l' := #[.val (.ref q1), .val (.int (2 : Int32)), .val (.ref q3), .val (.int (2 : Int32)), .val (.int (7 : Int32)), .val (.int (1 : Int32)), .val (.int x1)]) rfl ?_
  refine g_iinc X4 hx hby d21_38 (pc' := 41) rfl rfl (l' := #[.val (.ref q1), .val (.int (2 : Int32)), .val (.ref q3), .val (.int (2 : Int32)), .val (.int (7 : Int32)), .val (.int (2 : Int32)), .val (.int x1)]) rfl ?_
  refine g_goto X4 hx hby d21_41 (by decide) (pc' := 3) (by decide) ?_
  refine g_iload X4 hx hby d21_3 (pc' := 5) rfl rfl ?_
  refine g_iload X4 hx hby d21_5 (pc' := 7) rfl rfl ?_
  refine g_icmp_ge X4 hx hby d21_7 (by decide) (pc' := 44) (by decide) (pn := 10) rfl (fun z => absurd z (by decide)) (fun _ => ?_)
  refine g_aloadN X4 hx hby d21_10 (pc' := 11) rfl rfl rfl ?_
  refine g_iloadN X4 hx hby d21_11 (pc' := 12) rfl rfl ?_
  refine g_caload X4 hx hZ hby d21_12 (pc' := 13) rfl rfl A4_q1 (by decide) (v := .int x2) rfl ?_
  refine g_istore X4 hx hby d21_13 (pc' := 15) rfl (l' := #[.val (.ref q1), .val (.int (2 : Int32)), .val (.ref q3), .val (.int (2 : Int32)), .val (.int (7 : Int32)), .val (.int (2 : Int32)), .val (.int x2)]) rfl ?_
  refine g_iload X4 hx hby d21_15 (pc' := 17) rfl rfl ?_
  refine g_sipush X4 hx hby d21_17 (pc' := 20) rfl (z := (255 : Int32)) rfl ?_
  refine g_icmp_le X4 hx hby d21_20 (by decide) (pc' := 26) (by decide) (pn := 23) rfl (fun hc20_5 => ?_) (fun z => absurd z (own_le255 hx2))
  refine g_aloadN X4 hx hby d21_26 (pc' := 27) rfl rfl rfl ?_
  refine g_iloadN X4 hx hby d21_27 (pc' := 28) rfl rfl ?_
  refine g_iload X4 hx hby d21_28 (pc' := 30) rfl rfl ?_
  refine g_i2b X4 hx hby d21_30 (pc' := 31) rfl ?_
  refine g_bastore X4 hx hZ 2 hby d21_31 (pc' := 32) rfl rfl A4 (by decide) (by decide) (by first | decide | simp) ?_
  intro T6 X6 W6 A6v
  have N6 := Fr.snoc X6 N4 g_b
  have A6_q1 := A4_q1.other W6 n_cb
  have K6 := K4.wr W6 (Or.inl (List.mem_of_getElem? (i := 0) rfl))
  have A6 : Arv Z T6.heap q3 kb .byte (7 : Int32) [.int (nar .byte x0.toInt8.toInt32), .int (nar .byte x1.toInt8.toInt32), .int (nar .byte x2.toInt8.toInt32), .int 0, .int 0, .int 0, .int 0] (.int 0) := A6v
  refine g_iinc X6 hx hby d21_32 (pc' := 35) rfl rfl (l' := #[.val (.ref q1), .val (.int (3 : Int32)), .val (.ref q3), .val (.int (2 : Int32)), .val (.int (7 : Int32)), .val (.int (2 : Int32)), .val (.int x2)]) rfl ?_
  refine g_iinc X6 hx hby d21_35 (pc' := 38) rfl rfl (l' := #[.val (.ref q1), .val (.int (3 : Int32)), .val (.ref q3), .val (.int (3 : Int32)), .val (.int (7 : Int32)), .val (.int (2 : Int32)), .val (.int x2)]) rfl ?_
  refine g_iinc X6 hx hby d21_38 (pc' := 41) rfl rfl (l' := #[.val (.ref q1), .val (.int (3 : Int32)), .val (.ref q3), .val (.int (3 : Int32)), .val (.int (7 : Int32)), .val (.int (3 : Int32)), .val (.int x2)]) rfl ?_
  refine g_goto X6 hx hby d21_41 (by decide) (pc' := 3) (by decide) ?_
  refine g_iload X6 hx hby d21_3 (pc' := 5) rfl rfl ?_
  refine g_iload X6 hx hby d21_5 (pc' := 7) rfl rfl ?_
  refine g_icmp_ge X6 hx hby d21_7 (by decide) (pc' := 44) (by decide) (pn := 10) rfl (fun z => absurd z (by decide)) (fun _ => ?_)
  refine g_aloadN X6 hx hby d21_10 (pc' := 11) rfl rfl rfl ?_
  refine g_iloadN X6 hx hby d21_11 (pc' := 12) rfl rfl ?_
  refine g_caload X6 hx hZ hby d21_12 (pc' := 13) rfl rfl A6_q1 (by decide) (v := .int x3) rfl ?_
  refine g_istore X6 hx hby d21_13 (pc' := 15) rfl (l' := #[.val (.ref q1), .val (.int (3 : Int32)), .val (.ref q3), .val (.int (3 : Int32)), .val (.int (7 : Int32)), .val (.int (3 : Int32)), .val (.int x3)]) rfl ?_
  refine g_iload X6 hx hby d21_15 (pc' := 17) rfl rfl ?_
  refine g_sipush X6 hx hby d21_17 (pc' := 20) rfl (z := (255 : Int32)) rfl ?_
  refine g_icmp_le X6 hx hby d21_20 (by decide) (pc' := 26) (by decide) (pn := 23) rfl (fun hc20_7 => ?_) (fun z => absurd z (own_le255 hx3))
  refine g_aloadN X6 hx hby d21_26 (pc' := 27) rfl rfl rfl ?_
  refine g_iloadN X6 hx hby d21_27 (pc' := 28) rfl rfl ?_
  refine g_iload X6 hx hby d21_28 (pc' := 30) rfl rfl ?_
  refine g_i2b X6 hx hby d21_30 (pc' := 31) rfl ?_
  refine g_bastore X6 hx hZ 3 hby d21_31 (pc' := 32) rfl rfl A6 (by decide) (by decide) (by first | decide | simp) ?_
  intro T8 X8 W8 A8v
  have N8 := Fr.snoc X8 N6 g_b
  have A8_q1 := A6_q1.other W8 n_cb
  have K8 := K6.wr W8 (Or.inl (List.mem_of_getElem? (i := 0) rfl))
  have A8 : Arv Z T8.heap q3 kb .byte (7 : Int32) [.int (nar .byte x0.toInt8.toInt32), .int (nar .byte x1.toInt8.toInt32), .int (nar .byte x2.toInt8.toInt32), .int (nar .byte x3.toInt8.toInt32), .int 0, .int 0, .int 0] (.int 0) := A8v
  refine g_iinc X8 hx hby d21_32 (pc' := 35) rfl rfl (l' := #[.val (.ref q1), .val (.int (4 : Int32)), .val (.ref q3), .val (.int (3 : Int32)), .val (.int (7 : Int32)), .val (.int (3 : Int32)), .val (.int x3)]) rfl ?_
  refine g_iinc X8 hx hby d21_35 (pc' := 38) rfl rfl (l' := #[.val (.ref q1), .val (.int (4 : Int32)), .val (.ref q3), .val (.int (4 : Int32)), .val (.int (7 : Int32)), .val (.int (3 : Int32)), .val (.int x3)]) rfl ?_
  refine g_iinc X8 hx hby d21_38 (pc' := 41) rfl rfl (l' := #[.val (.ref q1), .val (.int (4 : Int32)), .val (.ref q3), .val (.int (4 : Int32)), .val (.int (7 : Int32)), .val (.int (4 : Int32)), .val (.int x3)]) rfl ?_
  refine g_goto X8 hx hby d21_41 (by decide) (pc' := 3) (by decide) ?_
  refine g_iload X8 hx hby d21_3 (pc' := 5) rfl rfl ?_
  refine g_iload X8 hx hby d21_5 (pc' := 7) rfl rfl ?_
  refine g_icmp_ge X8 hx hby d21_7 (by decide) (pc' := 44) (by decide) (pn := 10) rfl (fun z => absurd z (by decide)) (fun _ => ?_)
  refine g_aloadN X8 hx hby d21_10 (pc' := 11) rfl rfl rfl ?_
  refine g_iloadN X8 hx hby d21_11 (pc' := 12) rfl rfl ?_
  refine g_caload X8 hx hZ hby d21_12 (pc' := 13) rfl rfl A8_q1 (by decide) (v := .int x4) rfl ?_
  refine g_istore X8 hx hby d21_13 (pc' := 15) rfl (l' := #[.val (.ref q1), .val (.int (4 : Int32)), .val (.ref q3), .val (.int (4 : Int32)), .val (.int (7 : Int32)), .val (.int (4 : Int32)), .val (.int x4)]) rfl ?_
  refine g_iload X8 hx hby d21_15 (pc' := 17) rfl rfl ?_
  refine g_sipush X8 hx hby d21_17 (pc' := 20) rfl (z := (255 : Int32)) rfl ?_
  refine g_icmp_le X8 hx hby d21_20 (by decide) (pc' := 26) (by decide) (pn := 23) rfl (fun hc20_9 => ?_) (fun z => absurd z (own_le255 hx4))
  refine g_aloadN X8 hx hby d21_26 (pc' := 27) rfl rfl rfl ?_
  refine g_iloadN X8 hx hby d21_27 (pc' := 28) rfl rfl ?_
  refine g_iload X8 hx hby d21_28 (pc' := 30) rfl rfl ?_
  refine g_i2b X8 hx hby d21_30 (pc' := 31) rfl ?_
  refine g_bastore X8 hx hZ 4 hby d21_31 (pc' := 32) rfl rfl A8 (by decide) (by decide) (by first | decide | simp) ?_
  intro T10 X10 W10 A10v
  have N10 := Fr.snoc X10 N8 g_b
  have A10_q1 := A8_q1.other W10 n_cb
  have K10 := K8.wr W10 (Or.inl (List.mem_of_getElem? (i := 0) rfl))
  have A10 : Arv Z T10.heap q3 kb .byte (7 : Int32) [.int (nar .byte x0.toInt8.toInt32), .int (nar .byte x1.toInt8.toInt32), .int (nar .byte x2.toInt8.toInt32), .int (nar .byte x3.toInt8.toInt32), .int (nar .byte x4.toInt8.toInt32), .int 0, .int 0] (.int 0) := A10v
  refine g_iinc X10 hx hby d21_32 (pc' := 35) rfl rfl (l' := #[.val (.ref q1), .val (.int (5 : Int32)), .val (.ref q3), .val (.int (4 : Int32)), .val (.int (7 : Int32)), .val (.int (4 : Int32)), .val (.int x4)]) rfl ?_
  refine g_iinc X10 hx hby d21_35 (pc' := 38) rfl rfl (l' := #[.val (.ref q1), .val (.int (5 : Int32)), .val (.ref q3), .val (.int (5 : Int32)), .val (.int (7 : Int32)), .val (.int (4 : Int32)), .val (.int x4)]) rfl ?_
  refine g_iinc X10 hx hby d21_38 (pc' := 41) rfl rfl (l' := #[.val (.ref q1), .val (.int (5 : Int32)), .val (.ref q3), .val (.int (5 : Int32)), .val (.int (7 : Int32)), .val (.int (5 : Int32)), .val (.int x4)]) rfl ?_
  refine g_goto X10 hx hby d21_41 (by decide) (pc' := 3) (by decide) ?_
  refine g_iload X10 hx hby d21_3 (pc' := 5) rfl rfl ?_
  refine g_iload X10 hx hby d21_5 (pc' := 7) rfl rfl ?_
  refine g_icmp_ge X10 hx hby d21_7 (by decide) (pc' := 44) (by decide) (pn := 10) rfl (fun z => absurd z (by decide)) (fun _ => ?_)
  refine g_aloadN X10 hx hby d21_10 (pc' := 11) rfl rfl rfl ?_
  refine g_iloadN X10 hx hby d21_11 (pc' := 12) rfl rfl ?_
  refine g_caload X10 hx hZ hby d21_12 (pc' := 13) rfl rfl A10_q1 (by decide) (v := .int x5) rfl ?_
  refine g_istore X10 hx hby d21_13 (pc' := 15) rfl (l' := #[.val (.ref q1), .val (.int (5 : Int32)), .val (.ref q3), .val (.int (5 : Int32)), .val (.int (7 : Int32)), .val (.int (5 : Int32)), .val (.int x5)]) rfl ?_
  refine g_iload X10 hx hby d21_15 (pc' := 17) rfl rfl ?_
  refine g_sipush X10 hx hby d21_17 (pc' := 20) rfl (z := (255 : Int32)) rfl ?_
  refine g_icmp_le X10 hx hby d21_20 (by decide) (pc' := 26) (by decide) (pn := 23) rfl (fun hc20_11 => ?_) (fun z => absurd z (own_le255 hx5))
  refine g_aloadN X10 hx hby d21_26 (pc' := 27) rfl rfl rfl ?_
  refine g_iloadN X10 hx hby d21_27 (pc' := 28) rfl rfl ?_
  refine g_iload X10 hx hby d21_28 (pc' := 30) rfl rfl ?_
  refine g_i2b X10 hx hby d21_30 (pc' := 31) rfl ?_
  refine g_bastore X10 hx hZ 5 hby d21_31 (pc' := 32) rfl rfl A10 (by decide) (by decide) (by first | decide | simp) ?_
  intro T12 X12 W12 A12v
  have N12 := Fr.snoc X12 N10 g_b
  have A12_q1 := A10_q1.other W12 n_cb
  have K12 := K10.wr W12 (Or.inl (List.mem_of_getElem? (i := 0) rfl))
  have A12 : Arv Z T12.heap q3 kb .byte (7 : Int32) [.int (nar .byte x0.toInt8.toInt32), .int (nar .byte x1.toInt8.toInt32), .int (nar .byte x2.toInt8.toInt32), .int (nar .byte x3.toInt8.toInt32), .int (nar .byte x4.toInt8.toInt32), .int (nar .byte x5.toInt8.toInt32), .int 0] (.int 0) := A12v
  refine g_iinc X12 hx hby d21_32 (pc' := 35) rfl rfl (l' := #[.val (.ref q1), .val (.int (6 : Int32)), .val (.ref q3), .val (.int (5 : Int32)), .val (.int (7 : Int32)), .val (.int (5 : Int32)), .val (.int x5)]) rfl ?_
  refine g_iinc X12 hx hby d21_35 (pc' := 38) rfl rfl (l' := #[.val (.ref q1), .val (.int (6 : Int32)), .val (.ref q3), .val (.int (6 : Int32)), .val (.int (7 : Int32)), .val (.int (5 : Int32)), .val (.int x5)]) rfl ?_
  refine g_iinc X12 hx hby d21_38 (pc' := 41) rfl rfl (l' := #[.val (.ref q1), .val (.int (6 : Int32)), .val (.ref q3), .val (.int (6 : Int32)), .val (.int (7 : Int32)), .val (.int (6 : Int32)), .val (.int x5)]) rfl ?_
  refine g_goto X12 hx hby d21_41 (by decide) (pc' := 3) (by decide) ?_
  refine g_iload X12 hx hby d21_3 (pc' := 5) rfl rfl ?_
  refine g_iload X12 hx hby d21_5 (pc' := 7) rfl rfl ?_
  refine g_icmp_ge X12 hx hby d21_7 (by decide) (pc' := 44) (by decide) (pn := 10) rfl (fun z => absurd z (by decide)) (fun _ => ?_)
  refine g_aloadN X12 hx hby d21_10 (pc' := 11) rfl rfl rfl ?_
  refine g_iloadN X12 hx hby d21_11 (pc' := 12) rfl rfl ?_
  refine g_caload X12 hx hZ hby d21_12 (pc' := 13) rfl rfl A12_q1 (by decide) (v := .int x6) rfl ?_
  refine g_istore X12 hx hby d21_13 (pc' := 15) rfl (l' := #[.val (.ref q1), .val (.int (6 : Int32)), .val (.ref q3), .val (.int (6 : Int32)), .val (.int (7 : Int32)), .val (.int (6 : Int32)), .val (.int x6)]) rfl ?_
  refine g_iload X12 hx hby d21_15 (pc' := 17) rfl rfl ?_
  refine g_sipush X12 hx hby d21_17 (pc' := 20) rfl (z := (255 : Int32)) rfl ?_
  refine g_icmp_le X12 hx hby d21_20 (by decide) (pc' := 26) (by decide) (pn := 23) rfl (fun hc20_13 => ?_) (fun z => absurd z (own_le255 hx6))
  refine g_aloadN X12 hx hby d21_26 (pc' := 27) rfl rfl rfl ?_
  refine g_iloadN X12 hx hby d21_27 (pc' := 28) rfl rfl ?_
  refine g_iload X12 hx hby d21_28 (pc' := 30) rfl rfl ?_
  refine g_i2b X12 hx hby d21_30 (pc' := 31) rfl ?_
  refine g_bastore X12 hx hZ 6 hby d21_31 (pc' := 32) rfl rfl A12 (by decide) (by decide) (by first | decide | simp) ?_
  intro T14 X14 W14 A14v
  have N14 := Fr.snoc X14 N12 g_b
  have A14_q1 := A12_q1.other W14 n_cb
  have K14 := K12.wr W14 (Or.inl (List.mem_of_getElem? (i := 0) rfl))
  have A14 : Arv Z T14.heap q3 kb .byte (7 : Int32) [.int (nar .byte x0.toInt8.toInt32), .int (nar .byte x1.toInt8.toInt32), .int (nar .byte x2.toInt8.toInt32), .int (nar .byte x3.toInt8.toInt32), .int (nar .byte x4.toInt8.toInt32), .int (nar .byte x5.toInt8.toInt32), .int (nar .byte x6.toInt8.toInt32)] (.int 0) := A14v
  refine g_iinc X14 hx hby d21_32 (pc' := 35) rfl rfl (l' := #[.val (.ref q1), .val (.int (7 : Int32)), .val (.ref q3), .val (.int (6 : Int32)), .val (.int (7 : Int32)), .val (.int (6 : Int32)), .val (.int x6)]) rfl ?_
  refine g_iinc X14 hx hby d21_35 (pc' := 38) rfl rfl (l' := #[.val (.ref q1), .val (.int (7 : Int32)), .val (.ref q3), .val (.int (7 : Int32)), .val (.int (7 : Int32)), .val (.int (6 : Int32)), .val (.int x6)]) rfl ?_
  refine g_iinc X14 hx hby d21_38 (pc' := 41) rfl rfl (l' := #[.val (.ref q1), .val (.int (7 : Int32)), .val (.ref q3), .val (.int (7 : Int32)), .val (.int (7 : Int32)), .val (.int (7 : Int32)), .val (.int x6)]) rfl ?_
  refine g_goto X14 hx hby d21_41 (by decide) (pc' := 3) (by decide) ?_
  refine g_iload X14 hx hby d21_3 (pc' := 5) rfl rfl ?_
  refine g_iload X14 hx hby d21_5 (pc' := 7) rfl rfl ?_
  refine g_icmp_ge X14 hx hby d21_7 (by decide) (pc' := 44) (by decide) (pn := 10) rfl (fun _ => ?_) (fun z => absurd z (by decide))
  refine g_iload X14 hx hby d21_44 (pc' := 46) rfl rfl ?_
  exact g_retI (Q := (fun v h L => v = some (.int (7 : Int32)) ∧ Fr n0 L ∧ Keep h0 h [q3] ∧ Arv Z h q3 kb .byte (7 : Int32) [.int (lat x0), .int (lat x1), .int (lat x2), .int (lat x3), .int (lat x4), .int (lat x5), .int (lat x6)] (.int 0))) X14 hx hby d21_46 hret hlk (by decide) (by decide) ⟨rfl, N14, K14, A14⟩
theorem ef_rmC31 (q1 : Addr) (m : MethodId) : entryFrame m #[.ref q1, .int (0 : Int32), .int (1 : Int32)] 6 = mkF m 0 #[.val (.ref q1), .val (.int (0 : Int32)), .val (.int (1 : Int32)), .unset, .unset, .unset] [] := by
  first | (simp [entryFrame, mkF, argsToLocals, Value.category]; done) | rfl
set_option maxRecDepth 65536 in
set_option maxHeartbeats 40000000 in
theorem rmC31 (l : Launch) (Z : State) (a0 : Array Value) (hw : ∀ d ∈ tables_1, d.before a0 Z = true) (ws : List Jvm.Cond) (q1 : Addr) (h0 : Heap) (n0 : Nat) (x0 : Int32) (kc : ClassId) (A_c : Arv Z h0 q1 kc .char (1 : Int32) [.int x0] (.int 0)) (hx0 : BY x0) (Z0 : n0 ≤ h0.size) :
    Ctr l Z ({ cls := "java/lang/StringUTF16", name := "compress", desc := "([CII)[B" } : Jvm.MethodName) jdk_52_method_16_code 6 (some (.array .byte)) ws ({ frames := 1, cells := 1, slots := 7, locals := 18 } : Room) #[.ref q1, .int (0 : Int32), .int (1 : Int32)] h0 (fun v h L => ∃ (b : Addr) (k : ClassId), v = some (.ref b) ∧ Fr n0 L ∧ Keep h0 h [] ∧ h0.size ≤ b ∧ Arv Z h b k .byte (1 : Int32) [.int (lat x0)] (.int 0)) := by
  refine Ctr.enter (Ls := #[.val (.ref q1), .val (.int (0 : Int32)), .val (.int (1 : Int32)), .unset, .unset, .unset]) (by decide +kernel) (fun m => ef_rmC31 q1 m) ?_
  intro p e s m below meth c T hx hby hml hown hnm hret hlk hZ hh X0 e0
  have N0 := Fr.nil n0
  refine g_iloadN X0 hx hby d20_0 (pc' := 1) rfl rfl ?_
  refine g_newarray X0 hx hZ 1  "[B" hby d20_1 (pc' := 3) rfl (w_4 hw) e0 (by decide) (by decide) (by decide) (by decide) (by decide) rfl ?_
  intro T1 b1 c1 hb1 X1 E1 A1v A1x
  have K1 := (Keep.refl h0 []).ext E1
  have Z1 := Nat.le_trans Z0 E1.1
  have A1_q1 := A_c.ext E1
  have ne1_q1 : q1 ≠ b1 := hb1 ▸ Nat.ne_of_lt A_c.lt
  have A1 : Arv Z T1.heap b1 c1 .byte (1 : Int32) [.int 0] (.int 0) := A1v
  refine g_astoreN X1 hx hby d20_3 (pc' := 4) rfl rfl (l' := #[.val (.ref q1), .val (.int (0 : Int32)), .val (.int (1 : Int32)), .val (.ref b1), .unset, .unset]) rfl ?_
  refine g_aloadN X1 hx hby d20_4 (pc' := 5) rfl rfl rfl ?_
  refine g_iloadN X1 hx hby d20_5 (pc' := 6) rfl rfl ?_
  refine g_aloadN X1 hx hby d20_6 (pc' := 7) rfl rfl rfl ?_
  refine g_iconst X1 hx hby d20_7 (pc' := 8) rfl (z := (0 : Int32)) rfl ?_
  refine g_iloadN X1 hx hby d20_8 (pc' := 9) rfl rfl ?_
  refine g_callS X1 hx hZ hown (W := 0) (argsL := [.ref q1, .int (0 : Int32), .ref b1, .int (0 : Int32), .int (1 : Int32)]) (rest := []) hby d20_9 (pc' := 12) rfl (by rw [hml]; rfl) (w_123 hw) (w_124 hw) (w_121 hw) (w_125 hw) (by decide) (rmC51 l Z a0 hw [] q1 b1 T1.heap n0 x0 _ A1_q1 hx0 _ A1 ne1_q1 (Nat.le_trans Z0 (Nat.le_of_eq hb1.symm))) rfl (by decide) (by decide) (by decide) (by decide) rfl pd__28_5bCI_5bBII_29I rfl rfl (Nat.le_of_eq rfl) ?_
  rintro _ T2 L2 X2 ⟨rfl, N2q, K2, A2⟩
  have N2 := Fr.app N0 N2q
  have K2t := K1.trans K2 (allS (Or.inr (Nat.le_trans (Keep.refl h0 []).1 (Nat.le_of_eq hb1.symm))) all0)
  have Z2 := Nat.le_trans Z1 K2.1
  have A2_q1 := A1_q1.keep K2 (ninS ne1_q1 nin0)
  have E2_b1 := A1x.keep K2
  show GoE p e below _ (T2.setTop (mkF m 12 #[.val (.ref q1), .val (.int (0 : Int32)), .val (.int (1 : Int32)), .val (.ref b1), .unset, .unset] [.int (1 : Int32)]))
  refine g_istore X2 hx hby d20_12 (pc' := 14) rfl (l' := #[.val (.ref q1), .val (.int (0 : Int32)), .val (.int (1 : Int32)), .val (.ref b1), .val (.int (1 : Int32)), .unset]) rfl ?_
  refine g_iload X2 hx hby d20_14 (pc' := 16) rfl rfl ?_
  refine g_iloadN X2 hx hby d20_16 (pc' := 17) rfl rfl ?_
  refine g_icmp_eq X2 hx hby d20_17 (by decide) (pc' := 57) (by decide) (pn := 20) rfl (fun _ => ?_) (fun z => absurd z (by decide))
  refine g_aloadN X2 hx hby d20_57 (pc' := 58) rfl rfl rfl ?_
  exact g_retA (Q := (fun v h L => ∃ (b : Addr) (k : ClassId), v = some (.ref b) ∧ Fr n0 L ∧ Keep h0 h [] ∧ h0.size ≤ b ∧ Arv Z h b k .byte (1 : Int32) [.int (lat x0)] (.int 0))) X2 hx hby d20_58 rfl hret rfl hlk (by decide) (by decide) ⟨b1, c1, rfl, N2, K2t, (Nat.le_trans (Keep.refl h0 []).1 (Nat.le_of_eq hb1.symm)), A2⟩
theorem ef_rmC32 (q1 : Addr) (m : MethodId) : entryFrame m #[.ref q1, .int (0 : Int32), .int (2 : Int32)] 6 = mkF m 0 #[.val (.ref q1), .val (.int (0 : Int32)), .val (.int (2 : Int32)), .unset, .unset, .unset] [] := by
  first | (simp [entryFrame, mkF, argsToLocals, Value.category]; done) | rfl
set_option maxRecDepth 65536 in
set_option maxHeartbeats 40000000 in
theorem rmC32 (l : Launch) (Z : State) (a0 : Array Value) (hw : ∀ d ∈ tables_1, d.before a0 Z = true) (ws : List Jvm.Cond) (q1 : Addr) (h0 : Heap) (n0 : Nat) (x0 x1 : Int32) (kc : ClassId) (A_c : Arv Z h0 q1 kc .char (2 : Int32) [.int x0, .int x1] (.int 0)) (hx0 : BY x0) (hx1 : BY x1) (Z0 : n0 ≤ h0.size) :
    Ctr l Z ({ cls := "java/lang/StringUTF16", name := "compress", desc := "([CII)[B" } : Jvm.MethodName) jdk_52_method_16_code 6 (some (.array .byte)) ws ({ frames := 1, cells := 1, slots := 7, locals := 18 } : Room) #[.ref q1, .int (0 : Int32), .int (2 : Int32)] h0 (fun v h L => ∃ (b : Addr) (k : ClassId), v = some (.ref b) ∧ Fr n0 L ∧ Keep h0 h [] ∧ h0.size ≤ b ∧ Arv Z h b k .byte (2 : Int32) [.int (lat x0), .int (lat x1)] (.int 0)) := by
  refine Ctr.enter (Ls := #[.val (.ref q1), .val (.int (0 : Int32)), .val (.int (2 : Int32)), .unset, .unset, .unset]) (by decide +kernel) (fun m => ef_rmC32 q1 m) ?_
  intro p e s m below meth c T hx hby hml hown hnm hret hlk hZ hh X0 e0
  have N0 := Fr.nil n0
  refine g_iloadN X0 hx hby d20_0 (pc' := 1) rfl rfl ?_
  refine g_newarray X0 hx hZ 2  "[B" hby d20_1 (pc' := 3) rfl (w_4 hw) e0 (by decide) (by decide) (by decide) (by decide) (by decide) rfl ?_
  intro T1 b1 c1 hb1 X1 E1 A1v A1x
  have K1 := (Keep.refl h0 []).ext E1
  have Z1 := Nat.le_trans Z0 E1.1
  have A1_q1 := A_c.ext E1
  have ne1_q1 : q1 ≠ b1 := hb1 ▸ Nat.ne_of_lt A_c.lt
  have A1 : Arv Z T1.heap b1 c1 .byte (2 : Int32) [.int 0, .int 0] (.int 0) := A1v
  refine g_astoreN X1 hx hby d20_3 (pc' := 4) rfl rfl (l' := #[.val (.ref q1), .val (.int (0 : Int32)), .val (.int (2 : Int32)), .val (.ref b1), .unset, .unset]) rfl ?_
  refine g_aloadN X1 hx hby d20_4 (pc' := 5) rfl rfl rfl ?_
  refine g_iloadN X1 hx hby d20_5 (pc' := 6) rfl rfl ?_
  refine g_aloadN X1 hx hby d20_6 (pc' := 7) rfl rfl rfl ?_
  refine g_iconst X1 hx hby d20_7 (pc' := 8) rfl (z := (0 : Int32)) rfl ?_
  refine g_iloadN X1 hx hby d20_8 (pc' := 9) rfl rfl ?_
  refine g_callS X1 hx hZ hown (W := 0) (argsL := [.ref q1, .int (0 : Int32), .ref b1, .int (0 : Int32), .int (2 : Int32)]) (rest := []) hby d20_9 (pc' := 12) rfl (by rw [hml]; rfl) (w_123 hw) (w_124 hw) (w_121 hw) (w_125 hw) (by decide) (rmC52 l Z a0 hw [] q1 b1 T1.heap n0 x0 x1 _ A1_q1 hx0 hx1 _ A1 ne1_q1 (Nat.le_trans Z0 (Nat.le_of_eq hb1.symm))) rfl (by decide) (by decide) (by decide) (by decide) rfl pd__28_5bCI_5bBII_29I rfl rfl (Nat.le_of_eq rfl) ?_
  rintro _ T2 L2 X2 ⟨rfl, N2q, K2, A2⟩
  have N2 := Fr.app N0 N2q
  have K2t := K1.trans K2 (allS (Or.inr (Nat.le_trans (Keep.refl h0 []).1 (Nat.le_of_eq hb1.symm))) all0)
  have Z2 := Nat.le_trans Z1 K2.1
  have A2_q1 := A1_q1.keep K2 (ninS ne1_q1 nin0)
  have E2_b1 := A1x.keep K2
  show GoE p e below _ (T2.setTop (mkF m 12 #[.val (.ref q1), .val (.int (0 : Int32)), .val (.int (2 : Int32)), .val (.ref b1), .unset, .unset] [.int (2 : Int32)]))
  refine g_istore X2 hx hby d20_12 (pc' := 14) rfl (l' := #[.val (.ref q1), .val (.int (0 : Int32)), .val (.int (2 : Int32)), .val (.ref b1), .val (.int (2 : Int32)), .unset]) rfl ?_
  refine g_iload X2 hx hby d20_14 (pc' := 16) rfl rfl ?_
  refine g_iloadN X2 hx hby d20_16 (pc' := 17) rfl rfl ?_
  refine g_icmp_eq X2 hx hby d20_17 (by decide) (pc' := 57) (by decide) (pn := 20) rfl (fun _ => ?_) (fun z => absurd z (by decide))
  refine g_aloadN X2 hx hby d20_57 (pc' := 58) rfl rfl rfl ?_
  exact g_retA (Q := (fun v h L => ∃ (b : Addr) (k : ClassId), v = some (.ref b) ∧ Fr n0 L ∧ Keep h0 h [] ∧ h0.size ≤ b ∧ Arv Z h b k .byte (2 : Int32) [.int (lat x0), .int (lat x1)] (.int 0))) X2 hx hby d20_58 rfl hret rfl hlk (by decide) (by decide) ⟨b1, c1, rfl, N2, K2t, (Nat.le_trans (Keep.refl h0 []).1 (Nat.le_of_eq hb1.symm)), A2⟩
theorem ef_rmC33 (q1 : Addr) (m : MethodId) : entryFrame m #[.ref q1, .int (0 : Int32), .int (3 : Int32)] 6 = mkF m 0 #[.val (.ref q1), .val (.int (0 : Int32)), .val (.int (3 : Int32)), .unset, .unset, .unset] [] := by
  first | (simp [entryFrame, mkF, argsToLocals, Value.category]; done) | rfl
set_option maxRecDepth 65536 in
set_option maxHeartbeats 40000000 in
theorem rmC33 (l : Launch) (Z : State) (a0 : Array Value) (hw : ∀ d ∈ tables_1, d.before a0 Z = true) (ws : List Jvm.Cond) (q1 : Addr) (h0 : Heap) (n0 : Nat) (x0 x1 x2 : Int32) (kc : ClassId) (A_c : Arv Z h0 q1 kc .char (3 : Int32) [.int x0, .int x1, .int x2] (.int 0)) (hx0 : BY x0) (hx1 : BY x1) (hx2 : BY x2) (Z0 : n0 ≤ h0.size) :
    Ctr l Z ({ cls := "java/lang/StringUTF16", name := "compress", desc := "([CII)[B" } : Jvm.MethodName) jdk_52_method_16_code 6 (some (.array .byte)) ws ({ frames := 1, cells := 1, slots := 7, locals := 18 } : Room) #[.ref q1, .int (0 : Int32), .int (3 : Int32)] h0 (fun v h L => ∃ (b : Addr) (k : ClassId), v = some (.ref b) ∧ Fr n0 L ∧ Keep h0 h [] ∧ h0.size ≤ b ∧ Arv Z h b k .byte (3 : Int32) [.int (lat x0), .int (lat x1), .int (lat x2)] (.int 0)) := by
  refine Ctr.enter (Ls := #[.val (.ref q1), .val (.int (0 : Int32)), .val (.int (3 : Int32)), .unset, .unset, .unset]) (by decide +kernel) (fun m => ef_rmC33 q1 m) ?_
  intro p e s m below meth c T hx hby hml hown hnm hret hlk hZ hh X0 e0
  have N0 := Fr.nil n0
  refine g_iloadN X0 hx hby d20_0 (pc' := 1) rfl rfl ?_
  refine g_newarray X0 hx hZ 3  "[B" hby d20_1 (pc' := 3) rfl (w_4 hw) e0 (by decide) (by decide) (by decide) (by decide) (by decide) rfl ?_
  intro T1 b1 c1 hb1 X1 E1 A1v A1x
  have K1 := (Keep.refl h0 []).ext E1
  have Z1 := Nat.le_trans Z0 E1.1
  have A1_q1 := A_c.ext E1
  have ne1_q1 : q1 ≠ b1 := hb1 ▸ Nat.ne_of_lt A_c.lt
  have A1 : Arv Z T1.heap b1 c1 .byte (3 : Int32) [.int 0, .int 0, .int 0] (.int 0) := A1v
  refine g_astoreN X1 hx hby d20_3 (pc' := 4) rfl rfl (l' := #[.val (.ref q1), .val (.int (0 : Int32)), .val (.int (3 : Int32)), .val (.ref b1), .unset, .unset]) rfl ?_
  refine g_aloadN X1 hx hby d20_4 (pc' := 5) rfl rfl rfl ?_
  refine g_iloadN X1 hx hby d20_5 (pc' := 6) rfl rfl ?_
  refine g_aloadN X1 hx hby d20_6 (pc' := 7) rfl rfl rfl ?_
  refine g_iconst X1 hx hby d20_7 (pc' := 8) rfl (z := (0 : Int32)) rfl ?_
  refine g_iloadN X1 hx hby d20_8 (pc' := 9) rfl rfl ?_
  refine g_callS X1 hx hZ hown (W := 0) (argsL := [.ref q1, .int (0 : Int32), .ref b1, .int (0 : Int32), .int (3 : Int32)]) (rest := []) hby d20_9 (pc' := 12) rfl (by rw [hml]; rfl) (w_123 hw) (w_124 hw) (w_121 hw) (w_125 hw) (by decide) (rmC53 l Z a0 hw [] q1 b1 T1.heap n0 x0 x1 x2 _ A1_q1 hx0 hx1 hx2 _ A1 ne1_q1 (Nat.le_trans Z0 (Nat.le_of_eq hb1.symm))) rfl (by decide) (by decide) (by decide) (by decide) rfl pd__28_5bCI_5bBII_29I rfl rfl (Nat.le_of_eq rfl) ?_
  rintro _ T2 L2 X2 ⟨rfl, N2q, K2, A2⟩
  have N2 := Fr.app N0 N2q
  have K2t := K1.trans K2 (allS (Or.inr (Nat.le_trans (Keep.refl h0 []).1 (Nat.le_of_eq hb1.symm))) all0)
  have Z2 := Nat.le_trans Z1 K2.1
  have A2_q1 := A1_q1.keep K2 (ninS ne1_q1 nin0)
  have E2_b1 := A1x.keep K2
  show GoE p e below _ (T2.setTop (mkF m 12 #[.val (.ref q1), .val (.int (0 : Int32)), .val (.int (3 : Int32)), .val (.ref b1), .unset, .unset] [.int (3 : Int32)]))
  refine g_istore X2 hx hby d20_12 (pc' := 14) rfl (l' := #[.val (.ref q1), .val (.int (0 : Int32)), .val (.int (3 : Int32)), .val (.ref b1), .val (.int (3 : Int32)), .unset]) rfl ?_
  refine g_iload X2 hx hby d20_14 (pc' := 16) rfl rfl ?_
  refine g_iloadN X2 hx hby d20_16 (pc' := 17) rfl rfl ?_
  refine g_icmp_eq X2 hx hby d20_17 (by decide) (pc' := 57) (by decide) (pn := 20) rfl (fun _ => ?_) (fun z => absurd z (by decide))
  refine g_aloadN X2 hx hby d20_57 (pc' := 58) rfl rfl rfl ?_
  exact g_retA (Q := (fun v h L => ∃ (b : Addr) (k : ClassId), v = some (.ref b) ∧ Fr n0 L ∧ Keep h0 h [] ∧ h0.size ≤ b ∧ Arv Z h b k .byte (3 : Int32) [.int (lat x0), .int (lat x1), .int (lat x2)] (.int 0))) X2 hx hby d20_58 rfl hret rfl hlk (by decide) (by decide) ⟨b1, c1, rfl, N2, K2t, (Nat.le_trans (Keep.refl h0 []).1 (Nat.le_of_eq hb1.symm)), A2⟩
theorem ef_rmC34 (q1 : Addr) (m : MethodId) : entryFrame m #[.ref q1, .int (0 : Int32), .int (4 : Int32)] 6 = mkF m 0 #[.val (.ref q1), .val (.int (0 : Int32)), .val (.int (4 : Int32)), .unset, .unset, .unset] [] := by
  first | (simp [entryFrame, mkF, argsToLocals, Value.category]; done) | rfl
set_option maxRecDepth 65536 in
set_option maxHeartbeats 40000000 in
theorem rmC34 (l : Launch) (Z : State) (a0 : Array Value) (hw : ∀ d ∈ tables_1, d.before a0 Z = true) (ws : List Jvm.Cond) (q1 : Addr) (h0 : Heap) (n0 : Nat) (x0 x1 x2 x3 : Int32) (kc : ClassId) (A_c : Arv Z h0 q1 kc .char (4 : Int32) [.int x0, .int x1, .int x2, .int x3] (.int 0)) (hx0 : BY x0) (hx1 : BY x1) (hx2 : BY x2) (hx3 : BY x3) (Z0 : n0 ≤ h0.size) :
    Ctr l Z ({ cls := "java/lang/StringUTF16", name := "compress", desc := "([CII)[B" } : Jvm.MethodName) jdk_52_method_16_code 6 (some (.array .byte)) ws ({ frames := 1, cells := 1, slots := 7, locals := 18 } : Room) #[.ref q1, .int (0 : Int32), .int (4 : Int32)] h0 (fun v h L => ∃ (b : Addr) (k : ClassId), v = some (.ref b) ∧ Fr n0 L ∧ Keep h0 h [] ∧ h0.size ≤ b ∧ Arv Z h b k .byte (4 : Int32) [.int (lat x0), .int (lat x1), .int (lat x2), .int (lat x3)] (.int 0)) := by
  refine Ctr.enter (Ls := #[.val (.ref q1), .val (.int (0 : Int32)), .val (.int (4 : Int32)), .unset, .unset, .unset]) (by decide +kernel) (fun m => ef_rmC34 q1 m) ?_
  intro p e s m below meth c T hx hby hml hown hnm hret hlk hZ hh X0 e0
  have N0 := Fr.nil n0
  refine g_iloadN X0 hx hby d20_0 (pc' := 1) rfl rfl ?_
  refine g_newarray X0 hx hZ 4  "[B" hby d20_1 (pc' := 3) rfl (w_4 hw) e0 (by decide) (by decide) (by decide) (by decide) (by decide) rfl ?_
  intro T1 b1 c1 hb1 X1 E1 A1v A1x
  have K1 := (Keep.refl h0 []).ext E1
  have Z1 := Nat.le_trans Z0 E1.1
  have A1_q1 := A_c.ext E1
  have ne1_q1 : q1 ≠ b1 := hb1 ▸ Nat.ne_of_lt A_c.lt
  have A1 : Arv Z T1.heap b1 c1 .byte (4 : Int32) [.int 0, .int 0, .int 0, .int 0] (.int 0) := A1v
  refine g_astoreN X1 hx hby d20_3 (pc' := 4) rfl rfl (l' := #[.val (.ref q1), .val (.int (0 : Int32)), .val (.int (4 : Int32)), .val (.ref b1), .unset, .unset]) rfl ?_
  refine g_aloadN X1 hx hby d20_4 (pc' := 5) rfl rfl rfl ?_
  refine g_iloadN X1 hx hby d20_5 (pc' := 6) rfl rfl ?_
  refine g_aloadN X1 hx hby d20_6 (pc' := 7) rfl rfl rfl ?_
  refine g_iconst X1 hx hby d20_7 (pc' := 8) rfl (z := (0 : Int32)) rfl ?_
  refine g_iloadN X1 hx hby d20_8 (pc' := 9) rfl rfl ?_
  refine g_callS X1 hx hZ hown (W := 0) (argsL := [.ref q1, .int (0 : Int32), .ref b1, .int (0 : Int32), .int (4 : Int32)]) (rest := []) hby d20_9 (pc' := 12) rfl (by rw [hml]; rfl) (w_123 hw) (w_124 hw) (w_121 hw) (w_125 hw) (by decide) (rmC54 l Z a0 hw [] q1 b1 T1.heap n0 x0 x1 x2 x3 _ A1_q1 hx0 hx1 hx2 hx3 _ A1 ne1_q1 (Nat.le_trans Z0 (Nat.le_of_eq hb1.symm))) rfl (by decide) (by decide) (by decide) (by decide) rfl pd__28_5bCI_5bBII_29I rfl rfl (Nat.le_of_eq rfl) ?_
  rintro _ T2 L2 X2 ⟨rfl, N2q, K2, A2⟩
  have N2 := Fr.app N0 N2q
  have K2t := K1.trans K2 (allS (Or.inr (Nat.le_trans (Keep.refl h0 []).1 (Nat.le_of_eq hb1.symm))) all0)
  have Z2 := Nat.le_trans Z1 K2.1
  have A2_q1 := A1_q1.keep K2 (ninS ne1_q1 nin0)
  have E2_b1 := A1x.keep K2
  show GoE p e below _ (T2.setTop (mkF m 12 #[.val (.ref q1), .val (.int (0 : Int32)), .val (.int (4 : Int32)), .val (.ref b1), .unset, .unset] [.int (4 : Int32)]))
  refine g_istore X2 hx hby d20_12 (pc' := 14) rfl (l' := #[.val (.ref q1), .val (.int (0 : Int32)), .val (.int (4 : Int32)), .val (.ref b1), .val (.int (4 : Int32)), .unset]) rfl ?_
  refine g_iload X2 hx hby d20_14 (pc' := 16) rfl rfl ?_
  refine g_iloadN X2 hx hby d20_16 (pc' := 17) rfl rfl ?_
  refine g_icmp_eq X2 hx hby d20_17 (by decide) (pc' := 57) (by decide) (pn := 20) rfl (fun _ => ?_) (fun z => absurd z (by decide))
  refine g_aloadN X2 hx hby d20_57 (pc' := 58) rfl rfl rfl ?_
  exact g_retA (Q := (fun v h L => ∃ (b : Addr) (k : ClassId), v = some (.ref b) ∧ Fr n0 L ∧ Keep h0 h [] ∧ h0.size ≤ b ∧ Arv Z h b k .byte (4 : Int32) [.int (lat x0), .int (lat x1), .int (lat x2), .int (lat x3)] (.int 0))) X2 hx hby d20_58 rfl hret rfl hlk (by decide) (by decide) ⟨b1, c1, rfl, N2, K2t, (Nat.le_trans (Keep.refl h0 []).1 (Nat.le_of_eq hb1.symm)), A2⟩
theorem ef_rmC35 (q1 : Addr) (m : MethodId) : entryFrame m #[.ref q1, .int (0 : Int32), .int (5 : Int32)] 6 = mkF m 0 #[.val (.ref q1), .val (.int (0 : Int32)), .val (.int (5 : Int32)), .unset, .unset, .unset] [] := by
  first | (simp [entryFrame, mkF, argsToLocals, Value.category]; done) | rfl
set_option maxRecDepth 65536 in
set_option maxHeartbeats 40000000 in
theorem rmC35 (l : Launch) (Z : State) (a0 : Array Value) (hw : ∀ d ∈ tables_1, d.before a0 Z = true) (ws : List Jvm.Cond) (q1 : Addr) (h0 : Heap) (n0 : Nat) (x0 x1 x2 x3 x4 : Int32) (kc : ClassId) (A_c : Arv Z h0 q1 kc .char (5 : Int32) [.int x0, .int x1, .int x2, .int x3, .int x4] (.int 0)) (hx0 : BY x0) (hx1 : BY x1) (hx2 : BY x2) (hx3 : BY x3) (hx4 : BY x4) (Z0 : n0 ≤ h0.size) :
    Ctr l Z ({ cls := "java/lang/StringUTF16", name := "compress", desc := "([CII)[B" } : Jvm.MethodName) jdk_52_method_16_code 6 (some (.array .byte)) ws ({ frames := 1, cells := 1, slots := 7, locals := 18 } : Room) #[.ref q1, .int (0 : Int32), .int (5 : Int32)] h0 (fun v h L => ∃ (b : Addr) (k : ClassId), v = some (.ref b) ∧ Fr n0 L ∧ Keep h0 h [] ∧ h0.size ≤ b ∧ Arv Z h b k .byte (5 : Int32) [.int (lat x0), .int (lat x1), .int (lat x2), .int (lat x3), .int (lat x4)] (.int 0)) := by
  refine Ctr.enter (Ls := #[.val (.ref q1), .val (.int (0 : Int32)), .val (.int (5 : Int32)), .unset, .unset, .unset]) (by decide +kernel) (fun m => ef_rmC35 q1 m) ?_
  intro p e s m below meth c T hx hby hml hown hnm hret hlk hZ hh X0 e0
  have N0 := Fr.nil n0
  refine g_iloadN X0 hx hby d20_0 (pc' := 1) rfl rfl ?_
  refine g_newarray X0 hx hZ 5  "[B" hby d20_1 (pc' := 3) rfl (w_4 hw) e0 (by decide) (by decide) (by decide) (by decide) (by decide) rfl ?_
  intro T1 b1 c1 hb1 X1 E1 A1v A1x
  have K1 := (Keep.refl h0 []).ext E1
  have Z1 := Nat.le_trans Z0 E1.1
  have A1_q1 := A_c.ext E1
  have ne1_q1 : q1 ≠ b1 := hb1 ▸ Nat.ne_of_lt A_c.lt
  have A1 : Arv Z T1.heap b1 c1 .byte (5 : Int32) [.int 0, .int 0, .int 0, .int 0, .int 0] (.int 0) := A1v
  refine g_astoreN X1 hx hby d20_3 (pc' := 4) rfl rfl (l' := #[.val (.ref q1), .val (.int (0 : Int32)), .val (.int (5 : Int32)), .val (.ref b1), .unset, .unset]) rfl ?_
  refine g_aloadN X1 hx hby d20_4 (pc' := 5) rfl rfl rfl ?_
  refine g_iloadN X1 hx hby d20_5 (pc' := 6) rfl rfl ?_
  refine g_aloadN X1 hx hby d20_6 (pc' := 7) rfl rfl rfl ?_
  refine g_iconst X1 hx hby d20_7 (pc' := 8) rfl (z := (0 : Int32)) rfl ?_
  refine g_iloadN X1 hx hby d20_8 (pc' := 9) rfl rfl ?_
  refine g_callS X1 hx hZ hown (W := 0) (argsL := [.ref q1, .int (0 : Int32), .ref b1, .int (0 : Int32), .int (5 : Int32)]) (rest := []) hby d20_9 (pc' := 12) rfl (by rw [hml]; rfl) (w_123 hw) (w_124 hw) (w_121 hw) (w_125 hw) (by decide) (rmC55 l Z a0 hw [] q1 b1 T1.heap n0 x0 x1 x2 x3 x4 _ A1_q1 hx0 hx1 hx2 hx3 hx4 _ A1 ne1_q1 (Nat.le_trans Z0 (Nat.le_of_eq hb1.symm))) rfl (by decide) (by decide) (by decide) (by decide) rfl pd__28_5bCI_5bBII_29I rfl rfl (Nat.le_of_eq rfl) ?_
  rintro _ T2 L2 X2 ⟨rfl, N2q, K2, A2⟩
  have N2 := Fr.app N0 N2q
  have K2t := K1.trans K2 (allS (Or.inr (Nat.le_trans (Keep.refl h0 []).1 (Nat.le_of_eq hb1.symm))) all0)
  have Z2 := Nat.le_trans Z1 K2.1
  have A2_q1 := A1_q1.keep K2 (ninS ne1_q1 nin0)
  have E2_b1 := A1x.keep K2
  show GoE p e below _ (T2.setTop (mkF m 12 #[.val (.ref q1), .val (.int (0 : Int32)), .val (.int (5 : Int32)), .val (.ref b1), .unset, .unset] [.int (5 : Int32)]))
  refine g_istore X2 hx hby d20_12 (pc' := 14) rfl (l' := #[.val (.ref q1), .val (.int (0 : Int32)), .val (.int (5 : Int32)), .val (.ref b1), .val (.int (5 : Int32)), .unset]) rfl ?_
  refine g_iload X2 hx hby d20_14 (pc' := 16) rfl rfl ?_
  refine g_iloadN X2 hx hby d20_16 (pc' := 17) rfl rfl ?_
  refine g_icmp_eq X2 hx hby d20_17 (by decide) (pc' := 57) (by decide) (pn := 20) rfl (fun _ => ?_) (fun z => absurd z (by decide))
  refine g_aloadN X2 hx hby d20_57 (pc' := 58) rfl rfl rfl ?_
  exact g_retA (Q := (fun v h L => ∃ (b : Addr) (k : ClassId), v = some (.ref b) ∧ Fr n0 L ∧ Keep h0 h [] ∧ h0.size ≤ b ∧ Arv Z h b k .byte (5 : Int32) [.int (lat x0), .int (lat x1), .int (lat x2), .int (lat x3), .int (lat x4)] (.int 0))) X2 hx hby d20_58 rfl hret rfl hlk (by decide) (by decide) ⟨b1, c1, rfl, N2, K2t, (Nat.le_trans (Keep.refl h0 []).1 (Nat.le_of_eq hb1.symm)), A2⟩
theorem ef_rmC36 (q1 : Addr) (m : MethodId) : entryFrame m #[.ref q1, .int (0 : Int32), .int (6 : Int32)] 6 = mkF m 0 #[.val (.ref q1), .val (.int (0 : Int32)), .val (.int (6 : Int32)), .unset, .unset, .unset] [] := by
  first | (simp [entryFrame, mkF, argsToLocals, Value.category]; done) | rfl
set_option maxRecDepth 65536 in
set_option maxHeartbeats 40000000 in
theorem rmC36 (l : Launch) (Z : State) (a0 : Array Value) (hw : ∀ d ∈ tables_1, d.before a0 Z = true) (ws : List Jvm.Cond) (q1 : Addr) (h0 : Heap) (n0 : Nat) (x0 x1 x2 x3 x4 x5 : Int32) (kc : ClassId) (A_c : Arv Z h0 q1 kc .char (6 : Int32) [.int x0, .int x1, .int x2, .int x3, .int x4, .int x5] (.int 0)) (hx0 : BY x0) (hx1 : BY x1) (hx2 : BY x2) (hx3 : BY x3) (hx4 : BY x4) (hx5 : BY x5) (Z0 : n0 ≤ h0.size) :
    Ctr l Z ({ cls := "java/lang/StringUTF16", name := "compress", desc := "([CII)[B" } : Jvm.MethodName) jdk_52_method_16_code 6 (some (.array .byte)) ws ({ frames := 1, cells := 1, slots := 7, locals := 18 } : Room) #[.ref q1, .int (0 : Int32), .int (6 : Int32)] h0 (fun v h L => ∃ (b : Addr) (k : ClassId), v = some (.ref b) ∧ Fr n0 L ∧ Keep h0 h [] ∧ h0.size ≤ b ∧ Arv Z h b k .byte (6 : Int32) [.int (lat x0), .int (lat x1), .int (lat x2), .int (lat x3), .int (lat x4), .int (lat x5)] (.int 0)) := by
  refine Ctr.enter (Ls := #[.val (.ref q1), .val (.int (0 : Int32)), .val (.int (6 : Int32)), .unset, .unset, .unset]) (by decide +kernel) (fun m => ef_rmC36 q1 m) ?_
  intro p e s m below meth c T hx hby hml hown hnm hret hlk hZ hh X0 e0
  have N0 := Fr.nil n0
  refine g_iloadN X0 hx hby d20_0 (pc' := 1) rfl rfl ?_
  refine g_newarray X0 hx hZ 6  "[B" hby d20_1 (pc' := 3) rfl (w_4 hw) e0 (by decide) (by decide) (by decide) (by decide) (by decide) rfl ?_
  intro T1 b1 c1 hb1 X1 E1 A1v A1x
  have K1 := (Keep.refl h0 []).ext E1
  have Z1 := Nat.le_trans Z0 E1.1
  have A1_q1 := A_c.ext E1
  have ne1_q1 : q1 ≠ b1 := hb1 ▸ Nat.ne_of_lt A_c.lt
  have A1 : Arv Z T1.heap b1 c1 .byte (6 : Int32) [.int 0, .int 0, .int 0, .int 0, .int 0, .int 0] (.int 0) := A1v
  refine g_astoreN X1 hx hby d20_3 (pc' := 4) rfl rfl (l' := #[.val (.ref q1), .val (.int (0 : Int32)), .val (.int (6 : Int32)), .val (.ref b1), .unset, .unset]) rfl ?_
  refine g_aloadN X1 hx hby d20_4 (pc' := 5) rfl rfl rfl ?_
  refine g_iloadN X1 hx hby d20_5 (pc' := 6) rfl rfl ?_
  refine g_aloadN X1 hx hby d20_6 (pc' := 7) rfl rfl rfl ?_
  refine g_iconst X1 hx hby d20_7 (pc' := 8) rfl (z := (0 : Int32)) rfl ?_
  refine g_iloadN X1 hx hby d20_8 (pc' := 9) rfl rfl ?_
  refine g_callS X1 hx hZ hown (W := 0) (argsL := [.ref q1, .int (0 : Int32), .ref b1, .int (0 : Int32), .int (6 : Int32)]) (rest := []) hby d20_9 (pc' := 12) rfl (by rw [hml]; rfl) (w_123 hw) (w_124 hw) (w_121 hw) (w_125 hw) (by decide) (rmC56 l Z a0 hw [] q1 b1 T1.heap n0 x0 x1 x2 x3 x4 x5 _ A1_q1 hx0 hx1 hx2 hx3 hx4 hx5 _ A1 ne1_q1 (Nat.le_trans Z0 (Nat.le_of_eq hb1.symm))) rfl (by decide) (by decide) (by decide) (by decide) rfl pd__28_5bCI_5bBII_29I rfl rfl (Nat.le_of_eq rfl) ?_
  rintro _ T2 L2 X2 ⟨rfl, N2q, K2, A2⟩
  have N2 := Fr.app N0 N2q
  have K2t := K1.trans K2 (allS (Or.inr (Nat.le_trans (Keep.refl h0 []).1 (Nat.le_of_eq hb1.symm))) all0)
  have Z2 := Nat.le_trans Z1 K2.1
  have A2_q1 := A1_q1.keep K2 (ninS ne1_q1 nin0)
  have E2_b1 := A1x.keep K2
  show GoE p e below _ (T2.setTop (mkF m 12 #[.val (.ref q1), .val (.int (0 : Int32)), .val (.int (6 : Int32)), .val (.ref b1), .unset, .unset] [.int (6 : Int32)]))
  refine g_istore X2 hx hby d20_12 (pc' := 14) rfl (l' := #[.val (.ref q1), .val (.int (0 : Int32)), .val (.int (6 : Int32)), .val (.ref b1), .val (.int (6 : Int32)), .unset]) rfl ?_
  refine g_iload X2 hx hby d20_14 (pc' := 16) rfl rfl ?_
  refine g_iloadN X2 hx hby d20_16 (pc' := 17) rfl rfl ?_
  refine g_icmp_eq X2 hx hby d20_17 (by decide) (pc' := 57) (by decide) (pn := 20) rfl (fun _ => ?_) (fun z => absurd z (by decide))
  refine g_aloadN X2 hx hby d20_57 (pc' := 58) rfl rfl rfl ?_
  exact g_retA (Q := (fun v h L => ∃ (b : Addr) (k : ClassId), v = some (.ref b) ∧ Fr n0 L ∧ Keep h0 h [] ∧ h0.size ≤ b ∧ Arv Z h b k .byte (6 : Int32) [.int (lat x0), .int (lat x1), .int (lat x2), .int (lat x3), .int (lat x4), .int (lat x5)] (.int 0))) X2 hx hby d20_58 rfl hret rfl hlk (by decide) (by decide) ⟨b1, c1, rfl, N2, K2t, (Nat.le_trans (Keep.refl h0 []).1 (Nat.le_of_eq hb1.symm)), A2⟩
theorem ef_rmC37 (q1 : Addr) (m : MethodId) : entryFrame m #[.ref q1, .int (0 : Int32), .int (7 : Int32)] 6 = mkF m 0 #[.val (.ref q1), .val (.int (0 : Int32)), .val (.int (7 : Int32)), .unset, .unset, .unset] [] := by
  first | (simp [entryFrame, mkF, argsToLocals, Value.category]; done) | rfl
set_option maxRecDepth 65536 in
set_option maxHeartbeats 40000000 in
theorem rmC37 (l : Launch) (Z : State) (a0 : Array Value) (hw : ∀ d ∈ tables_1, d.before a0 Z = true) (ws : List Jvm.Cond) (q1 : Addr) (h0 : Heap) (n0 : Nat) (x0 x1 x2 x3 x4 x5 x6 : Int32) (kc : ClassId) (A_c : Arv Z h0 q1 kc .char (7 : Int32) [.int x0, .int x1, .int x2, .int x3, .int x4, .int x5, .int x6] (.int 0)) (hx0 : BY x0) (hx1 : BY x1) (hx2 : BY x2) (hx3 : BY x3) (hx4 : BY x4) (hx5 : BY x5) (hx6 : BY x6) (Z0 : n0 ≤ h0.size) :
    Ctr l Z ({ cls := "java/lang/StringUTF16", name := "compress", desc := "([CII)[B" } : Jvm.MethodName) jdk_52_method_16_code 6 (some (.array .byte)) ws ({ frames := 1, cells := 1, slots := 7, locals := 18 } : Room) #[.ref q1, .int (0 : Int32), .int (7 : Int32)] h0 (fun v h L => ∃ (b : Addr) (k : ClassId), v = some (.ref b) ∧ Fr n0 L ∧ Keep h0 h [] ∧ h0.size ≤ b ∧ Arv Z h b k .byte (7 : Int32) [.int (lat x0), .int (lat x1), .int (lat x2), .int (lat x3), .int (lat x4), .int (lat x5), .int (lat x6)] (.int 0)) := by
  refine Ctr.enter (Ls := #[.val (.ref q1), .val (.int (0 : Int32)), .val (.int (7 : Int32)), .unset, .unset, .unset]) (by decide +kernel) (fun m => ef_rmC37 q1 m) ?_
  intro p e s m below meth c T hx hby hml hown hnm hret hlk hZ hh X0 e0
  have N0 := Fr.nil n0
  refine g_iloadN X0 hx hby d20_0 (pc' := 1) rfl rfl ?_
  refine g_newarray X0 hx hZ 7  "[B" hby d20_1 (pc' := 3) rfl (w_4 hw) e0 (by decide) (by decide) (by decide) (by decide) (by decide) rfl ?_
  intro T1 b1 c1 hb1 X1 E1 A1v A1x
  have K1 := (Keep.refl h0 []).ext E1
  have Z1 := Nat.le_trans Z0 E1.1
  have A1_q1 := A_c.ext E1
  have ne1_q1 : q1 ≠ b1 := hb1 ▸ Nat.ne_of_lt A_c.lt
  have A1 : Arv Z T1.heap b1 c1 .byte (7 : Int32) [.int 0, .int 0, .int 0, .int 0, .int 0, .int 0, .int 0] (.int 0) := A1v
  refine g_astoreN X1 hx hby d20_3 (pc' := 4) rfl rfl (l' := #[.val (.ref q1), .val (.int (0 : Int32)), .val (.int (7 : Int32)), .val (.ref b1), .unset, .unset]) rfl ?_
  refine g_aloadN X1 hx hby d20_4 (pc' := 5) rfl rfl rfl ?_
  refine g_iloadN X1 hx hby d20_5 (pc' := 6) rfl rfl ?_
  refine g_aloadN X1 hx hby d20_6 (pc' := 7) rfl rfl rfl ?_
  refine g_iconst X1 hx hby d20_7 (pc' := 8) rfl (z := (0 : Int32)) rfl ?_
  refine g_iloadN X1 hx hby d20_8 (pc' := 9) rfl rfl ?_
  refine g_callS X1 hx hZ hown (W := 0) (argsL := [.ref q1, .int (0 : Int32), .ref b1, .int (0 : Int32), .int (7 : Int32)]) (rest := []) hby d20_9 (pc' := 12) rfl (by rw [hml]; rfl) (w_123 hw) (w_124 hw) (w_121 hw) (w_125 hw) (by decide) (rmC57 l Z a0 hw [] q1 b1 T1.heap n0 x0 x1 x2 x3 x4 x5 x6 _ A1_q1 hx0 hx1 hx2 hx3 hx4 hx5 hx6 _ A1 ne1_q1 (Nat.le_trans Z0 (Nat.le_of_eq hb1.symm))) rfl (by decide) (by decide) (by decide) (by decide) rfl pd__28_5bCI_5bBII_29I rfl rfl (Nat.le_of_eq rfl) ?_
  rintro _ T2 L2 X2 ⟨rfl, N2q, K2, A2⟩
  have N2 := Fr.app N0 N2q
  have K2t := K1.trans K2 (allS (Or.inr (Nat.le_trans (Keep.refl h0 []).1 (Nat.le_of_eq hb1.symm))) all0)
  have Z2 := Nat.le_trans Z1 K2.1
  have A2_q1 := A1_q1.keep K2 (ninS ne1_q1 nin0)
  have E2_b1 := A1x.keep K2
  show GoE p e below _ (T2.setTop (mkF m 12 #[.val (.ref q1), .val (.int (0 : Int32)), .val (.int (7 : Int32)), .val (.ref b1), .unset, .unset] [.int (7 : Int32)]))
  refine g_istore X2 hx hby d20_12 (pc' := 14) rfl (l' := #[.val (.ref q1), .val (.int (0 : Int32)), .val (.int (7 : Int32)), .val (.ref b1), .val (.int (7 : Int32)), .unset]) rfl ?_
  refine g_iload X2 hx hby d20_14 (pc' := 16) rfl rfl ?_
  refine g_iloadN X2 hx hby d20_16 (pc' := 17) rfl rfl ?_
  refine g_icmp_eq X2 hx hby d20_17 (by decide) (pc' := 57) (by decide) (pn := 20) rfl (fun _ => ?_) (fun z => absurd z (by decide))
  refine g_aloadN X2 hx hby d20_57 (pc' := 58) rfl rfl rfl ?_
  exact g_retA (Q := (fun v h L => ∃ (b : Addr) (k : ClassId), v = some (.ref b) ∧ Fr n0 L ∧ Keep h0 h [] ∧ h0.size ≤ b ∧ Arv Z h b k .byte (7 : Int32) [.int (lat x0), .int (lat x1), .int (lat x2), .int (lat x3), .int (lat x4), .int (lat x5), .int (lat x6)] (.int 0))) X2 hx hby d20_58 rfl hret rfl hlk (by decide) (by decide) ⟨b1, c1, rfl, N2, K2t, (Nat.le_trans (Keep.refl h0 []).1 (Nat.le_of_eq hb1.symm)), A2⟩
theorem ef_rmF1 (q1 : Addr) (m : MethodId) : entryFrame m #[.ref q1, .int (1 : Int32)] 2 = mkF m 0 #[.val (.ref q1), .val (.int (1 : Int32))] [] := by
  first | (simp [entryFrame, mkF, argsToLocals, Value.category]; done) | rfl
set_option maxRecDepth 65536 in
set_option maxHeartbeats 40000000 in
theorem rmF1 (l : Launch) (Z : State) (a0 : Array Value) (hw : ∀ d ∈ tables_1, d.before a0 Z = true) (ws : List Jvm.Cond) (q1 : Addr) (h0 : Heap) (n0 : Nat) (kq : ClassId) (vs : List Value) (A_q : Arv Z h0 q1 kq .byte (1 : Int32) vs (.int 0)) :
    Ctr l Z ({ cls := "java/lang/StringUTF16", name := "coderFromArrayLen", desc := "([BI)B" } : Jvm.MethodName) jdk_52_method_15_code 2 (some .byte) ws ({ frames := 0, cells := 0, slots := 0, locals := 0 } : Room) #[.ref q1, .int (1 : Int32)] h0 (fun v h L => v = some (.int (0 : Int32)) ∧ Fr n0 L ∧ h = h0) := by
  refine Ctr.enter (Ls := #[.val (.ref q1), .val (.int (1 : Int32))]) (by decide +kernel) (fun m => ef_rmF1 q1 m) ?_
  intro p e s m below meth c T hx hby hml hown hnm hret hlk hZ hh X0 e0
  have N0 := Fr.nil n0
  refine g_iloadN X0 hx hby d22_0 (pc' := 1) rfl rfl ?_
  refine g_aloadN X0 hx hby d22_1 (pc' := 2) rfl rfl rfl ?_
  refine g_alen X0 hx hZ hby d22_2 (pc' := 3) rfl e0 A_q ?_
  refine g_isub X0 hx hby d22_3 (pc' := 4) rfl ?_
  refine g_eqI (b := (0 : Int32)) (by decide +kernel) ?_
  refine g_bipush X0 hx hby d22_4 (pc' := 6) rfl (z := (31 : Int32)) rfl ?_
  refine g_iushr X0 hx hby d22_6 (pc' := 7) rfl ?_
  refine g_eqI (b := (0 : Int32)) (by decide +kernel) ?_
  refine g_i2b X0 hx hby d22_7 (pc' := 8) rfl ?_
  refine g_eqI (b := (0 : Int32)) (by decide +kernel) ?_
  exact g_retN (Q := (fun v h L => v = some (.int (0 : Int32)) ∧ Fr n0 L ∧ h = h0)) (w := (0 : Int32)) X0 hx hby d22_8 hret (by simp) (by first | decide | rfl) hlk (by decide) (by decide) ⟨rfl, N0, e0⟩
theorem ef_rmF2 (q1 : Addr) (m : MethodId) : entryFrame m #[.ref q1, .int (2 : Int32)] 2 = mkF m 0 #[.val (.ref q1), .val (.int (2 : Int32))] [] := by
  first | (simp [entryFrame, mkF, argsToLocals, Value.category]; done) | rfl
set_option maxRecDepth 65536 in
set_option maxHeartbeats 40000000 in
theorem rmF2 (l : Launch) (Z : State) (a0 : Array Value) (hw : ∀ d ∈ tables_1, d.before a0 Z = true) (ws : List Jvm.Cond) (q1 : Addr) (h0 : Heap) (n0 : Nat) (kq : ClassId) (vs : List Value) (A_q : Arv Z h0 q1 kq .byte (2 : Int32) vs (.int 0)) :
    Ctr l Z ({ cls := "java/lang/StringUTF16", name := "coderFromArrayLen", desc := "([BI)B" } : Jvm.MethodName) jdk_52_method_15_code 2 (some .byte) ws ({ frames := 0, cells := 0, slots := 0, locals := 0 } : Room) #[.ref q1, .int (2 : Int32)] h0 (fun v h L => v = some (.int (0 : Int32)) ∧ Fr n0 L ∧ h = h0) := by
  refine Ctr.enter (Ls := #[.val (.ref q1), .val (.int (2 : Int32))]) (by decide +kernel) (fun m => ef_rmF2 q1 m) ?_
  intro p e s m below meth c T hx hby hml hown hnm hret hlk hZ hh X0 e0
  have N0 := Fr.nil n0
  refine g_iloadN X0 hx hby d22_0 (pc' := 1) rfl rfl ?_
  refine g_aloadN X0 hx hby d22_1 (pc' := 2) rfl rfl rfl ?_
  refine g_alen X0 hx hZ hby d22_2 (pc' := 3) rfl e0 A_q ?_
  refine g_isub X0 hx hby d22_3 (pc' := 4) rfl ?_
  refine g_eqI (b := (0 : Int32)) (by decide +kernel) ?_
  refine g_bipush X0 hx hby d22_4 (pc' := 6) rfl (z := (31 : Int32)) rfl ?_
  refine g_iushr X0 hx hby d22_6 (pc' := 7) rfl ?_
  refine g_eqI (b := (0 : Int32)) (by decide +kernel) ?_
  refine g_i2b X0 hx hby d22_7 (pc' := 8) rfl ?_
  refine g_eqI (b := (0 : Int32)) (by decide +kernel) ?_
  exact g_retN (Q := (fun v h L => v = some (.int (0 : Int32)) ∧ Fr n0 L ∧ h = h0)) (w := (0 : Int32)) X0 hx hby d22_8 hret (by simp) (by first | decide | rfl) hlk (by decide) (by decide) ⟨rfl, N0, e0⟩
theorem ef_rmF3 (q1 : Addr) (m : MethodId) : entryFrame m #[.ref q1, .int (3 : Int32)] 2 = mkF m 0 #[.val (.ref q1), .val (.int (3 : Int32))] [] := by
  first | (simp [entryFrame, mkF, argsToLocals, Value.category]; done) | rfl
set_option maxRecDepth 65536 in
set_option maxHeartbeats 40000000 in
theorem rmF3 (l : Launch) (Z : State) (a0 : Array Value) (hw : ∀ d ∈ tables_1, d.before a0 Z = true) (ws : List Jvm.Cond) (q1 : Addr) (h0 : Heap) (n0 : Nat) (kq : ClassId) (vs : List Value) (A_q : Arv Z h0 q1 kq .byte (3 : Int32) vs (.int 0)) :
    Ctr l Z ({ cls := "java/lang/StringUTF16", name := "coderFromArrayLen", desc := "([BI)B" } : Jvm.MethodName) jdk_52_method_15_code 2 (some .byte) ws ({ frames := 0, cells := 0, slots := 0, locals := 0 } : Room) #[.ref q1, .int (3 : Int32)] h0 (fun v h L => v = some (.int (0 : Int32)) ∧ Fr n0 L ∧ h = h0) := by
  refine Ctr.enter (Ls := #[.val (.ref q1), .val (.int (3 : Int32))]) (by decide +kernel) (fun m => ef_rmF3 q1 m) ?_
  intro p e s m below meth c T hx hby hml hown hnm hret hlk hZ hh X0 e0
  have N0 := Fr.nil n0
  refine g_iloadN X0 hx hby d22_0 (pc' := 1) rfl rfl ?_
  refine g_aloadN X0 hx hby d22_1 (pc' := 2) rfl rfl rfl ?_
  refine g_alen X0 hx hZ hby d22_2 (pc' := 3) rfl e0 A_q ?_
  refine g_isub X0 hx hby d22_3 (pc' := 4) rfl ?_
  refine g_eqI (b := (0 : Int32)) (by decide +kernel) ?_
  refine g_bipush X0 hx hby d22_4 (pc' := 6) rfl (z := (31 : Int32)) rfl ?_
  refine g_iushr X0 hx hby d22_6 (pc' := 7) rfl ?_
  refine g_eqI (b := (0 : Int32)) (by decide +kernel) ?_
  refine g_i2b X0 hx hby d22_7 (pc' := 8) rfl ?_
  refine g_eqI (b := (0 : Int32)) (by decide +kernel) ?_
  exact g_retN (Q := (fun v h L => v = some (.int (0 : Int32)) ∧ Fr n0 L ∧ h = h0)) (w := (0 : Int32)) X0 hx hby d22_8 hret (by simp) (by first | decide | rfl) hlk (by decide) (by decide) ⟨rfl, N0, e0⟩
theorem ef_rmF4 (q1 : Addr) (m : MethodId) : entryFrame m #[.ref q1, .int (4 : Int32)] 2 = mkF m 0 #[.val (.ref q1), .val (.int (4 : Int32))] [] := by
  first | (simp [entryFrame, mkF, argsToLocals, Value.category]; done) | rfl
set_option maxRecDepth 65536 in
set_option maxHeartbeats 40000000 in
theorem rmF4 (l : Launch) (Z : State) (a0 : Array Value) (hw : ∀ d ∈ tables_1, d.before a0 Z = true) (ws : List Jvm.Cond) (q1 : Addr) (h0 : Heap) (n0 : Nat) (kq : ClassId) (vs : List Value) (A_q : Arv Z h0 q1 kq .byte (4 : Int32) vs (.int 0)) :
    Ctr l Z ({ cls := "java/lang/StringUTF16", name := "coderFromArrayLen", desc := "([BI)B" } : Jvm.MethodName) jdk_52_method_15_code 2 (some .byte) ws ({ frames := 0, cells := 0, slots := 0, locals := 0 } : Room) #[.ref q1, .int (4 : Int32)] h0 (fun v h L => v = some (.int (0 : Int32)) ∧ Fr n0 L ∧ h = h0) := by
  refine Ctr.enter (Ls := #[.val (.ref q1), .val (.int (4 : Int32))]) (by decide +kernel) (fun m => ef_rmF4 q1 m) ?_
  intro p e s m below meth c T hx hby hml hown hnm hret hlk hZ hh X0 e0
  have N0 := Fr.nil n0
  refine g_iloadN X0 hx hby d22_0 (pc' := 1) rfl rfl ?_
  refine g_aloadN X0 hx hby d22_1 (pc' := 2) rfl rfl rfl ?_
  refine g_alen X0 hx hZ hby d22_2 (pc' := 3) rfl e0 A_q ?_
  refine g_isub X0 hx hby d22_3 (pc' := 4) rfl ?_
  refine g_eqI (b := (0 : Int32)) (by decide +kernel) ?_
  refine g_bipush X0 hx hby d22_4 (pc' := 6) rfl (z := (31 : Int32)) rfl ?_
  refine g_iushr X0 hx hby d22_6 (pc' := 7) rfl ?_
  refine g_eqI (b := (0 : Int32)) (by decide +kernel) ?_
  refine g_i2b X0 hx hby d22_7 (pc' := 8) rfl ?_
  refine g_eqI (b := (0 : Int32)) (by decide +kernel) ?_
  exact g_retN (Q := (fun v h L => v = some (.int (0 : Int32)) ∧ Fr n0 L ∧ h = h0)) (w := (0 : Int32)) X0 hx hby d22_8 hret (by simp) (by first | decide | rfl) hlk (by decide) (by decide) ⟨rfl, N0, e0⟩
theorem ef_rmF5 (q1 : Addr) (m : MethodId) : entryFrame m #[.ref q1, .int (5 : Int32)] 2 = mkF m 0 #[.val (.ref q1), .val (.int (5 : Int32))] [] := by
  first | (simp [entryFrame, mkF, argsToLocals, Value.category]; done) | rfl
set_option maxRecDepth 65536 in
set_option maxHeartbeats 40000000 in
theorem rmF5 (l : Launch) (Z : State) (a0 : Array Value) (hw : ∀ d ∈ tables_1, d.before a0 Z = true) (ws : List Jvm.Cond) (q1 : Addr) (h0 : Heap) (n0 : Nat) (kq : ClassId) (vs : List Value) (A_q : Arv Z h0 q1 kq .byte (5 : Int32) vs (.int 0)) :
    Ctr l Z ({ cls := "java/lang/StringUTF16", name := "coderFromArrayLen", desc := "([BI)B" } : Jvm.MethodName) jdk_52_method_15_code 2 (some .byte) ws ({ frames := 0, cells := 0, slots := 0, locals := 0 } : Room) #[.ref q1, .int (5 : Int32)] h0 (fun v h L => v = some (.int (0 : Int32)) ∧ Fr n0 L ∧ h = h0) := by
  refine Ctr.enter (Ls := #[.val (.ref q1), .val (.int (5 : Int32))]) (by decide +kernel) (fun m => ef_rmF5 q1 m) ?_
  intro p e s m below meth c T hx hby hml hown hnm hret hlk hZ hh X0 e0
  have N0 := Fr.nil n0
  refine g_iloadN X0 hx hby d22_0 (pc' := 1) rfl rfl ?_
  refine g_aloadN X0 hx hby d22_1 (pc' := 2) rfl rfl rfl ?_
  refine g_alen X0 hx hZ hby d22_2 (pc' := 3) rfl e0 A_q ?_
  refine g_isub X0 hx hby d22_3 (pc' := 4) rfl ?_
  refine g_eqI (b := (0 : Int32)) (by decide +kernel) ?_
  refine g_bipush X0 hx hby d22_4 (pc' := 6) rfl (z := (31 : Int32)) rfl ?_
  refine g_iushr X0 hx hby d22_6 (pc' := 7) rfl ?_
  refine g_eqI (b := (0 : Int32)) (by decide +kernel) ?_
  refine g_i2b X0 hx hby d22_7 (pc' := 8) rfl ?_
  refine g_eqI (b := (0 : Int32)) (by decide +kernel) ?_
  exact g_retN (Q := (fun v h L => v = some (.int (0 : Int32)) ∧ Fr n0 L ∧ h = h0)) (w := (0 : Int32)) X0 hx hby d22_8 hret (by simp) (by first | decide | rfl) hlk (by decide) (by decide) ⟨rfl, N0, e0⟩
theorem ef_rmF6 (q1 : Addr) (m : MethodId) : entryFrame m #[.ref q1, .int (6 : Int32)] 2 = mkF m 0 #[.val (.ref q1), .val (.int (6 : Int32))] [] := by
  first | (simp [entryFrame, mkF, argsToLocals, Value.category]; done) | rfl
set_option maxRecDepth 65536 in
set_option maxHeartbeats 40000000 in
theorem rmF6 (l : Launch) (Z : State) (a0 : Array Value) (hw : ∀ d ∈ tables_1, d.before a0 Z = true) (ws : List Jvm.Cond) (q1 : Addr) (h0 : Heap) (n0 : Nat) (kq : ClassId) (vs : List Value) (A_q : Arv Z h0 q1 kq .byte (6 : Int32) vs (.int 0)) :
    Ctr l Z ({ cls := "java/lang/StringUTF16", name := "coderFromArrayLen", desc := "([BI)B" } : Jvm.MethodName) jdk_52_method_15_code 2 (some .byte) ws ({ frames := 0, cells := 0, slots := 0, locals := 0 } : Room) #[.ref q1, .int (6 : Int32)] h0 (fun v h L => v = some (.int (0 : Int32)) ∧ Fr n0 L ∧ h = h0) := by
  refine Ctr.enter (Ls := #[.val (.ref q1), .val (.int (6 : Int32))]) (by decide +kernel) (fun m => ef_rmF6 q1 m) ?_
  intro p e s m below meth c T hx hby hml hown hnm hret hlk hZ hh X0 e0
  have N0 := Fr.nil n0
  refine g_iloadN X0 hx hby d22_0 (pc' := 1) rfl rfl ?_
  refine g_aloadN X0 hx hby d22_1 (pc' := 2) rfl rfl rfl ?_
  refine g_alen X0 hx hZ hby d22_2 (pc' := 3) rfl e0 A_q ?_
  refine g_isub X0 hx hby d22_3 (pc' := 4) rfl ?_
  refine g_eqI (b := (0 : Int32)) (by decide +kernel) ?_
  refine g_bipush X0 hx hby d22_4 (pc' := 6) rfl (z := (31 : Int32)) rfl ?_
  refine g_iushr X0 hx hby d22_6 (pc' := 7) rfl ?_
  refine g_eqI (b := (0 : Int32)) (by decide +kernel) ?_
  refine g_i2b X0 hx hby d22_7 (pc' := 8) rfl ?_
  refine g_eqI (b := (0 : Int32)) (by decide +kernel) ?_
  exact g_retN (Q := (fun v h L => v = some (.int (0 : Int32)) ∧ Fr n0 L ∧ h = h0)) (w := (0 : Int32)) X0 hx hby d22_8 hret (by simp) (by first | decide | rfl) hlk (by decide) (by decide) ⟨rfl, N0, e0⟩
theorem ef_rmF7 (q1 : Addr) (m : MethodId) : entryFrame m #[.ref q1, .int (7 : Int32)] 2 = mkF m 0 #[.val (.ref q1), .val (.int (7 : Int32))] [] := by
  first | (simp [entryFrame, mkF, argsToLocals, Value.category]; done) | rfl
set_option maxRecDepth 65536 in
set_option maxHeartbeats 40000000 in
theorem rmF7 (l : Launch) (Z : State) (a0 : Array Value) (hw : ∀ d ∈ tables_1, d.before a0 Z = true) (ws : List Jvm.Cond) (q1 : Addr) (h0 : Heap) (n0 : Nat) (kq : ClassId) (vs : List Value) (A_q : Arv Z h0 q1 kq .byte (7 : Int32) vs (.int 0)) :
    Ctr l Z ({ cls := "java/lang/StringUTF16", name := "coderFromArrayLen", desc := "([BI)B" } : Jvm.MethodName) jdk_52_method_15_code 2 (some .byte) ws ({ frames := 0, cells := 0, slots := 0, locals := 0 } : Room) #[.ref q1, .int (7 : Int32)] h0 (fun v h L => v = some (.int (0 : Int32)) ∧ Fr n0 L ∧ h = h0) := by
  refine Ctr.enter (Ls := #[.val (.ref q1), .val (.int (7 : Int32))]) (by decide +kernel) (fun m => ef_rmF7 q1 m) ?_
  intro p e s m below meth c T hx hby hml hown hnm hret hlk hZ hh X0 e0
  have N0 := Fr.nil n0
  refine g_iloadN X0 hx hby d22_0 (pc' := 1) rfl rfl ?_
  refine g_aloadN X0 hx hby d22_1 (pc' := 2) rfl rfl rfl ?_
  refine g_alen X0 hx hZ hby d22_2 (pc' := 3) rfl e0 A_q ?_
  refine g_isub X0 hx hby d22_3 (pc' := 4) rfl ?_
  refine g_eqI (b := (0 : Int32)) (by decide +kernel) ?_
  refine g_bipush X0 hx hby d22_4 (pc' := 6) rfl (z := (31 : Int32)) rfl ?_
  refine g_iushr X0 hx hby d22_6 (pc' := 7) rfl ?_
  refine g_eqI (b := (0 : Int32)) (by decide +kernel) ?_
  refine g_i2b X0 hx hby d22_7 (pc' := 8) rfl ?_
  refine g_eqI (b := (0 : Int32)) (by decide +kernel) ?_
  exact g_retN (Q := (fun v h L => v = some (.int (0 : Int32)) ∧ Fr n0 L ∧ h = h0)) (w := (0 : Int32)) X0 hx hby d22_8 hret (by simp) (by first | decide | rfl) hlk (by decide) (by decide) ⟨rfl, N0, e0⟩
theorem ef_rmS41 (q1 : Addr) (q2 : Addr) (m : MethodId) : entryFrame m #[.ref q1, .ref q2, .int (0 : Int32), .int (1 : Int32), .null] 6 = mkF m 0 #[.val (.ref q1), .val (.ref q2), .val (.int (0 : Int32)), .val (.int (1 : Int32)), .val (.null), .unset] [] := by
  first | (simp [entryFrame, mkF, argsToLocals, Value.category]; done) | rfl
set_option maxRecDepth 65536 in
set_option maxHeartbeats 40000000 in
theorem rmS41 (l : Launch) (Z : State) (a0 : Array Value) (hw : ∀ d ∈ tables_1, d.before a0 Z = true) (ws : List Jvm.Cond) (q1 : Addr) (q2 : Addr) (h0 : Heap) (n0 : Nat) (x0 : Int32) (kc : ClassId) (A_c : Arv Z h0 q2 kc .char (1 : Int32) [.int x0] (.int 0)) (hx0 : BY x0) (Z0 : n0 ≤ h0.size) (E_a : Exa Z h0 q1 "java/lang/String") (F_v : Fld Z h0 q1 "java/lang/String" "value" "[B" (.null)) (F_c : Fld Z h0 q1 "java/lang/String" "coder" "B" (.int (0 : Int32))) (n_c : q2 ≠ q1) (g_a : n0 ≤ q1) (cs : Int32) (fm : Value) (SS : SSt Z cs fm) (O0 : Old Z n0 h0) :
    Ctr l Z ({ cls := "java/lang/String", name := "<init>", desc := "([CIILjava/lang/Void;)V" } : Jvm.MethodName) jdk_42_method_149_code 6 none ws ({ frames := 2, cells := 1, slots := 7, locals := 35 } : Room) #[.ref q1, .ref q2, .int (0 : Int32), .int (1 : Int32), .null] h0 (fun v h L => ∃ (b : Addr) (k : ClassId), v = none ∧ Fr n0 L ∧ Keep h0 h [q1] ∧ Exa Z h q1 "java/lang/String" ∧ Fld Z h q1 "java/lang/String" "value" "[B" (.ref b) ∧ Fld Z h q1 "java/lang/String" "coder" "B" (.int (0 : Int32)) ∧ Arv Z h b k .byte (1 : Int32) [.int (lat x0)] (.int 0)) := by
  refine Ctr.enter (Ls := #[.val (.ref q1), .val (.ref q2), .val (.int (0 : Int32)), .val (.int (1 : Int32)), .val (.null), .unset]) (by decide +kernel) (fun m => ef_rmS41 q1 q2 m) ?_
  intro p e s m below meth c T hx hby hml hown hnm hret hlk hZ hh X0 e0
  have N0 := Fr.nil n0
  refine g_aloadN X0 hx hby d3_0 (pc' := 1) rfl rfl rfl ?_
  obtain ⟨T1, X1, e1, st1⟩ := initO X0 hx hZ hown (w_22 hw) (w_23 hw) (w_24 hw) e0 (g := (mkF m 1 #[.val (.ref q1), .val (.ref q2), .val (.int (0 : Int32)), .val (.int (1 : Int32)), .val (.null), .unset] [.ref q1])) rfl (by rw [hml]; rfl) rfl (hb hby d3_1) (by decide) (W := 0) (by show 2 * 0 + _ ≤ _; exact Nat.le_of_eq rfl) (by decide)
  refine GoE.pull (b := T1.setTop (mkF m 4 #[.val (.ref q1), .val (.ref q2), .val (.int (0 : Int32)), .val (.int (1 : Int32)), .val (.null), .unset] [])) ?_ st1
  refine g_iloadN X1 hx hby d3_4 (pc' := 5) rfl rfl ?_
  refine g_if_ne X1 hx hby d3_5 (by decide) (pc' := 27) (by decide) (pn := 8) rfl (fun _ => ?_) (fun z => absurd z (by decide))
  refine g_getS X1 hx hZ hown hby d3_27 (pc' := 30) rfl (w_61 hw) e1 (SS.2.1.ext O0.2) ?_
  intro T2 X2 e2
  refine g_if_eq X2 hx hby d3_30 (by decide) (pc' := 58) (by decide) (pn := 33) rfl (fun z => absurd z SS.1) (fun hc30_3 => ?_)
  refine g_aloadN X2 hx hby d3_33 (pc' := 34) rfl rfl rfl ?_
  refine g_iloadN X2 hx hby d3_34 (pc' := 35) rfl rfl ?_
  refine g_iloadN X2 hx hby d3_35 (pc' := 36) rfl rfl ?_
  refine g_callS X2 hx hZ hown (W := 0) (argsL := [.ref q2, .int (0 : Int32), .int (1 : Int32)]) (rest := []) hby d3_36 (pc' := 39) rfl (by rw [hml]; rfl) (w_119 hw) (w_120 hw) (w_121 hw) (w_122 hw) (by decide) (rmC31 l Z a0 hw [] q2 h0 n0 x0 _ A_c hx0 Z0) e2 (by decide) (by decide) (by decide) (by decide) rfl pd__28_5bCII_29_5bB rfl rfl (Nat.le_of_eq rfl) ?_
  rintro _ T4 L4 X4 (⟨b4, k4, rfl, N4q, K4, G4, A4⟩)
  · have N4 := Fr.app N0 N4q
    have nb4_q1 : q1 ≠ b4 := Nat.ne_of_lt (Nat.lt_of_lt_of_le E_a.lt G4)
    have nb4_q2 : q2 ≠ b4 := Nat.ne_of_lt (Nat.lt_of_lt_of_le A_c.lt G4)
    have O4 := O0.keep K4 all0
    have Z4 := Nat.le_trans Z0 K4.1
    have E4_q1 := E_a.keep K4
    have A4_q2 := A_c.keep K4 nin0
    have K4t := (Keep.refl h0 [q1]).trans K4 all0
    have F4_q1_value := F_v.keep K4 nin0
    have F4_q1_coder := F_c.keep K4 nin0
    show GoE p e below _ (T4.setTop (mkF m 39 #[.val (.ref q1), .val (.ref q2), .val (.int (0 : Int32)), .val (.int (1 : Int32)), .val (.null), .unset] [.ref b4]))
    refine g_astore X4 hx hby d3_39 (pc' := 41) rfl rfl (l' := #[.val (.ref q1), .val (.ref q2), .val (.int (0 : Int32)), .val (.int (1 : Int32)), .val (.null), .val (.ref b4)]) rfl ?_
    refine g_aloadN X4 hx hby d3_41 (pc' := 42) rfl rfl rfl ?_
    refine g_aload X4 hx hby d3_42 (pc' := 44) rfl rfl rfl ?_
    refine g_iloadN X4 hx hby d3_44 (pc' := 45) rfl rfl ?_
    refine g_callS X4 hx hZ hown (W := 1) (argsL := [.ref b4, .int (1 : Int32)]) (rest := [.ref q1]) hby d3_45 (pc' := 48) rfl (by rw [hml]; rfl) (w_126 hw) (w_127 hw) (w_121 hw) (w_128 hw) (by decide) (rmF1 l Z a0 hw [] b4 T4.heap n0 _ _ A4) rfl (by decide) (by decide) (by decide) (by decide) rfl pd__28_5bBI_29B rfl rfl (Nat.le_of_eq rfl) ?_
    rintro _ T5 L5 X5 ⟨rfl, N5q, e5⟩
    have N5 := Fr.app N4 N5q
    show GoE p e below _ (T5.setTop (mkF m 48 #[.val (.ref q1), .val (.ref q2), .val (.int (0 : Int32)), .val (.int (1 : Int32)), .val (.null), .val (.ref b4)] [.int (0 : Int32), .ref q1]))
    refine g_put X5 hx hZ hown hby d3_48 (pc' := 51) rfl (w_27 hw) e5 F4_q1_coder E4_q1 (Or.inr ⟨(w_6 hw), rfl, hnm⟩) (w_3 hw) (ty := .byte) (by decide) rfl rfl ?_
    intro T6 X6 W6
    have N6 := Fr.snoc X6 N5 g_a
    have O6 := O4.wr W6 g_a
    have Z6 : n0 ≤ T6.heap.size := (W6.size ▸ Z4)
    have E6_q1 := E4_q1.wr W6
    have A6_q2 := A4_q2.other W6 n_c
    have K6 := K4t.wr W6 (Or.inl (List.mem_of_getElem? (i := 0) rfl))
    have F6_q1_value := F4_q1_value.other W6 (Or.inr (slot_ne (Or.inr (w_5 hw)) (Or.inr (w_6 hw)) (by decide) (t := (.array .byte)) (t' := .byte) (by decide) (by decide)))
    have F6_q1_coder := F4_q1_coder.same W6
    have A6_b4 := A4.other W6 nb4_q1.symm
    refine g_aloadN X6 hx hby d3_51 (pc' := 52) rfl rfl rfl ?_
    refine g_aload X6 hx hby d3_52 (pc' := 54) rfl rfl rfl ?_
    refine g_put X6 hx hZ hown hby d3_54 (pc' := 57) rfl (w_26 hw) rfl F6_q1_value E6_q1 (Or.inr ⟨(w_5 hw), rfl, hnm⟩) (w_3 hw) (ty := (.array .byte)) (by decide) rfl rfl ?_
    intro T7 X7 W7
    have N7 := Fr.snoc X7 N6 g_a
    have O7 := O6.wr W7 g_a
    have Z7 : n0 ≤ T7.heap.size := (W7.size ▸ Z6)
    have E7_q1 := E6_q1.wr W7
    have A7_q2 := A6_q2.other W7 n_c
    have K7 := K6.wr W7 (Or.inl (List.mem_of_getElem? (i := 0) rfl))
    have F7_q1_value := F6_q1_value.same W7
    have F7_q1_coder := F6_q1_coder.other W7 (Or.inr (slot_ne (Or.inr (w_6 hw)) (Or.inr (w_5 hw)) (by decide) (t := .byte) (t' := (.array .byte)) (by decide) (by decide)))
    have A7_b4 := A6_b4.other W7 nb4_q1.symm
    exact g_retV (Q := (fun v h L => ∃ (b : Addr) (k : ClassId), v = none ∧ Fr n0 L ∧ Keep h0 h [q1] ∧ Exa Z h q1 "java/lang/String" ∧ Fld Z h q1 "java/lang/String" "value" "[B" (.ref b) ∧ Fld Z h q1 "java/lang/String" "coder" "B" (.int (0 : Int32)) ∧ Arv Z h b k .byte (1 : Int32) [.int (lat x0)] (.int 0))) X7 hx hby d3_57 hret hlk (by decide) (by decide) ⟨b4, k4, rfl, N7, K7, E7_q1, F7_q1_value, F7_q1_coder, A7_b4⟩
theorem ef_rmS42 (q1 : Addr) (q2 : Addr) (m : MethodId) : entryFrame m #[.ref q1, .ref q2, .int (0 : Int32), .int (2 : Int32), .null] 6 = mkF m 0 #[.val (.ref q1), .val (.ref q2), .val (.int (0 : Int32)), .val (.int (2 : Int32)), .val (.null), .unset] [] := by
  first | (simp [entryFrame, mkF, argsToLocals, Value.category]; done) | rfl
set_option maxRecDepth 65536 in
set_option maxHeartbeats 40000000 in
theorem rmS42 (l : Launch) (Z : State) (a0 : Array Value) (hw : ∀ d ∈ tables_1, d.before a0 Z = true) (ws : List Jvm.Cond) (q1 : Addr) (q2 : Addr) (h0 : Heap) (n0 : Nat) (x0 x1 : Int32) (kc : ClassId) (A_c : Arv Z h0 q2 kc .char (2 : Int32) [.int x0, .int x1] (.int 0)) (hx0 : BY x0) (hx1 : BY x1) (Z0 : n0 ≤ h0.size) (E_a : Exa Z h0 q1 "java/lang/String") (F_v : Fld Z h0 q1 "java/lang/String" "value" "[B" (.null)) (F_c : Fld Z h0 q1 "java/lang/String" "coder" "B" (.int (0 : Int32))) (n_c : q2 ≠ q1) (g_a : n0 ≤ q1) (cs : Int32) (fm : Value) (SS : SSt Z cs fm) (O0 : Old Z n0 h0) :
    Ctr l Z ({ cls := "java/lang/String", name := "<init>", desc := "([CIILjava/lang/Void;)V" } : Jvm.MethodName) jdk_42_method_149_code 6 none ws ({ frames := 2, cells := 1, slots := 7, locals := 35 } : Room) #[.ref q1, .ref q2, .int (0 : Int32), .int (2 : Int32), .null] h0 (fun v h L => ∃ (b : Addr) (k : ClassId), v = none ∧ Fr n0 L ∧ Keep h0 h [q1] ∧ Exa Z h q1 "java/lang/String" ∧ Fld Z h q1 "java/lang/String" "value" "[B" (.ref b) ∧ Fld Z h q1 "java/lang/String" "coder" "B" (.int (0 : Int32)) ∧ Arv Z h b k .byte (2 : Int32) [.int (lat x0), .int (lat x1)] (.int 0)) := by
  refine Ctr.enter (Ls := #[.val (.ref q1), .val (.ref q2), .val (.int (0 : Int32)), .val (.int (2 : Int32)), .val (.null), .unset]) (by decide +kernel) (fun m => ef_rmS42 q1 q2 m) ?_
  intro p e s m below meth c T hx hby hml hown hnm hret hlk hZ hh X0 e0
  have N0 := Fr.nil n0
  refine g_aloadN X0 hx hby d3_0 (pc' := 1) rfl rfl rfl ?_
  obtain ⟨T1, X1, e1, st1⟩ := initO X0 hx hZ hown (w_22 hw) (w_23 hw) (w_24 hw) e0 (g := (mkF m 1 #[.val (.ref q1), .val (.ref q2), .val (.int (0 : Int32)), .val (.int (2 : Int32)), .val (.null), .unset] [.ref q1])) rfl (by rw [hml]; rfl) rfl (hb hby d3_1) (by decide) (W := 0) (by show 2 * 0 + _ ≤ _; exact Nat.le_of_eq rfl) (by decide)
  refine GoE.pull (b := T1.setTop (mkF m 4 #[.val (.ref q1), .val (.ref q2), .val (.int (0 : Int32)), .val (.int (2 : Int32)), .val (.null), .unset] [])) ?_ st1
  refine g_iloadN X1 hx hby d3_4 (pc' := 5) rfl rfl ?_
  refine g_if_ne X1 hx hby d3_5 (by decide) (pc' := 27) (by decide) (pn := 8) rfl (fun _ => ?_) (fun z => absurd z (by decide))
  refine g_getS X1 hx hZ hown hby d3_27 (pc' := 30) rfl (w_61 hw) e1 (SS.2.1.ext O0.2) ?_
  intro T2 X2 e2
  refine g_if_eq X2 hx hby d3_30 (by decide) (pc' := 58) (by decide) (pn := 33) rfl (fun z => absurd z SS.1) (fun hc30_3 => ?_)
  refine g_aloadN X2 hx hby d3_33 (pc' := 34) rfl rfl rfl ?_
  refine g_iloadN X2 hx hby d3_34 (pc' := 35) rfl rfl ?_
  refine g_iloadN X2 hx hby d3_35 (pc' := 36) rfl rfl ?_
  refine g_callS X2 hx hZ hown (W := 0) (argsL := [.ref q2, .int (0 : Int32), .int (2 : Int32)]) (rest := []) hby d3_36 (pc' := 39) rfl (by rw [hml]; rfl) (w_119 hw) (w_120 hw) (w_121 hw) (w_122 hw) (by decide) (rmC32 l Z a0 hw [] q2 h0 n0 x0 x1 _ A_c hx0 hx1 Z0) e2 (by decide) (by decide) (by decide) (by decide) rfl pd__28_5bCII_29_5bB rfl rfl (Nat.le_of_eq rfl) ?_
  rintro _ T4 L4 X4 (⟨b4, k4, rfl, N4q, K4, G4, A4⟩)
  · have N4 := Fr.app N0 N4q
    have nb4_q1 : q1 ≠ b4 := Nat.ne_of_lt (Nat.lt_of_lt_of_le E_a.lt G4)
    have nb4_q2 : q2 ≠ b4 := Nat.ne_of_lt (Nat.lt_of_lt_of_le A_c.lt G4)
    have O4 := O0.keep K4 all0
    have Z4 := Nat.le_trans Z0 K4.1
    have E4_q1 := E_a.keep K4
    have A4_q2 := A_c.keep K4 nin0
    have K4t := (Keep.refl h0 [q1]).trans K4 all0
    have F4_q1_value := F_v.keep K4 nin0
    have F4_q1_coder := F_c.keep K4 nin0
    show GoE p e below _ (T4.setTop (mkF m 39 #[.val (.ref q1), .val (.ref q2), .val (.int (0 : Int32)), .val (.int (2 : Int32)), .val (.null), .unset] [.ref b4]))
    refine g_astore X4 hx hby d3_39 (pc' := 41) rfl rfl (l' := #[.val (.ref q1), .val (.ref q2), .val (.int (0 : Int32)), .val (.int (2 : Int32)), .val (.null), .val (.ref b4)]) rfl ?_
    refine g_aloadN X4 hx hby d3_41 (pc' := 42) rfl rfl rfl ?_
    refine g_aload X4 hx hby d3_42 (pc' := 44) rfl rfl rfl ?_
    refine g_iloadN X4 hx hby d3_44 (pc' := 45) rfl rfl ?_
    refine g_callS X4 hx hZ hown (W := 1) (argsL := [.ref b4, .int (2 : Int32)]) (rest := [.ref q1]) hby d3_45 (pc' := 48) rfl (by rw [hml]; rfl) (w_126 hw) (w_127 hw) (w_121 hw) (w_128 hw) (by decide) (rmF2 l Z a0 hw [] b4 T4.heap n0 _ _ A4) rfl (by decide) (by decide) (by decide) (by decide) rfl pd__28_5bBI_29B rfl rfl (Nat.le_of_eq rfl) ?_
    rintro _ T5 L5 X5 ⟨rfl, N5q, e5⟩
    have N5 := Fr.app N4 N5q
    show GoE p e below _ (T5.setTop (mkF m 48 #[.val (.ref q1), .val (.ref q2), .val (.int (0 : Int32)), .val (.int (2 : Int32)), .val (.null), .val (.ref b4)] [.int (0 : Int32), .ref q1]))
    refine g_put X5 hx hZ hown hby d3_48 (pc' := 51) rfl (w_27 hw) e5 F4_q1_coder E4_q1 (Or.inr ⟨(w_6 hw), rfl, hnm⟩) (w_3 hw) (ty := .byte) (by decide) rfl rfl ?_
    intro T6 X6 W6
    have N6 := Fr.snoc X6 N5 g_a
    have O6 := O4.wr W6 g_a
    have Z6 : n0 ≤ T6.heap.size := (W6.size ▸ Z4)
    have E6_q1 := E4_q1.wr W6
    have A6_q2 := A4_q2.other W6 n_c
    have K6 := K4t.wr W6 (Or.inl (List.mem_of_getElem? (i := 0) rfl))
    have F6_q1_value := F4_q1_value.other W6 (Or.inr (slot_ne (Or.inr (w_5 hw)) (Or.inr (w_6 hw)) (by decide) (t := (.array .byte)) (t' := .byte) (by decide) (by decide)))
    have F6_q1_coder := F4_q1_coder.same W6
    have A6_b4 := A4.other W6 nb4_q1.symm
    refine g_aloadN X6 hx hby d3_51 (pc' := 52) rfl rfl rfl ?_
    refine g_aload X6 hx hby d3_52 (pc' := 54) rfl rfl rfl ?_
    refine g_put X6 hx hZ hown hby d3_54 (pc' := 57) rfl (w_26 hw) rfl F6_q1_value E6_q1 (Or.inr ⟨(w_5 hw), rfl, hnm⟩) (w_3 hw) (ty := (.array .byte)) (by decide) rfl rfl ?_
    intro T7 X7 W7
    have N7 := Fr.snoc X7 N6 g_a
    have O7 := O6.wr W7 g_a
    have Z7 : n0 ≤ T7.heap.size := (W7.size ▸ Z6)
    have E7_q1 := E6_q1.wr W7
    have A7_q2 := A6_q2.other W7 n_c
    have K7 := K6.wr W7 (Or.inl (List.mem_of_getElem? (i := 0) rfl))
    have F7_q1_value := F6_q1_value.same W7
    have F7_q1_coder := F6_q1_coder.other W7 (Or.inr (slot_ne (Or.inr (w_6 hw)) (Or.inr (w_5 hw)) (by decide) (t := .byte) (t' := (.array .byte)) (by decide) (by decide)))
    have A7_b4 := A6_b4.other W7 nb4_q1.symm
    exact g_retV (Q := (fun v h L => ∃ (b : Addr) (k : ClassId), v = none ∧ Fr n0 L ∧ Keep h0 h [q1] ∧ Exa Z h q1 "java/lang/String" ∧ Fld Z h q1 "java/lang/String" "value" "[B" (.ref b) ∧ Fld Z h q1 "java/lang/String" "coder" "B" (.int (0 : Int32)) ∧ Arv Z h b k .byte (2 : Int32) [.int (lat x0), .int (lat x1)] (.int 0))) X7 hx hby d3_57 hret hlk (by decide) (by decide) ⟨b4, k4, rfl, N7, K7, E7_q1, F7_q1_value, F7_q1_coder, A7_b4⟩
theorem ef_rmS43 (q1 : Addr) (q2 : Addr) (m : MethodId) : entryFrame m #[.ref q1, .ref q2, .int (0 : Int32), .int (3 : Int32), .null] 6 = mkF m 0 #[.val (.ref q1), .val (.ref q2), .val (.int (0 : Int32)), .val (.int (3 : Int32)), .val (.null), .unset] [] := by
  first | (simp [entryFrame, mkF, argsToLocals, Value.category]; done) | rfl
set_option maxRecDepth 65536 in
set_option maxHeartbeats 40000000 in
theorem rmS43 (l : Launch) (Z : State) (a0 : Array Value) (hw : ∀ d ∈ tables_1, d.before a0 Z = true) (ws : List Jvm.Cond) (q1 : Addr) (q2 : Addr) (h0 : Heap) (n0 : Nat) (x0 x1 x2 : Int32) (kc : ClassId) (A_c : Arv Z h0 q2 kc .char (3 : Int32) [.int x0, .int x1, .int x2] (.int 0)) (hx0 : BY x0) (hx1 : BY x1) (hx2 : BY x2) (Z0 : n0 ≤ h0.size) (E_a : Exa Z h0 q1 "java/lang/String") (F_v : Fld Z h0 q1 "java/lang/String" "value" "[B" (.null)) (F_c : Fld Z h0 q1 "java/lang/String" "coder" "B" (.int (0 : Int32))) (n_c : q2 ≠ q1) (g_a : n0 ≤ q1) (cs : Int32) (fm : Value) (SS : SSt Z cs fm) (O0 : Old Z n0 h0) :
    Ctr l Z ({ cls := "java/lang/String", name := "<init>", desc := "([CIILjava/lang/Void;)V" } : Jvm.MethodName) jdk_42_method_149_code 6 none ws ({ frames := 2, cells := 1, slots := 7, locals := 35 } : Room) #[.ref q1, .ref q2, .int (0 : Int32), .int (3 : Int32), .null] h0 (fun v h L => ∃ (b : Addr) (k : ClassId), v = none ∧ Fr n0 L ∧ Keep h0 h [q1] ∧ Exa Z h q1 "java/lang/String" ∧ Fld Z h q1 "java/lang/String" "value" "[B" (.ref b) ∧ Fld Z h q1 "java/lang/String" "coder" "B" (.int (0 : Int32)) ∧ Arv Z h b k .byte (3 : Int32) [.int (lat x0), .int (lat x1), .int (lat x2)] (.int 0)) := by
  refine Ctr.enter (Ls := #[.val (.ref q1), .val (.ref q2), .val (.int (0 : Int32)), .val (.int (3 : Int32)), .val (.null), .unset]) (by decide +kernel) (fun m => ef_rmS43 q1 q2 m) ?_
  intro p e s m below meth c T hx hby hml hown hnm hret hlk hZ hh X0 e0
  have N0 := Fr.nil n0
  refine g_aloadN X0 hx hby d3_0 (pc' := 1) rfl rfl rfl ?_
  obtain ⟨T1, X1, e1, st1⟩ := initO X0 hx hZ hown (w_22 hw) (w_23 hw) (w_24 hw) e0 (g := (mkF m 1 #[.val (.ref q1), .val (.ref q2), .val (.int (0 : Int32)), .val (.int (3 : Int32)), .val (.null), .unset] [.ref q1])) rfl (by rw [hml]; rfl) rfl (hb hby d3_1) (by decide) (W := 0) (by show 2 * 0 + _ ≤ _; exact Nat.le_of_eq rfl) (by decide)
  refine GoE.pull (b := T1.setTop (mkF m 4 #[.val (.ref q1), .val (.ref q2), .val (.int (0 : Int32)), .val (.int (3 : Int32)), .val (.null), .unset] [])) ?_ st1
  refine g_iloadN X1 hx hby d3_4 (pc' := 5) rfl rfl ?_
  refine g_if_ne X1 hx hby d3_5 (by decide) (pc' := 27) (by decide) (pn := 8) rfl (fun _ => ?_) (fun z => absurd z (by decide))
  refine g_getS X1 hx hZ hown hby d3_27 (pc' := 30) rfl (w_61 hw) e1 (SS.2.1.ext O0.2) ?_
  intro T2 X2 e2
  refine g_if_eq X2 hx hby d3_30 (by decide) (pc' := 58) (by decide) (pn := 33) rfl (fun z => absurd z SS.1) (fun hc30_3 => ?_)
  refine g_aloadN X2 hx hby d3_33 (pc' := 34) rfl rfl rfl ?_
  refine g_iloadN X2 hx hby d3_34 (pc' := 35) rfl rfl ?_
  refine g_iloadN X2 hx hby d3_35 (pc' := 36) rfl rfl ?_
  refine g_callS X2 hx hZ hown (W := 0) (argsL := [.ref q2, .int (0 : Int32), .int (3 : Int32)]) (rest := []) hby d3_36 (pc' := 39) rfl (by rw [hml]; rfl) (w_119 hw) (w_120 hw) (w_121 hw) (w_122 hw) (by decide) (rmC33 l Z a0 hw [] q2 h0 n0 x0 x1 x2 _ A_c hx0 hx1 hx2 Z0) e2 (by decide) (by decide) (by decide) (by decide) rfl pd__28_5bCII_29_5bB rfl rfl (Nat.le_of_eq rfl) ?_
  rintro _ T4 L4 X4 (⟨b4, k4, rfl, N4q, K4, G4, A4⟩)
  · have N4 := Fr.app N0 N4q
    have nb4_q1 : q1 ≠ b4 := Nat.ne_of_lt (Nat.lt_of_lt_of_le E_a.lt G4)
    have nb4_q2 : q2 ≠ b4 := Nat.ne_of_lt (Nat.lt_of_lt_of_le A_c.lt G4)
    have O4 := O0.keep K4 all0
    have Z4 := Nat.le_trans Z0 K4.1
    have E4_q1 := E_a.keep K4
    have A4_q2 := A_c.keep K4 nin0
    have K4t := (Keep.refl h0 [q1]).trans K4 all0
    have F4_q1_value := F_v.keep K4 nin0
    have F4_q1_coder := F_c.keep K4 nin0
    show GoE p e below _ (T4.setTop (mkF m 39 #[.val (.ref q1), .val (.ref q2), .val (.int (0 : Int32)), .val (.int (3 : Int32)), .val (.null), .unset] [.ref b4]))
    refine g_astore X4 hx hby d3_39 (pc' := 41) rfl rfl (l' := #[.val (.ref q1), .val (.ref q2), .val (.int (0 : Int32)), .val (.int (3 : Int32)), .val (.null), .val (.ref b4)]) rfl ?_
    refine g_aloadN X4 hx hby d3_41 (pc' := 42) rfl rfl rfl ?_
    refine g_aload X4 hx hby d3_42 (pc' := 44) rfl rfl rfl ?_
    refine g_iloadN X4 hx hby d3_44 (pc' := 45) rfl rfl ?_
    refine g_callS X4 hx hZ hown (W := 1) (argsL := [.ref b4, .int (3 : Int32)]) (rest := [.ref q1]) hby d3_45 (pc' := 48) rfl (by rw [hml]; rfl) (w_126 hw) (w_127 hw) (w_121 hw) (w_128 hw) (by decide) (rmF3 l Z a0 hw [] b4 T4.heap n0 _ _ A4) rfl (by decide) (by decide) (by decide) (by decide) rfl pd__28_5bBI_29B rfl rfl (Nat.le_of_eq rfl) ?_
    rintro _ T5 L5 X5 ⟨rfl, N5q, e5⟩
    have N5 := Fr.app N4 N5q
    show GoE p e below _ (T5.setTop (mkF m 48 #[.val (.ref q1), .val (.ref q2), .val (.int (0 : Int32)), .val (.int (3 : Int32)), .val (.null), .val (.ref b4)] [.int (0 : Int32), .ref q1]))
    refine g_put X5 hx hZ hown hby d3_48 (pc' := 51) rfl (w_27 hw) e5 F4_q1_coder E4_q1 (Or.inr ⟨(w_6 hw), rfl, hnm⟩) (w_3 hw) (ty := .byte) (by decide) rfl rfl ?_
    intro T6 X6 W6
    have N6 := Fr.snoc X6 N5 g_a
    have O6 := O4.wr W6 g_a
    have Z6 : n0 ≤ T6.heap.size := (W6.size ▸ Z4)
    have E6_q1 := E4_q1.wr W6
    have A6_q2 := A4_q2.other W6 n_c
    have K6 := K4t.wr W6 (Or.inl (List.mem_of_getElem? (i := 0) rfl))
    have F6_q1_value := F4_q1_value.other W6 (Or.inr (slot_ne (Or.inr (w_5 hw)) (Or.inr (w_6 hw)) (by decide) (t := (.array .byte)) (t' := .byte) (by decide) (by decide)))
    have F6_q1_coder := F4_q1_coder.same W6
    have A6_b4 := A4.other W6 nb4_q1.symm
    refine g_aloadN X6 hx hby d3_51 (pc' := 52) rfl rfl rfl ?_
    refine g_aload X6 hx hby d3_52 (pc' := 54) rfl rfl rfl ?_
    refine g_put X6 hx hZ hown hby d3_54 (pc' := 57) rfl (w_26 hw) rfl F6_q1_value E6_q1 (Or.inr ⟨(w_5 hw), rfl, hnm⟩) (w_3 hw) (ty := (.array .byte)) (by decide) rfl rfl ?_
    intro T7 X7 W7
    have N7 := Fr.snoc X7 N6 g_a
    have O7 := O6.wr W7 g_a
    have Z7 : n0 ≤ T7.heap.size := (W7.size ▸ Z6)
    have E7_q1 := E6_q1.wr W7
    have A7_q2 := A6_q2.other W7 n_c
    have K7 := K6.wr W7 (Or.inl (List.mem_of_getElem? (i := 0) rfl))
    have F7_q1_value := F6_q1_value.same W7
    have F7_q1_coder := F6_q1_coder.other W7 (Or.inr (slot_ne (Or.inr (w_6 hw)) (Or.inr (w_5 hw)) (by decide) (t := .byte) (t' := (.array .byte)) (by decide) (by decide)))
    have A7_b4 := A6_b4.other W7 nb4_q1.symm
    exact g_retV (Q := (fun v h L => ∃ (b : Addr) (k : ClassId), v = none ∧ Fr n0 L ∧ Keep h0 h [q1] ∧ Exa Z h q1 "java/lang/String" ∧ Fld Z h q1 "java/lang/String" "value" "[B" (.ref b) ∧ Fld Z h q1 "java/lang/String" "coder" "B" (.int (0 : Int32)) ∧ Arv Z h b k .byte (3 : Int32) [.int (lat x0), .int (lat x1), .int (lat x2)] (.int 0))) X7 hx hby d3_57 hret hlk (by decide) (by decide) ⟨b4, k4, rfl, N7, K7, E7_q1, F7_q1_value, F7_q1_coder, A7_b4⟩
theorem ef_rmS44 (q1 : Addr) (q2 : Addr) (m : MethodId) : entryFrame m #[.ref q1, .ref q2, .int (0 : Int32), .int (4 : Int32), .null] 6 = mkF m 0 #[.val (.ref q1), .val (.ref q2), .val (.int (0 : Int32)), .val (.int (4 : Int32)), .val (.null), .unset] [] := by
  first | (simp [entryFrame, mkF, argsToLocals, Value.category]; done) | rfl
set_option maxRecDepth 65536 in
set_option maxHeartbeats 40000000 in
theorem rmS44 (l : Launch) (Z : State) (a0 : Array Value) (hw : ∀ d ∈ tables_1, d.before a0 Z = true) (ws : List Jvm.Cond) (q1 : Addr) (q2 : Addr) (h0 : Heap) (n0 : Nat) (x0 x1 x2 x3 : Int32) (kc : ClassId) (A_c : Arv Z h0 q2 kc .char (4 : Int32) [.int x0, .int x1, .int x2, .int x3] (.int 0)) (hx0 : BY x0) (hx1 : BY x1) (hx2 : BY x2) (hx3 : BY x3) (Z0 : n0 ≤ h0.size) (E_a : Exa Z h0 q1 "java/lang/String") (F_v : Fld Z h0 q1 "java/lang/String" "value" "[B" (.null)) (F_c : Fld Z h0 q1 "java/lang/String" "coder" "B" (.int (0 : Int32))) (n_c : q2 ≠ q1) (g_a : n0 ≤ q1) (cs : Int32) (fm : Value) (SS : SSt Z cs fm) (O0 : Old Z n0 h0) :
    Ctr l Z ({ cls := "java/lang/String", name := "<init>", desc := "([CIILjava/lang/Void;)V" } : Jvm.MethodName) jdk_42_method_149_code 6 none ws ({ frames := 2, cells := 1, slots := 7, locals := 35 } : Room) #[.ref q1, .ref q2, .int (0 : Int32), .int (4 : Int32), .null] h0 (fun v h L => ∃ (b : Addr) (k : ClassId), v = none ∧ Fr n0 L ∧ Keep h0 h [q1] ∧ Exa Z h q1 "java/lang/String" ∧ Fld Z h q1 "java/lang/String" "value" "[B" (.ref b) ∧ Fld Z h q1 "java/lang/String" "coder" "B" (.int (0 : Int32)) ∧ Arv Z h b k .byte (4 : Int32) [.int (lat x0), .int (lat x1), .int (lat x2), .int (lat x3)] (.int 0)) := by
  refine Ctr.enter (Ls := #[.val (.ref q1), .val (.ref q2), .val (.int (0 : Int32)), .val (.int (4 : Int32)), .val (.null), .unset]) (by decide +kernel) (fun m => ef_rmS44 q1 q2 m) ?_
  intro p e s m below meth c T hx hby hml hown hnm hret hlk hZ hh X0 e0
  have N0 := Fr.nil n0
  refine g_aloadN X0 hx hby d3_0 (pc' := 1) rfl rfl rfl ?_
  obtain ⟨T1, X1, e1, st1⟩ := initO X0 hx hZ hown (w_22 hw) (w_23 hw) (w_24 hw) e0 (g := (mkF m 1 #[.val (.ref q1), .val (.ref q2), .val (.int (0 : Int32)), .val (.int (4 : Int32)), .val (.null), .unset] [.ref q1])) rfl (by rw [hml]; rfl) rfl (hb hby d3_1) (by decide) (W := 0) (by show 2 * 0 + _ ≤ _; exact Nat.le_of_eq rfl) (by decide)
  refine GoE.pull (b := T1.setTop (mkF m 4 #[.val (.ref q1), .val (.ref q2), .val (.int (0 : Int32)), .val (.int (4 : Int32)), .val (.null), .unset] [])) ?_ st1
  refine g_iloadN X1 hx hby d3_4 (pc' := 5) rfl rfl ?_
  refine g_if_ne X1 hx hby d3_5 (by decide) (pc' := 27) (by decide) (pn := 8) rfl (fun _ => ?_) (fun z => absurd z (by decide))
  refine g_getS X1 hx hZ hown hby d3_27 (pc' := 30) rfl (w_61 hw) e1 (SS.2.1.ext O0.2) ?_
  intro T2 X2 e2
  refine g_if_eq X2 hx hby d3_30 (by decide) (pc' := 58) (by decide) (pn := 33) rfl (fun z => absurd z SS.1) (fun hc30_3 => ?_)
  refine g_aloadN X2 hx hby d3_33 (pc' := 34) rfl rfl rfl ?_
  refine g_iloadN X2 hx hby d3_34 (pc' := 35) rfl rfl ?_
  refine g_iloadN X2 hx hby d3_35 (pc' := 36) rfl rfl ?_
  refine g_callS X2 hx hZ hown (W := 0) (argsL := [.ref q2, .int (0 : Int32), .int (4 : Int32)]) (rest := []) hby d3_36 (pc' := 39) rfl (by rw [hml]; rfl) (w_119 hw) (w_120 hw) (w_121 hw) (w_122 hw) (by decide) (rmC34 l Z a0 hw [] q2 h0 n0 x0 x1 x2 x3 _ A_c hx0 hx1 hx2 hx3 Z0) e2 (by decide) (by decide) (by decide) (by decide) rfl pd__28_5bCII_29_5bB rfl rfl (Nat.le_of_eq rfl) ?_
  rintro _ T4 L4 X4 (⟨b4, k4, rfl, N4q, K4, G4, A4⟩)
  · have N4 := Fr.app N0 N4q
    have nb4_q1 : q1 ≠ b4 := Nat.ne_of_lt (Nat.lt_of_lt_of_le E_a.lt G4)
    have nb4_q2 : q2 ≠ b4 := Nat.ne_of_lt (Nat.lt_of_lt_of_le A_c.lt G4)
    have O4 := O0.keep K4 all0
    have Z4 := Nat.le_trans Z0 K4.1
    have E4_q1 := E_a.keep K4
    have A4_q2 := A_c.keep K4 nin0
    have K4t := (Keep.refl h0 [q1]).trans K4 all0
    have F4_q1_value := F_v.keep K4 nin0
    have F4_q1_coder := F_c.keep K4 nin0
    show GoE p e below _ (T4.setTop (mkF m 39 #[.val (.ref q1), .val (.ref q2), .val (.int (0 : Int32)), .val (.int (4 : Int32)), .val (.null), .unset] [.ref b4]))
    refine g_astore X4 hx hby d3_39 (pc' := 41) rfl rfl (l' := #[.val (.ref q1), .val (.ref q2), .val (.int (0 : Int32)), .val (.int (4 : Int32)), .val (.null), .val (.ref b4)]) rfl ?_
    refine g_aloadN X4 hx hby d3_41 (pc' := 42) rfl rfl rfl ?_
    refine g_aload X4 hx hby d3_42 (pc' := 44) rfl rfl rfl ?_
    refine g_iloadN X4 hx hby d3_44 (pc' := 45) rfl rfl ?_
    refine g_callS X4 hx hZ hown (W := 1) (argsL := [.ref b4, .int (4 : Int32)]) (rest := [.ref q1]) hby d3_45 (pc' := 48) rfl (by rw [hml]; rfl) (w_126 hw) (w_127 hw) (w_121 hw) (w_128 hw) (by decide) (rmF4 l Z a0 hw [] b4 T4.heap n0 _ _ A4) rfl (by decide) (by decide) (by decide) (by decide) rfl pd__28_5bBI_29B rfl rfl (Nat.le_of_eq rfl) ?_
    rintro _ T5 L5 X5 ⟨rfl, N5q, e5⟩
    have N5 := Fr.app N4 N5q
    show GoE p e below _ (T5.setTop (mkF m 48 #[.val (.ref q1), .val (.ref q2), .val (.int (0 : Int32)), .val (.int (4 : Int32)), .val (.null), .val (.ref b4)] [.int (0 : Int32), .ref q1]))
    refine g_put X5 hx hZ hown hby d3_48 (pc' := 51) rfl (w_27 hw) e5 F4_q1_coder E4_q1 (Or.inr ⟨(w_6 hw), rfl, hnm⟩) (w_3 hw) (ty := .byte) (by decide) rfl rfl ?_
    intro T6 X6 W6
    have N6 := Fr.snoc X6 N5 g_a
    have O6 := O4.wr W6 g_a
    have Z6 : n0 ≤ T6.heap.size := (W6.size ▸ Z4)
    have E6_q1 := E4_q1.wr W6
    have A6_q2 := A4_q2.other W6 n_c
    have K6 := K4t.wr W6 (Or.inl (List.mem_of_getElem? (i := 0) rfl))
    have F6_q1_value := F4_q1_value.other W6 (Or.inr (slot_ne (Or.inr (w_5 hw)) (Or.inr (w_6 hw)) (by decide) (t := (.array .byte)) (t' := .byte) (by decide) (by decide)))
    have F6_q1_coder := F4_q1_coder.same W6
    have A6_b4 := A4.other W6 nb4_q1.symm
    refine g_aloadN X6 hx hby d3_51 (pc' := 52) rfl rfl rfl ?_
    refine g_aload X6 hx hby d3_52 (pc' := 54) rfl rfl rfl ?_
    refine g_put X6 hx hZ hown hby d3_54 (pc' := 57) rfl (w_26 hw) rfl F6_q1_value E6_q1 (Or.inr ⟨(w_5 hw), rfl, hnm⟩) (w_3 hw) (ty := (.array .byte)) (by decide) rfl rfl ?_
    intro T7 X7 W7
    have N7 := Fr.snoc X7 N6 g_a
    have O7 := O6.wr W7 g_a
    have Z7 : n0 ≤ T7.heap.size := (W7.size ▸ Z6)
    have E7_q1 := E6_q1.wr W7
    have A7_q2 := A6_q2.other W7 n_c
    have K7 := K6.wr W7 (Or.inl (List.mem_of_getElem? (i := 0) rfl))
    have F7_q1_value := F6_q1_value.same W7
    have F7_q1_coder := F6_q1_coder.other W7 (Or.inr (slot_ne (Or.inr (w_6 hw)) (Or.inr (w_5 hw)) (by decide) (t := .byte) (t' := (.array .byte)) (by decide) (by decide)))
    have A7_b4 := A6_b4.other W7 nb4_q1.symm
    exact g_retV (Q := (fun v h L => ∃ (b : Addr) (k : ClassId), v = none ∧ Fr n0 L ∧ Keep h0 h [q1] ∧ Exa Z h q1 "java/lang/String" ∧ Fld Z h q1 "java/lang/String" "value" "[B" (.ref b) ∧ Fld Z h q1 "java/lang/String" "coder" "B" (.int (0 : Int32)) ∧ Arv Z h b k .byte (4 : Int32) [.int (lat x0), .int (lat x1), .int (lat x2), .int (lat x3)] (.int 0))) X7 hx hby d3_57 hret hlk (by decide) (by decide) ⟨b4, k4, rfl, N7, K7, E7_q1, F7_q1_value, F7_q1_coder, A7_b4⟩
theorem ef_rmS45 (q1 : Addr) (q2 : Addr) (m : MethodId) : entryFrame m #[.ref q1, .ref q2, .int (0 : Int32), .int (5 : Int32), .null] 6 = mkF m 0 #[.val (.ref q1), .val (.ref q2), .val (.int (0 : Int32)), .val (.int (5 : Int32)), .val (.null), .unset] [] := by
  first | (simp [entryFrame, mkF, argsToLocals, Value.category]; done) | rfl
set_option maxRecDepth 65536 in
set_option maxHeartbeats 40000000 in
theorem rmS45 (l : Launch) (Z : State) (a0 : Array Value) (hw : ∀ d ∈ tables_1, d.before a0 Z = true) (ws : List Jvm.Cond) (q1 : Addr) (q2 : Addr) (h0 : Heap) (n0 : Nat) (x0 x1 x2 x3 x4 : Int32) (kc : ClassId) (A_c : Arv Z h0 q2 kc .char (5 : Int32) [.int x0, .int x1, .int x2, .int x3, .int x4] (.int 0)) (hx0 : BY x0) (hx1 : BY x1) (hx2 : BY x2) (hx3 : BY x3) (hx4 : BY x4) (Z0 : n0 ≤ h0.size) (E_a : Exa Z h0 q1 "java/lang/String") (F_v : Fld Z h0 q1 "java/lang/String" "value" "[B" (.null)) (F_c : Fld Z h0 q1 "java/lang/String" "coder" "B" (.int (0 : Int32))) (n_c : q2 ≠ q1) (g_a : n0 ≤ q1) (cs : Int32) (fm : Value) (SS : SSt Z cs fm) (O0 : Old Z n0 h0) :
    Ctr l Z ({ cls := "java/lang/String", name := "<init>", desc := "([CIILjava/lang/Void;)V" } : Jvm.MethodName) jdk_42_method_149_code 6 none ws ({ frames := 2, cells := 1, slots := 7, locals := 35 } : Room) #[.ref q1, .ref q2, .int (0 : Int32), .int (5 : Int32), .null] h0 (fun v h L => ∃ (b : Addr) (k : ClassId), v = none ∧ Fr n0 L ∧ Keep h0 h [q1] ∧ Exa Z h q1 "java/lang/String" ∧ Fld Z h q1 "java/lang/String" "value" "[B" (.ref b) ∧ Fld Z h q1 "java/lang/String" "coder" "B" (.int (0 : Int32)) ∧ Arv Z h b k .byte (5 : Int32) [.int (lat x0), .int (lat x1), .int (lat x2), .int (lat x3), .int (lat x4)] (.int 0)) := by
  refine Ctr.enter (Ls := #[.val (.ref q1), .val (.ref q2), .val (.int (0 : Int32)), .val (.int (5 : Int32)), .val (.null), .unset]) (by decide +kernel) (fun m => ef_rmS45 q1 q2 m) ?_
  intro p e s m below meth c T hx hby hml hown hnm hret hlk hZ hh X0 e0
  have N0 := Fr.nil n0
  refine g_aloadN X0 hx hby d3_0 (pc' := 1) rfl rfl rfl ?_
  obtain ⟨T1, X1, e1, st1⟩ := initO X0 hx hZ hown (w_22 hw) (w_23 hw) (w_24 hw) e0 (g := (mkF m 1 #[.val (.ref q1), .val (.ref q2), .val (.int (0 : Int32)), .val (.int (5 : Int32)), .val (.null), .unset] [.ref q1])) rfl (by rw [hml]; rfl) rfl (hb hby d3_1) (by decide) (W := 0) (by show 2 * 0 + _ ≤ _; exact Nat.le_of_eq rfl) (by decide)
  refine GoE.pull (b := T1.setTop (mkF m 4 #[.val (.ref q1), .val (.ref q2), .val (.int (0 : Int32)), .val (.int (5 : Int32)), .val (.null), .unset] [])) ?_ st1
  refine g_iloadN X1 hx hby d3_4 (pc' := 5) rfl rfl ?_
  refine g_if_ne X1 hx hby d3_5 (by decide) (pc' := 27) (by decide) (pn := 8) rfl (fun _ => ?_) (fun z => absurd z (by decide))
  refine g_getS X1 hx hZ hown hby d3_27 (pc' := 30) rfl (w_61 hw) e1 (SS.2.1.ext O0.2) ?_
  intro T2 X2 e2
  refine g_if_eq X2 hx hby d3_30 (by decide) (pc' := 58) (by decide) (pn := 33) rfl (fun z => absurd z SS.1) (fun hc30_3 => ?_)
  refine g_aloadN X2 hx hby d3_33 (pc' := 34) rfl rfl rfl ?_
  refine g_iloadN X2 hx hby d3_34 (pc' := 35) rfl rfl ?_
  refine g_iloadN X2 hx hby d3_35 (pc' := 36) rfl rfl ?_
  refine g_callS X2 hx hZ hown (W := 0) (argsL := [.ref q2, .int (0 : Int32), .int (5 : Int32)]) (rest := []) hby d3_36 (pc' := 39) rfl (by rw [hml]; rfl) (w_119 hw) (w_120 hw) (w_121 hw) (w_122 hw) (by decide) (rmC35 l Z a0 hw [] q2 h0 n0 x0 x1 x2 x3 x4 _ A_c hx0 hx1 hx2 hx3 hx4 Z0) e2 (by decide) (by decide) (by decide) (by decide) rfl pd__28_5bCII_29_5bB rfl rfl (Nat.le_of_eq rfl) ?_
  rintro _ T4 L4 X4 (⟨b4, k4, rfl, N4q, K4, G4, A4⟩)
  · have N4 := Fr.app N0 N4q
    have nb4_q1 : q1 ≠ b4 := Nat.ne_of_lt (Nat.lt_of_lt_of_le E_a.lt G4)
    have nb4_q2 : q2 ≠ b4 := Nat.ne_of_lt (Nat.lt_of_lt_of_le A_c.lt G4)
    have O4 := O0.keep K4 all0
    have Z4 := Nat.le_trans Z0 K4.1
    have E4_q1 := E_a.keep K4
    have A4_q2 := A_c.keep K4 nin0
    have K4t := (Keep.refl h0 [q1]).trans K4 all0
    have F4_q1_value := F_v.keep K4 nin0
    have F4_q1_coder := F_c.keep K4 nin0
    show GoE p e below _ (T4.setTop (mkF m 39 #[.val (.ref q1), .val (.ref q2), .val (.int (0 : Int32)), .val (.int (5 : Int32)), .val (.null), .unset] [.ref b4]))
    refine g_astore X4 hx hby d3_39 (pc' := 41) rfl rfl (l' := #[.val (.ref q1), .val (.ref q2), .val (.int (0 : Int32)), .val (.int (5 : Int32)), .val (.null), .val (.ref b4)]) rfl ?_
    refine g_aloadN X4 hx hby d3_41 (pc' := 42) rfl rfl rfl ?_
    refine g_aload X4 hx hby d3_42 (pc' := 44) rfl rfl rfl ?_
    refine g_iloadN X4 hx hby d3_44 (pc' := 45) rfl rfl ?_
    refine g_callS X4 hx hZ hown (W := 1) (argsL := [.ref b4, .int (5 : Int32)]) (rest := [.ref q1]) hby d3_45 (pc' := 48) rfl (by rw [hml]; rfl) (w_126 hw) (w_127 hw) (w_121 hw) (w_128 hw) (by decide) (rmF5 l Z a0 hw [] b4 T4.heap n0 _ _ A4) rfl (by decide) (by decide) (by decide) (by decide) rfl pd__28_5bBI_29B rfl rfl (Nat.le_of_eq rfl) ?_
    rintro _ T5 L5 X5 ⟨rfl, N5q, e5⟩
    have N5 := Fr.app N4 N5q
    show GoE p e below _ (T5.setTop (mkF m 48 #[.val (.ref q1), .val (.ref q2), .val (.int (0 : Int32)), .val (.int (5 : Int32)), .val (.null), .val (.ref b4)] [.int (0 : Int32), .ref q1]))
    refine g_put X5 hx hZ hown hby d3_48 (pc' := 51) rfl (w_27 hw) e5 F4_q1_coder E4_q1 (Or.inr ⟨(w_6 hw), rfl, hnm⟩) (w_3 hw) (ty := .byte) (by decide) rfl rfl ?_
    intro T6 X6 W6
    have N6 := Fr.snoc X6 N5 g_a
    have O6 := O4.wr W6 g_a
    have Z6 : n0 ≤ T6.heap.size := (W6.size ▸ Z4)
    have E6_q1 := E4_q1.wr W6
    have A6_q2 := A4_q2.other W6 n_c
    have K6 := K4t.wr W6 (Or.inl (List.mem_of_getElem? (i := 0) rfl))
    have F6_q1_value := F4_q1_value.other W6 (Or.inr (slot_ne (Or.inr (w_5 hw)) (Or.inr (w_6 hw)) (by decide) (t := (.array .byte)) (t' := .byte) (by decide) (by decide)))
    have F6_q1_coder := F4_q1_coder.same W6
    have A6_b4 := A4.other W6 nb4_q1.symm
    refine g_aloadN X6 hx hby d3_51 (pc' := 52) rfl rfl rfl ?_
    refine g_aload X6 hx hby d3_52 (pc' := 54) rfl rfl rfl ?_
    refine g_put X6 hx hZ hown hby d3_54 (pc' := 57) rfl (w_26 hw) rfl F6_q1_value E6_q1 (Or.inr ⟨(w_5 hw), rfl, hnm⟩) (w_3 hw) (ty := (.array .byte)) (by decide) rfl rfl ?_
    intro T7 X7 W7
    have N7 := Fr.snoc X7 N6 g_a
    have O7 := O6.wr W7 g_a
    have Z7 : n0 ≤ T7.heap.size := (W7.size ▸ Z6)
    have E7_q1 := E6_q1.wr W7
    have A7_q2 := A6_q2.other W7 n_c
    have K7 := K6.wr W7 (Or.inl (List.mem_of_getElem? (i := 0) rfl))
    have F7_q1_value := F6_q1_value.same W7
    have F7_q1_coder := F6_q1_coder.other W7 (Or.inr (slot_ne (Or.inr (w_6 hw)) (Or.inr (w_5 hw)) (by decide) (t := .byte) (t' := (.array .byte)) (by decide) (by decide)))
    have A7_b4 := A6_b4.other W7 nb4_q1.symm
    exact g_retV (Q := (fun v h L => ∃ (b : Addr) (k : ClassId), v = none ∧ Fr n0 L ∧ Keep h0 h [q1] ∧ Exa Z h q1 "java/lang/String" ∧ Fld Z h q1 "java/lang/String" "value" "[B" (.ref b) ∧ Fld Z h q1 "java/lang/String" "coder" "B" (.int (0 : Int32)) ∧ Arv Z h b k .byte (5 : Int32) [.int (lat x0), .int (lat x1), .int (lat x2), .int (lat x3), .int (lat x4)] (.int 0))) X7 hx hby d3_57 hret hlk (by decide) (by decide) ⟨b4, k4, rfl, N7, K7, E7_q1, F7_q1_value, F7_q1_coder, A7_b4⟩
theorem ef_rmS46 (q1 : Addr) (q2 : Addr) (m : MethodId) : entryFrame m #[.ref q1, .ref q2, .int (0 : Int32), .int (6 : Int32), .null] 6 = mkF m 0 #[.val (.ref q1), .val (.ref q2), .val (.int (0 : Int32)), .val (.int (6 : Int32)), .val (.null), .unset] [] := by
  first | (simp [entryFrame, mkF, argsToLocals, Value.category]; done) | rfl
set_option maxRecDepth 65536 in
set_option maxHeartbeats 40000000 in
theorem rmS46 (l : Launch) (Z : State) (a0 : Array Value) (hw : ∀ d ∈ tables_1, d.before a0 Z = true) (ws : List Jvm.Cond) (q1 : Addr) (q2 : Addr) (h0 : Heap) (n0 : Nat) (x0 x1 x2 x3 x4 x5 : Int32) (kc : ClassId) (A_c : Arv Z h0 q2 kc .char (6 : Int32) [.int x0, .int x1, .int x2, .int x3, .int x4, .int x5] (.int 0)) (hx0 : BY x0) (hx1 : BY x1) (hx2 : BY x2) (hx3 : BY x3) (hx4 : BY x4) (hx5 : BY x5) (Z0 : n0 ≤ h0.size) (E_a : Exa Z h0 q1 "java/lang/String") (F_v : Fld Z h0 q1 "java/lang/String" "value" "[B" (.null)) (F_c : Fld Z h0 q1 "java/lang/String" "coder" "B" (.int (0 : Int32))) (n_c : q2 ≠ q1) (g_a : n0 ≤ q1) (cs : Int32) (fm : Value) (SS : SSt Z cs fm) (O0 : Old Z n0 h0) :
    Ctr l Z ({ cls := "java/lang/String", name := "<init>", desc := "([CIILjava/lang/Void;)V" } : Jvm.MethodName) jdk_42_method_149_code 6 none ws ({ frames := 2, cells := 1, slots := 7, locals := 35 } : Room) #[.ref q1, .ref q2, .int (0 : Int32), .int (6 : Int32), .null] h0 (fun v h L => ∃ (b : Addr) (k : ClassId), v = none ∧ Fr n0 L ∧ Keep h0 h [q1] ∧ Exa Z h q1 "java/lang/String" ∧ Fld Z h q1 "java/lang/String" "value" "[B" (.ref b) ∧ Fld Z h q1 "java/lang/String" "coder" "B" (.int (0 : Int32)) ∧ Arv Z h b k .byte (6 : Int32) [.int (lat x0), .int (lat x1), .int (lat x2), .int (lat x3), .int (lat x4), .int (lat x5)] (.int 0)) := by
  refine Ctr.enter (Ls := #[.val (.ref q1), .val (.ref q2), .val (.int (0 : Int32)), .val (.int (6 : Int32)), .val (.null), .unset]) (by decide +kernel) (fun m => ef_rmS46 q1 q2 m) ?_
  intro p e s m below meth c T hx hby hml hown hnm hret hlk hZ hh X0 e0
  have N0 := Fr.nil n0
  refine g_aloadN X0 hx hby d3_0 (pc' := 1) rfl rfl rfl ?_
  obtain ⟨T1, X1, e1, st1⟩ := initO X0 hx hZ hown (w_22 hw) (w_23 hw) (w_24 hw) e0 (g := (mkF m 1 #[.val (.ref q1), .val (.ref q2), .val (.int (0 : Int32)), .val (.int (6 : Int32)), .val (.null), .unset] [.ref q1])) rfl (by rw [hml]; rfl) rfl (hb hby d3_1) (by decide) (W := 0) (by show 2 * 0 + _ ≤ _; exact Nat.le_of_eq rfl) (by decide)
  refine GoE.pull (b := T1.setTop (mkF m 4 #[.val (.ref q1), .val (.ref q2), .val (.int (0 : Int32)), .val (.int (6 : Int32)), .val (.null), .unset] [])) ?_ st1
  refine g_iloadN X1 hx hby d3_4 (pc' := 5) rfl rfl ?_
  refine g_if_ne X1 hx hby d3_5 (by decide) (pc' := 27) (by decide) (pn := 8) rfl (fun _ => ?_) (fun z => absurd z (by decide))
  refine g_getS X1 hx hZ hown hby d3_27 (pc' := 30) rfl (w_61 hw) e1 (SS.2.1.ext O0.2) ?_
  intro T2 X2 e2
  refine g_if_eq X2 hx hby d3_30 (by decide) (pc' := 58) (by decide) (pn := 33) rfl (fun z => absurd z SS.1) (fun hc30_3 => ?_)
  refine g_aloadN X2 hx hby d3_33 (pc' := 34) rfl rfl rfl ?_
  refine g_iloadN X2 hx hby d3_34 (pc' := 35) rfl rfl ?_
  refine g_iloadN X2 hx hby d3_35 (pc' := 36) rfl rfl ?_
  refine g_callS X2 hx hZ hown (W := 0) (argsL := [.ref q2, .int (0 : Int32), .int (6 : Int32)]) (rest := []) hby d3_36 (pc' := 39) rfl (by rw [hml]; rfl) (w_119 hw) (w_120 hw) (w_121 hw) (w_122 hw) (by decide) (rmC36 l Z a0 hw [] q2 h0 n0 x0 x1 x2 x3 x4 x5 _ A_c hx0 hx1 hx2 hx3 hx4 hx5 Z0) e2 (by decide) (by decide) (by decide) (by decide) rfl pd__28_5bCII_29_5bB rfl rfl (Nat.le_of_eq rfl) ?_
  rintro _ T4 L4 X4 (⟨b4, k4, rfl, N4q, K4, G4, A4⟩)
  · have N4 := Fr.app N0 N4q
    have nb4_q1 : q1 ≠ b4 := Nat.ne_of_lt (Nat.lt_of_lt_of_le E_a.lt G4)
    have nb4_q2 : q2 ≠ b4 := Nat.ne_of_lt (Nat.lt_of_lt_of_le A_c.lt G4)
    have O4 := O0.keep K4 all0
    have Z4 := Nat.le_trans Z0 K4.1
    have E4_q1 := E_a.keep K4
    have A4_q2 := A_c.keep K4 nin0
    have K4t := (Keep.refl h0 [q1]).trans K4 all0
    have F4_q1_value := F_v.keep K4 nin0
    have F4_q1_coder := F_c.keep K4 nin0
    show GoE p e below _ (T4.setTop (mkF m 39 #[.val (.ref q1), .val (.ref q2), .val (.int (0 : Int32)), .val (.int (6 : Int32)), .val (.null), .unset] [.ref b4]))
    refine g_astore X4 hx hby d3_39 (pc' := 41) rfl rfl (l' := #[.val (.ref q1), .val (.ref q2), .val (.int (0 : Int32)), .val (.int (6 : Int32)), .val (.null), .val (.ref b4)]) rfl ?_
    refine g_aloadN X4 hx hby d3_41 (pc' := 42) rfl rfl rfl ?_
    refine g_aload X4 hx hby d3_42 (pc' := 44) rfl rfl rfl ?_
    refine g_iloadN X4 hx hby d3_44 (pc' := 45) rfl rfl ?_
    refine g_callS X4 hx hZ hown (W := 1) (argsL := [.ref b4, .int (6 : Int32)]) (rest := [.ref q1]) hby d3_45 (pc' := 48) rfl (by rw [hml]; rfl) (w_126 hw) (w_127 hw) (w_121 hw) (w_128 hw) (by decide) (rmF6 l Z a0 hw [] b4 T4.heap n0 _ _ A4) rfl (by decide) (by decide) (by decide) (by decide) rfl pd__28_5bBI_29B rfl rfl (Nat.le_of_eq rfl) ?_
    rintro _ T5 L5 X5 ⟨rfl, N5q, e5⟩
    have N5 := Fr.app N4 N5q
    show GoE p e below _ (T5.setTop (mkF m 48 #[.val (.ref q1), .val (.ref q2), .val (.int (0 : Int32)), .val (.int (6 : Int32)), .val (.null), .val (.ref b4)] [.int (0 : Int32), .ref q1]))
    refine g_put X5 hx hZ hown hby d3_48 (pc' := 51) rfl (w_27 hw) e5 F4_q1_coder E4_q1 (Or.inr ⟨(w_6 hw), rfl, hnm⟩) (w_3 hw) (ty := .byte) (by decide) rfl rfl ?_
    intro T6 X6 W6
    have N6 := Fr.snoc X6 N5 g_a
    have O6 := O4.wr W6 g_a
    have Z6 : n0 ≤ T6.heap.size := (W6.size ▸ Z4)
    have E6_q1 := E4_q1.wr W6
    have A6_q2 := A4_q2.other W6 n_c
    have K6 := K4t.wr W6 (Or.inl (List.mem_of_getElem? (i := 0) rfl))
    have F6_q1_value := F4_q1_value.other W6 (Or.inr (slot_ne (Or.inr (w_5 hw)) (Or.inr (w_6 hw)) (by decide) (t := (.array .byte)) (t' := .byte) (by decide) (by decide)))
    have F6_q1_coder := F4_q1_coder.same W6
    have A6_b4 := A4.other W6 nb4_q1.symm
    refine g_aloadN X6 hx hby d3_51 (pc' := 52) rfl rfl rfl ?_
    refine g_aload X6 hx hby d3_52 (pc' := 54) rfl rfl rfl ?_
    refine g_put X6 hx hZ hown hby d3_54 (pc' := 57) rfl (w_26 hw) rfl F6_q1_value E6_q1 (Or.inr ⟨(w_5 hw), rfl, hnm⟩) (w_3 hw) (ty := (.array .byte)) (by decide) rfl rfl ?_
    intro T7 X7 W7
    have N7 := Fr.snoc X7 N6 g_a
    have O7 := O6.wr W7 g_a
    have Z7 : n0 ≤ T7.heap.size := (W7.size ▸ Z6)
    have E7_q1 := E6_q1.wr W7
    have A7_q2 := A6_q2.other W7 n_c
    have K7 := K6.wr W7 (Or.inl (List.mem_of_getElem? (i := 0) rfl))
    have F7_q1_value := F6_q1_value.same W7
    have F7_q1_coder := F6_q1_coder.other W7 (Or.inr (slot_ne (Or.inr (w_6 hw)) (Or.inr (w_5 hw)) (by decide) (t := .byte) (t' := (.array .byte)) (by decide) (by decide)))
    have A7_b4 := A6_b4.other W7 nb4_q1.symm
    exact g_retV (Q := (fun v h L => ∃ (b : Addr) (k : ClassId), v = none ∧ Fr n0 L ∧ Keep h0 h [q1] ∧ Exa Z h q1 "java/lang/String" ∧ Fld Z h q1 "java/lang/String" "value" "[B" (.ref b) ∧ Fld Z h q1 "java/lang/String" "coder" "B" (.int (0 : Int32)) ∧ Arv Z h b k .byte (6 : Int32) [.int (lat x0), .int (lat x1), .int (lat x2), .int (lat x3), .int (lat x4), .int (lat x5)] (.int 0))) X7 hx hby d3_57 hret hlk (by decide) (by decide) ⟨b4, k4, rfl, N7, K7, E7_q1, F7_q1_value, F7_q1_coder, A7_b4⟩
theorem ef_rmS47 (q1 : Addr) (q2 : Addr) (m : MethodId) : entryFrame m #[.ref q1, .ref q2, .int (0 : Int32), .int (7 : Int32), .null] 6 = mkF m 0 #[.val (.ref q1), .val (.ref q2), .val (.int (0 : Int32)), .val (.int (7 : Int32)), .val (.null), .unset] [] := by
  first | (simp [entryFrame, mkF, argsToLocals, Value.category]; done) | rfl
set_option maxRecDepth 65536 in
set_option maxHeartbeats 40000000 in
theorem rmS47 (l : Launch) (Z : State) (a0 : Array Value) (hw : ∀ d ∈ tables_1, d.before a0 Z = true) (ws : List Jvm.Cond) (q1 : Addr) (q2 : Addr) (h0 : Heap) (n0 : Nat) (x0 x1 x2 x3 x4 x5 x6 : Int32) (kc : ClassId) (A_c : Arv Z h0 q2 kc .char (7 : Int32) [.int x0, .int x1, .int x2, .int x3, .int x4, .int x5, .int x6] (.int 0)) (hx0 : BY x0) (hx1 : BY x1) (hx2 : BY x2) (hx3 : BY x3) (hx4 : BY x4) (hx5 : BY x5) (hx6 : BY x6) (Z0 : n0 ≤ h0.size) (E_a : Exa Z h0 q1 "java/lang/String") (F_v : Fld Z h0 q1 "java/lang/String" "value" "[B" (.null)) (F_c : Fld Z h0 q1 "java/lang/String" "coder" "B" (.int (0 : Int32))) (n_c : q2 ≠ q1) (g_a : n0 ≤ q1) (cs : Int32) (fm : Value) (SS : SSt Z cs fm) (O0 : Old Z n0 h0) :
    Ctr l Z ({ cls := "java/lang/String", name := "<init>", desc := "([CIILjava/lang/Void;)V" } : Jvm.MethodName) jdk_42_method_149_code 6 none ws ({ frames := 2, cells := 1, slots := 7, locals := 35 } : Room) #[.ref q1, .ref q2, .int (0 : Int32), .int (7 : Int32), .null] h0 (fun v h L => ∃ (b : Addr) (k : ClassId), v = none ∧ Fr n0 L ∧ Keep h0 h [q1] ∧ Exa Z h q1 "java/lang/String" ∧ Fld Z h q1 "java/lang/String" "value" "[B" (.ref b) ∧ Fld Z h q1 "java/lang/String" "coder" "B" (.int (0 : Int32)) ∧ Arv Z h b k .byte (7 : Int32) [.int (lat x0), .int (lat x1), .int (lat x2), .int (lat x3), .int (lat x4), .int (lat x5), .int (lat x6)] (.int 0)) := by
  refine Ctr.enter (Ls := #[.val (.ref q1), .val (.ref q2), .val (.int (0 : Int32)), .val (.int (7 : Int32)), .val (.null), .unset]) (by decide +kernel) (fun m => ef_rmS47 q1 q2 m) ?_
  intro p e s m below meth c T hx hby hml hown hnm hret hlk hZ hh X0 e0
  have N0 := Fr.nil n0
  refine g_aloadN X0 hx hby d3_0 (pc' := 1) rfl rfl rfl ?_
  obtain ⟨T1, X1, e1, st1⟩ := initO X0 hx hZ hown (w_22 hw) (w_23 hw) (w_24 hw) e0 (g := (mkF m 1 #[.val (.ref q1), .val (.ref q2), .val (.int (0 : Int32)), .val (.int (7 : Int32)), .val (.null), .unset] [.ref q1])) rfl (by rw [hml]; rfl) rfl (hb hby d3_1) (by decide) (W := 0) (by show 2 * 0 + _ ≤ _; exact Nat.le_of_eq rfl) (by decide)
  refine GoE.pull (b := T1.setTop (mkF m 4 #[.val (.ref q1), .val (.ref q2), .val (.int (0 : Int32)), .val (.int (7 : Int32)), .val (.null), .unset] [])) ?_ st1
  refine g_iloadN X1 hx hby d3_4 (pc' := 5) rfl rfl ?_
  refine g_if_ne X1 hx hby d3_5 (by decide) (pc' := 27) (by decide) (pn := 8) rfl (fun _ => ?_) (fun z => absurd z (by decide))
  refine g_getS X1 hx hZ hown hby d3_27 (pc' := 30) rfl (w_61 hw) e1 (SS.2.1.ext O0.2) ?_
  intro T2 X2 e2
  refine g_if_eq X2 hx hby d3_30 (by decide) (pc' := 58) (by decide) (pn := 33) rfl (fun z => absurd z SS.1) (fun hc30_3 => ?_)
  refine g_aloadN X2 hx hby d3_33 (pc' := 34) rfl rfl rfl ?_
  refine g_iloadN X2 hx hby d3_34 (pc' := 35) rfl rfl ?_
  refine g_iloadN X2 hx hby d3_35 (pc' := 36) rfl rfl ?_
  refine g_callS X2 hx hZ hown (W := 0) (argsL := [.ref q2, .int (0 : Int32), .int (7 : Int32)]) (rest := []) hby d3_36 (pc' := 39) rfl (by rw [hml]; rfl) (w_119 hw) (w_120 hw) (w_121 hw) (w_122 hw) (by decide) (rmC37 l Z a0 hw [] q2 h0 n0 x0 x1 x2 x3 x4 x5 x6 _ A_c hx0 hx1 hx2 hx3 hx4 hx5 hx6 Z0) e2 (by decide) (by decide) (by decide) (by decide) rfl pd__28_5bCII_29_5bB rfl rfl (Nat.le_of_eq rfl) ?_
  rintro _ T4 L4 X4 (⟨b4, k4, rfl, N4q, K4, G4, A4⟩)
  · have N4 := Fr.app N0 N4q
    have nb4_q1 : q1 ≠ b4 := Nat.ne_of_lt (Nat.lt_of_lt_of_le E_a.lt G4)
    have nb4_q2 : q2 ≠ b4 := Nat.ne_of_lt (Nat.lt_of_lt_of_le A_c.lt G4)
    have O4 := O0.keep K4 all0
    have Z4 := Nat.le_trans Z0 K4.1
    have E4_q1 := E_a.keep K4
    have A4_q2 := A_c.keep K4 nin0
    have K4t := (Keep.refl h0 [q1]).trans K4 all0
    have F4_q1_value := F_v.keep K4 nin0
    have F4_q1_coder := F_c.keep K4 nin0
    show GoE p e below _ (T4.setTop (mkF m 39 #[.val (.ref q1), .val (.ref q2), .val (.int (0 : Int32)), .val (.int (7 : Int32)), .val (.null), .unset] [.ref b4]))
    refine g_astore X4 hx hby d3_39 (pc' := 41) rfl rfl (l' := #[.val (.ref q1), .val (.ref q2), .val (.int (0 : Int32)), .val (.int (7 : Int32)), .val (.null), .val (.ref b4)]) rfl ?_
    refine g_aloadN X4 hx hby d3_41 (pc' := 42) rfl rfl rfl ?_
    refine g_aload X4 hx hby d3_42 (pc' := 44) rfl rfl rfl ?_
    refine g_iloadN X4 hx hby d3_44 (pc' := 45) rfl rfl ?_
    refine g_callS X4 hx hZ hown (W := 1) (argsL := [.ref b4, .int (7 : Int32)]) (rest := [.ref q1]) hby d3_45 (pc' := 48) rfl (by rw [hml]; rfl) (w_126 hw) (w_127 hw) (w_121 hw) (w_128 hw) (by decide) (rmF7 l Z a0 hw [] b4 T4.heap n0 _ _ A4) rfl (by decide) (by decide) (by decide) (by decide) rfl pd__28_5bBI_29B rfl rfl (Nat.le_of_eq rfl) ?_
    rintro _ T5 L5 X5 ⟨rfl, N5q, e5⟩
    have N5 := Fr.app N4 N5q
    show GoE p e below _ (T5.setTop (mkF m 48 #[.val (.ref q1), .val (.ref q2), .val (.int (0 : Int32)), .val (.int (7 : Int32)), .val (.null), .val (.ref b4)] [.int (0 : Int32), .ref q1]))
    refine g_put X5 hx hZ hown hby d3_48 (pc' := 51) rfl (w_27 hw) e5 F4_q1_coder E4_q1 (Or.inr ⟨(w_6 hw), rfl, hnm⟩) (w_3 hw) (ty := .byte) (by decide) rfl rfl ?_
    intro T6 X6 W6
    have N6 := Fr.snoc X6 N5 g_a
    have O6 := O4.wr W6 g_a
    have Z6 : n0 ≤ T6.heap.size := (W6.size ▸ Z4)
    have E6_q1 := E4_q1.wr W6
    have A6_q2 := A4_q2.other W6 n_c
    have K6 := K4t.wr W6 (Or.inl (List.mem_of_getElem? (i := 0) rfl))
    have F6_q1_value := F4_q1_value.other W6 (Or.inr (slot_ne (Or.inr (w_5 hw)) (Or.inr (w_6 hw)) (by decide) (t := (.array .byte)) (t' := .byte) (by decide) (by decide)))
    have F6_q1_coder := F4_q1_coder.same W6
    have A6_b4 := A4.other W6 nb4_q1.symm
    refine g_aloadN X6 hx hby d3_51 (pc' := 52) rfl rfl rfl ?_
    refine g_aload X6 hx hby d3_52 (pc' := 54) rfl rfl rfl ?_
    refine g_put X6 hx hZ hown hby d3_54 (pc' := 57) rfl (w_26 hw) rfl F6_q1_value E6_q1 (Or.inr ⟨(w_5 hw), rfl, hnm⟩) (w_3 hw) (ty := (.array .byte)) (by decide) rfl rfl ?_
    intro T7 X7 W7
    have N7 := Fr.snoc X7 N6 g_a
    have O7 := O6.wr W7 g_a
    have Z7 : n0 ≤ T7.heap.size := (W7.size ▸ Z6)
    have E7_q1 := E6_q1.wr W7
    have A7_q2 := A6_q2.other W7 n_c
    have K7 := K6.wr W7 (Or.inl (List.mem_of_getElem? (i := 0) rfl))
    have F7_q1_value := F6_q1_value.same W7
    have F7_q1_coder := F6_q1_coder.other W7 (Or.inr (slot_ne (Or.inr (w_6 hw)) (Or.inr (w_5 hw)) (by decide) (t := .byte) (t' := (.array .byte)) (by decide) (by decide)))
    have A7_b4 := A6_b4.other W7 nb4_q1.symm
    exact g_retV (Q := (fun v h L => ∃ (b : Addr) (k : ClassId), v = none ∧ Fr n0 L ∧ Keep h0 h [q1] ∧ Exa Z h q1 "java/lang/String" ∧ Fld Z h q1 "java/lang/String" "value" "[B" (.ref b) ∧ Fld Z h q1 "java/lang/String" "coder" "B" (.int (0 : Int32)) ∧ Arv Z h b k .byte (7 : Int32) [.int (lat x0), .int (lat x1), .int (lat x2), .int (lat x3), .int (lat x4), .int (lat x5), .int (lat x6)] (.int 0))) X7 hx hby d3_57 hret hlk (by decide) (by decide) ⟨b4, k4, rfl, N7, K7, E7_q1, F7_q1_value, F7_q1_coder, A7_b4⟩
theorem ef_rmS40 (q1 : Addr) (q2 : Addr) (m : MethodId) : entryFrame m #[.ref q1, .ref q2, .int (0 : Int32), .int (0 : Int32), .null] 6 = mkF m 0 #[.val (.ref q1), .val (.ref q2), .val (.int (0 : Int32)), .val (.int (0 : Int32)), .val (.null), .unset] [] := by
  first | (simp [entryFrame, mkF, argsToLocals, Value.category]; done) | rfl
set_option maxRecDepth 65536 in
set_option maxHeartbeats 40000000 in
theorem rmS40 (l : Launch) (Z : State) (a0 : Array Value) (hw : ∀ d ∈ tables_1, d.before a0 Z = true) (ws : List Jvm.Cond) (q1 : Addr) (q2 : Addr) (h0 : Heap) (n0 : Nat) (kc : ClassId) (A_c : Arv Z h0 q2 kc .char (0 : Int32) [] (.int 0))  (Z0 : n0 ≤ h0.size) (E_a : Exa Z h0 q1 "java/lang/String") (F_v : Fld Z h0 q1 "java/lang/String" "value" "[B" (.null)) (F_c : Fld Z h0 q1 "java/lang/String" "coder" "B" (.int (0 : Int32))) (n_c : q2 ≠ q1) (g_a : n0 ≤ q1) (cs : Int32) (fm : Value) (SS : SSt Z cs fm) (O0 : Old Z n0 h0) :
    CtrH ELs l Z ({ cls := "java/lang/String", name := "<init>", desc := "([CIILjava/lang/Void;)V" } : Jvm.MethodName) jdk_42_method_149_code 6 none ws ({ frames := 1, cells := 4, slots := 8, locals := 12 } : Room) #[.ref q1, .ref q2, .int (0 : Int32), .int (0 : Int32), .null] h0 (fun v h L => ∃ (b : Addr) (k : ClassId), v = none ∧ Fr n0 L ∧ Keep h0 h [q1] ∧ Exa Z h q1 "java/lang/String" ∧ Fld Z h q1 "java/lang/String" "value" "[B" (.ref b) ∧ Fld Z h q1 "java/lang/String" "coder" "B" (.int (0 : Int32)) ∧ Arv Z h b k .byte (0 : Int32) [] (.int 0)) := by
  refine CtrH.enter (Ls := #[.val (.ref q1), .val (.ref q2), .val (.int (0 : Int32)), .val (.int (0 : Int32)), .val (.null), .unset]) (by decide +kernel) (fun m => ef_rmS40 q1 q2 m) ?_
  intro p e s m below meth c T hx hby hml hown hnm hret hlk hZ hh X0 e0 hS0 C0h
  have N0 := Fr.nil n0
  have S0q : Safe Z ELs s.vm h0 q1 := own_safe0 hZ.alike E_a F_v
  refine g_aloadN X0 hx hby d3_0 (pc' := 1) rfl rfl rfl ?_
  obtain ⟨T1, X1, e1, st1⟩ := initO X0 hx hZ hown (w_22 hw) (w_23 hw) (w_24 hw) e0 (g := (mkF m 1 #[.val (.ref q1), .val (.ref q2), .val (.int (0 : Int32)), .val (.int (0 : Int32)), .val (.null), .unset] [.ref q1])) rfl (by rw [hml]; rfl) rfl (hb hby d3_1) (by decide) (W := 0) (by show 2 * 0 + _ ≤ _; exact Nat.le_of_eq rfl) (by decide)
  refine GoE.pull (b := T1.setTop (mkF m 4 #[.val (.ref q1), .val (.ref q2), .val (.int (0 : Int32)), .val (.int (0 : Int32)), .val (.null), .unset] [])) ?_ st1
  refine g_iloadN X1 hx hby d3_4 (pc' := 5) rfl rfl ?_
  refine g_if_ne X1 hx hby d3_5 (by decide) (pc' := 27) (by decide) (pn := 8) rfl (fun z => absurd z (by decide)) (fun _ => ?_)
  refine g_aloadN X1 hx hby d3_8 (pc' := 9) rfl rfl rfl ?_
  refine g_ldcH X1 hx hZ hown 0 [] (0 : Int32) hby d3_9 (pc' := 11) rfl (w_25 hw) (own_str hw) e1 hS0 (Nat.le_refl h0.size) (own_EL hw) (List.mem_of_getElem? (i := 5) rfl) C0h.1 (by decide) (by decide) (by decide) (by decide) (by decide) (by decide) (by decide) ?_
  intro b2 T2 k2 v2 c2 X2 E2 hS2 hk2 hZ2 hown2 Ex2 Fc2 Fv2 Av2 C2h sn2
  have sf2_q1 := C2h.safe E_a.lt S0q
  have C2c := C0h.trans C2h
  have O2o := O0.ext E2
  have Z2 := Nat.le_trans Z0 E2.1
  have E2_q1 := E_a.ext E2
  have A2_q2 := A_c.ext E2
  have K2 := (Keep.refl h0 [q1]).ext E2
  have F2_q1_value := F_v.ext E2
  have F2_q1_coder := F_c.ext E2
  have Y2 := Nat.le_trans (Nat.le_refl h0.size) E2.1
  refine g_get X2 hx hZ2 hown2 hby d3_11 (pc' := 14) rfl (w_26 hw) rfl Fv2 ?_
  intro T3 X3 e3
  refine g_put X3 hx hZ2 hown2 hby d3_14 (pc' := 17) rfl (w_26 hw) e3 F2_q1_value E2_q1 (Or.inr ⟨(w_5 hw), rfl, hnm⟩) (w_3 hw) (ty := (.array .byte)) (by decide) rfl rfl ?_
  intro T4 X4 W4
  have N4 := Fr.snoc X4 N0 g_a
  have sf4_q1 := Safe.wr W4 sf2_q1 C2c.1 sf2_q1
  have C4c := C2c.trans (CHr.wr W4 sf2_q1 C2c.1)
  have O4 := O2o.wr W4 g_a
  have Z4 : n0 ≤ T4.heap.size := (W4.size ▸ Z2)
  have E4_q1 := E2_q1.wr W4
  have A4_q2 := A2_q2.other W4 n_c
  have K4 := K2.wr W4 (Or.inl (List.mem_of_getElem? (i := 0) rfl))
  have F4_q1_value := F2_q1_value.same W4
  have F4_q1_coder := F2_q1_coder.other W4 (Or.inr (slot_ne (Or.inr (w_6 hw)) (Or.inr (w_5 hw)) (by decide) (t := .byte) (t' := (.array .byte)) (by decide) (by decide)))
  have Y4 := Nat.le_trans hk2 (Nat.le_of_eq W4.size.symm)
  have E4_b2 := Ex2.wr W4
  have F4_b2_coder := Fc2.other W4 (Or.inl (sn2 _ sf2_q1).1.symm)
  have F4_b2_value := Fv2.other W4 (Or.inl (sn2 _ sf2_q1).1.symm)
  have A4_v2 := Av2.other W4 (sn2 _ sf2_q1).2.symm
  refine g_aloadN X4 hx hby d3_17 (pc' := 18) rfl rfl rfl ?_
  refine g_ldcH X4 hx hZ2 hown2 0 [] (0 : Int32) hby d3_18 (pc' := 20) rfl (w_25 hw) (own_str hw) rfl hS2 Y4 (own_EL hw) (List.mem_of_getElem? (i := 5) rfl) C4c.1 (by decide) (by decide) (by decide) (by decide) (by decide) (by decide) (by decide) ?_
  intro b5 T5 k5 v5 c5 X5 E5 hS5 hk5 hZ5 hown5 Ex5 Fc5 Fv5 Av5 C5h sn5
  have sf5_q1 := C5h.safe E4_q1.lt sf4_q1
  have C5c := C4c.trans C5h
  have O5o := O4.ext E5
  have Z5 := Nat.le_trans Z4 E5.1
  have E5_q1 := E4_q1.ext E5
  have A5_q2 := A4_q2.ext E5
  have K5 := K4.ext E5
  have F5_q1_value := F4_q1_value.ext E5
  have F5_q1_coder := F4_q1_coder.ext E5
  have Y5 := Nat.le_trans Y4 E5.1
  have E5_b2 := E4_b2.ext E5
  have F5_b2_coder := F4_b2_coder.ext E5
  have F5_b2_value := F4_b2_value.ext E5
  have A5_v2 := A4_v2.ext E5
  refine g_get X5 hx hZ5 hown5 hby d3_20 (pc' := 23) rfl (w_27 hw) rfl Fc5 ?_
  intro T6 X6 e6
  refine g_put X6 hx hZ5 hown5 hby d3_23 (pc' := 26) rfl (w_27 hw) e6 F5_q1_coder E5_q1 (Or.inr ⟨(w_6 hw), rfl, hnm⟩) (w_3 hw) (ty := .byte) (by decide) rfl rfl ?_
  intro T7 X7 W7
  have N7 := Fr.snoc X7 N4 g_a
  have sf7_q1 := Safe.wr W7 sf5_q1 C5c.1 sf5_q1
  have C7c := C5c.trans (CHr.wr W7 sf5_q1 C5c.1)
  have O7 := O5o.wr W7 g_a
  have Z7 : n0 ≤ T7.heap.size := (W7.size ▸ Z5)
  have E7_q1 := E5_q1.wr W7
  have A7_q2 := A5_q2.other W7 n_c
  have K7 := K5.wr W7 (Or.inl (List.mem_of_getElem? (i := 0) rfl))
  have F7_q1_value := F5_q1_value.other W7 (Or.inr (slot_ne (Or.inr (w_5 hw)) (Or.inr (w_6 hw)) (by decide) (t := (.array .byte)) (t' := .byte) (by decide) (by decide)))
  have F7_q1_coder := F5_q1_coder.same W7
  have Y7 := Nat.le_trans hk5 (Nat.le_of_eq W7.size.symm)
  have E7_b2 := E5_b2.wr W7
  have F7_b2_coder := F5_b2_coder.other W7 (Or.inl (sn2 _ sf2_q1).1.symm)
  have F7_b2_value := F5_b2_value.other W7 (Or.inl (sn2 _ sf2_q1).1.symm)
  have A7_v2 := A5_v2.other W7 (sn2 _ sf2_q1).2.symm
  have E7_b5 := Ex5.wr W7
  have F7_b5_coder := Fc5.other W7 (Or.inl (sn5 _ sf5_q1).1.symm)
  have F7_b5_value := Fv5.other W7 (Or.inl (sn5 _ sf5_q1).1.symm)
  have A7_v5 := Av5.other W7 (sn5 _ sf5_q1).2.symm
  refine GoH.of_go (a0 := a0) (fun v h L => ∃ (b : Addr) (k : ClassId), v = none ∧ Fr n0 L ∧ Keep h0 h [q1] ∧ Exa Z h q1 "java/lang/String" ∧ Fld Z h q1 "java/lang/String" "value" "[B" (.ref b) ∧ Fld Z h q1 "java/lang/String" "coder" "B" (.int (0 : Int32)) ∧ Arv Z h b k .byte (0 : Int32) [] (.int 0)) hS5 hZ5 (own_EL hw) ?_
  exact g_retV (Q := _) X7 hx hby d3_26 hret hlk (by decide) (by decide) ⟨⟨v2, c2, rfl, N7, K7, E7_q1, F7_q1_value, F7_q1_coder, A7_v2⟩, Y7, C7c⟩
theorem ef_rmS11 (q1 : Addr) (q2 : Addr) (m : MethodId) : entryFrame m #[.ref q1, .ref q2] 2 = mkF m 0 #[.val (.ref q1), .val (.ref q2)] [] := by
  first | (simp [entryFrame, mkF, argsToLocals, Value.category]; done) | rfl
set_option maxRecDepth 65536 in
set_option maxHeartbeats 40000000 in
theorem rmS11 (l : Launch) (Z : State) (a0 : Array Value) (hw : ∀ d ∈ tables_1, d.before a0 Z = true) (ws : List Jvm.Cond) (q1 : Addr) (q2 : Addr) (h0 : Heap) (n0 : Nat) (x0 : Int32) (kc : ClassId) (A_c : Arv Z h0 q2 kc .char (1 : Int32) [.int x0] (.int 0)) (hx0 : BY x0) (Z0 : n0 ≤ h0.size) (E_a : Exa Z h0 q1 "java/lang/String") (F_v : Fld Z h0 q1 "java/lang/String" "value" "[B" (.null)) (F_c : Fld Z h0 q1 "java/lang/String" "coder" "B" (.int (0 : Int32))) (n_c : q2 ≠ q1) (g_a : n0 ≤ q1) (cs : Int32) (fm : Value) (SS : SSt Z cs fm) (O0 : Old Z n0 h0) :
    Ctr l Z ({ cls := "java/lang/String", name := "<init>", desc := "([C)V" } : Jvm.MethodName) jdk_42_method_3_code 2 none ws ({ frames := 3, cells := 1, slots := 7, locals := 52 } : Room) #[.ref q1, .ref q2] h0 (fun v h L => ∃ (b : Addr) (k : ClassId), v = none ∧ Fr n0 L ∧ Keep h0 h [q1] ∧ Exa Z h q1 "java/lang/String" ∧ Fld Z h q1 "java/lang/String" "value" "[B" (.ref b) ∧ Fld Z h q1 "java/lang/String" "coder" "B" (.int (0 : Int32)) ∧ Arv Z h b k .byte (1 : Int32) [.int (lat x0)] (.int 0)) := by
  refine Ctr.enter (Ls := #[.val (.ref q1), .val (.ref q2)]) (by decide +kernel) (fun m => ef_rmS11 q1 q2 m) ?_
  intro p e s m below meth c T hx hby hml hown hnm hret hlk hZ hh X0 e0
  have N0 := Fr.nil n0
  refine g_aloadN X0 hx hby d2_0 (pc' := 1) rfl rfl rfl ?_
  refine g_aloadN X0 hx hby d2_1 (pc' := 2) rfl rfl rfl ?_
  refine g_iconst X0 hx hby d2_2 (pc' := 3) rfl (z := (0 : Int32)) rfl ?_
  refine g_aloadN X0 hx hby d2_3 (pc' := 4) rfl rfl rfl ?_
  refine g_alen X0 hx hZ hby d2_4 (pc' := 5) rfl e0 A_c ?_
  refine g_aconstNull X0 hx hby d2_5 (pc' := 6) rfl ?_
  refine g_callI X0 hx hZ hown (W := 0) (argsL := [.ref q2, .int (0 : Int32), .int (1 : Int32), .null]) (b := q1) (rest := []) hby d2_6 (pc' := 9) rfl (by rw [hml]; rfl) (w_18 hw) (w_19 hw) (w_2 hw) (w_21 hw) rfl (by decide) (rmS41 l Z a0 hw [] q1 q2 h0 n0 x0 _ A_c hx0 Z0 E_a F_v F_c n_c g_a cs fm SS O0) e0 (by decide) (by decide) (by decide) (by decide) rfl pd__28_5bCIILjava_2flang_2fVoid_3b_29V rfl rfl (Nat.le_of_eq rfl) ?_
  rintro _ T1 L1 X1 (⟨b1, k1, rfl, N1q, K1, Ei1, Fv1, Fc1, A1⟩)
  · have N1 := Fr.app N0 N1q
    have O1 := O0.keep K1 (allS g_a all0)
    have Z1 := Nat.le_trans Z0 K1.1
    have E1_q1 := E_a.keep K1
    have A1_q2 := A_c.keep K1 (ninS n_c nin0)
    have K1t := (Keep.refl h0 [q1]).trans K1 (allS (Or.inl (List.mem_of_getElem? (i := 0) rfl)) all0)
    show GoE p e below _ (T1.setTop (mkF m 9 #[.val (.ref q1), .val (.ref q2)] []))
    exact g_retV (Q := (fun v h L => ∃ (b : Addr) (k : ClassId), v = none ∧ Fr n0 L ∧ Keep h0 h [q1] ∧ Exa Z h q1 "java/lang/String" ∧ Fld Z h q1 "java/lang/String" "value" "[B" (.ref b) ∧ Fld Z h q1 "java/lang/String" "coder" "B" (.int (0 : Int32)) ∧ Arv Z h b k .byte (1 : Int32) [.int (lat x0)] (.int 0))) X1 hx hby d2_9 hret hlk (by decide) (by decide) ⟨b1, k1, rfl, N1, K1t, Ei1, Fv1, Fc1, A1⟩
theorem ef_rmS12 (q1 : Addr) (q2 : Addr) (m : MethodId) : entryFrame m #[.ref q1, .ref q2] 2 = mkF m 0 #[.val (.ref q1), .val (.ref q2)] [] := by
  first | (simp [entryFrame, mkF, argsToLocals, Value.category]; done) | rfl
set_option maxRecDepth 65536 in
set_option maxHeartbeats 40000000 in
theorem rmS12 (l : Launch) (Z : State) (a0 : Array Value) (hw : ∀ d ∈ tables_1, d.before a0 Z = true) (ws : List Jvm.Cond) (q1 : Addr) (q2 : Addr) (h0 : Heap) (n0 : Nat) (x0 x1 : Int32) (kc : ClassId) (A_c : Arv Z h0 q2 kc .char (2 : Int32) [.int x0, .int x1] (.int 0)) (hx0 : BY x0) (hx1 : BY x1) (Z0 : n0 ≤ h0.size) (E_a : Exa Z h0 q1 "java/lang/String") (F_v : Fld Z h0 q1 "java/lang/String" "value" "[B" (.null)) (F_c : Fld Z h0 q1 "java/lang/String" "coder" "B" (.int (0 : Int32))) (n_c : q2 ≠ q1) (g_a : n0 ≤ q1) (cs : Int32) (fm : Value) (SS : SSt Z cs fm) (O0 : Old Z n0 h0) :
    Ctr l Z ({ cls := "java/lang/String", name := "<init>", desc := "([C)V" } : Jvm.MethodName) jdk_42_method_3_code 2 none ws ({ frames := 3, cells := 1, slots := 7, locals := 52 } : Room) #[.ref q1, .ref q2] h0 (fun v h L => ∃ (b : Addr) (k : ClassId), v = none ∧ Fr n0 L ∧ Keep h0 h [q1] ∧ Exa Z h q1 "java/lang/String" ∧ Fld Z h q1 "java/lang/String" "value" "[B" (.ref b) ∧ Fld Z h q1 "java/lang/String" "coder" "B" (.int (0 : Int32)) ∧ Arv Z h b k .byte (2 : Int32) [.int (lat x0), .int (lat x1)] (.int 0)) := by
  refine Ctr.enter (Ls := #[.val (.ref q1), .val (.ref q2)]) (by decide +kernel) (fun m => ef_rmS12 q1 q2 m) ?_
  intro p e s m below meth c T hx hby hml hown hnm hret hlk hZ hh X0 e0
  have N0 := Fr.nil n0
  refine g_aloadN X0 hx hby d2_0 (pc' := 1) rfl rfl rfl ?_
  refine g_aloadN X0 hx hby d2_1 (pc' := 2) rfl rfl rfl ?_
  refine g_iconst X0 hx hby d2_2 (pc' := 3) rfl (z := (0 : Int32)) rfl ?_
  refine g_aloadN X0 hx hby d2_3 (pc' := 4) rfl rfl rfl ?_
  refine g_alen X0 hx hZ hby d2_4 (pc' := 5) rfl e0 A_c ?_
  refine g_aconstNull X0 hx hby d2_5 (pc' := 6) rfl ?_
  refine g_callI X0 hx hZ hown (W := 0) (argsL := [.ref q2, .int (0 : Int32), .int (2 : Int32), .null]) (b := q1) (rest := []) hby d2_6 (pc' := 9) rfl (by rw [hml]; rfl) (w_18 hw) (w_19 hw) (w_2 hw) (w_21 hw) rfl (by decide) (rmS42 l Z a0 hw [] q1 q2 h0 n0 x0 x1 _ A_c hx0 hx1 Z0 E_a F_v F_c n_c g_a cs fm SS O0) e0 (by decide) (by decide) (by decide) (by decide) rfl pd__28_5bCIILjava_2flang_2fVoid_3b_29V rfl rfl (Nat.le_of_eq rfl) ?_
  rintro _ T1 L1 X1 (⟨b1, k1, rfl, N1q, K1, Ei1, Fv1, Fc1, A1⟩)
  · have N1 := Fr.app N0 N1q
    have O1 := O0.keep K1 (allS g_a all0)
    have Z1 := Nat.le_trans Z0 K1.1
    have E1_q1 := E_a.keep K1
    have A1_q2 := A_c.keep K1 (ninS n_c nin0)
    have K1t := (Keep.refl h0 [q1]).trans K1 (allS (Or.inl (List.mem_of_getElem? (i := 0) rfl)) all0)
    show GoE p e below _ (T1.setTop (mkF m 9 #[.val (.ref q1), .val (.ref q2)] []))
    exact g_retV (Q := (fun v h L => ∃ (b : Addr) (k : ClassId), v = none ∧ Fr n0 L ∧ Keep h0 h [q1] ∧ Exa Z h q1 "java/lang/String" ∧ Fld Z h q1 "java/lang/String" "value" "[B" (.ref b) ∧ Fld Z h q1 "java/lang/String" "coder" "B" (.int (0 : Int32)) ∧ Arv Z h b k .byte (2 : Int32) [.int (lat x0), .int (lat x1)] (.int 0))) X1 hx hby d2_9 hret hlk (by decide) (by decide) ⟨b1, k1, rfl, N1, K1t, Ei1, Fv1, Fc1, A1⟩
theorem ef_rmS13 (q1 : Addr) (q2 : Addr) (m : MethodId) : entryFrame m #[.ref q1, .ref q2] 2 = mkF m 0 #[.val (.ref q1), .val (.ref q2)] [] := by
  first | (simp [entryFrame, mkF, argsToLocals, Value.category]; done) | rfl
set_option maxRecDepth 65536 in
set_option maxHeartbeats 40000000 in
theorem rmS13 (l : Launch) (Z : State) (a0 : Array Value) (hw : ∀ d ∈ tables_1, d.before a0 Z = true) (ws : List Jvm.Cond) (q1 : Addr) (q2 : Addr) (h0 : Heap) (n0 : Nat) (x0 x1 x2 : Int32) (kc : ClassId) (A_c : Arv Z h0 q2 kc .char (3 : Int32) [.int x0, .int x1, .int x2] (.int 0)) (hx0 : BY x0) (hx1 : BY x1) (hx2 : BY x2) (Z0 : n0 ≤ h0.size) (E_a : Exa Z h0 q1 "java/lang/String") (F_v : Fld Z h0 q1 "java/lang/String" "value" "[B" (.null)) (F_c : Fld Z h0 q1 "java/lang/String" "coder" "B" (.int (0 : Int32))) (n_c : q2 ≠ q1) (g_a : n0 ≤ q1) (cs : Int32) (fm : Value) (SS : SSt Z cs fm) (O0 : Old Z n0 h0) :
    Ctr l Z ({ cls := "java/lang/String", name := "<init>", desc := "([C)V" } : Jvm.MethodName) jdk_42_method_3_code 2 none ws ({ frames := 3, cells := 1, slots := 7, locals := 52 } : Room) #[.ref q1, .ref q2] h0 (fun v h L => ∃ (b : Addr) (k : ClassId), v = none ∧ Fr n0 L ∧ Keep h0 h [q1] ∧ Exa Z h q1 "java/lang/String" ∧ Fld Z h q1 "java/lang/String" "value" "[B" (.ref b) ∧ Fld Z h q1 "java/lang/String" "coder" "B" (.int (0 : Int32)) ∧ Arv Z h b k .byte (3 : Int32) [.int (lat x0), .int (lat x1), .int (lat x2)] (.int 0)) := by
  refine Ctr.enter (Ls := #[.val (.ref q1), .val (.ref q2)]) (by decide +kernel) (fun m => ef_rmS13 q1 q2 m) ?_
  intro p e s m below meth c T hx hby hml hown hnm hret hlk hZ hh X0 e0
  have N0 := Fr.nil n0
  refine g_aloadN X0 hx hby d2_0 (pc' := 1) rfl rfl rfl ?_
  refine g_aloadN X0 hx hby d2_1 (pc' := 2) rfl rfl rfl ?_
  refine g_iconst X0 hx hby d2_2 (pc' := 3) rfl (z := (0 : Int32)) rfl ?_
  refine g_aloadN X0 hx hby d2_3 (pc' := 4) rfl rfl rfl ?_
  refine g_alen X0 hx hZ hby d2_4 (pc' := 5) rfl e0 A_c ?_
  refine g_aconstNull X0 hx hby d2_5 (pc' := 6) rfl ?_
  refine g_callI X0 hx hZ hown (W := 0) (argsL := [.ref q2, .int (0 : Int32), .int (3 : Int32), .null]) (b := q1) (rest := []) hby d2_6 (pc' := 9) rfl (by rw [hml]; rfl) (w_18 hw) (w_19 hw) (w_2 hw) (w_21 hw) rfl (by decide) (rmS43 l Z a0 hw [] q1 q2 h0 n0 x0 x1 x2 _ A_c hx0 hx1 hx2 Z0 E_a F_v F_c n_c g_a cs fm SS O0) e0 (by decide) (by decide) (by decide) (by decide) rfl pd__28_5bCIILjava_2flang_2fVoid_3b_29V rfl rfl (Nat.le_of_eq rfl) ?_
  rintro _ T1 L1 X1 (⟨b1, k1, rfl, N1q, K1, Ei1, Fv1, Fc1, A1⟩)
  · have N1 := Fr.app N0 N1q
    have O1 := O0.keep K1 (allS g_a all0)
    have Z1 := Nat.le_trans Z0 K1.1
    have E1_q1 := E_a.keep K1
    have A1_q2 := A_c.keep K1 (ninS n_c nin0)
    have K1t := (Keep.refl h0 [q1]).trans K1 (allS (Or.inl (List.mem_of_getElem? (i := 0) rfl)) all0)
    show GoE p e below _ (T1.setTop (mkF m 9 #[.val (.ref q1), .val (.ref q2)] []))
    exact g_retV (Q := (fun v h L => ∃ (b : Addr) (k : ClassId), v = none ∧ Fr n0 L ∧ Keep h0 h [q1] ∧ Exa Z h q1 "java/lang/String" ∧ Fld Z h q1 "java/lang/String" "value" "[B" (.ref b) ∧ Fld Z h q1 "java/lang/String" "coder" "B" (.int (0 : Int32)) ∧ Arv Z h b k .byte (3 : Int32) [.int (lat x0), .int (lat x1), .int (lat x2)] (.int 0))) X1 hx hby d2_9 hret hlk (by decide) (by decide) ⟨b1, k1, rfl, N1, K1t, Ei1, Fv1, Fc1, A1⟩
theorem ef_rmS14 (q1 : Addr) (q2 : Addr) (m : MethodId) : entryFrame m #[.ref q1, .ref q2] 2 = mkF m 0 #[.val (.ref q1), .val (.ref q2)] [] := by
  first | (simp [entryFrame, mkF, argsToLocals, Value.category]; done) | rfl
set_option maxRecDepth 65536 in
set_option maxHeartbeats 40000000 in
theorem rmS14 (l : Launch) (Z : State) (a0 : Array Value) (hw : ∀ d ∈ tables_1, d.before a0 Z = true) (ws : List Jvm.Cond) (q1 : Addr) (q2 : Addr) (h0 : Heap) (n0 : Nat) (x0 x1 x2 x3 : Int32) (kc : ClassId) (A_c : Arv Z h0 q2 kc .char (4 : Int32) [.int x0, .int x1, .int x2, .int x3] (.int 0)) (hx0 : BY x0) (hx1 : BY x1) (hx2 : BY x2) (hx3 : BY x3) (Z0 : n0 ≤ h0.size) (E_a : Exa Z h0 q1 "java/lang/String") (F_v : Fld Z h0 q1 "java/lang/String" "value" "[B" (.null)) (F_c : Fld Z h0 q1 "java/lang/String" "coder" "B" (.int (0 : Int32))) (n_c : q2 ≠ q1) (g_a : n0 ≤ q1) (cs : Int32) (fm : Value) (SS : SSt Z cs fm) (O0 : Old Z n0 h0) :
    Ctr l Z ({ cls := "java/lang/String", name := "<init>", desc := "([C)V" } : Jvm.MethodName) jdk_42_method_3_code 2 none ws ({ frames := 3, cells := 1, slots := 7, locals := 52 } : Room) #[.ref q1, .ref q2] h0 (fun v h L => ∃ (b : Addr) (k : ClassId), v = none ∧ Fr n0 L ∧ Keep h0 h [q1] ∧ Exa Z h q1 "java/lang/String" ∧ Fld Z h q1 "java/lang/String" "value" "[B" (.ref b) ∧ Fld Z h q1 "java/lang/String" "coder" "B" (.int (0 : Int32)) ∧ Arv Z h b k .byte (4 : Int32) [.int (lat x0), .int (lat x1), .int (lat x2), .int (lat x3)] (.int 0)) := by
  refine Ctr.enter (Ls := #[.val (.ref q1), .val (.ref q2)]) (by decide +kernel) (fun m => ef_rmS14 q1 q2 m) ?_
  intro p e s m below meth c T hx hby hml hown hnm hret hlk hZ hh X0 e0
  have N0 := Fr.nil n0
  refine g_aloadN X0 hx hby d2_0 (pc' := 1) rfl rfl rfl ?_
  refine g_aloadN X0 hx hby d2_1 (pc' := 2) rfl rfl rfl ?_
  refine g_iconst X0 hx hby d2_2 (pc' := 3) rfl (z := (0 : Int32)) rfl ?_
  refine g_aloadN X0 hx hby d2_3 (pc' := 4) rfl rfl rfl ?_
  refine g_alen X0 hx hZ hby d2_4 (pc' := 5) rfl e0 A_c ?_
  refine g_aconstNull X0 hx hby d2_5 (pc' := 6) rfl ?_
  refine g_callI X0 hx hZ hown (W := 0) (argsL := [.ref q2, .int (0 : Int32), .int (4 : Int32), .null]) (b := q1) (rest := []) hby d2_6 (pc' := 9) rfl (by rw [hml]; rfl) (w_18 hw) (w_19 hw) (w_2 hw) (w_21 hw) rfl (by decide) (rmS44 l Z a0 hw [] q1 q2 h0 n0 x0 x1 x2 x3 _ A_c hx0 hx1 hx2 hx3 Z0 E_a F_v F_c n_c g_a cs fm SS O0) e0 (by decide) (by decide) (by decide) (by decide) rfl pd__28_5bCIILjava_2flang_2fVoid_3b_29V rfl rfl (Nat.le_of_eq rfl) ?_
  rintro _ T1 L1 X1 (⟨b1, k1, rfl, N1q, K1, Ei1, Fv1, Fc1, A1⟩)
  · have N1 := Fr.app N0 N1q
    have O1 := O0.keep K1 (allS g_a all0)
    have Z1 := Nat.le_trans Z0 K1.1
    have E1_q1 := E_a.keep K1
    have A1_q2 := A_c.keep K1 (ninS n_c nin0)
    have K1t := (Keep.refl h0 [q1]).trans K1 (allS (Or.inl (List.mem_of_getElem? (i := 0) rfl)) all0)
    show GoE p e below _ (T1.setTop (mkF m 9 #[.val (.ref q1), .val (.ref q2)] []))
    exact g_retV (Q := (fun v h L => ∃ (b : Addr) (k : ClassId), v = none ∧ Fr n0 L ∧ Keep h0 h [q1] ∧ Exa Z h q1 "java/lang/String" ∧ Fld Z h q1 "java/lang/String" "value" "[B" (.ref b) ∧ Fld Z h q1 "java/lang/String" "coder" "B" (.int (0 : Int32)) ∧ Arv Z h b k .byte (4 : Int32) [.int (lat x0), .int (lat x1), .int (lat x2), .int (lat x3)] (.int 0))) X1 hx hby d2_9 hret hlk (by decide) (by decide) ⟨b1, k1, rfl, N1, K1t, Ei1, Fv1, Fc1, A1⟩
theorem ef_rmS15 (q1 : Addr) (q2 : Addr) (m : MethodId) : entryFrame m #[.ref q1, .ref q2] 2 = mkF m 0 #[.val (.ref q1), .val (.ref q2)] [] := by
  first | (simp [entryFrame, mkF, argsToLocals, Value.category]; done) | rfl
set_option maxRecDepth 65536 in
set_option maxHeartbeats 40000000 in
theorem rmS15 (l : Launch) (Z : State) (a0 : Array Value) (hw : ∀ d ∈ tables_1, d.before a0 Z = true) (ws : List Jvm.Cond) (q1 : Addr) (q2 : Addr) (h0 : Heap) (n0 : Nat) (x0 x1 x2 x3 x4 : Int32) (kc : ClassId) (A_c : Arv Z h0 q2 kc .char (5 : Int32) [.int x0, .int x1, .int x2, .int x3, .int x4] (.int 0)) (hx0 : BY x0) (hx1 : BY x1) (hx2 : BY x2) (hx3 : BY x3) (hx4 : BY x4) (Z0 : n0 ≤ h0.size) (E_a : Exa Z h0 q1 "java/lang/String") (F_v : Fld Z h0 q1 "java/lang/String" "value" "[B" (.null)) (F_c : Fld Z h0 q1 "java/lang/String" "coder" "B" (.int (0 : Int32))) (n_c : q2 ≠ q1) (g_a : n0 ≤ q1) (cs : Int32) (fm : Value) (SS : SSt Z cs fm) (O0 : Old Z n0 h0) :
    Ctr l Z ({ cls := "java/lang/String", name := "<init>", desc := "([C)V" } : Jvm.MethodName) jdk_42_method_3_code 2 none ws ({ frames := 3, cells := 1, slots := 7, locals := 52 } : Room) #[.ref q1, .ref q2] h0 (fun v h L => ∃ (b : Addr) (k : ClassId), v = none ∧ Fr n0 L ∧ Keep h0 h [q1] ∧ Exa Z h q1 "java/lang/String" ∧ Fld Z h q1 "java/lang/String" "value" "[B" (.ref b) ∧ Fld Z h q1 "java/lang/String" "coder" "B" (.int (0 : Int32)) ∧ Arv Z h b k .byte (5 : Int32) [.int (lat x0), .int (lat x1), .int (lat x2), .int (lat x3), .int (lat x4)] (.int 0)) := by
  refine Ctr.enter (Ls := #[.val (.ref q1), .val (.ref q2)]) (by decide +kernel) (fun m => ef_rmS15 q1 q2 m) ?_
  intro p e s m below meth c T hx hby hml hown hnm hret hlk hZ hh X0 e0
  have N0 := Fr.nil n0
  refine g_aloadN X0 hx hby d2_0 (pc' := 1) rfl rfl rfl ?_
  refine g_aloadN X0 hx hby d2_1 (pc' := 2) rfl rfl rfl ?_
  refine g_iconst X0 hx hby d2_2 (pc' := 3) rfl (z := (0 : Int32)) rfl ?_
  refine g_aloadN X0 hx hby d2_3 (pc' := 4) rfl rfl rfl ?_
  refine g_alen X0 hx hZ hby d2_4 (pc' := 5) rfl e0 A_c ?_
  refine g_aconstNull X0 hx hby d2_5 (pc' := 6) rfl ?_
  refine g_callI X0 hx hZ hown (W := 0) (argsL := [.ref q2, .int (0 : Int32), .int (5 : Int32), .null]) (b := q1) (rest := []) hby d2_6 (pc' := 9) rfl (by rw [hml]; rfl) (w_18 hw) (w_19 hw) (w_2 hw) (w_21 hw) rfl (by decide) (rmS45 l Z a0 hw [] q1 q2 h0 n0 x0 x1 x2 x3 x4 _ A_c hx0 hx1 hx2 hx3 hx4 Z0 E_a F_v F_c n_c g_a cs fm SS O0) e0 (by decide) (by decide) (by decide) (by decide) rfl pd__28_5bCIILjava_2flang_2fVoid_3b_29V rfl rfl (Nat.le_of_eq rfl) ?_
  rintro _ T1 L1 X1 (⟨b1, k1, rfl, N1q, K1, Ei1, Fv1, Fc1, A1⟩)
  · have N1 := Fr.app N0 N1q
    have O1 := O0.keep K1 (allS g_a all0)
    have Z1 := Nat.le_trans Z0 K1.1
    have E1_q1 := E_a.keep K1
    have A1_q2 := A_c.keep K1 (ninS n_c nin0)
    have K1t := (Keep.refl h0 [q1]).trans K1 (allS (Or.inl (List.mem_of_getElem? (i := 0) rfl)) all0)
    show GoE p e below _ (T1.setTop (mkF m 9 #[.val (.ref q1), .val (.ref q2)] []))
    exact g_retV (Q := (fun v h L => ∃ (b : Addr) (k : ClassId), v = none ∧ Fr n0 L ∧ Keep h0 h [q1] ∧ Exa Z h q1 "java/lang/String" ∧ Fld Z h q1 "java/lang/String" "value" "[B" (.ref b) ∧ Fld Z h q1 "java/lang/String" "coder" "B" (.int (0 : Int32)) ∧ Arv Z h b k .byte (5 : Int32) [.int (lat x0), .int (lat x1), .int (lat x2), .int (lat x3), .int (lat x4)] (.int 0))) X1 hx hby d2_9 hret hlk (by decide) (by decide) ⟨b1, k1, rfl, N1, K1t, Ei1, Fv1, Fc1, A1⟩
theorem ef_rmS16 (q1 : Addr) (q2 : Addr) (m : MethodId) : entryFrame m #[.ref q1, .ref q2] 2 = mkF m 0 #[.val (.ref q1), .val (.ref q2)] [] := by
  first | (simp [entryFrame, mkF, argsToLocals, Value.category]; done) | rfl
set_option maxRecDepth 65536 in
set_option maxHeartbeats 40000000 in
theorem rmS16 (l : Launch) (Z : State) (a0 : Array Value) (hw : ∀ d ∈ tables_1, d.before a0 Z = true) (ws : List Jvm.Cond) (q1 : Addr) (q2 : Addr) (h0 : Heap) (n0 : Nat) (x0 x1 x2 x3 x4 x5 : Int32) (kc : ClassId) (A_c : Arv Z h0 q2 kc .char (6 : Int32) [.int x0, .int x1, .int x2, .int x3, .int x4, .int x5] (.int 0)) (hx0 : BY x0) (hx1 : BY x1) (hx2 : BY x2) (hx3 : BY x3) (hx4 : BY x4) (hx5 : BY x5) (Z0 : n0 ≤ h0.size) (E_a : Exa Z h0 q1 "java/lang/String") (F_v : Fld Z h0 q1 "java/lang/String" "value" "[B" (.null)) (F_c : Fld Z h0 q1 "java/lang/String" "coder" "B" (.int (0 : Int32))) (n_c : q2 ≠ q1) (g_a : n0 ≤ q1) (cs : Int32) (fm : Value) (SS : SSt Z cs fm) (O0 : Old Z n0 h0) :
    Ctr l Z ({ cls := "java/lang/String", name := "<init>", desc := "([C)V" } : Jvm.MethodName) jdk_42_method_3_code 2 none ws ({ frames := 3, cells := 1, slots := 7, locals := 52 } : Room) #[.ref q1, .ref q2] h0 (fun v h L => ∃ (b : Addr) (k : ClassId), v = none ∧ Fr n0 L ∧ Keep h0 h [q1] ∧ Exa Z h q1 "java/lang/String" ∧ Fld Z h q1 "java/lang/String" "value" "[B" (.ref b) ∧ Fld Z h q1 "java/lang/String" "coder" "B" (.int (0 : Int32)) ∧ Arv Z h b k .byte (6 : Int32) [.int (lat x0), .int (lat x1), .int (lat x2), .int (lat x3), .int (lat x4), .int (lat x5)] (.int 0)) := by
  refine Ctr.enter (Ls := #[.val (.ref q1), .val (.ref q2)]) (by decide +kernel) (fun m => ef_rmS16 q1 q2 m) ?_
  intro p e s m below meth c T hx hby hml hown hnm hret hlk hZ hh X0 e0
  have N0 := Fr.nil n0
  refine g_aloadN X0 hx hby d2_0 (pc' := 1) rfl rfl rfl ?_
  refine g_aloadN X0 hx hby d2_1 (pc' := 2) rfl rfl rfl ?_
  refine g_iconst X0 hx hby d2_2 (pc' := 3) rfl (z := (0 : Int32)) rfl ?_
  refine g_aloadN X0 hx hby d2_3 (pc' := 4) rfl rfl rfl ?_
  refine g_alen X0 hx hZ hby d2_4 (pc' := 5) rfl e0 A_c ?_
  refine g_aconstNull X0 hx hby d2_5 (pc' := 6) rfl ?_
  refine g_callI X0 hx hZ hown (W := 0) (argsL := [.ref q2, .int (0 : Int32), .int (6 : Int32), .null]) (b := q1) (rest := []) hby d2_6 (pc' := 9) rfl (by rw [hml]; rfl) (w_18 hw) (w_19 hw) (w_2 hw) (w_21 hw) rfl (by decide) (rmS46 l Z a0 hw [] q1 q2 h0 n0 x0 x1 x2 x3 x4 x5 _ A_c hx0 hx1 hx2 hx3 hx4 hx5 Z0 E_a F_v F_c n_c g_a cs fm SS O0) e0 (by decide) (by decide) (by decide) (by decide) rfl pd__28_5bCIILjava_2flang_2fVoid_3b_29V rfl rfl (Nat.le_of_eq rfl) ?_
  rintro _ T1 L1 X1 (⟨b1, k1, rfl, N1q, K1, Ei1, Fv1, Fc1, A1⟩)
  · have N1 := Fr.app N0 N1q
    have O1 := O0.keep K1 (allS g_a all0)
    have Z1 := Nat.le_trans Z0 K1.1
    have E1_q1 := E_a.keep K1
    have A1_q2 := A_c.keep K1 (ninS n_c nin0)
    have K1t := (Keep.refl h0 [q1]).trans K1 (allS (Or.inl (List.mem_of_getElem? (i := 0) rfl)) all0)
    show GoE p e below _ (T1.setTop (mkF m 9 #[.val (.ref q1), .val (.ref q2)] []))
    exact g_retV (Q := (fun v h L => ∃ (b : Addr) (k : ClassId), v = none ∧ Fr n0 L ∧ Keep h0 h [q1] ∧ Exa Z h q1 "java/lang/String" ∧ Fld Z h q1 "java/lang/String" "value" "[B" (.ref b) ∧ Fld Z h q1 "java/lang/String" "coder" "B" (.int (0 : Int32)) ∧ Arv Z h b k .byte (6 : Int32) [.int (lat x0), .int (lat x1), .int (lat x2), .int (lat x3), .int (lat x4), .int (lat x5)] (.int 0))) X1 hx hby d2_9 hret hlk (by decide) (by decide) ⟨b1, k1, rfl, N1, K1t, Ei1, Fv1, Fc1, A1⟩
theorem ef_rmS17 (q1 : Addr) (q2 : Addr) (m : MethodId) : entryFrame m #[.ref q1, .ref q2] 2 = mkF m 0 #[.val (.ref q1), .val (.ref q2)] [] := by
  first | (simp [entryFrame, mkF, argsToLocals, Value.category]; done) | rfl
set_option maxRecDepth 65536 in
set_option maxHeartbeats 40000000 in
theorem rmS17 (l : Launch) (Z : State) (a0 : Array Value) (hw : ∀ d ∈ tables_1, d.before a0 Z = true) (ws : List Jvm.Cond) (q1 : Addr) (q2 : Addr) (h0 : Heap) (n0 : Nat) (x0 x1 x2 x3 x4 x5 x6 : Int32) (kc : ClassId) (A_c : Arv Z h0 q2 kc .char (7 : Int32) [.int x0, .int x1, .int x2, .int x3, .int x4, .int x5, .int x6] (.int 0)) (hx0 : BY x0) (hx1 : BY x1) (hx2 : BY x2) (hx3 : BY x3) (hx4 : BY x4) (hx5 : BY x5) (hx6 : BY x6) (Z0 : n0 ≤ h0.size) (E_a : Exa Z h0 q1 "java/lang/String") (F_v : Fld Z h0 q1 "java/lang/String" "value" "[B" (.null)) (F_c : Fld Z h0 q1 "java/lang/String" "coder" "B" (.int (0 : Int32))) (n_c : q2 ≠ q1) (g_a : n0 ≤ q1) (cs : Int32) (fm : Value) (SS : SSt Z cs fm) (O0 : Old Z n0 h0) :
    Ctr l Z ({ cls := "java/lang/String", name := "<init>", desc := "([C)V" } : Jvm.MethodName) jdk_42_method_3_code 2 none ws ({ frames := 3, cells := 1, slots := 7, locals := 52 } : Room) #[.ref q1, .ref q2] h0 (fun v h L => ∃ (b : Addr) (k : ClassId), v = none ∧ Fr n0 L ∧ Keep h0 h [q1] ∧ Exa Z h q1 "java/lang/String" ∧ Fld Z h q1 "java/lang/String" "value" "[B" (.ref b) ∧ Fld Z h q1 "java/lang/String" "coder" "B" (.int (0 : Int32)) ∧ Arv Z h b k .byte (7 : Int32) [.int (lat x0), .int (lat x1), .int (lat x2), .int (lat x3), .int (lat x4), .int (lat x5), .int (lat x6)] (.int 0)) := by
  refine Ctr.enter (Ls := #[.val (.ref q1), .val (.ref q2)]) (by decide +kernel) (fun m => ef_rmS17 q1 q2 m) ?_
  intro p e s m below meth c T hx hby hml hown hnm hret hlk hZ hh X0 e0
  have N0 := Fr.nil n0
  refine g_aloadN X0 hx hby d2_0 (pc' := 1) rfl rfl rfl ?_
  refine g_aloadN X0 hx hby d2_1 (pc' := 2) rfl rfl rfl ?_
  refine g_iconst X0 hx hby d2_2 (pc' := 3) rfl (z := (0 : Int32)) rfl ?_
  refine g_aloadN X0 hx hby d2_3 (pc' := 4) rfl rfl rfl ?_
  refine g_alen X0 hx hZ hby d2_4 (pc' := 5) rfl e0 A_c ?_
  refine g_aconstNull X0 hx hby d2_5 (pc' := 6) rfl ?_
  refine g_callI X0 hx hZ hown (W := 0) (argsL := [.ref q2, .int (0 : Int32), .int (7 : Int32), .null]) (b := q1) (rest := []) hby d2_6 (pc' := 9) rfl (by rw [hml]; rfl) (w_18 hw) (w_19 hw) (w_2 hw) (w_21 hw) rfl (by decide) (rmS47 l Z a0 hw [] q1 q2 h0 n0 x0 x1 x2 x3 x4 x5 x6 _ A_c hx0 hx1 hx2 hx3 hx4 hx5 hx6 Z0 E_a F_v F_c n_c g_a cs fm SS O0) e0 (by decide) (by decide) (by decide) (by decide) rfl pd__28_5bCIILjava_2flang_2fVoid_3b_29V rfl rfl (Nat.le_of_eq rfl) ?_
  rintro _ T1 L1 X1 (⟨b1, k1, rfl, N1q, K1, Ei1, Fv1, Fc1, A1⟩)
  · have N1 := Fr.app N0 N1q
    have O1 := O0.keep K1 (allS g_a all0)
    have Z1 := Nat.le_trans Z0 K1.1
    have E1_q1 := E_a.keep K1
    have A1_q2 := A_c.keep K1 (ninS n_c nin0)
    have K1t := (Keep.refl h0 [q1]).trans K1 (allS (Or.inl (List.mem_of_getElem? (i := 0) rfl)) all0)
    show GoE p e below _ (T1.setTop (mkF m 9 #[.val (.ref q1), .val (.ref q2)] []))
    exact g_retV (Q := (fun v h L => ∃ (b : Addr) (k : ClassId), v = none ∧ Fr n0 L ∧ Keep h0 h [q1] ∧ Exa Z h q1 "java/lang/String" ∧ Fld Z h q1 "java/lang/String" "value" "[B" (.ref b) ∧ Fld Z h q1 "java/lang/String" "coder" "B" (.int (0 : Int32)) ∧ Arv Z h b k .byte (7 : Int32) [.int (lat x0), .int (lat x1), .int (lat x2), .int (lat x3), .int (lat x4), .int (lat x5), .int (lat x6)] (.int 0))) X1 hx hby d2_9 hret hlk (by decide) (by decide) ⟨b1, k1, rfl, N1, K1t, Ei1, Fv1, Fc1, A1⟩
theorem ef_rmS10 (q1 : Addr) (q2 : Addr) (m : MethodId) : entryFrame m #[.ref q1, .ref q2] 2 = mkF m 0 #[.val (.ref q1), .val (.ref q2)] [] := by
  first | (simp [entryFrame, mkF, argsToLocals, Value.category]; done) | rfl
set_option maxRecDepth 65536 in
set_option maxHeartbeats 40000000 in
theorem rmS10 (l : Launch) (Z : State) (a0 : Array Value) (hw : ∀ d ∈ tables_1, d.before a0 Z = true) (ws : List Jvm.Cond) (q1 : Addr) (q2 : Addr) (h0 : Heap) (n0 : Nat) (kc : ClassId) (A_c : Arv Z h0 q2 kc .char (0 : Int32) [] (.int 0))  (Z0 : n0 ≤ h0.size) (E_a : Exa Z h0 q1 "java/lang/String") (F_v : Fld Z h0 q1 "java/lang/String" "value" "[B" (.null)) (F_c : Fld Z h0 q1 "java/lang/String" "coder" "B" (.int (0 : Int32))) (n_c : q2 ≠ q1) (g_a : n0 ≤ q1) (cs : Int32) (fm : Value) (SS : SSt Z cs fm) (O0 : Old Z n0 h0) :
    CtrH ELs l Z ({ cls := "java/lang/String", name := "<init>", desc := "([C)V" } : Jvm.MethodName) jdk_42_method_3_code 2 none ws ({ frames := 2, cells := 4, slots := 8, locals := 29 } : Room) #[.ref q1, .ref q2] h0 (fun v h L => ∃ (b : Addr) (k : ClassId), v = none ∧ Fr n0 L ∧ Keep h0 h [q1] ∧ Exa Z h q1 "java/lang/String" ∧ Fld Z h q1 "java/lang/String" "value" "[B" (.ref b) ∧ Fld Z h q1 "java/lang/String" "coder" "B" (.int (0 : Int32)) ∧ Arv Z h b k .byte (0 : Int32) [] (.int 0)) := by
  refine CtrH.enter (Ls := #[.val (.ref q1), .val (.ref q2)]) (by decide +kernel) (fun m => ef_rmS10 q1 q2 m) ?_
  intro p e s m below meth c T hx hby hml hown hnm hret hlk hZ hh X0 e0 hS0 C0h
  have N0 := Fr.nil n0
  have S0q : Safe Z ELs s.vm h0 q1 := own_safe0 hZ.alike E_a F_v
  refine g_aloadN X0 hx hby d2_0 (pc' := 1) rfl rfl rfl ?_
  refine g_aloadN X0 hx hby d2_1 (pc' := 2) rfl rfl rfl ?_
  refine g_iconst X0 hx hby d2_2 (pc' := 3) rfl (z := (0 : Int32)) rfl ?_
  refine g_aloadN X0 hx hby d2_3 (pc' := 4) rfl rfl rfl ?_
  refine g_alen X0 hx hZ hby d2_4 (pc' := 5) rfl e0 A_c ?_
  refine g_aconstNull X0 hx hby d2_5 (pc' := 6) rfl ?_
  refine g_callIH X0 hx hZ hown (W := 0) (argsL := [.ref q2, .int (0 : Int32), .int (0 : Int32), .null]) (b := q1) (rest := []) hby d2_6 (pc' := 9) rfl (by rw [hml]; rfl) (w_18 hw) (w_19 hw) (w_2 hw) (w_21 hw) rfl (by decide) (rmS40 l Z a0 hw [] q1 q2 h0 n0  _ A_c  Z0 E_a F_v F_c n_c g_a cs fm SS O0) e0 hS0 (Nat.le_refl h0.size) (own_EL hw) C0h.1 (by decide) (by decide) (by decide) (by decide) rfl pd__28_5bCIILjava_2flang_2fVoid_3b_29V rfl rfl (Nat.le_of_eq rfl) ?_
  rintro _ T1 L1 X1 (⟨b1, k1, rfl, N1q, K1, Ei1, Fv1, Fc1, A1⟩) hS1 hZ1 hown1 C1h
  have N1 := Fr.app N0 N1q
  have sf1_q1 := C1h.safe E_a.lt S0q
  have C1c := C0h.trans C1h
  have O1 := O0.keep K1 (allS g_a all0)
  have Z1 := Nat.le_trans Z0 K1.1
  have E1_q1 := E_a.keep K1
  have A1_q2 := A_c.keep K1 (ninS n_c nin0)
  have K1t := (Keep.refl h0 [q1]).trans K1 (allS (Or.inl (List.mem_of_getElem? (i := 0) rfl)) all0)
  have Y1 := Nat.le_trans (Nat.le_refl h0.size) K1.1
  show GoE p e below _ (T1.setTop (mkF m 9 #[.val (.ref q1), .val (.ref q2)] []))
  refine GoH.of_go (a0 := a0) (fun v h L => ∃ (b : Addr) (k : ClassId), v = none ∧ Fr n0 L ∧ Keep h0 h [q1] ∧ Exa Z h q1 "java/lang/String" ∧ Fld Z h q1 "java/lang/String" "value" "[B" (.ref b) ∧ Fld Z h q1 "java/lang/String" "coder" "B" (.int (0 : Int32)) ∧ Arv Z h b k .byte (0 : Int32) [] (.int 0)) hS1 hZ1 (own_EL hw) ?_
  exact g_retV (Q := _) X1 hx hby d2_9 hret hlk (by decide) (by decide) ⟨⟨b1, k1, rfl, N1, K1t, Ei1, Fv1, Fc1, A1⟩, (Nat.le_refl T1.heap.size), C1c⟩
theorem ef_rmPI (q1 : Int32) (q2 : Int32) (q3 : Value) (r_q3 : q3.isRef = true) (m : MethodId) : entryFrame m #[.int q1, .int q2, q3] 3 = mkF m 0 #[.val (.int q1), .val (.int q2), .val (q3)] [] := by
  cases q3 <;> first | cases r_q3 | skip
  all_goals first | (simp [entryFrame, mkF, argsToLocals, Value.category]; done) | rfl
set_option maxRecDepth 65536 in
set_option maxHeartbeats 40000000 in
theorem rmPI (l : Launch) (Z : State) (a0 : Array Value) (hw : ∀ d ∈ tables_1, d.before a0 Z = true) (ws : List Jvm.Cond) (q1 : Int32) (q2 : Int32) (q3 : Value) (h0 : Heap) (n0 : Nat) (r_q3 : q3.isRef = true) (h1 : ¬ q1 < 0 ∧ q1 < q2) :
    Ctr l Z ({ cls := "jdk/internal/util/Preconditions", name := "checkIndex", desc := "(IILjava/util/function/BiFunction;)I" } : Jvm.MethodName) jdk_41_method_11_code 3 (some .int) ws ({ frames := 0, cells := 0, slots := 0, locals := 0 } : Room) #[.int q1, .int q2, q3] h0 (fun v h L => v = some (.int q1) ∧ Fr n0 L ∧ h = h0) := by
  refine Ctr.enter (Ls := #[.val (.int q1), .val (.int q2), .val (q3)]) (by decide +kernel) (fun m => ef_rmPI q1 q2 q3 r_q3 m) ?_
  intro p e s m below meth c T hx hby hml hown hnm hret hlk hZ hh X0 e0
  have N0 := Fr.nil n0
  refine g_iloadN X0 hx hby d19_0 (pc' := 1) rfl rfl ?_
  refine g_if_lt X0 hx hby d19_1 (by decide) (pc' := 9) (by decide) (pn := 4) rfl (fun z => absurd z h1.1) (fun hc1_1 => ?_)
  refine g_iloadN X0 hx hby d19_4 (pc' := 5) rfl rfl ?_
  refine g_iloadN X0 hx hby d19_5 (pc' := 6) rfl rfl ?_
  refine g_icmp_lt X0 hx hby d19_6 (by decide) (pc' := 16) (by decide) (pn := 9) rfl (fun hc6_2 => ?_) (fun z => absurd z (fun z => z h1.2))
  refine g_iloadN X0 hx hby d19_16 (pc' := 17) rfl rfl ?_
  exact g_retI (Q := (fun v h L => v = some (.int q1) ∧ Fr n0 L ∧ h = h0)) X0 hx hby d19_17 hret hlk (by decide) (by decide) ⟨rfl, N0, e0⟩
theorem ef_rmCI (q1 : Int32) (q2 : Int32) (m : MethodId) : entryFrame m #[.int q1, .int q2] 2 = mkF m 0 #[.val (.int q1), .val (.int q2)] [] := by
  first | (simp [entryFrame, mkF, argsToLocals, Value.category]; done) | rfl
set_option maxRecDepth 65536 in
set_option maxHeartbeats 40000000 in
theorem rmCI (l : Launch) (Z : State) (a0 : Array Value) (hw : ∀ d ∈ tables_1, d.before a0 Z = true) (ws : List Jvm.Cond) (q1 : Int32) (q2 : Int32) (h0 : Heap) (n0 : Nat) (h1 : ¬ q1 < 0 ∧ q1 < q2) (cs : Int32) (fm : Value) (SS : SSt Z cs fm) (O0 : Old Z n0 h0) :
    Ctr l Z ({ cls := "java/lang/String", name := "checkIndex", desc := "(II)V" } : Jvm.MethodName) jdk_42_method_155_code 2 none ws ({ frames := 1, cells := 0, slots := 0, locals := 14 } : Room) #[.int q1, .int q2] h0 (fun v h L => v = none ∧ Fr n0 L ∧ h = h0) := by
  refine Ctr.enter (Ls := #[.val (.int q1), .val (.int q2)]) (by decide +kernel) (fun m => ef_rmCI q1 q2 m) ?_
  intro p e s m below meth c T hx hby hml hown hnm hret hlk hZ hh X0 e0
  have N0 := Fr.nil n0
  refine g_iloadN X0 hx hby d18_0 (pc' := 1) rfl rfl ?_
  refine g_iloadN X0 hx hby d18_1 (pc' := 2) rfl rfl ?_
  refine g_getS X0 hx hZ hown hby d18_2 (pc' := 5) rfl (w_114 hw) e0 (SS.2.2.1.ext O0.2) ?_
  intro T1 X1 e1
  refine g_callS X1 hx hZ hown (W := 0) (argsL := [.int q1, .int q2, fm]) (rest := []) hby d18_5 (pc' := 8) rfl (by rw [hml]; rfl) (w_116 hw) (w_117 hw) (w_115 hw) (w_118 hw) (by decide) (rmPI l Z a0 hw [] q1 q2 fm h0 n0 SS.2.2.2 h1) e1 (by decide) (by decide) (by decide) (by decide) rfl pd__28IILjava_2futil_2ffunction_2fBiFunction_3b_29I rfl rfl (Nat.le_of_eq rfl) ?_
  rintro _ T2 L2 X2 ⟨rfl, N2q, e2⟩
  have N2 := Fr.app N0 N2q
  show GoE p e below _ (T2.setTop (mkF m 8 #[.val (.int q1), .val (.int q2)] [.int q1]))
  refine g_pop X2 hx hby d18_8 (pc' := 9) rfl rfl ?_
  exact g_retV (Q := (fun v h L => v = none ∧ Fr n0 L ∧ h = h0)) X2 hx hby d18_9 hret hlk (by decide) (by decide) ⟨rfl, N2, e2⟩
theorem ef_rmLC (q1 : Addr) (q2 : Int32) (m : MethodId) : entryFrame m #[.ref q1, .int q2] 2 = mkF m 0 #[.val (.ref q1), .val (.int q2)] [] := by
  first | (simp [entryFrame, mkF, argsToLocals, Value.category]; done) | rfl
set_option maxRecDepth 65536 in
set_option maxHeartbeats 40000000 in
theorem rmLC (l : Launch) (Z : State) (a0 : Array Value) (hw : ∀ d ∈ tables_1, d.before a0 Z = true) (ws : List Jvm.Cond) (q1 : Addr) (q2 : Int32) (h0 : Heap) (n0 : Nat) (z u : Int32) (kq : ClassId) (vs : List Value) (A_q : Arv Z h0 q1 kq .byte z vs (.int 0)) (h1 : ¬ q2 < 0 ∧ q2 < z) (hu : vs.getD q2.toNatClampNeg (.int 0) = .int u) (cs : Int32) (fm : Value) (SS : SSt Z cs fm) (O0 : Old Z n0 h0) :
    Ctr l Z ({ cls := "java/lang/StringLatin1", name := "charAt", desc := "([BI)C" } : Jvm.MethodName) jdk_43_method_2_code 2 (some .char) ws ({ frames := 2, cells := 0, slots := 0, locals := 27 } : Room) #[.ref q1, .int q2] h0 (fun v h L => v = some (.int (lch u)) ∧ Fr n0 L ∧ h = h0) := by
  refine Ctr.enter (Ls := #[.val (.ref q1), .val (.int q2)]) (by decide +kernel) (fun m => ef_rmLC q1 q2 m) ?_
  intro p e s m below meth c T hx hby hml hown hnm hret hlk hZ hh X0 e0
  have N0 := Fr.nil n0
  refine g_iloadN X0 hx hby d17_0 (pc' := 1) rfl rfl ?_
  refine g_aloadN X0 hx hby d17_1 (pc' := 2) rfl rfl rfl ?_
  refine g_alen X0 hx hZ hby d17_2 (pc' := 3) rfl e0 A_q ?_
  refine g_callS X0 hx hZ hown (W := 0) (argsL := [.int q2, .int z]) (rest := []) hby d17_3 (pc' := 6) rfl (by rw [hml]; rfl) (w_111 hw) (w_112 hw) (w_2 hw) (w_113 hw) (by decide) (rmCI l Z a0 hw [] q2 z h0 n0 h1 cs fm SS O0) e0 (by decide) (by decide) (by decide) (by decide) rfl pd__28II_29V rfl rfl (Nat.le_of_eq rfl) ?_
  rintro _ T1 L1 X1 ⟨rfl, N1q, e1⟩
  have N1 := Fr.app N0 N1q
  show GoE p e below _ (T1.setTop (mkF m 6 #[.val (.ref q1), .val (.int q2)] []))
  refine g_aloadN X1 hx hby d17_6 (pc' := 7) rfl rfl rfl ?_
  refine g_iloadN X1 hx hby d17_7 (pc' := 8) rfl rfl ?_
  refine g_baload X1 hx hZ hby d17_8 (pc' := 9) rfl e1 A_q h1 (v := .int u) hu ?_
  refine g_sipush X1 hx hby d17_9 (pc' := 12) rfl (z := (255 : Int32)) rfl ?_
  refine g_iand X1 hx hby d17_12 (pc' := 13) rfl ?_
  refine g_i2c X1 hx hby d17_13 (pc' := 14) rfl ?_
  exact g_retN (Q := (fun v h L => v = some (.int (lch u)) ∧ Fr n0 L ∧ h = h0)) (w := (u &&& (255 : Int32)).toUInt32.toUInt16.toUInt32.toInt32) X1 hx hby d17_14 hret (by simp) (own_narc (own_bl _)) hlk (by decide) (by decide) ⟨rfl, N1, e1⟩
theorem ef_rmIL (q1 : Addr) (m : MethodId) : entryFrame m #[.ref q1] 1 = mkF m 0 #[.val (.ref q1)] [] := by
  first | (simp [entryFrame, mkF, argsToLocals, Value.category]; done) | rfl
set_option maxRecDepth 65536 in
set_option maxHeartbeats 40000000 in
theorem rmIL (l : Launch) (Z : State) (a0 : Array Value) (hw : ∀ d ∈ tables_1, d.before a0 Z = true) (ws : List Jvm.Cond) (q1 : Addr) (h0 : Heap) (n0 : Nat) (C_1 : Fld Z h0 q1 "java/lang/String" "coder" "B" (.int (0 : Int32))) (cs : Int32) (fm : Value) (SS : SSt Z cs fm) (O0 : Old Z n0 h0) :
    Ctr l Z ({ cls := "java/lang/String", name := "isLatin1", desc := "()Z" } : Jvm.MethodName) jdk_42_method_154_code 1 (some .boolean) ws ({ frames := 0, cells := 0, slots := 0, locals := 0 } : Room) #[.ref q1] h0 (fun v h L => v = some (.int (1 : Int32)) ∧ Fr n0 L ∧ h = h0) := by
  refine Ctr.enter (Ls := #[.val (.ref q1)]) (by decide +kernel) (fun m => ef_rmIL q1 m) ?_
  intro p e s m below meth c T hx hby hml hown hnm hret hlk hZ hh X0 e0
  have N0 := Fr.nil n0
  refine g_getS X0 hx hZ hown hby d16_0 (pc' := 3) rfl (w_61 hw) e0 (SS.2.1.ext O0.2) ?_
  intro T1 X1 e1
  refine g_if_eq X1 hx hby d16_3 (by decide) (pc' := 17) (by decide) (pn := 6) rfl (fun z => absurd z SS.1) (fun hc3_2 => ?_)
  refine g_aloadN X1 hx hby d16_6 (pc' := 7) rfl rfl rfl ?_
  refine g_get X1 hx hZ hown hby d16_7 (pc' := 10) rfl (w_27 hw) e1 C_1 ?_
  intro T3 X3 e3
  refine g_if_ne X3 hx hby d16_10 (by decide) (pc' := 17) (by decide) (pn := 13) rfl (fun z => absurd z (by decide)) (fun _ => ?_)
  refine g_iconst X3 hx hby d16_13 (pc' := 14) rfl (z := (1 : Int32)) rfl ?_
  refine g_goto X3 hx hby d16_14 (by decide) (pc' := 18) (by decide) ?_
  exact g_retN (Q := (fun v h L => v = some (.int (1 : Int32)) ∧ Fr n0 L ∧ h = h0)) (w := (1 : Int32)) X3 hx hby d16_18 hret (by simp) (by first | decide | rfl) hlk (by decide) (by decide) ⟨rfl, N0, e3⟩
theorem ef_rmCD (q1 : Addr) (m : MethodId) : entryFrame m #[.ref q1] 1 = mkF m 0 #[.val (.ref q1)] [] := by
  first | (simp [entryFrame, mkF, argsToLocals, Value.category]; done) | rfl
set_option maxRecDepth 65536 in
set_option maxHeartbeats 40000000 in
theorem rmCD (l : Launch) (Z : State) (a0 : Array Value) (hw : ∀ d ∈ tables_1, d.before a0 Z = true) (ws : List Jvm.Cond) (q1 : Addr) (h0 : Heap) (n0 : Nat) (C_1 : Fld Z h0 q1 "java/lang/String" "coder" "B" (.int (0 : Int32))) (cs : Int32) (fm : Value) (SS : SSt Z cs fm) (O0 : Old Z n0 h0) :
    Ctr l Z ({ cls := "java/lang/String", name := "coder", desc := "()B" } : Jvm.MethodName) jdk_42_method_152_code 1 (some .byte) ws ({ frames := 0, cells := 0, slots := 0, locals := 0 } : Room) #[.ref q1] h0 (fun v h L => v = some (.int (0 : Int32)) ∧ Fr n0 L ∧ h = h0) := by
  refine Ctr.enter (Ls := #[.val (.ref q1)]) (by decide +kernel) (fun m => ef_rmCD q1 m) ?_
  intro p e s m below meth c T hx hby hml hown hnm hret hlk hZ hh X0 e0
  have N0 := Fr.nil n0
  refine g_getS X0 hx hZ hown hby d13_0 (pc' := 3) rfl (w_61 hw) e0 (SS.2.1.ext O0.2) ?_
  intro T1 X1 e1
  refine g_if_eq X1 hx hby d13_3 (by decide) (pc' := 13) (by decide) (pn := 6) rfl (fun z => absurd z SS.1) (fun hc3_2 => ?_)
  refine g_aloadN X1 hx hby d13_6 (pc' := 7) rfl rfl rfl ?_
  refine g_get X1 hx hZ hown hby d13_7 (pc' := 10) rfl (w_27 hw) e1 C_1 ?_
  intro T3 X3 e3
  refine g_goto X3 hx hby d13_10 (by decide) (pc' := 14) (by decide) ?_
  exact g_retN (Q := (fun v h L => v = some (.int (0 : Int32)) ∧ Fr n0 L ∧ h = h0)) (w := (0 : Int32)) X3 hx hby d13_14 hret (by simp) (by first | decide | rfl) hlk (by decide) (by decide) ⟨rfl, N0, e3⟩
theorem ef_rmSL (q1 : Addr) (m : MethodId) : entryFrame m #[.ref q1] 1 = mkF m 0 #[.val (.ref q1)] [] := by
  first | (simp [entryFrame, mkF, argsToLocals, Value.category]; done) | rfl
set_option maxRecDepth 65536 in
set_option maxHeartbeats 40000000 in
theorem rmSL (l : Launch) (Z : State) (a0 : Array Value) (hw : ∀ d ∈ tables_1, d.before a0 Z = true) (ws : List Jvm.Cond) (q1 : Addr) (h0 : Heap) (n0 : Nat) (bs : List Int32) (T_1 : Txt Z h0 q1 bs) (cs : Int32) (fm : Value) (SS : SSt Z cs fm) (O0 : Old Z n0 h0) :
    Ctr l Z ({ cls := "java/lang/String", name := "length", desc := "()I" } : Jvm.MethodName) jdk_42_method_54_code 1 (some .int) ws ({ frames := 1, cells := 0, slots := 0, locals := 13 } : Room) #[.ref q1] h0 (fun v h L => v = some (.int (Int32.ofNat bs.length)) ∧ Fr n0 L ∧ h = h0) := by
  refine Ctr.enter (Ls := #[.val (.ref q1)]) (by decide +kernel) (fun m => ef_rmSL q1 m) ?_
  intro p e s m below meth c T hx hby hml hown hnm hret hlk hZ hh X0 e0
  have N0 := Fr.nil n0
  obtain ⟨E_1, hl1, b1, k1, V_1, C_1, A_1⟩ := T_1
  refine g_aloadN X0 hx hby d12_0 (pc' := 1) rfl rfl rfl ?_
  refine g_get X0 hx hZ hown hby d12_1 (pc' := 4) rfl (w_26 hw) e0 V_1 ?_
  intro T1 X1 e1
  refine g_alen X1 hx hZ hby d12_4 (pc' := 5) rfl e1 A_1 ?_
  refine g_aloadN X1 hx hby d12_5 (pc' := 6) rfl rfl rfl ?_
  refine g_callV X1 hx hZ hown (W := 1) (argsL := []) (b := q1) (rest := [.int (Int32.ofNat bs.length)]) hby d12_6 (pc' := 9) rfl (by rw [hml]; rfl) (w_90 hw) (w_91 hw) (w_93 hw) (notFace_of_selects (args := #[]) (mvT hZ (w_93 hw))) (w_92 hw) (w_2 hw) (w_94 hw) (by decide) (rmCD l Z a0 hw [] q1 h0 n0 C_1 cs fm SS O0) e1 E_1 (by decide) (by decide) (by decide) (by decide) rfl pd__28_29B rfl rfl (Nat.le_of_eq rfl) ?_
  rintro _ T2 L2 X2 ⟨rfl, N2q, e2⟩
  have N2 := Fr.app N0 N2q
  show GoE p e below _ (T2.setTop (mkF m 9 #[.val (.ref q1)] [.int (0 : Int32), .int (Int32.ofNat bs.length)]))
  refine g_ishr X2 hx hby d12_9 (pc' := 10) rfl ?_
  exact g_retI (Q := (fun v h L => v = some (.int (Int32.ofNat bs.length)) ∧ Fr n0 L ∧ h = h0)) X2 hx hby d12_10 hret hlk (by decide) (by decide) ⟨congrArg (fun z : Int32 => some (Value.int z)) (own_shr0 _), N2, e2⟩
theorem ef_rmCA (q1 : Addr) (q2 : Int32) (m : MethodId) : entryFrame m #[.ref q1, .int q2] 2 = mkF m 0 #[.val (.ref q1), .val (.int q2)] [] := by
  first | (simp [entryFrame, mkF, argsToLocals, Value.category]; done) | rfl
set_option maxRecDepth 65536 in
set_option maxHeartbeats 40000000 in
theorem rmCA (l : Launch) (Z : State) (a0 : Array Value) (hw : ∀ d ∈ tables_1, d.before a0 Z = true) (ws : List Jvm.Cond) (q1 : Addr) (q2 : Int32) (h0 : Heap) (n0 : Nat) (bs : List Int32) (T_1 : Txt Z h0 q1 bs) (h1 : ¬ q2 < 0 ∧ q2 < Int32.ofNat bs.length) (cs : Int32) (fm : Value) (SS : SSt Z cs fm) (O0 : Old Z n0 h0) :
    Ctr l Z ({ cls := "java/lang/String", name := "charAt", desc := "(I)C" } : Jvm.MethodName) jdk_42_method_56_code 2 (some .char) ws ({ frames := 3, cells := 0, slots := 0, locals := 40 } : Room) #[.ref q1, .int q2] h0 (fun v h L => v = some (.int (lch (bs.getD q2.toNatClampNeg 0))) ∧ Fr n0 L ∧ h = h0) := by
  refine Ctr.enter (Ls := #[.val (.ref q1), .val (.int q2)]) (by decide +kernel) (fun m => ef_rmCA q1 q2 m) ?_
  intro p e s m below meth c T hx hby hml hown hnm hret hlk hZ hh X0 e0
  have N0 := Fr.nil n0
  obtain ⟨E_1, hl1, b1, k1, V_1, C_1, A_1⟩ := T_1
  refine g_aloadN X0 hx hby d15_0 (pc' := 1) rfl rfl rfl ?_
  refine g_callV X0 hx hZ hown (W := 0) (argsL := []) (b := q1) (rest := []) hby d15_1 (pc' := 4) rfl (by rw [hml]; rfl) (w_103 hw) (w_104 hw) (w_106 hw) (notFace_of_selects (args := #[]) (mvT hZ (w_106 hw))) (w_105 hw) (w_2 hw) (w_107 hw) (by decide) (rmIL l Z a0 hw [] q1 h0 n0 C_1 cs fm SS O0) e0 E_1 (by decide) (by decide) (by decide) (by decide) rfl pd__28_29Z rfl rfl (Nat.le_of_eq rfl) ?_
  rintro _ T1 L1 X1 ⟨rfl, N1q, e1⟩
  have N1 := Fr.app N0 N1q
  show GoE p e below _ (T1.setTop (mkF m 4 #[.val (.ref q1), .val (.int q2)] [.int (1 : Int32)]))
  refine g_if_eq X1 hx hby d15_4 (by decide) (pc' := 16) (by decide) (pn := 7) rfl (fun z => absurd z (by decide)) (fun _ => ?_)
  refine g_aloadN X1 hx hby d15_7 (pc' := 8) rfl rfl rfl ?_
  refine g_get X1 hx hZ hown hby d15_8 (pc' := 11) rfl (w_26 hw) e1 V_1 ?_
  intro T2 X2 e2
  refine g_iloadN X2 hx hby d15_11 (pc' := 12) rfl rfl ?_
  refine g_callS X2 hx hZ hown (W := 0) (argsL := [.ref b1, .int q2]) (rest := []) hby d15_12 (pc' := 15) rfl (by rw [hml]; rfl) (w_108 hw) (w_109 hw) (w_64 hw) (w_110 hw) (by decide) (rmLC l Z a0 hw [] b1 q2 h0 n0 _ (bs.getD q2.toNatClampNeg 0) _ _ A_1 h1 (own_getD _ _) cs fm SS O0) e2 (by decide) (by decide) (by decide) (by decide) rfl pd__28_5bBI_29C rfl rfl (Nat.le_of_eq rfl) ?_
  rintro _ T3 L3 X3 ⟨rfl, N3q, e3⟩
  have N3 := Fr.app N1 N3q
  show GoE p e below _ (T3.setTop (mkF m 15 #[.val (.ref q1), .val (.int q2)] [.int (lch (bs.getD q2.toNatClampNeg 0))]))
  exact g_retN (Q := (fun v h L => v = some (.int (lch (bs.getD q2.toNatClampNeg 0))) ∧ Fr n0 L ∧ h = h0)) (w := (lch (bs.getD q2.toNatClampNeg 0))) X3 hx hby d15_15 hret (by simp) (own_narc (own_bl _)) hlk (by decide) (by decide) ⟨rfl, N3, e3⟩
theorem ef_rmAT (q1 : Addr) (q2 : Int32) (q3 : Int32) (q4 : Int32) (m : MethodId) : entryFrame m #[.ref q1, .int q2, .int q3, .int q4] 4 = mkF m 0 #[.val (.ref q1), .val (.int q2), .val (.int q3), .val (.int q4)] [] := by
  first | (simp [entryFrame, mkF, argsToLocals, Value.category]; done) | rfl
theorem pn_rmAT : plainName "com/example/phaseline/phaseline/game/KindNamedPinLaw" = true := by first | (simp [plainName, overriddenIn]; done) | decide +kernel
set_option maxRecDepth 65536 in
set_option maxHeartbeats 40000000 in
theorem rmAT (l : Launch) (Z : State) (a0 : Array Value) (hw : ∀ d ∈ tables_1, d.before a0 Z = true) (ws : List Jvm.Cond) (q1 : Addr) (q2 : Int32) (q3 : Int32) (q4 : Int32) (h0 : Heap) (n0 : Nat) (bs : List Int32) (T_1 : Txt Z h0 q1 bs) (hi : ¬ q2 < 0) (hc : BY q4) (cs : Int32) (fm : Value) (SS : SSt Z cs fm) (O0 : Old Z n0 h0) :
    Ctr l Z ({ cls := "com/example/phaseline/phaseline/game/KindNamedPinLaw", name := "at", desc := "(Ljava/lang/String;IIC)C" } : Jvm.MethodName) method_4_code 4 (some .char) ws ({ frames := 4, cells := 0, slots := 0, locals := 53 } : Room) #[.ref q1, .int q2, .int q3, .int q4] h0 (fun v h L => v = some (.int (atV bs q2 q3 q4)) ∧ Fr n0 L ∧ h = h0) := by
  refine Ctr.enter (Ls := #[.val (.ref q1), .val (.int q2), .val (.int q3), .val (.int q4)]) (plainFor_of_name pn_rmAT) (fun m => ef_rmAT q1 q2 q3 q4 m) ?_
  intro p e s m below meth c T hx hby hml hown hnm hret hlk hZ hh X0 e0
  have N0 := Fr.nil n0
  refine g_iloadN X0 hx hby d14_0 (pc' := 1) rfl rfl ?_
  refine g_iloadN X0 hx hby d14_1 (pc' := 2) rfl rfl ?_
  refine g_icmp_ne X0 hx hby d14_2 (by decide) (pc' := 7) (by decide) (pn := 5) rfl (fun hc2_1 => ?_) (fun hc2_1 => ?_)
  · refine g_iloadN X0 hx hby d14_7 (pc' := 8) rfl rfl ?_
    refine g_aloadN X0 hx hby d14_8 (pc' := 9) rfl rfl rfl ?_
    refine g_callV X0 hx hZ hown (W := 1) (argsL := []) (b := q1) (rest := [.int q2]) hby d14_9 (pc' := 12) rfl (by rw [hml]; rfl) (w_85 hw) (w_86 hw) (w_88 hw) (notFace_of_selects (args := #[]) (mvT hZ (w_88 hw))) (w_87 hw) (w_2 hw) (w_89 hw) (by decide) (rmSL l Z a0 hw [] q1 h0 n0 bs T_1 cs fm SS O0) e0 T_1.1 (by decide) (by decide) (by decide) (by decide) rfl pd__28_29I rfl rfl (Nat.le_of_eq rfl) ?_
    rintro _ T2 L2 X2 ⟨rfl, N2q, e2⟩
    have N2 := Fr.app N0 N2q
    show GoE p e below _ (T2.setTop (mkF m 12 #[.val (.ref q1), .val (.int q2), .val (.int q3), .val (.int q4)] [.int (Int32.ofNat bs.length), .int q2]))
    refine g_icmp_ge X2 hx hby d14_12 (by decide) (pc' := 21) (by decide) (pn := 15) rfl (fun hc12_3 => ?_) (fun hc12_3 => ?_)
    · refine g_iloadN X2 hx hby d14_21 (pc' := 22) rfl rfl ?_
      exact g_retN (Q := (fun v h L => v = some (.int (atV bs q2 q3 q4)) ∧ Fr n0 L ∧ h = h0)) (w := q4) X2 hx hby d14_22 hret (by simp) (own_narc hc) hlk (by decide) (by decide) ⟨congrArg (fun z : Int32 => some (Value.int z)) (by unfold atV; rw [if_neg hc2_1, if_neg hc12_3]), N2, e2⟩
    · refine g_aloadN X2 hx hby d14_15 (pc' := 16) rfl rfl rfl ?_
      refine g_iloadN X2 hx hby d14_16 (pc' := 17) rfl rfl ?_
      refine g_callV X2 hx hZ hown (W := 0) (argsL := [.int q2]) (b := q1) (rest := []) hby d14_17 (pc' := 20) rfl (by rw [hml]; rfl) (w_98 hw) (w_99 hw) (w_101 hw) (notFace_of_selects (args := #[]) (mvT hZ (w_101 hw))) (w_100 hw) (w_2 hw) (w_102 hw) (by decide) (rmCA l Z a0 hw [] q1 q2 h0 n0 bs T_1 ⟨hi, hc12_3⟩ cs fm SS O0) e2 T_1.1 (by decide) (by decide) (by decide) (by decide) rfl pd__28I_29C rfl rfl (Nat.le_of_eq rfl) ?_
      rintro _ T4 L4 X4 ⟨rfl, N4q, e4⟩
      have N4 := Fr.app N2 N4q
      show GoE p e below _ (T4.setTop (mkF m 20 #[.val (.ref q1), .val (.int q2), .val (.int q3), .val (.int q4)] [.int (lch (bs.getD q2.toNatClampNeg 0))]))
      exact g_retN (Q := (fun v h L => v = some (.int (atV bs q2 q3 q4)) ∧ Fr n0 L ∧ h = h0)) (w := (lch (bs.getD q2.toNatClampNeg 0))) X4 hx hby d14_20 hret (by simp) (own_narc (own_bl _)) hlk (by decide) (by decide) ⟨congrArg (fun z : Int32 => some (Value.int z)) (by unfold atV; rw [if_neg hc2_1, if_pos hc12_3]), N4, e4⟩
  · refine g_iloadN X0 hx hby d14_5 (pc' := 6) rfl rfl ?_
    exact g_retN (Q := (fun v h L => v = some (.int (atV bs q2 q3 q4)) ∧ Fr n0 L ∧ h = h0)) (w := q4) X0 hx hby d14_6 hret (by simp) (own_narc hc) hlk (by decide) (by decide) ⟨congrArg (fun z : Int32 => some (Value.int z)) (by unfold atV; rw [if_pos hc2_1]), N0, e0⟩
theorem ef_rmB (q1 : Addr) (q2 : Int32) (q3 : Int32) (q4 : Int32) (m : MethodId) : entryFrame m #[.ref q1, .int q2, .int q3, .int q4] 5 = mkF m 0 #[.val (.ref q1), .val (.int q2), .val (.int q3), .val (.int q4), .unset] [] := by
  first | (simp [entryFrame, mkF, argsToLocals, Value.category]; done) | rfl
theorem pn_rmB : plainName "com/example/phaseline/phaseline/game/KindNamedPinLaw" = true := by first | (simp [plainName, overriddenIn]; done) | decide +kernel
set_option maxRecDepth 65536 in
set_option maxHeartbeats 40000000 in
theorem rmB (l : Launch) (Z : State) (a0 : Array Value) (hw : ∀ d ∈ tables_1, d.before a0 Z = true) (ws : List Jvm.Cond) (q1 : Addr) (q2 : Int32) (q3 : Int32) (q4 : Int32) (h0 : Heap) (n0 : Nat) (bs : List Int32) (T_1 : Txt Z h0 q1 bs) (hc : BY q4) (Z0 : n0 ≤ h0.size) (cs : Int32) (fm : Value) (SS : SSt Z cs fm) (O0 : Old Z n0 h0) :
    CtrH ELs l Z ({ cls := "com/example/phaseline/phaseline/game/KindNamedPinLaw", name := "build", desc := "(Ljava/lang/String;IIC)Ljava/lang/String;" } : Jvm.MethodName) method_5_code 5 (some (.object "java/lang/String")) ws ({ frames := 5, cells := 6, slots := 18, locals := 70 } : Room) #[.ref q1, .int q2, .int q3, .int q4] h0 (fun v h L => ∃ b : Addr, v = some (.ref b) ∧ Fr n0 L ∧ Keep h0 h [] ∧ h0.size ≤ b ∧ Txt Z h b (buildL bs q2 q3 q4)) := by
  refine CtrH.enter (Ls := #[.val (.ref q1), .val (.int q2), .val (.int q3), .val (.int q4), .unset]) (plainFor_of_name pn_rmB) (fun m => ef_rmB q1 q2 q3 q4 m) ?_
  intro p e s m below meth c T hx hby hml hown hnm hret hlk hZ hh X0 e0 hS0 C0h
  have N0 := Fr.nil n0
  refine g_iloadN X0 hx hby d1_0 (pc' := 1) rfl rfl ?_
  refine g_if_ne X0 hx hby d1_1 (by decide) (pc' := 12) (by decide) (pn := 4) rfl (fun hc1_1 => ?_) (fun hc1_1 => ?_)
  · refine g_iloadN X0 hx hby d1_12 (pc' := 13) rfl rfl ?_
    refine g_iconst X0 hx hby d1_13 (pc' := 14) rfl (z := (1 : Int32)) rfl ?_
    refine g_icmp_ne X0 hx hby d1_14 (by decide) (pc' := 25) (by decide) (pn := 17) rfl (fun hc14_2 => ?_) (fun hc14_2 => ?_)
    · refine g_iloadN X0 hx hby d1_25 (pc' := 26) rfl rfl ?_
      refine g_iconst X0 hx hby d1_26 (pc' := 27) rfl (z := (2 : Int32)) rfl ?_
      refine g_icmp_ne X0 hx hby d1_27 (by decide) (pc' := 38) (by decide) (pn := 30) rfl (fun hc27_3 => ?_) (fun hc27_3 => ?_)
      · refine g_iloadN X0 hx hby d1_38 (pc' := 39) rfl rfl ?_
        refine g_iconst X0 hx hby d1_39 (pc' := 40) rfl (z := (3 : Int32)) rfl ?_
        refine g_icmp_ne X0 hx hby d1_40 (by decide) (pc' := 51) (by decide) (pn := 43) rfl (fun hc40_4 => ?_) (fun hc40_4 => ?_)
        · refine g_iloadN X0 hx hby d1_51 (pc' := 52) rfl rfl ?_
          refine g_iconst X0 hx hby d1_52 (pc' := 53) rfl (z := (4 : Int32)) rfl ?_
          refine g_icmp_ne X0 hx hby d1_53 (by decide) (pc' := 64) (by decide) (pn := 56) rfl (fun hc53_5 => ?_) (fun hc53_5 => ?_)
          · refine g_iloadN X0 hx hby d1_64 (pc' := 65) rfl rfl ?_
            refine g_iconst X0 hx hby d1_65 (pc' := 66) rfl (z := (5 : Int32)) rfl ?_
            refine g_icmp_ne X0 hx hby d1_66 (by decide) (pc' := 77) (by decide) (pn := 69) rfl (fun hc66_6 => ?_) (fun hc66_6 => ?_)
            · refine g_iloadN X0 hx hby d1_77 (pc' := 78) rfl rfl ?_
              refine g_bipush X0 hx hby d1_78 (pc' := 80) rfl (z := (6 : Int32)) rfl ?_
              refine g_icmp_ne X0 hx hby d1_80 (by decide) (pc' := 92) (by decide) (pn := 83) rfl (fun hc80_7 => ?_) (fun hc80_7 => ?_)
              · refine g_bipush X0 hx hby d1_92 (pc' := 94) rfl (z := (7 : Int32)) rfl ?_
                refine g_newarray X0 hx hZ 7  "[C" hby d1_94 (pc' := 96) rfl (w_13 hw) e0 (by decide) (by decide) (by decide) (by decide) (by decide) rfl ?_
                intro T8 b8 c8 hb8 X8 E8 A8v A8x
                have sf8_b8 := Safe.ext E8 C0h.1 (Safe.new (Nat.le_of_eq hb8.symm))
                have C8c := C0h.trans (CHr.ext E8 C0h.1)
                have O8o := O0.ext E8
                have K8 := (Keep.refl h0 []).ext E8
                have Z8 := Nat.le_trans Z0 E8.1
                have Y8 := Nat.le_trans (Nat.le_refl h0.size) E8.1
                have A8 : Arv Z T8.heap b8 c8 .char (7 : Int32) [.int 0, .int 0, .int 0, .int 0, .int 0, .int 0, .int 0] (.int 0) := A8v
                refine g_astore X8 hx hby d1_96 (pc' := 98) rfl rfl (l' := #[.val (.ref q1), .val (.int q2), .val (.int q3), .val (.int q4), .val (.ref b8)]) rfl ?_
                refine g_aload X8 hx hby d1_98 (pc' := 100) rfl rfl rfl ?_
                refine g_alen X8 hx hZ hby d1_100 (pc' := 101) rfl rfl A8 ?_
                refine g_if_le X8 hx hby d1_101 (by decide) (pc' := 115) (by decide) (pn := 104) rfl (fun z => absurd z (by decide)) (fun _ => ?_)
                refine g_aload X8 hx hby d1_104 (pc' := 106) rfl rfl rfl ?_
                refine g_iconst X8 hx hby d1_106 (pc' := 107) rfl (z := (0 : Int32)) rfl ?_
                refine g_aloadN X8 hx hby d1_107 (pc' := 108) rfl rfl rfl ?_
                refine g_iconst X8 hx hby d1_108 (pc' := 109) rfl (z := (0 : Int32)) rfl ?_
                refine g_iloadN X8 hx hby d1_109 (pc' := 110) rfl rfl ?_
                refine g_iloadN X8 hx hby d1_110 (pc' := 111) rfl rfl ?_
                refine g_callS X8 hx hZ hown (W := 2) (argsL := [.ref q1, .int (0 : Int32), .int q3, .int q4]) (rest := [.int (0 : Int32), .ref b8]) hby d1_111 (pc' := 114) rfl (by rw [hml]; rfl) (w_95 hw) (w_96 hw) (w_11 hw) (w_97 hw) (by decide) (rmAT l Z a0 hw [] q1 (0 : Int32) q3 q4 T8.heap n0 bs (T_1.keep0 K8) (by decide) hc cs fm SS O8o) rfl (by decide) (by decide) (by decide) (by decide) rfl pd__28Ljava_2flang_2fString_3bIIC_29C rfl rfl (Nat.le_of_eq rfl) ?_
                rintro _ T9 L9 X9 ⟨rfl, N9q, e9⟩
                have N9 := Fr.app N0 N9q
                show GoE p e below _ (T9.setTop (mkF m 114 #[.val (.ref q1), .val (.int q2), .val (.int q3), .val (.int q4), .val (.ref b8)] [.int (atV bs (0 : Int32) q3 q4), .int (0 : Int32), .ref b8]))
                refine g_castore X9 hx hZ 0 hby d1_114 (pc' := 115) rfl e9 A8 (by decide) (by decide) (by first | decide | simp) ?_
                intro T10 X10 W10 A10v
                have N10 := Fr.snoc X10 N9 (Nat.le_trans Z0 (Nat.le_of_eq hb8.symm))
                have sf10_b8 := Safe.wr W10 sf8_b8 C8c.1 sf8_b8
                have C10c := C8c.trans (CHr.wr W10 sf8_b8 C8c.1)
                have O10 := O8o.wr W10 (Nat.le_trans Z0 (Nat.le_of_eq hb8.symm))
                have K10 := K8.wr W10 (Or.inr (Nat.le_trans (Keep.refl h0 []).1 (Nat.le_of_eq hb8.symm)))
                have Z10 : n0 ≤ T10.heap.size := (W10.size ▸ Z8)
                have Y10 := Nat.le_trans Y8 (Nat.le_of_eq W10.size.symm)
                have E10_b8 := A8x.wr W10
                have A10 : Arv Z T10.heap b8 c8 .char (7 : Int32) [.int (nar .char (atV bs (0 : Int32) q3 q4)), .int 0, .int 0, .int 0, .int 0, .int 0, .int 0] (.int 0) := A10v
                refine g_aload X10 hx hby d1_115 (pc' := 117) rfl rfl rfl ?_
                refine g_alen X10 hx hZ hby d1_117 (pc' := 118) rfl rfl A10 ?_
                refine g_iconst X10 hx hby d1_118 (pc' := 119) rfl (z := (1 : Int32)) rfl ?_
                refine g_icmp_le X10 hx hby d1_119 (by decide) (pc' := 133) (by decide) (pn := 122) rfl (fun z => absurd z (by decide)) (fun _ => ?_)
                refine g_aload X10 hx hby d1_122 (pc' := 124) rfl rfl rfl ?_
                refine g_iconst X10 hx hby d1_124 (pc' := 125) rfl (z := (1 : Int32)) rfl ?_
                refine g_aloadN X10 hx hby d1_125 (pc' := 126) rfl rfl rfl ?_
                refine g_iconst X10 hx hby d1_126 (pc' := 127) rfl (z := (1 : Int32)) rfl ?_
                refine g_iloadN X10 hx hby d1_127 (pc' := 128) rfl rfl ?_
                refine g_iloadN X10 hx hby d1_128 (pc' := 129) rfl rfl ?_
                refine g_callS X10 hx hZ hown (W := 2) (argsL := [.ref q1, .int (1 : Int32), .int q3, .int q4]) (rest := [.int (1 : Int32), .ref b8]) hby d1_129 (pc' := 132) rfl (by rw [hml]; rfl) (w_95 hw) (w_96 hw) (w_11 hw) (w_97 hw) (by decide) (rmAT l Z a0 hw [] q1 (1 : Int32) q3 q4 T10.heap n0 bs (T_1.keep0 K10) (by decide) hc cs fm SS O10) rfl (by decide) (by decide) (by decide) (by decide) rfl pd__28Ljava_2flang_2fString_3bIIC_29C rfl rfl (Nat.le_of_eq rfl) ?_
                rintro _ T11 L11 X11 ⟨rfl, N11q, e11⟩
                have N11 := Fr.app N10 N11q
                show GoE p e below _ (T11.setTop (mkF m 132 #[.val (.ref q1), .val (.int q2), .val (.int q3), .val (.int q4), .val (.ref b8)] [.int (atV bs (1 : Int32) q3 q4), .int (1 : Int32), .ref b8]))
                refine g_castore X11 hx hZ 1 hby d1_132 (pc' := 133) rfl e11 A10 (by decide) (by decide) (by first | decide | simp) ?_
                intro T12 X12 W12 A12v
                have N12 := Fr.snoc X12 N11 (Nat.le_trans Z0 (Nat.le_of_eq hb8.symm))
                have sf12_b8 := Safe.wr W12 sf10_b8 C10c.1 sf10_b8
                have C12c := C10c.trans (CHr.wr W12 sf10_b8 C10c.1)
                have O12 := O10.wr W12 (Nat.le_trans Z0 (Nat.le_of_eq hb8.symm))
                have K12 := K10.wr W12 (Or.inr (Nat.le_trans (Keep.refl h0 []).1 (Nat.le_of_eq hb8.symm)))
                have Z12 : n0 ≤ T12.heap.size := (W12.size ▸ Z10)
                have Y12 := Nat.le_trans Y10 (Nat.le_of_eq W12.size.symm)
                have E12_b8 := E10_b8.wr W12
                have A12 : Arv Z T12.heap b8 c8 .char (7 : Int32) [.int (nar .char (atV bs (0 : Int32) q3 q4)), .int (nar .char (atV bs (1 : Int32) q3 q4)), .int 0, .int 0, .int 0, .int 0, .int 0] (.int 0) := A12v
                refine g_aload X12 hx hby d1_133 (pc' := 135) rfl rfl rfl ?_
                refine g_alen X12 hx hZ hby d1_135 (pc' := 136) rfl rfl A12 ?_
                refine g_iconst X12 hx hby d1_136 (pc' := 137) rfl (z := (2 : Int32)) rfl ?_
                refine g_icmp_le X12 hx hby d1_137 (by decide) (pc' := 151) (by decide) (pn := 140) rfl (fun z => absurd z (by decide)) (fun _ => ?_)
                refine g_aload X12 hx hby d1_140 (pc' := 142) rfl rfl rfl ?_
                refine g_iconst X12 hx hby d1_142 (pc' := 143) rfl (z := (2 : Int32)) rfl ?_
                refine g_aloadN X12 hx hby d1_143 (pc' := 144) rfl rfl rfl ?_
                refine g_iconst X12 hx hby d1_144 (pc' := 145) rfl (z := (2 : Int32)) rfl ?_
                refine g_iloadN X12 hx hby d1_145 (pc' := 146) rfl rfl ?_
                refine g_iloadN X12 hx hby d1_146 (pc' := 147) rfl rfl ?_
                refine g_callS X12 hx hZ hown (W := 2) (argsL := [.ref q1, .int (2 : Int32), .int q3, .int q4]) (rest := [.int (2 : Int32), .ref b8]) hby d1_147 (pc' := 150) rfl (by rw [hml]; rfl) (w_95 hw) (w_96 hw) (w_11 hw) (w_97 hw) (by decide) (rmAT l Z a0 hw [] q1 (2 : Int32) q3 q4 T12.heap n0 bs (T_1.keep0 K12) (by decide) hc cs fm SS O12) rfl (by decide) (by decide) (by decide) (by decide) rfl pd__28Ljava_2flang_2fString_3bIIC_29C rfl rfl (Nat.le_of_eq rfl) ?_
                rintro _ T13 L13 X13 ⟨rfl, N13q, e13⟩
                have N13 := Fr.app N12 N13q
                show GoE p e below _ (T13.setTop (mkF m 150 #[.val (.ref q1), .val (.int q2), .val (.int q3), .val (.int q4), .val (.ref b8)] [.int (atV bs (2 : Int32) q3 q4), .int (2 : Int32), .ref b8]))
                refine g_castore X13 hx hZ 2 hby d1_150 (pc' := 151) rfl e13 A12 (by decide) (by decide) (by first | decide | simp) ?_
                intro T14 X14 W14 A14v
                have N14 := Fr.snoc X14 N13 (Nat.le_trans Z0 (Nat.le_of_eq hb8.symm))
                have sf14_b8 := Safe.wr W14 sf12_b8 C12c.1 sf12_b8
                have C14c := C12c.trans (CHr.wr W14 sf12_b8 C12c.1)
                have O14 := O12.wr W14 (Nat.le_trans Z0 (Nat.le_of_eq hb8.symm))
                have K14 := K12.wr W14 (Or.inr (Nat.le_trans (Keep.refl h0 []).1 (Nat.le_of_eq hb8.symm)))
                have Z14 : n0 ≤ T14.heap.size := (W14.size ▸ Z12)
                have Y14 := Nat.le_trans Y12 (Nat.le_of_eq W14.size.symm)
                have E14_b8 := E12_b8.wr W14
                have A14 : Arv Z T14.heap b8 c8 .char (7 : Int32) [.int (nar .char (atV bs (0 : Int32) q3 q4)), .int (nar .char (atV bs (1 : Int32) q3 q4)), .int (nar .char (atV bs (2 : Int32) q3 q4)), .int 0, .int 0, .int 0, .int 0] (.int 0) := A14v
                refine g_aload X14 hx hby d1_151 (pc' := 153) rfl rfl rfl ?_
                refine g_alen X14 hx hZ hby d1_153 (pc' := 154) rfl rfl A14 ?_
                refine g_iconst X14 hx hby d1_154 (pc' := 155) rfl (z := (3 : Int32)) rfl ?_
                refine g_icmp_le X14 hx hby d1_155 (by decide) (pc' := 169) (by decide) (pn := 158) rfl (fun z => absurd z (by decide)) (fun _ => ?_)
                refine g_aload X14 hx hby d1_158 (pc' := 160) rfl rfl rfl ?_
                refine g_iconst X14 hx hby d1_160 (pc' := 161) rfl (z := (3 : Int32)) rfl ?_
                refine g_aloadN X14 hx hby d1_161 (pc' := 162) rfl rfl rfl ?_
                refine g_iconst X14 hx hby d1_162 (pc' := 163) rfl (z := (3 : Int32)) rfl ?_
                refine g_iloadN X14 hx hby d1_163 (pc' := 164) rfl rfl ?_
                refine g_iloadN X14 hx hby d1_164 (pc' := 165) rfl rfl ?_
                refine g_callS X14 hx hZ hown (W := 2) (argsL := [.ref q1, .int (3 : Int32), .int q3, .int q4]) (rest := [.int (3 : Int32), .ref b8]) hby d1_165 (pc' := 168) rfl (by rw [hml]; rfl) (w_95 hw) (w_96 hw) (w_11 hw) (w_97 hw) (by decide) (rmAT l Z a0 hw [] q1 (3 : Int32) q3 q4 T14.heap n0 bs (T_1.keep0 K14) (by decide) hc cs fm SS O14) rfl (by decide) (by decide) (by decide) (by decide) rfl pd__28Ljava_2flang_2fString_3bIIC_29C rfl rfl (Nat.le_of_eq rfl) ?_
                rintro _ T15 L15 X15 ⟨rfl, N15q, e15⟩
                have N15 := Fr.app N14 N15q
                show GoE p e below _ (T15.setTop (mkF m 168 #[.val (.ref q1), .val (.int q2), .val (.int q3), .val (.int q4), .val (.ref b8)] [.int (atV bs (3 : Int32) q3 q4), .int (3 : Int32), .ref b8]))
                refine g_castore X15 hx hZ 3 hby d1_168 (pc' := 169) rfl e15 A14 (by decide) (by decide) (by first | decide | simp) ?_
                intro T16 X16 W16 A16v
                have N16 := Fr.snoc X16 N15 (Nat.le_trans Z0 (Nat.le_of_eq hb8.symm))
                have sf16_b8 := Safe.wr W16 sf14_b8 C14c.1 sf14_b8
                have C16c := C14c.trans (CHr.wr W16 sf14_b8 C14c.1)
                have O16 := O14.wr W16 (Nat.le_trans Z0 (Nat.le_of_eq hb8.symm))
                have K16 := K14.wr W16 (Or.inr (Nat.le_trans (Keep.refl h0 []).1 (Nat.le_of_eq hb8.symm)))
                have Z16 : n0 ≤ T16.heap.size := (W16.size ▸ Z14)
                have Y16 := Nat.le_trans Y14 (Nat.le_of_eq W16.size.symm)
                have E16_b8 := E14_b8.wr W16
                have A16 : Arv Z T16.heap b8 c8 .char (7 : Int32) [.int (nar .char (atV bs (0 : Int32) q3 q4)), .int (nar .char (atV bs (1 : Int32) q3 q4)), .int (nar .char (atV bs (2 : Int32) q3 q4)), .int (nar .char (atV bs (3 : Int32) q3 q4)), .int 0, .int 0, .int 0] (.int 0) := A16v
                refine g_aload X16 hx hby d1_169 (pc' := 171) rfl rfl rfl ?_
                refine g_alen X16 hx hZ hby d1_171 (pc' := 172) rfl rfl A16 ?_
                refine g_iconst X16 hx hby d1_172 (pc' := 173) rfl (z := (4 : Int32)) rfl ?_
                refine g_icmp_le X16 hx hby d1_173 (by decide) (pc' := 187) (by decide) (pn := 176) rfl (fun z => absurd z (by decide)) (fun _ => ?_)
                refine g_aload X16 hx hby d1_176 (pc' := 178) rfl rfl rfl ?_
                refine g_iconst X16 hx hby d1_178 (pc' := 179) rfl (z := (4 : Int32)) rfl ?_
                refine g_aloadN X16 hx hby d1_179 (pc' := 180) rfl rfl rfl ?_
                refine g_iconst X16 hx hby d1_180 (pc' := 181) rfl (z := (4 : Int32)) rfl ?_
                refine g_iloadN X16 hx hby d1_181 (pc' := 182) rfl rfl ?_
                refine g_iloadN X16 hx hby d1_182 (pc' := 183) rfl rfl ?_
                refine g_callS X16 hx hZ hown (W := 2) (argsL := [.ref q1, .int (4 : Int32), .int q3, .int q4]) (rest := [.int (4 : Int32), .ref b8]) hby d1_183 (pc' := 186) rfl (by rw [hml]; rfl) (w_95 hw) (w_96 hw) (w_11 hw) (w_97 hw) (by decide) (rmAT l Z a0 hw [] q1 (4 : Int32) q3 q4 T16.heap n0 bs (T_1.keep0 K16) (by decide) hc cs fm SS O16) rfl (by decide) (by decide) (by decide) (by decide) rfl pd__28Ljava_2flang_2fString_3bIIC_29C rfl rfl (Nat.le_of_eq rfl) ?_
                rintro _ T17 L17 X17 ⟨rfl, N17q, e17⟩
                have N17 := Fr.app N16 N17q
                show GoE p e below _ (T17.setTop (mkF m 186 #[.val (.ref q1), .val (.int q2), .val (.int q3), .val (.int q4), .val (.ref b8)] [.int (atV bs (4 : Int32) q3 q4), .int (4 : Int32), .ref b8]))
                refine g_castore X17 hx hZ 4 hby d1_186 (pc' := 187) rfl e17 A16 (by decide) (by decide) (by first | decide | simp) ?_
                intro T18 X18 W18 A18v
                have N18 := Fr.snoc X18 N17 (Nat.le_trans Z0 (Nat.le_of_eq hb8.symm))
                have sf18_b8 := Safe.wr W18 sf16_b8 C16c.1 sf16_b8
                have C18c := C16c.trans (CHr.wr W18 sf16_b8 C16c.1)
                have O18 := O16.wr W18 (Nat.le_trans Z0 (Nat.le_of_eq hb8.symm))
                have K18 := K16.wr W18 (Or.inr (Nat.le_trans (Keep.refl h0 []).1 (Nat.le_of_eq hb8.symm)))
                have Z18 : n0 ≤ T18.heap.size := (W18.size ▸ Z16)
                have Y18 := Nat.le_trans Y16 (Nat.le_of_eq W18.size.symm)
                have E18_b8 := E16_b8.wr W18
                have A18 : Arv Z T18.heap b8 c8 .char (7 : Int32) [.int (nar .char (atV bs (0 : Int32) q3 q4)), .int (nar .char (atV bs (1 : Int32) q3 q4)), .int (nar .char (atV bs (2 : Int32) q3 q4)), .int (nar .char (atV bs (3 : Int32) q3 q4)), .int (nar .char (atV bs (4 : Int32) q3 q4)), .int 0, .int 0] (.int 0) := A18v
                refine g_aload X18 hx hby d1_187 (pc' := 189) rfl rfl rfl ?_
                refine g_alen X18 hx hZ hby d1_189 (pc' := 190) rfl rfl A18 ?_
                refine g_iconst X18 hx hby d1_190 (pc' := 191) rfl (z := (5 : Int32)) rfl ?_
                refine g_icmp_le X18 hx hby d1_191 (by decide) (pc' := 205) (by decide) (pn := 194) rfl (fun z => absurd z (by decide)) (fun _ => ?_)
                refine g_aload X18 hx hby d1_194 (pc' := 196) rfl rfl rfl ?_
                refine g_iconst X18 hx hby d1_196 (pc' := 197) rfl (z := (5 : Int32)) rfl ?_
                refine g_aloadN X18 hx hby d1_197 (pc' := 198) rfl rfl rfl ?_
                refine g_iconst X18 hx hby d1_198 (pc' := 199) rfl (z := (5 : Int32)) rfl ?_
                refine g_iloadN X18 hx hby d1_199 (pc' := 200) rfl rfl ?_
                refine g_iloadN X18 hx hby d1_200 (pc' := 201) rfl rfl ?_
                refine g_callS X18 hx hZ hown (W := 2) (argsL := [.ref q1, .int (5 : Int32), .int q3, .int q4]) (rest := [.int (5 : Int32), .ref b8]) hby d1_201 (pc' := 204) rfl (by rw [hml]; rfl) (w_95 hw) (w_96 hw) (w_11 hw) (w_97 hw) (by decide) (rmAT l Z a0 hw [] q1 (5 : Int32) q3 q4 T18.heap n0 bs (T_1.keep0 K18) (by decide) hc cs fm SS O18) rfl (by decide) (by decide) (by decide) (by decide) rfl pd__28Ljava_2flang_2fString_3bIIC_29C rfl rfl (Nat.le_of_eq rfl) ?_
                rintro _ T19 L19 X19 ⟨rfl, N19q, e19⟩
                have N19 := Fr.app N18 N19q
                show GoE p e below _ (T19.setTop (mkF m 204 #[.val (.ref q1), .val (.int q2), .val (.int q3), .val (.int q4), .val (.ref b8)] [.int (atV bs (5 : Int32) q3 q4), .int (5 : Int32), .ref b8]))
                refine g_castore X19 hx hZ 5 hby d1_204 (pc' := 205) rfl e19 A18 (by decide) (by decide) (by first | decide | simp) ?_
                intro T20 X20 W20 A20v
                have N20 := Fr.snoc X20 N19 (Nat.le_trans Z0 (Nat.le_of_eq hb8.symm))
                have sf20_b8 := Safe.wr W20 sf18_b8 C18c.1 sf18_b8
                have C20c := C18c.trans (CHr.wr W20 sf18_b8 C18c.1)
                have O20 := O18.wr W20 (Nat.le_trans Z0 (Nat.le_of_eq hb8.symm))
                have K20 := K18.wr W20 (Or.inr (Nat.le_trans (Keep.refl h0 []).1 (Nat.le_of_eq hb8.symm)))
                have Z20 : n0 ≤ T20.heap.size := (W20.size ▸ Z18)
                have Y20 := Nat.le_trans Y18 (Nat.le_of_eq W20.size.symm)
                have E20_b8 := E18_b8.wr W20
                have A20 : Arv Z T20.heap b8 c8 .char (7 : Int32) [.int (nar .char (atV bs (0 : Int32) q3 q4)), .int (nar .char (atV bs (1 : Int32) q3 q4)), .int (nar .char (atV bs (2 : Int32) q3 q4)), .int (nar .char (atV bs (3 : Int32) q3 q4)), .int (nar .char (atV bs (4 : Int32) q3 q4)), .int (nar .char (atV bs (5 : Int32) q3 q4)), .int 0] (.int 0) := A20v
                refine g_aload X20 hx hby d1_205 (pc' := 207) rfl rfl rfl ?_
                refine g_alen X20 hx hZ hby d1_207 (pc' := 208) rfl rfl A20 ?_
                refine g_bipush X20 hx hby d1_208 (pc' := 210) rfl (z := (6 : Int32)) rfl ?_
                refine g_icmp_le X20 hx hby d1_210 (by decide) (pc' := 226) (by decide) (pn := 213) rfl (fun z => absurd z (by decide)) (fun _ => ?_)
                refine g_aload X20 hx hby d1_213 (pc' := 215) rfl rfl rfl ?_
                refine g_bipush X20 hx hby d1_215 (pc' := 217) rfl (z := (6 : Int32)) rfl ?_
                refine g_aloadN X20 hx hby d1_217 (pc' := 218) rfl rfl rfl ?_
                refine g_bipush X20 hx hby d1_218 (pc' := 220) rfl (z := (6 : Int32)) rfl ?_
                refine g_iloadN X20 hx hby d1_220 (pc' := 221) rfl rfl ?_
                refine g_iloadN X20 hx hby d1_221 (pc' := 222) rfl rfl ?_
                refine g_callS X20 hx hZ hown (W := 2) (argsL := [.ref q1, .int (6 : Int32), .int q3, .int q4]) (rest := [.int (6 : Int32), .ref b8]) hby d1_222 (pc' := 225) rfl (by rw [hml]; rfl) (w_95 hw) (w_96 hw) (w_11 hw) (w_97 hw) (by decide) (rmAT l Z a0 hw [] q1 (6 : Int32) q3 q4 T20.heap n0 bs (T_1.keep0 K20) (by decide) hc cs fm SS O20) rfl (by decide) (by decide) (by decide) (by decide) rfl pd__28Ljava_2flang_2fString_3bIIC_29C rfl rfl (Nat.le_of_eq rfl) ?_
                rintro _ T21 L21 X21 ⟨rfl, N21q, e21⟩
                have N21 := Fr.app N20 N21q
                show GoE p e below _ (T21.setTop (mkF m 225 #[.val (.ref q1), .val (.int q2), .val (.int q3), .val (.int q4), .val (.ref b8)] [.int (atV bs (6 : Int32) q3 q4), .int (6 : Int32), .ref b8]))
                refine g_castore X21 hx hZ 6 hby d1_225 (pc' := 226) rfl e21 A20 (by decide) (by decide) (by first | decide | simp) ?_
                intro T22 X22 W22 A22v
                have N22 := Fr.snoc X22 N21 (Nat.le_trans Z0 (Nat.le_of_eq hb8.symm))
                have sf22_b8 := Safe.wr W22 sf20_b8 C20c.1 sf20_b8
                have C22c := C20c.trans (CHr.wr W22 sf20_b8 C20c.1)
                have O22 := O20.wr W22 (Nat.le_trans Z0 (Nat.le_of_eq hb8.symm))
                have K22 := K20.wr W22 (Or.inr (Nat.le_trans (Keep.refl h0 []).1 (Nat.le_of_eq hb8.symm)))
                have Z22 : n0 ≤ T22.heap.size := (W22.size ▸ Z20)
                have Y22 := Nat.le_trans Y20 (Nat.le_of_eq W22.size.symm)
                have E22_b8 := E20_b8.wr W22
                have A22 : Arv Z T22.heap b8 c8 .char (7 : Int32) [.int (nar .char (atV bs (0 : Int32) q3 q4)), .int (nar .char (atV bs (1 : Int32) q3 q4)), .int (nar .char (atV bs (2 : Int32) q3 q4)), .int (nar .char (atV bs (3 : Int32) q3 q4)), .int (nar .char (atV bs (4 : Int32) q3 q4)), .int (nar .char (atV bs (5 : Int32) q3 q4)), .int (nar .char (atV bs (6 : Int32) q3 q4))] (.int 0) := A22v
                have A23 : Arv Z T22.heap b8 c8 .char (7 : Int32) [.int (atV bs (0 : Int32) q3 q4), .int (atV bs (1 : Int32) q3 q4), .int (atV bs (2 : Int32) q3 q4), .int (atV bs (3 : Int32) q3 q4), .int (atV bs (4 : Int32) q3 q4), .int (atV bs (5 : Int32) q3 q4), .int (atV bs (6 : Int32) q3 q4)] (.int 0) := by
                  have z := A22
                  rw [own_narc (own_at bs (0 : Int32) q3 hc), own_narc (own_at bs (1 : Int32) q3 hc), own_narc (own_at bs (2 : Int32) q3 hc), own_narc (own_at bs (3 : Int32) q3 hc), own_narc (own_at bs (4 : Int32) q3 hc), own_narc (own_at bs (5 : Int32) q3 hc), own_narc (own_at bs (6 : Int32) q3 hc)] at z
                  exact z
                refine g_new X22 hx hZ hown hby d1_226 (pc' := 229) rfl (w_14 hw) (w_3 hw) (w_2 hw) rfl (by decide) (by decide) ?_
                intro T24 b24 hb24 X24 E24 A24 D24
                have sf24_b8 := Safe.ext E24 C22c.1 sf22_b8
                have sf24_b24 := Safe.ext E24 C22c.1 (Safe.new (Nat.le_of_eq hb24.symm))
                have C24c := C22c.trans (CHr.ext E24 C22c.1)
                have O24o := O22.ext E24
                have K24 := K22.ext E24
                have Z24 := Nat.le_trans Z22 E24.1
                have Y24 := Nat.le_trans Y22 E24.1
                have E24_b8 := E22_b8.ext E24
                have ne24_b8 : b8 ≠ b24 := hb24 ▸ Nat.ne_of_lt E22_b8.lt
                have A24_b8 := A23.ext E24
                have F24_value : Fld Z T24.heap b24 "java/lang/String" "value" "[B" (.null) := D24 (Or.inr (w_5 hw)) (ty := (.array .byte)) (by decide)
                have F24_coder : Fld Z T24.heap b24 "java/lang/String" "coder" "B" (.int (0 : Int32)) := D24 (Or.inr (w_6 hw)) (ty := .byte) (by decide)
                refine g_dup X24 hx hby d1_229 (pc' := 230) rfl rfl ?_
                refine g_aload X24 hx hby d1_230 (pc' := 232) rfl rfl rfl ?_
                refine g_callI X24 hx hZ hown (W := 1) (argsL := [.ref b8]) (b := b24) (rest := [.ref b24]) hby d1_232 (pc' := 235) rfl (by rw [hml]; rfl) (w_15 hw) (w_16 hw) (w_2 hw) (w_17 hw) rfl (by decide) (rmS17 l Z a0 hw [] b24 b8 T24.heap n0 (atV bs (0 : Int32) q3 q4) (atV bs (1 : Int32) q3 q4) (atV bs (2 : Int32) q3 q4) (atV bs (3 : Int32) q3 q4) (atV bs (4 : Int32) q3 q4) (atV bs (5 : Int32) q3 q4) (atV bs (6 : Int32) q3 q4) _ A24_b8 (own_at bs (0 : Int32) q3 hc) (own_at bs (1 : Int32) q3 hc) (own_at bs (2 : Int32) q3 hc) (own_at bs (3 : Int32) q3 hc) (own_at bs (4 : Int32) q3 hc) (own_at bs (5 : Int32) q3 hc) (own_at bs (6 : Int32) q3 hc) Z24 A24 F24_value F24_coder ne24_b8 (Nat.le_trans Z22 (Nat.le_of_eq hb24.symm)) cs fm SS O24o) rfl (by decide) (by decide) (by decide) (by decide) rfl pd__28_5bC_29V rfl rfl (Nat.le_of_eq rfl) ?_
                rintro _ T25 L25 X25 (⟨b25, k25, rfl, N25q, K25, Ei25, Fv25, Fc25, A25⟩)
                · have N25 := Fr.app N22 N25q
                  have C25h := CHr.keep K25 (allS sf24_b24 all0) C24c.1
                  have sf25_b8 := Safe.keep K25 (allS sf24_b24 all0) C24c.1 sf24_b8
                  have sf25_b24 := Safe.keep K25 (allS sf24_b24 all0) C24c.1 sf24_b24
                  have C25c := C24c.trans C25h
                  have O25 := O24o.keep K25 (allS (Nat.le_trans Z22 (Nat.le_of_eq hb24.symm)) all0)
                  have K25t := K24.trans K25 (allS (Or.inr (Nat.le_trans K22.1 (Nat.le_of_eq hb24.symm))) all0)
                  have Z25 := Nat.le_trans Z24 K25.1
                  have Y25 := Nat.le_trans Y24 K25.1
                  have E25_b8 := E24_b8.keep K25
                  have A25_b8 := A24_b8.keep K25 (ninS ne24_b8 nin0)
                  have E25_b24 := A24.keep K25
                  show GoE p e below _ (T25.setTop (mkF m 235 #[.val (.ref q1), .val (.int q2), .val (.int q3), .val (.int q4), .val (.ref b8)] [.ref b24]))
                  refine GoH.of_go (a0 := a0) (fun v h L => ∃ b : Addr, v = some (.ref b) ∧ Fr n0 L ∧ Keep h0 h [] ∧ h0.size ≤ b ∧ Txt Z h b (buildL bs q2 q3 q4)) hS0 hZ (own_EL hw) ?_
                  exact g_retA (Q := _) X25 hx hby d1_235 rfl hret rfl hlk (by decide) (by decide) ⟨⟨b24, rfl, N25, K25t, (Nat.le_trans K22.1 (Nat.le_of_eq hb24.symm)), (by unfold buildL; rw [if_neg hc1_1, if_neg hc14_2, if_neg hc27_3, if_neg hc40_4, if_neg hc53_5, if_neg hc66_6, if_neg hc80_7]; exact ⟨Ei25, by simp, b25, _, Fv25, Fc25, A25⟩)⟩, Y25, C25c⟩
              · refine g_bipush X0 hx hby d1_83 (pc' := 85) rfl (z := (6 : Int32)) rfl ?_
                refine g_newarray X0 hx hZ 6  "[C" hby d1_85 (pc' := 87) rfl (w_13 hw) e0 (by decide) (by decide) (by decide) (by decide) (by decide) rfl ?_
                intro T26 b26 c26 hb26 X26 E26 A26v A26x
                have sf26_b26 := Safe.ext E26 C0h.1 (Safe.new (Nat.le_of_eq hb26.symm))
                have C26c := C0h.trans (CHr.ext E26 C0h.1)
                have O26o := O0.ext E26
                have K26 := (Keep.refl h0 []).ext E26
                have Z26 := Nat.le_trans Z0 E26.1
                have Y26 := Nat.le_trans (Nat.le_refl h0.size) E26.1
                have A26 : Arv Z T26.heap b26 c26 .char (6 : Int32) [.int 0, .int 0, .int 0, .int 0, .int 0, .int 0] (.int 0) := A26v
                refine g_astore X26 hx hby d1_87 (pc' := 89) rfl rfl (l' := #[.val (.ref q1), .val (.int q2), .val (.int q3), .val (.int q4), .val (.ref b26)]) rfl ?_
                refine g_goto X26 hx hby d1_89 (by decide) (pc' := 98) (by decide) ?_
                refine g_aload X26 hx hby d1_98 (pc' := 100) rfl rfl rfl ?_
                refine g_alen X26 hx hZ hby d1_100 (pc' := 101) rfl rfl A26 ?_
                refine g_if_le X26 hx hby d1_101 (by decide) (pc' := 115) (by decide) (pn := 104) rfl (fun z => absurd z (by decide)) (fun _ => ?_)
                refine g_aload X26 hx hby d1_104 (pc' := 106) rfl rfl rfl ?_
                refine g_iconst X26 hx hby d1_106 (pc' := 107) rfl (z := (0 : Int32)) rfl ?_
                refine g_aloadN X26 hx hby d1_107 (pc' := 108) rfl rfl rfl ?_
                refine g_iconst X26 hx hby d1_108 (pc' := 109) rfl (z := (0 : Int32)) rfl ?_
                refine g_iloadN X26 hx hby d1_109 (pc' := 110) rfl rfl ?_
                refine g_iloadN X26 hx hby d1_110 (pc' := 111) rfl rfl ?_
                refine g_callS X26 hx hZ hown (W := 2) (argsL := [.ref q1, .int (0 : Int32), .int q3, .int q4]) (rest := [.int (0 : Int32), .ref b26]) hby d1_111 (pc' := 114) rfl (by rw [hml]; rfl) (w_95 hw) (w_96 hw) (w_11 hw) (w_97 hw) (by decide) (rmAT l Z a0 hw [] q1 (0 : Int32) q3 q4 T26.heap n0 bs (T_1.keep0 K26) (by decide) hc cs fm SS O26o) rfl (by decide) (by decide) (by decide) (by decide) rfl pd__28Ljava_2flang_2fString_3bIIC_29C rfl rfl (Nat.le_of_eq rfl) ?_
                rintro _ T27 L27 X27 ⟨rfl, N27q, e27⟩
                have N27 := Fr.app N0 N27q
                show GoE p e below _ (T27.setTop (mkF m 114 #[.val (.ref q1), .val (.int q2), .val (.int q3), .val (.int q4), .val (.ref b26)] [.int (atV bs (0 : Int32) q3 q4), .int (0 : Int32), .ref b26]))
                refine g_castore X27 hx hZ 0 hby d1_114 (pc' := 115) rfl e27 A26 (by decide) (by decide) (by first | decide | simp) ?_
                intro T28 X28 W28 A28v
                have N28 := Fr.snoc X28 N27 (Nat.le_trans Z0 (Nat.le_of_eq hb26.symm))
                have sf28_b26 := Safe.wr W28 sf26_b26 C26c.1 sf26_b26
                have C28c := C26c.trans (CHr.wr W28 sf26_b26 C26c.1)
                have O28 := O26o.wr W28 (Nat.le_trans Z0 (Nat.le_of_eq hb26.symm))
                have K28 := K26.wr W28 (Or.inr (Nat.le_trans (Keep.refl h0 []).1 (Nat.le_of_eq hb26.symm)))
                have Z28 : n0 ≤ T28.heap.size := (W28.size ▸ Z26)
                have Y28 := Nat.le_trans Y26 (Nat.le_of_eq W28.size.symm)
                have E28_b26 := A26x.wr W28
                have A28 : Arv Z T28.heap b26 c26 .char (6 : Int32) [.int (nar .char (atV bs (0 : Int32) q3 q4)), .int 0, .int 0, .int 0, .int 0, .int 0] (.int 0) := A28v
                refine g_aload X28 hx hby d1_115 (pc' := 117) rfl rfl rfl ?_
                refine g_alen X28 hx hZ hby d1_117 (pc' := 118) rfl rfl A28 ?_
                refine g_iconst X28 hx hby d1_118 (pc' := 119) rfl (z := (1 : Int32)) rfl ?_
                refine g_icmp_le X28 hx hby d1_119 (by decide) (pc' := 133) (by decide) (pn := 122) rfl (fun z => absurd z (by decide)) (fun _ => ?_)
                refine g_aload X28 hx hby d1_122 (pc' := 124) rfl rfl rfl ?_
                refine g_iconst X28 hx hby d1_124 (pc' := 125) rfl (z := (1 : Int32)) rfl ?_
                refine g_aloadN X28 hx hby d1_125 (pc' := 126) rfl rfl rfl ?_
                refine g_iconst X28 hx hby d1_126 (pc' := 127) rfl (z := (1 : Int32)) rfl ?_
                refine g_iloadN X28 hx hby d1_127 (pc' := 128) rfl rfl ?_
                refine g_iloadN X28 hx hby d1_128 (pc' := 129) rfl rfl ?_
                refine g_callS X28 hx hZ hown (W := 2) (argsL := [.ref q1, .int (1 : Int32), .int q3, .int q4]) (rest := [.int (1 : Int32), .ref b26]) hby d1_129 (pc' := 132) rfl (by rw [hml]; rfl) (w_95 hw) (w_96 hw) (w_11 hw) (w_97 hw) (by decide) (rmAT l Z a0 hw [] q1 (1 : Int32) q3 q4 T28.heap n0 bs (T_1.keep0 K28) (by decide) hc cs fm SS O28) rfl (by decide) (by decide) (by decide) (by decide) rfl pd__28Ljava_2flang_2fString_3bIIC_29C rfl rfl (Nat.le_of_eq rfl) ?_
                rintro _ T29 L29 X29 ⟨rfl, N29q, e29⟩
                have N29 := Fr.app N28 N29q
                show GoE p e below _ (T29.setTop (mkF m 132 #[.val (.ref q1), .val (.int q2), .val (.int q3), .val (.int q4), .val (.ref b26)] [.int (atV bs (1 : Int32) q3 q4), .int (1 : Int32), .ref b26]))
                refine g_castore X29 hx hZ 1 hby d1_132 (pc' := 133) rfl e29 A28 (by decide) (by decide) (by first | decide | simp) ?_
                intro T30 X30 W30 A30v
                have N30 := Fr.snoc X30 N29 (Nat.le_trans Z0 (Nat.le_of_eq hb26.symm))
                have sf30_b26 := Safe.wr W30 sf28_b26 C28c.1 sf28_b26
                have C30c := C28c.trans (CHr.wr W30 sf28_b26 C28c.1)
                have O30 := O28.wr W30 (Nat.le_trans Z0 (Nat.le_of_eq hb26.symm))
                have K30 := K28.wr W30 (Or.inr (Nat.le_trans (Keep.refl h0 []).1 (Nat.le_of_eq hb26.symm)))
                have Z30 : n0 ≤ T30.heap.size := (W30.size ▸ Z28)
                have Y30 := Nat.le_trans Y28 (Nat.le_of_eq W30.size.symm)
                have E30_b26 := E28_b26.wr W30
                have A30 : Arv Z T30.heap b26 c26 .char (6 : Int32) [.int (nar .char (atV bs (0 : Int32) q3 q4)), .int (nar .char (atV bs (1 : Int32) q3 q4)), .int 0, .int 0, .int 0, .int 0] (.int 0) := A30v
                refine g_aload X30 hx hby d1_133 (pc' := 135) rfl rfl rfl ?_
                refine g_alen X30 hx hZ hby d1_135 (pc' := 136) rfl rfl A30 ?_
                refine g_iconst X30 hx hby d1_136 (pc' := 137) rfl (z := (2 : Int32)) rfl ?_
                refine g_icmp_le X30 hx hby d1_137 (by decide) (pc' := 151) (by decide) (pn := 140) rfl (fun z => absurd z (by decide)) (fun _ => ?_)
                refine g_aload X30 hx hby d1_140 (pc' := 142) rfl rfl rfl ?_
                refine g_iconst X30 hx hby d1_142 (pc' := 143) rfl (z := (2 : Int32)) rfl ?_
                refine g_aloadN X30 hx hby d1_143 (pc' := 144) rfl rfl rfl ?_
                refine g_iconst X30 hx hby d1_144 (pc' := 145) rfl (z := (2 : Int32)) rfl ?_
                refine g_iloadN X30 hx hby d1_145 (pc' := 146) rfl rfl ?_
                refine g_iloadN X30 hx hby d1_146 (pc' := 147) rfl rfl ?_
                refine g_callS X30 hx hZ hown (W := 2) (argsL := [.ref q1, .int (2 : Int32), .int q3, .int q4]) (rest := [.int (2 : Int32), .ref b26]) hby d1_147 (pc' := 150) rfl (by rw [hml]; rfl) (w_95 hw) (w_96 hw) (w_11 hw) (w_97 hw) (by decide) (rmAT l Z a0 hw [] q1 (2 : Int32) q3 q4 T30.heap n0 bs (T_1.keep0 K30) (by decide) hc cs fm SS O30) rfl (by decide) (by decide) (by decide) (by decide) rfl pd__28Ljava_2flang_2fString_3bIIC_29C rfl rfl (Nat.le_of_eq rfl) ?_
                rintro _ T31 L31 X31 ⟨rfl, N31q, e31⟩
                have N31 := Fr.app N30 N31q
                show GoE p e below _ (T31.setTop (mkF m 150 #[.val (.ref q1), .val (.int q2), .val (.int q3), .val (.int q4), .val (.ref b26)] [.int (atV bs (2 : Int32) q3 q4), .int (2 : Int32), .ref b26]))
                refine g_castore X31 hx hZ 2 hby d1_150 (pc' := 151) rfl e31 A30 (by decide) (by decide) (by first | decide | simp) ?_
                intro T32 X32 W32 A32v
                have N32 := Fr.snoc X32 N31 (Nat.le_trans Z0 (Nat.le_of_eq hb26.symm))
                have sf32_b26 := Safe.wr W32 sf30_b26 C30c.1 sf30_b26
                have C32c := C30c.trans (CHr.wr W32 sf30_b26 C30c.1)
                have O32 := O30.wr W32 (Nat.le_trans Z0 (Nat.le_of_eq hb26.symm))
                have K32 := K30.wr W32 (Or.inr (Nat.le_trans (Keep.refl h0 []).1 (Nat.le_of_eq hb26.symm)))
                have Z32 : n0 ≤ T32.heap.size := (W32.size ▸ Z30)
                have Y32 := Nat.le_trans Y30 (Nat.le_of_eq W32.size.symm)
                have E32_b26 := E30_b26.wr W32
                have A32 : Arv Z T32.heap b26 c26 .char (6 : Int32) [.int (nar .char (atV bs (0 : Int32) q3 q4)), .int (nar .char (atV bs (1 : Int32) q3 q4)), .int (nar .char (atV bs (2 : Int32) q3 q4)), .int 0, .int 0, .int 0] (.int 0) := A32v
                refine g_aload X32 hx hby d1_151 (pc' := 153) rfl rfl rfl ?_
                refine g_alen X32 hx hZ hby d1_153 (pc' := 154) rfl rfl A32 ?_
                refine g_iconst X32 hx hby d1_154 (pc' := 155) rfl (z := (3 : Int32)) rfl ?_
                refine g_icmp_le X32 hx hby d1_155 (by decide) (pc' := 169) (by decide) (pn := 158) rfl (fun z => absurd z (by decide)) (fun _ => ?_)
                refine g_aload X32 hx hby d1_158 (pc' := 160) rfl rfl rfl ?_
                refine g_iconst X32 hx hby d1_160 (pc' := 161) rfl (z := (3 : Int32)) rfl ?_
                refine g_aloadN X32 hx hby d1_161 (pc' := 162) rfl rfl rfl ?_
                refine g_iconst X32 hx hby d1_162 (pc' := 163) rfl (z := (3 : Int32)) rfl ?_
                refine g_iloadN X32 hx hby d1_163 (pc' := 164) rfl rfl ?_
                refine g_iloadN X32 hx hby d1_164 (pc' := 165) rfl rfl ?_
                refine g_callS X32 hx hZ hown (W := 2) (argsL := [.ref q1, .int (3 : Int32), .int q3, .int q4]) (rest := [.int (3 : Int32), .ref b26]) hby d1_165 (pc' := 168) rfl (by rw [hml]; rfl) (w_95 hw) (w_96 hw) (w_11 hw) (w_97 hw) (by decide) (rmAT l Z a0 hw [] q1 (3 : Int32) q3 q4 T32.heap n0 bs (T_1.keep0 K32) (by decide) hc cs fm SS O32) rfl (by decide) (by decide) (by decide) (by decide) rfl pd__28Ljava_2flang_2fString_3bIIC_29C rfl rfl (Nat.le_of_eq rfl) ?_
                rintro _ T33 L33 X33 ⟨rfl, N33q, e33⟩
                have N33 := Fr.app N32 N33q
                show GoE p e below _ (T33.setTop (mkF m 168 #[.val (.ref q1), .val (.int q2), .val (.int q3), .val (.int q4), .val (.ref b26)] [.int (atV bs (3 : Int32) q3 q4), .int (3 : Int32), .ref b26]))
                refine g_castore X33 hx hZ 3 hby d1_168 (pc' := 169) rfl e33 A32 (by decide) (by decide) (by first | decide | simp) ?_
                intro T34 X34 W34 A34v
                have N34 := Fr.snoc X34 N33 (Nat.le_trans Z0 (Nat.le_of_eq hb26.symm))
                have sf34_b26 := Safe.wr W34 sf32_b26 C32c.1 sf32_b26
                have C34c := C32c.trans (CHr.wr W34 sf32_b26 C32c.1)
                have O34 := O32.wr W34 (Nat.le_trans Z0 (Nat.le_of_eq hb26.symm))
                have K34 := K32.wr W34 (Or.inr (Nat.le_trans (Keep.refl h0 []).1 (Nat.le_of_eq hb26.symm)))
                have Z34 : n0 ≤ T34.heap.size := (W34.size ▸ Z32)
                have Y34 := Nat.le_trans Y32 (Nat.le_of_eq W34.size.symm)
                have E34_b26 := E32_b26.wr W34
                have A34 : Arv Z T34.heap b26 c26 .char (6 : Int32) [.int (nar .char (atV bs (0 : Int32) q3 q4)), .int (nar .char (atV bs (1 : Int32) q3 q4)), .int (nar .char (atV bs (2 : Int32) q3 q4)), .int (nar .char (atV bs (3 : Int32) q3 q4)), .int 0, .int 0] (.int 0) := A34v
                refine g_aload X34 hx hby d1_169 (pc' := 171) rfl rfl rfl ?_
                refine g_alen X34 hx hZ hby d1_171 (pc' := 172) rfl rfl A34 ?_
                refine g_iconst X34 hx hby d1_172 (pc' := 173) rfl (z := (4 : Int32)) rfl ?_
                refine g_icmp_le X34 hx hby d1_173 (by decide) (pc' := 187) (by decide) (pn := 176) rfl (fun z => absurd z (by decide)) (fun _ => ?_)
                refine g_aload X34 hx hby d1_176 (pc' := 178) rfl rfl rfl ?_
                refine g_iconst X34 hx hby d1_178 (pc' := 179) rfl (z := (4 : Int32)) rfl ?_
                refine g_aloadN X34 hx hby d1_179 (pc' := 180) rfl rfl rfl ?_
                refine g_iconst X34 hx hby d1_180 (pc' := 181) rfl (z := (4 : Int32)) rfl ?_
                refine g_iloadN X34 hx hby d1_181 (pc' := 182) rfl rfl ?_
                refine g_iloadN X34 hx hby d1_182 (pc' := 183) rfl rfl ?_
                refine g_callS X34 hx hZ hown (W := 2) (argsL := [.ref q1, .int (4 : Int32), .int q3, .int q4]) (rest := [.int (4 : Int32), .ref b26]) hby d1_183 (pc' := 186) rfl (by rw [hml]; rfl) (w_95 hw) (w_96 hw) (w_11 hw) (w_97 hw) (by decide) (rmAT l Z a0 hw [] q1 (4 : Int32) q3 q4 T34.heap n0 bs (T_1.keep0 K34) (by decide) hc cs fm SS O34) rfl (by decide) (by decide) (by decide) (by decide) rfl pd__28Ljava_2flang_2fString_3bIIC_29C rfl rfl (Nat.le_of_eq rfl) ?_
                rintro _ T35 L35 X35 ⟨rfl, N35q, e35⟩
                have N35 := Fr.app N34 N35q
                show GoE p e below _ (T35.setTop (mkF m 186 #[.val (.ref q1), .val (.int q2), .val (.int q3), .val (.int q4), .val (.ref b26)] [.int (atV bs (4 : Int32) q3 q4), .int (4 : Int32), .ref b26]))
                refine g_castore X35 hx hZ 4 hby d1_186 (pc' := 187) rfl e35 A34 (by decide) (by decide) (by first | decide | simp) ?_
                intro T36 X36 W36 A36v
                have N36 := Fr.snoc X36 N35 (Nat.le_trans Z0 (Nat.le_of_eq hb26.symm))
                have sf36_b26 := Safe.wr W36 sf34_b26 C34c.1 sf34_b26
                have C36c := C34c.trans (CHr.wr W36 sf34_b26 C34c.1)
                have O36 := O34.wr W36 (Nat.le_trans Z0 (Nat.le_of_eq hb26.symm))
                have K36 := K34.wr W36 (Or.inr (Nat.le_trans (Keep.refl h0 []).1 (Nat.le_of_eq hb26.symm)))
                have Z36 : n0 ≤ T36.heap.size := (W36.size ▸ Z34)
                have Y36 := Nat.le_trans Y34 (Nat.le_of_eq W36.size.symm)
                have E36_b26 := E34_b26.wr W36
                have A36 : Arv Z T36.heap b26 c26 .char (6 : Int32) [.int (nar .char (atV bs (0 : Int32) q3 q4)), .int (nar .char (atV bs (1 : Int32) q3 q4)), .int (nar .char (atV bs (2 : Int32) q3 q4)), .int (nar .char (atV bs (3 : Int32) q3 q4)), .int (nar .char (atV bs (4 : Int32) q3 q4)), .int 0] (.int 0) := A36v
                refine g_aload X36 hx hby d1_187 (pc' := 189) rfl rfl rfl ?_
                refine g_alen X36 hx hZ hby d1_189 (pc' := 190) rfl rfl A36 ?_
                refine g_iconst X36 hx hby d1_190 (pc' := 191) rfl (z := (5 : Int32)) rfl ?_
                refine g_icmp_le X36 hx hby d1_191 (by decide) (pc' := 205) (by decide) (pn := 194) rfl (fun z => absurd z (by decide)) (fun _ => ?_)
                refine g_aload X36 hx hby d1_194 (pc' := 196) rfl rfl rfl ?_
                refine g_iconst X36 hx hby d1_196 (pc' := 197) rfl (z := (5 : Int32)) rfl ?_
                refine g_aloadN X36 hx hby d1_197 (pc' := 198) rfl rfl rfl ?_
                refine g_iconst X36 hx hby d1_198 (pc' := 199) rfl (z := (5 : Int32)) rfl ?_
                refine g_iloadN X36 hx hby d1_199 (pc' := 200) rfl rfl ?_
                refine g_iloadN X36 hx hby d1_200 (pc' := 201) rfl rfl ?_
                refine g_callS X36 hx hZ hown (W := 2) (argsL := [.ref q1, .int (5 : Int32), .int q3, .int q4]) (rest := [.int (5 : Int32), .ref b26]) hby d1_201 (pc' := 204) rfl (by rw [hml]; rfl) (w_95 hw) (w_96 hw) (w_11 hw) (w_97 hw) (by decide) (rmAT l Z a0 hw [] q1 (5 : Int32) q3 q4 T36.heap n0 bs (T_1.keep0 K36) (by decide) hc cs fm SS O36) rfl (by decide) (by decide) (by decide) (by decide) rfl pd__28Ljava_2flang_2fString_3bIIC_29C rfl rfl (Nat.le_of_eq rfl) ?_
                rintro _ T37 L37 X37 ⟨rfl, N37q, e37⟩
                have N37 := Fr.app N36 N37q
                show GoE p e below _ (T37.setTop (mkF m 204 #[.val (.ref q1), .val (.int q2), .val (.int q3), .val (.int q4), .val (.ref b26)] [.int (atV bs (5 : Int32) q3 q4), .int (5 : Int32), .ref b26]))
                refine g_castore X37 hx hZ 5 hby d1_204 (pc' := 205) rfl e37 A36 (by decide) (by decide) (by first | decide | simp) ?_
                intro T38 X38 W38 A38v
                have N38 := Fr.snoc X38 N37 (Nat.le_trans Z0 (Nat.le_of_eq hb26.symm))
                have sf38_b26 := Safe.wr W38 sf36_b26 C36c.1 sf36_b26
                have C38c := C36c.trans (CHr.wr W38 sf36_b26 C36c.1)
                have O38 := O36.wr W38 (Nat.le_trans Z0 (Nat.le_of_eq hb26.symm))
                have K38 := K36.wr W38 (Or.inr (Nat.le_trans (Keep.refl h0 []).1 (Nat.le_of_eq hb26.symm)))
                have Z38 : n0 ≤ T38.heap.size := (W38.size ▸ Z36)
                have Y38 := Nat.le_trans Y36 (Nat.le_of_eq W38.size.symm)
                have E38_b26 := E36_b26.wr W38
                have A38 : Arv Z T38.heap b26 c26 .char (6 : Int32) [.int (nar .char (atV bs (0 : Int32) q3 q4)), .int (nar .char (atV bs (1 : Int32) q3 q4)), .int (nar .char (atV bs (2 : Int32) q3 q4)), .int (nar .char (atV bs (3 : Int32) q3 q4)), .int (nar .char (atV bs (4 : Int32) q3 q4)), .int (nar .char (atV bs (5 : Int32) q3 q4))] (.int 0) := A38v
                refine g_aload X38 hx hby d1_205 (pc' := 207) rfl rfl rfl ?_
                refine g_alen X38 hx hZ hby d1_207 (pc' := 208) rfl rfl A38 ?_
                refine g_bipush X38 hx hby d1_208 (pc' := 210) rfl (z := (6 : Int32)) rfl ?_
                refine g_icmp_le X38 hx hby d1_210 (by decide) (pc' := 226) (by decide) (pn := 213) rfl (fun _ => ?_) (fun z => absurd z (by decide))
                have A39 : Arv Z T38.heap b26 c26 .char (6 : Int32) [.int (atV bs (0 : Int32) q3 q4), .int (atV bs (1 : Int32) q3 q4), .int (atV bs (2 : Int32) q3 q4), .int (atV bs (3 : Int32) q3 q4), .int (atV bs (4 : Int32) q3 q4), .int (atV bs (5 : Int32) q3 q4)] (.int 0) := by
                  have z := A38
                  rw [own_narc (own_at bs (0 : Int32) q3 hc), own_narc (own_at bs (1 : Int32) q3 hc), own_narc (own_at bs (2 : Int32) q3 hc), own_narc (own_at bs (3 : Int32) q3 hc), own_narc (own_at bs (4 : Int32) q3 hc), own_narc (own_at bs (5 : Int32) q3 hc)] at z
                  exact z
                refine g_new X38 hx hZ hown hby d1_226 (pc' := 229) rfl (w_14 hw) (w_3 hw) (w_2 hw) rfl (by decide) (by decide) ?_
                intro T40 b40 hb40 X40 E40 A40 D40
                have sf40_b26 := Safe.ext E40 C38c.1 sf38_b26
                have sf40_b40 := Safe.ext E40 C38c.1 (Safe.new (Nat.le_of_eq hb40.symm))
                have C40c := C38c.trans (CHr.ext E40 C38c.1)
                have O40o := O38.ext E40
                have K40 := K38.ext E40
                have Z40 := Nat.le_trans Z38 E40.1
                have Y40 := Nat.le_trans Y38 E40.1
                have E40_b26 := E38_b26.ext E40
                have ne40_b26 : b26 ≠ b40 := hb40 ▸ Nat.ne_of_lt E38_b26.lt
                have A40_b26 := A39.ext E40
                have F40_value : Fld Z T40.heap b40 "java/lang/String" "value" "[B" (.null) := D40 (Or.inr (w_5 hw)) (ty := (.array .byte)) (by decide)
                have F40_coder : Fld Z T40.heap b40 "java/lang/String" "coder" "B" (.int (0 : Int32)) := D40 (Or.inr (w_6 hw)) (ty := .byte) (by decide)
                refine g_dup X40 hx hby d1_229 (pc' := 230) rfl rfl ?_
                refine g_aload X40 hx hby d1_230 (pc' := 232) rfl rfl rfl ?_
                refine g_callI X40 hx hZ hown (W := 1) (argsL := [.ref b26]) (b := b40) (rest := [.ref b40]) hby d1_232 (pc' := 235) rfl (by rw [hml]; rfl) (w_15 hw) (w_16 hw) (w_2 hw) (w_17 hw) rfl (by decide) (rmS16 l Z a0 hw [] b40 b26 T40.heap n0 (atV bs (0 : Int32) q3 q4) (atV bs (1 : Int32) q3 q4) (atV bs (2 : Int32) q3 q4) (atV bs (3 : Int32) q3 q4) (atV bs (4 : Int32) q3 q4) (atV bs (5 : Int32) q3 q4) _ A40_b26 (own_at bs (0 : Int32) q3 hc) (own_at bs (1 : Int32) q3 hc) (own_at bs (2 : Int32) q3 hc) (own_at bs (3 : Int32) q3 hc) (own_at bs (4 : Int32) q3 hc) (own_at bs (5 : Int32) q3 hc) Z40 A40 F40_value F40_coder ne40_b26 (Nat.le_trans Z38 (Nat.le_of_eq hb40.symm)) cs fm SS O40o) rfl (by decide) (by decide) (by decide) (by decide) rfl pd__28_5bC_29V rfl rfl (Nat.le_of_eq rfl) ?_
                rintro _ T41 L41 X41 (⟨b41, k41, rfl, N41q, K41, Ei41, Fv41, Fc41, A41⟩)
                · have N41 := Fr.app N38 N41q
                  have C41h := CHr.keep K41 (allS sf40_b40 all0) C40c.1
                  have sf41_b26 := Safe.keep K41 (allS sf40_b40 all0) C40c.1 sf40_b26
                  have sf41_b40 := Safe.keep K41 (allS sf40_b40 all0) C40c.1 sf40_b40
                  have C41c := C40c.trans C41h
                  have O41 := O40o.keep K41 (allS (Nat.le_trans Z38 (Nat.le_of_eq hb40.symm)) all0)
                  have K41t := K40.trans K41 (allS (Or.inr (Nat.le_trans K38.1 (Nat.le_of_eq hb40.symm))) all0)
                  have Z41 := Nat.le_trans Z40 K41.1
                  have Y41 := Nat.le_trans Y40 K41.1
                  have E41_b26 := E40_b26.keep K41
                  have A41_b26 := A40_b26.keep K41 (ninS ne40_b26 nin0)
                  have E41_b40 := A40.keep K41
                  show GoE p e below _ (T41.setTop (mkF m 235 #[.val (.ref q1), .val (.int q2), .val (.int q3), .val (.int q4), .val (.ref b26)] [.ref b40]))
                  refine GoH.of_go (a0 := a0) (fun v h L => ∃ b : Addr, v = some (.ref b) ∧ Fr n0 L ∧ Keep h0 h [] ∧ h0.size ≤ b ∧ Txt Z h b (buildL bs q2 q3 q4)) hS0 hZ (own_EL hw) ?_
                  exact g_retA (Q := _) X41 hx hby d1_235 rfl hret rfl hlk (by decide) (by decide) ⟨⟨b40, rfl, N41, K41t, (Nat.le_trans K38.1 (Nat.le_of_eq hb40.symm)), (by unfold buildL; rw [if_neg hc1_1, if_neg hc14_2, if_neg hc27_3, if_neg hc40_4, if_neg hc53_5, if_neg hc66_6, if_pos hc80_7]; exact ⟨Ei41, by simp, b41, _, Fv41, Fc41, A41⟩)⟩, Y41, C41c⟩
            · refine g_iconst X0 hx hby d1_69 (pc' := 70) rfl (z := (5 : Int32)) rfl ?_
              refine g_newarray X0 hx hZ 5  "[C" hby d1_70 (pc' := 72) rfl (w_13 hw) e0 (by decide) (by decide) (by decide) (by decide) (by decide) rfl ?_
              intro T42 b42 c42 hb42 X42 E42 A42v A42x
              have sf42_b42 := Safe.ext E42 C0h.1 (Safe.new (Nat.le_of_eq hb42.symm))
              have C42c := C0h.trans (CHr.ext E42 C0h.1)
              have O42o := O0.ext E42
              have K42 := (Keep.refl h0 []).ext E42
              have Z42 := Nat.le_trans Z0 E42.1
              have Y42 := Nat.le_trans (Nat.le_refl h0.size) E42.1
              have A42 : Arv Z T42.heap b42 c42 .char (5 : Int32) [.int 0, .int 0, .int 0, .int 0, .int 0] (.int 0) := A42v
              refine g_astore X42 hx hby d1_72 (pc' := 74) rfl rfl (l' := #[.val (.ref q1), .val (.int q2), .val (.int q3), .val (.int q4), .val (.ref b42)]) rfl ?_
              refine g_goto X42 hx hby d1_74 (by decide) (pc' := 98) (by decide) ?_
              refine g_aload X42 hx hby d1_98 (pc' := 100) rfl rfl rfl ?_
              refine g_alen X42 hx hZ hby d1_100 (pc' := 101) rfl rfl A42 ?_
              refine g_if_le X42 hx hby d1_101 (by decide) (pc' := 115) (by decide) (pn := 104) rfl (fun z => absurd z (by decide)) (fun _ => ?_)
              refine g_aload X42 hx hby d1_104 (pc' := 106) rfl rfl rfl ?_
              refine g_iconst X42 hx hby d1_106 (pc' := 107) rfl (z := (0 : Int32)) rfl ?_
              refine g_aloadN X42 hx hby d1_107 (pc' := 108) rfl rfl rfl ?_
              refine g_iconst X42 hx hby d1_108 (pc' := 109) rfl (z := (0 : Int32)) rfl ?_
              refine g_iloadN X42 hx hby d1_109 (pc' := 110) rfl rfl ?_
              refine g_iloadN X42 hx hby d1_110 (pc' := 111) rfl rfl ?_
              refine g_callS X42 hx hZ hown (W := 2) (argsL := [.ref q1, .int (0 : Int32), .int q3, .int q4]) (rest := [.int (0 : Int32), .ref b42]) hby d1_111 (pc' := 114) rfl (by rw [hml]; rfl) (w_95 hw) (w_96 hw) (w_11 hw) (w_97 hw) (by decide) (rmAT l Z a0 hw [] q1 (0 : Int32) q3 q4 T42.heap n0 bs (T_1.keep0 K42) (by decide) hc cs fm SS O42o) rfl (by decide) (by decide) (by decide) (by decide) rfl pd__28Ljava_2flang_2fString_3bIIC_29C rfl rfl (Nat.le_of_eq rfl) ?_
              rintro _ T43 L43 X43 ⟨rfl, N43q, e43⟩
              have N43 := Fr.app N0 N43q
              show GoE p e below _ (T43.setTop (mkF m 114 #[.val (.ref q1), .val (.int q2), .val (.int q3), .val (.int q4), .val (.ref b42)] [.int (atV bs (0 : Int32) q3 q4), .int (0 : Int32), .ref b42]))
              refine g_castore X43 hx hZ 0 hby d1_114 (pc' := 115) rfl e43 A42 (by decide) (by decide) (by first | decide | simp) ?_
              intro T44 X44 W44 A44v
              have N44 := Fr.snoc X44 N43 (Nat.le_trans Z0 (Nat.le_of_eq hb42.symm))
              have sf44_b42 := Safe.wr W44 sf42_b42 C42c.1 sf42_b42
              have C44c := C42c.trans (CHr.wr W44 sf42_b42 C42c.1)
              have O44 := O42o.wr W44 (Nat.le_trans Z0 (Nat.le_of_eq hb42.symm))
              have K44 := K42.wr W44 (Or.inr (Nat.le_trans (Keep.refl h0 []).1 (Nat.le_of_eq hb42.symm)))
              have Z44 : n0 ≤ T44.heap.size := (W44.size ▸ Z42)
              have Y44 := Nat.le_trans Y42 (Nat.le_of_eq W44.size.symm)
              have E44_b42 := A42x.wr W44
              have A44 : Arv Z T44.heap b42 c42 .char (5 : Int32) [.int (nar .char (atV bs (0 : Int32) q3 q4)), .int 0, .int 0, .int 0, .int 0] (.int 0) := A44v
              refine g_aload X44 hx hby d1_115 (pc' := 117) rfl rfl rfl ?_
              refine g_alen X44 hx hZ hby d1_117 (pc' := 118) rfl rfl A44 ?_
              refine g_iconst X44 hx hby d1_118 (pc' := 119) rfl (z := (1 : Int32)) rfl ?_
              refine g_icmp_le X44 hx hby d1_119 (by decide) (pc' := 133) (by decide) (pn := 122) rfl (fun z => absurd z (by decide)) (fun _ => ?_)
              refine g_aload X44 hx hby d1_122 (pc' := 124) rfl rfl rfl ?_
              refine g_iconst X44 hx hby d1_124 (pc' := 125) rfl (z := (1 : Int32)) rfl ?_
              refine g_aloadN X44 hx hby d1_125 (pc' := 126) rfl rfl rfl ?_
              refine g_iconst X44 hx hby d1_126 (pc' := 127) rfl (z := (1 : Int32)) rfl ?_
              refine g_iloadN X44 hx hby d1_127 (pc' := 128) rfl rfl ?_
              refine g_iloadN X44 hx hby d1_128 (pc' := 129) rfl rfl ?_
              refine g_callS X44 hx hZ hown (W := 2) (argsL := [.ref q1, .int (1 : Int32), .int q3, .int q4]) (rest := [.int (1 : Int32), .ref b42]) hby d1_129 (pc' := 132) rfl (by rw [hml]; rfl) (w_95 hw) (w_96 hw) (w_11 hw) (w_97 hw) (by decide) (rmAT l Z a0 hw [] q1 (1 : Int32) q3 q4 T44.heap n0 bs (T_1.keep0 K44) (by decide) hc cs fm SS O44) rfl (by decide) (by decide) (by decide) (by decide) rfl pd__28Ljava_2flang_2fString_3bIIC_29C rfl rfl (Nat.le_of_eq rfl) ?_
              rintro _ T45 L45 X45 ⟨rfl, N45q, e45⟩
              have N45 := Fr.app N44 N45q
              show GoE p e below _ (T45.setTop (mkF m 132 #[.val (.ref q1), .val (.int q2), .val (.int q3), .val (.int q4), .val (.ref b42)] [.int (atV bs (1 : Int32) q3 q4), .int (1 : Int32), .ref b42]))
              refine g_castore X45 hx hZ 1 hby d1_132 (pc' := 133) rfl e45 A44 (by decide) (by decide) (by first | decide | simp) ?_
              intro T46 X46 W46 A46v
              have N46 := Fr.snoc X46 N45 (Nat.le_trans Z0 (Nat.le_of_eq hb42.symm))
              have sf46_b42 := Safe.wr W46 sf44_b42 C44c.1 sf44_b42
              have C46c := C44c.trans (CHr.wr W46 sf44_b42 C44c.1)
              have O46 := O44.wr W46 (Nat.le_trans Z0 (Nat.le_of_eq hb42.symm))
              have K46 := K44.wr W46 (Or.inr (Nat.le_trans (Keep.refl h0 []).1 (Nat.le_of_eq hb42.symm)))
              have Z46 : n0 ≤ T46.heap.size := (W46.size ▸ Z44)
              have Y46 := Nat.le_trans Y44 (Nat.le_of_eq W46.size.symm)
              have E46_b42 := E44_b42.wr W46
              have A46 : Arv Z T46.heap b42 c42 .char (5 : Int32) [.int (nar .char (atV bs (0 : Int32) q3 q4)), .int (nar .char (atV bs (1 : Int32) q3 q4)), .int 0, .int 0, .int 0] (.int 0) := A46v
              refine g_aload X46 hx hby d1_133 (pc' := 135) rfl rfl rfl ?_
              refine g_alen X46 hx hZ hby d1_135 (pc' := 136) rfl rfl A46 ?_
              refine g_iconst X46 hx hby d1_136 (pc' := 137) rfl (z := (2 : Int32)) rfl ?_
              refine g_icmp_le X46 hx hby d1_137 (by decide) (pc' := 151) (by decide) (pn := 140) rfl (fun z => absurd z (by decide)) (fun _ => ?_)
              refine g_aload X46 hx hby d1_140 (pc' := 142) rfl rfl rfl ?_
              refine g_iconst X46 hx hby d1_142 (pc' := 143) rfl (z := (2 : Int32)) rfl ?_
              refine g_aloadN X46 hx hby d1_143 (pc' := 144) rfl rfl rfl ?_
              refine g_iconst X46 hx hby d1_144 (pc' := 145) rfl (z := (2 : Int32)) rfl ?_
              refine g_iloadN X46 hx hby d1_145 (pc' := 146) rfl rfl ?_
              refine g_iloadN X46 hx hby d1_146 (pc' := 147) rfl rfl ?_
              refine g_callS X46 hx hZ hown (W := 2) (argsL := [.ref q1, .int (2 : Int32), .int q3, .int q4]) (rest := [.int (2 : Int32), .ref b42]) hby d1_147 (pc' := 150) rfl (by rw [hml]; rfl) (w_95 hw) (w_96 hw) (w_11 hw) (w_97 hw) (by decide) (rmAT l Z a0 hw [] q1 (2 : Int32) q3 q4 T46.heap n0 bs (T_1.keep0 K46) (by decide) hc cs fm SS O46) rfl (by decide) (by decide) (by decide) (by decide) rfl pd__28Ljava_2flang_2fString_3bIIC_29C rfl rfl (Nat.le_of_eq rfl) ?_
              rintro _ T47 L47 X47 ⟨rfl, N47q, e47⟩
              have N47 := Fr.app N46 N47q
              show GoE p e below _ (T47.setTop (mkF m 150 #[.val (.ref q1), .val (.int q2), .val (.int q3), .val (.int q4), .val (.ref b42)] [.int (atV bs (2 : Int32) q3 q4), .int (2 : Int32), .ref b42]))
              refine g_castore X47 hx hZ 2 hby d1_150 (pc' := 151) rfl e47 A46 (by decide) (by decide) (by first | decide | simp) ?_
              intro T48 X48 W48 A48v
              have N48 := Fr.snoc X48 N47 (Nat.le_trans Z0 (Nat.le_of_eq hb42.symm))
              have sf48_b42 := Safe.wr W48 sf46_b42 C46c.1 sf46_b42
              have C48c := C46c.trans (CHr.wr W48 sf46_b42 C46c.1)
              have O48 := O46.wr W48 (Nat.le_trans Z0 (Nat.le_of_eq hb42.symm))
              have K48 := K46.wr W48 (Or.inr (Nat.le_trans (Keep.refl h0 []).1 (Nat.le_of_eq hb42.symm)))
              have Z48 : n0 ≤ T48.heap.size := (W48.size ▸ Z46)
              have Y48 := Nat.le_trans Y46 (Nat.le_of_eq W48.size.symm)
              have E48_b42 := E46_b42.wr W48
              have A48 : Arv Z T48.heap b42 c42 .char (5 : Int32) [.int (nar .char (atV bs (0 : Int32) q3 q4)), .int (nar .char (atV bs (1 : Int32) q3 q4)), .int (nar .char (atV bs (2 : Int32) q3 q4)), .int 0, .int 0] (.int 0) := A48v
              refine g_aload X48 hx hby d1_151 (pc' := 153) rfl rfl rfl ?_
              refine g_alen X48 hx hZ hby d1_153 (pc' := 154) rfl rfl A48 ?_
              refine g_iconst X48 hx hby d1_154 (pc' := 155) rfl (z := (3 : Int32)) rfl ?_
              refine g_icmp_le X48 hx hby d1_155 (by decide) (pc' := 169) (by decide) (pn := 158) rfl (fun z => absurd z (by decide)) (fun _ => ?_)
              refine g_aload X48 hx hby d1_158 (pc' := 160) rfl rfl rfl ?_
              refine g_iconst X48 hx hby d1_160 (pc' := 161) rfl (z := (3 : Int32)) rfl ?_
              refine g_aloadN X48 hx hby d1_161 (pc' := 162) rfl rfl rfl ?_
              refine g_iconst X48 hx hby d1_162 (pc' := 163) rfl (z := (3 : Int32)) rfl ?_
              refine g_iloadN X48 hx hby d1_163 (pc' := 164) rfl rfl ?_
              refine g_iloadN X48 hx hby d1_164 (pc' := 165) rfl rfl ?_
              refine g_callS X48 hx hZ hown (W := 2) (argsL := [.ref q1, .int (3 : Int32), .int q3, .int q4]) (rest := [.int (3 : Int32), .ref b42]) hby d1_165 (pc' := 168) rfl (by rw [hml]; rfl) (w_95 hw) (w_96 hw) (w_11 hw) (w_97 hw) (by decide) (rmAT l Z a0 hw [] q1 (3 : Int32) q3 q4 T48.heap n0 bs (T_1.keep0 K48) (by decide) hc cs fm SS O48) rfl (by decide) (by decide) (by decide) (by decide) rfl pd__28Ljava_2flang_2fString_3bIIC_29C rfl rfl (Nat.le_of_eq rfl) ?_
              rintro _ T49 L49 X49 ⟨rfl, N49q, e49⟩
              have N49 := Fr.app N48 N49q
              show GoE p e below _ (T49.setTop (mkF m 168 #[.val (.ref q1), .val (.int q2), .val (.int q3), .val (.int q4), .val (.ref b42)] [.int (atV bs (3 : Int32) q3 q4), .int (3 : Int32), .ref b42]))
              refine g_castore X49 hx hZ 3 hby d1_168 (pc' := 169) rfl e49 A48 (by decide) (by decide) (by first | decide | simp) ?_
              intro T50 X50 W50 A50v
              have N50 := Fr.snoc X50 N49 (Nat.le_trans Z0 (Nat.le_of_eq hb42.symm))
              have sf50_b42 := Safe.wr W50 sf48_b42 C48c.1 sf48_b42
              have C50c := C48c.trans (CHr.wr W50 sf48_b42 C48c.1)
              have O50 := O48.wr W50 (Nat.le_trans Z0 (Nat.le_of_eq hb42.symm))
              have K50 := K48.wr W50 (Or.inr (Nat.le_trans (Keep.refl h0 []).1 (Nat.le_of_eq hb42.symm)))
              have Z50 : n0 ≤ T50.heap.size := (W50.size ▸ Z48)
              have Y50 := Nat.le_trans Y48 (Nat.le_of_eq W50.size.symm)
              have E50_b42 := E48_b42.wr W50
              have A50 : Arv Z T50.heap b42 c42 .char (5 : Int32) [.int (nar .char (atV bs (0 : Int32) q3 q4)), .int (nar .char (atV bs (1 : Int32) q3 q4)), .int (nar .char (atV bs (2 : Int32) q3 q4)), .int (nar .char (atV bs (3 : Int32) q3 q4)), .int 0] (.int 0) := A50v
              refine g_aload X50 hx hby d1_169 (pc' := 171) rfl rfl rfl ?_
              refine g_alen X50 hx hZ hby d1_171 (pc' := 172) rfl rfl A50 ?_
              refine g_iconst X50 hx hby d1_172 (pc' := 173) rfl (z := (4 : Int32)) rfl ?_
              refine g_icmp_le X50 hx hby d1_173 (by decide) (pc' := 187) (by decide) (pn := 176) rfl (fun z => absurd z (by decide)) (fun _ => ?_)
              refine g_aload X50 hx hby d1_176 (pc' := 178) rfl rfl rfl ?_
              refine g_iconst X50 hx hby d1_178 (pc' := 179) rfl (z := (4 : Int32)) rfl ?_
              refine g_aloadN X50 hx hby d1_179 (pc' := 180) rfl rfl rfl ?_
              refine g_iconst X50 hx hby d1_180 (pc' := 181) rfl (z := (4 : Int32)) rfl ?_
              refine g_iloadN X50 hx hby d1_181 (pc' := 182) rfl rfl ?_
              refine g_iloadN X50 hx hby d1_182 (pc' := 183) rfl rfl ?_
              refine g_callS X50 hx hZ hown (W := 2) (argsL := [.ref q1, .int (4 : Int32), .int q3, .int q4]) (rest := [.int (4 : Int32), .ref b42]) hby d1_183 (pc' := 186) rfl (by rw [hml]; rfl) (w_95 hw) (w_96 hw) (w_11 hw) (w_97 hw) (by decide) (rmAT l Z a0 hw [] q1 (4 : Int32) q3 q4 T50.heap n0 bs (T_1.keep0 K50) (by decide) hc cs fm SS O50) rfl (by decide) (by decide) (by decide) (by decide) rfl pd__28Ljava_2flang_2fString_3bIIC_29C rfl rfl (Nat.le_of_eq rfl) ?_
              rintro _ T51 L51 X51 ⟨rfl, N51q, e51⟩
              have N51 := Fr.app N50 N51q
              show GoE p e below _ (T51.setTop (mkF m 186 #[.val (.ref q1), .val (.int q2), .val (.int q3), .val (.int q4), .val (.ref b42)] [.int (atV bs (4 : Int32) q3 q4), .int (4 : Int32), .ref b42]))
              refine g_castore X51 hx hZ 4 hby d1_186 (pc' := 187) rfl e51 A50 (by decide) (by decide) (by first | decide | simp) ?_
              intro T52 X52 W52 A52v
              have N52 := Fr.snoc X52 N51 (Nat.le_trans Z0 (Nat.le_of_eq hb42.symm))
              have sf52_b42 := Safe.wr W52 sf50_b42 C50c.1 sf50_b42
              have C52c := C50c.trans (CHr.wr W52 sf50_b42 C50c.1)
              have O52 := O50.wr W52 (Nat.le_trans Z0 (Nat.le_of_eq hb42.symm))
              have K52 := K50.wr W52 (Or.inr (Nat.le_trans (Keep.refl h0 []).1 (Nat.le_of_eq hb42.symm)))
              have Z52 : n0 ≤ T52.heap.size := (W52.size ▸ Z50)
              have Y52 := Nat.le_trans Y50 (Nat.le_of_eq W52.size.symm)
              have E52_b42 := E50_b42.wr W52
              have A52 : Arv Z T52.heap b42 c42 .char (5 : Int32) [.int (nar .char (atV bs (0 : Int32) q3 q4)), .int (nar .char (atV bs (1 : Int32) q3 q4)), .int (nar .char (atV bs (2 : Int32) q3 q4)), .int (nar .char (atV bs (3 : Int32) q3 q4)), .int (nar .char (atV bs (4 : Int32) q3 q4))] (.int 0) := A52v
              refine g_aload X52 hx hby d1_187 (pc' := 189) rfl rfl rfl ?_
              refine g_alen X52 hx hZ hby d1_189 (pc' := 190) rfl rfl A52 ?_
              refine g_iconst X52 hx hby d1_190 (pc' := 191) rfl (z := (5 : Int32)) rfl ?_
              refine g_icmp_le X52 hx hby d1_191 (by decide) (pc' := 205) (by decide) (pn := 194) rfl (fun _ => ?_) (fun z => absurd z (by decide))
              refine g_aload X52 hx hby d1_205 (pc' := 207) rfl rfl rfl ?_
              refine g_alen X52 hx hZ hby d1_207 (pc' := 208) rfl rfl A52 ?_
              refine g_bipush X52 hx hby d1_208 (pc' := 210) rfl (z := (6 : Int32)) rfl ?_
              refine g_icmp_le X52 hx hby d1_210 (by decide) (pc' := 226) (by decide) (pn := 213) rfl (fun _ => ?_) (fun z => absurd z (by decide))
              have A53 : Arv Z T52.heap b42 c42 .char (5 : Int32) [.int (atV bs (0 : Int32) q3 q4), .int (atV bs (1 : Int32) q3 q4), .int (atV bs (2 : Int32) q3 q4), .int (atV bs (3 : Int32) q3 q4), .int (atV bs (4 : Int32) q3 q4)] (.int 0) := by
                have z := A52
                rw [own_narc (own_at bs (0 : Int32) q3 hc), own_narc (own_at bs (1 : Int32) q3 hc), own_narc (own_at bs (2 : Int32) q3 hc), own_narc (own_at bs (3 : Int32) q3 hc), own_narc (own_at bs (4 : Int32) q3 hc)] at z
                exact z
              refine g_new X52 hx hZ hown hby d1_226 (pc' := 229) rfl (w_14 hw) (w_3 hw) (w_2 hw) rfl (by decide) (by decide) ?_
              intro T54 b54 hb54 X54 E54 A54 D54
              have sf54_b42 := Safe.ext E54 C52c.1 sf52_b42
              have sf54_b54 := Safe.ext E54 C52c.1 (Safe.new (Nat.le_of_eq hb54.symm))
              have C54c := C52c.trans (CHr.ext E54 C52c.1)
              have O54o := O52.ext E54
              have K54 := K52.ext E54
              have Z54 := Nat.le_trans Z52 E54.1
              have Y54 := Nat.le_trans Y52 E54.1
              have E54_b42 := E52_b42.ext E54
              have ne54_b42 : b42 ≠ b54 := hb54 ▸ Nat.ne_of_lt E52_b42.lt
              have A54_b42 := A53.ext E54
              have F54_value : Fld Z T54.heap b54 "java/lang/String" "value" "[B" (.null) := D54 (Or.inr (w_5 hw)) (ty := (.array .byte)) (by decide)
              have F54_coder : Fld Z T54.heap b54 "java/lang/String" "coder" "B" (.int (0 : Int32)) := D54 (Or.inr (w_6 hw)) (ty := .byte) (by decide)
              refine g_dup X54 hx hby d1_229 (pc' := 230) rfl rfl ?_
              refine g_aload X54 hx hby d1_230 (pc' := 232) rfl rfl rfl ?_
              refine g_callI X54 hx hZ hown (W := 1) (argsL := [.ref b42]) (b := b54) (rest := [.ref b54]) hby d1_232 (pc' := 235) rfl (by rw [hml]; rfl) (w_15 hw) (w_16 hw) (w_2 hw) (w_17 hw) rfl (by decide) (rmS15 l Z a0 hw [] b54 b42 T54.heap n0 (atV bs (0 : Int32) q3 q4) (atV bs (1 : Int32) q3 q4) (atV bs (2 : Int32) q3 q4) (atV bs (3 : Int32) q3 q4) (atV bs (4 : Int32) q3 q4) _ A54_b42 (own_at bs (0 : Int32) q3 hc) (own_at bs (1 : Int32) q3 hc) (own_at bs (2 : Int32) q3 hc) (own_at bs (3 : Int32) q3 hc) (own_at bs (4 : Int32) q3 hc) Z54 A54 F54_value F54_coder ne54_b42 (Nat.le_trans Z52 (Nat.le_of_eq hb54.symm)) cs fm SS O54o) rfl (by decide) (by decide) (by decide) (by decide) rfl pd__28_5bC_29V rfl rfl (Nat.le_of_eq rfl) ?_
              rintro _ T55 L55 X55 (⟨b55, k55, rfl, N55q, K55, Ei55, Fv55, Fc55, A55⟩)
              · have N55 := Fr.app N52 N55q
                have C55h := CHr.keep K55 (allS sf54_b54 all0) C54c.1
                have sf55_b42 := Safe.keep K55 (allS sf54_b54 all0) C54c.1 sf54_b42
                have sf55_b54 := Safe.keep K55 (allS sf54_b54 all0) C54c.1 sf54_b54
                have C55c := C54c.trans C55h
                have O55 := O54o.keep K55 (allS (Nat.le_trans Z52 (Nat.le_of_eq hb54.symm)) all0)
                have K55t := K54.trans K55 (allS (Or.inr (Nat.le_trans K52.1 (Nat.le_of_eq hb54.symm))) all0)
                have Z55 := Nat.le_trans Z54 K55.1
                have Y55 := Nat.le_trans Y54 K55.1
                have E55_b42 := E54_b42.keep K55
                have A55_b42 := A54_b42.keep K55 (ninS ne54_b42 nin0)
                have E55_b54 := A54.keep K55
                show GoE p e below _ (T55.setTop (mkF m 235 #[.val (.ref q1), .val (.int q2), .val (.int q3), .val (.int q4), .val (.ref b42)] [.ref b54]))
                refine GoH.of_go (a0 := a0) (fun v h L => ∃ b : Addr, v = some (.ref b) ∧ Fr n0 L ∧ Keep h0 h [] ∧ h0.size ≤ b ∧ Txt Z h b (buildL bs q2 q3 q4)) hS0 hZ (own_EL hw) ?_
                exact g_retA (Q := _) X55 hx hby d1_235 rfl hret rfl hlk (by decide) (by decide) ⟨⟨b54, rfl, N55, K55t, (Nat.le_trans K52.1 (Nat.le_of_eq hb54.symm)), (by unfold buildL; rw [if_neg hc1_1, if_neg hc14_2, if_neg hc27_3, if_neg hc40_4, if_neg hc53_5, if_pos hc66_6]; exact ⟨Ei55, by simp, b55, _, Fv55, Fc55, A55⟩)⟩, Y55, C55c⟩
          · refine g_iconst X0 hx hby d1_56 (pc' := 57) rfl (z := (4 : Int32)) rfl ?_
            refine g_newarray X0 hx hZ 4  "[C" hby d1_57 (pc' := 59) rfl (w_13 hw) e0 (by decide) (by decide) (by decide) (by decide) (by decide) rfl ?_
            intro T56 b56 c56 hb56 X56 E56 A56v A56x
            have sf56_b56 := Safe.ext E56 C0h.1 (Safe.new (Nat.le_of_eq hb56.symm))
            have C56c := C0h.trans (CHr.ext E56 C0h.1)
            have O56o := O0.ext E56
            have K56 := (Keep.refl h0 []).ext E56
            have Z56 := Nat.le_trans Z0 E56.1
            have Y56 := Nat.le_trans (Nat.le_refl h0.size) E56.1
            have A56 : Arv Z T56.heap b56 c56 .char (4 : Int32) [.int 0, .int 0, .int 0, .int 0] (.int 0) := A56v
            refine g_astore X56 hx hby d1_59 (pc' := 61) rfl rfl (l' := #[.val (.ref q1), .val (.int q2), .val (.int q3), .val (.int q4), .val (.ref b56)]) rfl ?_
            refine g_goto X56 hx hby d1_61 (by decide) (pc' := 98) (by decide) ?_
            refine g_aload X56 hx hby d1_98 (pc' := 100) rfl rfl rfl ?_
            refine g_alen X56 hx hZ hby d1_100 (pc' := 101) rfl rfl A56 ?_
            refine g_if_le X56 hx hby d1_101 (by decide) (pc' := 115) (by decide) (pn := 104) rfl (fun z => absurd z (by decide)) (fun _ => ?_)
            refine g_aload X56 hx hby d1_104 (pc' := 106) rfl rfl rfl ?_
            refine g_iconst X56 hx hby d1_106 (pc' := 107) rfl (z := (0 : Int32)) rfl ?_
            refine g_aloadN X56 hx hby d1_107 (pc' := 108) rfl rfl rfl ?_
            refine g_iconst X56 hx hby d1_108 (pc' := 109) rfl (z := (0 : Int32)) rfl ?_
            refine g_iloadN X56 hx hby d1_109 (pc' := 110) rfl rfl ?_
            refine g_iloadN X56 hx hby d1_110 (pc' := 111) rfl rfl ?_
            refine g_callS X56 hx hZ hown (W := 2) (argsL := [.ref q1, .int (0 : Int32), .int q3, .int q4]) (rest := [.int (0 : Int32), .ref b56]) hby d1_111 (pc' := 114) rfl (by rw [hml]; rfl) (w_95 hw) (w_96 hw) (w_11 hw) (w_97 hw) (by decide) (rmAT l Z a0 hw [] q1 (0 : Int32) q3 q4 T56.heap n0 bs (T_1.keep0 K56) (by decide) hc cs fm SS O56o) rfl (by decide) (by decide) (by decide) (by decide) rfl pd__28Ljava_2flang_2fString_3bIIC_29C rfl rfl (Nat.le_of_eq rfl) ?_
            rintro _ T57 L57 X57 ⟨rfl, N57q, e57⟩
            have N57 := Fr.app N0 N57q
            show GoE p e below _ (T57.setTop (mkF m 114 #[.val (.ref q1), .val (.int q2), .val (.int q3), .val (.int q4), .val (.ref b56)] [.int (atV bs (0 : Int32) q3 q4), .int (0 : Int32), .ref b56]))
            refine g_castore X57 hx hZ 0 hby d1_114 (pc' := 115) rfl e57 A56 (by decide) (by decide) (by first | decide | simp) ?_
            intro T58 X58 W58 A58v
            have N58 := Fr.snoc X58 N57 (Nat.le_trans Z0 (Nat.le_of_eq hb56.symm))
            have sf58_b56 := Safe.wr W58 sf56_b56 C56c.1 sf56_b56
            have C58c := C56c.trans (CHr.wr W58 sf56_b56 C56c.1)
            have O58 := O56o.wr W58 (Nat.le_trans Z0 (Nat.le_of_eq hb56.symm))
            have K58 := K56.wr W58 (Or.inr (Nat.le_trans (Keep.refl h0 []).1 (Nat.le_of_eq hb56.symm)))
            have Z58 : n0 ≤ T58.heap.size := (W58.size ▸ Z56)
            have Y58 := Nat.le_trans Y56 (Nat.le_of_eq W58.size.symm)
            have E58_b56 := A56x.wr W58
            have A58 : Arv Z T58.heap b56 c56 .char (4 : Int32) [.int (nar .char (atV bs (0 : Int32) q3 q4)), .int 0, .int 0, .int 0] (.int 0) := A58v
            refine g_aload X58 hx hby d1_115 (pc' := 117) rfl rfl rfl ?_
            refine g_alen X58 hx hZ hby d1_117 (pc' := 118) rfl rfl A58 ?_
            refine g_iconst X58 hx hby d1_118 (pc' := 119) rfl (z := (1 : Int32)) rfl ?_
            refine g_icmp_le X58 hx hby d1_119 (by decide) (pc' := 133) (by decide) (pn := 122) rfl (fun z => absurd z (by decide)) (fun _ => ?_)
            refine g_aload X58 hx hby d1_122 (pc' := 124) rfl rfl rfl ?_
            refine g_iconst X58 hx hby d1_124 (pc' := 125) rfl (z := (1 : Int32)) rfl ?_
            refine g_aloadN X58 hx hby d1_125 (pc' := 126) rfl rfl rfl ?_
            refine g_iconst X58 hx hby d1_126 (pc' := 127) rfl (z := (1 : Int32)) rfl ?_
            refine g_iloadN X58 hx hby d1_127 (pc' := 128) rfl rfl ?_
            refine g_iloadN X58 hx hby d1_128 (pc' := 129) rfl rfl ?_
            refine g_callS X58 hx hZ hown (W := 2) (argsL := [.ref q1, .int (1 : Int32), .int q3, .int q4]) (rest := [.int (1 : Int32), .ref b56]) hby d1_129 (pc' := 132) rfl (by rw [hml]; rfl) (w_95 hw) (w_96 hw) (w_11 hw) (w_97 hw) (by decide) (rmAT l Z a0 hw [] q1 (1 : Int32) q3 q4 T58.heap n0 bs (T_1.keep0 K58) (by decide) hc cs fm SS O58) rfl (by decide) (by decide) (by decide) (by decide) rfl pd__28Ljava_2flang_2fString_3bIIC_29C rfl rfl (Nat.le_of_eq rfl) ?_
            rintro _ T59 L59 X59 ⟨rfl, N59q, e59⟩
            have N59 := Fr.app N58 N59q
            show GoE p e below _ (T59.setTop (mkF m 132 #[.val (.ref q1), .val (.int q2), .val (.int q3), .val (.int q4), .val (.ref b56)] [.int (atV bs (1 : Int32) q3 q4), .int (1 : Int32), .ref b56]))
            refine g_castore X59 hx hZ 1 hby d1_132 (pc' := 133) rfl e59 A58 (by decide) (by decide) (by first | decide | simp) ?_
            intro T60 X60 W60 A60v
            have N60 := Fr.snoc X60 N59 (Nat.le_trans Z0 (Nat.le_of_eq hb56.symm))
            have sf60_b56 := Safe.wr W60 sf58_b56 C58c.1 sf58_b56
            have C60c := C58c.trans (CHr.wr W60 sf58_b56 C58c.1)
            have O60 := O58.wr W60 (Nat.le_trans Z0 (Nat.le_of_eq hb56.symm))
            have K60 := K58.wr W60 (Or.inr (Nat.le_trans (Keep.refl h0 []).1 (Nat.le_of_eq hb56.symm)))
            have Z60 : n0 ≤ T60.heap.size := (W60.size ▸ Z58)
            have Y60 := Nat.le_trans Y58 (Nat.le_of_eq W60.size.symm)
            have E60_b56 := E58_b56.wr W60
            have A60 : Arv Z T60.heap b56 c56 .char (4 : Int32) [.int (nar .char (atV bs (0 : Int32) q3 q4)), .int (nar .char (atV bs (1 : Int32) q3 q4)), .int 0, .int 0] (.int 0) := A60v
            refine g_aload X60 hx hby d1_133 (pc' := 135) rfl rfl rfl ?_
            refine g_alen X60 hx hZ hby d1_135 (pc' := 136) rfl rfl A60 ?_
            refine g_iconst X60 hx hby d1_136 (pc' := 137) rfl (z := (2 : Int32)) rfl ?_
            refine g_icmp_le X60 hx hby d1_137 (by decide) (pc' := 151) (by decide) (pn := 140) rfl (fun z => absurd z (by decide)) (fun _ => ?_)
            refine g_aload X60 hx hby d1_140 (pc' := 142) rfl rfl rfl ?_
            refine g_iconst X60 hx hby d1_142 (pc' := 143) rfl (z := (2 : Int32)) rfl ?_
            refine g_aloadN X60 hx hby d1_143 (pc' := 144) rfl rfl rfl ?_
            refine g_iconst X60 hx hby d1_144 (pc' := 145) rfl (z := (2 : Int32)) rfl ?_
            refine g_iloadN X60 hx hby d1_145 (pc' := 146) rfl rfl ?_
            refine g_iloadN X60 hx hby d1_146 (pc' := 147) rfl rfl ?_
            refine g_callS X60 hx hZ hown (W := 2) (argsL := [.ref q1, .int (2 : Int32), .int q3, .int q4]) (rest := [.int (2 : Int32), .ref b56]) hby d1_147 (pc' := 150) rfl (by rw [hml]; rfl) (w_95 hw) (w_96 hw) (w_11 hw) (w_97 hw) (by decide) (rmAT l Z a0 hw [] q1 (2 : Int32) q3 q4 T60.heap n0 bs (T_1.keep0 K60) (by decide) hc cs fm SS O60) rfl (by decide) (by decide) (by decide) (by decide) rfl pd__28Ljava_2flang_2fString_3bIIC_29C rfl rfl (Nat.le_of_eq rfl) ?_
            rintro _ T61 L61 X61 ⟨rfl, N61q, e61⟩
            have N61 := Fr.app N60 N61q
            show GoE p e below _ (T61.setTop (mkF m 150 #[.val (.ref q1), .val (.int q2), .val (.int q3), .val (.int q4), .val (.ref b56)] [.int (atV bs (2 : Int32) q3 q4), .int (2 : Int32), .ref b56]))
            refine g_castore X61 hx hZ 2 hby d1_150 (pc' := 151) rfl e61 A60 (by decide) (by decide) (by first | decide | simp) ?_
            intro T62 X62 W62 A62v
            have N62 := Fr.snoc X62 N61 (Nat.le_trans Z0 (Nat.le_of_eq hb56.symm))
            have sf62_b56 := Safe.wr W62 sf60_b56 C60c.1 sf60_b56
            have C62c := C60c.trans (CHr.wr W62 sf60_b56 C60c.1)
            have O62 := O60.wr W62 (Nat.le_trans Z0 (Nat.le_of_eq hb56.symm))
            have K62 := K60.wr W62 (Or.inr (Nat.le_trans (Keep.refl h0 []).1 (Nat.le_of_eq hb56.symm)))
            have Z62 : n0 ≤ T62.heap.size := (W62.size ▸ Z60)
            have Y62 := Nat.le_trans Y60 (Nat.le_of_eq W62.size.symm)
            have E62_b56 := E60_b56.wr W62
            have A62 : Arv Z T62.heap b56 c56 .char (4 : Int32) [.int (nar .char (atV bs (0 : Int32) q3 q4)), .int (nar .char (atV bs (1 : Int32) q3 q4)), .int (nar .char (atV bs (2 : Int32) q3 q4)), .int 0] (.int 0) := A62v
            refine g_aload X62 hx hby d1_151 (pc' := 153) rfl rfl rfl ?_
            refine g_alen X62 hx hZ hby d1_153 (pc' := 154) rfl rfl A62 ?_
            refine g_iconst X62 hx hby d1_154 (pc' := 155) rfl (z := (3 : Int32)) rfl ?_
            refine g_icmp_le X62 hx hby d1_155 (by decide) (pc' := 169) (by decide) (pn := 158) rfl (fun z => absurd z (by decide)) (fun _ => ?_)
            refine g_aload X62 hx hby d1_158 (pc' := 160) rfl rfl rfl ?_
            refine g_iconst X62 hx hby d1_160 (pc' := 161) rfl (z := (3 : Int32)) rfl ?_
            refine g_aloadN X62 hx hby d1_161 (pc' := 162) rfl rfl rfl ?_
            refine g_iconst X62 hx hby d1_162 (pc' := 163) rfl (z := (3 : Int32)) rfl ?_
            refine g_iloadN X62 hx hby d1_163 (pc' := 164) rfl rfl ?_
            refine g_iloadN X62 hx hby d1_164 (pc' := 165) rfl rfl ?_
            refine g_callS X62 hx hZ hown (W := 2) (argsL := [.ref q1, .int (3 : Int32), .int q3, .int q4]) (rest := [.int (3 : Int32), .ref b56]) hby d1_165 (pc' := 168) rfl (by rw [hml]; rfl) (w_95 hw) (w_96 hw) (w_11 hw) (w_97 hw) (by decide) (rmAT l Z a0 hw [] q1 (3 : Int32) q3 q4 T62.heap n0 bs (T_1.keep0 K62) (by decide) hc cs fm SS O62) rfl (by decide) (by decide) (by decide) (by decide) rfl pd__28Ljava_2flang_2fString_3bIIC_29C rfl rfl (Nat.le_of_eq rfl) ?_
            rintro _ T63 L63 X63 ⟨rfl, N63q, e63⟩
            have N63 := Fr.app N62 N63q
            show GoE p e below _ (T63.setTop (mkF m 168 #[.val (.ref q1), .val (.int q2), .val (.int q3), .val (.int q4), .val (.ref b56)] [.int (atV bs (3 : Int32) q3 q4), .int (3 : Int32), .ref b56]))
            refine g_castore X63 hx hZ 3 hby d1_168 (pc' := 169) rfl e63 A62 (by decide) (by decide) (by first | decide | simp) ?_
            intro T64 X64 W64 A64v
            have N64 := Fr.snoc X64 N63 (Nat.le_trans Z0 (Nat.le_of_eq hb56.symm))
            have sf64_b56 := Safe.wr W64 sf62_b56 C62c.1 sf62_b56
            have C64c := C62c.trans (CHr.wr W64 sf62_b56 C62c.1)
            have O64 := O62.wr W64 (Nat.le_trans Z0 (Nat.le_of_eq hb56.symm))
            have K64 := K62.wr W64 (Or.inr (Nat.le_trans (Keep.refl h0 []).1 (Nat.le_of_eq hb56.symm)))
            have Z64 : n0 ≤ T64.heap.size := (W64.size ▸ Z62)
            have Y64 := Nat.le_trans Y62 (Nat.le_of_eq W64.size.symm)
            have E64_b56 := E62_b56.wr W64
            have A64 : Arv Z T64.heap b56 c56 .char (4 : Int32) [.int (nar .char (atV bs (0 : Int32) q3 q4)), .int (nar .char (atV bs (1 : Int32) q3 q4)), .int (nar .char (atV bs (2 : Int32) q3 q4)), .int (nar .char (atV bs (3 : Int32) q3 q4))] (.int 0) := A64v
            refine g_aload X64 hx hby d1_169 (pc' := 171) rfl rfl rfl ?_
            refine g_alen X64 hx hZ hby d1_171 (pc' := 172) rfl rfl A64 ?_
            refine g_iconst X64 hx hby d1_172 (pc' := 173) rfl (z := (4 : Int32)) rfl ?_
            refine g_icmp_le X64 hx hby d1_173 (by decide) (pc' := 187) (by decide) (pn := 176) rfl (fun _ => ?_) (fun z => absurd z (by decide))
            refine g_aload X64 hx hby d1_187 (pc' := 189) rfl rfl rfl ?_
            refine g_alen X64 hx hZ hby d1_189 (pc' := 190) rfl rfl A64 ?_
            refine g_iconst X64 hx hby d1_190 (pc' := 191) rfl (z := (5 : Int32)) rfl ?_
            refine g_icmp_le X64 hx hby d1_191 (by decide) (pc' := 205) (by decide) (pn := 194) rfl (fun _ => ?_) (fun z => absurd z (by decide))
            refine g_aload X64 hx hby d1_205 (pc' := 207) rfl rfl rfl ?_
            refine g_alen X64 hx hZ hby d1_207 (pc' := 208) rfl rfl A64 ?_
            refine g_bipush X64 hx hby d1_208 (pc' := 210) rfl (z := (6 : Int32)) rfl ?_
            refine g_icmp_le X64 hx hby d1_210 (by decide) (pc' := 226) (by decide) (pn := 213) rfl (fun _ => ?_) (fun z => absurd z (by decide))
            have A65 : Arv Z T64.heap b56 c56 .char (4 : Int32) [.int (atV bs (0 : Int32) q3 q4), .int (atV bs (1 : Int32) q3 q4), .int (atV bs (2 : Int32) q3 q4), .int (atV bs (3 : Int32) q3 q4)] (.int 0) := by
              have z := A64
              rw [own_narc (own_at bs (0 : Int32) q3 hc), own_narc (own_at bs (1 : Int32) q3 hc), own_narc (own_at bs (2 : Int32) q3 hc), own_narc (own_at bs (3 : Int32) q3 hc)] at z
              exact z
            refine g_new X64 hx hZ hown hby d1_226 (pc' := 229) rfl (w_14 hw) (w_3 hw) (w_2 hw) rfl (by decide) (by decide) ?_
            intro T66 b66 hb66 X66 E66 A66 D66
            have sf66_b56 := Safe.ext E66 C64c.1 sf64_b56
            have sf66_b66 := Safe.ext E66 C64c.1 (Safe.new (Nat.le_of_eq hb66.symm))
            have C66c := C64c.trans (CHr.ext E66 C64c.1)
            have O66o := O64.ext E66
            have K66 := K64.ext E66
            have Z66 := Nat.le_trans Z64 E66.1
            have Y66 := Nat.le_trans Y64 E66.1
            have E66_b56 := E64_b56.ext E66
            have ne66_b56 : b56 ≠ b66 := hb66 ▸ Nat.ne_of_lt E64_b56.lt
            have A66_b56 := A65.ext E66
            have F66_value : Fld Z T66.heap b66 "java/lang/String" "value" "[B" (.null) := D66 (Or.inr (w_5 hw)) (ty := (.array .byte)) (by decide)
            have F66_coder : Fld Z T66.heap b66 "java/lang/String" "coder" "B" (.int (0 : Int32)) := D66 (Or.inr (w_6 hw)) (ty := .byte) (by decide)
            refine g_dup X66 hx hby d1_229 (pc' := 230) rfl rfl ?_
            refine g_aload X66 hx hby d1_230 (pc' := 232) rfl rfl rfl ?_
            refine g_callI X66 hx hZ hown (W := 1) (argsL := [.ref b56]) (b := b66) (rest := [.ref b66]) hby d1_232 (pc' := 235) rfl (by rw [hml]; rfl) (w_15 hw) (w_16 hw) (w_2 hw) (w_17 hw) rfl (by decide) (rmS14 l Z a0 hw [] b66 b56 T66.heap n0 (atV bs (0 : Int32) q3 q4) (atV bs (1 : Int32) q3 q4) (atV bs (2 : Int32) q3 q4) (atV bs (3 : Int32) q3 q4) _ A66_b56 (own_at bs (0 : Int32) q3 hc) (own_at bs (1 : Int32) q3 hc) (own_at bs (2 : Int32) q3 hc) (own_at bs (3 : Int32) q3 hc) Z66 A66 F66_value F66_coder ne66_b56 (Nat.le_trans Z64 (Nat.le_of_eq hb66.symm)) cs fm SS O66o) rfl (by decide) (by decide) (by decide) (by decide) rfl pd__28_5bC_29V rfl rfl (Nat.le_of_eq rfl) ?_
            rintro _ T67 L67 X67 (⟨b67, k67, rfl, N67q, K67, Ei67, Fv67, Fc67, A67⟩)
            · have N67 := Fr.app N64 N67q
              have C67h := CHr.keep K67 (allS sf66_b66 all0) C66c.1
              have sf67_b56 := Safe.keep K67 (allS sf66_b66 all0) C66c.1 sf66_b56
              have sf67_b66 := Safe.keep K67 (allS sf66_b66 all0) C66c.1 sf66_b66
              have C67c := C66c.trans C67h
              have O67 := O66o.keep K67 (allS (Nat.le_trans Z64 (Nat.le_of_eq hb66.symm)) all0)
              have K67t := K66.trans K67 (allS (Or.inr (Nat.le_trans K64.1 (Nat.le_of_eq hb66.symm))) all0)
              have Z67 := Nat.le_trans Z66 K67.1
              have Y67 := Nat.le_trans Y66 K67.1
              have E67_b56 := E66_b56.keep K67
              have A67_b56 := A66_b56.keep K67 (ninS ne66_b56 nin0)
              have E67_b66 := A66.keep K67
              show GoE p e below _ (T67.setTop (mkF m 235 #[.val (.ref q1), .val (.int q2), .val (.int q3), .val (.int q4), .val (.ref b56)] [.ref b66]))
              refine GoH.of_go (a0 := a0) (fun v h L => ∃ b : Addr, v = some (.ref b) ∧ Fr n0 L ∧ Keep h0 h [] ∧ h0.size ≤ b ∧ Txt Z h b (buildL bs q2 q3 q4)) hS0 hZ (own_EL hw) ?_
              exact g_retA (Q := _) X67 hx hby d1_235 rfl hret rfl hlk (by decide) (by decide) ⟨⟨b66, rfl, N67, K67t, (Nat.le_trans K64.1 (Nat.le_of_eq hb66.symm)), (by unfold buildL; rw [if_neg hc1_1, if_neg hc14_2, if_neg hc27_3, if_neg hc40_4, if_pos hc53_5]; exact ⟨Ei67, by simp, b67, _, Fv67, Fc67, A67⟩)⟩, Y67, C67c⟩
        · refine g_iconst X0 hx hby d1_43 (pc' := 44) rfl (z := (3 : Int32)) rfl ?_
          refine g_newarray X0 hx hZ 3  "[C" hby d1_44 (pc' := 46) rfl (w_13 hw) e0 (by decide) (by decide) (by decide) (by decide) (by decide) rfl ?_
          intro T68 b68 c68 hb68 X68 E68 A68v A68x
          have sf68_b68 := Safe.ext E68 C0h.1 (Safe.new (Nat.le_of_eq hb68.symm))
          have C68c := C0h.trans (CHr.ext E68 C0h.1)
          have O68o := O0.ext E68
          have K68 := (Keep.refl h0 []).ext E68
          have Z68 := Nat.le_trans Z0 E68.1
          have Y68 := Nat.le_trans (Nat.le_refl h0.size) E68.1
          have A68 : Arv Z T68.heap b68 c68 .char (3 : Int32) [.int 0, .int 0, .int 0] (.int 0) := A68v
          refine g_astore X68 hx hby d1_46 (pc' := 48) rfl rfl (l' := #[.val (.ref q1), .val (.int q2), .val (.int q3), .val (.int q4), .val (.ref b68)]) rfl ?_
          refine g_goto X68 hx hby d1_48 (by decide) (pc' := 98) (by decide) ?_
          refine g_aload X68 hx hby d1_98 (pc' := 100) rfl rfl rfl ?_
          refine g_alen X68 hx hZ hby d1_100 (pc' := 101) rfl rfl A68 ?_
          refine g_if_le X68 hx hby d1_101 (by decide) (pc' := 115) (by decide) (pn := 104) rfl (fun z => absurd z (by decide)) (fun _ => ?_)
          refine g_aload X68 hx hby d1_104 (pc' := 106) rfl rfl rfl ?_
          refine g_iconst X68 hx hby d1_106 (pc' := 107) rfl (z := (0 : Int32)) rfl ?_
          refine g_aloadN X68 hx hby d1_107 (pc' := 108) rfl rfl rfl ?_
          refine g_iconst X68 hx hby d1_108 (pc' := 109) rfl (z := (0 : Int32)) rfl ?_
          refine g_iloadN X68 hx hby d1_109 (pc' := 110) rfl rfl ?_
          refine g_iloadN X68 hx hby d1_110 (pc' := 111) rfl rfl ?_
          refine g_callS X68 hx hZ hown (W := 2) (argsL := [.ref q1, .int (0 : Int32), .int q3, .int q4]) (rest := [.int (0 : Int32), .ref b68]) hby d1_111 (pc' := 114) rfl (by rw [hml]; rfl) (w_95 hw) (w_96 hw) (w_11 hw) (w_97 hw) (by decide) (rmAT l Z a0 hw [] q1 (0 : Int32) q3 q4 T68.heap n0 bs (T_1.keep0 K68) (by decide) hc cs fm SS O68o) rfl (by decide) (by decide) (by decide) (by decide) rfl pd__28Ljava_2flang_2fString_3bIIC_29C rfl rfl (Nat.le_of_eq rfl) ?_
          rintro _ T69 L69 X69 ⟨rfl, N69q, e69⟩
          have N69 := Fr.app N0 N69q
          show GoE p e below _ (T69.setTop (mkF m 114 #[.val (.ref q1), .val (.int q2), .val (.int q3), .val (.int q4), .val (.ref b68)] [.int (atV bs (0 : Int32) q3 q4), .int (0 : Int32), .ref b68]))
          refine g_castore X69 hx hZ 0 hby d1_114 (pc' := 115) rfl e69 A68 (by decide) (by decide) (by first | decide | simp) ?_
          intro T70 X70 W70 A70v
          have N70 := Fr.snoc X70 N69 (Nat.le_trans Z0 (Nat.le_of_eq hb68.symm))
          have sf70_b68 := Safe.wr W70 sf68_b68 C68c.1 sf68_b68
          have C70c := C68c.trans (CHr.wr W70 sf68_b68 C68c.1)
          have O70 := O68o.wr W70 (Nat.le_trans Z0 (Nat.le_of_eq hb68.symm))
          have K70 := K68.wr W70 (Or.inr (Nat.le_trans (Keep.refl h0 []).1 (Nat.le_of_eq hb68.symm)))
          have Z70 : n0 ≤ T70.heap.size := (W70.size ▸ Z68)
          have Y70 := Nat.le_trans Y68 (Nat.le_of_eq W70.size.symm)
          have E70_b68 := A68x.wr W70
          have A70 : Arv Z T70.heap b68 c68 .char (3 : Int32) [.int (nar .char (atV bs (0 : Int32) q3 q4)), .int 0, .int 0] (.int 0) := A70v
          refine g_aload X70 hx hby d1_115 (pc' := 117) rfl rfl rfl ?_
          refine g_alen X70 hx hZ hby d1_117 (pc' := 118) rfl rfl A70 ?_
          refine g_iconst X70 hx hby d1_118 (pc' := 119) rfl (z := (1 : Int32)) rfl ?_
          refine g_icmp_le X70 hx hby d1_119 (by decide) (pc' := 133) (by decide) (pn := 122) rfl (fun z => absurd z (by decide)) (fun _ => ?_)
          refine g_aload X70 hx hby d1_122 (pc' := 124) rfl rfl rfl ?_
          refine g_iconst X70 hx hby d1_124 (pc' := 125) rfl (z := (1 : Int32)) rfl ?_
          refine g_aloadN X70 hx hby d1_125 (pc' := 126) rfl rfl rfl ?_
          refine g_iconst X70 hx hby d1_126 (pc' := 127) rfl (z := (1 : Int32)) rfl ?_
          refine g_iloadN X70 hx hby d1_127 (pc' := 128) rfl rfl ?_
          refine g_iloadN X70 hx hby d1_128 (pc' := 129) rfl rfl ?_
          refine g_callS X70 hx hZ hown (W := 2) (argsL := [.ref q1, .int (1 : Int32), .int q3, .int q4]) (rest := [.int (1 : Int32), .ref b68]) hby d1_129 (pc' := 132) rfl (by rw [hml]; rfl) (w_95 hw) (w_96 hw) (w_11 hw) (w_97 hw) (by decide) (rmAT l Z a0 hw [] q1 (1 : Int32) q3 q4 T70.heap n0 bs (T_1.keep0 K70) (by decide) hc cs fm SS O70) rfl (by decide) (by decide) (by decide) (by decide) rfl pd__28Ljava_2flang_2fString_3bIIC_29C rfl rfl (Nat.le_of_eq rfl) ?_
          rintro _ T71 L71 X71 ⟨rfl, N71q, e71⟩
          have N71 := Fr.app N70 N71q
          show GoE p e below _ (T71.setTop (mkF m 132 #[.val (.ref q1), .val (.int q2), .val (.int q3), .val (.int q4), .val (.ref b68)] [.int (atV bs (1 : Int32) q3 q4), .int (1 : Int32), .ref b68]))
          refine g_castore X71 hx hZ 1 hby d1_132 (pc' := 133) rfl e71 A70 (by decide) (by decide) (by first | decide | simp) ?_
          intro T72 X72 W72 A72v
          have N72 := Fr.snoc X72 N71 (Nat.le_trans Z0 (Nat.le_of_eq hb68.symm))
          have sf72_b68 := Safe.wr W72 sf70_b68 C70c.1 sf70_b68
          have C72c := C70c.trans (CHr.wr W72 sf70_b68 C70c.1)
          have O72 := O70.wr W72 (Nat.le_trans Z0 (Nat.le_of_eq hb68.symm))
          have K72 := K70.wr W72 (Or.inr (Nat.le_trans (Keep.refl h0 []).1 (Nat.le_of_eq hb68.symm)))
          have Z72 : n0 ≤ T72.heap.size := (W72.size ▸ Z70)
          have Y72 := Nat.le_trans Y70 (Nat.le_of_eq W72.size.symm)
          have E72_b68 := E70_b68.wr W72
          have A72 : Arv Z T72.heap b68 c68 .char (3 : Int32) [.int (nar .char (atV bs (0 : Int32) q3 q4)), .int (nar .char (atV bs (1 : Int32) q3 q4)), .int 0] (.int 0) := A72v
          refine g_aload X72 hx hby d1_133 (pc' := 135) rfl rfl rfl ?_
          refine g_alen X72 hx hZ hby d1_135 (pc' := 136) rfl rfl A72 ?_
          refine g_iconst X72 hx hby d1_136 (pc' := 137) rfl (z := (2 : Int32)) rfl ?_
          refine g_icmp_le X72 hx hby d1_137 (by decide) (pc' := 151) (by decide) (pn := 140) rfl (fun z => absurd z (by decide)) (fun _ => ?_)
          refine g_aload X72 hx hby d1_140 (pc' := 142) rfl rfl rfl ?_
          refine g_iconst X72 hx hby d1_142 (pc' := 143) rfl (z := (2 : Int32)) rfl ?_
          refine g_aloadN X72 hx hby d1_143 (pc' := 144) rfl rfl rfl ?_
          refine g_iconst X72 hx hby d1_144 (pc' := 145) rfl (z := (2 : Int32)) rfl ?_
          refine g_iloadN X72 hx hby d1_145 (pc' := 146) rfl rfl ?_
          refine g_iloadN X72 hx hby d1_146 (pc' := 147) rfl rfl ?_
          refine g_callS X72 hx hZ hown (W := 2) (argsL := [.ref q1, .int (2 : Int32), .int q3, .int q4]) (rest := [.int (2 : Int32), .ref b68]) hby d1_147 (pc' := 150) rfl (by rw [hml]; rfl) (w_95 hw) (w_96 hw) (w_11 hw) (w_97 hw) (by decide) (rmAT l Z a0 hw [] q1 (2 : Int32) q3 q4 T72.heap n0 bs (T_1.keep0 K72) (by decide) hc cs fm SS O72) rfl (by decide) (by decide) (by decide) (by decide) rfl pd__28Ljava_2flang_2fString_3bIIC_29C rfl rfl (Nat.le_of_eq rfl) ?_
          rintro _ T73 L73 X73 ⟨rfl, N73q, e73⟩
          have N73 := Fr.app N72 N73q
          show GoE p e below _ (T73.setTop (mkF m 150 #[.val (.ref q1), .val (.int q2), .val (.int q3), .val (.int q4), .val (.ref b68)] [.int (atV bs (2 : Int32) q3 q4), .int (2 : Int32), .ref b68]))
          refine g_castore X73 hx hZ 2 hby d1_150 (pc' := 151) rfl e73 A72 (by decide) (by decide) (by first | decide | simp) ?_
          intro T74 X74 W74 A74v
          have N74 := Fr.snoc X74 N73 (Nat.le_trans Z0 (Nat.le_of_eq hb68.symm))
          have sf74_b68 := Safe.wr W74 sf72_b68 C72c.1 sf72_b68
          have C74c := C72c.trans (CHr.wr W74 sf72_b68 C72c.1)
          have O74 := O72.wr W74 (Nat.le_trans Z0 (Nat.le_of_eq hb68.symm))
          have K74 := K72.wr W74 (Or.inr (Nat.le_trans (Keep.refl h0 []).1 (Nat.le_of_eq hb68.symm)))
          have Z74 : n0 ≤ T74.heap.size := (W74.size ▸ Z72)
          have Y74 := Nat.le_trans Y72 (Nat.le_of_eq W74.size.symm)
          have E74_b68 := E72_b68.wr W74
          have A74 : Arv Z T74.heap b68 c68 .char (3 : Int32) [.int (nar .char (atV bs (0 : Int32) q3 q4)), .int (nar .char (atV bs (1 : Int32) q3 q4)), .int (nar .char (atV bs (2 : Int32) q3 q4))] (.int 0) := A74v
          refine g_aload X74 hx hby d1_151 (pc' := 153) rfl rfl rfl ?_
          refine g_alen X74 hx hZ hby d1_153 (pc' := 154) rfl rfl A74 ?_
          refine g_iconst X74 hx hby d1_154 (pc' := 155) rfl (z := (3 : Int32)) rfl ?_
          refine g_icmp_le X74 hx hby d1_155 (by decide) (pc' := 169) (by decide) (pn := 158) rfl (fun _ => ?_) (fun z => absurd z (by decide))
          refine g_aload X74 hx hby d1_169 (pc' := 171) rfl rfl rfl ?_
          refine g_alen X74 hx hZ hby d1_171 (pc' := 172) rfl rfl A74 ?_
          refine g_iconst X74 hx hby d1_172 (pc' := 173) rfl (z := (4 : Int32)) rfl ?_
          refine g_icmp_le X74 hx hby d1_173 (by decide) (pc' := 187) (by decide) (pn := 176) rfl (fun _ => ?_) (fun z => absurd z (by decide))
          refine g_aload X74 hx hby d1_187 (pc' := 189) rfl rfl rfl ?_
          refine g_alen X74 hx hZ hby d1_189 (pc' := 190) rfl rfl A74 ?_
          refine g_iconst X74 hx hby d1_190 (pc' := 191) rfl (z := (5 : Int32)) rfl ?_
          refine g_icmp_le X74 hx hby d1_191 (by decide) (pc' := 205) (by decide) (pn := 194) rfl (fun _ => ?_) (fun z => absurd z (by decide))
          refine g_aload X74 hx hby d1_205 (pc' := 207) rfl rfl rfl ?_
          refine g_alen X74 hx hZ hby d1_207 (pc' := 208) rfl rfl A74 ?_
          refine g_bipush X74 hx hby d1_208 (pc' := 210) rfl (z := (6 : Int32)) rfl ?_
          refine g_icmp_le X74 hx hby d1_210 (by decide) (pc' := 226) (by decide) (pn := 213) rfl (fun _ => ?_) (fun z => absurd z (by decide))
          have A75 : Arv Z T74.heap b68 c68 .char (3 : Int32) [.int (atV bs (0 : Int32) q3 q4), .int (atV bs (1 : Int32) q3 q4), .int (atV bs (2 : Int32) q3 q4)] (.int 0) := by
            have z := A74
            rw [own_narc (own_at bs (0 : Int32) q3 hc), own_narc (own_at bs (1 : Int32) q3 hc), own_narc (own_at bs (2 : Int32) q3 hc)] at z
            exact z
          refine g_new X74 hx hZ hown hby d1_226 (pc' := 229) rfl (w_14 hw) (w_3 hw) (w_2 hw) rfl (by decide) (by decide) ?_
          intro T76 b76 hb76 X76 E76 A76 D76
          have sf76_b68 := Safe.ext E76 C74c.1 sf74_b68
          have sf76_b76 := Safe.ext E76 C74c.1 (Safe.new (Nat.le_of_eq hb76.symm))
          have C76c := C74c.trans (CHr.ext E76 C74c.1)
          have O76o := O74.ext E76
          have K76 := K74.ext E76
          have Z76 := Nat.le_trans Z74 E76.1
          have Y76 := Nat.le_trans Y74 E76.1
          have E76_b68 := E74_b68.ext E76
          have ne76_b68 : b68 ≠ b76 := hb76 ▸ Nat.ne_of_lt E74_b68.lt
          have A76_b68 := A75.ext E76
          have F76_value : Fld Z T76.heap b76 "java/lang/String" "value" "[B" (.null) := D76 (Or.inr (w_5 hw)) (ty := (.array .byte)) (by decide)
          have F76_coder : Fld Z T76.heap b76 "java/lang/String" "coder" "B" (.int (0 : Int32)) := D76 (Or.inr (w_6 hw)) (ty := .byte) (by decide)
          refine g_dup X76 hx hby d1_229 (pc' := 230) rfl rfl ?_
          refine g_aload X76 hx hby d1_230 (pc' := 232) rfl rfl rfl ?_
          refine g_callI X76 hx hZ hown (W := 1) (argsL := [.ref b68]) (b := b76) (rest := [.ref b76]) hby d1_232 (pc' := 235) rfl (by rw [hml]; rfl) (w_15 hw) (w_16 hw) (w_2 hw) (w_17 hw) rfl (by decide) (rmS13 l Z a0 hw [] b76 b68 T76.heap n0 (atV bs (0 : Int32) q3 q4) (atV bs (1 : Int32) q3 q4) (atV bs (2 : Int32) q3 q4) _ A76_b68 (own_at bs (0 : Int32) q3 hc) (own_at bs (1 : Int32) q3 hc) (own_at bs (2 : Int32) q3 hc) Z76 A76 F76_value F76_coder ne76_b68 (Nat.le_trans Z74 (Nat.le_of_eq hb76.symm)) cs fm SS O76o) rfl (by decide) (by decide) (by decide) (by decide) rfl pd__28_5bC_29V rfl rfl (Nat.le_of_eq rfl) ?_
          rintro _ T77 L77 X77 (⟨b77, k77, rfl, N77q, K77, Ei77, Fv77, Fc77, A77⟩)
          · have N77 := Fr.app N74 N77q
            have C77h := CHr.keep K77 (allS sf76_b76 all0) C76c.1
            have sf77_b68 := Safe.keep K77 (allS sf76_b76 all0) C76c.1 sf76_b68
            have sf77_b76 := Safe.keep K77 (allS sf76_b76 all0) C76c.1 sf76_b76
            have C77c := C76c.trans C77h
            have O77 := O76o.keep K77 (allS (Nat.le_trans Z74 (Nat.le_of_eq hb76.symm)) all0)
            have K77t := K76.trans K77 (allS (Or.inr (Nat.le_trans K74.1 (Nat.le_of_eq hb76.symm))) all0)
            have Z77 := Nat.le_trans Z76 K77.1
            have Y77 := Nat.le_trans Y76 K77.1
            have E77_b68 := E76_b68.keep K77
            have A77_b68 := A76_b68.keep K77 (ninS ne76_b68 nin0)
            have E77_b76 := A76.keep K77
            show GoE p e below _ (T77.setTop (mkF m 235 #[.val (.ref q1), .val (.int q2), .val (.int q3), .val (.int q4), .val (.ref b68)] [.ref b76]))
            refine GoH.of_go (a0 := a0) (fun v h L => ∃ b : Addr, v = some (.ref b) ∧ Fr n0 L ∧ Keep h0 h [] ∧ h0.size ≤ b ∧ Txt Z h b (buildL bs q2 q3 q4)) hS0 hZ (own_EL hw) ?_
            exact g_retA (Q := _) X77 hx hby d1_235 rfl hret rfl hlk (by decide) (by decide) ⟨⟨b76, rfl, N77, K77t, (Nat.le_trans K74.1 (Nat.le_of_eq hb76.symm)), (by unfold buildL; rw [if_neg hc1_1, if_neg hc14_2, if_neg hc27_3, if_pos hc40_4]; exact ⟨Ei77, by simp, b77, _, Fv77, Fc77, A77⟩)⟩, Y77, C77c⟩
      · refine g_iconst X0 hx hby d1_30 (pc' := 31) rfl (z := (2 : Int32)) rfl ?_
        refine g_newarray X0 hx hZ 2  "[C" hby d1_31 (pc' := 33) rfl (w_13 hw) e0 (by decide) (by decide) (by decide) (by decide) (by decide) rfl ?_
        intro T78 b78 c78 hb78 X78 E78 A78v A78x
        have sf78_b78 := Safe.ext E78 C0h.1 (Safe.new (Nat.le_of_eq hb78.symm))
        have C78c := C0h.trans (CHr.ext E78 C0h.1)
        have O78o := O0.ext E78
        have K78 := (Keep.refl h0 []).ext E78
        have Z78 := Nat.le_trans Z0 E78.1
        have Y78 := Nat.le_trans (Nat.le_refl h0.size) E78.1
        have A78 : Arv Z T78.heap b78 c78 .char (2 : Int32) [.int 0, .int 0] (.int 0) := A78v
        refine g_astore X78 hx hby d1_33 (pc' := 35) rfl rfl (l' := #[.val (.ref q1), .val (.int q2), .val (.int q3), .val (.int q4), .val (.ref b78)]) rfl ?_
        refine g_goto X78 hx hby d1_35 (by decide) (pc' := 98) (by decide) ?_
        refine g_aload X78 hx hby d1_98 (pc' := 100) rfl rfl rfl ?_
        refine g_alen X78 hx hZ hby d1_100 (pc' := 101) rfl rfl A78 ?_
        refine g_if_le X78 hx hby d1_101 (by decide) (pc' := 115) (by decide) (pn := 104) rfl (fun z => absurd z (by decide)) (fun _ => ?_)
        refine g_aload X78 hx hby d1_104 (pc' := 106) rfl rfl rfl ?_
        refine g_iconst X78 hx hby d1_106 (pc' := 107) rfl (z := (0 : Int32)) rfl ?_
        refine g_aloadN X78 hx hby d1_107 (pc' := 108) rfl rfl rfl ?_
        refine g_iconst X78 hx hby d1_108 (pc' := 109) rfl (z := (0 : Int32)) rfl ?_
        refine g_iloadN X78 hx hby d1_109 (pc' := 110) rfl rfl ?_
        refine g_iloadN X78 hx hby d1_110 (pc' := 111) rfl rfl ?_
        refine g_callS X78 hx hZ hown (W := 2) (argsL := [.ref q1, .int (0 : Int32), .int q3, .int q4]) (rest := [.int (0 : Int32), .ref b78]) hby d1_111 (pc' := 114) rfl (by rw [hml]; rfl) (w_95 hw) (w_96 hw) (w_11 hw) (w_97 hw) (by decide) (rmAT l Z a0 hw [] q1 (0 : Int32) q3 q4 T78.heap n0 bs (T_1.keep0 K78) (by decide) hc cs fm SS O78o) rfl (by decide) (by decide) (by decide) (by decide) rfl pd__28Ljava_2flang_2fString_3bIIC_29C rfl rfl (Nat.le_of_eq rfl) ?_
        rintro _ T79 L79 X79 ⟨rfl, N79q, e79⟩
        have N79 := Fr.app N0 N79q
        show GoE p e below _ (T79.setTop (mkF m 114 #[.val (.ref q1), .val (.int q2), .val (.int q3), .val (.int q4), .val (.ref b78)] [.int (atV bs (0 : Int32) q3 q4), .int (0 : Int32), .ref b78]))
        refine g_castore X79 hx hZ 0 hby d1_114 (pc' := 115) rfl e79 A78 (by decide) (by decide) (by first | decide | simp) ?_
        intro T80 X80 W80 A80v
        have N80 := Fr.snoc X80 N79 (Nat.le_trans Z0 (Nat.le_of_eq hb78.symm))
        have sf80_b78 := Safe.wr W80 sf78_b78 C78c.1 sf78_b78
        have C80c := C78c.trans (CHr.wr W80 sf78_b78 C78c.1)
        have O80 := O78o.wr W80 (Nat.le_trans Z0 (Nat.le_of_eq hb78.symm))
        have K80 := K78.wr W80 (Or.inr (Nat.le_trans (Keep.refl h0 []).1 (Nat.le_of_eq hb78.symm)))
        have Z80 : n0 ≤ T80.heap.size := (W80.size ▸ Z78)
        have Y80 := Nat.le_trans Y78 (Nat.le_of_eq W80.size.symm)
        have E80_b78 := A78x.wr W80
        have A80 : Arv Z T80.heap b78 c78 .char (2 : Int32) [.int (nar .char (atV bs (0 : Int32) q3 q4)), .int 0] (.int 0) := A80v
        refine g_aload X80 hx hby d1_115 (pc' := 117) rfl rfl rfl ?_
        refine g_alen X80 hx hZ hby d1_117 (pc' := 118) rfl rfl A80 ?_
        refine g_iconst X80 hx hby d1_118 (pc' := 119) rfl (z := (1 : Int32)) rfl ?_
        refine g_icmp_le X80 hx hby d1_119 (by decide) (pc' := 133) (by decide) (pn := 122) rfl (fun z => absurd z (by decide)) (fun _ => ?_)
        refine g_aload X80 hx hby d1_122 (pc' := 124) rfl rfl rfl ?_
        refine g_iconst X80 hx hby d1_124 (pc' := 125) rfl (z := (1 : Int32)) rfl ?_
        refine g_aloadN X80 hx hby d1_125 (pc' := 126) rfl rfl rfl ?_
        refine g_iconst X80 hx hby d1_126 (pc' := 127) rfl (z := (1 : Int32)) rfl ?_
        refine g_iloadN X80 hx hby d1_127 (pc' := 128) rfl rfl ?_
        refine g_iloadN X80 hx hby d1_128 (pc' := 129) rfl rfl ?_
        refine g_callS X80 hx hZ hown (W := 2) (argsL := [.ref q1, .int (1 : Int32), .int q3, .int q4]) (rest := [.int (1 : Int32), .ref b78]) hby d1_129 (pc' := 132) rfl (by rw [hml]; rfl) (w_95 hw) (w_96 hw) (w_11 hw) (w_97 hw) (by decide) (rmAT l Z a0 hw [] q1 (1 : Int32) q3 q4 T80.heap n0 bs (T_1.keep0 K80) (by decide) hc cs fm SS O80) rfl (by decide) (by decide) (by decide) (by decide) rfl pd__28Ljava_2flang_2fString_3bIIC_29C rfl rfl (Nat.le_of_eq rfl) ?_
        rintro _ T81 L81 X81 ⟨rfl, N81q, e81⟩
        have N81 := Fr.app N80 N81q
        show GoE p e below _ (T81.setTop (mkF m 132 #[.val (.ref q1), .val (.int q2), .val (.int q3), .val (.int q4), .val (.ref b78)] [.int (atV bs (1 : Int32) q3 q4), .int (1 : Int32), .ref b78]))
        refine g_castore X81 hx hZ 1 hby d1_132 (pc' := 133) rfl e81 A80 (by decide) (by decide) (by first | decide | simp) ?_
        intro T82 X82 W82 A82v
        have N82 := Fr.snoc X82 N81 (Nat.le_trans Z0 (Nat.le_of_eq hb78.symm))
        have sf82_b78 := Safe.wr W82 sf80_b78 C80c.1 sf80_b78
        have C82c := C80c.trans (CHr.wr W82 sf80_b78 C80c.1)
        have O82 := O80.wr W82 (Nat.le_trans Z0 (Nat.le_of_eq hb78.symm))
        have K82 := K80.wr W82 (Or.inr (Nat.le_trans (Keep.refl h0 []).1 (Nat.le_of_eq hb78.symm)))
        have Z82 : n0 ≤ T82.heap.size := (W82.size ▸ Z80)
        have Y82 := Nat.le_trans Y80 (Nat.le_of_eq W82.size.symm)
        have E82_b78 := E80_b78.wr W82
        have A82 : Arv Z T82.heap b78 c78 .char (2 : Int32) [.int (nar .char (atV bs (0 : Int32) q3 q4)), .int (nar .char (atV bs (1 : Int32) q3 q4))] (.int 0) := A82v
        refine g_aload X82 hx hby d1_133 (pc' := 135) rfl rfl rfl ?_
        refine g_alen X82 hx hZ hby d1_135 (pc' := 136) rfl rfl A82 ?_
        refine g_iconst X82 hx hby d1_136 (pc' := 137) rfl (z := (2 : Int32)) rfl ?_
        refine g_icmp_le X82 hx hby d1_137 (by decide) (pc' := 151) (by decide) (pn := 140) rfl (fun _ => ?_) (fun z => absurd z (by decide))
        refine g_aload X82 hx hby d1_151 (pc' := 153) rfl rfl rfl ?_
        refine g_alen X82 hx hZ hby d1_153 (pc' := 154) rfl rfl A82 ?_
        refine g_iconst X82 hx hby d1_154 (pc' := 155) rfl (z := (3 : Int32)) rfl ?_
        refine g_icmp_le X82 hx hby d1_155 (by decide) (pc' := 169) (by decide) (pn := 158) rfl (fun _ => ?_) (fun z => absurd z (by decide))
        refine g_aload X82 hx hby d1_169 (pc' := 171) rfl rfl rfl ?_
        refine g_alen X82 hx hZ hby d1_171 (pc' := 172) rfl rfl A82 ?_
        refine g_iconst X82 hx hby d1_172 (pc' := 173) rfl (z := (4 : Int32)) rfl ?_
        refine g_icmp_le X82 hx hby d1_173 (by decide) (pc' := 187) (by decide) (pn := 176) rfl (fun _ => ?_) (fun z => absurd z (by decide))
        refine g_aload X82 hx hby d1_187 (pc' := 189) rfl rfl rfl ?_
        refine g_alen X82 hx hZ hby d1_189 (pc' := 190) rfl rfl A82 ?_
        refine g_iconst X82 hx hby d1_190 (pc' := 191) rfl (z := (5 : Int32)) rfl ?_
        refine g_icmp_le X82 hx hby d1_191 (by decide) (pc' := 205) (by decide) (pn := 194) rfl (fun _ => ?_) (fun z => absurd z (by decide))
        refine g_aload X82 hx hby d1_205 (pc' := 207) rfl rfl rfl ?_
        refine g_alen X82 hx hZ hby d1_207 (pc' := 208) rfl rfl A82 ?_
        refine g_bipush X82 hx hby d1_208 (pc' := 210) rfl (z := (6 : Int32)) rfl ?_
        refine g_icmp_le X82 hx hby d1_210 (by decide) (pc' := 226) (by decide) (pn := 213) rfl (fun _ => ?_) (fun z => absurd z (by decide))
        have A83 : Arv Z T82.heap b78 c78 .char (2 : Int32) [.int (atV bs (0 : Int32) q3 q4), .int (atV bs (1 : Int32) q3 q4)] (.int 0) := by
          have z := A82
          rw [own_narc (own_at bs (0 : Int32) q3 hc), own_narc (own_at bs (1 : Int32) q3 hc)] at z
          exact z
        refine g_new X82 hx hZ hown hby d1_226 (pc' := 229) rfl (w_14 hw) (w_3 hw) (w_2 hw) rfl (by decide) (by decide) ?_
        intro T84 b84 hb84 X84 E84 A84 D84
        have sf84_b78 := Safe.ext E84 C82c.1 sf82_b78
        have sf84_b84 := Safe.ext E84 C82c.1 (Safe.new (Nat.le_of_eq hb84.symm))
        have C84c := C82c.trans (CHr.ext E84 C82c.1)
        have O84o := O82.ext E84
        have K84 := K82.ext E84
        have Z84 := Nat.le_trans Z82 E84.1
        have Y84 := Nat.le_trans Y82 E84.1
        have E84_b78 := E82_b78.ext E84
        have ne84_b78 : b78 ≠ b84 := hb84 ▸ Nat.ne_of_lt E82_b78.lt
        have A84_b78 := A83.ext E84
        have F84_value : Fld Z T84.heap b84 "java/lang/String" "value" "[B" (.null) := D84 (Or.inr (w_5 hw)) (ty := (.array .byte)) (by decide)
        have F84_coder : Fld Z T84.heap b84 "java/lang/String" "coder" "B" (.int (0 : Int32)) := D84 (Or.inr (w_6 hw)) (ty := .byte) (by decide)
        refine g_dup X84 hx hby d1_229 (pc' := 230) rfl rfl ?_
        refine g_aload X84 hx hby d1_230 (pc' := 232) rfl rfl rfl ?_
        refine g_callI X84 hx hZ hown (W := 1) (argsL := [.ref b78]) (b := b84) (rest := [.ref b84]) hby d1_232 (pc' := 235) rfl (by rw [hml]; rfl) (w_15 hw) (w_16 hw) (w_2 hw) (w_17 hw) rfl (by decide) (rmS12 l Z a0 hw [] b84 b78 T84.heap n0 (atV bs (0 : Int32) q3 q4) (atV bs (1 : Int32) q3 q4) _ A84_b78 (own_at bs (0 : Int32) q3 hc) (own_at bs (1 : Int32) q3 hc) Z84 A84 F84_value F84_coder ne84_b78 (Nat.le_trans Z82 (Nat.le_of_eq hb84.symm)) cs fm SS O84o) rfl (by decide) (by decide) (by decide) (by decide) rfl pd__28_5bC_29V rfl rfl (Nat.le_of_eq rfl) ?_
        rintro _ T85 L85 X85 (⟨b85, k85, rfl, N85q, K85, Ei85, Fv85, Fc85, A85⟩)
        · have N85 := Fr.app N82 N85q
          have C85h := CHr.keep K85 (allS sf84_b84 all0) C84c.1
          have sf85_b78 := Safe.keep K85 (allS sf84_b84 all0) C84c.1 sf84_b78
          have sf85_b84 := Safe.keep K85 (allS sf84_b84 all0) C84c.1 sf84_b84
          have C85c := C84c.trans C85h
          have O85 := O84o.keep K85 (allS (Nat.le_trans Z82 (Nat.le_of_eq hb84.symm)) all0)
          have K85t := K84.trans K85 (allS (Or.inr (Nat.le_trans K82.1 (Nat.le_of_eq hb84.symm))) all0)
          have Z85 := Nat.le_trans Z84 K85.1
          have Y85 := Nat.le_trans Y84 K85.1
          have E85_b78 := E84_b78.keep K85
          have A85_b78 := A84_b78.keep K85 (ninS ne84_b78 nin0)
          have E85_b84 := A84.keep K85
          show GoE p e below _ (T85.setTop (mkF m 235 #[.val (.ref q1), .val (.int q2), .val (.int q3), .val (.int q4), .val (.ref b78)] [.ref b84]))
          refine GoH.of_go (a0 := a0) (fun v h L => ∃ b : Addr, v = some (.ref b) ∧ Fr n0 L ∧ Keep h0 h [] ∧ h0.size ≤ b ∧ Txt Z h b (buildL bs q2 q3 q4)) hS0 hZ (own_EL hw) ?_
          exact g_retA (Q := _) X85 hx hby d1_235 rfl hret rfl hlk (by decide) (by decide) ⟨⟨b84, rfl, N85, K85t, (Nat.le_trans K82.1 (Nat.le_of_eq hb84.symm)), (by unfold buildL; rw [if_neg hc1_1, if_neg hc14_2, if_pos hc27_3]; exact ⟨Ei85, by simp, b85, _, Fv85, Fc85, A85⟩)⟩, Y85, C85c⟩
    · refine g_iconst X0 hx hby d1_17 (pc' := 18) rfl (z := (1 : Int32)) rfl ?_
      refine g_newarray X0 hx hZ 1  "[C" hby d1_18 (pc' := 20) rfl (w_13 hw) e0 (by decide) (by decide) (by decide) (by decide) (by decide) rfl ?_
      intro T86 b86 c86 hb86 X86 E86 A86v A86x
      have sf86_b86 := Safe.ext E86 C0h.1 (Safe.new (Nat.le_of_eq hb86.symm))
      have C86c := C0h.trans (CHr.ext E86 C0h.1)
      have O86o := O0.ext E86
      have K86 := (Keep.refl h0 []).ext E86
      have Z86 := Nat.le_trans Z0 E86.1
      have Y86 := Nat.le_trans (Nat.le_refl h0.size) E86.1
      have A86 : Arv Z T86.heap b86 c86 .char (1 : Int32) [.int 0] (.int 0) := A86v
      refine g_astore X86 hx hby d1_20 (pc' := 22) rfl rfl (l' := #[.val (.ref q1), .val (.int q2), .val (.int q3), .val (.int q4), .val (.ref b86)]) rfl ?_
      refine g_goto X86 hx hby d1_22 (by decide) (pc' := 98) (by decide) ?_
      refine g_aload X86 hx hby d1_98 (pc' := 100) rfl rfl rfl ?_
      refine g_alen X86 hx hZ hby d1_100 (pc' := 101) rfl rfl A86 ?_
      refine g_if_le X86 hx hby d1_101 (by decide) (pc' := 115) (by decide) (pn := 104) rfl (fun z => absurd z (by decide)) (fun _ => ?_)
      refine g_aload X86 hx hby d1_104 (pc' := 106) rfl rfl rfl ?_
      refine g_iconst X86 hx hby d1_106 (pc' := 107) rfl (z := (0 : Int32)) rfl ?_
      refine g_aloadN X86 hx hby d1_107 (pc' := 108) rfl rfl rfl ?_
      refine g_iconst X86 hx hby d1_108 (pc' := 109) rfl (z := (0 : Int32)) rfl ?_
      refine g_iloadN X86 hx hby d1_109 (pc' := 110) rfl rfl ?_
      refine g_iloadN X86 hx hby d1_110 (pc' := 111) rfl rfl ?_
      refine g_callS X86 hx hZ hown (W := 2) (argsL := [.ref q1, .int (0 : Int32), .int q3, .int q4]) (rest := [.int (0 : Int32), .ref b86]) hby d1_111 (pc' := 114) rfl (by rw [hml]; rfl) (w_95 hw) (w_96 hw) (w_11 hw) (w_97 hw) (by decide) (rmAT l Z a0 hw [] q1 (0 : Int32) q3 q4 T86.heap n0 bs (T_1.keep0 K86) (by decide) hc cs fm SS O86o) rfl (by decide) (by decide) (by decide) (by decide) rfl pd__28Ljava_2flang_2fString_3bIIC_29C rfl rfl (Nat.le_of_eq rfl) ?_
      rintro _ T87 L87 X87 ⟨rfl, N87q, e87⟩
      have N87 := Fr.app N0 N87q
      show GoE p e below _ (T87.setTop (mkF m 114 #[.val (.ref q1), .val (.int q2), .val (.int q3), .val (.int q4), .val (.ref b86)] [.int (atV bs (0 : Int32) q3 q4), .int (0 : Int32), .ref b86]))
      refine g_castore X87 hx hZ 0 hby d1_114 (pc' := 115) rfl e87 A86 (by decide) (by decide) (by first | decide | simp) ?_
      intro T88 X88 W88 A88v
      have N88 := Fr.snoc X88 N87 (Nat.le_trans Z0 (Nat.le_of_eq hb86.symm))
      have sf88_b86 := Safe.wr W88 sf86_b86 C86c.1 sf86_b86
      have C88c := C86c.trans (CHr.wr W88 sf86_b86 C86c.1)
      have O88 := O86o.wr W88 (Nat.le_trans Z0 (Nat.le_of_eq hb86.symm))
      have K88 := K86.wr W88 (Or.inr (Nat.le_trans (Keep.refl h0 []).1 (Nat.le_of_eq hb86.symm)))
      have Z88 : n0 ≤ T88.heap.size := (W88.size ▸ Z86)
      have Y88 := Nat.le_trans Y86 (Nat.le_of_eq W88.size.symm)
      have E88_b86 := A86x.wr W88
      have A88 : Arv Z T88.heap b86 c86 .char (1 : Int32) [.int (nar .char (atV bs (0 : Int32) q3 q4))] (.int 0) := A88v
      refine g_aload X88 hx hby d1_115 (pc' := 117) rfl rfl rfl ?_
      refine g_alen X88 hx hZ hby d1_117 (pc' := 118) rfl rfl A88 ?_
      refine g_iconst X88 hx hby d1_118 (pc' := 119) rfl (z := (1 : Int32)) rfl ?_
      refine g_icmp_le X88 hx hby d1_119 (by decide) (pc' := 133) (by decide) (pn := 122) rfl (fun _ => ?_) (fun z => absurd z (by decide))
      refine g_aload X88 hx hby d1_133 (pc' := 135) rfl rfl rfl ?_
      refine g_alen X88 hx hZ hby d1_135 (pc' := 136) rfl rfl A88 ?_
      refine g_iconst X88 hx hby d1_136 (pc' := 137) rfl (z := (2 : Int32)) rfl ?_
      refine g_icmp_le X88 hx hby d1_137 (by decide) (pc' := 151) (by decide) (pn := 140) rfl (fun _ => ?_) (fun z => absurd z (by decide))
      refine g_aload X88 hx hby d1_151 (pc' := 153) rfl rfl rfl ?_
      refine g_alen X88 hx hZ hby d1_153 (pc' := 154) rfl rfl A88 ?_
      refine g_iconst X88 hx hby d1_154 (pc' := 155) rfl (z := (3 : Int32)) rfl ?_
      refine g_icmp_le X88 hx hby d1_155 (by decide) (pc' := 169) (by decide) (pn := 158) rfl (fun _ => ?_) (fun z => absurd z (by decide))
      refine g_aload X88 hx hby d1_169 (pc' := 171) rfl rfl rfl ?_
      refine g_alen X88 hx hZ hby d1_171 (pc' := 172) rfl rfl A88 ?_
      refine g_iconst X88 hx hby d1_172 (pc' := 173) rfl (z := (4 : Int32)) rfl ?_
      refine g_icmp_le X88 hx hby d1_173 (by decide) (pc' := 187) (by decide) (pn := 176) rfl (fun _ => ?_) (fun z => absurd z (by decide))
      refine g_aload X88 hx hby d1_187 (pc' := 189) rfl rfl rfl ?_
      refine g_alen X88 hx hZ hby d1_189 (pc' := 190) rfl rfl A88 ?_
      refine g_iconst X88 hx hby d1_190 (pc' := 191) rfl (z := (5 : Int32)) rfl ?_
      refine g_icmp_le X88 hx hby d1_191 (by decide) (pc' := 205) (by decide) (pn := 194) rfl (fun _ => ?_) (fun z => absurd z (by decide))
      refine g_aload X88 hx hby d1_205 (pc' := 207) rfl rfl rfl ?_
      refine g_alen X88 hx hZ hby d1_207 (pc' := 208) rfl rfl A88 ?_
      refine g_bipush X88 hx hby d1_208 (pc' := 210) rfl (z := (6 : Int32)) rfl ?_
      refine g_icmp_le X88 hx hby d1_210 (by decide) (pc' := 226) (by decide) (pn := 213) rfl (fun _ => ?_) (fun z => absurd z (by decide))
      have A89 : Arv Z T88.heap b86 c86 .char (1 : Int32) [.int (atV bs (0 : Int32) q3 q4)] (.int 0) := by
        have z := A88
        rw [own_narc (own_at bs (0 : Int32) q3 hc)] at z
        exact z
      refine g_new X88 hx hZ hown hby d1_226 (pc' := 229) rfl (w_14 hw) (w_3 hw) (w_2 hw) rfl (by decide) (by decide) ?_
      intro T90 b90 hb90 X90 E90 A90 D90
      have sf90_b86 := Safe.ext E90 C88c.1 sf88_b86
      have sf90_b90 := Safe.ext E90 C88c.1 (Safe.new (Nat.le_of_eq hb90.symm))
      have C90c := C88c.trans (CHr.ext E90 C88c.1)
      have O90o := O88.ext E90
      have K90 := K88.ext E90
      have Z90 := Nat.le_trans Z88 E90.1
      have Y90 := Nat.le_trans Y88 E90.1
      have E90_b86 := E88_b86.ext E90
      have ne90_b86 : b86 ≠ b90 := hb90 ▸ Nat.ne_of_lt E88_b86.lt
      have A90_b86 := A89.ext E90
      have F90_value : Fld Z T90.heap b90 "java/lang/String" "value" "[B" (.null) := D90 (Or.inr (w_5 hw)) (ty := (.array .byte)) (by decide)
      have F90_coder : Fld Z T90.heap b90 "java/lang/String" "coder" "B" (.int (0 : Int32)) := D90 (Or.inr (w_6 hw)) (ty := .byte) (by decide)
      refine g_dup X90 hx hby d1_229 (pc' := 230) rfl rfl ?_
      refine g_aload X90 hx hby d1_230 (pc' := 232) rfl rfl rfl ?_
      refine g_callI X90 hx hZ hown (W := 1) (argsL := [.ref b86]) (b := b90) (rest := [.ref b90]) hby d1_232 (pc' := 235) rfl (by rw [hml]; rfl) (w_15 hw) (w_16 hw) (w_2 hw) (w_17 hw) rfl (by decide) (rmS11 l Z a0 hw [] b90 b86 T90.heap n0 (atV bs (0 : Int32) q3 q4) _ A90_b86 (own_at bs (0 : Int32) q3 hc) Z90 A90 F90_value F90_coder ne90_b86 (Nat.le_trans Z88 (Nat.le_of_eq hb90.symm)) cs fm SS O90o) rfl (by decide) (by decide) (by decide) (by decide) rfl pd__28_5bC_29V rfl rfl (Nat.le_of_eq rfl) ?_
      rintro _ T91 L91 X91 (⟨b91, k91, rfl, N91q, K91, Ei91, Fv91, Fc91, A91⟩)
      · have N91 := Fr.app N88 N91q
        have C91h := CHr.keep K91 (allS sf90_b90 all0) C90c.1
        have sf91_b86 := Safe.keep K91 (allS sf90_b90 all0) C90c.1 sf90_b86
        have sf91_b90 := Safe.keep K91 (allS sf90_b90 all0) C90c.1 sf90_b90
        have C91c := C90c.trans C91h
        have O91 := O90o.keep K91 (allS (Nat.le_trans Z88 (Nat.le_of_eq hb90.symm)) all0)
        have K91t := K90.trans K91 (allS (Or.inr (Nat.le_trans K88.1 (Nat.le_of_eq hb90.symm))) all0)
        have Z91 := Nat.le_trans Z90 K91.1
        have Y91 := Nat.le_trans Y90 K91.1
        have E91_b86 := E90_b86.keep K91
        have A91_b86 := A90_b86.keep K91 (ninS ne90_b86 nin0)
        have E91_b90 := A90.keep K91
        show GoE p e below _ (T91.setTop (mkF m 235 #[.val (.ref q1), .val (.int q2), .val (.int q3), .val (.int q4), .val (.ref b86)] [.ref b90]))
        refine GoH.of_go (a0 := a0) (fun v h L => ∃ b : Addr, v = some (.ref b) ∧ Fr n0 L ∧ Keep h0 h [] ∧ h0.size ≤ b ∧ Txt Z h b (buildL bs q2 q3 q4)) hS0 hZ (own_EL hw) ?_
        exact g_retA (Q := _) X91 hx hby d1_235 rfl hret rfl hlk (by decide) (by decide) ⟨⟨b90, rfl, N91, K91t, (Nat.le_trans K88.1 (Nat.le_of_eq hb90.symm)), (by unfold buildL; rw [if_neg hc1_1, if_pos hc14_2]; exact ⟨Ei91, by simp, b91, _, Fv91, Fc91, A91⟩)⟩, Y91, C91c⟩
  · refine g_iconst X0 hx hby d1_4 (pc' := 5) rfl (z := (0 : Int32)) rfl ?_
    refine g_newarray X0 hx hZ 0  "[C" hby d1_5 (pc' := 7) rfl (w_13 hw) e0 (by decide) (by decide) (by decide) (by decide) (by decide) rfl ?_
    intro T92 b92 c92 hb92 X92 E92 A92v A92x
    have sf92_b92 := Safe.ext E92 C0h.1 (Safe.new (Nat.le_of_eq hb92.symm))
    have C92c := C0h.trans (CHr.ext E92 C0h.1)
    have O92o := O0.ext E92
    have K92 := (Keep.refl h0 []).ext E92
    have Z92 := Nat.le_trans Z0 E92.1
    have Y92 := Nat.le_trans (Nat.le_refl h0.size) E92.1
    have A92 : Arv Z T92.heap b92 c92 .char (0 : Int32) [] (.int 0) := A92v
    refine g_astore X92 hx hby d1_7 (pc' := 9) rfl rfl (l' := #[.val (.ref q1), .val (.int q2), .val (.int q3), .val (.int q4), .val (.ref b92)]) rfl ?_
    refine g_goto X92 hx hby d1_9 (by decide) (pc' := 98) (by decide) ?_
    refine g_aload X92 hx hby d1_98 (pc' := 100) rfl rfl rfl ?_
    refine g_alen X92 hx hZ hby d1_100 (pc' := 101) rfl rfl A92 ?_
    refine g_if_le X92 hx hby d1_101 (by decide) (pc' := 115) (by decide) (pn := 104) rfl (fun _ => ?_) (fun z => absurd z (by decide))
    refine g_aload X92 hx hby d1_115 (pc' := 117) rfl rfl rfl ?_
    refine g_alen X92 hx hZ hby d1_117 (pc' := 118) rfl rfl A92 ?_
    refine g_iconst X92 hx hby d1_118 (pc' := 119) rfl (z := (1 : Int32)) rfl ?_
    refine g_icmp_le X92 hx hby d1_119 (by decide) (pc' := 133) (by decide) (pn := 122) rfl (fun _ => ?_) (fun z => absurd z (by decide))
    refine g_aload X92 hx hby d1_133 (pc' := 135) rfl rfl rfl ?_
    refine g_alen X92 hx hZ hby d1_135 (pc' := 136) rfl rfl A92 ?_
    refine g_iconst X92 hx hby d1_136 (pc' := 137) rfl (z := (2 : Int32)) rfl ?_
    refine g_icmp_le X92 hx hby d1_137 (by decide) (pc' := 151) (by decide) (pn := 140) rfl (fun _ => ?_) (fun z => absurd z (by decide))
    refine g_aload X92 hx hby d1_151 (pc' := 153) rfl rfl rfl ?_
    refine g_alen X92 hx hZ hby d1_153 (pc' := 154) rfl rfl A92 ?_
    refine g_iconst X92 hx hby d1_154 (pc' := 155) rfl (z := (3 : Int32)) rfl ?_
    refine g_icmp_le X92 hx hby d1_155 (by decide) (pc' := 169) (by decide) (pn := 158) rfl (fun _ => ?_) (fun z => absurd z (by decide))
    refine g_aload X92 hx hby d1_169 (pc' := 171) rfl rfl rfl ?_
    refine g_alen X92 hx hZ hby d1_171 (pc' := 172) rfl rfl A92 ?_
    refine g_iconst X92 hx hby d1_172 (pc' := 173) rfl (z := (4 : Int32)) rfl ?_
    refine g_icmp_le X92 hx hby d1_173 (by decide) (pc' := 187) (by decide) (pn := 176) rfl (fun _ => ?_) (fun z => absurd z (by decide))
    refine g_aload X92 hx hby d1_187 (pc' := 189) rfl rfl rfl ?_
    refine g_alen X92 hx hZ hby d1_189 (pc' := 190) rfl rfl A92 ?_
    refine g_iconst X92 hx hby d1_190 (pc' := 191) rfl (z := (5 : Int32)) rfl ?_
    refine g_icmp_le X92 hx hby d1_191 (by decide) (pc' := 205) (by decide) (pn := 194) rfl (fun _ => ?_) (fun z => absurd z (by decide))
    refine g_aload X92 hx hby d1_205 (pc' := 207) rfl rfl rfl ?_
    refine g_alen X92 hx hZ hby d1_207 (pc' := 208) rfl rfl A92 ?_
    refine g_bipush X92 hx hby d1_208 (pc' := 210) rfl (z := (6 : Int32)) rfl ?_
    refine g_icmp_le X92 hx hby d1_210 (by decide) (pc' := 226) (by decide) (pn := 213) rfl (fun _ => ?_) (fun z => absurd z (by decide))
    refine g_new X92 hx hZ hown hby d1_226 (pc' := 229) rfl (w_14 hw) (w_3 hw) (w_2 hw) rfl (by decide) (by decide) ?_
    intro T93 b93 hb93 X93 E93 A93 D93
    have sf93_b92 := Safe.ext E93 C92c.1 sf92_b92
    have sf93_b93 := Safe.ext E93 C92c.1 (Safe.new (Nat.le_of_eq hb93.symm))
    have C93c := C92c.trans (CHr.ext E93 C92c.1)
    have O93o := O92o.ext E93
    have K93 := K92.ext E93
    have Z93 := Nat.le_trans Z92 E93.1
    have Y93 := Nat.le_trans Y92 E93.1
    have A93_b92 := A92.ext E93
    have ne93_b92 : b92 ≠ b93 := hb93 ▸ Nat.ne_of_lt A92.lt
    have E93_b92 := A92x.ext E93
    have F93_value : Fld Z T93.heap b93 "java/lang/String" "value" "[B" (.null) := D93 (Or.inr (w_5 hw)) (ty := (.array .byte)) (by decide)
    have F93_coder : Fld Z T93.heap b93 "java/lang/String" "coder" "B" (.int (0 : Int32)) := D93 (Or.inr (w_6 hw)) (ty := .byte) (by decide)
    refine g_dup X93 hx hby d1_229 (pc' := 230) rfl rfl ?_
    refine g_aload X93 hx hby d1_230 (pc' := 232) rfl rfl rfl ?_
    refine g_callIH X93 hx hZ hown (W := 1) (argsL := [.ref b92]) (b := b93) (rest := [.ref b93]) hby d1_232 (pc' := 235) rfl (by rw [hml]; rfl) (w_15 hw) (w_16 hw) (w_2 hw) (w_17 hw) rfl (by decide) (rmS10 l Z a0 hw [] b93 b92 T93.heap n0  _ A93_b92  Z93 A93 F93_value F93_coder ne93_b92 (Nat.le_trans Z92 (Nat.le_of_eq hb93.symm)) cs fm SS O93o) rfl hS0 Y93 (own_EL hw) C93c.1 (by decide) (by decide) (by decide) (by decide) rfl pd__28_5bC_29V rfl rfl (Nat.le_of_eq rfl) ?_
    rintro _ T94 L94 X94 (⟨b94, k94, rfl, N94q, K94, Ei94, Fv94, Fc94, A94⟩) hS94 hZ94 hown94 C94h
    have N94 := Fr.app N0 N94q
    have sf94_b92 := C94h.safe E93_b92.lt sf93_b92
    have sf94_b93 := C94h.safe A93.lt sf93_b93
    have C94c := C93c.trans C94h
    have O94 := O93o.keep K94 (allS (Nat.le_trans Z92 (Nat.le_of_eq hb93.symm)) all0)
    have K94t := K93.trans K94 (allS (Or.inr (Nat.le_trans K92.1 (Nat.le_of_eq hb93.symm))) all0)
    have Z94 := Nat.le_trans Z93 K94.1
    have Y94 := Nat.le_trans Y93 K94.1
    have A94_b92 := A93_b92.keep K94 (ninS ne93_b92 nin0)
    have E94_b92 := E93_b92.keep K94
    have E94_b93 := A93.keep K94
    show GoE p e below _ (T94.setTop (mkF m 235 #[.val (.ref q1), .val (.int q2), .val (.int q3), .val (.int q4), .val (.ref b92)] [.ref b93]))
    refine GoH.of_go (a0 := a0) (fun v h L => ∃ b : Addr, v = some (.ref b) ∧ Fr n0 L ∧ Keep h0 h [] ∧ h0.size ≤ b ∧ Txt Z h b (buildL bs q2 q3 q4)) hS94 hZ94 (own_EL hw) ?_
    exact g_retA (Q := _) X94 hx hby d1_235 rfl hret rfl hlk (by decide) (by decide) ⟨⟨b93, rfl, N94, K94t, (Nat.le_trans K92.1 (Nat.le_of_eq hb93.symm)), (by unfold buildL; rw [if_pos hc1_1]; exact ⟨Ei94, by simp, b94, _, Fv94, Fc94, A94⟩)⟩, (Nat.le_refl T94.heap.size), C94c⟩
theorem ef_rmLEn (q1 : Addr) (q2 : Addr) (m : MethodId) : entryFrame m #[.ref q1, .ref q2] 3 = mkF m 0 #[.val (.ref q1), .val (.ref q2), .unset] [] := by
  first | (simp [entryFrame, mkF, argsToLocals, Value.category]; done) | rfl
set_option maxRecDepth 65536 in
set_option maxHeartbeats 40000000 in
theorem rmLEn (l : Launch) (Z : State) (a0 : Array Value) (hw : ∀ d ∈ tables_1, d.before a0 Z = true) (ws : List Jvm.Cond) (q1 : Addr) (q2 : Addr) (h0 : Heap) (n0 : Nat) (z1 z2 : Int32) (v1 v2 : List Value) (k1 k2 : ClassId) (A_1 : Arv Z h0 q1 k1 .byte z1 v1 (.int 0)) (A_2 : Arv Z h0 q2 k2 .byte z2 v2 (.int 0)) (hz : ¬ z1 = z2) :
    Ctr l Z ({ cls := "java/lang/StringLatin1", name := "equals", desc := "([B[B)Z" } : Jvm.MethodName) jdk_43_method_13_code 3 (some .boolean) ws ({ frames := 0, cells := 0, slots := 0, locals := 0 } : Room) #[.ref q1, .ref q2] h0 (fun v h L => v = some (.int (0 : Int32)) ∧ Fr n0 L ∧ h = h0) := by
  refine Ctr.enter (Ls := #[.val (.ref q1), .val (.ref q2), .unset]) (by decide +kernel) (fun m => ef_rmLEn q1 q2 m) ?_
  intro p e s m below meth c T hx hby hml hown hnm hret hlk hZ hh X0 e0
  have N0 := Fr.nil n0
  refine g_aloadN X0 hx hby d8_0 (pc' := 1) rfl rfl rfl ?_
  refine g_alen X0 hx hZ hby d8_1 (pc' := 2) rfl e0 A_1 ?_
  refine g_aloadN X0 hx hby d8_2 (pc' := 3) rfl rfl rfl ?_
  refine g_alen X0 hx hZ hby d8_3 (pc' := 4) rfl e0 A_2 ?_
  refine g_icmp_ne X0 hx hby d8_4 (by decide) (pc' := 34) (by decide) (pn := 7) rfl (fun hc4_1 => ?_) (fun z => absurd z hz)
  refine g_iconst X0 hx hby d8_34 (pc' := 35) rfl (z := (0 : Int32)) rfl ?_
  exact g_retN (Q := (fun v h L => v = some (.int (0 : Int32)) ∧ Fr n0 L ∧ h = h0)) (w := (0 : Int32)) X0 hx hby d8_35 hret (by simp) (by first | decide | rfl) hlk (by decide) (by decide) ⟨rfl, N0, e0⟩
theorem ef_rmLE4 (q1 : Addr) (q2 : Addr) (m : MethodId) : entryFrame m #[.ref q1, .ref q2] 3 = mkF m 0 #[.val (.ref q1), .val (.ref q2), .unset] [] := by
  first | (simp [entryFrame, mkF, argsToLocals, Value.category]; done) | rfl
set_option maxRecDepth 65536 in
set_option maxHeartbeats 40000000 in
theorem rmLE4 (l : Launch) (Z : State) (a0 : Array Value) (hw : ∀ d ∈ tables_1, d.before a0 Z = true) (ws : List Jvm.Cond) (q1 : Addr) (q2 : Addr) (h0 : Heap) (n0 : Nat) (x0 x1 x2 x3 y0 y1 y2 y3 : Int32) (k1 k2 : ClassId) (A_1 : Arv Z h0 q1 k1 .byte (4 : Int32) [.int x0, .int x1, .int x2, .int x3] (.int 0)) (A_2 : Arv Z h0 q2 k2 .byte (4 : Int32) [.int y0, .int y1, .int y2, .int y3] (.int 0)) :
    Ctr l Z ({ cls := "java/lang/StringLatin1", name := "equals", desc := "([B[B)Z" } : Jvm.MethodName) jdk_43_method_13_code 3 (some .boolean) ws ({ frames := 0, cells := 0, slots := 0, locals := 0 } : Room) #[.ref q1, .ref q2] h0 (fun v h L => v = some (.int (eqT [x0, x1, x2, x3] [y0, y1, y2, y3])) ∧ Fr n0 L ∧ h = h0) := by
  refine Ctr.enter (Ls := #[.val (.ref q1), .val (.ref q2), .unset]) (by decide +kernel) (fun m => ef_rmLE4 q1 q2 m) ?_
  intro p e s m below meth c T hx hby hml hown hnm hret hlk hZ hh X0 e0
  have N0 := Fr.nil n0
  refine g_aloadN X0 hx hby d8_0 (pc' := 1) rfl rfl rfl ?_
  refine g_alen X0 hx hZ hby d8_1 (pc' := 2) rfl e0 A_1 ?_
  refine g_aloadN X0 hx hby d8_2 (pc' := 3) rfl rfl rfl ?_
  refine g_alen X0 hx hZ hby d8_3 (pc' := 4) rfl e0 A_2 ?_
  refine g_icmp_ne X0 hx hby d8_4 (by decide) (pc' := 34) (by decide) (pn := 7) rfl (fun z => absurd z (by decide)) (fun _ => ?_)
  refine g_iconst X0 hx hby d8_7 (pc' := 8) rfl (z := (0 : Int32)) rfl ?_
  refine g_istoreN X0 hx hby d8_8 (pc' := 9) rfl (l' := #[.val (.ref q1), .val (.ref q2), .val (.int (0 : Int32))]) rfl ?_
  refine g_iloadN X0 hx hby d8_9 (pc' := 10) rfl rfl ?_
  refine g_aloadN X0 hx hby d8_10 (pc' := 11) rfl rfl rfl ?_
  refine g_alen X0 hx hZ hby d8_11 (pc' := 12) rfl e0 A_1 ?_
  refine g_icmp_ge X0 hx hby d8_12 (by decide) (pc' := 32) (by decide) (pn := 15) rfl (fun z => absurd z (by decide)) (fun _ => ?_)
  refine g_aloadN X0 hx hby d8_15 (pc' := 16) rfl rfl rfl ?_
  refine g_iloadN X0 hx hby d8_16 (pc' := 17) rfl rfl ?_
  refine g_baload X0 hx hZ hby d8_17 (pc' := 18) rfl e0 A_1 (by decide) (v := .int x0) rfl ?_
  refine g_aloadN X0 hx hby d8_18 (pc' := 19) rfl rfl rfl ?_
  refine g_iloadN X0 hx hby d8_19 (pc' := 20) rfl rfl ?_
  refine g_baload X0 hx hZ hby d8_20 (pc' := 21) rfl e0 A_2 (by decide) (v := .int y0) rfl ?_
  refine g_icmp_eq X0 hx hby d8_21 (by decide) (pc' := 26) (by decide) (pn := 24) rfl (fun hc21_1 => ?_) (fun hc21_1 => ?_)
  · refine g_iinc X0 hx hby d8_26 (pc' := 29) rfl rfl (l' := #[.val (.ref q1), .val (.ref q2), .val (.int (1 : Int32))]) rfl ?_
    refine g_goto X0 hx hby d8_29 (by decide) (pc' := 9) (by decide) ?_
    refine g_iloadN X0 hx hby d8_9 (pc' := 10) rfl rfl ?_
    refine g_aloadN X0 hx hby d8_10 (pc' := 11) rfl rfl rfl ?_
    refine g_alen X0 hx hZ hby d8_11 (pc' := 12) rfl e0 A_1 ?_
    refine g_icmp_ge X0 hx hby d8_12 (by decide) (pc' := 32) (by decide) (pn := 15) rfl (fun z => absurd z (by decide)) (fun _ => ?_)
    refine g_aloadN X0 hx hby d8_15 (pc' := 16) rfl rfl rfl ?_
    refine g_iloadN X0 hx hby d8_16 (pc' := 17) rfl rfl ?_
    refine g_baload X0 hx hZ hby d8_17 (pc' := 18) rfl e0 A_1 (by decide) (v := .int x1) rfl ?_
    refine g_aloadN X0 hx hby d8_18 (pc' := 19) rfl rfl rfl ?_
    refine g_iloadN X0 hx hby d8_19 (pc' := 20) rfl rfl ?_
    refine g_baload X0 hx hZ hby d8_20 (pc' := 21) rfl e0 A_2 (by decide) (v := .int y1) rfl ?_
    refine g_icmp_eq X0 hx hby d8_21 (by decide) (pc' := 26) (by decide) (pn := 24) rfl (fun hc21_2 => ?_) (fun hc21_2 => ?_)
    · refine g_iinc X0 hx hby d8_26 (pc' := 29) rfl rfl (l' := #[.val (.ref q1), .val (.ref q2), .val (.int (2 : Int32))]) rfl ?_
      refine g_goto X0 hx hby d8_29 (by decide) (pc' := 9) (by decide) ?_
      refine g_iloadN X0 hx hby d8_9 (pc' := 10) rfl rfl ?_
      refine g_aloadN X0 hx hby d8_10 (pc' := 11) rfl rfl rfl ?_
      refine g_alen X0 hx hZ hby d8_11 (pc' := 12) rfl e0 A_1 ?_
      refine g_icmp_ge X0 hx hby d8_12 (by decide) (pc' := 32) (by decide) (pn := 15) rfl (fun z => absurd z (by decide)) (fun _ => ?_)
      refine g_aloadN X0 hx hby d8_15 (pc' := 16) rfl rfl rfl ?_
      refine g_iloadN X0 hx hby d8_16 (pc' := 17) rfl rfl ?_
      refine g_baload X0 hx hZ hby d8_17 (pc' := 18) rfl e0 A_1 (by decide) (v := .int x2) rfl ?_
      refine g_aloadN X0 hx hby d8_18 (pc' := 19) rfl rfl rfl ?_
      refine g_iloadN X0 hx hby d8_19 (pc' := 20) rfl rfl ?_
      refine g_baload X0 hx hZ hby d8_20 (pc' := 21) rfl e0 A_2 (by decide) (v := .int y2) rfl ?_
      refine g_icmp_eq X0 hx hby d8_21 (by decide) (pc' := 26) (by decide) (pn := 24) rfl (fun hc21_3 => ?_) (fun hc21_3 => ?_)
      · refine g_iinc X0 hx hby d8_26 (pc' := 29) rfl rfl (l' := #[.val (.ref q1), .val (.ref q2), .val (.int (3 : Int32))]) rfl ?_
        refine g_goto X0 hx hby d8_29 (by decide) (pc' := 9) (by decide) ?_
        refine g_iloadN X0 hx hby d8_9 (pc' := 10) rfl rfl ?_
        refine g_aloadN X0 hx hby d8_10 (pc' := 11) rfl rfl rfl ?_
        refine g_alen X0 hx hZ hby d8_11 (pc' := 12) rfl e0 A_1 ?_
        refine g_icmp_ge X0 hx hby d8_12 (by decide) (pc' := 32) (by decide) (pn := 15) rfl (fun z => absurd z (by decide)) (fun _ => ?_)
        refine g_aloadN X0 hx hby d8_15 (pc' := 16) rfl rfl rfl ?_
        refine g_iloadN X0 hx hby d8_16 (pc' := 17) rfl rfl ?_
        refine g_baload X0 hx hZ hby d8_17 (pc' := 18) rfl e0 A_1 (by decide) (v := .int x3) rfl ?_
        refine g_aloadN X0 hx hby d8_18 (pc' := 19) rfl rfl rfl ?_
        refine g_iloadN X0 hx hby d8_19 (pc' := 20) rfl rfl ?_
        refine g_baload X0 hx hZ hby d8_20 (pc' := 21) rfl e0 A_2 (by decide) (v := .int y3) rfl ?_
        refine g_icmp_eq X0 hx hby d8_21 (by decide) (pc' := 26) (by decide) (pn := 24) rfl (fun hc21_4 => ?_) (fun hc21_4 => ?_)
        · refine g_iinc X0 hx hby d8_26 (pc' := 29) rfl rfl (l' := #[.val (.ref q1), .val (.ref q2), .val (.int (4 : Int32))]) rfl ?_
          refine g_goto X0 hx hby d8_29 (by decide) (pc' := 9) (by decide) ?_
          refine g_iloadN X0 hx hby d8_9 (pc' := 10) rfl rfl ?_
          refine g_aloadN X0 hx hby d8_10 (pc' := 11) rfl rfl rfl ?_
          refine g_alen X0 hx hZ hby d8_11 (pc' := 12) rfl e0 A_1 ?_
          refine g_icmp_ge X0 hx hby d8_12 (by decide) (pc' := 32) (by decide) (pn := 15) rfl (fun _ => ?_) (fun z => absurd z (by decide))
          refine g_iconst X0 hx hby d8_32 (pc' := 33) rfl (z := (1 : Int32)) rfl ?_
          exact g_retN (Q := (fun v h L => v = some (.int (eqT [x0, x1, x2, x3] [y0, y1, y2, y3])) ∧ Fr n0 L ∧ h = h0)) (w := (1 : Int32)) X0 hx hby d8_33 hret (by simp) (by first | decide | rfl) hlk (by decide) (by decide) ⟨congrArg (fun z : Int32 => some (Value.int z)) (by rw [eqT, if_pos (by rw [hc21_1, hc21_2, hc21_3, hc21_4])]), N0, e0⟩
        · refine g_iconst X0 hx hby d8_24 (pc' := 25) rfl (z := (0 : Int32)) rfl ?_
          exact g_retN (Q := (fun v h L => v = some (.int (eqT [x0, x1, x2, x3] [y0, y1, y2, y3])) ∧ Fr n0 L ∧ h = h0)) (w := (0 : Int32)) X0 hx hby d8_25 hret (by simp) (by first | decide | rfl) hlk (by decide) (by decide) ⟨congrArg (fun z : Int32 => some (Value.int z)) (by rw [eqT, if_neg (fun e => hc21_4 (by have z := congrArg (fun l : List Int32 => l.getD 3 0) e; exact z))]), N0, e0⟩
      · refine g_iconst X0 hx hby d8_24 (pc' := 25) rfl (z := (0 : Int32)) rfl ?_
        exact g_retN (Q := (fun v h L => v = some (.int (eqT [x0, x1, x2, x3] [y0, y1, y2, y3])) ∧ Fr n0 L ∧ h = h0)) (w := (0 : Int32)) X0 hx hby d8_25 hret (by simp) (by first | decide | rfl) hlk (by decide) (by decide) ⟨congrArg (fun z : Int32 => some (Value.int z)) (by rw [eqT, if_neg (fun e => hc21_3 (by have z := congrArg (fun l : List Int32 => l.getD 2 0) e; exact z))]), N0, e0⟩
    · refine g_iconst X0 hx hby d8_24 (pc' := 25) rfl (z := (0 : Int32)) rfl ?_
      exact g_retN (Q := (fun v h L => v = some (.int (eqT [x0, x1, x2, x3] [y0, y1, y2, y3])) ∧ Fr n0 L ∧ h = h0)) (w := (0 : Int32)) X0 hx hby d8_25 hret (by simp) (by first | decide | rfl) hlk (by decide) (by decide) ⟨congrArg (fun z : Int32 => some (Value.int z)) (by rw [eqT, if_neg (fun e => hc21_2 (by have z := congrArg (fun l : List Int32 => l.getD 1 0) e; exact z))]), N0, e0⟩
  · refine g_iconst X0 hx hby d8_24 (pc' := 25) rfl (z := (0 : Int32)) rfl ?_
    exact g_retN (Q := (fun v h L => v = some (.int (eqT [x0, x1, x2, x3] [y0, y1, y2, y3])) ∧ Fr n0 L ∧ h = h0)) (w := (0 : Int32)) X0 hx hby d8_25 hret (by simp) (by first | decide | rfl) hlk (by decide) (by decide) ⟨congrArg (fun z : Int32 => some (Value.int z)) (by rw [eqT, if_neg (fun e => hc21_1 (by have z := congrArg (fun l : List Int32 => l.getD 0 0) e; exact z))]), N0, e0⟩
theorem ef_rmLE6 (q1 : Addr) (q2 : Addr) (m : MethodId) : entryFrame m #[.ref q1, .ref q2] 3 = mkF m 0 #[.val (.ref q1), .val (.ref q2), .unset] [] := by
  first | (simp [entryFrame, mkF, argsToLocals, Value.category]; done) | rfl
set_option maxRecDepth 65536 in
set_option maxHeartbeats 40000000 in
theorem rmLE6 (l : Launch) (Z : State) (a0 : Array Value) (hw : ∀ d ∈ tables_1, d.before a0 Z = true) (ws : List Jvm.Cond) (q1 : Addr) (q2 : Addr) (h0 : Heap) (n0 : Nat) (x0 x1 x2 x3 x4 x5 y0 y1 y2 y3 y4 y5 : Int32) (k1 k2 : ClassId) (A_1 : Arv Z h0 q1 k1 .byte (6 : Int32) [.int x0, .int x1, .int x2, .int x3, .int x4, .int x5] (.int 0)) (A_2 : Arv Z h0 q2 k2 .byte (6 : Int32) [.int y0, .int y1, .int y2, .int y3, .int y4, .int y5] (.int 0)) :
    Ctr l Z ({ cls := "java/lang/StringLatin1", name := "equals", desc := "([B[B)Z" } : Jvm.MethodName) jdk_43_method_13_code 3 (some .boolean) ws ({ frames := 0, cells := 0, slots := 0, locals := 0 } : Room) #[.ref q1, .ref q2] h0 (fun v h L => v = some (.int (eqT [x0, x1, x2, x3, x4, x5] [y0, y1, y2, y3, y4, y5])) ∧ Fr n0 L ∧ h = h0) := by
  refine Ctr.enter (Ls := #[.val (.ref q1), .val (.ref q2), .unset]) (by decide +kernel) (fun m => ef_rmLE6 q1 q2 m) ?_
  intro p e s m below meth c T hx hby hml hown hnm hret hlk hZ hh X0 e0
  have N0 := Fr.nil n0
  refine g_aloadN X0 hx hby d8_0 (pc' := 1) rfl rfl rfl ?_
  refine g_alen X0 hx hZ hby d8_1 (pc' := 2) rfl e0 A_1 ?_
  refine g_aloadN X0 hx hby d8_2 (pc' := 3) rfl rfl rfl ?_
  refine g_alen X0 hx hZ hby d8_3 (pc' := 4) rfl e0 A_2 ?_
  refine g_icmp_ne X0 hx hby d8_4 (by decide) (pc' := 34) (by decide) (pn := 7) rfl (fun z => absurd z (by decide)) (fun _ => ?_)
  refine g_iconst X0 hx hby d8_7 (pc' := 8) rfl (z := (0 : Int32)) rfl ?_
  refine g_istoreN X0 hx hby d8_8 (pc' := 9) rfl (l' := #[.val (.ref q1), .val (.ref q2), .val (.int (0 : Int32))]) rfl ?_
  refine g_iloadN X0 hx hby d8_9 (pc' := 10) rfl rfl ?_
  refine g_aloadN X0 hx hby d8_10 (pc' := 11) rfl rfl rfl ?_
  refine g_alen X0 hx hZ hby d8_11 (pc' := 12) rfl e0 A_1 ?_
  refine g_icmp_ge X0 hx hby d8_12 (by decide) (pc' := 32) (by decide) (pn := 15) rfl (fun z => absurd z (by decide)) (fun _ => ?_)
  refine g_aloadN X0 hx hby d8_15 (pc' := 16) rfl rfl rfl ?_
  refine g_iloadN X0 hx hby d8_16 (pc' := 17) rfl rfl ?_
  refine g_baload X0 hx hZ hby d8_17 (pc' := 18) rfl e0 A_1 (by decide) (v := .int x0) rfl ?_
  refine g_aloadN X0 hx hby d8_18 (pc' := 19) rfl rfl rfl ?_
  refine g_iloadN X0 hx hby d8_19 (pc' := 20) rfl rfl ?_
  refine g_baload X0 hx hZ hby d8_20 (pc' := 21) rfl e0 A_2 (by decide) (v := .int y0) rfl ?_
  refine g_icmp_eq X0 hx hby d8_21 (by decide) (pc' := 26) (by decide) (pn := 24) rfl (fun hc21_1 => ?_) (fun hc21_1 => ?_)
  · refine g_iinc X0 hx hby d8_26 (pc' := 29) rfl rfl (l' := #[.val (.ref q1), .val (.ref q2), .val (.int (1 : Int32))]) rfl ?_
    refine g_goto X0 hx hby d8_29 (by decide) (pc' := 9) (by decide) ?_
    refine g_iloadN X0 hx hby d8_9 (pc' := 10) rfl rfl ?_
    refine g_aloadN X0 hx hby d8_10 (pc' := 11) rfl rfl rfl ?_
    refine g_alen X0 hx hZ hby d8_11 (pc' := 12) rfl e0 A_1 ?_
    refine g_icmp_ge X0 hx hby d8_12 (by decide) (pc' := 32) (by decide) (pn := 15) rfl (fun z => absurd z (by decide)) (fun _ => ?_)
    refine g_aloadN X0 hx hby d8_15 (pc' := 16) rfl rfl rfl ?_
    refine g_iloadN X0 hx hby d8_16 (pc' := 17) rfl rfl ?_
    refine g_baload X0 hx hZ hby d8_17 (pc' := 18) rfl e0 A_1 (by decide) (v := .int x1) rfl ?_
    refine g_aloadN X0 hx hby d8_18 (pc' := 19) rfl rfl rfl ?_
    refine g_iloadN X0 hx hby d8_19 (pc' := 20) rfl rfl ?_
    refine g_baload X0 hx hZ hby d8_20 (pc' := 21) rfl e0 A_2 (by decide) (v := .int y1) rfl ?_
    refine g_icmp_eq X0 hx hby d8_21 (by decide) (pc' := 26) (by decide) (pn := 24) rfl (fun hc21_2 => ?_) (fun hc21_2 => ?_)
    · refine g_iinc X0 hx hby d8_26 (pc' := 29) rfl rfl (l' := #[.val (.ref q1), .val (.ref q2), .val (.int (2 : Int32))]) rfl ?_
      refine g_goto X0 hx hby d8_29 (by decide) (pc' := 9) (by decide) ?_
      refine g_iloadN X0 hx hby d8_9 (pc' := 10) rfl rfl ?_
      refine g_aloadN X0 hx hby d8_10 (pc' := 11) rfl rfl rfl ?_
      refine g_alen X0 hx hZ hby d8_11 (pc' := 12) rfl e0 A_1 ?_
      refine g_icmp_ge X0 hx hby d8_12 (by decide) (pc' := 32) (by decide) (pn := 15) rfl (fun z => absurd z (by decide)) (fun _ => ?_)
      refine g_aloadN X0 hx hby d8_15 (pc' := 16) rfl rfl rfl ?_
      refine g_iloadN X0 hx hby d8_16 (pc' := 17) rfl rfl ?_
      refine g_baload X0 hx hZ hby d8_17 (pc' := 18) rfl e0 A_1 (by decide) (v := .int x2) rfl ?_
      refine g_aloadN X0 hx hby d8_18 (pc' := 19) rfl rfl rfl ?_
      refine g_iloadN X0 hx hby d8_19 (pc' := 20) rfl rfl ?_
      refine g_baload X0 hx hZ hby d8_20 (pc' := 21) rfl e0 A_2 (by decide) (v := .int y2) rfl ?_
      refine g_icmp_eq X0 hx hby d8_21 (by decide) (pc' := 26) (by decide) (pn := 24) rfl (fun hc21_3 => ?_) (fun hc21_3 => ?_)
      · refine g_iinc X0 hx hby d8_26 (pc' := 29) rfl rfl (l' := #[.val (.ref q1), .val (.ref q2), .val (.int (3 : Int32))]) rfl ?_
        refine g_goto X0 hx hby d8_29 (by decide) (pc' := 9) (by decide) ?_
        refine g_iloadN X0 hx hby d8_9 (pc' := 10) rfl rfl ?_
        refine g_aloadN X0 hx hby d8_10 (pc' := 11) rfl rfl rfl ?_
        refine g_alen X0 hx hZ hby d8_11 (pc' := 12) rfl e0 A_1 ?_
        refine g_icmp_ge X0 hx hby d8_12 (by decide) (pc' := 32) (by decide) (pn := 15) rfl (fun z => absurd z (by decide)) (fun _ => ?_)
        refine g_aloadN X0 hx hby d8_15 (pc' := 16) rfl rfl rfl ?_
        refine g_iloadN X0 hx hby d8_16 (pc' := 17) rfl rfl ?_
        refine g_baload X0 hx hZ hby d8_17 (pc' := 18) rfl e0 A_1 (by decide) (v := .int x3) rfl ?_
        refine g_aloadN X0 hx hby d8_18 (pc' := 19) rfl rfl rfl ?_
        refine g_iloadN X0 hx hby d8_19 (pc' := 20) rfl rfl ?_
        refine g_baload X0 hx hZ hby d8_20 (pc' := 21) rfl e0 A_2 (by decide) (v := .int y3) rfl ?_
        refine g_icmp_eq X0 hx hby d8_21 (by decide) (pc' := 26) (by decide) (pn := 24) rfl (fun hc21_4 => ?_) (fun hc21_4 => ?_)
        · refine g_iinc X0 hx hby d8_26 (pc' := 29) rfl rfl (l' := #[.val (.ref q1), .val (.ref q2), .val (.int (4 : Int32))]) rfl ?_
          refine g_goto X0 hx hby d8_29 (by decide) (pc' := 9) (by decide) ?_
          refine g_iloadN X0 hx hby d8_9 (pc' := 10) rfl rfl ?_
          refine g_aloadN X0 hx hby d8_10 (pc' := 11) rfl rfl rfl ?_
          refine g_alen X0 hx hZ hby d8_11 (pc' := 12) rfl e0 A_1 ?_
          refine g_icmp_ge X0 hx hby d8_12 (by decide) (pc' := 32) (by decide) (pn := 15) rfl (fun z => absurd z (by decide)) (fun _ => ?_)
          refine g_aloadN X0 hx hby d8_15 (pc' := 16) rfl rfl rfl ?_
          refine g_iloadN X0 hx hby d8_16 (pc' := 17) rfl rfl ?_
          refine g_baload X0 hx hZ hby d8_17 (pc' := 18) rfl e0 A_1 (by decide) (v := .int x4) rfl ?_
          refine g_aloadN X0 hx hby d8_18 (pc' := 19) rfl rfl rfl ?_
          refine g_iloadN X0 hx hby d8_19 (pc' := 20) rfl rfl ?_
          refine g_baload X0 hx hZ hby d8_20 (pc' := 21) rfl e0 A_2 (by decide) (v := .int y4) rfl ?_
          refine g_icmp_eq X0 hx hby d8_21 (by decide) (pc' := 26) (by decide) (pn := 24) rfl (fun hc21_5 => ?_) (fun hc21_5 => ?_)
          · refine g_iinc X0 hx hby d8_26 (pc' := 29) rfl rfl (l' := #[.val (.ref q1), .val (.ref q2), .val (.int (5 : Int32))]) rfl ?_
            refine g_goto X0 hx hby d8_29 (by decide) (pc' := 9) (by decide) ?_
            refine g_iloadN X0 hx hby d8_9 (pc' := 10) rfl rfl ?_
            refine g_aloadN X0 hx hby d8_10 (pc' := 11) rfl rfl rfl ?_
            refine g_alen X0 hx hZ hby d8_11 (pc' := 12) rfl e0 A_1 ?_
            refine g_icmp_ge X0 hx hby d8_12 (by decide) (pc' := 32) (by decide) (pn := 15) rfl (fun z => absurd z (by decide)) (fun _ => ?_)
            refine g_aloadN X0 hx hby d8_15 (pc' := 16) rfl rfl rfl ?_
            refine g_iloadN X0 hx hby d8_16 (pc' := 17) rfl rfl ?_
            refine g_baload X0 hx hZ hby d8_17 (pc' := 18) rfl e0 A_1 (by decide) (v := .int x5) rfl ?_
            refine g_aloadN X0 hx hby d8_18 (pc' := 19) rfl rfl rfl ?_
            refine g_iloadN X0 hx hby d8_19 (pc' := 20) rfl rfl ?_
            refine g_baload X0 hx hZ hby d8_20 (pc' := 21) rfl e0 A_2 (by decide) (v := .int y5) rfl ?_
            refine g_icmp_eq X0 hx hby d8_21 (by decide) (pc' := 26) (by decide) (pn := 24) rfl (fun hc21_6 => ?_) (fun hc21_6 => ?_)
            · refine g_iinc X0 hx hby d8_26 (pc' := 29) rfl rfl (l' := #[.val (.ref q1), .val (.ref q2), .val (.int (6 : Int32))]) rfl ?_
              refine g_goto X0 hx hby d8_29 (by decide) (pc' := 9) (by decide) ?_
              refine g_iloadN X0 hx hby d8_9 (pc' := 10) rfl rfl ?_
              refine g_aloadN X0 hx hby d8_10 (pc' := 11) rfl rfl rfl ?_
              refine g_alen X0 hx hZ hby d8_11 (pc' := 12) rfl e0 A_1 ?_
              refine g_icmp_ge X0 hx hby d8_12 (by decide) (pc' := 32) (by decide) (pn := 15) rfl (fun _ => ?_) (fun z => absurd z (by decide))
              refine g_iconst X0 hx hby d8_32 (pc' := 33) rfl (z := (1 : Int32)) rfl ?_
              exact g_retN (Q := (fun v h L => v = some (.int (eqT [x0, x1, x2, x3, x4, x5] [y0, y1, y2, y3, y4, y5])) ∧ Fr n0 L ∧ h = h0)) (w := (1 : Int32)) X0 hx hby d8_33 hret (by simp) (by first | decide | rfl) hlk (by decide) (by decide) ⟨congrArg (fun z : Int32 => some (Value.int z)) (by rw [eqT, if_pos (by rw [hc21_1, hc21_2, hc21_3, hc21_4, hc21_5, hc21_6])]), N0, e0⟩
            · refine g_iconst X0 hx hby d8_24 (pc' := 25) rfl (z := (0 : Int32)) rfl ?_
              exact g_retN (Q := (fun v h L => v = some (.int (eqT [x0, x1, x2, x3, x4, x5] [y0, y1, y2, y3, y4, y5])) ∧ Fr n0 L ∧ h = h0)) (w := (0 : Int32)) X0 hx hby d8_25 hret (by simp) (by first | decide | rfl) hlk (by decide) (by decide) ⟨congrArg (fun z : Int32 => some (Value.int z)) (by rw [eqT, if_neg (fun e => hc21_6 (by have z := congrArg (fun l : List Int32 => l.getD 5 0) e; exact z))]), N0, e0⟩
          · refine g_iconst X0 hx hby d8_24 (pc' := 25) rfl (z := (0 : Int32)) rfl ?_
            exact g_retN (Q := (fun v h L => v = some (.int (eqT [x0, x1, x2, x3, x4, x5] [y0, y1, y2, y3, y4, y5])) ∧ Fr n0 L ∧ h = h0)) (w := (0 : Int32)) X0 hx hby d8_25 hret (by simp) (by first | decide | rfl) hlk (by decide) (by decide) ⟨congrArg (fun z : Int32 => some (Value.int z)) (by rw [eqT, if_neg (fun e => hc21_5 (by have z := congrArg (fun l : List Int32 => l.getD 4 0) e; exact z))]), N0, e0⟩
        · refine g_iconst X0 hx hby d8_24 (pc' := 25) rfl (z := (0 : Int32)) rfl ?_
          exact g_retN (Q := (fun v h L => v = some (.int (eqT [x0, x1, x2, x3, x4, x5] [y0, y1, y2, y3, y4, y5])) ∧ Fr n0 L ∧ h = h0)) (w := (0 : Int32)) X0 hx hby d8_25 hret (by simp) (by first | decide | rfl) hlk (by decide) (by decide) ⟨congrArg (fun z : Int32 => some (Value.int z)) (by rw [eqT, if_neg (fun e => hc21_4 (by have z := congrArg (fun l : List Int32 => l.getD 3 0) e; exact z))]), N0, e0⟩
      · refine g_iconst X0 hx hby d8_24 (pc' := 25) rfl (z := (0 : Int32)) rfl ?_
        exact g_retN (Q := (fun v h L => v = some (.int (eqT [x0, x1, x2, x3, x4, x5] [y0, y1, y2, y3, y4, y5])) ∧ Fr n0 L ∧ h = h0)) (w := (0 : Int32)) X0 hx hby d8_25 hret (by simp) (by first | decide | rfl) hlk (by decide) (by decide) ⟨congrArg (fun z : Int32 => some (Value.int z)) (by rw [eqT, if_neg (fun e => hc21_3 (by have z := congrArg (fun l : List Int32 => l.getD 2 0) e; exact z))]), N0, e0⟩
    · refine g_iconst X0 hx hby d8_24 (pc' := 25) rfl (z := (0 : Int32)) rfl ?_
      exact g_retN (Q := (fun v h L => v = some (.int (eqT [x0, x1, x2, x3, x4, x5] [y0, y1, y2, y3, y4, y5])) ∧ Fr n0 L ∧ h = h0)) (w := (0 : Int32)) X0 hx hby d8_25 hret (by simp) (by first | decide | rfl) hlk (by decide) (by decide) ⟨congrArg (fun z : Int32 => some (Value.int z)) (by rw [eqT, if_neg (fun e => hc21_2 (by have z := congrArg (fun l : List Int32 => l.getD 1 0) e; exact z))]), N0, e0⟩
  · refine g_iconst X0 hx hby d8_24 (pc' := 25) rfl (z := (0 : Int32)) rfl ?_
    exact g_retN (Q := (fun v h L => v = some (.int (eqT [x0, x1, x2, x3, x4, x5] [y0, y1, y2, y3, y4, y5])) ∧ Fr n0 L ∧ h = h0)) (w := (0 : Int32)) X0 hx hby d8_25 hret (by simp) (by first | decide | rfl) hlk (by decide) (by decide) ⟨congrArg (fun z : Int32 => some (Value.int z)) (by rw [eqT, if_neg (fun e => hc21_1 (by have z := congrArg (fun l : List Int32 => l.getD 0 0) e; exact z))]), N0, e0⟩
theorem ef_rmEQn (q1 : Addr) (q2 : Addr) (m : MethodId) : entryFrame m #[.ref q1, .ref q2] 3 = mkF m 0 #[.val (.ref q1), .val (.ref q2), .unset] [] := by
  first | (simp [entryFrame, mkF, argsToLocals, Value.category]; done) | rfl
set_option maxRecDepth 65536 in
set_option maxHeartbeats 40000000 in
theorem rmEQn (l : Launch) (Z : State) (a0 : Array Value) (hw : ∀ d ∈ tables_1, d.before a0 Z = true) (ws : List Jvm.Cond) (q1 : Addr) (q2 : Addr) (h0 : Heap) (n0 : Nat) (z1 z2 : Int32) (v1 v2 : List Value) (b1 b2 : Addr) (k1 k2 : ClassId) (E_1 : Exa Z h0 q1 "java/lang/String") (E_2 : Exa Z h0 q2 "java/lang/String") (V_1 : Fld Z h0 q1 "java/lang/String" "value" "[B" (.ref b1)) (V_2 : Fld Z h0 q2 "java/lang/String" "value" "[B" (.ref b2)) (C_1 : Fld Z h0 q1 "java/lang/String" "coder" "B" (.int (0 : Int32))) (C_2 : Fld Z h0 q2 "java/lang/String" "coder" "B" (.int (0 : Int32))) (A_1 : Arv Z h0 b1 k1 .byte z1 v1 (.int 0)) (A_2 : Arv Z h0 b2 k2 .byte z2 v2 (.int 0)) (hne : q1 ≠ q2) (hz : ¬ z1 = z2) (cs : Int32) (fm : Value) (SS : SSt Z cs fm) (O0 : Old Z n0 h0) :
    Ctr l Z ({ cls := "java/lang/String", name := "equals", desc := "(Ljava/lang/Object;)Z" } : Jvm.MethodName) jdk_42_method_66_code 3 (some .boolean) ws ({ frames := 1, cells := 0, slots := 0, locals := 14 } : Room) #[.ref q1, .ref q2] h0 (fun v h L => v = some (.int (0 : Int32)) ∧ Fr n0 L ∧ h = h0) := by
  refine Ctr.enter (Ls := #[.val (.ref q1), .val (.ref q2), .unset]) (by decide +kernel) (fun m => ef_rmEQn q1 q2 m) ?_
  intro p e s m below meth c T hx hby hml hown hnm hret hlk hZ hh X0 e0
  have N0 := Fr.nil n0
  refine g_aloadN X0 hx hby d7_0 (pc' := 1) rfl rfl rfl ?_
  refine g_aloadN X0 hx hby d7_1 (pc' := 2) rfl rfl rfl ?_
  refine g_acmp_yes X0 hx hby d7_2 (by decide) (pc' := 7) (by decide) rfl rfl (by simp [Jvm.Free.XT.acmp, hne]) ?_
  refine g_aloadN X0 hx hby d7_7 (pc' := 8) rfl rfl rfl ?_
  refine g_instY X0 hx hZ hown hby d7_8 (pc' := 11) rfl (w_60 hw) e0 (Ins.self E_2) ?_
  intro T1 X1 e1
  refine g_if_eq X1 hx hby d7_11 (by decide) (pc' := 54) (by decide) (pn := 14) rfl (fun z => absurd z (by decide)) (fun _ => ?_)
  refine g_aloadN X1 hx hby d7_14 (pc' := 15) rfl rfl rfl ?_
  refine g_castY X1 hx hZ hown hby d7_15 (pc' := 18) rfl (w_60 hw) e1 (Ins.self E_2) ?_
  intro T2 X2 e2
  refine g_astoreN X2 hx hby d7_18 (pc' := 19) rfl rfl (l' := #[.val (.ref q1), .val (.ref q2), .val (.ref q2)]) rfl ?_
  refine g_getS X2 hx hZ hown hby d7_19 (pc' := 22) rfl (w_61 hw) e2 (SS.2.1.ext O0.2) ?_
  intro T3 X3 e3
  refine g_if_eq X3 hx hby d7_22 (by decide) (pc' := 36) (by decide) (pn := 25) rfl (fun z => absurd z SS.1) (fun hc22_4 => ?_)
  refine g_aloadN X3 hx hby d7_25 (pc' := 26) rfl rfl rfl ?_
  refine g_get X3 hx hZ hown hby d7_26 (pc' := 29) rfl (w_27 hw) e3 C_1 ?_
  intro T5 X5 e5
  refine g_aloadN X5 hx hby d7_29 (pc' := 30) rfl rfl rfl ?_
  refine g_get X5 hx hZ hown hby d7_30 (pc' := 33) rfl (w_27 hw) e5 C_2 ?_
  intro T6 X6 e6
  refine g_icmp_ne X6 hx hby d7_33 (by decide) (pc' := 54) (by decide) (pn := 36) rfl (fun z => absurd z (by decide)) (fun _ => ?_)
  refine g_aloadN X6 hx hby d7_36 (pc' := 37) rfl rfl rfl ?_
  refine g_get X6 hx hZ hown hby d7_37 (pc' := 40) rfl (w_26 hw) e6 V_1 ?_
  intro T7 X7 e7
  refine g_aloadN X7 hx hby d7_40 (pc' := 41) rfl rfl rfl ?_
  refine g_get X7 hx hZ hown hby d7_41 (pc' := 44) rfl (w_26 hw) e7 V_2 ?_
  intro T8 X8 e8
  refine g_callS X8 hx hZ hown (W := 0) (argsL := [.ref b1, .ref b2]) (rest := []) hby d7_44 (pc' := 47) rfl (by rw [hml]; rfl) (w_62 hw) (w_63 hw) (w_64 hw) (w_65 hw) (by decide) (rmLEn l Z a0 hw [] b1 b2 h0 n0 _ _ _ _ _ _ A_1 A_2 hz) e8 (by decide) (by decide) (by decide) (by decide) rfl pd__28_5bB_5bB_29Z rfl rfl (Nat.le_of_eq rfl) ?_
  rintro _ T9 L9 X9 ⟨rfl, N9q, e9⟩
  have N9 := Fr.app N0 N9q
  show GoE p e below _ (T9.setTop (mkF m 47 #[.val (.ref q1), .val (.ref q2), .val (.ref q2)] [.int (0 : Int32)]))
  refine g_if_eq X9 hx hby d7_47 (by decide) (pc' := 54) (by decide) (pn := 50) rfl (fun _ => ?_) (fun z => absurd z (by decide))
  refine g_iconst X9 hx hby d7_54 (pc' := 55) rfl (z := (0 : Int32)) rfl ?_
  exact g_retN (Q := (fun v h L => v = some (.int (0 : Int32)) ∧ Fr n0 L ∧ h = h0)) (w := (0 : Int32)) X9 hx hby d7_55 hret (by simp) (by first | decide | rfl) hlk (by decide) (by decide) ⟨rfl, N9, e9⟩
theorem ef_rmEQ4 (q1 : Addr) (q2 : Addr) (m : MethodId) : entryFrame m #[.ref q1, .ref q2] 3 = mkF m 0 #[.val (.ref q1), .val (.ref q2), .unset] [] := by
  first | (simp [entryFrame, mkF, argsToLocals, Value.category]; done) | rfl
set_option maxRecDepth 65536 in
set_option maxHeartbeats 40000000 in
theorem rmEQ4 (l : Launch) (Z : State) (a0 : Array Value) (hw : ∀ d ∈ tables_1, d.before a0 Z = true) (ws : List Jvm.Cond) (q1 : Addr) (q2 : Addr) (h0 : Heap) (n0 : Nat) (x0 x1 x2 x3 y0 y1 y2 y3 : Int32) (b1 b2 : Addr) (k1 k2 : ClassId) (E_1 : Exa Z h0 q1 "java/lang/String") (E_2 : Exa Z h0 q2 "java/lang/String") (V_1 : Fld Z h0 q1 "java/lang/String" "value" "[B" (.ref b1)) (V_2 : Fld Z h0 q2 "java/lang/String" "value" "[B" (.ref b2)) (C_1 : Fld Z h0 q1 "java/lang/String" "coder" "B" (.int (0 : Int32))) (C_2 : Fld Z h0 q2 "java/lang/String" "coder" "B" (.int (0 : Int32))) (A_1 : Arv Z h0 b1 k1 .byte (4 : Int32) [.int x0, .int x1, .int x2, .int x3] (.int 0)) (A_2 : Arv Z h0 b2 k2 .byte (4 : Int32) [.int y0, .int y1, .int y2, .int y3] (.int 0)) (hne : q1 ≠ q2) (cs : Int32) (fm : Value) (SS : SSt Z cs fm) (O0 : Old Z n0 h0) :
    Ctr l Z ({ cls := "java/lang/String", name := "equals", desc := "(Ljava/lang/Object;)Z" } : Jvm.MethodName) jdk_42_method_66_code 3 (some .boolean) ws ({ frames := 1, cells := 0, slots := 0, locals := 14 } : Room) #[.ref q1, .ref q2] h0 (fun v h L => v = some (.int (eqT [x0, x1, x2, x3] [y0, y1, y2, y3])) ∧ Fr n0 L ∧ h = h0) := by
  refine Ctr.enter (Ls := #[.val (.ref q1), .val (.ref q2), .unset]) (by decide +kernel) (fun m => ef_rmEQ4 q1 q2 m) ?_
  intro p e s m below meth c T hx hby hml hown hnm hret hlk hZ hh X0 e0
  have N0 := Fr.nil n0
  refine g_aloadN X0 hx hby d7_0 (pc' := 1) rfl rfl rfl ?_
  refine g_aloadN X0 hx hby d7_1 (pc' := 2) rfl rfl rfl ?_
  refine g_acmp_yes X0 hx hby d7_2 (by decide) (pc' := 7) (by decide) rfl rfl (by simp [Jvm.Free.XT.acmp, hne]) ?_
  refine g_aloadN X0 hx hby d7_7 (pc' := 8) rfl rfl rfl ?_
  refine g_instY X0 hx hZ hown hby d7_8 (pc' := 11) rfl (w_60 hw) e0 (Ins.self E_2) ?_
  intro T1 X1 e1
  refine g_if_eq X1 hx hby d7_11 (by decide) (pc' := 54) (by decide) (pn := 14) rfl (fun z => absurd z (by decide)) (fun _ => ?_)
  refine g_aloadN X1 hx hby d7_14 (pc' := 15) rfl rfl rfl ?_
  refine g_castY X1 hx hZ hown hby d7_15 (pc' := 18) rfl (w_60 hw) e1 (Ins.self E_2) ?_
  intro T2 X2 e2
  refine g_astoreN X2 hx hby d7_18 (pc' := 19) rfl rfl (l' := #[.val (.ref q1), .val (.ref q2), .val (.ref q2)]) rfl ?_
  refine g_getS X2 hx hZ hown hby d7_19 (pc' := 22) rfl (w_61 hw) e2 (SS.2.1.ext O0.2) ?_
  intro T3 X3 e3
  refine g_if_eq X3 hx hby d7_22 (by decide) (pc' := 36) (by decide) (pn := 25) rfl (fun z => absurd z SS.1) (fun hc22_4 => ?_)
  refine g_aloadN X3 hx hby d7_25 (pc' := 26) rfl rfl rfl ?_
  refine g_get X3 hx hZ hown hby d7_26 (pc' := 29) rfl (w_27 hw) e3 C_1 ?_
  intro T5 X5 e5
  refine g_aloadN X5 hx hby d7_29 (pc' := 30) rfl rfl rfl ?_
  refine g_get X5 hx hZ hown hby d7_30 (pc' := 33) rfl (w_27 hw) e5 C_2 ?_
  intro T6 X6 e6
  refine g_icmp_ne X6 hx hby d7_33 (by decide) (pc' := 54) (by decide) (pn := 36) rfl (fun z => absurd z (by decide)) (fun _ => ?_)
  refine g_aloadN X6 hx hby d7_36 (pc' := 37) rfl rfl rfl ?_
  refine g_get X6 hx hZ hown hby d7_37 (pc' := 40) rfl (w_26 hw) e6 V_1 ?_
  intro T7 X7 e7
  refine g_aloadN X7 hx hby d7_40 (pc' := 41) rfl rfl rfl ?_
  refine g_get X7 hx hZ hown hby d7_41 (pc' := 44) rfl (w_26 hw) e7 V_2 ?_
  intro T8 X8 e8
  refine g_callS X8 hx hZ hown (W := 0) (argsL := [.ref b1, .ref b2]) (rest := []) hby d7_44 (pc' := 47) rfl (by rw [hml]; rfl) (w_62 hw) (w_63 hw) (w_64 hw) (w_65 hw) (by decide) (rmLE4 l Z a0 hw [] b1 b2 h0 n0 x0 x1 x2 x3 y0 y1 y2 y3 _ _ A_1 A_2) e8 (by decide) (by decide) (by decide) (by decide) rfl pd__28_5bB_5bB_29Z rfl rfl (Nat.le_of_eq rfl) ?_
  rintro _ T9 L9 X9 ⟨rfl, N9q, e9⟩
  have N9 := Fr.app N0 N9q
  show GoE p e below _ (T9.setTop (mkF m 47 #[.val (.ref q1), .val (.ref q2), .val (.ref q2)] [.int (eqT [x0, x1, x2, x3] [y0, y1, y2, y3])]))
  refine g_if_eq X9 hx hby d7_47 (by decide) (pc' := 54) (by decide) (pn := 50) rfl (fun hc47_10 => ?_) (fun hc47_10 => ?_)
  · refine g_iconst X9 hx hby d7_54 (pc' := 55) rfl (z := (0 : Int32)) rfl ?_
    exact g_retN (Q := (fun v h L => v = some (.int (eqT [x0, x1, x2, x3] [y0, y1, y2, y3])) ∧ Fr n0 L ∧ h = h0)) (w := (0 : Int32)) X9 hx hby d7_55 hret (by simp) (by first | decide | rfl) hlk (by decide) (by decide) ⟨congrArg (fun z : Int32 => some (Value.int z)) (hc47_10.symm), N9, e9⟩
  · refine g_iconst X9 hx hby d7_50 (pc' := 51) rfl (z := (1 : Int32)) rfl ?_
    refine g_goto X9 hx hby d7_51 (by decide) (pc' := 55) (by decide) ?_
    exact g_retN (Q := (fun v h L => v = some (.int (eqT [x0, x1, x2, x3] [y0, y1, y2, y3])) ∧ Fr n0 L ∧ h = h0)) (w := (1 : Int32)) X9 hx hby d7_55 hret (by simp) (by first | decide | rfl) hlk (by decide) (by decide) ⟨congrArg (fun z : Int32 => some (Value.int z)) (own_01 _ _ hc47_10), N9, e9⟩
theorem ef_rmEQ6 (q1 : Addr) (q2 : Addr) (m : MethodId) : entryFrame m #[.ref q1, .ref q2] 3 = mkF m 0 #[.val (.ref q1), .val (.ref q2), .unset] [] := by
  first | (simp [entryFrame, mkF, argsToLocals, Value.category]; done) | rfl
set_option maxRecDepth 65536 in
set_option maxHeartbeats 40000000 in
theorem rmEQ6 (l : Launch) (Z : State) (a0 : Array Value) (hw : ∀ d ∈ tables_1, d.before a0 Z = true) (ws : List Jvm.Cond) (q1 : Addr) (q2 : Addr) (h0 : Heap) (n0 : Nat) (x0 x1 x2 x3 x4 x5 y0 y1 y2 y3 y4 y5 : Int32) (b1 b2 : Addr) (k1 k2 : ClassId) (E_1 : Exa Z h0 q1 "java/lang/String") (E_2 : Exa Z h0 q2 "java/lang/String") (V_1 : Fld Z h0 q1 "java/lang/String" "value" "[B" (.ref b1)) (V_2 : Fld Z h0 q2 "java/lang/String" "value" "[B" (.ref b2)) (C_1 : Fld Z h0 q1 "java/lang/String" "coder" "B" (.int (0 : Int32))) (C_2 : Fld Z h0 q2 "java/lang/String" "coder" "B" (.int (0 : Int32))) (A_1 : Arv Z h0 b1 k1 .byte (6 : Int32) [.int x0, .int x1, .int x2, .int x3, .int x4, .int x5] (.int 0)) (A_2 : Arv Z h0 b2 k2 .byte (6 : Int32) [.int y0, .int y1, .int y2, .int y3, .int y4, .int y5] (.int 0)) (hne : q1 ≠ q2) (cs : Int32) (fm : Value) (SS : SSt Z cs fm) (O0 : Old Z n0 h0) :
    Ctr l Z ({ cls := "java/lang/String", name := "equals", desc := "(Ljava/lang/Object;)Z" } : Jvm.MethodName) jdk_42_method_66_code 3 (some .boolean) ws ({ frames := 1, cells := 0, slots := 0, locals := 14 } : Room) #[.ref q1, .ref q2] h0 (fun v h L => v = some (.int (eqT [x0, x1, x2, x3, x4, x5] [y0, y1, y2, y3, y4, y5])) ∧ Fr n0 L ∧ h = h0) := by
  refine Ctr.enter (Ls := #[.val (.ref q1), .val (.ref q2), .unset]) (by decide +kernel) (fun m => ef_rmEQ6 q1 q2 m) ?_
  intro p e s m below meth c T hx hby hml hown hnm hret hlk hZ hh X0 e0
  have N0 := Fr.nil n0
  refine g_aloadN X0 hx hby d7_0 (pc' := 1) rfl rfl rfl ?_
  refine g_aloadN X0 hx hby d7_1 (pc' := 2) rfl rfl rfl ?_
  refine g_acmp_yes X0 hx hby d7_2 (by decide) (pc' := 7) (by decide) rfl rfl (by simp [Jvm.Free.XT.acmp, hne]) ?_
  refine g_aloadN X0 hx hby d7_7 (pc' := 8) rfl rfl rfl ?_
  refine g_instY X0 hx hZ hown hby d7_8 (pc' := 11) rfl (w_60 hw) e0 (Ins.self E_2) ?_
  intro T1 X1 e1
  refine g_if_eq X1 hx hby d7_11 (by decide) (pc' := 54) (by decide) (pn := 14) rfl (fun z => absurd z (by decide)) (fun _ => ?_)
  refine g_aloadN X1 hx hby d7_14 (pc' := 15) rfl rfl rfl ?_
  refine g_castY X1 hx hZ hown hby d7_15 (pc' := 18) rfl (w_60 hw) e1 (Ins.self E_2) ?_
  intro T2 X2 e2
  refine g_astoreN X2 hx hby d7_18 (pc' := 19) rfl rfl (l' := #[.val (.ref q1), .val (.ref q2), .val (.ref q2)]) rfl ?_
  refine g_getS X2 hx hZ hown hby d7_19 (pc' := 22) rfl (w_61 hw) e2 (SS.2.1.ext O0.2) ?_
  intro T3 X3 e3
  refine g_if_eq X3 hx hby d7_22 (by decide) (pc' := 36) (by decide) (pn := 25) rfl (fun z => absurd z SS.1) (fun hc22_4 => ?_)
  refine g_aloadN X3 hx hby d7_25 (pc' := 26) rfl rfl rfl ?_
  refine g_get X3 hx hZ hown hby d7_26 (pc' := 29) rfl (w_27 hw) e3 C_1 ?_
  intro T5 X5 e5
  refine g_aloadN X5 hx hby d7_29 (pc' := 30) rfl rfl rfl ?_
  refine g_get X5 hx hZ hown hby d7_30 (pc' := 33) rfl (w_27 hw) e5 C_2 ?_
  intro T6 X6 e6
  refine g_icmp_ne X6 hx hby d7_33 (by decide) (pc' := 54) (by decide) (pn := 36) rfl (fun z => absurd z (by decide)) (fun _ => ?_)
  refine g_aloadN X6 hx hby d7_36 (pc' := 37) rfl rfl rfl ?_
  refine g_get X6 hx hZ hown hby d7_37 (pc' := 40) rfl (w_26 hw) e6 V_1 ?_
  intro T7 X7 e7
  refine g_aloadN X7 hx hby d7_40 (pc' := 41) rfl rfl rfl ?_
  refine g_get X7 hx hZ hown hby d7_41 (pc' := 44) rfl (w_26 hw) e7 V_2 ?_
  intro T8 X8 e8
  refine g_callS X8 hx hZ hown (W := 0) (argsL := [.ref b1, .ref b2]) (rest := []) hby d7_44 (pc' := 47) rfl (by rw [hml]; rfl) (w_62 hw) (w_63 hw) (w_64 hw) (w_65 hw) (by decide) (rmLE6 l Z a0 hw [] b1 b2 h0 n0 x0 x1 x2 x3 x4 x5 y0 y1 y2 y3 y4 y5 _ _ A_1 A_2) e8 (by decide) (by decide) (by decide) (by decide) rfl pd__28_5bB_5bB_29Z rfl rfl (Nat.le_of_eq rfl) ?_
  rintro _ T9 L9 X9 ⟨rfl, N9q, e9⟩
  have N9 := Fr.app N0 N9q
  show GoE p e below _ (T9.setTop (mkF m 47 #[.val (.ref q1), .val (.ref q2), .val (.ref q2)] [.int (eqT [x0, x1, x2, x3, x4, x5] [y0, y1, y2, y3, y4, y5])]))
  refine g_if_eq X9 hx hby d7_47 (by decide) (pc' := 54) (by decide) (pn := 50) rfl (fun hc47_10 => ?_) (fun hc47_10 => ?_)
  · refine g_iconst X9 hx hby d7_54 (pc' := 55) rfl (z := (0 : Int32)) rfl ?_
    exact g_retN (Q := (fun v h L => v = some (.int (eqT [x0, x1, x2, x3, x4, x5] [y0, y1, y2, y3, y4, y5])) ∧ Fr n0 L ∧ h = h0)) (w := (0 : Int32)) X9 hx hby d7_55 hret (by simp) (by first | decide | rfl) hlk (by decide) (by decide) ⟨congrArg (fun z : Int32 => some (Value.int z)) (hc47_10.symm), N9, e9⟩
  · refine g_iconst X9 hx hby d7_50 (pc' := 51) rfl (z := (1 : Int32)) rfl ?_
    refine g_goto X9 hx hby d7_51 (by decide) (pc' := 55) (by decide) ?_
    exact g_retN (Q := (fun v h L => v = some (.int (eqT [x0, x1, x2, x3, x4, x5] [y0, y1, y2, y3, y4, y5])) ∧ Fr n0 L ∧ h = h0)) (w := (1 : Int32)) X9 hx hby d7_55 hret (by simp) (by first | decide | rfl) hlk (by decide) (by decide) ⟨congrArg (fun z : Int32 => some (Value.int z)) (own_01 _ _ hc47_10), N9, e9⟩
theorem ef_rmEQs (q1 : Addr) (m : MethodId) : entryFrame m #[.ref q1, .ref q1] 3 = mkF m 0 #[.val (.ref q1), .val (.ref q1), .unset] [] := by
  first | (simp [entryFrame, mkF, argsToLocals, Value.category]; done) | rfl
set_option maxRecDepth 65536 in
set_option maxHeartbeats 40000000 in
theorem rmEQs (l : Launch) (Z : State) (a0 : Array Value) (hw : ∀ d ∈ tables_1, d.before a0 Z = true) (ws : List Jvm.Cond) (q1 : Addr) (h0 : Heap) (n0 : Nat)  :
    Ctr l Z ({ cls := "java/lang/String", name := "equals", desc := "(Ljava/lang/Object;)Z" } : Jvm.MethodName) jdk_42_method_66_code 3 (some .boolean) ws ({ frames := 1, cells := 0, slots := 0, locals := 14 } : Room) #[.ref q1, .ref q1] h0 (fun v h L => v = some (.int (1 : Int32)) ∧ Fr n0 L ∧ h = h0) := by
  refine Ctr.enter (Ls := #[.val (.ref q1), .val (.ref q1), .unset]) (by decide +kernel) (fun m => ef_rmEQs q1 m) ?_
  intro p e s m below meth c T hx hby hml hown hnm hret hlk hZ hh X0 e0
  have N0 := Fr.nil n0
  refine g_aloadN X0 hx hby d7_0 (pc' := 1) rfl rfl rfl ?_
  refine g_aloadN X0 hx hby d7_1 (pc' := 2) rfl rfl rfl ?_
  refine g_acmp_no X0 hx hby d7_2 (pn := 5) rfl rfl rfl (by simp [Jvm.Free.XT.acmp]) ?_
  refine g_iconst X0 hx hby d7_5 (pc' := 6) rfl (z := (1 : Int32)) rfl ?_
  exact g_retN (Q := (fun v h L => v = some (.int (1 : Int32)) ∧ Fr n0 L ∧ h = h0)) (w := (1 : Int32)) X0 hx hby d7_6 hret (by simp) (by first | decide | rfl) hlk (by decide) (by decide) ⟨rfl, N0, e0⟩
theorem rmEQ (l : Launch) (Z : State) (a0 : Array Value) (hw : ∀ d ∈ tables_1, d.before a0 Z = true) (ws : List Jvm.Cond) (q1 q2 : Addr) (h0 : Heap) (n0 : Nat) (xs ys : List Int32) (T1 : Txt Z h0 q1 xs) (T2 : Txt Z h0 q2 ys) (hlen : xs.length = ys.length → xs.length = 4 ∨ xs.length = 6) (cs : Int32) (fm : Value) (SS : SSt Z cs fm) (O0 : Old Z n0 h0) : Ctr l Z ({ cls := "java/lang/String", name := "equals", desc := "(Ljava/lang/Object;)Z" } : Jvm.MethodName) jdk_42_method_66_code 3 (some .boolean) ws ({ frames := 1, cells := 0, slots := 0, locals := 14 } : Room) #[.ref q1, .ref q2] h0 (fun v h L => v = some (.int (eqT xs ys)) ∧ Fr n0 L ∧ h = h0) := by
  by_cases hne : q1 = q2
  · subst hne
    exact (rmEQs l Z a0 hw ws q1 h0 n0).imp fun v h L z => ⟨z.1.trans (congrArg (fun z : Int32 => some (Value.int z)) (by rw [eqT, if_pos (own_txt T1 T2)])), z.2⟩
  · obtain ⟨E1, l1, b1, k1, V1, C1, A1⟩ := T1
    obtain ⟨E2, l2, b2, k2, V2, C2, A2⟩ := T2
    by_cases he : xs.length = ys.length
    · rcases hlen he with h4 | h6
      · match xs, ys, h4, he, A1, A2 with
        | [x0, x1, x2, x3], [y0, y1, y2, y3], _, _, A1, A2 => exact rmEQ4 l Z a0 hw ws q1 q2 h0 n0 x0 x1 x2 x3 y0 y1 y2 y3 b1 b2 k1 k2 E1 E2 V1 V2 C1 C2 A1 A2 hne cs fm SS O0
      · match xs, ys, h6, he, A1, A2 with
        | [x0, x1, x2, x3, x4, x5], [y0, y1, y2, y3, y4, y5], _, _, A1, A2 => exact rmEQ6 l Z a0 hw ws q1 q2 h0 n0 x0 x1 x2 x3 x4 x5 y0 y1 y2 y3 y4 y5 b1 b2 k1 k2 E1 E2 V1 V2 C1 C2 A1 A2 hne cs fm SS O0
    · exact (rmEQn l Z a0 hw ws q1 q2 h0 n0 _ _ _ _ b1 b2 k1 k2 E1 E2 V1 V2 C1 C2 A1 A2 hne (fun q => he (own_ofn l1 l2 q)) cs fm SS O0).imp fun v h L z => ⟨z.1.trans (congrArg (fun z : Int32 => some (Value.int z)) (by rw [eqT, if_neg (fun q => he (congrArg List.length q))])), z.2⟩
theorem ef_rmNN (q1 : Addr) (m : MethodId) : entryFrame m #[.ref q1] 1 = mkF m 0 #[.val (.ref q1)] [] := by
  first | (simp [entryFrame, mkF, argsToLocals, Value.category]; done) | rfl
set_option maxRecDepth 65536 in
set_option maxHeartbeats 40000000 in
theorem rmNN (l : Launch) (Z : State) (a0 : Array Value) (hw : ∀ d ∈ tables_1, d.before a0 Z = true) (ws : List Jvm.Cond) (q1 : Addr) (h0 : Heap) (n0 : Nat)  :
    Ctr l Z ({ cls := "java/util/Objects", name := "requireNonNull", desc := "(Ljava/lang/Object;)Ljava/lang/Object;" } : Jvm.MethodName) jdk_31_method_10_code 1 (some (.object "java/lang/Object")) ws ({ frames := 0, cells := 0, slots := 0, locals := 0 } : Room) #[.ref q1] h0 (fun v h L => v = some (.ref q1) ∧ Fr n0 L ∧ h = h0) := by
  refine Ctr.enter (Ls := #[.val (.ref q1)]) (by decide +kernel) (fun m => ef_rmNN q1 m) ?_
  intro p e s m below meth c T hx hby hml hown hnm hret hlk hZ hh X0 e0
  have N0 := Fr.nil n0
  refine g_aloadN X0 hx hby d24_0 (pc' := 1) rfl rfl rfl ?_
  refine g_ifnonnull_yes X0 hx hby d24_1 (by decide) (pc' := 12) (by decide) ?_
  refine g_aloadN X0 hx hby d24_12 (pc' := 13) rfl rfl rfl ?_
  exact g_retA (Q := (fun v h L => v = some (.ref q1) ∧ Fr n0 L ∧ h = h0)) X0 hx hby d24_13 rfl hret rfl hlk (by decide) (by decide) ⟨rfl, N0, e0⟩
theorem ef_rmOI (q1 : Addr) (q2 : Addr) (m : MethodId) : entryFrame m #[.ref q1, .ref q2] 2 = mkF m 0 #[.val (.ref q1), .val (.ref q2)] [] := by
  first | (simp [entryFrame, mkF, argsToLocals, Value.category]; done) | rfl
set_option maxRecDepth 65536 in
set_option maxHeartbeats 40000000 in
theorem rmOI (l : Launch) (Z : State) (a0 : Array Value) (hw : ∀ d ∈ tables_1, d.before a0 Z = true) (ws : List Jvm.Cond) (q1 : Addr) (q2 : Addr) (h0 : Heap) (n0 : Nat) (w1 : Value) (E_a : Exa Z h0 q1 "java/util/Optional") (F_v : Fld Z h0 q1 "java/util/Optional" "value" "Ljava/lang/Object;" (w1)) (g_a : n0 ≤ q1) :
    Ctr l Z ({ cls := "java/util/Optional", name := "<init>", desc := "(Ljava/lang/Object;)V" } : Jvm.MethodName) jdk_32_method_2_code 2 none ws ({ frames := 1, cells := 0, slots := 0, locals := 12 } : Room) #[.ref q1, .ref q2] h0 (fun v h L => v = none ∧ Fr n0 L ∧ Keep h0 h [q1] ∧ Exa Z h q1 "java/util/Optional" ∧ Fld Z h q1 "java/util/Optional" "value" "Ljava/lang/Object;" (.ref q2)) := by
  refine Ctr.enter (Ls := #[.val (.ref q1), .val (.ref q2)]) (by decide +kernel) (fun m => ef_rmOI q1 q2 m) ?_
  intro p e s m below meth c T hx hby hml hown hnm hret hlk hZ hh X0 e0
  have N0 := Fr.nil n0
  refine g_aloadN X0 hx hby d25_0 (pc' := 1) rfl rfl rfl ?_
  obtain ⟨T1, X1, e1, st1⟩ := initO X0 hx hZ hown (w_142 hw) (w_23 hw) (w_24 hw) e0 (g := (mkF m 1 #[.val (.ref q1), .val (.ref q2)] [.ref q1])) rfl (by rw [hml]; rfl) rfl (hb hby d25_1) (by decide) (W := 0) (by show 2 * 0 + _ ≤ _; exact Nat.le_of_eq rfl) (by decide)
  refine GoE.pull (b := T1.setTop (mkF m 4 #[.val (.ref q1), .val (.ref q2)] [])) ?_ st1
  refine g_aloadN X1 hx hby d25_4 (pc' := 5) rfl rfl rfl ?_
  refine g_aloadN X1 hx hby d25_5 (pc' := 6) rfl rfl rfl ?_
  refine g_put X1 hx hZ hown hby d25_6 (pc' := 9) rfl (w_76 hw) e1 F_v E_a (Or.inr ⟨(w_77 hw), rfl, hnm⟩) (w_133 hw) (ty := (.object "java/lang/Object")) (by decide) rfl rfl ?_
  intro T2 X2 W2
  have N2 := Fr.snoc X2 N0 g_a
  have E2_q1 := E_a.wr W2
  have K2 := (Keep.refl h0 [q1]).wr W2 (Or.inl (List.mem_of_getElem? (i := 0) rfl))
  have F2_q1_value := F_v.same W2
  exact g_retV (Q := (fun v h L => v = none ∧ Fr n0 L ∧ Keep h0 h [q1] ∧ Exa Z h q1 "java/util/Optional" ∧ Fld Z h q1 "java/util/Optional" "value" "Ljava/lang/Object;" (.ref q2))) X2 hx hby d25_9 hret hlk (by decide) (by decide) ⟨rfl, N2, K2, E2_q1, F2_q1_value⟩
theorem ef_rmOF (q1 : Addr) (m : MethodId) : entryFrame m #[.ref q1] 1 = mkF m 0 #[.val (.ref q1)] [] := by
  first | (simp [entryFrame, mkF, argsToLocals, Value.category]; done) | rfl
set_option maxRecDepth 65536 in
set_option maxHeartbeats 40000000 in
theorem rmOF (l : Launch) (Z : State) (a0 : Array Value) (hw : ∀ d ∈ tables_1, d.before a0 Z = true) (ws : List Jvm.Cond) (q1 : Addr) (h0 : Heap) (n0 : Nat) (Z0 : n0 ≤ h0.size) :
    Ctr l Z ({ cls := "java/util/Optional", name := "of", desc := "(Ljava/lang/Object;)Ljava/util/Optional;" } : Jvm.MethodName) jdk_32_method_3_code 1 (some (.object "java/util/Optional")) ws ({ frames := 2, cells := 1, slots := 1, locals := 26 } : Room) #[.ref q1] h0 (fun v h L => ∃ b : Addr, v = some (.ref b) ∧ Fr n0 L ∧ Keep h0 h [] ∧ h0.size ≤ b ∧ Exa Z h b "java/util/Optional" ∧ Fld Z h b "java/util/Optional" "value" "Ljava/lang/Object;" (.ref q1)) := by
  refine Ctr.enter (Ls := #[.val (.ref q1)]) (by decide +kernel) (fun m => ef_rmOF q1 m) ?_
  intro p e s m below meth c T hx hby hml hown hnm hret hlk hZ hh X0 e0
  have N0 := Fr.nil n0
  refine g_new X0 hx hZ hown hby d23_0 (pc' := 3) rfl (w_132 hw) (w_133 hw) (w_68 hw) e0 (by decide) (by decide) ?_
  intro T1 b1 hb1 X1 E1 A1 D1
  have K1 := (Keep.refl h0 []).ext E1
  have Z1 := Nat.le_trans Z0 E1.1
  have F1_value : Fld Z T1.heap b1 "java/util/Optional" "value" "Ljava/lang/Object;" (.null) := D1 (Or.inr (w_77 hw)) (ty := (.object "java/lang/Object")) (by decide)
  refine g_dup X1 hx hby d23_3 (pc' := 4) rfl rfl ?_
  refine g_aloadN X1 hx hby d23_4 (pc' := 5) rfl rfl rfl ?_
  refine g_callS X1 hx hZ hown (W := 2) (argsL := [.ref q1]) (rest := [.ref b1, .ref b1]) hby d23_5 (pc' := 8) rfl (by rw [hml]; rfl) (w_134 hw) (w_135 hw) (w_136 hw) (w_137 hw) (by decide) (rmNN l Z a0 hw [] q1 T1.heap n0) rfl (by decide) (by decide) (by decide) (by decide) rfl pd__28Ljava_2flang_2fObject_3b_29Ljava_2flang_2fObject_3b rfl rfl (Nat.le_of_eq rfl) ?_
  rintro _ T2 L2 X2 ⟨rfl, N2q, e2⟩
  have N2 := Fr.app N0 N2q
  show GoE p e below _ (T2.setTop (mkF m 8 #[.val (.ref q1)] [.ref q1, .ref b1, .ref b1]))
  refine g_callI X2 hx hZ hown (W := 1) (argsL := [.ref q1]) (b := b1) (rest := [.ref b1]) hby d23_8 (pc' := 11) rfl (by rw [hml]; rfl) (w_138 hw) (w_139 hw) (w_68 hw) (w_141 hw) rfl (by decide) (rmOI l Z a0 hw [] b1 q1 T1.heap n0 _ A1 F1_value (Nat.le_trans Z0 (Nat.le_of_eq hb1.symm))) e2 (by decide) (by decide) (by decide) (by decide) rfl pd__28Ljava_2flang_2fObject_3b_29V rfl rfl (Nat.le_of_eq rfl) ?_
  rintro _ T3 L3 X3 ⟨rfl, N3q, K3, Ei3, Fv3⟩
  have N3 := Fr.app N2 N3q
  have K3t := K1.trans K3 (allS (Or.inr (Nat.le_trans (Keep.refl h0 []).1 (Nat.le_of_eq hb1.symm))) all0)
  have Z3 := Nat.le_trans Z1 K3.1
  have E3_b1 := A1.keep K3
  show GoE p e below _ (T3.setTop (mkF m 11 #[.val (.ref q1)] [.ref b1]))
  exact g_retA (Q := (fun v h L => ∃ b : Addr, v = some (.ref b) ∧ Fr n0 L ∧ Keep h0 h [] ∧ h0.size ≤ b ∧ Exa Z h b "java/util/Optional" ∧ Fld Z h b "java/util/Optional" "value" "Ljava/lang/Object;" (.ref q1))) X3 hx hby d23_11 rfl hret rfl hlk (by decide) (by decide) ⟨b1, rfl, N3, K3t, (Nat.le_trans (Keep.refl h0 []).1 (Nat.le_of_eq hb1.symm)), Ei3, Fv3⟩
theorem ef_rmOE (q1 : Addr) (m : MethodId) : entryFrame m #[.ref q1, .null] 2 = mkF m 0 #[.val (.ref q1), .val (.null)] [] := by
  first | (simp [entryFrame, mkF, argsToLocals, Value.category]; done) | rfl
set_option maxRecDepth 65536 in
set_option maxHeartbeats 40000000 in
theorem rmOE (l : Launch) (Z : State) (a0 : Array Value) (hw : ∀ d ∈ tables_1, d.before a0 Z = true) (ws : List Jvm.Cond) (q1 : Addr) (h0 : Heap) (n0 : Nat) (v1 : Addr) (F_v : Fld Z h0 q1 "java/util/Optional" "value" "Ljava/lang/Object;" (.ref v1)) :
    Ctr l Z ({ cls := "java/util/Optional", name := "orElse", desc := "(Ljava/lang/Object;)Ljava/lang/Object;" } : Jvm.MethodName) jdk_32_method_15_code 2 (some (.object "java/lang/Object")) ws ({ frames := 0, cells := 0, slots := 0, locals := 0 } : Room) #[.ref q1, .null] h0 (fun v h L => v = some (.ref v1) ∧ Fr n0 L ∧ h = h0) := by
  refine Ctr.enter (Ls := #[.val (.ref q1), .val (.null)]) (by decide +kernel) (fun m => ef_rmOE q1 m) ?_
  intro p e s m below meth c T hx hby hml hown hnm hret hlk hZ hh X0 e0
  have N0 := Fr.nil n0
  refine g_aloadN X0 hx hby d10_0 (pc' := 1) rfl rfl rfl ?_
  refine g_get X0 hx hZ hown hby d10_1 (pc' := 4) rfl (w_76 hw) e0 F_v ?_
  intro T1 X1 e1
  refine g_ifnull_no X1 hx hby d10_4 (pn := 7) rfl ?_
  refine g_aloadN X1 hx hby d10_7 (pc' := 8) rfl rfl rfl ?_
  refine g_get X1 hx hZ hown hby d10_8 (pc' := 11) rfl (w_76 hw) e1 F_v ?_
  intro T2 X2 e2
  refine g_goto X2 hx hby d10_11 (by decide) (pc' := 15) (by decide) ?_
  exact g_retA (Q := (fun v h L => v = some (.ref v1) ∧ Fr n0 L ∧ h = h0)) X2 hx hby d10_15 rfl hret rfl hlk (by decide) (by decide) ⟨rfl, N0, e2⟩
theorem ef_rmON (q1 : Addr) (m : MethodId) : entryFrame m #[.ref q1, .null] 2 = mkF m 0 #[.val (.ref q1), .val (.null)] [] := by
  first | (simp [entryFrame, mkF, argsToLocals, Value.category]; done) | rfl
set_option maxRecDepth 65536 in
set_option maxHeartbeats 40000000 in
theorem rmON (l : Launch) (Z : State) (a0 : Array Value) (hw : ∀ d ∈ tables_1, d.before a0 Z = true) (ws : List Jvm.Cond) (q1 : Addr) (h0 : Heap) (n0 : Nat) (F_v : Fld Z h0 q1 "java/util/Optional" "value" "Ljava/lang/Object;" (.null)) :
    Ctr l Z ({ cls := "java/util/Optional", name := "orElse", desc := "(Ljava/lang/Object;)Ljava/lang/Object;" } : Jvm.MethodName) jdk_32_method_15_code 2 (some (.object "java/lang/Object")) ws ({ frames := 0, cells := 0, slots := 0, locals := 0 } : Room) #[.ref q1, .null] h0 (fun v h L => v = some (.null) ∧ Fr n0 L ∧ h = h0) := by
  refine Ctr.enter (Ls := #[.val (.ref q1), .val (.null)]) (by decide +kernel) (fun m => ef_rmON q1 m) ?_
  intro p e s m below meth c T hx hby hml hown hnm hret hlk hZ hh X0 e0
  have N0 := Fr.nil n0
  refine g_aloadN X0 hx hby d10_0 (pc' := 1) rfl rfl rfl ?_
  refine g_get X0 hx hZ hown hby d10_1 (pc' := 4) rfl (w_76 hw) e0 F_v ?_
  intro T1 X1 e1
  refine g_ifnull_yes X1 hx hby d10_4 (by decide) (pc' := 14) (by decide) ?_
  refine g_aloadN X1 hx hby d10_14 (pc' := 15) rfl rfl rfl ?_
  exact g_retA (Q := (fun v h L => v = some (.null) ∧ Fr n0 L ∧ h = h0)) X1 hx hby d10_15 rfl hret rfl hlk (by decide) (by decide) ⟨rfl, N0, e1⟩
theorem ef_rmEM  (m : MethodId) : entryFrame m #[] 1 = mkF m 0 #[.unset] [] := by
  first | (simp [entryFrame, mkF, argsToLocals, Value.category]; done) | rfl
set_option maxRecDepth 65536 in
set_option maxHeartbeats 40000000 in
theorem rmEM (l : Launch) (Z : State) (a0 : Array Value) (hw : ∀ d ∈ tables_1, d.before a0 Z = true) (ws : List Jvm.Cond)  (h0 : Heap) (n0 : Nat) (kd0 kd1 kd2 kd3 kd4 wd0 wd1 wd2 wd3 bV em : Addr) (kV : ClassId) (hK : KSt Z kd0 kd1 kd2 kd3 kd4 wd0 wd1 wd2 wd3 bV em kV) (O0 : Old Z n0 h0) :
    Ctr l Z ({ cls := "java/util/Optional", name := "empty", desc := "()Ljava/util/Optional;" } : Jvm.MethodName) jdk_32_method_1_code 1 (some (.object "java/util/Optional")) ws ({ frames := 0, cells := 0, slots := 0, locals := 0 } : Room) #[] h0 (fun v h L => v = some (.ref em) ∧ Fr n0 L ∧ h = h0) := by
  refine Ctr.enter (Ls := #[.unset]) (by decide +kernel) (fun m => ef_rmEM  m) ?_
  intro p e s m below meth c T hx hby hml hown hnm hret hlk hZ hh X0 e0
  have N0 := Fr.nil n0
  have hK' := hK
  obtain ⟨yS0, yS1, yS2, yS3, yS4, ySV, yAV, yEV, yF0, yF1, yF2, yF3, yT0, yT1, yT2, yT3, yE0, yE1, yE2, yE3, y04, y14, y24, y34, ySE, yFE, yEE⟩ := hK'
  refine g_getS X0 hx hZ hown hby d9_0 (pc' := 3) rfl (w_70 hw) e0 (ySE.ext O0.2) ?_
  intro T1 X1 e1
  refine g_astoreN X1 hx hby d9_3 (pc' := 4) rfl rfl (l' := #[.val (.ref em)]) rfl ?_
  refine g_aloadN X1 hx hby d9_4 (pc' := 5) rfl rfl rfl ?_
  exact g_retA (Q := (fun v h L => v = some (.ref em) ∧ Fr n0 L ∧ h = h0)) X1 hx hby d9_5 rfl hret rfl hlk (by decide) (by decide) ⟨rfl, N0, e1⟩
theorem ef_rmVA  (m : MethodId) : entryFrame m #[] 0 = mkF m 0 #[] [] := by
  first | (simp [entryFrame, mkF, argsToLocals, Value.category]; done) | rfl
theorem pn_rmVA : plainName "com/example/phaseline/phaseline/game/Kind" = true := by first | (simp [plainName, overriddenIn]; done) | decide +kernel
set_option maxRecDepth 65536 in
set_option maxHeartbeats 40000000 in
theorem rmVA (l : Launch) (Z : State) (a0 : Array Value) (hw : ∀ d ∈ tables_1, d.before a0 Z = true) (ws : List Jvm.Cond)  (h0 : Heap) (n0 : Nat) (kd0 kd1 kd2 kd3 kd4 wd0 wd1 wd2 wd3 bV em : Addr) (kV : ClassId) (hK : KSt Z kd0 kd1 kd2 kd3 kd4 wd0 wd1 wd2 wd3 bV em kV) (Z0 : n0 ≤ h0.size) (O0 : Old Z n0 h0) :
    Ctr l Z ({ cls := "com/example/phaseline/phaseline/game/Kind", name := "values", desc := "()[Lcom/example/phaseline/phaseline/game/Kind;" } : Jvm.MethodName) prog_14_method_1_code 0 (some (.array (.object "com/example/phaseline/phaseline/game/Kind"))) ws ({ frames := 1, cells := 1, slots := 5, locals := 14 } : Room) #[] h0 (fun v h L => ∃ b : Addr, v = some (.ref b) ∧ Fr n0 L ∧ Keep h0 h [] ∧ h0.size ≤ b ∧ Arv Z h b kV (.object "com/example/phaseline/phaseline/game/Kind") (5 : Int32) [.ref kd0, .ref kd1, .ref kd2, .ref kd3, .ref kd4] (.null)) := by
  refine Ctr.enter (Ls := #[]) (plainFor_of_name pn_rmVA) (fun m => ef_rmVA  m) ?_
  intro p e s m below meth c T hx hby hml hown hnm hret hlk hZ hh X0 e0
  have N0 := Fr.nil n0
  have hK' := hK
  obtain ⟨yS0, yS1, yS2, yS3, yS4, ySV, yAV, yEV, yF0, yF1, yF2, yF3, yT0, yT1, yT2, yT3, yE0, yE1, yE2, yE3, y04, y14, y24, y34, ySE, yFE, yEE⟩ := hK'
  have A_V := yAV.ext O0.2
  have E_V := yEV.ext O0.2
  refine g_getS X0 hx hZ hown hby d6_0 (pc' := 3) rfl (w_35 hw) e0 (ySV.ext O0.2) ?_
  intro T1 X1 e1
  refine g_clone X1 hx hZ hown (ad := "[Lcom/example/phaseline/phaseline/game/Kind;") (W := 0) 5 hby d6_3 (pc' := 6) rfl (by rw [hml]; rfl) (w_37 hw) (w_38 hw) (w_42 hw) (w_40 hw) (w_41 hw) (w_43 hw) e1 A_V E_V (by decide) (Nat.le_of_eq rfl) (by decide) (by decide) (by decide) (by decide) ?_
  intro T2 b2 hb2 X2 E2 A2 A2x
  have K2 := (Keep.refl h0 []).ext E2
  have O2o := O0.ext E2
  have Z2 := Nat.le_trans Z0 E2.1
  have A2_bV := A_V.ext E2
  have ne2_bV : bV ≠ b2 := hb2 ▸ Nat.ne_of_lt A_V.lt
  have E2_bV := E_V.ext E2
  refine g_castY X2 hx hZ hown hby d6_6 (pc' := 9) rfl (w_50 hw) rfl (Ins.self A2x) ?_
  intro T3 X3 e3
  exact g_retA (Q := (fun v h L => ∃ b : Addr, v = some (.ref b) ∧ Fr n0 L ∧ Keep h0 h [] ∧ h0.size ≤ b ∧ Arv Z h b kV (.object "com/example/phaseline/phaseline/game/Kind") (5 : Int32) [.ref kd0, .ref kd1, .ref kd2, .ref kd3, .ref kd4] (.null))) X3 hx hby d6_9 rfl hret rfl hlk (by decide) (by decide) (by rw [e3]; exact ⟨b2, rfl, N0, K2, (Nat.le_trans (Keep.refl h0 []).1 (Nat.le_of_eq hb2.symm)), A2⟩)
theorem ef_rmNA (q1 : Addr) (m : MethodId) : entryFrame m #[.ref q1] 5 = mkF m 0 #[.val (.ref q1), .unset, .unset, .unset, .unset] [] := by
  first | (simp [entryFrame, mkF, argsToLocals, Value.category]; done) | rfl
theorem pn_rmNA : plainName "com/example/phaseline/phaseline/game/Kind" = true := by first | (simp [plainName, overriddenIn]; done) | decide +kernel
set_option maxRecDepth 65536 in
set_option maxHeartbeats 40000000 in
theorem rmNA (l : Launch) (Z : State) (a0 : Array Value) (hw : ∀ d ∈ tables_1, d.before a0 Z = true) (ws : List Jvm.Cond) (q1 : Addr) (h0 : Heap) (n0 : Nat) (kd0 kd1 kd2 kd3 kd4 wd0 wd1 wd2 wd3 bV em : Addr) (kV : ClassId) (hK : KSt Z kd0 kd1 kd2 kd3 kd4 wd0 wd1 wd2 wd3 bV em kV) (wl : List Int32) (T_w : Txt Z h0 q1 wl) (Z0 : n0 ≤ h0.size) (cs : Int32) (fm : Value) (SS : SSt Z cs fm) (O0 : Old Z n0 h0) :
    Ctr l Z ({ cls := "com/example/phaseline/phaseline/game/Kind", name := "named", desc := "(Ljava/lang/String;)Ljava/util/Optional;" } : Jvm.MethodName) prog_14_method_7_code 5 (some (.object "java/util/Optional")) ws ({ frames := 3, cells := 2, slots := 6, locals := 38 } : Room) #[.ref q1] h0 (fun v h L => (∃ b : Addr, v = some (.ref b) ∧ Fr n0 L ∧ Keep h0 h [] ∧ Exa Z h b "java/util/Optional" ∧ Fld Z h b "java/util/Optional" "value" "Ljava/lang/Object;" (.ref kd0) ∧ wl_0 = wl) ∨ (∃ b : Addr, v = some (.ref b) ∧ Fr n0 L ∧ Keep h0 h [] ∧ Exa Z h b "java/util/Optional" ∧ Fld Z h b "java/util/Optional" "value" "Ljava/lang/Object;" (.ref kd1) ∧ wl_1 = wl) ∨ (∃ b : Addr, v = some (.ref b) ∧ Fr n0 L ∧ Keep h0 h [] ∧ Exa Z h b "java/util/Optional" ∧ Fld Z h b "java/util/Optional" "value" "Ljava/lang/Object;" (.ref kd2) ∧ wl_2 = wl) ∨ (∃ b : Addr, v = some (.ref b) ∧ Fr n0 L ∧ Keep h0 h [] ∧ Exa Z h b "java/util/Optional" ∧ Fld Z h b "java/util/Optional" "value" "Ljava/lang/Object;" (.ref kd3) ∧ wl_3 = wl) ∨ (v = some (.ref em) ∧ Fr n0 L ∧ Keep h0 h [] ∧ wl_0 ≠ wl ∧ wl_1 ≠ wl ∧ wl_2 ≠ wl ∧ wl_3 ≠ wl)) := by
  refine Ctr.enter (Ls := #[.val (.ref q1), .unset, .unset, .unset, .unset]) (plainFor_of_name pn_rmNA) (fun m => ef_rmNA q1 m) ?_
  intro p e s m below meth c T hx hby hml hown hnm hret hlk hZ hh X0 e0
  have N0 := Fr.nil n0
  have hK' := hK
  obtain ⟨yS0, yS1, yS2, yS3, yS4, ySV, yAV, yEV, yF0, yF1, yF2, yF3, yT0, yT1, yT2, yT3, yE0, yE1, yE2, yE3, y04, y14, y24, y34, ySE, yFE, yEE⟩ := hK'
  have E_w0 : Exa Z h0 wd0 "java/lang/String" := yT0.1.ext O0.2
  have E_w1 : Exa Z h0 wd1 "java/lang/String" := yT1.1.ext O0.2
  have E_w2 : Exa Z h0 wd2 "java/lang/String" := yT2.1.ext O0.2
  have E_w3 : Exa Z h0 wd3 "java/lang/String" := yT3.1.ext O0.2
  have F_k0 := yF0.ext O0.2
  have F_k1 := yF1.ext O0.2
  have F_k2 := yF2.ext O0.2
  have F_k3 := yF3.ext O0.2
  refine g_callS X0 hx hZ hown (W := 0) (argsL := []) (rest := []) hby d5_0 (pc' := 3) rfl (by rw [hml]; rfl) (w_32 hw) (w_33 hw) (w_30 hw) (w_34 hw) (by decide) (rmVA l Z a0 hw [] h0 n0 kd0 kd1 kd2 kd3 kd4 wd0 wd1 wd2 wd3 bV em kV hK Z0 O0) e0 (by decide) (by decide) (by decide) (by decide) rfl pd__28_29_5bLcom_2fexample_2fphaseline_2fphaseline_2fgame_2fKind_3b rfl rfl (Nat.le_of_eq rfl) ?_
  rintro _ T1 L1 X1 (⟨b1, rfl, N1q, K1, G1, A1⟩)
  · have N1 := Fr.app N0 N1q
    have nb1_wd0 : wd0 ≠ b1 := Nat.ne_of_lt (Nat.lt_of_lt_of_le E_w0.lt G1)
    have nb1_wd1 : wd1 ≠ b1 := Nat.ne_of_lt (Nat.lt_of_lt_of_le E_w1.lt G1)
    have nb1_wd2 : wd2 ≠ b1 := Nat.ne_of_lt (Nat.lt_of_lt_of_le E_w2.lt G1)
    have nb1_wd3 : wd3 ≠ b1 := Nat.ne_of_lt (Nat.lt_of_lt_of_le E_w3.lt G1)
    have O1 := O0.keep K1 all0
    have K1t := (Keep.refl h0 []).trans K1 all0
    have Z1 := Nat.le_trans Z0 K1.1
    have E1_wd0 := E_w0.keep K1
    have E1_wd1 := E_w1.keep K1
    have E1_wd2 := E_w2.keep K1
    have E1_wd3 := E_w3.keep K1
    have F1_kd0_word := F_k0.keep K1 nin0
    have F1_kd1_word := F_k1.keep K1 nin0
    have F1_kd2_word := F_k2.keep K1 nin0
    have F1_kd3_word := F_k3.keep K1 nin0
    show GoE p e below _ (T1.setTop (mkF m 3 #[.val (.ref q1), .unset, .unset, .unset, .unset] [.ref b1]))
    refine g_astoreN X1 hx hby d5_3 (pc' := 4) rfl rfl (l' := #[.val (.ref q1), .val (.ref b1), .unset, .unset, .unset]) rfl ?_
    refine g_aloadN X1 hx hby d5_4 (pc' := 5) rfl rfl rfl ?_
    refine g_alen X1 hx hZ hby d5_5 (pc' := 6) rfl rfl A1 ?_
    refine g_istoreN X1 hx hby d5_6 (pc' := 7) rfl (l' := #[.val (.ref q1), .val (.ref b1), .val (.int (5 : Int32)), .unset, .unset]) rfl ?_
    refine g_iconst X1 hx hby d5_7 (pc' := 8) rfl (z := (0 : Int32)) rfl ?_
    refine g_istoreN X1 hx hby d5_8 (pc' := 9) rfl (l' := #[.val (.ref q1), .val (.ref b1), .val (.int (5 : Int32)), .val (.int (0 : Int32)), .unset]) rfl ?_
    refine g_iloadN X1 hx hby d5_9 (pc' := 10) rfl rfl ?_
    refine g_iloadN X1 hx hby d5_10 (pc' := 11) rfl rfl ?_
    refine g_icmp_ge X1 hx hby d5_11 (by decide) (pc' := 51) (by decide) (pn := 14) rfl (fun z => absurd z (by decide)) (fun _ => ?_)
    refine g_aloadN X1 hx hby d5_14 (pc' := 15) rfl rfl rfl ?_
    refine g_iloadN X1 hx hby d5_15 (pc' := 16) rfl rfl ?_
    refine g_aaload X1 hx hZ hby d5_16 (pc' := 17) rfl rfl A1 rfl (by decide) (v := .ref kd0) rfl ?_
    refine g_astore X1 hx hby d5_17 (pc' := 19) rfl rfl (l' := #[.val (.ref q1), .val (.ref b1), .val (.int (5 : Int32)), .val (.int (0 : Int32)), .val (.ref kd0)]) rfl ?_
    refine g_aload X1 hx hby d5_19 (pc' := 21) rfl rfl rfl ?_
    refine g_getS X1 hx hZ hown hby d5_21 (pc' := 24) rfl (w_52 hw) rfl (yS4.ext O1.2) ?_
    intro T2 X2 e2
    refine g_acmp_no X2 hx hby d5_24 (pn := 27) rfl rfl rfl (by simp [Jvm.Free.XT.acmp, y04]) ?_
    refine g_aload X2 hx hby d5_27 (pc' := 29) rfl rfl rfl ?_
    refine g_get X2 hx hZ hown hby d5_29 (pc' := 32) rfl (w_53 hw) e2 F1_kd0_word ?_
    intro T3 X3 e3
    refine g_aloadN X3 hx hby d5_32 (pc' := 33) rfl rfl rfl ?_
    refine g_callV X3 hx hZ hown (W := 0) (argsL := [.ref q1]) (b := wd0) (rest := []) hby d5_33 (pc' := 36) rfl (by rw [hml]; rfl) (w_55 hw) (w_56 hw) (w_58 hw) (notFace_of_selects (args := #[]) (mvT hZ (w_58 hw))) (w_57 hw) (w_2 hw) (w_59 hw) (by decide) (rmEQ l Z a0 hw [] wd0 q1 T1.heap n0 wl_0 wl (yT0.ext O1.2) (T_w.keep0 K1t) (fun _ => Or.inl rfl) cs fm SS O1) e3 E1_wd0 (by decide) (by decide) (by decide) (by decide) rfl pd__28Ljava_2flang_2fObject_3b_29Z rfl rfl (Nat.le_of_eq rfl) ?_
    rintro _ T4 L4 X4 ⟨rfl, N4q, e4⟩
    have N4 := Fr.app N1 N4q
    show GoE p e below _ (T4.setTop (mkF m 36 #[.val (.ref q1), .val (.ref b1), .val (.int (5 : Int32)), .val (.int (0 : Int32)), .val (.ref kd0)] [.int (eqT wl_0 wl)]))
    refine g_if_eq X4 hx hby d5_36 (by decide) (pc' := 45) (by decide) (pn := 39) rfl (fun hc36_5 => ?_) (fun hc36_5 => ?_)
    · refine g_iinc X4 hx hby d5_45 (pc' := 48) rfl rfl (l' := #[.val (.ref q1), .val (.ref b1), .val (.int (5 : Int32)), .val (.int (1 : Int32)), .val (.ref kd0)]) rfl ?_
      refine g_goto X4 hx hby d5_48 (by decide) (pc' := 9) (by decide) ?_
      refine g_iloadN X4 hx hby d5_9 (pc' := 10) rfl rfl ?_
      refine g_iloadN X4 hx hby d5_10 (pc' := 11) rfl rfl ?_
      refine g_icmp_ge X4 hx hby d5_11 (by decide) (pc' := 51) (by decide) (pn := 14) rfl (fun z => absurd z (by decide)) (fun _ => ?_)
      refine g_aloadN X4 hx hby d5_14 (pc' := 15) rfl rfl rfl ?_
      refine g_iloadN X4 hx hby d5_15 (pc' := 16) rfl rfl ?_
      refine g_aaload X4 hx hZ hby d5_16 (pc' := 17) rfl e4 A1 rfl (by decide) (v := .ref kd1) rfl ?_
      refine g_astore X4 hx hby d5_17 (pc' := 19) rfl rfl (l' := #[.val (.ref q1), .val (.ref b1), .val (.int (5 : Int32)), .val (.int (1 : Int32)), .val (.ref kd1)]) rfl ?_
      refine g_aload X4 hx hby d5_19 (pc' := 21) rfl rfl rfl ?_
      refine g_getS X4 hx hZ hown hby d5_21 (pc' := 24) rfl (w_52 hw) e4 (yS4.ext O1.2) ?_
      intro T6 X6 e6
      refine g_acmp_no X6 hx hby d5_24 (pn := 27) rfl rfl rfl (by simp [Jvm.Free.XT.acmp, y14]) ?_
      refine g_aload X6 hx hby d5_27 (pc' := 29) rfl rfl rfl ?_
      refine g_get X6 hx hZ hown hby d5_29 (pc' := 32) rfl (w_53 hw) e6 F1_kd1_word ?_
      intro T7 X7 e7
      refine g_aloadN X7 hx hby d5_32 (pc' := 33) rfl rfl rfl ?_
      refine g_callV X7 hx hZ hown (W := 0) (argsL := [.ref q1]) (b := wd1) (rest := []) hby d5_33 (pc' := 36) rfl (by rw [hml]; rfl) (w_55 hw) (w_56 hw) (w_58 hw) (notFace_of_selects (args := #[]) (mvT hZ (w_58 hw))) (w_57 hw) (w_2 hw) (w_59 hw) (by decide) (rmEQ l Z a0 hw [] wd1 q1 T1.heap n0 wl_1 wl (yT1.ext O1.2) (T_w.keep0 K1t) (fun _ => Or.inr rfl) cs fm SS O1) e7 E1_wd1 (by decide) (by decide) (by decide) (by decide) rfl pd__28Ljava_2flang_2fObject_3b_29Z rfl rfl (Nat.le_of_eq rfl) ?_
      rintro _ T8 L8 X8 ⟨rfl, N8q, e8⟩
      have N8 := Fr.app N4 N8q
      show GoE p e below _ (T8.setTop (mkF m 36 #[.val (.ref q1), .val (.ref b1), .val (.int (5 : Int32)), .val (.int (1 : Int32)), .val (.ref kd1)] [.int (eqT wl_1 wl)]))
      refine g_if_eq X8 hx hby d5_36 (by decide) (pc' := 45) (by decide) (pn := 39) rfl (fun hc36_9 => ?_) (fun hc36_9 => ?_)
      · refine g_iinc X8 hx hby d5_45 (pc' := 48) rfl rfl (l' := #[.val (.ref q1), .val (.ref b1), .val (.int (5 : Int32)), .val (.int (2 : Int32)), .val (.ref kd1)]) rfl ?_
        refine g_goto X8 hx hby d5_48 (by decide) (pc' := 9) (by decide) ?_
        refine g_iloadN X8 hx hby d5_9 (pc' := 10) rfl rfl ?_
        refine g_iloadN X8 hx hby d5_10 (pc' := 11) rfl rfl ?_
        refine g_icmp_ge X8 hx hby d5_11 (by decide) (pc' := 51) (by decide) (pn := 14) rfl (fun z => absurd z (by decide)) (fun _ => ?_)
        refine g_aloadN X8 hx hby d5_14 (pc' := 15) rfl rfl rfl ?_
        refine g_iloadN X8 hx hby d5_15 (pc' := 16) rfl rfl ?_
        refine g_aaload X8 hx hZ hby d5_16 (pc' := 17) rfl e8 A1 rfl (by decide) (v := .ref kd2) rfl ?_
        refine g_astore X8 hx hby d5_17 (pc' := 19) rfl rfl (l' := #[.val (.ref q1), .val (.ref b1), .val (.int (5 : Int32)), .val (.int (2 : Int32)), .val (.ref kd2)]) rfl ?_
        refine g_aload X8 hx hby d5_19 (pc' := 21) rfl rfl rfl ?_
        refine g_getS X8 hx hZ hown hby d5_21 (pc' := 24) rfl (w_52 hw) e8 (yS4.ext O1.2) ?_
        intro T10 X10 e10
        refine g_acmp_no X10 hx hby d5_24 (pn := 27) rfl rfl rfl (by simp [Jvm.Free.XT.acmp, y24]) ?_
        refine g_aload X10 hx hby d5_27 (pc' := 29) rfl rfl rfl ?_
        refine g_get X10 hx hZ hown hby d5_29 (pc' := 32) rfl (w_53 hw) e10 F1_kd2_word ?_
        intro T11 X11 e11
        refine g_aloadN X11 hx hby d5_32 (pc' := 33) rfl rfl rfl ?_
        refine g_callV X11 hx hZ hown (W := 0) (argsL := [.ref q1]) (b := wd2) (rest := []) hby d5_33 (pc' := 36) rfl (by rw [hml]; rfl) (w_55 hw) (w_56 hw) (w_58 hw) (notFace_of_selects (args := #[]) (mvT hZ (w_58 hw))) (w_57 hw) (w_2 hw) (w_59 hw) (by decide) (rmEQ l Z a0 hw [] wd2 q1 T1.heap n0 wl_2 wl (yT2.ext O1.2) (T_w.keep0 K1t) (fun _ => Or.inl rfl) cs fm SS O1) e11 E1_wd2 (by decide) (by decide) (by decide) (by decide) rfl pd__28Ljava_2flang_2fObject_3b_29Z rfl rfl (Nat.le_of_eq rfl) ?_
        rintro _ T12 L12 X12 ⟨rfl, N12q, e12⟩
        have N12 := Fr.app N8 N12q
        show GoE p e below _ (T12.setTop (mkF m 36 #[.val (.ref q1), .val (.ref b1), .val (.int (5 : Int32)), .val (.int (2 : Int32)), .val (.ref kd2)] [.int (eqT wl_2 wl)]))
        refine g_if_eq X12 hx hby d5_36 (by decide) (pc' := 45) (by decide) (pn := 39) rfl (fun hc36_13 => ?_) (fun hc36_13 => ?_)
        · refine g_iinc X12 hx hby d5_45 (pc' := 48) rfl rfl (l' := #[.val (.ref q1), .val (.ref b1), .val (.int (5 : Int32)), .val (.int (3 : Int32)), .val (.ref kd2)]) rfl ?_
          refine g_goto X12 hx hby d5_48 (by decide) (pc' := 9) (by decide) ?_
          refine g_iloadN X12 hx hby d5_9 (pc' := 10) rfl rfl ?_
          refine g_iloadN X12 hx hby d5_10 (pc' := 11) rfl rfl ?_
          refine g_icmp_ge X12 hx hby d5_11 (by decide) (pc' := 51) (by decide) (pn := 14) rfl (fun z => absurd z (by decide)) (fun _ => ?_)
          refine g_aloadN X12 hx hby d5_14 (pc' := 15) rfl rfl rfl ?_
          refine g_iloadN X12 hx hby d5_15 (pc' := 16) rfl rfl ?_
          refine g_aaload X12 hx hZ hby d5_16 (pc' := 17) rfl e12 A1 rfl (by decide) (v := .ref kd3) rfl ?_
          refine g_astore X12 hx hby d5_17 (pc' := 19) rfl rfl (l' := #[.val (.ref q1), .val (.ref b1), .val (.int (5 : Int32)), .val (.int (3 : Int32)), .val (.ref kd3)]) rfl ?_
          refine g_aload X12 hx hby d5_19 (pc' := 21) rfl rfl rfl ?_
          refine g_getS X12 hx hZ hown hby d5_21 (pc' := 24) rfl (w_52 hw) e12 (yS4.ext O1.2) ?_
          intro T14 X14 e14
          refine g_acmp_no X14 hx hby d5_24 (pn := 27) rfl rfl rfl (by simp [Jvm.Free.XT.acmp, y34]) ?_
          refine g_aload X14 hx hby d5_27 (pc' := 29) rfl rfl rfl ?_
          refine g_get X14 hx hZ hown hby d5_29 (pc' := 32) rfl (w_53 hw) e14 F1_kd3_word ?_
          intro T15 X15 e15
          refine g_aloadN X15 hx hby d5_32 (pc' := 33) rfl rfl rfl ?_
          refine g_callV X15 hx hZ hown (W := 0) (argsL := [.ref q1]) (b := wd3) (rest := []) hby d5_33 (pc' := 36) rfl (by rw [hml]; rfl) (w_55 hw) (w_56 hw) (w_58 hw) (notFace_of_selects (args := #[]) (mvT hZ (w_58 hw))) (w_57 hw) (w_2 hw) (w_59 hw) (by decide) (rmEQ l Z a0 hw [] wd3 q1 T1.heap n0 wl_3 wl (yT3.ext O1.2) (T_w.keep0 K1t) (fun _ => Or.inr rfl) cs fm SS O1) e15 E1_wd3 (by decide) (by decide) (by decide) (by decide) rfl pd__28Ljava_2flang_2fObject_3b_29Z rfl rfl (Nat.le_of_eq rfl) ?_
          rintro _ T16 L16 X16 ⟨rfl, N16q, e16⟩
          have N16 := Fr.app N12 N16q
          show GoE p e below _ (T16.setTop (mkF m 36 #[.val (.ref q1), .val (.ref b1), .val (.int (5 : Int32)), .val (.int (3 : Int32)), .val (.ref kd3)] [.int (eqT wl_3 wl)]))
          refine g_if_eq X16 hx hby d5_36 (by decide) (pc' := 45) (by decide) (pn := 39) rfl (fun hc36_17 => ?_) (fun hc36_17 => ?_)
          · refine g_iinc X16 hx hby d5_45 (pc' := 48) rfl rfl (l' := #[.val (.ref q1), .val (.ref b1), .val (.int (5 : Int32)), .val (.int (4 : Int32)), .val (.ref kd3)]) rfl ?_
            refine g_goto X16 hx hby d5_48 (by decide) (pc' := 9) (by decide) ?_
            refine g_iloadN X16 hx hby d5_9 (pc' := 10) rfl rfl ?_
            refine g_iloadN X16 hx hby d5_10 (pc' := 11) rfl rfl ?_
            refine g_icmp_ge X16 hx hby d5_11 (by decide) (pc' := 51) (by decide) (pn := 14) rfl (fun z => absurd z (by decide)) (fun _ => ?_)
            refine g_aloadN X16 hx hby d5_14 (pc' := 15) rfl rfl rfl ?_
            refine g_iloadN X16 hx hby d5_15 (pc' := 16) rfl rfl ?_
            refine g_aaload X16 hx hZ hby d5_16 (pc' := 17) rfl e16 A1 rfl (by decide) (v := .ref kd4) rfl ?_
            refine g_astore X16 hx hby d5_17 (pc' := 19) rfl rfl (l' := #[.val (.ref q1), .val (.ref b1), .val (.int (5 : Int32)), .val (.int (4 : Int32)), .val (.ref kd4)]) rfl ?_
            refine g_aload X16 hx hby d5_19 (pc' := 21) rfl rfl rfl ?_
            refine g_getS X16 hx hZ hown hby d5_21 (pc' := 24) rfl (w_52 hw) e16 (yS4.ext O1.2) ?_
            intro T18 X18 e18
            refine g_acmp_yes X18 hx hby d5_24 (by decide) (pc' := 45) (by decide) rfl rfl (by simp [Jvm.Free.XT.acmp]) ?_
            refine g_iinc X18 hx hby d5_45 (pc' := 48) rfl rfl (l' := #[.val (.ref q1), .val (.ref b1), .val (.int (5 : Int32)), .val (.int (5 : Int32)), .val (.ref kd4)]) rfl ?_
            refine g_goto X18 hx hby d5_48 (by decide) (pc' := 9) (by decide) ?_
            refine g_iloadN X18 hx hby d5_9 (pc' := 10) rfl rfl ?_
            refine g_iloadN X18 hx hby d5_10 (pc' := 11) rfl rfl ?_
            refine g_icmp_ge X18 hx hby d5_11 (by decide) (pc' := 51) (by decide) (pn := 14) rfl (fun _ => ?_) (fun z => absurd z (by decide))
            refine g_callS X18 hx hZ hown (W := 0) (argsL := []) (rest := []) hby d5_51 (pc' := 54) rfl (by rw [hml]; rfl) (w_66 hw) (w_67 hw) (w_68 hw) (w_69 hw) (by decide) (rmEM l Z a0 hw [] T1.heap n0 kd0 kd1 kd2 kd3 kd4 wd0 wd1 wd2 wd3 bV em kV hK O1) e18 (by decide) (by decide) (by decide) (by decide) rfl pd__28_29Ljava_2futil_2fOptional_3b rfl rfl (Nat.le_of_eq rfl) ?_
            rintro _ T19 L19 X19 ⟨rfl, N19q, e19⟩
            have N19 := Fr.app N16 N19q
            show GoE p e below _ (T19.setTop (mkF m 54 #[.val (.ref q1), .val (.ref b1), .val (.int (5 : Int32)), .val (.int (5 : Int32)), .val (.ref kd4)] [.ref em]))
            exact g_retA (Q := (fun v h L => (∃ b : Addr, v = some (.ref b) ∧ Fr n0 L ∧ Keep h0 h [] ∧ Exa Z h b "java/util/Optional" ∧ Fld Z h b "java/util/Optional" "value" "Ljava/lang/Object;" (.ref kd0) ∧ wl_0 = wl) ∨ (∃ b : Addr, v = some (.ref b) ∧ Fr n0 L ∧ Keep h0 h [] ∧ Exa Z h b "java/util/Optional" ∧ Fld Z h b "java/util/Optional" "value" "Ljava/lang/Object;" (.ref kd1) ∧ wl_1 = wl) ∨ (∃ b : Addr, v = some (.ref b) ∧ Fr n0 L ∧ Keep h0 h [] ∧ Exa Z h b "java/util/Optional" ∧ Fld Z h b "java/util/Optional" "value" "Ljava/lang/Object;" (.ref kd2) ∧ wl_2 = wl) ∨ (∃ b : Addr, v = some (.ref b) ∧ Fr n0 L ∧ Keep h0 h [] ∧ Exa Z h b "java/util/Optional" ∧ Fld Z h b "java/util/Optional" "value" "Ljava/lang/Object;" (.ref kd3) ∧ wl_3 = wl) ∨ (v = some (.ref em) ∧ Fr n0 L ∧ Keep h0 h [] ∧ wl_0 ≠ wl ∧ wl_1 ≠ wl ∧ wl_2 ≠ wl ∧ wl_3 ≠ wl))) X19 hx hby d5_54 rfl hret rfl hlk (by decide) (by decide) (by rw [e19]; exact (Or.inr (Or.inr (Or.inr (Or.inr ⟨rfl, N19, K1t, own_eqN hc36_5, own_eqN hc36_9, own_eqN hc36_13, own_eqN hc36_17⟩)))))
          · refine g_aload X16 hx hby d5_39 (pc' := 41) rfl rfl rfl ?_
            refine g_callS X16 hx hZ hown (W := 0) (argsL := [.ref kd3]) (rest := []) hby d5_41 (pc' := 44) rfl (by rw [hml]; rfl) (w_129 hw) (w_130 hw) (w_68 hw) (w_131 hw) (by decide) (rmOF l Z a0 hw [] kd3 T1.heap n0 Z1) e16 (by decide) (by decide) (by decide) (by decide) rfl pd__28Ljava_2flang_2fObject_3b_29Ljava_2futil_2fOptional_3b rfl rfl (Nat.le_of_eq rfl) ?_
            rintro _ T20 L20 X20 (⟨b20, rfl, N20q, K20, G20, Ex20, Fv20⟩)
            · have N20 := Fr.app N16 N20q
              have nb20_wd0 : wd0 ≠ b20 := Nat.ne_of_lt (Nat.lt_of_lt_of_le E1_wd0.lt G20)
              have nb20_wd1 : wd1 ≠ b20 := Nat.ne_of_lt (Nat.lt_of_lt_of_le E1_wd1.lt G20)
              have nb20_wd2 : wd2 ≠ b20 := Nat.ne_of_lt (Nat.lt_of_lt_of_le E1_wd2.lt G20)
              have nb20_wd3 : wd3 ≠ b20 := Nat.ne_of_lt (Nat.lt_of_lt_of_le E1_wd3.lt G20)
              have nb20_b1 : b1 ≠ b20 := Nat.ne_of_lt (Nat.lt_of_lt_of_le A1.lt G20)
              have O20 := O1.keep K20 all0
              have K20t := K1t.trans K20 all0
              have Z20 := Nat.le_trans Z1 K20.1
              have E20_wd0 := E1_wd0.keep K20
              have E20_wd1 := E1_wd1.keep K20
              have E20_wd2 := E1_wd2.keep K20
              have E20_wd3 := E1_wd3.keep K20
              have F20_kd0_word := F1_kd0_word.keep K20 nin0
              have F20_kd1_word := F1_kd1_word.keep K20 nin0
              have F20_kd2_word := F1_kd2_word.keep K20 nin0
              have F20_kd3_word := F1_kd3_word.keep K20 nin0
              have A20_b1 := A1.keep K20 nin0
              show GoE p e below _ (T20.setTop (mkF m 44 #[.val (.ref q1), .val (.ref b1), .val (.int (5 : Int32)), .val (.int (3 : Int32)), .val (.ref kd3)] [.ref b20]))
              exact g_retA (Q := (fun v h L => (∃ b : Addr, v = some (.ref b) ∧ Fr n0 L ∧ Keep h0 h [] ∧ Exa Z h b "java/util/Optional" ∧ Fld Z h b "java/util/Optional" "value" "Ljava/lang/Object;" (.ref kd0) ∧ wl_0 = wl) ∨ (∃ b : Addr, v = some (.ref b) ∧ Fr n0 L ∧ Keep h0 h [] ∧ Exa Z h b "java/util/Optional" ∧ Fld Z h b "java/util/Optional" "value" "Ljava/lang/Object;" (.ref kd1) ∧ wl_1 = wl) ∨ (∃ b : Addr, v = some (.ref b) ∧ Fr n0 L ∧ Keep h0 h [] ∧ Exa Z h b "java/util/Optional" ∧ Fld Z h b "java/util/Optional" "value" "Ljava/lang/Object;" (.ref kd2) ∧ wl_2 = wl) ∨ (∃ b : Addr, v = some (.ref b) ∧ Fr n0 L ∧ Keep h0 h [] ∧ Exa Z h b "java/util/Optional" ∧ Fld Z h b "java/util/Optional" "value" "Ljava/lang/Object;" (.ref kd3) ∧ wl_3 = wl) ∨ (v = some (.ref em) ∧ Fr n0 L ∧ Keep h0 h [] ∧ wl_0 ≠ wl ∧ wl_1 ≠ wl ∧ wl_2 ≠ wl ∧ wl_3 ≠ wl))) X20 hx hby d5_44 rfl hret rfl hlk (by decide) (by decide) (Or.inr (Or.inr (Or.inr (Or.inl ⟨b20, rfl, N20, K20t, Ex20, Fv20, own_eqY hc36_17⟩))))
        · refine g_aload X12 hx hby d5_39 (pc' := 41) rfl rfl rfl ?_
          refine g_callS X12 hx hZ hown (W := 0) (argsL := [.ref kd2]) (rest := []) hby d5_41 (pc' := 44) rfl (by rw [hml]; rfl) (w_129 hw) (w_130 hw) (w_68 hw) (w_131 hw) (by decide) (rmOF l Z a0 hw [] kd2 T1.heap n0 Z1) e12 (by decide) (by decide) (by decide) (by decide) rfl pd__28Ljava_2flang_2fObject_3b_29Ljava_2futil_2fOptional_3b rfl rfl (Nat.le_of_eq rfl) ?_
          rintro _ T21 L21 X21 (⟨b21, rfl, N21q, K21, G21, Ex21, Fv21⟩)
          · have N21 := Fr.app N12 N21q
            have nb21_wd0 : wd0 ≠ b21 := Nat.ne_of_lt (Nat.lt_of_lt_of_le E1_wd0.lt G21)
            have nb21_wd1 : wd1 ≠ b21 := Nat.ne_of_lt (Nat.lt_of_lt_of_le E1_wd1.lt G21)
            have nb21_wd2 : wd2 ≠ b21 := Nat.ne_of_lt (Nat.lt_of_lt_of_le E1_wd2.lt G21)
            have nb21_wd3 : wd3 ≠ b21 := Nat.ne_of_lt (Nat.lt_of_lt_of_le E1_wd3.lt G21)
            have nb21_b1 : b1 ≠ b21 := Nat.ne_of_lt (Nat.lt_of_lt_of_le A1.lt G21)
            have O21 := O1.keep K21 all0
            have K21t := K1t.trans K21 all0
            have Z21 := Nat.le_trans Z1 K21.1
            have E21_wd0 := E1_wd0.keep K21
            have E21_wd1 := E1_wd1.keep K21
            have E21_wd2 := E1_wd2.keep K21
            have E21_wd3 := E1_wd3.keep K21
            have F21_kd0_word := F1_kd0_word.keep K21 nin0
            have F21_kd1_word := F1_kd1_word.keep K21 nin0
            have F21_kd2_word := F1_kd2_word.keep K21 nin0
            have F21_kd3_word := F1_kd3_word.keep K21 nin0
            have A21_b1 := A1.keep K21 nin0
            show GoE p e below _ (T21.setTop (mkF m 44 #[.val (.ref q1), .val (.ref b1), .val (.int (5 : Int32)), .val (.int (2 : Int32)), .val (.ref kd2)] [.ref b21]))
            exact g_retA (Q := (fun v h L => (∃ b : Addr, v = some (.ref b) ∧ Fr n0 L ∧ Keep h0 h [] ∧ Exa Z h b "java/util/Optional" ∧ Fld Z h b "java/util/Optional" "value" "Ljava/lang/Object;" (.ref kd0) ∧ wl_0 = wl) ∨ (∃ b : Addr, v = some (.ref b) ∧ Fr n0 L ∧ Keep h0 h [] ∧ Exa Z h b "java/util/Optional" ∧ Fld Z h b "java/util/Optional" "value" "Ljava/lang/Object;" (.ref kd1) ∧ wl_1 = wl) ∨ (∃ b : Addr, v = some (.ref b) ∧ Fr n0 L ∧ Keep h0 h [] ∧ Exa Z h b "java/util/Optional" ∧ Fld Z h b "java/util/Optional" "value" "Ljava/lang/Object;" (.ref kd2) ∧ wl_2 = wl) ∨ (∃ b : Addr, v = some (.ref b) ∧ Fr n0 L ∧ Keep h0 h [] ∧ Exa Z h b "java/util/Optional" ∧ Fld Z h b "java/util/Optional" "value" "Ljava/lang/Object;" (.ref kd3) ∧ wl_3 = wl) ∨ (v = some (.ref em) ∧ Fr n0 L ∧ Keep h0 h [] ∧ wl_0 ≠ wl ∧ wl_1 ≠ wl ∧ wl_2 ≠ wl ∧ wl_3 ≠ wl))) X21 hx hby d5_44 rfl hret rfl hlk (by decide) (by decide) (Or.inr (Or.inr (Or.inl ⟨b21, rfl, N21, K21t, Ex21, Fv21, own_eqY hc36_13⟩)))
      · refine g_aload X8 hx hby d5_39 (pc' := 41) rfl rfl rfl ?_
        refine g_callS X8 hx hZ hown (W := 0) (argsL := [.ref kd1]) (rest := []) hby d5_41 (pc' := 44) rfl (by rw [hml]; rfl) (w_129 hw) (w_130 hw) (w_68 hw) (w_131 hw) (by decide) (rmOF l Z a0 hw [] kd1 T1.heap n0 Z1) e8 (by decide) (by decide) (by decide) (by decide) rfl pd__28Ljava_2flang_2fObject_3b_29Ljava_2futil_2fOptional_3b rfl rfl (Nat.le_of_eq rfl) ?_
        rintro _ T22 L22 X22 (⟨b22, rfl, N22q, K22, G22, Ex22, Fv22⟩)
        · have N22 := Fr.app N8 N22q
          have nb22_wd0 : wd0 ≠ b22 := Nat.ne_of_lt (Nat.lt_of_lt_of_le E1_wd0.lt G22)
          have nb22_wd1 : wd1 ≠ b22 := Nat.ne_of_lt (Nat.lt_of_lt_of_le E1_wd1.lt G22)
          have nb22_wd2 : wd2 ≠ b22 := Nat.ne_of_lt (Nat.lt_of_lt_of_le E1_wd2.lt G22)
          have nb22_wd3 : wd3 ≠ b22 := Nat.ne_of_lt (Nat.lt_of_lt_of_le E1_wd3.lt G22)
          have nb22_b1 : b1 ≠ b22 := Nat.ne_of_lt (Nat.lt_of_lt_of_le A1.lt G22)
          have O22 := O1.keep K22 all0
          have K22t := K1t.trans K22 all0
          have Z22 := Nat.le_trans Z1 K22.1
          have E22_wd0 := E1_wd0.keep K22
          have E22_wd1 := E1_wd1.keep K22
          have E22_wd2 := E1_wd2.keep K22
          have E22_wd3 := E1_wd3.keep K22
          have F22_kd0_word := F1_kd0_word.keep K22 nin0
          have F22_kd1_word := F1_kd1_word.keep K22 nin0
          have F22_kd2_word := F1_kd2_word.keep K22 nin0
          have F22_kd3_word := F1_kd3_word.keep K22 nin0
          have A22_b1 := A1.keep K22 nin0
          show GoE p e below _ (T22.setTop (mkF m 44 #[.val (.ref q1), .val (.ref b1), .val (.int (5 : Int32)), .val (.int (1 : Int32)), .val (.ref kd1)] [.ref b22]))
          exact g_retA (Q := (fun v h L => (∃ b : Addr, v = some (.ref b) ∧ Fr n0 L ∧ Keep h0 h [] ∧ Exa Z h b "java/util/Optional" ∧ Fld Z h b "java/util/Optional" "value" "Ljava/lang/Object;" (.ref kd0) ∧ wl_0 = wl) ∨ (∃ b : Addr, v = some (.ref b) ∧ Fr n0 L ∧ Keep h0 h [] ∧ Exa Z h b "java/util/Optional" ∧ Fld Z h b "java/util/Optional" "value" "Ljava/lang/Object;" (.ref kd1) ∧ wl_1 = wl) ∨ (∃ b : Addr, v = some (.ref b) ∧ Fr n0 L ∧ Keep h0 h [] ∧ Exa Z h b "java/util/Optional" ∧ Fld Z h b "java/util/Optional" "value" "Ljava/lang/Object;" (.ref kd2) ∧ wl_2 = wl) ∨ (∃ b : Addr, v = some (.ref b) ∧ Fr n0 L ∧ Keep h0 h [] ∧ Exa Z h b "java/util/Optional" ∧ Fld Z h b "java/util/Optional" "value" "Ljava/lang/Object;" (.ref kd3) ∧ wl_3 = wl) ∨ (v = some (.ref em) ∧ Fr n0 L ∧ Keep h0 h [] ∧ wl_0 ≠ wl ∧ wl_1 ≠ wl ∧ wl_2 ≠ wl ∧ wl_3 ≠ wl))) X22 hx hby d5_44 rfl hret rfl hlk (by decide) (by decide) (Or.inr (Or.inl ⟨b22, rfl, N22, K22t, Ex22, Fv22, own_eqY hc36_9⟩))
    · refine g_aload X4 hx hby d5_39 (pc' := 41) rfl rfl rfl ?_
      refine g_callS X4 hx hZ hown (W := 0) (argsL := [.ref kd0]) (rest := []) hby d5_41 (pc' := 44) rfl (by rw [hml]; rfl) (w_129 hw) (w_130 hw) (w_68 hw) (w_131 hw) (by decide) (rmOF l Z a0 hw [] kd0 T1.heap n0 Z1) e4 (by decide) (by decide) (by decide) (by decide) rfl pd__28Ljava_2flang_2fObject_3b_29Ljava_2futil_2fOptional_3b rfl rfl (Nat.le_of_eq rfl) ?_
      rintro _ T23 L23 X23 (⟨b23, rfl, N23q, K23, G23, Ex23, Fv23⟩)
      · have N23 := Fr.app N4 N23q
        have nb23_wd0 : wd0 ≠ b23 := Nat.ne_of_lt (Nat.lt_of_lt_of_le E1_wd0.lt G23)
        have nb23_wd1 : wd1 ≠ b23 := Nat.ne_of_lt (Nat.lt_of_lt_of_le E1_wd1.lt G23)
        have nb23_wd2 : wd2 ≠ b23 := Nat.ne_of_lt (Nat.lt_of_lt_of_le E1_wd2.lt G23)
        have nb23_wd3 : wd3 ≠ b23 := Nat.ne_of_lt (Nat.lt_of_lt_of_le E1_wd3.lt G23)
        have nb23_b1 : b1 ≠ b23 := Nat.ne_of_lt (Nat.lt_of_lt_of_le A1.lt G23)
        have O23 := O1.keep K23 all0
        have K23t := K1t.trans K23 all0
        have Z23 := Nat.le_trans Z1 K23.1
        have E23_wd0 := E1_wd0.keep K23
        have E23_wd1 := E1_wd1.keep K23
        have E23_wd2 := E1_wd2.keep K23
        have E23_wd3 := E1_wd3.keep K23
        have F23_kd0_word := F1_kd0_word.keep K23 nin0
        have F23_kd1_word := F1_kd1_word.keep K23 nin0
        have F23_kd2_word := F1_kd2_word.keep K23 nin0
        have F23_kd3_word := F1_kd3_word.keep K23 nin0
        have A23_b1 := A1.keep K23 nin0
        show GoE p e below _ (T23.setTop (mkF m 44 #[.val (.ref q1), .val (.ref b1), .val (.int (5 : Int32)), .val (.int (0 : Int32)), .val (.ref kd0)] [.ref b23]))
        exact g_retA (Q := (fun v h L => (∃ b : Addr, v = some (.ref b) ∧ Fr n0 L ∧ Keep h0 h [] ∧ Exa Z h b "java/util/Optional" ∧ Fld Z h b "java/util/Optional" "value" "Ljava/lang/Object;" (.ref kd0) ∧ wl_0 = wl) ∨ (∃ b : Addr, v = some (.ref b) ∧ Fr n0 L ∧ Keep h0 h [] ∧ Exa Z h b "java/util/Optional" ∧ Fld Z h b "java/util/Optional" "value" "Ljava/lang/Object;" (.ref kd1) ∧ wl_1 = wl) ∨ (∃ b : Addr, v = some (.ref b) ∧ Fr n0 L ∧ Keep h0 h [] ∧ Exa Z h b "java/util/Optional" ∧ Fld Z h b "java/util/Optional" "value" "Ljava/lang/Object;" (.ref kd2) ∧ wl_2 = wl) ∨ (∃ b : Addr, v = some (.ref b) ∧ Fr n0 L ∧ Keep h0 h [] ∧ Exa Z h b "java/util/Optional" ∧ Fld Z h b "java/util/Optional" "value" "Ljava/lang/Object;" (.ref kd3) ∧ wl_3 = wl) ∨ (v = some (.ref em) ∧ Fr n0 L ∧ Keep h0 h [] ∧ wl_0 ≠ wl ∧ wl_1 ≠ wl ∧ wl_2 ≠ wl ∧ wl_3 ≠ wl))) X23 hx hby d5_44 rfl hret rfl hlk (by decide) (by decide) (Or.inl ⟨b23, rfl, N23, K23t, Ex23, Fv23, own_eqY hc36_5⟩)
theorem ef_rmEX (q1 : Addr) (m : MethodId) : entryFrame m #[.ref q1] 1 = mkF m 0 #[.val (.ref q1)] [] := by
  first | (simp [entryFrame, mkF, argsToLocals, Value.category]; done) | rfl
theorem pn_rmEX : plainName "com/example/phaseline/phaseline/game/KindNamedPinLaw" = true := by first | (simp [plainName, overriddenIn]; done) | decide +kernel
set_option maxRecDepth 65536 in
set_option maxHeartbeats 40000000 in
theorem rmEX (l : Launch) (Z : State) (a0 : Array Value) (hw : ∀ d ∈ tables_1, d.before a0 Z = true) (ws : List Jvm.Cond) (q1 : Addr) (h0 : Heap) (n0 : Nat) (kd0 kd1 kd2 kd3 kd4 wd0 wd1 wd2 wd3 bV em : Addr) (kV : ClassId) (hK : KSt Z kd0 kd1 kd2 kd3 kd4 wd0 wd1 wd2 wd3 bV em kV) (wl : List Int32) (T_w : Txt Z h0 q1 wl) (Z0 : n0 ≤ h0.size) (cs : Int32) (fm : Value) (SS : SSt Z cs fm) (O0 : Old Z n0 h0) :
    CtrH ELs l Z ({ cls := "com/example/phaseline/phaseline/game/KindNamedPinLaw", name := "expected", desc := "(Ljava/lang/String;)Lcom/example/phaseline/phaseline/game/Kind;" } : Jvm.MethodName) method_3_code 1 (some (.object "com/example/phaseline/phaseline/game/Kind")) ws ({ frames := 2, cells := 8, slots := 96, locals := 28 } : Room) #[.ref q1] h0 (fun v h L => (v = some (.ref kd0) ∧ Fr n0 L ∧ Keep h0 h [] ∧ wl = wl_0) ∨ (v = some (.ref kd1) ∧ Fr n0 L ∧ Keep h0 h [] ∧ wl = wl_1) ∨ (v = some (.ref kd2) ∧ Fr n0 L ∧ Keep h0 h [] ∧ wl = wl_2) ∨ (v = some (.ref kd3) ∧ Fr n0 L ∧ Keep h0 h [] ∧ wl = wl_3) ∨ (v = some (.null) ∧ Fr n0 L ∧ Keep h0 h [] ∧ wl ≠ wl_0 ∧ wl ≠ wl_1 ∧ wl ≠ wl_2 ∧ wl ≠ wl_3)) := by
  refine CtrH.enter (Ls := #[.val (.ref q1)]) (plainFor_of_name pn_rmEX) (fun m => ef_rmEX q1 m) ?_
  intro p e s m below meth c T hx hby hml hown hnm hret hlk hZ hh X0 e0 hS0 C0h
  have N0 := Fr.nil n0
  have hK' := hK
  obtain ⟨yS0, yS1, yS2, yS3, yS4, ySV, yAV, yEV, yF0, yF1, yF2, yF3, yT0, yT1, yT2, yT3, yE0, yE1, yE2, yE3, y04, y14, y24, y34, ySE, yFE, yEE⟩ := hK'
  refine g_aloadN X0 hx hby d11_0 (pc' := 1) rfl rfl rfl ?_
  refine g_ldcH X0 hx hZ hown 16 [.int (115 : Int32), .int (105 : Int32), .int (100 : Int32), .int (101 : Int32)] (4 : Int32) hby d11_1 (pc' := 3) rfl (w_1 hw) (own_str hw) e0 hS0 (Nat.le_refl h0.size) (own_EL hw) (List.mem_of_getElem? (i := 0) rfl) C0h.1 (by decide) (by decide) (by decide) (by decide) (by decide) (by decide) (by decide) ?_
  intro b1 T1 k1 v1 c1 X1 E1 hS1 hk1 hZ1 hown1 Ex1 Fc1 Fv1 Av1 C1h sn1
  have C1c := C0h.trans C1h
  have O1o := O0.ext E1
  have K1 := (Keep.refl h0 []).ext E1
  have Z1 := Nat.le_trans Z0 E1.1
  have E1_q1 := T_w.1.ext E1
  have Y1 := Nat.le_trans (Nat.le_refl h0.size) E1.1
  have Tx2 : Txt Z T1.heap b1 wl_0 := ⟨Ex1, by decide, v1, _, Fv1, Fc1, Av1⟩
  refine g_callV X1 hx hZ1 hown1 (W := 0) (argsL := [.ref b1]) (b := q1) (rest := []) hby d11_3 (pc' := 6) rfl (by rw [hml]; rfl) (w_81 hw) (w_56 hw) (w_58 hw) (notFace_of_selects (args := #[]) (mvT hZ1 (w_58 hw))) (w_57 hw) (w_2 hw) (w_59 hw) (by decide) (rmEQ l Z a0 hw [] q1 b1 T1.heap n0 wl wl_0 (T_w.keep0 K1) Tx2 (fun q => Or.inl q) cs fm SS O1o) rfl E1_q1 (by decide) (by decide) (by decide) (by decide) rfl pd__28Ljava_2flang_2fObject_3b_29Z rfl rfl (Nat.le_of_eq rfl) ?_
  rintro _ T3 L3 X3 ⟨rfl, N3q, e3⟩
  have N3 := Fr.app N0 N3q
  show GoE p e below _ (T3.setTop (mkF m 6 #[.val (.ref q1)] [.int (eqT wl wl_0)]))
  refine g_if_eq X3 hx hby d11_6 (by decide) (pc' := 13) (by decide) (pn := 9) rfl (fun hc6_4 => ?_) (fun hc6_4 => ?_)
  · refine g_aloadN X3 hx hby d11_13 (pc' := 14) rfl rfl rfl ?_
    refine g_ldcH X3 hx hZ1 hown1 24 [.int (110 : Int32), .int (117 : Int32), .int (109 : Int32), .int (98 : Int32), .int (101 : Int32), .int (114 : Int32)] (6 : Int32) hby d11_14 (pc' := 16) rfl (w_82 hw) (own_str hw) e3 hS1 hk1 (own_EL hw) (List.mem_of_getElem? (i := 1) rfl) C1c.1 (by decide) (by decide) (by decide) (by decide) (by decide) (by decide) (by decide) ?_
    intro b5 T5 k5 v5 c5 X5 E5 hS5 hk5 hZ5 hown5 Ex5 Fc5 Fv5 Av5 C5h sn5
    have C5c := C1c.trans C5h
    have O5o := O1o.ext E5
    have K5 := K1.ext E5
    have Z5 := Nat.le_trans Z1 E5.1
    have E5_q1 := E1_q1.ext E5
    have Y5 := Nat.le_trans hk1 E5.1
    have X5t_b1 := Tx2.ext E5
    have Tx6 : Txt Z T5.heap b5 wl_1 := ⟨Ex5, by decide, v5, _, Fv5, Fc5, Av5⟩
    refine g_callV X5 hx hZ5 hown5 (W := 0) (argsL := [.ref b5]) (b := q1) (rest := []) hby d11_16 (pc' := 19) rfl (by rw [hml]; rfl) (w_81 hw) (w_56 hw) (w_58 hw) (notFace_of_selects (args := #[]) (mvT hZ5 (w_58 hw))) (w_57 hw) (w_2 hw) (w_59 hw) (by decide) (rmEQ l Z a0 hw [] q1 b5 T5.heap n0 wl wl_1 (T_w.keep0 K5) Tx6 (fun q => Or.inr q) cs fm SS O5o) rfl E5_q1 (by decide) (by decide) (by decide) (by decide) rfl pd__28Ljava_2flang_2fObject_3b_29Z rfl rfl (Nat.le_of_eq rfl) ?_
    rintro _ T7 L7 X7 ⟨rfl, N7q, e7⟩
    have N7 := Fr.app N3 N7q
    show GoE p e below _ (T7.setTop (mkF m 19 #[.val (.ref q1)] [.int (eqT wl wl_1)]))
    refine g_if_eq X7 hx hby d11_19 (by decide) (pc' := 26) (by decide) (pn := 22) rfl (fun hc19_8 => ?_) (fun hc19_8 => ?_)
    · refine g_aloadN X7 hx hby d11_26 (pc' := 27) rfl rfl rfl ?_
      refine g_ldcH X7 hx hZ5 hown5 16 [.int (116 : Int32), .int (101 : Int32), .int (120 : Int32), .int (116 : Int32)] (4 : Int32) hby d11_27 (pc' := 29) rfl (w_83 hw) (own_str hw) e7 hS5 hk5 (own_EL hw) (List.mem_of_getElem? (i := 2) rfl) C5c.1 (by decide) (by decide) (by decide) (by decide) (by decide) (by decide) (by decide) ?_
      intro b9 T9 k9 v9 c9 X9 E9 hS9 hk9 hZ9 hown9 Ex9 Fc9 Fv9 Av9 C9h sn9
      have C9c := C5c.trans C9h
      have O9o := O5o.ext E9
      have K9 := K5.ext E9
      have Z9 := Nat.le_trans Z5 E9.1
      have E9_q1 := E5_q1.ext E9
      have Y9 := Nat.le_trans hk5 E9.1
      have X9t_b1 := X5t_b1.ext E9
      have X9t_b5 := Tx6.ext E9
      have Tx10 : Txt Z T9.heap b9 wl_2 := ⟨Ex9, by decide, v9, _, Fv9, Fc9, Av9⟩
      refine g_callV X9 hx hZ9 hown9 (W := 0) (argsL := [.ref b9]) (b := q1) (rest := []) hby d11_29 (pc' := 32) rfl (by rw [hml]; rfl) (w_81 hw) (w_56 hw) (w_58 hw) (notFace_of_selects (args := #[]) (mvT hZ9 (w_58 hw))) (w_57 hw) (w_2 hw) (w_59 hw) (by decide) (rmEQ l Z a0 hw [] q1 b9 T9.heap n0 wl wl_2 (T_w.keep0 K9) Tx10 (fun q => Or.inl q) cs fm SS O9o) rfl E9_q1 (by decide) (by decide) (by decide) (by decide) rfl pd__28Ljava_2flang_2fObject_3b_29Z rfl rfl (Nat.le_of_eq rfl) ?_
      rintro _ T11 L11 X11 ⟨rfl, N11q, e11⟩
      have N11 := Fr.app N7 N11q
      show GoE p e below _ (T11.setTop (mkF m 32 #[.val (.ref q1)] [.int (eqT wl wl_2)]))
      refine g_if_eq X11 hx hby d11_32 (by decide) (pc' := 39) (by decide) (pn := 35) rfl (fun hc32_12 => ?_) (fun hc32_12 => ?_)
      · refine g_aloadN X11 hx hby d11_39 (pc' := 40) rfl rfl rfl ?_
        refine g_ldcH X11 hx hZ9 hown9 24 [.int (121 : Int32), .int (101 : Int32), .int (115 : Int32), .int (45 : Int32), .int (110 : Int32), .int (111 : Int32)] (6 : Int32) hby d11_40 (pc' := 42) rfl (w_84 hw) (own_str hw) e11 hS9 hk9 (own_EL hw) (List.mem_of_getElem? (i := 3) rfl) C9c.1 (by decide) (by decide) (by decide) (by decide) (by decide) (by decide) (by decide) ?_
        intro b13 T13 k13 v13 c13 X13 E13 hS13 hk13 hZ13 hown13 Ex13 Fc13 Fv13 Av13 C13h sn13
        have C13c := C9c.trans C13h
        have O13o := O9o.ext E13
        have K13 := K9.ext E13
        have Z13 := Nat.le_trans Z9 E13.1
        have E13_q1 := E9_q1.ext E13
        have Y13 := Nat.le_trans hk9 E13.1
        have X13t_b1 := X9t_b1.ext E13
        have X13t_b5 := X9t_b5.ext E13
        have X13t_b9 := Tx10.ext E13
        have Tx14 : Txt Z T13.heap b13 wl_3 := ⟨Ex13, by decide, v13, _, Fv13, Fc13, Av13⟩
        refine g_callV X13 hx hZ13 hown13 (W := 0) (argsL := [.ref b13]) (b := q1) (rest := []) hby d11_42 (pc' := 45) rfl (by rw [hml]; rfl) (w_81 hw) (w_56 hw) (w_58 hw) (notFace_of_selects (args := #[]) (mvT hZ13 (w_58 hw))) (w_57 hw) (w_2 hw) (w_59 hw) (by decide) (rmEQ l Z a0 hw [] q1 b13 T13.heap n0 wl wl_3 (T_w.keep0 K13) Tx14 (fun q => Or.inr q) cs fm SS O13o) rfl E13_q1 (by decide) (by decide) (by decide) (by decide) rfl pd__28Ljava_2flang_2fObject_3b_29Z rfl rfl (Nat.le_of_eq rfl) ?_
        rintro _ T15 L15 X15 ⟨rfl, N15q, e15⟩
        have N15 := Fr.app N11 N15q
        show GoE p e below _ (T15.setTop (mkF m 45 #[.val (.ref q1)] [.int (eqT wl wl_3)]))
        refine g_if_eq X15 hx hby d11_45 (by decide) (pc' := 52) (by decide) (pn := 48) rfl (fun hc45_16 => ?_) (fun hc45_16 => ?_)
        · refine g_aconstNull X15 hx hby d11_52 (pc' := 53) rfl ?_
          refine GoH.of_go (a0 := a0) (fun v h L => (v = some (.ref kd0) ∧ Fr n0 L ∧ Keep h0 h [] ∧ wl = wl_0) ∨ (v = some (.ref kd1) ∧ Fr n0 L ∧ Keep h0 h [] ∧ wl = wl_1) ∨ (v = some (.ref kd2) ∧ Fr n0 L ∧ Keep h0 h [] ∧ wl = wl_2) ∨ (v = some (.ref kd3) ∧ Fr n0 L ∧ Keep h0 h [] ∧ wl = wl_3) ∨ (v = some (.null) ∧ Fr n0 L ∧ Keep h0 h [] ∧ wl ≠ wl_0 ∧ wl ≠ wl_1 ∧ wl ≠ wl_2 ∧ wl ≠ wl_3)) hS13 hZ13 (own_EL hw) ?_
          exact g_retA (Q := _) X15 hx hby d11_53 rfl hret rfl hlk (by decide) (by decide) (by rw [e15]; exact ⟨(Or.inr (Or.inr (Or.inr (Or.inr ⟨rfl, N15, K13, own_eqN hc6_4, own_eqN hc19_8, own_eqN hc32_12, own_eqN hc45_16⟩)))), hk13, C13c⟩)
        · refine g_getS X15 hx hZ13 hown13 hby d11_48 (pc' := 51) rfl (w_145 hw) e15 (yS3.ext O13o.2) ?_
          intro T17 X17 e17
          refine GoH.of_go (a0 := a0) (fun v h L => (v = some (.ref kd0) ∧ Fr n0 L ∧ Keep h0 h [] ∧ wl = wl_0) ∨ (v = some (.ref kd1) ∧ Fr n0 L ∧ Keep h0 h [] ∧ wl = wl_1) ∨ (v = some (.ref kd2) ∧ Fr n0 L ∧ Keep h0 h [] ∧ wl = wl_2) ∨ (v = some (.ref kd3) ∧ Fr n0 L ∧ Keep h0 h [] ∧ wl = wl_3) ∨ (v = some (.null) ∧ Fr n0 L ∧ Keep h0 h [] ∧ wl ≠ wl_0 ∧ wl ≠ wl_1 ∧ wl ≠ wl_2 ∧ wl ≠ wl_3)) hS13 hZ13 (own_EL hw) ?_
          exact g_retA (Q := _) X17 hx hby d11_51 rfl hret rfl hlk (by decide) (by decide) (by rw [e17]; exact ⟨(Or.inr (Or.inr (Or.inr (Or.inl ⟨rfl, N15, K13, own_eqY hc45_16⟩)))), hk13, C13c⟩)
      · refine g_getS X11 hx hZ9 hown9 hby d11_35 (pc' := 38) rfl (w_146 hw) e11 (yS2.ext O9o.2) ?_
        intro T18 X18 e18
        refine GoH.of_go (a0 := a0) (fun v h L => (v = some (.ref kd0) ∧ Fr n0 L ∧ Keep h0 h [] ∧ wl = wl_0) ∨ (v = some (.ref kd1) ∧ Fr n0 L ∧ Keep h0 h [] ∧ wl = wl_1) ∨ (v = some (.ref kd2) ∧ Fr n0 L ∧ Keep h0 h [] ∧ wl = wl_2) ∨ (v = some (.ref kd3) ∧ Fr n0 L ∧ Keep h0 h [] ∧ wl = wl_3) ∨ (v = some (.null) ∧ Fr n0 L ∧ Keep h0 h [] ∧ wl ≠ wl_0 ∧ wl ≠ wl_1 ∧ wl ≠ wl_2 ∧ wl ≠ wl_3)) hS9 hZ9 (own_EL hw) ?_
        exact g_retA (Q := _) X18 hx hby d11_38 rfl hret rfl hlk (by decide) (by decide) (by rw [e18]; exact ⟨(Or.inr (Or.inr (Or.inl ⟨rfl, N11, K9, own_eqY hc32_12⟩))), hk9, C9c⟩)
    · refine g_getS X7 hx hZ5 hown5 hby d11_22 (pc' := 25) rfl (w_148 hw) e7 (yS1.ext O5o.2) ?_
      intro T19 X19 e19
      refine GoH.of_go (a0 := a0) (fun v h L => (v = some (.ref kd0) ∧ Fr n0 L ∧ Keep h0 h [] ∧ wl = wl_0) ∨ (v = some (.ref kd1) ∧ Fr n0 L ∧ Keep h0 h [] ∧ wl = wl_1) ∨ (v = some (.ref kd2) ∧ Fr n0 L ∧ Keep h0 h [] ∧ wl = wl_2) ∨ (v = some (.ref kd3) ∧ Fr n0 L ∧ Keep h0 h [] ∧ wl = wl_3) ∨ (v = some (.null) ∧ Fr n0 L ∧ Keep h0 h [] ∧ wl ≠ wl_0 ∧ wl ≠ wl_1 ∧ wl ≠ wl_2 ∧ wl ≠ wl_3)) hS5 hZ5 (own_EL hw) ?_
      exact g_retA (Q := _) X19 hx hby d11_25 rfl hret rfl hlk (by decide) (by decide) (by rw [e19]; exact ⟨(Or.inr (Or.inl ⟨rfl, N7, K5, own_eqY hc19_8⟩)), hk5, C5c⟩)
  · refine g_getS X3 hx hZ1 hown1 hby d11_9 (pc' := 12) rfl (w_149 hw) e3 (yS0.ext O1o.2) ?_
    intro T20 X20 e20
    refine GoH.of_go (a0 := a0) (fun v h L => (v = some (.ref kd0) ∧ Fr n0 L ∧ Keep h0 h [] ∧ wl = wl_0) ∨ (v = some (.ref kd1) ∧ Fr n0 L ∧ Keep h0 h [] ∧ wl = wl_1) ∨ (v = some (.ref kd2) ∧ Fr n0 L ∧ Keep h0 h [] ∧ wl = wl_2) ∨ (v = some (.ref kd3) ∧ Fr n0 L ∧ Keep h0 h [] ∧ wl = wl_3) ∨ (v = some (.null) ∧ Fr n0 L ∧ Keep h0 h [] ∧ wl ≠ wl_0 ∧ wl ≠ wl_1 ∧ wl ≠ wl_2 ∧ wl ≠ wl_3)) hS1 hZ1 (own_EL hw) ?_
    exact g_retA (Q := _) X20 hx hby d11_12 rfl hret rfl hlk (by decide) (by decide) (by rw [e20]; exact ⟨(Or.inl ⟨rfl, N3, K1, own_eqY hc6_4⟩), hk1, C1c⟩)
set_option maxRecDepth 65536 in
set_option maxHeartbeats 40000000 in
theorem tail0 (l : Launch) (Z : State) (a0 : Array Value) (hw : ∀ d ∈ tables_1, d.before a0 Z = true) (q1 q2 q3 q4 q5 : Int32) (n0 : Nat) (kd0 kd1 kd2 kd3 kd4 wd0 wd1 wd2 wd3 bV em : Addr) (kV : ClassId) (hK : KSt Z kd0 kd1 kd2 kd3 kd4 wd0 wd1 wd2 wd3 bV em kV) (cs : Int32) (fm : Value) (SS : SSt Z cs fm) {p : Program} {e : Env} {s : State} {m : MethodId} {below : List Frame} {meth : Method} {c : Code} {T : State} {vm0 : Vm} {Lc : List Loc} {k0 : Nat} (u5 u7 u8 u9 : Int32) (ba wa : Addr) (wl : List Int32) (hx : p.tables.exec = Jvm.exec) (hby : c.code = code) (hml : c.maxLocals = maxLocals) (hret : meth.sig.returnType = ret) (hlk : meth.locks = false) (hZ : Z.Warmed39 (s.setVm vm0).vm) (hown : (s.setVm vm0).vm.findClass x.cls = some m.cls) (X : Stand p l e room_1 (s.setVm vm0) m #[.int q1, .int q2, .int q3, .int q4, .int q5] below meth c T Lc 8 46) (N : Fr n0 Lc) (hS0 : s.Since vm0 k0) (hk0 : k0 ≤ T.heap.size) (C0h : CHr Z ELs s.vm s.heap vm0 T.heap) (Z0 : n0 ≤ T.heap.size) (O0 : Old Z n0 T.heap) (T_w : Txt Z T.heap wa wl) :
    GoH Z ELs p e below s room_1.cells room_1.slots (fun v h L => v = some (.int 1) ∧ Fr n0 L) (T.setTop (mkF m 111 #[.val (.int q1), .val (.int q2), .val (.int q3), .val (.int q4), .val (.int q5), .val (.int u5), .val (.ref ba), .val (.int u7), .val (.int u8), .val (.int u9), .val (.ref wa), .unset] [])) := by
  have hK' := hK
  obtain ⟨yS0, yS1, yS2, yS3, yS4, ySV, yAV, yEV, yF0, yF1, yF2, yF3, yT0, yT1, yT2, yT3, yE0, yE1, yE2, yE3, y04, y14, y24, y34, ySE, yFE, yEE⟩ := hK'
  refine g_aload X hx hby at_111 (pc' := 113) rfl rfl rfl ?_
  refine g_callS X hx hZ hown (W := 0) (argsL := [.ref wa]) (rest := []) hby at_113 (pc' := 116) rfl (by rw [hml]; rfl) (w_28 hw) (w_29 hw) (w_30 hw) (w_31 hw) (by decide) (rmNA l Z a0 hw [] wa T.heap n0 kd0 kd1 kd2 kd3 kd4 wd0 wd1 wd2 wd3 bV em kV hK wl T_w Z0 cs fm SS O0) rfl (by decide) (by decide) (by decide) (by decide) rfl pd__28Ljava_2flang_2fString_3b_29Ljava_2futil_2fOptional_3b rfl rfl (Nat.le_of_eq rfl) ?_
  rintro _ T1 L1 X1 (⟨b1, rfl, N1q, K1, Ex1, Fv1, hn1⟩ | ⟨b1, rfl, N1q, K1, Ex1, Fv1, hn1⟩ | ⟨b1, rfl, N1q, K1, Ex1, Fv1, hn1⟩ | ⟨b1, rfl, N1q, K1, Ex1, Fv1, hn1⟩ | ⟨rfl, N1q, K1, hn1_0, hn1_1, hn1_2, hn1_3⟩)
  · have N1 := Fr.app N N1q
    have C1h := CHr.keep K1 all0 C0h.1
    have C1c := C0h.trans C1h
    have O1 := O0.keep K1 all0
    have Z1 := Nat.le_trans Z0 K1.1
    have Y1 := Nat.le_trans hk0 K1.1
    have X1t_wa := T_w.keep0 K1
    have Ek1 : Exa Z T1.heap kd0 "com/example/phaseline/phaseline/game/Kind" := yE0.ext O1.2
    show GoE p e below _ (T1.setTop (mkF m 116 #[.val (.int q1), .val (.int q2), .val (.int q3), .val (.int q4), .val (.int q5), .val (.int u5), .val (.ref ba), .val (.int u7), .val (.int u8), .val (.int u9), .val (.ref wa), .unset] [.ref b1]))
    refine g_aconstNull X1 hx hby at_116 (pc' := 117) rfl ?_
    refine g_callV X1 hx hZ hown (W := 0) (argsL := [.null]) (b := b1) (rest := []) hby at_117 (pc' := 120) rfl (by rw [hml]; rfl) (w_71 hw) (w_72 hw) (w_74 hw) (notFace_of_selects (args := #[]) (mvT hZ (w_74 hw))) (w_73 hw) (w_68 hw) (w_75 hw) (by decide) (rmOE l Z a0 hw [] b1 T1.heap n0 kd0 Fv1) rfl Ex1 (by decide) (by decide) (by decide) (by decide) rfl pd__28Ljava_2flang_2fObject_3b_29Ljava_2flang_2fObject_3b rfl rfl (Nat.le_of_eq rfl) ?_
    rintro _ T2 L2 X2 ⟨rfl, N2q, e2⟩
    have N2 := Fr.app N1 N2q
    show GoE p e below _ (T2.setTop (mkF m 120 #[.val (.int q1), .val (.int q2), .val (.int q3), .val (.int q4), .val (.int q5), .val (.int u5), .val (.ref ba), .val (.int u7), .val (.int u8), .val (.int u9), .val (.ref wa), .unset] [.ref kd0]))
    refine g_castY X2 hx hZ hown hby at_120 (pc' := 123) rfl (w_143 hw) e2 (Ins.self Ek1) ?_
    intro T3 X3 e3
    refine g_astore X3 hx hby at_123 (pc' := 125) rfl rfl (l' := #[.val (.int q1), .val (.int q2), .val (.int q3), .val (.int q4), .val (.int q5), .val (.int u5), .val (.ref ba), .val (.int u7), .val (.int u8), .val (.int u9), .val (.ref wa), .val (.ref kd0)]) rfl ?_
    refine g_aload X3 hx hby at_125 (pc' := 127) rfl rfl rfl ?_
    refine g_aload X3 hx hby at_127 (pc' := 129) rfl rfl rfl ?_
    refine g_callSH X3 hx hZ hown (W := 1) (argsL := [.ref wa]) (rest := [.ref kd0]) hby at_129 (pc' := 132) rfl (by rw [hml]; rfl) (w_78 hw) (w_79 hw) (w_11 hw) (w_80 hw) (by decide) (rmEX l Z a0 hw [] wa T1.heap n0 kd0 kd1 kd2 kd3 kd4 wd0 wd1 wd2 wd3 bV em kV hK wl X1t_wa Z1 cs fm SS O1) e3 hS0 Y1 (own_EL hw) C1c.1 (by decide) (by decide) (by decide) (by decide) rfl pd__28Ljava_2flang_2fString_3b_29Lcom_2fexample_2fphaseline_2fphaseline_2fgame_2fKind_3b rfl rfl (Nat.le_of_eq rfl) ?_
    rintro _ T4 L4 X4 (⟨rfl, N4q, K4, hm4⟩ | ⟨rfl, N4q, K4, hm4⟩ | ⟨rfl, N4q, K4, hm4⟩ | ⟨rfl, N4q, K4, hm4⟩ | ⟨rfl, N4q, K4, hm4_0, hm4_1, hm4_2, hm4_3⟩) hS4 hZ4 hown4 C4h
    · have N4 := Fr.app N2 N4q
      have C4c := C1c.trans C4h
      have O4 := O1.keep K4 all0
      have Z4 := Nat.le_trans Z1 K4.1
      have Y4 := Nat.le_trans Y1 K4.1
      have X4t_wa := X1t_wa.keep0 K4
      have E4_b1 := Ex1.keep K4
      have F4_b1_value := Fv1.keep K4 nin0
      have E4_kd0 := Ek1.keep K4
      show GoE p e below _ (T4.setTop (mkF m 132 #[.val (.int q1), .val (.int q2), .val (.int q3), .val (.int q4), .val (.int q5), .val (.int u5), .val (.ref ba), .val (.int u7), .val (.int u8), .val (.int u9), .val (.ref wa), .val (.ref kd0)] [.ref kd0, .ref kd0]))
      refine g_acmp_no X4 hx hby at_132 (pn := 135) rfl rfl rfl (by simp [Jvm.Free.XT.acmp]) ?_
      refine g_iconst X4 hx hby at_135 (pc' := 136) rfl (z := (1 : Int32)) rfl ?_
      refine g_goto X4 hx hby at_136 (by decide) (pc' := 140) (by decide) ?_
      refine GoH.of_go (a0 := a0) (fun v h L => v = some (.int 1) ∧ Fr n0 L) hS4 hZ4 (own_EL hw) ?_
      exact g_retN (Q := _) (w := (1 : Int32)) X4 hx hby at_140 hret (by simp) (by first | decide | rfl) hlk (by decide) (by decide) ⟨⟨rfl, N4⟩, (Nat.le_refl T4.heap.size), C4c⟩
    · exact absurd (hn1.trans hm4) (by decide)
    · exact absurd (hn1.trans hm4) (by decide)
    · exact absurd (hn1.trans hm4) (by decide)
    · exact absurd hn1.symm hm4_0
  · have N1 := Fr.app N N1q
    have C1h := CHr.keep K1 all0 C0h.1
    have C1c := C0h.trans C1h
    have O1 := O0.keep K1 all0
    have Z1 := Nat.le_trans Z0 K1.1
    have Y1 := Nat.le_trans hk0 K1.1
    have X1t_wa := T_w.keep0 K1
    have Ek1 : Exa Z T1.heap kd1 "com/example/phaseline/phaseline/game/Kind" := yE1.ext O1.2
    show GoE p e below _ (T1.setTop (mkF m 116 #[.val (.int q1), .val (.int q2), .val (.int q3), .val (.int q4), .val (.int q5), .val (.int u5), .val (.ref ba), .val (.int u7), .val (.int u8), .val (.int u9), .val (.ref wa), .unset] [.ref b1]))
    refine g_aconstNull X1 hx hby at_116 (pc' := 117) rfl ?_
    refine g_callV X1 hx hZ hown (W := 0) (argsL := [.null]) (b := b1) (rest := []) hby at_117 (pc' := 120) rfl (by rw [hml]; rfl) (w_71 hw) (w_72 hw) (w_74 hw) (notFace_of_selects (args := #[]) (mvT hZ (w_74 hw))) (w_73 hw) (w_68 hw) (w_75 hw) (by decide) (rmOE l Z a0 hw [] b1 T1.heap n0 kd1 Fv1) rfl Ex1 (by decide) (by decide) (by decide) (by decide) rfl pd__28Ljava_2flang_2fObject_3b_29Ljava_2flang_2fObject_3b rfl rfl (Nat.le_of_eq rfl) ?_
    rintro _ T5 L5 X5 ⟨rfl, N5q, e5⟩
    have N5 := Fr.app N1 N5q
    show GoE p e below _ (T5.setTop (mkF m 120 #[.val (.int q1), .val (.int q2), .val (.int q3), .val (.int q4), .val (.int q5), .val (.int u5), .val (.ref ba), .val (.int u7), .val (.int u8), .val (.int u9), .val (.ref wa), .unset] [.ref kd1]))
    refine g_castY X5 hx hZ hown hby at_120 (pc' := 123) rfl (w_143 hw) e5 (Ins.self Ek1) ?_
    intro T6 X6 e6
    refine g_astore X6 hx hby at_123 (pc' := 125) rfl rfl (l' := #[.val (.int q1), .val (.int q2), .val (.int q3), .val (.int q4), .val (.int q5), .val (.int u5), .val (.ref ba), .val (.int u7), .val (.int u8), .val (.int u9), .val (.ref wa), .val (.ref kd1)]) rfl ?_
    refine g_aload X6 hx hby at_125 (pc' := 127) rfl rfl rfl ?_
    refine g_aload X6 hx hby at_127 (pc' := 129) rfl rfl rfl ?_
    refine g_callSH X6 hx hZ hown (W := 1) (argsL := [.ref wa]) (rest := [.ref kd1]) hby at_129 (pc' := 132) rfl (by rw [hml]; rfl) (w_78 hw) (w_79 hw) (w_11 hw) (w_80 hw) (by decide) (rmEX l Z a0 hw [] wa T1.heap n0 kd0 kd1 kd2 kd3 kd4 wd0 wd1 wd2 wd3 bV em kV hK wl X1t_wa Z1 cs fm SS O1) e6 hS0 Y1 (own_EL hw) C1c.1 (by decide) (by decide) (by decide) (by decide) rfl pd__28Ljava_2flang_2fString_3b_29Lcom_2fexample_2fphaseline_2fphaseline_2fgame_2fKind_3b rfl rfl (Nat.le_of_eq rfl) ?_
    rintro _ T7 L7 X7 (⟨rfl, N7q, K7, hm7⟩ | ⟨rfl, N7q, K7, hm7⟩ | ⟨rfl, N7q, K7, hm7⟩ | ⟨rfl, N7q, K7, hm7⟩ | ⟨rfl, N7q, K7, hm7_0, hm7_1, hm7_2, hm7_3⟩) hS7 hZ7 hown7 C7h
    · exact absurd (hn1.trans hm7) (by decide)
    · have N7 := Fr.app N5 N7q
      have C7c := C1c.trans C7h
      have O7 := O1.keep K7 all0
      have Z7 := Nat.le_trans Z1 K7.1
      have Y7 := Nat.le_trans Y1 K7.1
      have X7t_wa := X1t_wa.keep0 K7
      have E7_b1 := Ex1.keep K7
      have F7_b1_value := Fv1.keep K7 nin0
      have E7_kd1 := Ek1.keep K7
      show GoE p e below _ (T7.setTop (mkF m 132 #[.val (.int q1), .val (.int q2), .val (.int q3), .val (.int q4), .val (.int q5), .val (.int u5), .val (.ref ba), .val (.int u7), .val (.int u8), .val (.int u9), .val (.ref wa), .val (.ref kd1)] [.ref kd1, .ref kd1]))
      refine g_acmp_no X7 hx hby at_132 (pn := 135) rfl rfl rfl (by simp [Jvm.Free.XT.acmp]) ?_
      refine g_iconst X7 hx hby at_135 (pc' := 136) rfl (z := (1 : Int32)) rfl ?_
      refine g_goto X7 hx hby at_136 (by decide) (pc' := 140) (by decide) ?_
      refine GoH.of_go (a0 := a0) (fun v h L => v = some (.int 1) ∧ Fr n0 L) hS7 hZ7 (own_EL hw) ?_
      exact g_retN (Q := _) (w := (1 : Int32)) X7 hx hby at_140 hret (by simp) (by first | decide | rfl) hlk (by decide) (by decide) ⟨⟨rfl, N7⟩, (Nat.le_refl T7.heap.size), C7c⟩
    · exact absurd (hn1.trans hm7) (by decide)
    · exact absurd (hn1.trans hm7) (by decide)
    · exact absurd hn1.symm hm7_1
  · have N1 := Fr.app N N1q
    have C1h := CHr.keep K1 all0 C0h.1
    have C1c := C0h.trans C1h
    have O1 := O0.keep K1 all0
    have Z1 := Nat.le_trans Z0 K1.1
    have Y1 := Nat.le_trans hk0 K1.1
    have X1t_wa := T_w.keep0 K1
    have Ek1 : Exa Z T1.heap kd2 "com/example/phaseline/phaseline/game/Kind" := yE2.ext O1.2
    show GoE p e below _ (T1.setTop (mkF m 116 #[.val (.int q1), .val (.int q2), .val (.int q3), .val (.int q4), .val (.int q5), .val (.int u5), .val (.ref ba), .val (.int u7), .val (.int u8), .val (.int u9), .val (.ref wa), .unset] [.ref b1]))
    refine g_aconstNull X1 hx hby at_116 (pc' := 117) rfl ?_
    refine g_callV X1 hx hZ hown (W := 0) (argsL := [.null]) (b := b1) (rest := []) hby at_117 (pc' := 120) rfl (by rw [hml]; rfl) (w_71 hw) (w_72 hw) (w_74 hw) (notFace_of_selects (args := #[]) (mvT hZ (w_74 hw))) (w_73 hw) (w_68 hw) (w_75 hw) (by decide) (rmOE l Z a0 hw [] b1 T1.heap n0 kd2 Fv1) rfl Ex1 (by decide) (by decide) (by decide) (by decide) rfl pd__28Ljava_2flang_2fObject_3b_29Ljava_2flang_2fObject_3b rfl rfl (Nat.le_of_eq rfl) ?_
    rintro _ T8 L8 X8 ⟨rfl, N8q, e8⟩
    have N8 := Fr.app N1 N8q
    show GoE p e below _ (T8.setTop (mkF m 120 #[.val (.int q1), .val (.int q2), .val (.int q3), .val (.int q4), .val (.int q5), .val (.int u5), .val (.ref ba), .val (.int u7), .val (.int u8), .val (.int u9), .val (.ref wa), .unset] [.ref kd2]))
    refine g_castY X8 hx hZ hown hby at_120 (pc' := 123) rfl (w_143 hw) e8 (Ins.self Ek1) ?_
    intro T9 X9 e9
    refine g_astore X9 hx hby at_123 (pc' := 125) rfl rfl (l' := #[.val (.int q1), .val (.int q2), .val (.int q3), .val (.int q4), .val (.int q5), .val (.int u5), .val (.ref ba), .val (.int u7), .val (.int u8), .val (.int u9), .val (.ref wa), .val (.ref kd2)]) rfl ?_
    refine g_aload X9 hx hby at_125 (pc' := 127) rfl rfl rfl ?_
    refine g_aload X9 hx hby at_127 (pc' := 129) rfl rfl rfl ?_
    refine g_callSH X9 hx hZ hown (W := 1) (argsL := [.ref wa]) (rest := [.ref kd2]) hby at_129 (pc' := 132) rfl (by rw [hml]; rfl) (w_78 hw) (w_79 hw) (w_11 hw) (w_80 hw) (by decide) (rmEX l Z a0 hw [] wa T1.heap n0 kd0 kd1 kd2 kd3 kd4 wd0 wd1 wd2 wd3 bV em kV hK wl X1t_wa Z1 cs fm SS O1) e9 hS0 Y1 (own_EL hw) C1c.1 (by decide) (by decide) (by decide) (by decide) rfl pd__28Ljava_2flang_2fString_3b_29Lcom_2fexample_2fphaseline_2fphaseline_2fgame_2fKind_3b rfl rfl (Nat.le_of_eq rfl) ?_
    rintro _ T10 L10 X10 (⟨rfl, N10q, K10, hm10⟩ | ⟨rfl, N10q, K10, hm10⟩ | ⟨rfl, N10q, K10, hm10⟩ | ⟨rfl, N10q, K10, hm10⟩ | ⟨rfl, N10q, K10, hm10_0, hm10_1, hm10_2, hm10_3⟩) hS10 hZ10 hown10 C10h
    · exact absurd (hn1.trans hm10) (by decide)
    · exact absurd (hn1.trans hm10) (by decide)
    · have N10 := Fr.app N8 N10q
      have C10c := C1c.trans C10h
      have O10 := O1.keep K10 all0
      have Z10 := Nat.le_trans Z1 K10.1
      have Y10 := Nat.le_trans Y1 K10.1
      have X10t_wa := X1t_wa.keep0 K10
      have E10_b1 := Ex1.keep K10
      have F10_b1_value := Fv1.keep K10 nin0
      have E10_kd2 := Ek1.keep K10
      show GoE p e below _ (T10.setTop (mkF m 132 #[.val (.int q1), .val (.int q2), .val (.int q3), .val (.int q4), .val (.int q5), .val (.int u5), .val (.ref ba), .val (.int u7), .val (.int u8), .val (.int u9), .val (.ref wa), .val (.ref kd2)] [.ref kd2, .ref kd2]))
      refine g_acmp_no X10 hx hby at_132 (pn := 135) rfl rfl rfl (by simp [Jvm.Free.XT.acmp]) ?_
      refine g_iconst X10 hx hby at_135 (pc' := 136) rfl (z := (1 : Int32)) rfl ?_
      refine g_goto X10 hx hby at_136 (by decide) (pc' := 140) (by decide) ?_
      refine GoH.of_go (a0 := a0) (fun v h L => v = some (.int 1) ∧ Fr n0 L) hS10 hZ10 (own_EL hw) ?_
      exact g_retN (Q := _) (w := (1 : Int32)) X10 hx hby at_140 hret (by simp) (by first | decide | rfl) hlk (by decide) (by decide) ⟨⟨rfl, N10⟩, (Nat.le_refl T10.heap.size), C10c⟩
    · exact absurd (hn1.trans hm10) (by decide)
    · exact absurd hn1.symm hm10_2
  · have N1 := Fr.app N N1q
    have C1h := CHr.keep K1 all0 C0h.1
    have C1c := C0h.trans C1h
    have O1 := O0.keep K1 all0
    have Z1 := Nat.le_trans Z0 K1.1
    have Y1 := Nat.le_trans hk0 K1.1
    have X1t_wa := T_w.keep0 K1
    have Ek1 : Exa Z T1.heap kd3 "com/example/phaseline/phaseline/game/Kind" := yE3.ext O1.2
    show GoE p e below _ (T1.setTop (mkF m 116 #[.val (.int q1), .val (.int q2), .val (.int q3), .val (.int q4), .val (.int q5), .val (.int u5), .val (.ref ba), .val (.int u7), .val (.int u8), .val (.int u9), .val (.ref wa), .unset] [.ref b1]))
    refine g_aconstNull X1 hx hby at_116 (pc' := 117) rfl ?_
    refine g_callV X1 hx hZ hown (W := 0) (argsL := [.null]) (b := b1) (rest := []) hby at_117 (pc' := 120) rfl (by rw [hml]; rfl) (w_71 hw) (w_72 hw) (w_74 hw) (notFace_of_selects (args := #[]) (mvT hZ (w_74 hw))) (w_73 hw) (w_68 hw) (w_75 hw) (by decide) (rmOE l Z a0 hw [] b1 T1.heap n0 kd3 Fv1) rfl Ex1 (by decide) (by decide) (by decide) (by decide) rfl pd__28Ljava_2flang_2fObject_3b_29Ljava_2flang_2fObject_3b rfl rfl (Nat.le_of_eq rfl) ?_
    rintro _ T11 L11 X11 ⟨rfl, N11q, e11⟩
    have N11 := Fr.app N1 N11q
    show GoE p e below _ (T11.setTop (mkF m 120 #[.val (.int q1), .val (.int q2), .val (.int q3), .val (.int q4), .val (.int q5), .val (.int u5), .val (.ref ba), .val (.int u7), .val (.int u8), .val (.int u9), .val (.ref wa), .unset] [.ref kd3]))
    refine g_castY X11 hx hZ hown hby at_120 (pc' := 123) rfl (w_143 hw) e11 (Ins.self Ek1) ?_
    intro T12 X12 e12
    refine g_astore X12 hx hby at_123 (pc' := 125) rfl rfl (l' := #[.val (.int q1), .val (.int q2), .val (.int q3), .val (.int q4), .val (.int q5), .val (.int u5), .val (.ref ba), .val (.int u7), .val (.int u8), .val (.int u9), .val (.ref wa), .val (.ref kd3)]) rfl ?_
    refine g_aload X12 hx hby at_125 (pc' := 127) rfl rfl rfl ?_
    refine g_aload X12 hx hby at_127 (pc' := 129) rfl rfl rfl ?_
    refine g_callSH X12 hx hZ hown (W := 1) (argsL := [.ref wa]) (rest := [.ref kd3]) hby at_129 (pc' := 132) rfl (by rw [hml]; rfl) (w_78 hw) (w_79 hw) (w_11 hw) (w_80 hw) (by decide) (rmEX l Z a0 hw [] wa T1.heap n0 kd0 kd1 kd2 kd3 kd4 wd0 wd1 wd2 wd3 bV em kV hK wl X1t_wa Z1 cs fm SS O1) e12 hS0 Y1 (own_EL hw) C1c.1 (by decide) (by decide) (by decide) (by decide) rfl pd__28Ljava_2flang_2fString_3b_29Lcom_2fexample_2fphaseline_2fphaseline_2fgame_2fKind_3b rfl rfl (Nat.le_of_eq rfl) ?_
    rintro _ T13 L13 X13 (⟨rfl, N13q, K13, hm13⟩ | ⟨rfl, N13q, K13, hm13⟩ | ⟨rfl, N13q, K13, hm13⟩ | ⟨rfl, N13q, K13, hm13⟩ | ⟨rfl, N13q, K13, hm13_0, hm13_1, hm13_2, hm13_3⟩) hS13 hZ13 hown13 C13h
    · exact absurd (hn1.trans hm13) (by decide)
    · exact absurd (hn1.trans hm13) (by decide)
    · exact absurd (hn1.trans hm13) (by decide)
    · have N13 := Fr.app N11 N13q
      have C13c := C1c.trans C13h
      have O13 := O1.keep K13 all0
      have Z13 := Nat.le_trans Z1 K13.1
      have Y13 := Nat.le_trans Y1 K13.1
      have X13t_wa := X1t_wa.keep0 K13
      have E13_b1 := Ex1.keep K13
      have F13_b1_value := Fv1.keep K13 nin0
      have E13_kd3 := Ek1.keep K13
      show GoE p e below _ (T13.setTop (mkF m 132 #[.val (.int q1), .val (.int q2), .val (.int q3), .val (.int q4), .val (.int q5), .val (.int u5), .val (.ref ba), .val (.int u7), .val (.int u8), .val (.int u9), .val (.ref wa), .val (.ref kd3)] [.ref kd3, .ref kd3]))
      refine g_acmp_no X13 hx hby at_132 (pn := 135) rfl rfl rfl (by simp [Jvm.Free.XT.acmp]) ?_
      refine g_iconst X13 hx hby at_135 (pc' := 136) rfl (z := (1 : Int32)) rfl ?_
      refine g_goto X13 hx hby at_136 (by decide) (pc' := 140) (by decide) ?_
      refine GoH.of_go (a0 := a0) (fun v h L => v = some (.int 1) ∧ Fr n0 L) hS13 hZ13 (own_EL hw) ?_
      exact g_retN (Q := _) (w := (1 : Int32)) X13 hx hby at_140 hret (by simp) (by first | decide | rfl) hlk (by decide) (by decide) ⟨⟨rfl, N13⟩, (Nat.le_refl T13.heap.size), C13c⟩
    · exact absurd hn1.symm hm13_3
  · have N1 := Fr.app N N1q
    have C1h := CHr.keep K1 all0 C0h.1
    have C1c := C0h.trans C1h
    have O1 := O0.keep K1 all0
    have Z1 := Nat.le_trans Z0 K1.1
    have Y1 := Nat.le_trans hk0 K1.1
    have X1t_wa := T_w.keep0 K1
    have Em1 := yEE.ext O1.2
    have Fm1 := yFE.ext O1.2
    show GoE p e below _ (T1.setTop (mkF m 116 #[.val (.int q1), .val (.int q2), .val (.int q3), .val (.int q4), .val (.int q5), .val (.int u5), .val (.ref ba), .val (.int u7), .val (.int u8), .val (.int u9), .val (.ref wa), .unset] [.ref em]))
    refine g_aconstNull X1 hx hby at_116 (pc' := 117) rfl ?_
    refine g_callV X1 hx hZ hown (W := 0) (argsL := [.null]) (b := em) (rest := []) hby at_117 (pc' := 120) rfl (by rw [hml]; rfl) (w_71 hw) (w_72 hw) (w_74 hw) (notFace_of_selects (args := #[]) (mvT hZ (w_74 hw))) (w_73 hw) (w_68 hw) (w_75 hw) (by decide) (rmON l Z a0 hw [] em T1.heap n0 Fm1) rfl Em1 (by decide) (by decide) (by decide) (by decide) rfl pd__28Ljava_2flang_2fObject_3b_29Ljava_2flang_2fObject_3b rfl rfl (Nat.le_of_eq rfl) ?_
    rintro _ T14 L14 X14 ⟨rfl, N14q, e14⟩
    have N14 := Fr.app N1 N14q
    show GoE p e below _ (T14.setTop (mkF m 120 #[.val (.int q1), .val (.int q2), .val (.int q3), .val (.int q4), .val (.int q5), .val (.int u5), .val (.ref ba), .val (.int u7), .val (.int u8), .val (.int u9), .val (.ref wa), .unset] [.null]))
    refine g_castNull X14 hx hby at_120 (pc' := 123) rfl ?_
    refine g_astore X14 hx hby at_123 (pc' := 125) rfl rfl (l' := #[.val (.int q1), .val (.int q2), .val (.int q3), .val (.int q4), .val (.int q5), .val (.int u5), .val (.ref ba), .val (.int u7), .val (.int u8), .val (.int u9), .val (.ref wa), .val (.null)]) rfl ?_
    refine g_aload X14 hx hby at_125 (pc' := 127) rfl rfl rfl ?_
    refine g_aload X14 hx hby at_127 (pc' := 129) rfl rfl rfl ?_
    refine g_callSH X14 hx hZ hown (W := 1) (argsL := [.ref wa]) (rest := [.null]) hby at_129 (pc' := 132) rfl (by rw [hml]; rfl) (w_78 hw) (w_79 hw) (w_11 hw) (w_80 hw) (by decide) (rmEX l Z a0 hw [] wa T1.heap n0 kd0 kd1 kd2 kd3 kd4 wd0 wd1 wd2 wd3 bV em kV hK wl X1t_wa Z1 cs fm SS O1) e14 hS0 Y1 (own_EL hw) C1c.1 (by decide) (by decide) (by decide) (by decide) rfl pd__28Ljava_2flang_2fString_3b_29Lcom_2fexample_2fphaseline_2fphaseline_2fgame_2fKind_3b rfl rfl (Nat.le_of_eq rfl) ?_
    rintro _ T16 L16 X16 (⟨rfl, N16q, K16, hm16⟩ | ⟨rfl, N16q, K16, hm16⟩ | ⟨rfl, N16q, K16, hm16⟩ | ⟨rfl, N16q, K16, hm16⟩ | ⟨rfl, N16q, K16, hm16_0, hm16_1, hm16_2, hm16_3⟩) hS16 hZ16 hown16 C16h
    · exact absurd hm16.symm hn1_0
    · exact absurd hm16.symm hn1_1
    · exact absurd hm16.symm hn1_2
    · exact absurd hm16.symm hn1_3
    · have N16 := Fr.app N14 N16q
      have C16c := C1c.trans C16h
      have O16 := O1.keep K16 all0
      have Z16 := Nat.le_trans Z1 K16.1
      have Y16 := Nat.le_trans Y1 K16.1
      have X16t_wa := X1t_wa.keep0 K16
      have E16_em := Em1.keep K16
      have F16_em_value := Fm1.keep K16 nin0
      show GoE p e below _ (T16.setTop (mkF m 132 #[.val (.int q1), .val (.int q2), .val (.int q3), .val (.int q4), .val (.int q5), .val (.int u5), .val (.ref ba), .val (.int u7), .val (.int u8), .val (.int u9), .val (.ref wa), .val (.null)] [.null, .null]))
      refine g_acmp_no X16 hx hby at_132 (pn := 135) rfl rfl rfl (by simp [Jvm.Free.XT.acmp]) ?_
      refine g_iconst X16 hx hby at_135 (pc' := 136) rfl (z := (1 : Int32)) rfl ?_
      refine g_goto X16 hx hby at_136 (by decide) (pc' := 140) (by decide) ?_
      refine GoH.of_go (a0 := a0) (fun v h L => v = some (.int 1) ∧ Fr n0 L) hS16 hZ16 (own_EL hw) ?_
      exact g_retN (Q := _) (w := (1 : Int32)) X16 hx hby at_140 hret (by simp) (by first | decide | rfl) hlk (by decide) (by decide) ⟨⟨rfl, N16⟩, (Nat.le_refl T16.heap.size), C16c⟩
theorem ef_rm0 (q1 : Int32) (q2 : Int32) (q3 : Int32) (q4 : Int32) (q5 : Int32) (m : MethodId) : entryFrame m #[.int q1, .int q2, .int q3, .int q4, .int q5] maxLocals = mkF m 0 #[.val (.int q1), .val (.int q2), .val (.int q3), .val (.int q4), .val (.int q5), .unset, .unset, .unset, .unset, .unset, .unset, .unset] [] := by
  first | (simp [entryFrame, mkF, argsToLocals, Value.category, maxLocals]; done) | rfl
theorem pn_rm0 : plainName "com/example/phaseline/phaseline/game/KindNamedPinLaw" = true := by first | (simp [plainName, overriddenIn]; done) | decide +kernel
set_option maxRecDepth 65536 in
set_option maxHeartbeats 40000000 in
theorem rm0 (l : Launch) (Z : State) (a0 : Array Value) (hw : ∀ d ∈ tables_1, d.before a0 Z = true) (ws : List Jvm.Cond) (q1 : Int32) (q2 : Int32) (q3 : Int32) (q4 : Int32) (q5 : Int32) (h0 : Heap) (n0 : Nat) (kd0 kd1 kd2 kd3 kd4 wd0 wd1 wd2 wd3 bV em : Addr) (kV : ClassId) (hK : KSt Z kd0 kd1 kd2 kd3 kd4 wd0 wd1 wd2 wd3 bV em kV) (Z0 : n0 ≤ h0.size) (cs : Int32) (fm : Value) (SS : SSt Z cs fm) (O0 : Old Z n0 h0) :
    CtrH ELs l Z x code maxLocals ret ws room_1 #[.int q1, .int q2, .int q3, .int q4, .int q5] h0 (fun v h L => v = some (.int 1) ∧ Fr n0 L) := by
  refine CtrH.enter (Ls := #[.val (.int q1), .val (.int q2), .val (.int q3), .val (.int q4), .val (.int q5), .unset, .unset, .unset, .unset, .unset, .unset, .unset]) (plainFor_of_name pn_rm0) (fun m => ef_rm0 q1 q2 q3 q4 q5 m) ?_
  intro p e s m below meth c T hx hby hml hown hnm hret hlk hZ hh X0 e0 hS0 C0h
  have N0 := Fr.nil n0
  have hK' := hK
  obtain ⟨yS0, yS1, yS2, yS3, yS4, ySV, yAV, yEV, yF0, yF1, yF2, yF3, yT0, yT1, yT2, yT3, yE0, yE1, yE2, yE3, y04, y14, y24, y34, ySE, yFE, yEE⟩ := hK'
  refine g_iloadN X0 hx hby at_0 (pc' := 1) rfl rfl ?_
  refine g_ldcI X0 hx hZ hown hby at_1 (pc' := 3) rfl (w_0 hw) ?_
  refine g_iand X0 hx hby at_3 (pc' := 4) rfl ?_
  refine g_iconst X0 hx hby at_4 (pc' := 5) rfl (z := (5 : Int32)) rfl ?_
  refine g_irem X0 hx hby at_5 (pc' := 6) rfl (by decide) ?_
  refine g_istore X0 hx hby at_6 (pc' := 8) rfl (l' := #[.val (.int q1), .val (.int q2), .val (.int q3), .val (.int q4), .val (.int q5), .val (.int ((q1 &&& (2147483647 : Int32)) - ((q1 &&& (2147483647 : Int32)) / (5 : Int32)) * (5 : Int32))), .unset, .unset, .unset, .unset, .unset, .unset]) rfl ?_
  refine g_iload X0 hx hby at_8 (pc' := 10) rfl rfl ?_
  refine g_if_ne X0 hx hby at_10 (by decide) (pc' := 20) (by decide) (pn := 13) rfl (fun hc10_1 => ?_) (fun hc10_1 => ?_)
  · refine g_iload X0 hx hby at_20 (pc' := 22) rfl rfl ?_
    refine g_iconst X0 hx hby at_22 (pc' := 23) rfl (z := (1 : Int32)) rfl ?_
    refine g_icmp_ne X0 hx hby at_23 (by decide) (pc' := 33) (by decide) (pn := 26) rfl (fun hc23_2 => ?_) (fun hc23_2 => ?_)
    · refine g_iload X0 hx hby at_33 (pc' := 35) rfl rfl ?_
      refine g_iconst X0 hx hby at_35 (pc' := 36) rfl (z := (2 : Int32)) rfl ?_
      refine g_icmp_ne X0 hx hby at_36 (by decide) (pc' := 46) (by decide) (pn := 39) rfl (fun hc36_3 => ?_) (fun hc36_3 => ?_)
      · refine g_iload X0 hx hby at_46 (pc' := 48) rfl rfl ?_
        refine g_iconst X0 hx hby at_48 (pc' := 49) rfl (z := (3 : Int32)) rfl ?_
        refine g_icmp_ne X0 hx hby at_49 (by decide) (pc' := 59) (by decide) (pn := 52) rfl (fun hc49_4 => ?_) (fun hc49_4 => ?_)
        · refine g_ldcH X0 hx hZ hown 24 [.int (110 : Int32), .int (111 : Int32), .int (110 : Int32), .int (101 : Int32)] (4 : Int32) hby at_59 (pc' := 61) rfl (w_147 hw) (own_str hw) e0 hS0 (Nat.le_refl h0.size) (own_EL hw) (List.mem_of_getElem? (i := 4) rfl) C0h.1 (by decide) (by decide) (by decide) (by decide) (by decide) (by decide) (by decide) ?_
          intro b5 T5 k5 v5 c5 X5 E5 hS5 hk5 hZ5 hown5 Ex5 Fc5 Fv5 Av5 C5h sn5
          have C5c := C0h.trans C5h
          have O5o := O0.ext E5
          have Z5 := Nat.le_trans Z0 E5.1
          have Y5 := Nat.le_trans (Nat.le_refl h0.size) E5.1
          have Tx6 : Txt Z T5.heap b5 wl_4 := ⟨Ex5, by decide, v5, _, Fv5, Fc5, Av5⟩
          refine g_astore X5 hx hby at_61 (pc' := 63) rfl rfl (l' := #[.val (.int q1), .val (.int q2), .val (.int q3), .val (.int q4), .val (.int q5), .val (.int ((q1 &&& (2147483647 : Int32)) - ((q1 &&& (2147483647 : Int32)) / (5 : Int32)) * (5 : Int32))), .val (.ref b5), .unset, .unset, .unset, .unset, .unset]) rfl ?_
          refine g_iloadN X5 hx hby at_63 (pc' := 64) rfl rfl ?_
          refine g_iconst X5 hx hby at_64 (pc' := 65) rfl (z := (1 : Int32)) rfl ?_
          refine g_iand X5 hx hby at_65 (pc' := 66) rfl ?_
          refine g_if_ne X5 hx hby at_66 (by decide) (pc' := 77) (by decide) (pn := 69) rfl (fun hc66_7 => ?_) (fun hc66_7 => ?_)
          · refine g_iload X5 hx hby at_77 (pc' := 79) rfl rfl ?_
            refine g_bipush X5 hx hby at_79 (pc' := 81) rfl (z := (7 : Int32)) rfl ?_
            refine g_iand X5 hx hby at_81 (pc' := 82) rfl ?_
            refine g_istore X5 hx hby at_82 (pc' := 84) rfl (l' := #[.val (.int q1), .val (.int q2), .val (.int q3), .val (.int q4), .val (.int q5), .val (.int ((q1 &&& (2147483647 : Int32)) - ((q1 &&& (2147483647 : Int32)) / (5 : Int32)) * (5 : Int32))), .val (.ref b5), .val (.int (q5 &&& (7 : Int32))), .unset, .unset, .unset, .unset]) rfl ?_
            refine g_iloadN X5 hx hby at_84 (pc' := 85) rfl rfl ?_
            refine g_bipush X5 hx hby at_85 (pc' := 87) rfl (z := (15 : Int32)) rfl ?_
            refine g_iand X5 hx hby at_87 (pc' := 88) rfl ?_
            refine g_istore X5 hx hby at_88 (pc' := 90) rfl (l' := #[.val (.int q1), .val (.int q2), .val (.int q3), .val (.int q4), .val (.int q5), .val (.int ((q1 &&& (2147483647 : Int32)) - ((q1 &&& (2147483647 : Int32)) / (5 : Int32)) * (5 : Int32))), .val (.ref b5), .val (.int (q5 &&& (7 : Int32))), .val (.int (q3 &&& (15 : Int32))), .unset, .unset, .unset]) rfl ?_
            refine g_iloadN X5 hx hby at_90 (pc' := 91) rfl rfl ?_
            refine g_sipush X5 hx hby at_91 (pc' := 94) rfl (z := (255 : Int32)) rfl ?_
            refine g_iand X5 hx hby at_94 (pc' := 95) rfl ?_
            refine g_i2c X5 hx hby at_95 (pc' := 96) rfl ?_
            refine g_istore X5 hx hby at_96 (pc' := 98) rfl (l' := #[.val (.int q1), .val (.int q2), .val (.int q3), .val (.int q4), .val (.int q5), .val (.int ((q1 &&& (2147483647 : Int32)) - ((q1 &&& (2147483647 : Int32)) / (5 : Int32)) * (5 : Int32))), .val (.ref b5), .val (.int (q5 &&& (7 : Int32))), .val (.int (q3 &&& (15 : Int32))), .val (.int (lch q4)), .unset, .unset]) rfl ?_
            refine g_aload X5 hx hby at_98 (pc' := 100) rfl rfl rfl ?_
            refine g_iload X5 hx hby at_100 (pc' := 102) rfl rfl ?_
            refine g_iload X5 hx hby at_102 (pc' := 104) rfl rfl ?_
            refine g_iload X5 hx hby at_104 (pc' := 106) rfl rfl ?_
            refine g_callSH X5 hx hZ5 hown5 (W := 0) (argsL := [.ref b5, .int (q5 &&& (7 : Int32)), .int (q3 &&& (15 : Int32)), .int (lch q4)]) (rest := []) hby at_106 (pc' := 109) rfl (by rw [hml]; rfl) (w_9 hw) (w_10 hw) (w_11 hw) (w_12 hw) (by decide) (rmB l Z a0 hw [] b5 (q5 &&& (7 : Int32)) (q3 &&& (15 : Int32)) (lch q4) T5.heap n0 wl_4 Tx6 (own_bl _) Z5 cs fm SS O5o) rfl hS5 hk5 (own_EL hw) C5c.1 (by decide) (by decide) (by decide) (by decide) rfl pd__28Ljava_2flang_2fString_3bIIC_29Ljava_2flang_2fString_3b rfl rfl (Nat.le_of_eq rfl) ?_
            rintro _ T8 L8 X8 (⟨b8, rfl, N8q, K8, G8, Tx8⟩) hS8 hZ8 hown8 C8h
            have N8 := Fr.app N0 N8q
            have C8c := C5c.trans C8h
            have nb8_b5 : b5 ≠ b8 := Nat.ne_of_lt (Nat.lt_of_lt_of_le Tx6.lt G8)
            have O8 := O5o.keep K8 all0
            have Z8 := Nat.le_trans Z5 K8.1
            have Y8 := Nat.le_trans hk5 K8.1
            have X8t_b5 := Tx6.keep0 K8
            have E8_b5 := Tx6.1.keep K8
            show GoE p e below _ (T8.setTop (mkF m 109 #[.val (.int q1), .val (.int q2), .val (.int q3), .val (.int q4), .val (.int q5), .val (.int ((q1 &&& (2147483647 : Int32)) - ((q1 &&& (2147483647 : Int32)) / (5 : Int32)) * (5 : Int32))), .val (.ref b5), .val (.int (q5 &&& (7 : Int32))), .val (.int (q3 &&& (15 : Int32))), .val (.int (lch q4)), .unset, .unset] [.ref b8]))
            refine g_astore X8 hx hby at_109 (pc' := 111) rfl rfl (l' := #[.val (.int q1), .val (.int q2), .val (.int q3), .val (.int q4), .val (.int q5), .val (.int ((q1 &&& (2147483647 : Int32)) - ((q1 &&& (2147483647 : Int32)) / (5 : Int32)) * (5 : Int32))), .val (.ref b5), .val (.int (q5 &&& (7 : Int32))), .val (.int (q3 &&& (15 : Int32))), .val (.int (lch q4)), .val (.ref b8), .unset]) rfl ?_
            exact tail0 l Z a0 hw q1 q2 q3 q4 q5 n0 kd0 kd1 kd2 kd3 kd4 wd0 wd1 wd2 wd3 bV em kV hK cs fm SS ((q1 &&& (2147483647 : Int32)) - ((q1 &&& (2147483647 : Int32)) / (5 : Int32)) * (5 : Int32)) (q5 &&& (7 : Int32)) (q3 &&& (15 : Int32)) (lch q4) b5 b8 _ hx hby hml hret hlk hZ8 hown8 X8 N8 hS8 (Nat.le_refl T8.heap.size) C8c Z8 O8 Tx8
          · refine g_aload X5 hx hby at_69 (pc' := 71) rfl rfl rfl ?_
            refine g_callV X5 hx hZ5 hown5 (W := 0) (argsL := []) (b := b5) (rest := []) hby at_71 (pc' := 74) rfl (by rw [hml]; rfl) (w_85 hw) (w_86 hw) (w_88 hw) (notFace_of_selects (args := #[]) (mvT hZ5 (w_88 hw))) (w_87 hw) (w_2 hw) (w_89 hw) (by decide) (rmSL l Z a0 hw [] b5 T5.heap n0 wl_4 Tx6 cs fm SS O5o) rfl Tx6.1 (by decide) (by decide) (by decide) (by decide) rfl pd__28_29I rfl rfl (Nat.le_of_eq rfl) ?_
            rintro _ T9 L9 X9 ⟨rfl, N9q, e9⟩
            have N9 := Fr.app N0 N9q
            show GoE p e below _ (T9.setTop (mkF m 74 #[.val (.int q1), .val (.int q2), .val (.int q3), .val (.int q4), .val (.int q5), .val (.int ((q1 &&& (2147483647 : Int32)) - ((q1 &&& (2147483647 : Int32)) / (5 : Int32)) * (5 : Int32))), .val (.ref b5), .unset, .unset, .unset, .unset, .unset] [.int (Int32.ofNat wl_4.length)]))
            refine g_goto X9 hx hby at_74 (by decide) (pc' := 82) (by decide) ?_
            refine g_istore X9 hx hby at_82 (pc' := 84) rfl (l' := #[.val (.int q1), .val (.int q2), .val (.int q3), .val (.int q4), .val (.int q5), .val (.int ((q1 &&& (2147483647 : Int32)) - ((q1 &&& (2147483647 : Int32)) / (5 : Int32)) * (5 : Int32))), .val (.ref b5), .val (.int (Int32.ofNat wl_4.length)), .unset, .unset, .unset, .unset]) rfl ?_
            refine g_iloadN X9 hx hby at_84 (pc' := 85) rfl rfl ?_
            refine g_bipush X9 hx hby at_85 (pc' := 87) rfl (z := (15 : Int32)) rfl ?_
            refine g_iand X9 hx hby at_87 (pc' := 88) rfl ?_
            refine g_istore X9 hx hby at_88 (pc' := 90) rfl (l' := #[.val (.int q1), .val (.int q2), .val (.int q3), .val (.int q4), .val (.int q5), .val (.int ((q1 &&& (2147483647 : Int32)) - ((q1 &&& (2147483647 : Int32)) / (5 : Int32)) * (5 : Int32))), .val (.ref b5), .val (.int (Int32.ofNat wl_4.length)), .val (.int (q3 &&& (15 : Int32))), .unset, .unset, .unset]) rfl ?_
            refine g_iloadN X9 hx hby at_90 (pc' := 91) rfl rfl ?_
            refine g_sipush X9 hx hby at_91 (pc' := 94) rfl (z := (255 : Int32)) rfl ?_
            refine g_iand X9 hx hby at_94 (pc' := 95) rfl ?_
            refine g_i2c X9 hx hby at_95 (pc' := 96) rfl ?_
            refine g_istore X9 hx hby at_96 (pc' := 98) rfl (l' := #[.val (.int q1), .val (.int q2), .val (.int q3), .val (.int q4), .val (.int q5), .val (.int ((q1 &&& (2147483647 : Int32)) - ((q1 &&& (2147483647 : Int32)) / (5 : Int32)) * (5 : Int32))), .val (.ref b5), .val (.int (Int32.ofNat wl_4.length)), .val (.int (q3 &&& (15 : Int32))), .val (.int (lch q4)), .unset, .unset]) rfl ?_
            refine g_aload X9 hx hby at_98 (pc' := 100) rfl rfl rfl ?_
            refine g_iload X9 hx hby at_100 (pc' := 102) rfl rfl ?_
            refine g_iload X9 hx hby at_102 (pc' := 104) rfl rfl ?_
            refine g_iload X9 hx hby at_104 (pc' := 106) rfl rfl ?_
            refine g_callSH X9 hx hZ5 hown5 (W := 0) (argsL := [.ref b5, .int (Int32.ofNat wl_4.length), .int (q3 &&& (15 : Int32)), .int (lch q4)]) (rest := []) hby at_106 (pc' := 109) rfl (by rw [hml]; rfl) (w_9 hw) (w_10 hw) (w_11 hw) (w_12 hw) (by decide) (rmB l Z a0 hw [] b5 (Int32.ofNat wl_4.length) (q3 &&& (15 : Int32)) (lch q4) T5.heap n0 wl_4 Tx6 (own_bl _) Z5 cs fm SS O5o) e9 hS5 hk5 (own_EL hw) C5c.1 (by decide) (by decide) (by decide) (by decide) rfl pd__28Ljava_2flang_2fString_3bIIC_29Ljava_2flang_2fString_3b rfl rfl (Nat.le_of_eq rfl) ?_
            rintro _ T10 L10 X10 (⟨b10, rfl, N10q, K10, G10, Tx10⟩) hS10 hZ10 hown10 C10h
            have N10 := Fr.app N9 N10q
            have C10c := C5c.trans C10h
            have nb10_b5 : b5 ≠ b10 := Nat.ne_of_lt (Nat.lt_of_lt_of_le Tx6.lt G10)
            have O10 := O5o.keep K10 all0
            have Z10 := Nat.le_trans Z5 K10.1
            have Y10 := Nat.le_trans hk5 K10.1
            have X10t_b5 := Tx6.keep0 K10
            have E10_b5 := Tx6.1.keep K10
            show GoE p e below _ (T10.setTop (mkF m 109 #[.val (.int q1), .val (.int q2), .val (.int q3), .val (.int q4), .val (.int q5), .val (.int ((q1 &&& (2147483647 : Int32)) - ((q1 &&& (2147483647 : Int32)) / (5 : Int32)) * (5 : Int32))), .val (.ref b5), .val (.int (Int32.ofNat wl_4.length)), .val (.int (q3 &&& (15 : Int32))), .val (.int (lch q4)), .unset, .unset] [.ref b10]))
            refine g_astore X10 hx hby at_109 (pc' := 111) rfl rfl (l' := #[.val (.int q1), .val (.int q2), .val (.int q3), .val (.int q4), .val (.int q5), .val (.int ((q1 &&& (2147483647 : Int32)) - ((q1 &&& (2147483647 : Int32)) / (5 : Int32)) * (5 : Int32))), .val (.ref b5), .val (.int (Int32.ofNat wl_4.length)), .val (.int (q3 &&& (15 : Int32))), .val (.int (lch q4)), .val (.ref b10), .unset]) rfl ?_
            exact tail0 l Z a0 hw q1 q2 q3 q4 q5 n0 kd0 kd1 kd2 kd3 kd4 wd0 wd1 wd2 wd3 bV em kV hK cs fm SS ((q1 &&& (2147483647 : Int32)) - ((q1 &&& (2147483647 : Int32)) / (5 : Int32)) * (5 : Int32)) (Int32.ofNat wl_4.length) (q3 &&& (15 : Int32)) (lch q4) b5 b10 _ hx hby hml hret hlk hZ10 hown10 X10 N10 hS10 (Nat.le_refl T10.heap.size) C10c Z10 O10 Tx10
        · refine g_ldcH X0 hx hZ hown 24 [.int (121 : Int32), .int (101 : Int32), .int (115 : Int32), .int (45 : Int32), .int (110 : Int32), .int (111 : Int32)] (6 : Int32) hby at_52 (pc' := 54) rfl (w_84 hw) (own_str hw) e0 hS0 (Nat.le_refl h0.size) (own_EL hw) (List.mem_of_getElem? (i := 3) rfl) C0h.1 (by decide) (by decide) (by decide) (by decide) (by decide) (by decide) (by decide) ?_
          intro b11 T11 k11 v11 c11 X11 E11 hS11 hk11 hZ11 hown11 Ex11 Fc11 Fv11 Av11 C11h sn11
          have C11c := C0h.trans C11h
          have O11o := O0.ext E11
          have Z11 := Nat.le_trans Z0 E11.1
          have Y11 := Nat.le_trans (Nat.le_refl h0.size) E11.1
          have Tx12 : Txt Z T11.heap b11 wl_3 := ⟨Ex11, by decide, v11, _, Fv11, Fc11, Av11⟩
          refine g_astore X11 hx hby at_54 (pc' := 56) rfl rfl (l' := #[.val (.int q1), .val (.int q2), .val (.int q3), .val (.int q4), .val (.int q5), .val (.int ((q1 &&& (2147483647 : Int32)) - ((q1 &&& (2147483647 : Int32)) / (5 : Int32)) * (5 : Int32))), .val (.ref b11), .unset, .unset, .unset, .unset, .unset]) rfl ?_
          refine g_goto X11 hx hby at_56 (by decide) (pc' := 63) (by decide) ?_
          refine g_iloadN X11 hx hby at_63 (pc' := 64) rfl rfl ?_
          refine g_iconst X11 hx hby at_64 (pc' := 65) rfl (z := (1 : Int32)) rfl ?_
          refine g_iand X11 hx hby at_65 (pc' := 66) rfl ?_
          refine g_if_ne X11 hx hby at_66 (by decide) (pc' := 77) (by decide) (pn := 69) rfl (fun hc66_13 => ?_) (fun hc66_13 => ?_)
          · refine g_iload X11 hx hby at_77 (pc' := 79) rfl rfl ?_
            refine g_bipush X11 hx hby at_79 (pc' := 81) rfl (z := (7 : Int32)) rfl ?_
            refine g_iand X11 hx hby at_81 (pc' := 82) rfl ?_
            refine g_istore X11 hx hby at_82 (pc' := 84) rfl (l' := #[.val (.int q1), .val (.int q2), .val (.int q3), .val (.int q4), .val (.int q5), .val (.int ((q1 &&& (2147483647 : Int32)) - ((q1 &&& (2147483647 : Int32)) / (5 : Int32)) * (5 : Int32))), .val (.ref b11), .val (.int (q5 &&& (7 : Int32))), .unset, .unset, .unset, .unset]) rfl ?_
            refine g_iloadN X11 hx hby at_84 (pc' := 85) rfl rfl ?_
            refine g_bipush X11 hx hby at_85 (pc' := 87) rfl (z := (15 : Int32)) rfl ?_
            refine g_iand X11 hx hby at_87 (pc' := 88) rfl ?_
            refine g_istore X11 hx hby at_88 (pc' := 90) rfl (l' := #[.val (.int q1), .val (.int q2), .val (.int q3), .val (.int q4), .val (.int q5), .val (.int ((q1 &&& (2147483647 : Int32)) - ((q1 &&& (2147483647 : Int32)) / (5 : Int32)) * (5 : Int32))), .val (.ref b11), .val (.int (q5 &&& (7 : Int32))), .val (.int (q3 &&& (15 : Int32))), .unset, .unset, .unset]) rfl ?_
            refine g_iloadN X11 hx hby at_90 (pc' := 91) rfl rfl ?_
            refine g_sipush X11 hx hby at_91 (pc' := 94) rfl (z := (255 : Int32)) rfl ?_
            refine g_iand X11 hx hby at_94 (pc' := 95) rfl ?_
            refine g_i2c X11 hx hby at_95 (pc' := 96) rfl ?_
            refine g_istore X11 hx hby at_96 (pc' := 98) rfl (l' := #[.val (.int q1), .val (.int q2), .val (.int q3), .val (.int q4), .val (.int q5), .val (.int ((q1 &&& (2147483647 : Int32)) - ((q1 &&& (2147483647 : Int32)) / (5 : Int32)) * (5 : Int32))), .val (.ref b11), .val (.int (q5 &&& (7 : Int32))), .val (.int (q3 &&& (15 : Int32))), .val (.int (lch q4)), .unset, .unset]) rfl ?_
            refine g_aload X11 hx hby at_98 (pc' := 100) rfl rfl rfl ?_
            refine g_iload X11 hx hby at_100 (pc' := 102) rfl rfl ?_
            refine g_iload X11 hx hby at_102 (pc' := 104) rfl rfl ?_
            refine g_iload X11 hx hby at_104 (pc' := 106) rfl rfl ?_
            refine g_callSH X11 hx hZ11 hown11 (W := 0) (argsL := [.ref b11, .int (q5 &&& (7 : Int32)), .int (q3 &&& (15 : Int32)), .int (lch q4)]) (rest := []) hby at_106 (pc' := 109) rfl (by rw [hml]; rfl) (w_9 hw) (w_10 hw) (w_11 hw) (w_12 hw) (by decide) (rmB l Z a0 hw [] b11 (q5 &&& (7 : Int32)) (q3 &&& (15 : Int32)) (lch q4) T11.heap n0 wl_3 Tx12 (own_bl _) Z11 cs fm SS O11o) rfl hS11 hk11 (own_EL hw) C11c.1 (by decide) (by decide) (by decide) (by decide) rfl pd__28Ljava_2flang_2fString_3bIIC_29Ljava_2flang_2fString_3b rfl rfl (Nat.le_of_eq rfl) ?_
            rintro _ T14 L14 X14 (⟨b14, rfl, N14q, K14, G14, Tx14⟩) hS14 hZ14 hown14 C14h
            have N14 := Fr.app N0 N14q
            have C14c := C11c.trans C14h
            have nb14_b11 : b11 ≠ b14 := Nat.ne_of_lt (Nat.lt_of_lt_of_le Tx12.lt G14)
            have O14 := O11o.keep K14 all0
            have Z14 := Nat.le_trans Z11 K14.1
            have Y14 := Nat.le_trans hk11 K14.1
            have X14t_b11 := Tx12.keep0 K14
            have E14_b11 := Tx12.1.keep K14
            show GoE p e below _ (T14.setTop (mkF m 109 #[.val (.int q1), .val (.int q2), .val (.int q3), .val (.int q4), .val (.int q5), .val (.int ((q1 &&& (2147483647 : Int32)) - ((q1 &&& (2147483647 : Int32)) / (5 : Int32)) * (5 : Int32))), .val (.ref b11), .val (.int (q5 &&& (7 : Int32))), .val (.int (q3 &&& (15 : Int32))), .val (.int (lch q4)), .unset, .unset] [.ref b14]))
            refine g_astore X14 hx hby at_109 (pc' := 111) rfl rfl (l' := #[.val (.int q1), .val (.int q2), .val (.int q3), .val (.int q4), .val (.int q5), .val (.int ((q1 &&& (2147483647 : Int32)) - ((q1 &&& (2147483647 : Int32)) / (5 : Int32)) * (5 : Int32))), .val (.ref b11), .val (.int (q5 &&& (7 : Int32))), .val (.int (q3 &&& (15 : Int32))), .val (.int (lch q4)), .val (.ref b14), .unset]) rfl ?_
            exact tail0 l Z a0 hw q1 q2 q3 q4 q5 n0 kd0 kd1 kd2 kd3 kd4 wd0 wd1 wd2 wd3 bV em kV hK cs fm SS ((q1 &&& (2147483647 : Int32)) - ((q1 &&& (2147483647 : Int32)) / (5 : Int32)) * (5 : Int32)) (q5 &&& (7 : Int32)) (q3 &&& (15 : Int32)) (lch q4) b11 b14 _ hx hby hml hret hlk hZ14 hown14 X14 N14 hS14 (Nat.le_refl T14.heap.size) C14c Z14 O14 Tx14
          · refine g_aload X11 hx hby at_69 (pc' := 71) rfl rfl rfl ?_
            refine g_callV X11 hx hZ11 hown11 (W := 0) (argsL := []) (b := b11) (rest := []) hby at_71 (pc' := 74) rfl (by rw [hml]; rfl) (w_85 hw) (w_86 hw) (w_88 hw) (notFace_of_selects (args := #[]) (mvT hZ11 (w_88 hw))) (w_87 hw) (w_2 hw) (w_89 hw) (by decide) (rmSL l Z a0 hw [] b11 T11.heap n0 wl_3 Tx12 cs fm SS O11o) rfl Tx12.1 (by decide) (by decide) (by decide) (by decide) rfl pd__28_29I rfl rfl (Nat.le_of_eq rfl) ?_
            rintro _ T15 L15 X15 ⟨rfl, N15q, e15⟩
            have N15 := Fr.app N0 N15q
            show GoE p e below _ (T15.setTop (mkF m 74 #[.val (.int q1), .val (.int q2), .val (.int q3), .val (.int q4), .val (.int q5), .val (.int ((q1 &&& (2147483647 : Int32)) - ((q1 &&& (2147483647 : Int32)) / (5 : Int32)) * (5 : Int32))), .val (.ref b11), .unset, .unset, .unset, .unset, .unset] [.int (Int32.ofNat wl_3.length)]))
            refine g_goto X15 hx hby at_74 (by decide) (pc' := 82) (by decide) ?_
            refine g_istore X15 hx hby at_82 (pc' := 84) rfl (l' := #[.val (.int q1), .val (.int q2), .val (.int q3), .val (.int q4), .val (.int q5), .val (.int ((q1 &&& (2147483647 : Int32)) - ((q1 &&& (2147483647 : Int32)) / (5 : Int32)) * (5 : Int32))), .val (.ref b11), .val (.int (Int32.ofNat wl_3.length)), .unset, .unset, .unset, .unset]) rfl ?_
            refine g_iloadN X15 hx hby at_84 (pc' := 85) rfl rfl ?_
            refine g_bipush X15 hx hby at_85 (pc' := 87) rfl (z := (15 : Int32)) rfl ?_
            refine g_iand X15 hx hby at_87 (pc' := 88) rfl ?_
            refine g_istore X15 hx hby at_88 (pc' := 90) rfl (l' := #[.val (.int q1), .val (.int q2), .val (.int q3), .val (.int q4), .val (.int q5), .val (.int ((q1 &&& (2147483647 : Int32)) - ((q1 &&& (2147483647 : Int32)) / (5 : Int32)) * (5 : Int32))), .val (.ref b11), .val (.int (Int32.ofNat wl_3.length)), .val (.int (q3 &&& (15 : Int32))), .unset, .unset, .unset]) rfl ?_
            refine g_iloadN X15 hx hby at_90 (pc' := 91) rfl rfl ?_
            refine g_sipush X15 hx hby at_91 (pc' := 94) rfl (z := (255 : Int32)) rfl ?_
            refine g_iand X15 hx hby at_94 (pc' := 95) rfl ?_
            refine g_i2c X15 hx hby at_95 (pc' := 96) rfl ?_
            refine g_istore X15 hx hby at_96 (pc' := 98) rfl (l' := #[.val (.int q1), .val (.int q2), .val (.int q3), .val (.int q4), .val (.int q5), .val (.int ((q1 &&& (2147483647 : Int32)) - ((q1 &&& (2147483647 : Int32)) / (5 : Int32)) * (5 : Int32))), .val (.ref b11), .val (.int (Int32.ofNat wl_3.length)), .val (.int (q3 &&& (15 : Int32))), .val (.int (lch q4)), .unset, .unset]) rfl ?_
            refine g_aload X15 hx hby at_98 (pc' := 100) rfl rfl rfl ?_
            refine g_iload X15 hx hby at_100 (pc' := 102) rfl rfl ?_
            refine g_iload X15 hx hby at_102 (pc' := 104) rfl rfl ?_
            refine g_iload X15 hx hby at_104 (pc' := 106) rfl rfl ?_
            refine g_callSH X15 hx hZ11 hown11 (W := 0) (argsL := [.ref b11, .int (Int32.ofNat wl_3.length), .int (q3 &&& (15 : Int32)), .int (lch q4)]) (rest := []) hby at_106 (pc' := 109) rfl (by rw [hml]; rfl) (w_9 hw) (w_10 hw) (w_11 hw) (w_12 hw) (by decide) (rmB l Z a0 hw [] b11 (Int32.ofNat wl_3.length) (q3 &&& (15 : Int32)) (lch q4) T11.heap n0 wl_3 Tx12 (own_bl _) Z11 cs fm SS O11o) e15 hS11 hk11 (own_EL hw) C11c.1 (by decide) (by decide) (by decide) (by decide) rfl pd__28Ljava_2flang_2fString_3bIIC_29Ljava_2flang_2fString_3b rfl rfl (Nat.le_of_eq rfl) ?_
            rintro _ T16 L16 X16 (⟨b16, rfl, N16q, K16, G16, Tx16⟩) hS16 hZ16 hown16 C16h
            have N16 := Fr.app N15 N16q
            have C16c := C11c.trans C16h
            have nb16_b11 : b11 ≠ b16 := Nat.ne_of_lt (Nat.lt_of_lt_of_le Tx12.lt G16)
            have O16 := O11o.keep K16 all0
            have Z16 := Nat.le_trans Z11 K16.1
            have Y16 := Nat.le_trans hk11 K16.1
            have X16t_b11 := Tx12.keep0 K16
            have E16_b11 := Tx12.1.keep K16
            show GoE p e below _ (T16.setTop (mkF m 109 #[.val (.int q1), .val (.int q2), .val (.int q3), .val (.int q4), .val (.int q5), .val (.int ((q1 &&& (2147483647 : Int32)) - ((q1 &&& (2147483647 : Int32)) / (5 : Int32)) * (5 : Int32))), .val (.ref b11), .val (.int (Int32.ofNat wl_3.length)), .val (.int (q3 &&& (15 : Int32))), .val (.int (lch q4)), .unset, .unset] [.ref b16]))
            refine g_astore X16 hx hby at_109 (pc' := 111) rfl rfl (l' := #[.val (.int q1), .val (.int q2), .val (.int q3), .val (.int q4), .val (.int q5), .val (.int ((q1 &&& (2147483647 : Int32)) - ((q1 &&& (2147483647 : Int32)) / (5 : Int32)) * (5 : Int32))), .val (.ref b11), .val (.int (Int32.ofNat wl_3.length)), .val (.int (q3 &&& (15 : Int32))), .val (.int (lch q4)), .val (.ref b16), .unset]) rfl ?_
            exact tail0 l Z a0 hw q1 q2 q3 q4 q5 n0 kd0 kd1 kd2 kd3 kd4 wd0 wd1 wd2 wd3 bV em kV hK cs fm SS ((q1 &&& (2147483647 : Int32)) - ((q1 &&& (2147483647 : Int32)) / (5 : Int32)) * (5 : Int32)) (Int32.ofNat wl_3.length) (q3 &&& (15 : Int32)) (lch q4) b11 b16 _ hx hby hml hret hlk hZ16 hown16 X16 N16 hS16 (Nat.le_refl T16.heap.size) C16c Z16 O16 Tx16
      · refine g_ldcH X0 hx hZ hown 24 [.int (116 : Int32), .int (101 : Int32), .int (120 : Int32), .int (116 : Int32)] (4 : Int32) hby at_39 (pc' := 41) rfl (w_83 hw) (own_str hw) e0 hS0 (Nat.le_refl h0.size) (own_EL hw) (List.mem_of_getElem? (i := 2) rfl) C0h.1 (by decide) (by decide) (by decide) (by decide) (by decide) (by decide) (by decide) ?_
        intro b17 T17 k17 v17 c17 X17 E17 hS17 hk17 hZ17 hown17 Ex17 Fc17 Fv17 Av17 C17h sn17
        have C17c := C0h.trans C17h
        have O17o := O0.ext E17
        have Z17 := Nat.le_trans Z0 E17.1
        have Y17 := Nat.le_trans (Nat.le_refl h0.size) E17.1
        have Tx18 : Txt Z T17.heap b17 wl_2 := ⟨Ex17, by decide, v17, _, Fv17, Fc17, Av17⟩
        refine g_astore X17 hx hby at_41 (pc' := 43) rfl rfl (l' := #[.val (.int q1), .val (.int q2), .val (.int q3), .val (.int q4), .val (.int q5), .val (.int ((q1 &&& (2147483647 : Int32)) - ((q1 &&& (2147483647 : Int32)) / (5 : Int32)) * (5 : Int32))), .val (.ref b17), .unset, .unset, .unset, .unset, .unset]) rfl ?_
        refine g_goto X17 hx hby at_43 (by decide) (pc' := 63) (by decide) ?_
        refine g_iloadN X17 hx hby at_63 (pc' := 64) rfl rfl ?_
        refine g_iconst X17 hx hby at_64 (pc' := 65) rfl (z := (1 : Int32)) rfl ?_
        refine g_iand X17 hx hby at_65 (pc' := 66) rfl ?_
        refine g_if_ne X17 hx hby at_66 (by decide) (pc' := 77) (by decide) (pn := 69) rfl (fun hc66_19 => ?_) (fun hc66_19 => ?_)
        · refine g_iload X17 hx hby at_77 (pc' := 79) rfl rfl ?_
          refine g_bipush X17 hx hby at_79 (pc' := 81) rfl (z := (7 : Int32)) rfl ?_
          refine g_iand X17 hx hby at_81 (pc' := 82) rfl ?_
          refine g_istore X17 hx hby at_82 (pc' := 84) rfl (l' := #[.val (.int q1), .val (.int q2), .val (.int q3), .val (.int q4), .val (.int q5), .val (.int ((q1 &&& (2147483647 : Int32)) - ((q1 &&& (2147483647 : Int32)) / (5 : Int32)) * (5 : Int32))), .val (.ref b17), .val (.int (q5 &&& (7 : Int32))), .unset, .unset, .unset, .unset]) rfl ?_
          refine g_iloadN X17 hx hby at_84 (pc' := 85) rfl rfl ?_
          refine g_bipush X17 hx hby at_85 (pc' := 87) rfl (z := (15 : Int32)) rfl ?_
          refine g_iand X17 hx hby at_87 (pc' := 88) rfl ?_
          refine g_istore X17 hx hby at_88 (pc' := 90) rfl (l' := #[.val (.int q1), .val (.int q2), .val (.int q3), .val (.int q4), .val (.int q5), .val (.int ((q1 &&& (2147483647 : Int32)) - ((q1 &&& (2147483647 : Int32)) / (5 : Int32)) * (5 : Int32))), .val (.ref b17), .val (.int (q5 &&& (7 : Int32))), .val (.int (q3 &&& (15 : Int32))), .unset, .unset, .unset]) rfl ?_
          refine g_iloadN X17 hx hby at_90 (pc' := 91) rfl rfl ?_
          refine g_sipush X17 hx hby at_91 (pc' := 94) rfl (z := (255 : Int32)) rfl ?_
          refine g_iand X17 hx hby at_94 (pc' := 95) rfl ?_
          refine g_i2c X17 hx hby at_95 (pc' := 96) rfl ?_
          refine g_istore X17 hx hby at_96 (pc' := 98) rfl (l' := #[.val (.int q1), .val (.int q2), .val (.int q3), .val (.int q4), .val (.int q5), .val (.int ((q1 &&& (2147483647 : Int32)) - ((q1 &&& (2147483647 : Int32)) / (5 : Int32)) * (5 : Int32))), .val (.ref b17), .val (.int (q5 &&& (7 : Int32))), .val (.int (q3 &&& (15 : Int32))), .val (.int (lch q4)), .unset, .unset]) rfl ?_
          refine g_aload X17 hx hby at_98 (pc' := 100) rfl rfl rfl ?_
          refine g_iload X17 hx hby at_100 (pc' := 102) rfl rfl ?_
          refine g_iload X17 hx hby at_102 (pc' := 104) rfl rfl ?_
          refine g_iload X17 hx hby at_104 (pc' := 106) rfl rfl ?_
          refine g_callSH X17 hx hZ17 hown17 (W := 0) (argsL := [.ref b17, .int (q5 &&& (7 : Int32)), .int (q3 &&& (15 : Int32)), .int (lch q4)]) (rest := []) hby at_106 (pc' := 109) rfl (by rw [hml]; rfl) (w_9 hw) (w_10 hw) (w_11 hw) (w_12 hw) (by decide) (rmB l Z a0 hw [] b17 (q5 &&& (7 : Int32)) (q3 &&& (15 : Int32)) (lch q4) T17.heap n0 wl_2 Tx18 (own_bl _) Z17 cs fm SS O17o) rfl hS17 hk17 (own_EL hw) C17c.1 (by decide) (by decide) (by decide) (by decide) rfl pd__28Ljava_2flang_2fString_3bIIC_29Ljava_2flang_2fString_3b rfl rfl (Nat.le_of_eq rfl) ?_
          rintro _ T20 L20 X20 (⟨b20, rfl, N20q, K20, G20, Tx20⟩) hS20 hZ20 hown20 C20h
          have N20 := Fr.app N0 N20q
          have C20c := C17c.trans C20h
          have nb20_b17 : b17 ≠ b20 := Nat.ne_of_lt (Nat.lt_of_lt_of_le Tx18.lt G20)
          have O20 := O17o.keep K20 all0
          have Z20 := Nat.le_trans Z17 K20.1
          have Y20 := Nat.le_trans hk17 K20.1
          have X20t_b17 := Tx18.keep0 K20
          have E20_b17 := Tx18.1.keep K20
          show GoE p e below _ (T20.setTop (mkF m 109 #[.val (.int q1), .val (.int q2), .val (.int q3), .val (.int q4), .val (.int q5), .val (.int ((q1 &&& (2147483647 : Int32)) - ((q1 &&& (2147483647 : Int32)) / (5 : Int32)) * (5 : Int32))), .val (.ref b17), .val (.int (q5 &&& (7 : Int32))), .val (.int (q3 &&& (15 : Int32))), .val (.int (lch q4)), .unset, .unset] [.ref b20]))
          refine g_astore X20 hx hby at_109 (pc' := 111) rfl rfl (l' := #[.val (.int q1), .val (.int q2), .val (.int q3), .val (.int q4), .val (.int q5), .val (.int ((q1 &&& (2147483647 : Int32)) - ((q1 &&& (2147483647 : Int32)) / (5 : Int32)) * (5 : Int32))), .val (.ref b17), .val (.int (q5 &&& (7 : Int32))), .val (.int (q3 &&& (15 : Int32))), .val (.int (lch q4)), .val (.ref b20), .unset]) rfl ?_
          exact tail0 l Z a0 hw q1 q2 q3 q4 q5 n0 kd0 kd1 kd2 kd3 kd4 wd0 wd1 wd2 wd3 bV em kV hK cs fm SS ((q1 &&& (2147483647 : Int32)) - ((q1 &&& (2147483647 : Int32)) / (5 : Int32)) * (5 : Int32)) (q5 &&& (7 : Int32)) (q3 &&& (15 : Int32)) (lch q4) b17 b20 _ hx hby hml hret hlk hZ20 hown20 X20 N20 hS20 (Nat.le_refl T20.heap.size) C20c Z20 O20 Tx20
        · refine g_aload X17 hx hby at_69 (pc' := 71) rfl rfl rfl ?_
          refine g_callV X17 hx hZ17 hown17 (W := 0) (argsL := []) (b := b17) (rest := []) hby at_71 (pc' := 74) rfl (by rw [hml]; rfl) (w_85 hw) (w_86 hw) (w_88 hw) (notFace_of_selects (args := #[]) (mvT hZ17 (w_88 hw))) (w_87 hw) (w_2 hw) (w_89 hw) (by decide) (rmSL l Z a0 hw [] b17 T17.heap n0 wl_2 Tx18 cs fm SS O17o) rfl Tx18.1 (by decide) (by decide) (by decide) (by decide) rfl pd__28_29I rfl rfl (Nat.le_of_eq rfl) ?_
          rintro _ T21 L21 X21 ⟨rfl, N21q, e21⟩
          have N21 := Fr.app N0 N21q
          show GoE p e below _ (T21.setTop (mkF m 74 #[.val (.int q1), .val (.int q2), .val (.int q3), .val (.int q4), .val (.int q5), .val (.int ((q1 &&& (2147483647 : Int32)) - ((q1 &&& (2147483647 : Int32)) / (5 : Int32)) * (5 : Int32))), .val (.ref b17), .unset, .unset, .unset, .unset, .unset] [.int (Int32.ofNat wl_2.length)]))
          refine g_goto X21 hx hby at_74 (by decide) (pc' := 82) (by decide) ?_
          refine g_istore X21 hx hby at_82 (pc' := 84) rfl (l' := #[.val (.int q1), .val (.int q2), .val (.int q3), .val (.int q4), .val (.int q5), .val (.int ((q1 &&& (2147483647 : Int32)) - ((q1 &&& (2147483647 : Int32)) / (5 : Int32)) * (5 : Int32))), .val (.ref b17), .val (.int (Int32.ofNat wl_2.length)), .unset, .unset, .unset, .unset]) rfl ?_
          refine g_iloadN X21 hx hby at_84 (pc' := 85) rfl rfl ?_
          refine g_bipush X21 hx hby at_85 (pc' := 87) rfl (z := (15 : Int32)) rfl ?_
          refine g_iand X21 hx hby at_87 (pc' := 88) rfl ?_
          refine g_istore X21 hx hby at_88 (pc' := 90) rfl (l' := #[.val (.int q1), .val (.int q2), .val (.int q3), .val (.int q4), .val (.int q5), .val (.int ((q1 &&& (2147483647 : Int32)) - ((q1 &&& (2147483647 : Int32)) / (5 : Int32)) * (5 : Int32))), .val (.ref b17), .val (.int (Int32.ofNat wl_2.length)), .val (.int (q3 &&& (15 : Int32))), .unset, .unset, .unset]) rfl ?_
          refine g_iloadN X21 hx hby at_90 (pc' := 91) rfl rfl ?_
          refine g_sipush X21 hx hby at_91 (pc' := 94) rfl (z := (255 : Int32)) rfl ?_
          refine g_iand X21 hx hby at_94 (pc' := 95) rfl ?_
          refine g_i2c X21 hx hby at_95 (pc' := 96) rfl ?_
          refine g_istore X21 hx hby at_96 (pc' := 98) rfl (l' := #[.val (.int q1), .val (.int q2), .val (.int q3), .val (.int q4), .val (.int q5), .val (.int ((q1 &&& (2147483647 : Int32)) - ((q1 &&& (2147483647 : Int32)) / (5 : Int32)) * (5 : Int32))), .val (.ref b17), .val (.int (Int32.ofNat wl_2.length)), .val (.int (q3 &&& (15 : Int32))), .val (.int (lch q4)), .unset, .unset]) rfl ?_
          refine g_aload X21 hx hby at_98 (pc' := 100) rfl rfl rfl ?_
          refine g_iload X21 hx hby at_100 (pc' := 102) rfl rfl ?_
          refine g_iload X21 hx hby at_102 (pc' := 104) rfl rfl ?_
          refine g_iload X21 hx hby at_104 (pc' := 106) rfl rfl ?_
          refine g_callSH X21 hx hZ17 hown17 (W := 0) (argsL := [.ref b17, .int (Int32.ofNat wl_2.length), .int (q3 &&& (15 : Int32)), .int (lch q4)]) (rest := []) hby at_106 (pc' := 109) rfl (by rw [hml]; rfl) (w_9 hw) (w_10 hw) (w_11 hw) (w_12 hw) (by decide) (rmB l Z a0 hw [] b17 (Int32.ofNat wl_2.length) (q3 &&& (15 : Int32)) (lch q4) T17.heap n0 wl_2 Tx18 (own_bl _) Z17 cs fm SS O17o) e21 hS17 hk17 (own_EL hw) C17c.1 (by decide) (by decide) (by decide) (by decide) rfl pd__28Ljava_2flang_2fString_3bIIC_29Ljava_2flang_2fString_3b rfl rfl (Nat.le_of_eq rfl) ?_
          rintro _ T22 L22 X22 (⟨b22, rfl, N22q, K22, G22, Tx22⟩) hS22 hZ22 hown22 C22h
          have N22 := Fr.app N21 N22q
          have C22c := C17c.trans C22h
          have nb22_b17 : b17 ≠ b22 := Nat.ne_of_lt (Nat.lt_of_lt_of_le Tx18.lt G22)
          have O22 := O17o.keep K22 all0
          have Z22 := Nat.le_trans Z17 K22.1
          have Y22 := Nat.le_trans hk17 K22.1
          have X22t_b17 := Tx18.keep0 K22
          have E22_b17 := Tx18.1.keep K22
          show GoE p e below _ (T22.setTop (mkF m 109 #[.val (.int q1), .val (.int q2), .val (.int q3), .val (.int q4), .val (.int q5), .val (.int ((q1 &&& (2147483647 : Int32)) - ((q1 &&& (2147483647 : Int32)) / (5 : Int32)) * (5 : Int32))), .val (.ref b17), .val (.int (Int32.ofNat wl_2.length)), .val (.int (q3 &&& (15 : Int32))), .val (.int (lch q4)), .unset, .unset] [.ref b22]))
          refine g_astore X22 hx hby at_109 (pc' := 111) rfl rfl (l' := #[.val (.int q1), .val (.int q2), .val (.int q3), .val (.int q4), .val (.int q5), .val (.int ((q1 &&& (2147483647 : Int32)) - ((q1 &&& (2147483647 : Int32)) / (5 : Int32)) * (5 : Int32))), .val (.ref b17), .val (.int (Int32.ofNat wl_2.length)), .val (.int (q3 &&& (15 : Int32))), .val (.int (lch q4)), .val (.ref b22), .unset]) rfl ?_
          exact tail0 l Z a0 hw q1 q2 q3 q4 q5 n0 kd0 kd1 kd2 kd3 kd4 wd0 wd1 wd2 wd3 bV em kV hK cs fm SS ((q1 &&& (2147483647 : Int32)) - ((q1 &&& (2147483647 : Int32)) / (5 : Int32)) * (5 : Int32)) (Int32.ofNat wl_2.length) (q3 &&& (15 : Int32)) (lch q4) b17 b22 _ hx hby hml hret hlk hZ22 hown22 X22 N22 hS22 (Nat.le_refl T22.heap.size) C22c Z22 O22 Tx22
    · refine g_ldcH X0 hx hZ hown 24 [.int (110 : Int32), .int (117 : Int32), .int (109 : Int32), .int (98 : Int32), .int (101 : Int32), .int (114 : Int32)] (6 : Int32) hby at_26 (pc' := 28) rfl (w_82 hw) (own_str hw) e0 hS0 (Nat.le_refl h0.size) (own_EL hw) (List.mem_of_getElem? (i := 1) rfl) C0h.1 (by decide) (by decide) (by decide) (by decide) (by decide) (by decide) (by decide) ?_
      intro b23 T23 k23 v23 c23 X23 E23 hS23 hk23 hZ23 hown23 Ex23 Fc23 Fv23 Av23 C23h sn23
      have C23c := C0h.trans C23h
      have O23o := O0.ext E23
      have Z23 := Nat.le_trans Z0 E23.1
      have Y23 := Nat.le_trans (Nat.le_refl h0.size) E23.1
      have Tx24 : Txt Z T23.heap b23 wl_1 := ⟨Ex23, by decide, v23, _, Fv23, Fc23, Av23⟩
      refine g_astore X23 hx hby at_28 (pc' := 30) rfl rfl (l' := #[.val (.int q1), .val (.int q2), .val (.int q3), .val (.int q4), .val (.int q5), .val (.int ((q1 &&& (2147483647 : Int32)) - ((q1 &&& (2147483647 : Int32)) / (5 : Int32)) * (5 : Int32))), .val (.ref b23), .unset, .unset, .unset, .unset, .unset]) rfl ?_
      refine g_goto X23 hx hby at_30 (by decide) (pc' := 63) (by decide) ?_
      refine g_iloadN X23 hx hby at_63 (pc' := 64) rfl rfl ?_
      refine g_iconst X23 hx hby at_64 (pc' := 65) rfl (z := (1 : Int32)) rfl ?_
      refine g_iand X23 hx hby at_65 (pc' := 66) rfl ?_
      refine g_if_ne X23 hx hby at_66 (by decide) (pc' := 77) (by decide) (pn := 69) rfl (fun hc66_25 => ?_) (fun hc66_25 => ?_)
      · refine g_iload X23 hx hby at_77 (pc' := 79) rfl rfl ?_
        refine g_bipush X23 hx hby at_79 (pc' := 81) rfl (z := (7 : Int32)) rfl ?_
        refine g_iand X23 hx hby at_81 (pc' := 82) rfl ?_
        refine g_istore X23 hx hby at_82 (pc' := 84) rfl (l' := #[.val (.int q1), .val (.int q2), .val (.int q3), .val (.int q4), .val (.int q5), .val (.int ((q1 &&& (2147483647 : Int32)) - ((q1 &&& (2147483647 : Int32)) / (5 : Int32)) * (5 : Int32))), .val (.ref b23), .val (.int (q5 &&& (7 : Int32))), .unset, .unset, .unset, .unset]) rfl ?_
        refine g_iloadN X23 hx hby at_84 (pc' := 85) rfl rfl ?_
        refine g_bipush X23 hx hby at_85 (pc' := 87) rfl (z := (15 : Int32)) rfl ?_
        refine g_iand X23 hx hby at_87 (pc' := 88) rfl ?_
        refine g_istore X23 hx hby at_88 (pc' := 90) rfl (l' := #[.val (.int q1), .val (.int q2), .val (.int q3), .val (.int q4), .val (.int q5), .val (.int ((q1 &&& (2147483647 : Int32)) - ((q1 &&& (2147483647 : Int32)) / (5 : Int32)) * (5 : Int32))), .val (.ref b23), .val (.int (q5 &&& (7 : Int32))), .val (.int (q3 &&& (15 : Int32))), .unset, .unset, .unset]) rfl ?_
        refine g_iloadN X23 hx hby at_90 (pc' := 91) rfl rfl ?_
        refine g_sipush X23 hx hby at_91 (pc' := 94) rfl (z := (255 : Int32)) rfl ?_
        refine g_iand X23 hx hby at_94 (pc' := 95) rfl ?_
        refine g_i2c X23 hx hby at_95 (pc' := 96) rfl ?_
        refine g_istore X23 hx hby at_96 (pc' := 98) rfl (l' := #[.val (.int q1), .val (.int q2), .val (.int q3), .val (.int q4), .val (.int q5), .val (.int ((q1 &&& (2147483647 : Int32)) - ((q1 &&& (2147483647 : Int32)) / (5 : Int32)) * (5 : Int32))), .val (.ref b23), .val (.int (q5 &&& (7 : Int32))), .val (.int (q3 &&& (15 : Int32))), .val (.int (lch q4)), .unset, .unset]) rfl ?_
        refine g_aload X23 hx hby at_98 (pc' := 100) rfl rfl rfl ?_
        refine g_iload X23 hx hby at_100 (pc' := 102) rfl rfl ?_
        refine g_iload X23 hx hby at_102 (pc' := 104) rfl rfl ?_
        refine g_iload X23 hx hby at_104 (pc' := 106) rfl rfl ?_
        refine g_callSH X23 hx hZ23 hown23 (W := 0) (argsL := [.ref b23, .int (q5 &&& (7 : Int32)), .int (q3 &&& (15 : Int32)), .int (lch q4)]) (rest := []) hby at_106 (pc' := 109) rfl (by rw [hml]; rfl) (w_9 hw) (w_10 hw) (w_11 hw) (w_12 hw) (by decide) (rmB l Z a0 hw [] b23 (q5 &&& (7 : Int32)) (q3 &&& (15 : Int32)) (lch q4) T23.heap n0 wl_1 Tx24 (own_bl _) Z23 cs fm SS O23o) rfl hS23 hk23 (own_EL hw) C23c.1 (by decide) (by decide) (by decide) (by decide) rfl pd__28Ljava_2flang_2fString_3bIIC_29Ljava_2flang_2fString_3b rfl rfl (Nat.le_of_eq rfl) ?_
        rintro _ T26 L26 X26 (⟨b26, rfl, N26q, K26, G26, Tx26⟩) hS26 hZ26 hown26 C26h
        have N26 := Fr.app N0 N26q
        have C26c := C23c.trans C26h
        have nb26_b23 : b23 ≠ b26 := Nat.ne_of_lt (Nat.lt_of_lt_of_le Tx24.lt G26)
        have O26 := O23o.keep K26 all0
        have Z26 := Nat.le_trans Z23 K26.1
        have Y26 := Nat.le_trans hk23 K26.1
        have X26t_b23 := Tx24.keep0 K26
        have E26_b23 := Tx24.1.keep K26
        show GoE p e below _ (T26.setTop (mkF m 109 #[.val (.int q1), .val (.int q2), .val (.int q3), .val (.int q4), .val (.int q5), .val (.int ((q1 &&& (2147483647 : Int32)) - ((q1 &&& (2147483647 : Int32)) / (5 : Int32)) * (5 : Int32))), .val (.ref b23), .val (.int (q5 &&& (7 : Int32))), .val (.int (q3 &&& (15 : Int32))), .val (.int (lch q4)), .unset, .unset] [.ref b26]))
        refine g_astore X26 hx hby at_109 (pc' := 111) rfl rfl (l' := #[.val (.int q1), .val (.int q2), .val (.int q3), .val (.int q4), .val (.int q5), .val (.int ((q1 &&& (2147483647 : Int32)) - ((q1 &&& (2147483647 : Int32)) / (5 : Int32)) * (5 : Int32))), .val (.ref b23), .val (.int (q5 &&& (7 : Int32))), .val (.int (q3 &&& (15 : Int32))), .val (.int (lch q4)), .val (.ref b26), .unset]) rfl ?_
        exact tail0 l Z a0 hw q1 q2 q3 q4 q5 n0 kd0 kd1 kd2 kd3 kd4 wd0 wd1 wd2 wd3 bV em kV hK cs fm SS ((q1 &&& (2147483647 : Int32)) - ((q1 &&& (2147483647 : Int32)) / (5 : Int32)) * (5 : Int32)) (q5 &&& (7 : Int32)) (q3 &&& (15 : Int32)) (lch q4) b23 b26 _ hx hby hml hret hlk hZ26 hown26 X26 N26 hS26 (Nat.le_refl T26.heap.size) C26c Z26 O26 Tx26
      · refine g_aload X23 hx hby at_69 (pc' := 71) rfl rfl rfl ?_
        refine g_callV X23 hx hZ23 hown23 (W := 0) (argsL := []) (b := b23) (rest := []) hby at_71 (pc' := 74) rfl (by rw [hml]; rfl) (w_85 hw) (w_86 hw) (w_88 hw) (notFace_of_selects (args := #[]) (mvT hZ23 (w_88 hw))) (w_87 hw) (w_2 hw) (w_89 hw) (by decide) (rmSL l Z a0 hw [] b23 T23.heap n0 wl_1 Tx24 cs fm SS O23o) rfl Tx24.1 (by decide) (by decide) (by decide) (by decide) rfl pd__28_29I rfl rfl (Nat.le_of_eq rfl) ?_
        rintro _ T27 L27 X27 ⟨rfl, N27q, e27⟩
        have N27 := Fr.app N0 N27q
        show GoE p e below _ (T27.setTop (mkF m 74 #[.val (.int q1), .val (.int q2), .val (.int q3), .val (.int q4), .val (.int q5), .val (.int ((q1 &&& (2147483647 : Int32)) - ((q1 &&& (2147483647 : Int32)) / (5 : Int32)) * (5 : Int32))), .val (.ref b23), .unset, .unset, .unset, .unset, .unset] [.int (Int32.ofNat wl_1.length)]))
        refine g_goto X27 hx hby at_74 (by decide) (pc' := 82) (by decide) ?_
        refine g_istore X27 hx hby at_82 (pc' := 84) rfl (l' := #[.val (.int q1), .val (.int q2), .val (.int q3), .val (.int q4), .val (.int q5), .val (.int ((q1 &&& (2147483647 : Int32)) - ((q1 &&& (2147483647 : Int32)) / (5 : Int32)) * (5 : Int32))), .val (.ref b23), .val (.int (Int32.ofNat wl_1.length)), .unset, .unset, .unset, .unset]) rfl ?_
        refine g_iloadN X27 hx hby at_84 (pc' := 85) rfl rfl ?_
        refine g_bipush X27 hx hby at_85 (pc' := 87) rfl (z := (15 : Int32)) rfl ?_
        refine g_iand X27 hx hby at_87 (pc' := 88) rfl ?_
        refine g_istore X27 hx hby at_88 (pc' := 90) rfl (l' := #[.val (.int q1), .val (.int q2), .val (.int q3), .val (.int q4), .val (.int q5), .val (.int ((q1 &&& (2147483647 : Int32)) - ((q1 &&& (2147483647 : Int32)) / (5 : Int32)) * (5 : Int32))), .val (.ref b23), .val (.int (Int32.ofNat wl_1.length)), .val (.int (q3 &&& (15 : Int32))), .unset, .unset, .unset]) rfl ?_
        refine g_iloadN X27 hx hby at_90 (pc' := 91) rfl rfl ?_
        refine g_sipush X27 hx hby at_91 (pc' := 94) rfl (z := (255 : Int32)) rfl ?_
        refine g_iand X27 hx hby at_94 (pc' := 95) rfl ?_
        refine g_i2c X27 hx hby at_95 (pc' := 96) rfl ?_
        refine g_istore X27 hx hby at_96 (pc' := 98) rfl (l' := #[.val (.int q1), .val (.int q2), .val (.int q3), .val (.int q4), .val (.int q5), .val (.int ((q1 &&& (2147483647 : Int32)) - ((q1 &&& (2147483647 : Int32)) / (5 : Int32)) * (5 : Int32))), .val (.ref b23), .val (.int (Int32.ofNat wl_1.length)), .val (.int (q3 &&& (15 : Int32))), .val (.int (lch q4)), .unset, .unset]) rfl ?_
        refine g_aload X27 hx hby at_98 (pc' := 100) rfl rfl rfl ?_
        refine g_iload X27 hx hby at_100 (pc' := 102) rfl rfl ?_
        refine g_iload X27 hx hby at_102 (pc' := 104) rfl rfl ?_
        refine g_iload X27 hx hby at_104 (pc' := 106) rfl rfl ?_
        refine g_callSH X27 hx hZ23 hown23 (W := 0) (argsL := [.ref b23, .int (Int32.ofNat wl_1.length), .int (q3 &&& (15 : Int32)), .int (lch q4)]) (rest := []) hby at_106 (pc' := 109) rfl (by rw [hml]; rfl) (w_9 hw) (w_10 hw) (w_11 hw) (w_12 hw) (by decide) (rmB l Z a0 hw [] b23 (Int32.ofNat wl_1.length) (q3 &&& (15 : Int32)) (lch q4) T23.heap n0 wl_1 Tx24 (own_bl _) Z23 cs fm SS O23o) e27 hS23 hk23 (own_EL hw) C23c.1 (by decide) (by decide) (by decide) (by decide) rfl pd__28Ljava_2flang_2fString_3bIIC_29Ljava_2flang_2fString_3b rfl rfl (Nat.le_of_eq rfl) ?_
        rintro _ T28 L28 X28 (⟨b28, rfl, N28q, K28, G28, Tx28⟩) hS28 hZ28 hown28 C28h
        have N28 := Fr.app N27 N28q
        have C28c := C23c.trans C28h
        have nb28_b23 : b23 ≠ b28 := Nat.ne_of_lt (Nat.lt_of_lt_of_le Tx24.lt G28)
        have O28 := O23o.keep K28 all0
        have Z28 := Nat.le_trans Z23 K28.1
        have Y28 := Nat.le_trans hk23 K28.1
        have X28t_b23 := Tx24.keep0 K28
        have E28_b23 := Tx24.1.keep K28
        show GoE p e below _ (T28.setTop (mkF m 109 #[.val (.int q1), .val (.int q2), .val (.int q3), .val (.int q4), .val (.int q5), .val (.int ((q1 &&& (2147483647 : Int32)) - ((q1 &&& (2147483647 : Int32)) / (5 : Int32)) * (5 : Int32))), .val (.ref b23), .val (.int (Int32.ofNat wl_1.length)), .val (.int (q3 &&& (15 : Int32))), .val (.int (lch q4)), .unset, .unset] [.ref b28]))
        refine g_astore X28 hx hby at_109 (pc' := 111) rfl rfl (l' := #[.val (.int q1), .val (.int q2), .val (.int q3), .val (.int q4), .val (.int q5), .val (.int ((q1 &&& (2147483647 : Int32)) - ((q1 &&& (2147483647 : Int32)) / (5 : Int32)) * (5 : Int32))), .val (.ref b23), .val (.int (Int32.ofNat wl_1.length)), .val (.int (q3 &&& (15 : Int32))), .val (.int (lch q4)), .val (.ref b28), .unset]) rfl ?_
        exact tail0 l Z a0 hw q1 q2 q3 q4 q5 n0 kd0 kd1 kd2 kd3 kd4 wd0 wd1 wd2 wd3 bV em kV hK cs fm SS ((q1 &&& (2147483647 : Int32)) - ((q1 &&& (2147483647 : Int32)) / (5 : Int32)) * (5 : Int32)) (Int32.ofNat wl_1.length) (q3 &&& (15 : Int32)) (lch q4) b23 b28 _ hx hby hml hret hlk hZ28 hown28 X28 N28 hS28 (Nat.le_refl T28.heap.size) C28c Z28 O28 Tx28
  · refine g_ldcH X0 hx hZ hown 24 [.int (115 : Int32), .int (105 : Int32), .int (100 : Int32), .int (101 : Int32)] (4 : Int32) hby at_13 (pc' := 15) rfl (w_1 hw) (own_str hw) e0 hS0 (Nat.le_refl h0.size) (own_EL hw) (List.mem_of_getElem? (i := 0) rfl) C0h.1 (by decide) (by decide) (by decide) (by decide) (by decide) (by decide) (by decide) ?_
    intro b29 T29 k29 v29 c29 X29 E29 hS29 hk29 hZ29 hown29 Ex29 Fc29 Fv29 Av29 C29h sn29
    have C29c := C0h.trans C29h
    have O29o := O0.ext E29
    have Z29 := Nat.le_trans Z0 E29.1
    have Y29 := Nat.le_trans (Nat.le_refl h0.size) E29.1
    have Tx30 : Txt Z T29.heap b29 wl_0 := ⟨Ex29, by decide, v29, _, Fv29, Fc29, Av29⟩
    refine g_astore X29 hx hby at_15 (pc' := 17) rfl rfl (l' := #[.val (.int q1), .val (.int q2), .val (.int q3), .val (.int q4), .val (.int q5), .val (.int ((q1 &&& (2147483647 : Int32)) - ((q1 &&& (2147483647 : Int32)) / (5 : Int32)) * (5 : Int32))), .val (.ref b29), .unset, .unset, .unset, .unset, .unset]) rfl ?_
    refine g_goto X29 hx hby at_17 (by decide) (pc' := 63) (by decide) ?_
    refine g_iloadN X29 hx hby at_63 (pc' := 64) rfl rfl ?_
    refine g_iconst X29 hx hby at_64 (pc' := 65) rfl (z := (1 : Int32)) rfl ?_
    refine g_iand X29 hx hby at_65 (pc' := 66) rfl ?_
    refine g_if_ne X29 hx hby at_66 (by decide) (pc' := 77) (by decide) (pn := 69) rfl (fun hc66_31 => ?_) (fun hc66_31 => ?_)
    · refine g_iload X29 hx hby at_77 (pc' := 79) rfl rfl ?_
      refine g_bipush X29 hx hby at_79 (pc' := 81) rfl (z := (7 : Int32)) rfl ?_
      refine g_iand X29 hx hby at_81 (pc' := 82) rfl ?_
      refine g_istore X29 hx hby at_82 (pc' := 84) rfl (l' := #[.val (.int q1), .val (.int q2), .val (.int q3), .val (.int q4), .val (.int q5), .val (.int ((q1 &&& (2147483647 : Int32)) - ((q1 &&& (2147483647 : Int32)) / (5 : Int32)) * (5 : Int32))), .val (.ref b29), .val (.int (q5 &&& (7 : Int32))), .unset, .unset, .unset, .unset]) rfl ?_
      refine g_iloadN X29 hx hby at_84 (pc' := 85) rfl rfl ?_
      refine g_bipush X29 hx hby at_85 (pc' := 87) rfl (z := (15 : Int32)) rfl ?_
      refine g_iand X29 hx hby at_87 (pc' := 88) rfl ?_
      refine g_istore X29 hx hby at_88 (pc' := 90) rfl (l' := #[.val (.int q1), .val (.int q2), .val (.int q3), .val (.int q4), .val (.int q5), .val (.int ((q1 &&& (2147483647 : Int32)) - ((q1 &&& (2147483647 : Int32)) / (5 : Int32)) * (5 : Int32))), .val (.ref b29), .val (.int (q5 &&& (7 : Int32))), .val (.int (q3 &&& (15 : Int32))), .unset, .unset, .unset]) rfl ?_
      refine g_iloadN X29 hx hby at_90 (pc' := 91) rfl rfl ?_
      refine g_sipush X29 hx hby at_91 (pc' := 94) rfl (z := (255 : Int32)) rfl ?_
      refine g_iand X29 hx hby at_94 (pc' := 95) rfl ?_
      refine g_i2c X29 hx hby at_95 (pc' := 96) rfl ?_
      refine g_istore X29 hx hby at_96 (pc' := 98) rfl (l' := #[.val (.int q1), .val (.int q2), .val (.int q3), .val (.int q4), .val (.int q5), .val (.int ((q1 &&& (2147483647 : Int32)) - ((q1 &&& (2147483647 : Int32)) / (5 : Int32)) * (5 : Int32))), .val (.ref b29), .val (.int (q5 &&& (7 : Int32))), .val (.int (q3 &&& (15 : Int32))), .val (.int (lch q4)), .unset, .unset]) rfl ?_
      refine g_aload X29 hx hby at_98 (pc' := 100) rfl rfl rfl ?_
      refine g_iload X29 hx hby at_100 (pc' := 102) rfl rfl ?_
      refine g_iload X29 hx hby at_102 (pc' := 104) rfl rfl ?_
      refine g_iload X29 hx hby at_104 (pc' := 106) rfl rfl ?_
      refine g_callSH X29 hx hZ29 hown29 (W := 0) (argsL := [.ref b29, .int (q5 &&& (7 : Int32)), .int (q3 &&& (15 : Int32)), .int (lch q4)]) (rest := []) hby at_106 (pc' := 109) rfl (by rw [hml]; rfl) (w_9 hw) (w_10 hw) (w_11 hw) (w_12 hw) (by decide) (rmB l Z a0 hw [] b29 (q5 &&& (7 : Int32)) (q3 &&& (15 : Int32)) (lch q4) T29.heap n0 wl_0 Tx30 (own_bl _) Z29 cs fm SS O29o) rfl hS29 hk29 (own_EL hw) C29c.1 (by decide) (by decide) (by decide) (by decide) rfl pd__28Ljava_2flang_2fString_3bIIC_29Ljava_2flang_2fString_3b rfl rfl (Nat.le_of_eq rfl) ?_
      rintro _ T32 L32 X32 (⟨b32, rfl, N32q, K32, G32, Tx32⟩) hS32 hZ32 hown32 C32h
      have N32 := Fr.app N0 N32q
      have C32c := C29c.trans C32h
      have nb32_b29 : b29 ≠ b32 := Nat.ne_of_lt (Nat.lt_of_lt_of_le Tx30.lt G32)
      have O32 := O29o.keep K32 all0
      have Z32 := Nat.le_trans Z29 K32.1
      have Y32 := Nat.le_trans hk29 K32.1
      have X32t_b29 := Tx30.keep0 K32
      have E32_b29 := Tx30.1.keep K32
      show GoE p e below _ (T32.setTop (mkF m 109 #[.val (.int q1), .val (.int q2), .val (.int q3), .val (.int q4), .val (.int q5), .val (.int ((q1 &&& (2147483647 : Int32)) - ((q1 &&& (2147483647 : Int32)) / (5 : Int32)) * (5 : Int32))), .val (.ref b29), .val (.int (q5 &&& (7 : Int32))), .val (.int (q3 &&& (15 : Int32))), .val (.int (lch q4)), .unset, .unset] [.ref b32]))
      refine g_astore X32 hx hby at_109 (pc' := 111) rfl rfl (l' := #[.val (.int q1), .val (.int q2), .val (.int q3), .val (.int q4), .val (.int q5), .val (.int ((q1 &&& (2147483647 : Int32)) - ((q1 &&& (2147483647 : Int32)) / (5 : Int32)) * (5 : Int32))), .val (.ref b29), .val (.int (q5 &&& (7 : Int32))), .val (.int (q3 &&& (15 : Int32))), .val (.int (lch q4)), .val (.ref b32), .unset]) rfl ?_
      exact tail0 l Z a0 hw q1 q2 q3 q4 q5 n0 kd0 kd1 kd2 kd3 kd4 wd0 wd1 wd2 wd3 bV em kV hK cs fm SS ((q1 &&& (2147483647 : Int32)) - ((q1 &&& (2147483647 : Int32)) / (5 : Int32)) * (5 : Int32)) (q5 &&& (7 : Int32)) (q3 &&& (15 : Int32)) (lch q4) b29 b32 _ hx hby hml hret hlk hZ32 hown32 X32 N32 hS32 (Nat.le_refl T32.heap.size) C32c Z32 O32 Tx32
    · refine g_aload X29 hx hby at_69 (pc' := 71) rfl rfl rfl ?_
      refine g_callV X29 hx hZ29 hown29 (W := 0) (argsL := []) (b := b29) (rest := []) hby at_71 (pc' := 74) rfl (by rw [hml]; rfl) (w_85 hw) (w_86 hw) (w_88 hw) (notFace_of_selects (args := #[]) (mvT hZ29 (w_88 hw))) (w_87 hw) (w_2 hw) (w_89 hw) (by decide) (rmSL l Z a0 hw [] b29 T29.heap n0 wl_0 Tx30 cs fm SS O29o) rfl Tx30.1 (by decide) (by decide) (by decide) (by decide) rfl pd__28_29I rfl rfl (Nat.le_of_eq rfl) ?_
      rintro _ T33 L33 X33 ⟨rfl, N33q, e33⟩
      have N33 := Fr.app N0 N33q
      show GoE p e below _ (T33.setTop (mkF m 74 #[.val (.int q1), .val (.int q2), .val (.int q3), .val (.int q4), .val (.int q5), .val (.int ((q1 &&& (2147483647 : Int32)) - ((q1 &&& (2147483647 : Int32)) / (5 : Int32)) * (5 : Int32))), .val (.ref b29), .unset, .unset, .unset, .unset, .unset] [.int (Int32.ofNat wl_0.length)]))
      refine g_goto X33 hx hby at_74 (by decide) (pc' := 82) (by decide) ?_
      refine g_istore X33 hx hby at_82 (pc' := 84) rfl (l' := #[.val (.int q1), .val (.int q2), .val (.int q3), .val (.int q4), .val (.int q5), .val (.int ((q1 &&& (2147483647 : Int32)) - ((q1 &&& (2147483647 : Int32)) / (5 : Int32)) * (5 : Int32))), .val (.ref b29), .val (.int (Int32.ofNat wl_0.length)), .unset, .unset, .unset, .unset]) rfl ?_
      refine g_iloadN X33 hx hby at_84 (pc' := 85) rfl rfl ?_
      refine g_bipush X33 hx hby at_85 (pc' := 87) rfl (z := (15 : Int32)) rfl ?_
      refine g_iand X33 hx hby at_87 (pc' := 88) rfl ?_
      refine g_istore X33 hx hby at_88 (pc' := 90) rfl (l' := #[.val (.int q1), .val (.int q2), .val (.int q3), .val (.int q4), .val (.int q5), .val (.int ((q1 &&& (2147483647 : Int32)) - ((q1 &&& (2147483647 : Int32)) / (5 : Int32)) * (5 : Int32))), .val (.ref b29), .val (.int (Int32.ofNat wl_0.length)), .val (.int (q3 &&& (15 : Int32))), .unset, .unset, .unset]) rfl ?_
      refine g_iloadN X33 hx hby at_90 (pc' := 91) rfl rfl ?_
      refine g_sipush X33 hx hby at_91 (pc' := 94) rfl (z := (255 : Int32)) rfl ?_
      refine g_iand X33 hx hby at_94 (pc' := 95) rfl ?_
      refine g_i2c X33 hx hby at_95 (pc' := 96) rfl ?_
      refine g_istore X33 hx hby at_96 (pc' := 98) rfl (l' := #[.val (.int q1), .val (.int q2), .val (.int q3), .val (.int q4), .val (.int q5), .val (.int ((q1 &&& (2147483647 : Int32)) - ((q1 &&& (2147483647 : Int32)) / (5 : Int32)) * (5 : Int32))), .val (.ref b29), .val (.int (Int32.ofNat wl_0.length)), .val (.int (q3 &&& (15 : Int32))), .val (.int (lch q4)), .unset, .unset]) rfl ?_
      refine g_aload X33 hx hby at_98 (pc' := 100) rfl rfl rfl ?_
      refine g_iload X33 hx hby at_100 (pc' := 102) rfl rfl ?_
      refine g_iload X33 hx hby at_102 (pc' := 104) rfl rfl ?_
      refine g_iload X33 hx hby at_104 (pc' := 106) rfl rfl ?_
      refine g_callSH X33 hx hZ29 hown29 (W := 0) (argsL := [.ref b29, .int (Int32.ofNat wl_0.length), .int (q3 &&& (15 : Int32)), .int (lch q4)]) (rest := []) hby at_106 (pc' := 109) rfl (by rw [hml]; rfl) (w_9 hw) (w_10 hw) (w_11 hw) (w_12 hw) (by decide) (rmB l Z a0 hw [] b29 (Int32.ofNat wl_0.length) (q3 &&& (15 : Int32)) (lch q4) T29.heap n0 wl_0 Tx30 (own_bl _) Z29 cs fm SS O29o) e33 hS29 hk29 (own_EL hw) C29c.1 (by decide) (by decide) (by decide) (by decide) rfl pd__28Ljava_2flang_2fString_3bIIC_29Ljava_2flang_2fString_3b rfl rfl (Nat.le_of_eq rfl) ?_
      rintro _ T34 L34 X34 (⟨b34, rfl, N34q, K34, G34, Tx34⟩) hS34 hZ34 hown34 C34h
      have N34 := Fr.app N33 N34q
      have C34c := C29c.trans C34h
      have nb34_b29 : b29 ≠ b34 := Nat.ne_of_lt (Nat.lt_of_lt_of_le Tx30.lt G34)
      have O34 := O29o.keep K34 all0
      have Z34 := Nat.le_trans Z29 K34.1
      have Y34 := Nat.le_trans hk29 K34.1
      have X34t_b29 := Tx30.keep0 K34
      have E34_b29 := Tx30.1.keep K34
      show GoE p e below _ (T34.setTop (mkF m 109 #[.val (.int q1), .val (.int q2), .val (.int q3), .val (.int q4), .val (.int q5), .val (.int ((q1 &&& (2147483647 : Int32)) - ((q1 &&& (2147483647 : Int32)) / (5 : Int32)) * (5 : Int32))), .val (.ref b29), .val (.int (Int32.ofNat wl_0.length)), .val (.int (q3 &&& (15 : Int32))), .val (.int (lch q4)), .unset, .unset] [.ref b34]))
      refine g_astore X34 hx hby at_109 (pc' := 111) rfl rfl (l' := #[.val (.int q1), .val (.int q2), .val (.int q3), .val (.int q4), .val (.int q5), .val (.int ((q1 &&& (2147483647 : Int32)) - ((q1 &&& (2147483647 : Int32)) / (5 : Int32)) * (5 : Int32))), .val (.ref b29), .val (.int (Int32.ofNat wl_0.length)), .val (.int (q3 &&& (15 : Int32))), .val (.int (lch q4)), .val (.ref b34), .unset]) rfl ?_
      exact tail0 l Z a0 hw q1 q2 q3 q4 q5 n0 kd0 kd1 kd2 kd3 kd4 wd0 wd1 wd2 wd3 bV em kV hK cs fm SS ((q1 &&& (2147483647 : Int32)) - ((q1 &&& (2147483647 : Int32)) / (5 : Int32)) * (5 : Int32)) (Int32.ofNat wl_0.length) (q3 &&& (15 : Int32)) (lch q4) b29 b34 _ hx hby hml hret hlk hZ34 hown34 X34 N34 hS34 (Nat.le_refl T34.heap.size) C34c Z34 O34 Tx34
set_option maxRecDepth 65536 in
set_option maxHeartbeats 40000000 in
theorem comes_1 {Post : Tables → Env → Array Value → State → Outcome → State → Prop} (hpost : ∀ tb e args s v u, (limb_1_1.after args s (.returned v) u = true ∧ limb_1_2.after args s (.returned v) u = true ∧ True) → ReturnedEndW s (.returned v) u (Jvm.fieldLocs frame_1_writes args s ++ Jvm.arrayLocs frame_1_arrays args s ++ Jvm.staticLocs frame_1_statics s) 32 6336 → Post tb e args s (.returned v) u) :
    ArmFor flags0 classFile x code maxLocals ret World_1 tables_1 room_1 Calls_1 rest_1 Pre_1 Post := by
  intro l hfl _ _ p e ha hc hk s m args below hf hA hF happ hP
  obtain ⟨hcalls, hrest, hpre⟩ := hP
  obtain ⟨-, -, -, hnamed, -, -, -, hat⟩ := (Spec.applies_iff hf).mp happ
  obtain ⟨hg, hn⟩ := and_e (Cond.before_iff.mp (show (Jvm.Cond.and given_1 narrow_1).before args s = true from hpre))
  obtain ⟨h1, g0⟩ := and_e hg
  obtain ⟨a0, g1⟩ := and_e g0
  obtain ⟨a1, g2⟩ := and_e g1
  obtain ⟨a2, g3⟩ := and_e g2
  obtain ⟨a3, g4⟩ := and_e g3
  have a4 := g4
  obtain ⟨u0, u1, u2, u3, u4, rfl⟩ : ∃ u0 u1 u2 u3 u4 : Value, args = #[u0, u1, u2, u3, u4] := by
    have hs : args.size = 5 := by simpa [Cond.value, given_1] using h1
    obtain ⟨L⟩ := args
    match L, hs with
    | [u0, u1, u2, u3, u4], _ => exact ⟨u0, u1, u2, u3, u4, rfl⟩
  have hw := fun d (hd : d ∈ tables_1) => atoms_spec (ws := Jvm.Cond.code x code maxLocals ret :: tables_1) hat d (List.mem_cons_of_mem _ hd)
  have hfit : Fit s := fun {y c} hc i hi => by
    obtain ⟨ha, rfl⟩ := Array.getElem?_eq_some_iff.mp hc
    have q := List.all_eq_true.mp ((Array.all_eq_true_iff_forall_mem.mp hF) _ (Array.getElem_mem ha)) i (List.mem_range.mpr hi)
    simpa [Array.getElem?_eq_getElem hi] using q
  obtain ⟨i0, e0⟩ := is_v a0
  obtain rfl : u0 = (.int i0) := Option.some.inj e0
  obtain ⟨i1, e1⟩ := is_v a1
  obtain rfl : u1 = (.int i1) := Option.some.inj e1
  obtain ⟨i2, e2⟩ := is_v a2
  obtain rfl : u2 = (.int i2) := Option.some.inj e2
  obtain ⟨i3, e3⟩ := is_v a3
  obtain rfl : u3 = (.int i3) := Option.some.inj e3
  obtain ⟨i4, e4⟩ := is_v a4
  obtain rfl : u4 = (.int i4) := Option.some.inj e4
  obtain ⟨m0, hn⟩ := and_e hn
  obtain ⟨m1, hn⟩ := and_e hn
  obtain ⟨m2, hn⟩ := and_e hn
  obtain ⟨m3, hn⟩ := and_e hn
  obtain ⟨m4, hn⟩ := and_e hn
  obtain ⟨m5, hn⟩ := and_e hn
  obtain ⟨m6, hn⟩ := and_e hn
  obtain ⟨m7, hn⟩ := and_e hn
  obtain ⟨m8, hn⟩ := and_e hn
  obtain ⟨m9, hn⟩ := and_e hn
  obtain ⟨m10, hn⟩ := and_e hn
  obtain ⟨m11, hn⟩ := and_e hn
  obtain ⟨m12, hn⟩ := and_e hn
  obtain ⟨m13, hn⟩ := and_e hn
  obtain ⟨m14, hn⟩ := and_e hn
  obtain ⟨m15, hn⟩ := and_e hn
  obtain ⟨m16, hn⟩ := and_e hn
  obtain ⟨m17, hn⟩ := and_e hn
  obtain ⟨m18, hn⟩ := and_e hn
  obtain ⟨m19, hn⟩ := and_e hn
  obtain ⟨m20, hn⟩ := and_e hn
  obtain ⟨m21, hn⟩ := and_e hn
  obtain ⟨m22, hn⟩ := and_e hn
  obtain ⟨m23, hn⟩ := and_e hn
  obtain ⟨m24, hn⟩ := and_e hn
  obtain ⟨m25, hn⟩ := and_e hn
  obtain ⟨m26, hn⟩ := and_e hn
  obtain ⟨m27, hn⟩ := and_e hn
  obtain ⟨m28, hn⟩ := and_e hn
  obtain ⟨m29, hn⟩ := and_e hn
  obtain ⟨m30, hn⟩ := and_e hn
  obtain ⟨m31, hn⟩ := and_e hn
  obtain ⟨m32, hn⟩ := and_e hn
  obtain ⟨m33, hn⟩ := and_e hn
  obtain ⟨m34, hn⟩ := and_e hn
  obtain ⟨m35, hn⟩ := and_e hn
  obtain ⟨m36, hn⟩ := and_e hn
  obtain ⟨m37, hn⟩ := and_e hn
  obtain ⟨m38, hn⟩ := and_e hn
  obtain ⟨m39, hn⟩ := and_e hn
  obtain ⟨m40, hn⟩ := and_e hn
  obtain ⟨m41, hn⟩ := and_e hn
  obtain ⟨m42, hn⟩ := and_e hn
  obtain ⟨m43, hn⟩ := and_e hn
  obtain ⟨m44, hn⟩ := and_e hn
  obtain ⟨m45, hn⟩ := and_e hn
  obtain ⟨m46, hn⟩ := and_e hn
  obtain ⟨m47, hn⟩ := and_e hn
  obtain ⟨m48, hn⟩ := and_e hn
  obtain ⟨m49, hn⟩ := and_e hn
  obtain ⟨m50, hn⟩ := and_e hn
  obtain ⟨m51, hn⟩ := and_e hn
  obtain ⟨m52, hn⟩ := and_e hn
  obtain ⟨m53, hn⟩ := and_e hn
  obtain ⟨m54, hn⟩ := and_e hn
  obtain ⟨m55, hn⟩ := and_e hn
  obtain ⟨m56, hn⟩ := and_e hn
  obtain ⟨m57, hn⟩ := and_e hn
  obtain ⟨m58, hn⟩ := and_e hn
  obtain ⟨m59, hn⟩ := and_e hn
  obtain ⟨m60, m61⟩ := and_e hn
  obtain ⟨kd0, ek0⟩ := exa_v m3
  have yS0 := Sta.start ek0 (Or.inr ⟨w_30 hw, w_44 hw⟩)
  have yE0 := Exa.start ek0 m3
  have hO0 := own_fldI ek0 m13
  obtain ⟨kd1, ek1⟩ := exa_v m5
  have yS1 := Sta.start ek1 (Or.inr ⟨w_30 hw, w_45 hw⟩)
  have yE1 := Exa.start ek1 m5
  have hO1 := own_fldI ek1 m19
  obtain ⟨kd2, ek2⟩ := exa_v m7
  have yS2 := Sta.start ek2 (Or.inr ⟨w_30 hw, w_46 hw⟩)
  have yE2 := Exa.start ek2 m7
  have hO2 := own_fldI ek2 m24
  obtain ⟨kd3, ek3⟩ := exa_v m9
  have yS3 := Sta.start ek3 (Or.inr ⟨w_30 hw, w_47 hw⟩)
  have yE3 := Exa.start ek3 m9
  have hO3 := own_fldI ek3 m29
  obtain ⟨kd4, ek4⟩ := exa_v m11
  have yS4 := Sta.start ek4 (Or.inr ⟨w_30 hw, w_48 hw⟩)
  have yE4 := Exa.start ek4 m11
  have hO4 := own_fldI ek4 m14
  obtain ⟨bV, eV⟩ := arr_v m0
  obtain ⟨cV, AV⟩ := Arr.start eV m0
  obtain ⟨lV1, lV2⟩ := own_lenS eV AV m2
  have ySV := Sta.start eV (Or.inr ⟨w_30 hw, w_36 hw⟩)
  have yEV := Exa.start eV m1
  have yAV : Arv s s.heap bV cV.cls (.object "com/example/phaseline/phaseline/game/Kind") (5 : Int32) [.ref kd0, .ref kd1, .ref kd2, .ref kd3, .ref kd4] (.null) := Arv.start hfit AV lV1 lV2 (by decide) rfl ⟨own_elemR eV AV.1 ek0 m4, own_elemR eV AV.1 ek1 m6, own_elemR eV AV.1 ek2 m8, own_elemR eV AV.1 ek3 m10, own_elemR eV AV.1 ek4 m12, trivial⟩
  obtain ⟨wd0, ew0⟩ := exa_v m15
  have yF0 := own_fldR ek0 ew0
  obtain ⟨v0, ev0⟩ := arr_v m17
  obtain ⟨cw0, Aw0⟩ := Arr.start ev0 m17
  obtain ⟨lw0a, lw0b⟩ := own_lenS ev0 Aw0 m18
  have yT0 : Txt s s.heap wd0 wl_0 := ⟨Exa.start ew0 m15, by decide, v0, cw0.cls, own_fldR ew0 ev0, own_fldB ew0 m16, Arv.start hfit Aw0 lw0a lw0b (by decide) rfl ⟨own_elemI ev0 Aw0.1 m34, own_elemI ev0 Aw0.1 m39, own_elemI ev0 Aw0.1 m40, own_elemI ev0 Aw0.1 m41, trivial⟩⟩
  obtain ⟨wd1, ew1⟩ := exa_v m20
  have yF1 := own_fldR ek1 ew1
  obtain ⟨v1, ev1⟩ := arr_v m22
  obtain ⟨cw1, Aw1⟩ := Arr.start ev1 m22
  obtain ⟨lw1a, lw1b⟩ := own_lenS ev1 Aw1 m23
  have yT1 : Txt s s.heap wd1 wl_1 := ⟨Exa.start ew1 m20, by decide, v1, cw1.cls, own_fldR ew1 ev1, own_fldB ew1 m21, Arv.start hfit Aw1 lw1a lw1b (by decide) rfl ⟨own_elemI ev1 Aw1.1 m50, own_elemI ev1 Aw1.1 m51, own_elemI ev1 Aw1.1 m52, own_elemI ev1 Aw1.1 m53, own_elemI ev1 Aw1.1 m54, own_elemI ev1 Aw1.1 m55, trivial⟩⟩
  obtain ⟨wd2, ew2⟩ := exa_v m25
  have yF2 := own_fldR ek2 ew2
  obtain ⟨v2, ev2⟩ := arr_v m27
  obtain ⟨cw2, Aw2⟩ := Arr.start ev2 m27
  obtain ⟨lw2a, lw2b⟩ := own_lenS ev2 Aw2 m28
  have yT2 : Txt s s.heap wd2 wl_2 := ⟨Exa.start ew2 m25, by decide, v2, cw2.cls, own_fldR ew2 ev2, own_fldB ew2 m26, Arv.start hfit Aw2 lw2a lw2b (by decide) rfl ⟨own_elemI ev2 Aw2.1 m35, own_elemI ev2 Aw2.1 m36, own_elemI ev2 Aw2.1 m37, own_elemI ev2 Aw2.1 m38, trivial⟩⟩
  obtain ⟨wd3, ew3⟩ := exa_v m30
  have yF3 := own_fldR ek3 ew3
  obtain ⟨v3, ev3⟩ := arr_v m32
  obtain ⟨cw3, Aw3⟩ := Arr.start ev3 m32
  obtain ⟨lw3a, lw3b⟩ := own_lenS ev3 Aw3 m33
  have yT3 : Txt s s.heap wd3 wl_3 := ⟨Exa.start ew3 m30, by decide, v3, cw3.cls, own_fldR ew3 ev3, own_fldB ew3 m31, Arv.start hfit Aw3 lw3a lw3b (by decide) rfl ⟨own_elemI ev3 Aw3.1 m56, own_elemI ev3 Aw3.1 m57, own_elemI ev3 Aw3.1 m58, own_elemI ev3 Aw3.1 m59, own_elemI ev3 Aw3.1 m60, own_elemI ev3 Aw3.1 m61, trivial⟩⟩
  have y04 : kd0 ≠ kd4 := hO0.ne hO4 (by decide)
  have y14 : kd1 ≠ kd4 := hO1.ne hO4 (by decide)
  have y24 : kd2 ≠ kd4 := hO2.ne hO4 (by decide)
  have y34 : kd3 ≠ kd4 := hO3.ne hO4 (by decide)
  obtain ⟨hsets, -⟩ := atoms_of _ (rest_1_c_eq ▸ (show rest_1_c.before _ s = true from hrest))
  obtain ⟨em, eem⟩ := exa_v (Cond.before_iff.mp (hsets _ (List.mem_of_getElem? (i := 11) rfl)))
  have ySE := Sta.start eem (Or.inl (hsets _ (List.mem_of_getElem? (i := 10) rfl)))
  have yEE := Exa.start eem (Cond.before_iff.mp (hsets _ (List.mem_of_getElem? (i := 11) rfl)))
  have yFE := own_fldN eem (Cond.before_iff.mp (hsets _ (List.mem_of_getElem? (i := 12) rfl)))
  have hK : KSt s kd0 kd1 kd2 kd3 kd4 wd0 wd1 wd2 wd3 bV em cV.cls := ⟨yS0, yS1, yS2, yS3, yS4, ySV, yAV, yEV, yF0, yF1, yF2, yF3, yT0, yT1, yT2, yT3, yE0, yE1, yE2, yE3, y04, y14, y24, y34, ySE, yFE, yEE⟩
  obtain ⟨cs, ecs⟩ := is_v (Cond.before_iff.mp (hsets _ (List.mem_of_getElem? (i := 1) rfl)))
  have ncs := not_v (Cond.before_iff.mp (hsets _ (List.mem_of_getElem? (i := 2) rfl)))
  have hcs : ¬ (cs = (0 : Int32)) := gotF (Cond.eq_ints ecs (Term.int_eval (0))) ncs
  have S1 : Sta s s.heap "java/lang/String" "COMPACT_STRINGS" "Z" (.int cs) := Sta.start ecs (Or.inl (hsets _ (List.mem_of_getElem? (i := 0) rfl)))
  obtain ⟨fm, efm, rfm⟩ := isR_v (Cond.before_iff.mp (hsets _ (List.mem_of_getElem? (i := 8) rfl)))
  have S6 : Sta s s.heap "jdk/internal/util/Preconditions" "SIOOBE_FORMATTER" "Ljava/util/function/BiFunction;" fm := Sta.start efm (Or.inl (hsets _ (List.mem_of_getElem? (i := 7) rfl)))
  have SS : SSt s cs fm := ⟨hcs, S1, S6, rfm⟩
  have hch : CHv s ELs s.vm s.heap := CHv.start (own_EL hw) (fun p hp => hcalls.1 p hp) (hsets _ (List.mem_of_getElem? (i := 2) rfl)) (w_4 hw) (w_3 hw)
  obtain ⟨n, o, h1, h2, h3, _, L, rfl, ⟨rfl, N⟩, -, hq⟩ := rm0 l s _ hw tables_1 i0 i1 i2 i3 i4  s.heap s.heap.size kd0 kd1 kd2 kd3 kd4 wd0 wd1 wd2 wd3 bV em cV.cls hK (Nat.le_refl _) cs fm SS (Old.start s) p e ha hc hk s m _ below hf ((Spec.applies_iff_loose hf).mp happ).1 ⟨rfl, State.Warmed39.refl s, rfl, hch⟩ trivial
  refine ⟨n, _, h1, h2, h3, hpost _ _ _ _ _ _ ⟨Cond.after_iff.mpr rfl, Cond.after_iff.mpr (eq_i res_at (Term.int_eval (1)) rfl), trivial⟩ ⟨hq.1, hq.2.1, hq.2.2.1, (hq.2.2.2.sift fun y hy => Or.inr (N y hy)).mono (by decide) (by decide)⟩⟩
theorem main_1_1 : Claimed_1_1 := comes_1 fun _ _ _ _ _ _ h hF => ⟨h.1, hF⟩
theorem main_1_2 : Claimed_1_2 := comes_1 fun _ _ _ _ _ _ h hF => ⟨h.2.1, hF⟩
end Jvm.Pilot.@@N@@
namespace Jvm.Pilot.@@N@@
open Jvm Jvm.ClassFile Sem Op Lib Jvm.Free Jvm.Stand Jvm.Pilot.@@N@@.Jvm.D
/-! MADE BY PROGRAM (witnessworld.py) out of the Statement's table words and the real class files: 24 classes; the members and pool entries that the words name. The judged class is class 1, her method 1. -/
namespace start1
open Jvm.ClassFile
def u (s : String) : CpInfo := .utf8 (stringToUtf16 s)
/-- a pool by its gaps: so many unusable entries, then the entry; so many at the end -/
def gap : Nat → List CpInfo → List CpInfo
  | 0, r => r
  | n + 1, r => .unusable :: gap n r
def poolList (es : List (Nat × CpInfo)) (last : Nat) : List CpInfo := es.foldr (fun e r => gap e.1 (e.2 :: r)) (gap last [])
def pool (es : List (Nat × CpInfo)) (last : Nat) : Array CpInfo := ⟨poolList es last⟩
def fileOf (pool : Array CpInfo) (this : Nat) (attrs : Array Attribute := #[]) (ms : Array MethodInfo := #[]) (fl : Nat := 33) (sup : Nat := 0) (ifs : Array Nat := #[]) (fds : Array FieldInfo := #[]) : ClassFile where
  minorVersion := 0
  majorVersion := 65
  constantPool := pool
  accessFlags := fl
  thisClass := this
  superClass := sup
  interfaces := ifs
  fields := fds
  methods := ms
  attributes := attrs
def plain (name : String) (sup : Option ClassId) : Class where
  name := name
  kind := .ordinary
  loader := none
  accessFlags := 33
  super := sup
  interfaces := #[]
  cf := none
  fields := #[]
  methods := #[]
  instanceTypes := #[]
  staticTypes := #[]
  resolved := #[]
  callSites := []
  init := .initialized
  statics := none
  mirror := none

def pool0 : Array CpInfo := pool [(5, u "<init>"), (0, u "()V"), (1, .class_ 10), (1, u "java/lang/Object"), (85, u "clone"), (0, u "()Ljava/lang/Object;")] 26

def k0c0 : Code := { maxStack := 0, maxLocals := 1, code := object_method_1_code, exceptionTable := #[], attributes := #[] }
def k0m0 : Method := { name := "<init>", desc := "()V", sig := { parameters := [], returnType := none }, accessFlags := 1, code := some k0c0 }
def k0m1 : Method := { name := "clone", desc := "()Ljava/lang/Object;", sig := { parameters := [], returnType := some (.object "java/lang/Object") }, accessFlags := 260, code := none }
/-- java/lang/Object -/
def k0 : Class := { plain "java/lang/Object" none with
  accessFlags := 33
  interfaces := #[]
  cf := some (fileOf pool0 8 #[] #[{ accessFlags := 1, nameIndex := 5, descriptorIndex := 6, attributes := #[] }, { accessFlags := 260, nameIndex := 96, descriptorIndex := 97, attributes := #[] }] 33 0 #[] #[])
  fields := #[]
  methods := #[k0m0, k0m1]
  instanceTypes := #[]
  staticTypes := #[]
  resolved := Array.replicate 124 none
  statics := none }

def pool1 : Array CpInfo := pool [(2, .class_ 4), (1, u "java/lang/Object"), (0, u "<init>"), (0, u "()V"), (0, .integer 2147483647), (0, .string 9), (0, u "side"), (0, .string 11), (0, u "number"), (0, .string 13), (0, u "text"), (0, .string 15), (0, u "yes-no"), (0, .string 17), (0, u "none"), (0, .methodref 19 20), (0, .class_ 21), (0, .nameAndType 22 23), (0, u "java/lang/String"), (0, u "length"), (0, u "()I"), (0, .methodref 25 26), (0, .class_ 27), (0, .nameAndType 28 29), (0, u "com/example/phaseline/phaseline/game/KindNamedPinLaw"), (0, u "build"), (0, u "(Ljava/lang/String;IIC)Ljava/lang/String;"), (0, .methodref 31 32), (0, .class_ 33), (0, .nameAndType 34 35), (0, u "com/example/phaseline/phaseline/game/Kind"), (0, u "named"), (0, u "(Ljava/lang/String;)Ljava/util/Optional;"), (0, .methodref 37 38), (0, .class_ 39), (0, .nameAndType 40 41), (0, u "java/util/Optional"), (0, u "orElse"), (0, u "(Ljava/lang/Object;)Ljava/lang/Object;"), (0, .methodref 25 43), (0, .nameAndType 44 45), (0, u "expected"), (0, u "(Ljava/lang/String;)Lcom/example/phaseline/phaseline/game/Kind;"), (0, .methodref 19 47), (0, .nameAndType 48 49), (0, u "equals"), (0, u "(Ljava/lang/Object;)Z"), (0, .fieldref 31 51), (0, .nameAndType 52 53), (0, u "SIDE"), (0, u "Lcom/example/phaseline/phaseline/game/Kind;"), (0, .fieldref 31 55), (0, .nameAndType 56 53), (0, u "NUMBER"), (0, .fieldref 31 58), (0, .nameAndType 59 53), (0, u "TEXT"), (0, .fieldref 31 61), (0, .nameAndType 62 53), (0, u "YES_NO"), (0, .methodref 19 64), (0, .nameAndType 65 66), (0, u "charAt"), (0, u "(I)C"), (0, .methodref 25 68), (0, .nameAndType 69 70), (0, u "at"), (0, u "(Ljava/lang/String;IIC)C"), (0, .methodref 19 72), (0, .nameAndType 5 73), (0, u "([C)V"), (2, u "law"), (0, u "(IIIII)Z")] 5

def k1m0 : Method := { name := "<init>", desc := "()V", sig := { parameters := [], returnType := none }, accessFlags := 1, code := none }
def k1c1 : Code := { maxStack := 4, maxLocals := 12, code := code, exceptionTable := #[], attributes := #[] }
def k1m1 : Method := { name := "law", desc := "(IIIII)Z", sig := { parameters := [.int, .int, .int, .int, .int], returnType := some .boolean }, accessFlags := 9, code := some k1c1 }
def k1c2 : Code := { maxStack := 2, maxLocals := 1, code := method_3_code, exceptionTable := #[], attributes := #[] }
def k1m2 : Method := { name := "expected", desc := "(Ljava/lang/String;)Lcom/example/phaseline/phaseline/game/Kind;", sig := { parameters := [(.object "java/lang/String")], returnType := some (.object "com/example/phaseline/phaseline/game/Kind") }, accessFlags := 10, code := some k1c2 }
def k1c3 : Code := { maxStack := 2, maxLocals := 4, code := method_4_code, exceptionTable := #[], attributes := #[] }
def k1m3 : Method := { name := "at", desc := "(Ljava/lang/String;IIC)C", sig := { parameters := [(.object "java/lang/String"), .int, .int, .char], returnType := some .char }, accessFlags := 10, code := some k1c3 }
def k1c4 : Code := { maxStack := 6, maxLocals := 5, code := method_5_code, exceptionTable := #[], attributes := #[] }
def k1m4 : Method := { name := "build", desc := "(Ljava/lang/String;IIC)Ljava/lang/String;", sig := { parameters := [(.object "java/lang/String"), .int, .int, .char], returnType := some (.object "java/lang/String") }, accessFlags := 10, code := some k1c4 }
/-- com/example/phaseline/phaseline/game/KindNamedPinLaw -/
def k1 : Class := { plain "com/example/phaseline/phaseline/game/KindNamedPinLaw" (some 0) with
  accessFlags := 49
  interfaces := #[]
  cf := some (fileOf pool1 25 #[] #[{ accessFlags := 1, nameIndex := 5, descriptorIndex := 6, attributes := #[] }, { accessFlags := 9, nameIndex := 76, descriptorIndex := 77, attributes := #[] }, { accessFlags := 10, nameIndex := 44, descriptorIndex := 45, attributes := #[] }, { accessFlags := 10, nameIndex := 69, descriptorIndex := 70, attributes := #[] }, { accessFlags := 10, nameIndex := 28, descriptorIndex := 29, attributes := #[] }] 49 2 #[] #[])
  fields := #[]
  methods := #[k1m0, k1m1, k1m2, k1m3, k1m4]
  instanceTypes := #[]
  staticTypes := #[]
  resolved := Array.replicate 83 none
  statics := none }

def pool2 : Array CpInfo := pool [(1, .class_ 2), (0, u "java/io/Serializable"), (0, .class_ 4), (0, u "java/lang/Object")] 2

/-- java/io/Serializable -/
def k2 : Class := { plain "java/io/Serializable" (some 0) with
  accessFlags := 1537
  interfaces := #[]
  cf := some (fileOf pool2 1 #[] #[] 1537 3 #[] #[])
  fields := #[]
  methods := #[]
  instanceTypes := #[]
  staticTypes := #[]
  resolved := Array.replicate 7 none
  statics := none }

def pool3 : Array CpInfo := pool [(1, .class_ 2), (0, u "java/lang/Comparable"), (0, .class_ 4), (0, u "java/lang/Object")] 7

/-- java/lang/Comparable -/
def k3 : Class := { plain "java/lang/Comparable" (some 0) with
  accessFlags := 1537
  interfaces := #[]
  cf := some (fileOf pool3 1 #[] #[] 1537 3 #[] #[])
  fields := #[]
  methods := #[]
  instanceTypes := #[]
  staticTypes := #[]
  resolved := Array.replicate 12 none
  statics := none }

def pool4 : Array CpInfo := pool [(2, .class_ 4), (1, u "java/lang/CharSequence"), (42, .class_ 48), (0, u "java/lang/CharSequence$1CodePointIterator"), (10, .class_ 60), (0, u "java/lang/CharSequence$1CharIterator"), (5, .class_ 67), (0, u "java/lang/Object")] 63

/-- java/lang/CharSequence -/
def k4 : Class := { plain "java/lang/CharSequence" (some 0) with
  accessFlags := 1537
  interfaces := #[]
  cf := some (fileOf pool4 2 #[.nestMembers #[47, 59]] #[] 1537 66 #[] #[])
  fields := #[]
  methods := #[]
  instanceTypes := #[]
  staticTypes := #[]
  resolved := Array.replicate 131 none
  statics := none }

def pool5 : Array CpInfo := pool [(1, .class_ 2), (0, u "java/lang/constant/Constable"), (0, .class_ 4), (0, u "java/lang/Object")] 6

/-- java/lang/constant/Constable -/
def k5 : Class := { plain "java/lang/constant/Constable" (some 0) with
  accessFlags := 1537
  interfaces := #[]
  cf := some (fileOf pool5 1 #[] #[] 1537 3 #[] #[])
  fields := #[]
  methods := #[]
  instanceTypes := #[]
  staticTypes := #[]
  resolved := Array.replicate 11 none
  statics := none }

def pool6 : Array CpInfo := pool [(1, .class_ 2), (0, u "java/lang/constant/ConstantDesc"), (0, .class_ 4), (0, u "java/lang/Object")] 32

/-- java/lang/constant/ConstantDesc -/
def k6 : Class := { plain "java/lang/constant/ConstantDesc" (some 0) with
  accessFlags := 1537
  interfaces := #[]
  cf := some (fileOf pool6 1 #[] #[] 1537 3 #[] #[])
  fields := #[]
  methods := #[]
  instanceTypes := #[]
  staticTypes := #[]
  resolved := Array.replicate 37 none
  statics := none }

def pool7 : Array CpInfo := pool [(1, .methodref 2 3), (0, .class_ 4), (0, .nameAndType 5 6), (0, u "java/lang/Object"), (0, u "<init>"), (0, u "()V"), (0, .string 8), (0, u ""), (0, .fieldref 10 11), (0, .class_ 12), (0, .nameAndType 13 14), (0, u "java/lang/String"), (0, u "value"), (0, u "[B"), (0, .fieldref 10 16), (0, .nameAndType 17 18), (0, u "coder"), (0, u "B"), (2, u "hash"), (0, u "I"), (2, u "hashIsZero"), (0, u "Z"), (0, .methodref 10 28), (0, .nameAndType 5 29), (0, u "([CIILjava/lang/Void;)V"), (8, .fieldref 10 39), (0, .nameAndType 40 26), (0, u "COMPACT_STRINGS"), (1, .class_ 44), (1, u "java/lang/StringUTF16"), (0, u "compress"), (1, .methodref 42 48), (0, .nameAndType 49 50), (0, u "coderFromArrayLen"), (0, u "([BI)B"), (56, .class_ 109), (1, u "java/lang/StringLatin1"), (32, u "()Z"), (34, .methodref 42 178), (0, .nameAndType 45 179), (0, u "([CII)[B"), (154, u "()I"), (0, .methodref 10 336), (0, .nameAndType 17 337), (0, u "()B"), (25, u "([BI)C"), (27, u "(II)V"), (35, u "(I)C"), (64, .methodref 10 493), (0, .nameAndType 494 142), (0, u "isLatin1"), (0, .methodref 107 496), (0, .nameAndType 497 363), (0, u "charAt"), (3, u "checkIndex"), (5, u "length"), (33, .methodref 107 542), (0, .nameAndType 543 544), (0, u "equals"), (0, u "([B[B)Z"), (28, u "(Ljava/lang/Object;)Z"), (1, .class_ 576), (0, u "java/lang/CharSequence"), (22, u "CASE_INSENSITIVE_ORDER"), (0, u "Ljava/util/Comparator;"), (409, u "([C)V"), (42, .fieldref 1054 1055), (0, .class_ 1056), (0, .nameAndType 1057 1058), (0, u "jdk/internal/util/Preconditions"), (0, u "SIOOBE_FORMATTER"), (0, u "Ljava/util/function/BiFunction;"), (0, .methodref 1054 1060), (0, .nameAndType 501 1061), (0, u "(IILjava/util/function/BiFunction;)I"), (39, u "serialPersistentFields"), (0, u "[Ljava/io/ObjectStreamField;"), (0, .class_ 1104), (0, u "java/lang/String$CaseInsensitiveComparator"), (1, .class_ 1107), (0, u "java/io/Serializable"), (0, .class_ 1109), (0, u "java/lang/Comparable"), (0, .class_ 1111), (0, u "java/lang/constant/Constable"), (0, .class_ 1113), (0, u "java/lang/constant/ConstantDesc"), (2, u "serialVersionUID"), (0, u "J"), (3, u "REPL"), (0, u "C"), (2, u "LATIN1"), (1, u "UTF16")] 323

def k7m0 : Method := { name := "<init>", desc := "()V", sig := { parameters := [], returnType := none }, accessFlags := 1, code := none }
def k7c1 : Code := { maxStack := 5, maxLocals := 2, code := jdk_42_method_3_code, exceptionTable := #[], attributes := #[] }
def k7m1 : Method := { name := "<init>", desc := "([C)V", sig := { parameters := [(.array .char)], returnType := none }, accessFlags := 1, code := some k7c1 }
def k7c2 : Code := { maxStack := 2, maxLocals := 1, code := jdk_42_method_54_code, exceptionTable := #[], attributes := #[] }
def k7m2 : Method := { name := "length", desc := "()I", sig := { parameters := [], returnType := some .int }, accessFlags := 1, code := some k7c2 }
def k7c3 : Code := { maxStack := 2, maxLocals := 2, code := jdk_42_method_56_code, exceptionTable := #[], attributes := #[] }
def k7m3 : Method := { name := "charAt", desc := "(I)C", sig := { parameters := [.int], returnType := some .char }, accessFlags := 1, code := some k7c3 }
def k7c4 : Code := { maxStack := 2, maxLocals := 3, code := jdk_42_method_66_code, exceptionTable := #[], attributes := #[] }
def k7m4 : Method := { name := "equals", desc := "(Ljava/lang/Object;)Z", sig := { parameters := [(.object "java/lang/Object")], returnType := some .boolean }, accessFlags := 1, code := some k7c4 }
def k7c5 : Code := { maxStack := 4, maxLocals := 6, code := jdk_42_method_149_code, exceptionTable := #[], attributes := #[] }
def k7m5 : Method := { name := "<init>", desc := "([CIILjava/lang/Void;)V", sig := { parameters := [(.array .char), .int, .int, (.object "java/lang/Void")], returnType := none }, accessFlags := 2, code := some k7c5 }
def k7c6 : Code := { maxStack := 1, maxLocals := 1, code := jdk_42_method_152_code, exceptionTable := #[], attributes := #[] }
def k7m6 : Method := { name := "coder", desc := "()B", sig := { parameters := [], returnType := some .byte }, accessFlags := 0, code := some k7c6 }
def k7c7 : Code := { maxStack := 1, maxLocals := 1, code := jdk_42_method_154_code, exceptionTable := #[], attributes := #[] }
def k7m7 : Method := { name := "isLatin1", desc := "()Z", sig := { parameters := [], returnType := some .boolean }, accessFlags := 0, code := some k7c7 }
def k7c8 : Code := { maxStack := 3, maxLocals := 2, code := jdk_42_method_155_code, exceptionTable := #[], attributes := #[] }
def k7m8 : Method := { name := "checkIndex", desc := "(II)V", sig := { parameters := [.int, .int], returnType := none }, accessFlags := 8, code := some k7c8 }
/-- java/lang/String -/
def k7 : Class := { plain "java/lang/String" (some 0) with
  accessFlags := 49
  interfaces := #[2, 3, 4, 5, 6]
  cf := some (fileOf pool7 10 #[.nestMembers #[1103]] #[{ accessFlags := 1, nameIndex := 5, descriptorIndex := 6, attributes := #[] }, { accessFlags := 1, nameIndex := 5, descriptorIndex := 1010, attributes := #[] }, { accessFlags := 1, nameIndex := 507, descriptorIndex := 334, attributes := #[] }, { accessFlags := 1, nameIndex := 497, descriptorIndex := 427, attributes := #[] }, { accessFlags := 1, nameIndex := 543, descriptorIndex := 573, attributes := #[] }, { accessFlags := 2, nameIndex := 5, descriptorIndex := 29, attributes := #[] }, { accessFlags := 0, nameIndex := 17, descriptorIndex := 337, attributes := #[] }, { accessFlags := 0, nameIndex := 494, descriptorIndex := 142, attributes := #[] }, { accessFlags := 8, nameIndex := 501, descriptorIndex := 391, attributes := #[] }] 49 2 #[1106, 1108, 575, 1110, 1112] #[{ accessFlags := 18, nameIndex := 13, descriptorIndex := 14, attributes := #[] }, { accessFlags := 18, nameIndex := 17, descriptorIndex := 18, attributes := #[] }, { accessFlags := 2, nameIndex := 21, descriptorIndex := 22, attributes := #[] }, { accessFlags := 2, nameIndex := 25, descriptorIndex := 26, attributes := #[] }, { accessFlags := 26, nameIndex := 1116, descriptorIndex := 1117, attributes := #[] }, { accessFlags := 24, nameIndex := 40, descriptorIndex := 26, attributes := #[] }, { accessFlags := 26, nameIndex := 1101, descriptorIndex := 1102, attributes := #[] }, { accessFlags := 26, nameIndex := 1121, descriptorIndex := 1122, attributes := #[] }, { accessFlags := 25, nameIndex := 599, descriptorIndex := 600, attributes := #[] }, { accessFlags := 24, nameIndex := 1125, descriptorIndex := 18, attributes := #[] }, { accessFlags := 24, nameIndex := 1127, descriptorIndex := 18, attributes := #[] }])
  fields := #[{ name := "value", type := (.array .byte), accessFlags := 18, slot := 0, constantValue := 0 }, { name := "coder", type := .byte, accessFlags := 18, slot := 1, constantValue := 0 }, { name := "hash", type := .int, accessFlags := 2, slot := 2, constantValue := 0 }, { name := "hashIsZero", type := .boolean, accessFlags := 2, slot := 3, constantValue := 0 }, { name := "serialVersionUID", type := .long, accessFlags := 26, slot := 0, constantValue := 0 }, { name := "COMPACT_STRINGS", type := .boolean, accessFlags := 24, slot := 1, constantValue := 0 }, { name := "serialPersistentFields", type := (.array (.object "java/io/ObjectStreamField")), accessFlags := 26, slot := 2, constantValue := 0 }, { name := "REPL", type := .char, accessFlags := 26, slot := 3, constantValue := 0 }, { name := "CASE_INSENSITIVE_ORDER", type := (.object "java/util/Comparator"), accessFlags := 25, slot := 4, constantValue := 0 }, { name := "LATIN1", type := .byte, accessFlags := 24, slot := 5, constantValue := 0 }, { name := "UTF16", type := .byte, accessFlags := 24, slot := 6, constantValue := 0 }]
  methods := #[k7m0, k7m1, k7m2, k7m3, k7m4, k7m5, k7m6, k7m7, k7m8]
  instanceTypes := #[(.array .byte), .byte, .int, .boolean]
  staticTypes := #[.long, .boolean, (.array (.object "java/io/ObjectStreamField")), .char, (.object "java/util/Comparator"), .byte, .byte]
  resolved := Array.replicate 1451 none
  statics := some 0 }

def pool8 : Array CpInfo := pool [(2, .class_ 4), (1, u "java/lang/Enum"), (0, u "name"), (0, u "Ljava/lang/String;"), (2, u "ordinal"), (0, u "I"), (1, .class_ 14), (1, u "java/lang/Object"), (4, u "hash"), (86, .class_ 108), (1, u "java/lang/Enum$EnumDesc"), (2, .class_ 112), (0, u "java/lang/constant/Constable"), (0, .class_ 114), (0, u "java/lang/Comparable"), (0, .class_ 116), (0, u "java/io/Serializable")] 87

/-- java/lang/Enum -/
def k8 : Class := { plain "java/lang/Enum" (some 0) with
  accessFlags := 1057
  interfaces := #[5, 3, 2]
  cf := some (fileOf pool8 2 #[.nestMembers #[106]] #[] 1057 12 #[111, 113, 115] #[{ accessFlags := 18, nameIndex := 5, descriptorIndex := 6, attributes := #[] }, { accessFlags := 18, nameIndex := 9, descriptorIndex := 10, attributes := #[] }, { accessFlags := 2, nameIndex := 19, descriptorIndex := 10, attributes := #[] }])
  fields := #[{ name := "name", type := (.object "java/lang/String"), accessFlags := 18, slot := 0, constantValue := 0 }, { name := "ordinal", type := .int, accessFlags := 18, slot := 1, constantValue := 0 }, { name := "hash", type := .int, accessFlags := 2, slot := 2, constantValue := 0 }]
  methods := #[]
  instanceTypes := #[(.object "java/lang/String"), .int, .int]
  staticTypes := #[]
  resolved := Array.replicate 204 none
  statics := none }

def pool9 : Array CpInfo := pool [(1, .class_ 2), (0, u "com/example/phaseline/phaseline/game/Kind"), (2, u "SIDE"), (0, u "Lcom/example/phaseline/phaseline/game/Kind;"), (2, u "NUMBER"), (2, u "TEXT"), (2, u "YES_NO"), (0, .fieldref 1 17), (0, .nameAndType 18 6), (0, u "NONE"), (0, .fieldref 1 20), (0, .nameAndType 21 22), (0, u "$VALUES"), (0, u "[Lcom/example/phaseline/phaseline/game/Kind;"), (0, .methodref 24 25), (0, .class_ 22), (0, .nameAndType 26 27), (0, u "clone"), (0, u "()Ljava/lang/Object;"), (1, .class_ 31), (1, u "java/lang/Enum"), (6, .fieldref 1 39), (0, .nameAndType 40 41), (0, u "word"), (0, u "Ljava/lang/String;"), (2, u "description"), (5, .methodref 1 51), (0, .nameAndType 52 53), (0, u "values"), (0, u "()[Lcom/example/phaseline/phaseline/game/Kind;"), (5, u "(Ljava/lang/Object;)Z"), (0, .methodref 61 62), (0, .class_ 63), (0, .nameAndType 64 59), (0, u "java/lang/String"), (0, u "equals"), (0, .methodref 66 67), (0, .class_ 68), (0, .nameAndType 69 70), (0, u "java/util/Optional"), (0, u "of"), (0, u "(Ljava/lang/Object;)Ljava/util/Optional;"), (0, .methodref 66 72), (0, .nameAndType 73 74), (0, u "empty"), (0, u "()Ljava/util/Optional;"), (107, u "named"), (0, u "(Ljava/lang/String;)Ljava/util/Optional;")] 30

def k9c0 : Code := { maxStack := 1, maxLocals := 0, code := prog_14_method_1_code, exceptionTable := #[], attributes := #[] }
def k9m0 : Method := { name := "values", desc := "()[Lcom/example/phaseline/phaseline/game/Kind;", sig := { parameters := [], returnType := some (.array (.object "com/example/phaseline/phaseline/game/Kind")) }, accessFlags := 9, code := some k9c0 }
def k9c1 : Code := { maxStack := 2, maxLocals := 5, code := prog_14_method_7_code, exceptionTable := #[], attributes := #[] }
def k9m1 : Method := { name := "named", desc := "(Ljava/lang/String;)Ljava/util/Optional;", sig := { parameters := [(.object "java/lang/String")], returnType := some (.object "java/util/Optional") }, accessFlags := 8, code := some k9c1 }
/-- com/example/phaseline/phaseline/game/Kind -/
def k9 : Class := { plain "com/example/phaseline/phaseline/game/Kind" (some 8) with
  accessFlags := 16433
  interfaces := #[]
  cf := some (fileOf pool9 1 #[] #[{ accessFlags := 9, nameIndex := 52, descriptorIndex := 53, attributes := #[] }, { accessFlags := 8, nameIndex := 182, descriptorIndex := 183, attributes := #[] }] 16433 29 #[] #[{ accessFlags := 16409, nameIndex := 5, descriptorIndex := 6, attributes := #[] }, { accessFlags := 16409, nameIndex := 9, descriptorIndex := 6, attributes := #[] }, { accessFlags := 16409, nameIndex := 12, descriptorIndex := 6, attributes := #[] }, { accessFlags := 16409, nameIndex := 15, descriptorIndex := 6, attributes := #[] }, { accessFlags := 16409, nameIndex := 18, descriptorIndex := 6, attributes := #[] }, { accessFlags := 18, nameIndex := 40, descriptorIndex := 41, attributes := #[] }, { accessFlags := 18, nameIndex := 44, descriptorIndex := 41, attributes := #[] }, { accessFlags := 4122, nameIndex := 21, descriptorIndex := 22, attributes := #[] }])
  fields := #[{ name := "SIDE", type := (.object "com/example/phaseline/phaseline/game/Kind"), accessFlags := 16409, slot := 0, constantValue := 0 }, { name := "NUMBER", type := (.object "com/example/phaseline/phaseline/game/Kind"), accessFlags := 16409, slot := 1, constantValue := 0 }, { name := "TEXT", type := (.object "com/example/phaseline/phaseline/game/Kind"), accessFlags := 16409, slot := 2, constantValue := 0 }, { name := "YES_NO", type := (.object "com/example/phaseline/phaseline/game/Kind"), accessFlags := 16409, slot := 3, constantValue := 0 }, { name := "NONE", type := (.object "com/example/phaseline/phaseline/game/Kind"), accessFlags := 16409, slot := 4, constantValue := 0 }, { name := "word", type := (.object "java/lang/String"), accessFlags := 18, slot := 3, constantValue := 0 }, { name := "description", type := (.object "java/lang/String"), accessFlags := 18, slot := 4, constantValue := 0 }, { name := "$VALUES", type := (.array (.object "com/example/phaseline/phaseline/game/Kind")), accessFlags := 4122, slot := 5, constantValue := 0 }]
  methods := #[k9m0, k9m1]
  instanceTypes := #[(.object "java/lang/String"), .int, .int, (.object "java/lang/String"), (.object "java/lang/String")]
  staticTypes := #[(.object "com/example/phaseline/phaseline/game/Kind"), (.object "com/example/phaseline/phaseline/game/Kind"), (.object "com/example/phaseline/phaseline/game/Kind"), (.object "com/example/phaseline/phaseline/game/Kind"), (.object "com/example/phaseline/phaseline/game/Kind"), (.array (.object "com/example/phaseline/phaseline/game/Kind"))]
  resolved := Array.replicate 214 none
  statics := some 1 }

def pool10 : Array CpInfo := pool [(1, .class_ 2), (0, u "java/lang/Cloneable"), (0, .class_ 4), (0, u "java/lang/Object")] 2

/-- java/lang/Cloneable -/
def k10 : Class := { plain "java/lang/Cloneable" (some 0) with
  accessFlags := 1537
  interfaces := #[]
  cf := some (fileOf pool10 1 #[] #[] 1537 3 #[] #[])
  fields := #[]
  methods := #[]
  instanceTypes := #[]
  staticTypes := #[]
  resolved := Array.replicate 7 none
  statics := none }

def pool11 : Array CpInfo := pool [(1, .class_ 2), (0, u "java/lang/String"), (1, .class_ 6), (1, u "java/lang/Object"), (0, u "<init>"), (0, u "()V"), (0, .methodref 1 10), (0, .nameAndType 11 12), (0, u "checkIndex"), (0, u "(II)V"), (1, .class_ 16), (1, u "java/lang/StringLatin1"), (36, u "([BI)C"), (67, u "$assertionsDisabled"), (0, u "Z"), (98, .class_ 223), (1, u "java/lang/StringLatin1$LinesSpliterator"), (28, u "charAt"), (28, u "equals"), (0, u "([B[B)Z"), (107, .class_ 391), (0, u "java/lang/StringLatin1$CharsSpliterator")] 3

def k11m0 : Method := { name := "<init>", desc := "()V", sig := { parameters := [], returnType := none }, accessFlags := 0, code := none }
def k11c1 : Code := { maxStack := 2, maxLocals := 2, code := jdk_43_method_2_code, exceptionTable := #[], attributes := #[] }
def k11m1 : Method := { name := "charAt", desc := "([BI)C", sig := { parameters := [(.array .byte), .int], returnType := some .char }, accessFlags := 9, code := some k11c1 }
def k11c2 : Code := { maxStack := 3, maxLocals := 3, code := jdk_43_method_13_code, exceptionTable := #[], attributes := #[] }
def k11m2 : Method := { name := "equals", desc := "([B[B)Z", sig := { parameters := [(.array .byte), (.array .byte)], returnType := some .boolean }, accessFlags := 9, code := some k11c2 }
/-- java/lang/StringLatin1 -/
def k11 : Class := { plain "java/lang/StringLatin1" (some 0) with
  accessFlags := 48
  interfaces := #[]
  cf := some (fileOf pool11 14 #[.nestMembers #[390, 221]] #[{ accessFlags := 0, nameIndex := 7, descriptorIndex := 8, attributes := #[] }, { accessFlags := 9, nameIndex := 252, descriptorIndex := 53, attributes := #[] }, { accessFlags := 9, nameIndex := 281, descriptorIndex := 282, attributes := #[] }] 48 4 #[] #[{ accessFlags := 4120, nameIndex := 121, descriptorIndex := 122, attributes := #[] }])
  fields := #[{ name := "$assertionsDisabled", type := .boolean, accessFlags := 4120, slot := 0, constantValue := 0 }]
  methods := #[k11m0, k11m1, k11m2]
  instanceTypes := #[]
  staticTypes := #[.boolean]
  resolved := Array.replicate 395 none
  statics := none }

def pool12 : Array CpInfo := pool [(1, .fieldref 2 3), (0, .class_ 4), (0, .nameAndType 5 6), (0, u "java/util/Optional"), (0, u "EMPTY"), (0, u "Ljava/util/Optional;"), (0, .methodref 8 9), (0, .class_ 10), (0, .nameAndType 11 12), (0, u "java/lang/Object"), (0, u "<init>"), (0, u "()V"), (0, .fieldref 2 14), (0, .nameAndType 15 16), (0, u "value"), (0, u "Ljava/lang/Object;"), (0, .methodref 18 19), (0, .class_ 20), (0, .nameAndType 21 22), (0, u "java/util/Objects"), (0, u "requireNonNull"), (0, u "(Ljava/lang/Object;)Ljava/lang/Object;"), (0, .methodref 2 24), (0, .nameAndType 11 25), (0, u "(Ljava/lang/Object;)V"), (29, u "empty"), (0, u "()Ljava/util/Optional;"), (8, u "(Ljava/lang/Object;)Ljava/util/Optional;"), (16, u "of"), (82, u "orElse")] 21

def k12c0 : Code := { maxStack := 1, maxLocals := 1, code := jdk_32_method_1_code, exceptionTable := #[], attributes := #[] }
def k12m0 : Method := { name := "empty", desc := "()Ljava/util/Optional;", sig := { parameters := [], returnType := some (.object "java/util/Optional") }, accessFlags := 9, code := some k12c0 }
def k12c1 : Code := { maxStack := 2, maxLocals := 2, code := jdk_32_method_2_code, exceptionTable := #[], attributes := #[] }
def k12m1 : Method := { name := "<init>", desc := "(Ljava/lang/Object;)V", sig := { parameters := [(.object "java/lang/Object")], returnType := none }, accessFlags := 2, code := some k12c1 }
def k12c2 : Code := { maxStack := 3, maxLocals := 1, code := jdk_32_method_3_code, exceptionTable := #[], attributes := #[] }
def k12m2 : Method := { name := "of", desc := "(Ljava/lang/Object;)Ljava/util/Optional;", sig := { parameters := [(.object "java/lang/Object")], returnType := some (.object "java/util/Optional") }, accessFlags := 9, code := some k12c2 }
def k12c3 : Code := { maxStack := 1, maxLocals := 2, code := jdk_32_method_15_code, exceptionTable := #[], attributes := #[] }
def k12m3 : Method := { name := "orElse", desc := "(Ljava/lang/Object;)Ljava/lang/Object;", sig := { parameters := [(.object "java/lang/Object")], returnType := some (.object "java/lang/Object") }, accessFlags := 1, code := some k12c3 }
/-- java/util/Optional -/
def k12 : Class := { plain "java/util/Optional" (some 0) with
  accessFlags := 49
  interfaces := #[]
  cf := some (fileOf pool12 2 #[] #[{ accessFlags := 9, nameIndex := 55, descriptorIndex := 56, attributes := #[] }, { accessFlags := 2, nameIndex := 11, descriptorIndex := 25, attributes := #[] }, { accessFlags := 9, nameIndex := 82, descriptorIndex := 65, attributes := #[] }, { accessFlags := 1, nameIndex := 165, descriptorIndex := 22, attributes := #[] }] 49 8 #[] #[{ accessFlags := 26, nameIndex := 5, descriptorIndex := 6, attributes := #[] }, { accessFlags := 18, nameIndex := 15, descriptorIndex := 16, attributes := #[] }])
  fields := #[{ name := "EMPTY", type := (.object "java/util/Optional"), accessFlags := 26, slot := 0, constantValue := 0 }, { name := "value", type := (.object "java/lang/Object"), accessFlags := 18, slot := 0, constantValue := 0 }]
  methods := #[k12m0, k12m1, k12m2, k12m3]
  instanceTypes := #[(.object "java/lang/Object")]
  staticTypes := #[(.object "java/util/Optional")]
  resolved := Array.replicate 187 none
  statics := some 2 }

def pool13 : Array CpInfo := pool [(2, .class_ 4), (1, u "java/lang/Object"), (0, u "<init>"), (0, u "()V"), (17, .class_ 26), (1, u "jdk/internal/util/Preconditions"), (6, u "checkIndex"), (21, .class_ 56), (0, u "jdk/internal/util/Preconditions$4"), (57, .class_ 115), (0, u "jdk/internal/util/Preconditions$1"), (7, u "SIOOBE_FORMATTER"), (0, u "Ljava/util/function/BiFunction;"), (0, .class_ 126), (0, u "jdk/internal/util/Preconditions$2"), (3, u "AIOOBE_FORMATTER"), (0, .class_ 132), (0, u "jdk/internal/util/Preconditions$3"), (3, u "IOOBE_FORMATTER"), (41, u "(IILjava/util/function/BiFunction;)I")] 15

def k13m0 : Method := { name := "<init>", desc := "()V", sig := { parameters := [], returnType := none }, accessFlags := 1, code := none }
def k13c1 : Code := { maxStack := 3, maxLocals := 3, code := jdk_41_method_11_code, exceptionTable := #[], attributes := #[] }
def k13m1 : Method := { name := "checkIndex", desc := "(IILjava/util/function/BiFunction;)I", sig := { parameters := [.int, .int, (.object "java/util/function/BiFunction")], returnType := some .int }, accessFlags := 9, code := some k13c1 }
/-- jdk/internal/util/Preconditions -/
def k13 : Class := { plain "jdk/internal/util/Preconditions" (some 0) with
  accessFlags := 33
  interfaces := #[]
  cf := some (fileOf pool13 24 #[.nestMembers #[55, 131, 125, 114]] #[{ accessFlags := 1, nameIndex := 5, descriptorIndex := 6, attributes := #[] }, { accessFlags := 9, nameIndex := 33, descriptorIndex := 178, attributes := #[] }] 33 2 #[] #[{ accessFlags := 25, nameIndex := 123, descriptorIndex := 124, attributes := #[] }, { accessFlags := 25, nameIndex := 130, descriptorIndex := 124, attributes := #[] }, { accessFlags := 25, nameIndex := 136, descriptorIndex := 124, attributes := #[] }])
  fields := #[{ name := "SIOOBE_FORMATTER", type := (.object "java/util/function/BiFunction"), accessFlags := 25, slot := 0, constantValue := 0 }, { name := "AIOOBE_FORMATTER", type := (.object "java/util/function/BiFunction"), accessFlags := 25, slot := 1, constantValue := 0 }, { name := "IOOBE_FORMATTER", type := (.object "java/util/function/BiFunction"), accessFlags := 25, slot := 2, constantValue := 0 }]
  methods := #[k13m0, k13m1]
  instanceTypes := #[]
  staticTypes := #[(.object "java/util/function/BiFunction"), (.object "java/util/function/BiFunction"), (.object "java/util/function/BiFunction")]
  resolved := Array.replicate 194 none
  statics := some 3 }

def pool14 : Array CpInfo := pool [(6, .class_ 8), (1, u "java/lang/Object"), (0, u "<init>"), (0, u "()V"), (1, .class_ 14), (1, u "java/lang/StringUTF16"), (31, u "$assertionsDisabled"), (0, u "Z"), (13, u "HI_BYTE_SHIFT"), (0, u "I"), (2, u "LO_BYTE_SHIFT"), (49, .methodref 12 116), (0, .nameAndType 117 118), (0, u "compress"), (0, u "([CI[BII)I"), (3, u "([CII)[B"), (138, u "coderFromArrayLen"), (0, u "([BI)B"), (106, .class_ 371), (1, u "java/lang/StringUTF16$LinesSpliterator"), (58, u "MAX_LENGTH"), (196, .class_ 628), (0, u "java/lang/StringUTF16$CodePointsSpliterator"), (0, .class_ 630), (0, u "java/lang/StringUTF16$CharsSpliterator")] 4

def k14m0 : Method := { name := "<init>", desc := "()V", sig := { parameters := [], returnType := none }, accessFlags := 0, code := none }
def k14c1 : Code := { maxStack := 2, maxLocals := 2, code := jdk_52_method_15_code, exceptionTable := #[], attributes := #[] }
def k14m1 : Method := { name := "coderFromArrayLen", desc := "([BI)B", sig := { parameters := [(.array .byte), .int], returnType := some .byte }, accessFlags := 8, code := some k14c1 }
def k14c2 : Code := { maxStack := 5, maxLocals := 6, code := jdk_52_method_16_code, exceptionTable := #[], attributes := #[] }
def k14m2 : Method := { name := "compress", desc := "([CII)[B", sig := { parameters := [(.array .char), .int, .int], returnType := some (.array .byte) }, accessFlags := 9, code := some k14c2 }
def k14c3 : Code := { maxStack := 3, maxLocals := 7, code := jdk_52_method_21_code, exceptionTable := #[], attributes := #[] }
def k14m3 : Method := { name := "compress", desc := "([CI[BII)I", sig := { parameters := [(.array .char), .int, (.array .byte), .int, .int], returnType := some .int }, accessFlags := 9, code := some k14c3 }
/-- java/lang/StringUTF16 -/
def k14 : Class := { plain "java/lang/StringUTF16" (some 0) with
  accessFlags := 48
  interfaces := #[]
  cf := some (fileOf pool14 12 #[.nestMembers #[627, 629, 369]] #[{ accessFlags := 0, nameIndex := 9, descriptorIndex := 10, attributes := #[] }, { accessFlags := 8, nameIndex := 261, descriptorIndex := 262, attributes := #[] }, { accessFlags := 9, nameIndex := 117, descriptorIndex := 122, attributes := #[] }, { accessFlags := 9, nameIndex := 117, descriptorIndex := 118, attributes := #[] }] 48 6 #[] #[{ accessFlags := 26, nameIndex := 61, descriptorIndex := 62, attributes := #[] }, { accessFlags := 26, nameIndex := 65, descriptorIndex := 62, attributes := #[] }, { accessFlags := 24, nameIndex := 430, descriptorIndex := 62, attributes := #[] }, { accessFlags := 4120, nameIndex := 46, descriptorIndex := 47, attributes := #[] }])
  fields := #[{ name := "HI_BYTE_SHIFT", type := .int, accessFlags := 26, slot := 0, constantValue := 0 }, { name := "LO_BYTE_SHIFT", type := .int, accessFlags := 26, slot := 1, constantValue := 0 }, { name := "MAX_LENGTH", type := .int, accessFlags := 24, slot := 2, constantValue := 0 }, { name := "$assertionsDisabled", type := .boolean, accessFlags := 4120, slot := 3, constantValue := 0 }]
  methods := #[k14m0, k14m1, k14m2, k14m3]
  instanceTypes := #[]
  staticTypes := #[.int, .int, .int, .boolean]
  resolved := Array.replicate 635 none
  statics := none }

def pool15 : Array CpInfo := pool [(2, .class_ 4), (1, u "java/lang/Object"), (0, u "<init>"), (0, u "()V"), (35, .class_ 44), (1, u "java/util/Objects"), (0, u "requireNonNull"), (0, u "(Ljava/lang/Object;)Ljava/lang/Object;")] 137

def k15m0 : Method := { name := "<init>", desc := "()V", sig := { parameters := [], returnType := none }, accessFlags := 2, code := none }
def k15c1 : Code := { maxStack := 2, maxLocals := 1, code := jdk_31_method_10_code, exceptionTable := #[], attributes := #[] }
def k15m1 : Method := { name := "requireNonNull", desc := "(Ljava/lang/Object;)Ljava/lang/Object;", sig := { parameters := [(.object "java/lang/Object")], returnType := some (.object "java/lang/Object") }, accessFlags := 9, code := some k15c1 }
/-- java/util/Objects -/
def k15 : Class := { plain "java/util/Objects" (some 0) with
  accessFlags := 49
  interfaces := #[]
  cf := some (fileOf pool15 42 #[] #[{ accessFlags := 2, nameIndex := 5, descriptorIndex := 6, attributes := #[] }, { accessFlags := 9, nameIndex := 45, descriptorIndex := 46, attributes := #[] }] 49 2 #[] #[])
  fields := #[]
  methods := #[k15m0, k15m1]
  instanceTypes := #[]
  staticTypes := #[]
  resolved := Array.replicate 184 none
  statics := none }

def pool16 : Array CpInfo := pool [(9, u "<init>"), (6, .class_ 18), (1, u "java/lang/Object"), (0, u "()V"), (1, .class_ 23), (1, u "jdk/internal/util/ArraysSupport"), (0, u "LOG2_ARRAY_LONG_INDEX_SCALE"), (0, u "I"), (2, u "U"), (0, u "Ljdk/internal/misc/Unsafe;"), (8, u "BIG_ENDIAN"), (0, u "Z"), (8, u "LOG2_BYTE_BIT_SIZE"), (4, u "LOG2_ARRAY_INT_INDEX_SCALE"), (54, u "JLA"), (0, u "Ljdk/internal/access/JavaLangAccess;"), (11, u "LOG2_ARRAY_BOOLEAN_INDEX_SCALE"), (9, u "LOG2_ARRAY_BYTE_INDEX_SCALE"), (5, u "LOG2_ARRAY_CHAR_INDEX_SCALE"), (5, u "LOG2_ARRAY_SHORT_INDEX_SCALE"), (18, u "LOG2_ARRAY_FLOAT_INDEX_SCALE"), (24, u "LOG2_ARRAY_DOUBLE_INDEX_SCALE"), (89, u "T_BOOLEAN"), (2, u "T_CHAR"), (1, u "T_FLOAT"), (1, u "T_DOUBLE"), (1, u "T_BYTE"), (1, u "T_SHORT"), (1, u "T_INT"), (1, u "T_LONG"), (1, u "SOFT_MAX_ARRAY_LENGTH")] 83

def k16m0 : Method := { name := "<init>", desc := "()V", sig := { parameters := [], returnType := none }, accessFlags := 2, code := none }
/-- jdk/internal/util/ArraysSupport -/
def k16 : Class := { plain "jdk/internal/util/ArraysSupport" (some 0) with
  accessFlags := 33
  interfaces := #[]
  cf := some (fileOf pool16 21 #[] #[{ accessFlags := 2, nameIndex := 9, descriptorIndex := 19, attributes := #[] }] 33 16 #[] #[{ accessFlags := 24, nameIndex := 28, descriptorIndex := 29, attributes := #[] }, { accessFlags := 26, nameIndex := 38, descriptorIndex := 39, attributes := #[] }, { accessFlags := 25, nameIndex := 121, descriptorIndex := 25, attributes := #[] }, { accessFlags := 25, nameIndex := 131, descriptorIndex := 25, attributes := #[] }, { accessFlags := 25, nameIndex := 137, descriptorIndex := 25, attributes := #[] }, { accessFlags := 25, nameIndex := 143, descriptorIndex := 25, attributes := #[] }, { accessFlags := 25, nameIndex := 53, descriptorIndex := 25, attributes := #[] }, { accessFlags := 25, nameIndex := 24, descriptorIndex := 25, attributes := #[] }, { accessFlags := 25, nameIndex := 162, descriptorIndex := 25, attributes := #[] }, { accessFlags := 25, nameIndex := 187, descriptorIndex := 25, attributes := #[] }, { accessFlags := 26, nameIndex := 48, descriptorIndex := 25, attributes := #[] }, { accessFlags := 25, nameIndex := 277, descriptorIndex := 25, attributes := #[] }, { accessFlags := 25, nameIndex := 280, descriptorIndex := 25, attributes := #[] }, { accessFlags := 25, nameIndex := 282, descriptorIndex := 25, attributes := #[] }, { accessFlags := 25, nameIndex := 284, descriptorIndex := 25, attributes := #[] }, { accessFlags := 25, nameIndex := 286, descriptorIndex := 25, attributes := #[] }, { accessFlags := 25, nameIndex := 288, descriptorIndex := 25, attributes := #[] }, { accessFlags := 25, nameIndex := 290, descriptorIndex := 25, attributes := #[] }, { accessFlags := 25, nameIndex := 292, descriptorIndex := 25, attributes := #[] }, { accessFlags := 26, nameIndex := 108, descriptorIndex := 109, attributes := #[] }, { accessFlags := 25, nameIndex := 294, descriptorIndex := 25, attributes := #[] }])
  fields := #[{ name := "U", type := (.object "jdk/internal/misc/Unsafe"), accessFlags := 24, slot := 0, constantValue := 0 }, { name := "BIG_ENDIAN", type := .boolean, accessFlags := 26, slot := 1, constantValue := 0 }, { name := "LOG2_ARRAY_BOOLEAN_INDEX_SCALE", type := .int, accessFlags := 25, slot := 2, constantValue := 0 }, { name := "LOG2_ARRAY_BYTE_INDEX_SCALE", type := .int, accessFlags := 25, slot := 3, constantValue := 0 }, { name := "LOG2_ARRAY_CHAR_INDEX_SCALE", type := .int, accessFlags := 25, slot := 4, constantValue := 0 }, { name := "LOG2_ARRAY_SHORT_INDEX_SCALE", type := .int, accessFlags := 25, slot := 5, constantValue := 0 }, { name := "LOG2_ARRAY_INT_INDEX_SCALE", type := .int, accessFlags := 25, slot := 6, constantValue := 0 }, { name := "LOG2_ARRAY_LONG_INDEX_SCALE", type := .int, accessFlags := 25, slot := 7, constantValue := 0 }, { name := "LOG2_ARRAY_FLOAT_INDEX_SCALE", type := .int, accessFlags := 25, slot := 8, constantValue := 0 }, { name := "LOG2_ARRAY_DOUBLE_INDEX_SCALE", type := .int, accessFlags := 25, slot := 9, constantValue := 0 }, { name := "LOG2_BYTE_BIT_SIZE", type := .int, accessFlags := 26, slot := 10, constantValue := 0 }, { name := "T_BOOLEAN", type := .int, accessFlags := 25, slot := 11, constantValue := 0 }, { name := "T_CHAR", type := .int, accessFlags := 25, slot := 12, constantValue := 0 }, { name := "T_FLOAT", type := .int, accessFlags := 25, slot := 13, constantValue := 0 }, { name := "T_DOUBLE", type := .int, accessFlags := 25, slot := 14, constantValue := 0 }, { name := "T_BYTE", type := .int, accessFlags := 25, slot := 15, constantValue := 0 }, { name := "T_SHORT", type := .int, accessFlags := 25, slot := 16, constantValue := 0 }, { name := "T_INT", type := .int, accessFlags := 25, slot := 17, constantValue := 0 }, { name := "T_LONG", type := .int, accessFlags := 25, slot := 18, constantValue := 0 }, { name := "JLA", type := (.object "jdk/internal/access/JavaLangAccess"), accessFlags := 26, slot := 19, constantValue := 0 }, { name := "SOFT_MAX_ARRAY_LENGTH", type := .int, accessFlags := 25, slot := 20, constantValue := 0 }]
  methods := #[k16m0]
  instanceTypes := #[]
  staticTypes := #[(.object "jdk/internal/misc/Unsafe"), .boolean, .int, .int, .int, .int, .int, .int, .int, .int, .int, .int, .int, .int, .int, .int, .int, .int, .int, (.object "jdk/internal/access/JavaLangAccess"), .int]
  resolved := Array.replicate 378 none
  statics := none }

/-- the primitive byte -/
def k17 : Class := { plain "byte" none with kind := .primitive 'B', accessFlags := 0x411 }
/-- [B -/
def k18 : Class := { plain "[B" (some 0) with kind := .array 17 .byte, interfaces := #[10, 2], accessFlags := 1041 }

/-- the primitive char -/
def k19 : Class := { plain "char" none with kind := .primitive 'C', accessFlags := 0x411 }
/-- [C -/
def k20 : Class := { plain "[C" (some 0) with kind := .array 19 .char, interfaces := #[10, 2], accessFlags := 1041 }

/-- the primitive int -/
def k21 : Class := { plain "int" none with kind := .primitive 'I', accessFlags := 0x411 }
/-- [I -/
def k22 : Class := { plain "[I" (some 0) with kind := .array 21 .int, interfaces := #[10, 2], accessFlags := 1041 }

/-- [Lcom/example/phaseline/phaseline/game/Kind; -/
def k23 : Class := { plain "[Lcom/example/phaseline/phaseline/game/Kind;" (some 0) with kind := .array 9 (.object "com/example/phaseline/phaseline/game/Kind"), interfaces := #[10, 2], accessFlags := 1041 }

def heap : Heap := #[{ cls := 7, slots := #[.long 0, .int 1, .null, .int 0, .null, .int 0, .int 0], vm := .statics 7 },
  { cls := 9, slots := #[.ref 15, .ref 16, .ref 17, .ref 18, .ref 19, .ref 4], vm := .statics 9 },
  { cls := 12, slots := #[.ref 20], vm := .statics 12 },
  { cls := 13, slots := #[.null, .null, .null], vm := .statics 13 },
  { cls := 23, slots := #[.ref 15, .ref 16, .ref 17, .ref 18, .ref 19], vm := .none },
  { cls := 18, slots := #[.int 115, .int 105, .int 100, .int 101], vm := .none },
  { cls := 18, slots := #[.int 110, .int 117, .int 109, .int 98, .int 101, .int 114], vm := .none },
  { cls := 18, slots := #[.int 116, .int 101, .int 120, .int 116], vm := .none },
  { cls := 18, slots := #[.int 121, .int 101, .int 115, .int 45, .int 110, .int 111], vm := .none },
  { cls := 18, slots := #[.int 110, .int 111, .int 110, .int 101], vm := .none },
  { cls := 7, slots := #[.ref 5, .int 0, .int 0, .int 0], vm := .none },
  { cls := 7, slots := #[.ref 6, .int 0, .int 0, .int 0], vm := .none },
  { cls := 7, slots := #[.ref 7, .int 0, .int 0, .int 0], vm := .none },
  { cls := 7, slots := #[.ref 8, .int 0, .int 0, .int 0], vm := .none },
  { cls := 7, slots := #[.ref 9, .int 0, .int 0, .int 0], vm := .none },
  { cls := 9, slots := #[.null, .int 0, .int 0, .ref 10, .null], vm := .none },
  { cls := 9, slots := #[.null, .int 1, .int 0, .ref 11, .null], vm := .none },
  { cls := 9, slots := #[.null, .int 2, .int 0, .ref 12, .null], vm := .none },
  { cls := 9, slots := #[.null, .int 3, .int 0, .ref 13, .null], vm := .none },
  { cls := 9, slots := #[.null, .int 4, .int 0, .ref 14, .null], vm := .none },
  { cls := 12, slots := #[.null], vm := .none }]
def classes : Array Class := #[k0, k1, k2, k3, k4, k5, k6, k7, k8, k9, k10, k11, k12, k13, k14, k15, k16, k17, k18, k19, k20, k21, k22, k23]
def interned : List (Array UInt16 × Addr) := []
def slotsUsed : Nat := 92
def theMethod : MethodId := ⟨1, 1⟩
def args0 : Array Value := #[.int 5, .int 7, .int 9, .int 1, .int 0]
def aboutOver (below : List Frame) : State where
  vm := { classes := classes, interned := interned.toArray }
  heap := heap
  slotsUsed := slotsUsed
  threads := #[{ frames := .invoking theMethod args0 :: below }]
def below0 : List Frame := [.native { method := ⟨0, 0⟩, args := #[] }]
def about1 : State := aboutOver below0
def p0 : Program := .bare "" "" ""
def e0 : Env := launch0.env 0 0 0
theorem w_frames : about1.frames = Frame.invoking theMethod args0 :: below0 := rfl
set_option maxRecDepth 65536 in
theorem w_args : argsFit about1.vm theMethod args0 = true := by decide +kernel
set_option maxRecDepth 65536 in
theorem w_heap : heapFits about1 = true := by decide +kernel
set_option maxRecDepth 65536 in
theorem w_runnable : about1.curStatus? = some .runnable := by decide +kernel
set_option maxRecDepth 65536 in
theorem w_alone : about1.alone = true := by decide +kernel
set_option maxRecDepth 65536 in
theorem w_named : about1.methodNamed? x = some theMethod := by decide +kernel
set_option maxRecDepth 65536 in
theorem w_hears : about1.hears theMethod below0 = true := by decide +kernel
set_option maxRecDepth 65536 in
theorem w_ripe : about1.ripe theMethod args0 below0 = true := by decide +kernel
theorem w_running : about1.status = .running := rfl
set_option maxRecDepth 65536 in
theorem w_room : about1.hasRoom e0.platform room_1 = true :=
  launch0.hasRoom_least _ room_1 (by decide +kernel) (by decide +kernel) (by decide +kernel) (by decide +kernel) (by decide +kernel) (by decide +kernel)
theorem allAtoms_all (ts : List Jvm.Cond) (a : Array Jvm.Value) (st : Jvm.State) : (allAtoms ts).before a st = ts.all (fun c => c.before a st) := by
  induction ts with
  | nil => rfl
  | cons c t ih =>
    show (Jvm.Cond.and c (allAtoms t)).before a st = _
    rw [Jvm.Cond.before_and, ih, List.all_cons]
def words1 : List Jvm.Cond := Jvm.Cond.code x code maxLocals ret :: tables_1
/-- a 'code' word, met by the world's own term for the bytes: nothing is compared byte by byte -/
theorem code_word {y : MethodName} {bytes : ByteArray} {mx : Nat} {rt : Option FieldType} {a : Array Value} {s : State} {m : MethodId} {meth : Method} {c : Code} (h1 : s.methodNamed? y = some m) (h2 : s.vm.method? m = some meth) (h3 : meth.code = some c) (h4 : c.code = bytes)
    (h5 : (c.maxLocals == mx && c.exceptionTable.isEmpty && decide (c.maxStack ≤ mostOperands) && decide (meth.sig.returnType = rt) && !meth.locks && decide (parseMethodDescriptor y.desc = some meth.sig)) = true) : (Jvm.Cond.code y bytes mx rt).before a s = true := by
  simp only [Bool.and_eq_true, beq_iff_eq, Bool.not_eq_true', decide_eq_true_eq] at h5
  obtain ⟨⟨⟨⟨⟨g1, g2⟩, g3⟩, g4⟩, g5⟩, g6⟩ := h5
  simp [Cond.before, Cond.holds, Cond.value, h1, h2, h3, h4, g1, g2, g3, g4, g5, g6]
def isCode : Jvm.Cond → Bool
  | .code _ _ _ _ => true
  | _ => false
theorem all_split {L : List Jvm.Cond} {P : Jvm.Cond → Bool} (h1 : L.all (fun c => isCode c || P c) = true) (h2 : ∀ c ∈ L.filter isCode, P c = true) : L.all P = true := by
  refine List.all_eq_true.mpr fun c hc => ?_
  have h := List.all_eq_true.mp h1 c hc
  rcases Bool.eq_false_or_eq_true (isCode c) with hi | hi
  · exact h2 c (List.mem_filter.mpr ⟨hc, hi⟩)
  · simpa [hi] using h
set_option maxRecDepth 65536 in
theorem w_c0 : (Jvm.Cond.code x code maxLocals ret).before args0 about1 = true := code_word (m := ⟨1, 1⟩) (meth := k1m1) (c := k1c1) (by decide +kernel) rfl rfl rfl (by decide +kernel)
set_option maxRecDepth 65536 in
theorem w_c1 : (Jvm.Cond.code ({ cls := "com/example/phaseline/phaseline/game/KindNamedPinLaw", name := "build", desc := "(Ljava/lang/String;IIC)Ljava/lang/String;" } : Jvm.MethodName) method_5_code (5 : Nat) (Option.some (Jvm.ClassFile.FieldType.object "java/lang/String"))).before args0 about1 = true := code_word (m := ⟨1, 4⟩) (meth := k1m4) (c := k1c4) (by decide +kernel) rfl rfl rfl (by decide +kernel)
set_option maxRecDepth 65536 in
theorem w_c2 : (Jvm.Cond.code ({ cls := "java/lang/String", name := "<init>", desc := "([C)V" } : Jvm.MethodName) jdk_42_method_3_code (2 : Nat) (Option.none : Option Jvm.ClassFile.FieldType)).before args0 about1 = true := code_word (m := ⟨7, 1⟩) (meth := k7m1) (c := k7c1) (by decide +kernel) rfl rfl rfl (by decide +kernel)
set_option maxRecDepth 65536 in
theorem w_c3 : (Jvm.Cond.code ({ cls := "java/lang/String", name := "<init>", desc := "([CIILjava/lang/Void;)V" } : Jvm.MethodName) jdk_42_method_149_code (6 : Nat) (Option.none : Option Jvm.ClassFile.FieldType)).before args0 about1 = true := code_word (m := ⟨7, 5⟩) (meth := k7m5) (c := k7c5) (by decide +kernel) rfl rfl rfl (by decide +kernel)
set_option maxRecDepth 65536 in
theorem w_c4 : (Jvm.Cond.code ({ cls := "java/lang/Object", name := "<init>", desc := "()V" } : Jvm.MethodName) object_method_1_code (1 : Nat) (Option.none : Option Jvm.ClassFile.FieldType)).before args0 about1 = true := code_word (m := ⟨0, 0⟩) (meth := k0m0) (c := k0c0) (by decide +kernel) rfl rfl rfl (by decide +kernel)
set_option maxRecDepth 65536 in
theorem w_c5 : (Jvm.Cond.code ({ cls := "com/example/phaseline/phaseline/game/Kind", name := "named", desc := "(Ljava/lang/String;)Ljava/util/Optional;" } : Jvm.MethodName) prog_14_method_7_code (5 : Nat) (Option.some (Jvm.ClassFile.FieldType.object "java/util/Optional"))).before args0 about1 = true := code_word (m := ⟨9, 1⟩) (meth := k9m1) (c := k9c1) (by decide +kernel) rfl rfl rfl (by decide +kernel)
set_option maxRecDepth 65536 in
theorem w_c6 : (Jvm.Cond.code ({ cls := "com/example/phaseline/phaseline/game/Kind", name := "values", desc := "()[Lcom/example/phaseline/phaseline/game/Kind;" } : Jvm.MethodName) prog_14_method_1_code (0 : Nat) (Option.some (Jvm.ClassFile.FieldType.array (Jvm.ClassFile.FieldType.object "com/example/phaseline/phaseline/game/Kind")))).before args0 about1 = true := code_word (m := ⟨9, 0⟩) (meth := k9m0) (c := k9c0) (by decide +kernel) rfl rfl rfl (by decide +kernel)
set_option maxRecDepth 65536 in
theorem w_c7 : (Jvm.Cond.code ({ cls := "java/lang/String", name := "equals", desc := "(Ljava/lang/Object;)Z" } : Jvm.MethodName) jdk_42_method_66_code (3 : Nat) (Option.some Jvm.ClassFile.FieldType.boolean)).before args0 about1 = true := code_word (m := ⟨7, 4⟩) (meth := k7m4) (c := k7c4) (by decide +kernel) rfl rfl rfl (by decide +kernel)
set_option maxRecDepth 65536 in
theorem w_c8 : (Jvm.Cond.code ({ cls := "java/lang/StringLatin1", name := "equals", desc := "([B[B)Z" } : Jvm.MethodName) jdk_43_method_13_code (3 : Nat) (Option.some Jvm.ClassFile.FieldType.boolean)).before args0 about1 = true := code_word (m := ⟨11, 2⟩) (meth := k11m2) (c := k11c2) (by decide +kernel) rfl rfl rfl (by decide +kernel)
set_option maxRecDepth 65536 in
theorem w_c9 : (Jvm.Cond.code ({ cls := "java/util/Optional", name := "empty", desc := "()Ljava/util/Optional;" } : Jvm.MethodName) jdk_32_method_1_code (1 : Nat) (Option.some (Jvm.ClassFile.FieldType.object "java/util/Optional"))).before args0 about1 = true := code_word (m := ⟨12, 0⟩) (meth := k12m0) (c := k12c0) (by decide +kernel) rfl rfl rfl (by decide +kernel)
set_option maxRecDepth 65536 in
theorem w_c10 : (Jvm.Cond.code ({ cls := "java/util/Optional", name := "orElse", desc := "(Ljava/lang/Object;)Ljava/lang/Object;" } : Jvm.MethodName) jdk_32_method_15_code (2 : Nat) (Option.some (Jvm.ClassFile.FieldType.object "java/lang/Object"))).before args0 about1 = true := code_word (m := ⟨12, 3⟩) (meth := k12m3) (c := k12c3) (by decide +kernel) rfl rfl rfl (by decide +kernel)
set_option maxRecDepth 65536 in
theorem w_c11 : (Jvm.Cond.code ({ cls := "com/example/phaseline/phaseline/game/KindNamedPinLaw", name := "expected", desc := "(Ljava/lang/String;)Lcom/example/phaseline/phaseline/game/Kind;" } : Jvm.MethodName) method_3_code (1 : Nat) (Option.some (Jvm.ClassFile.FieldType.object "com/example/phaseline/phaseline/game/Kind"))).before args0 about1 = true := code_word (m := ⟨1, 2⟩) (meth := k1m2) (c := k1c2) (by decide +kernel) rfl rfl rfl (by decide +kernel)
set_option maxRecDepth 65536 in
theorem w_c12 : (Jvm.Cond.code ({ cls := "java/lang/String", name := "length", desc := "()I" } : Jvm.MethodName) jdk_42_method_54_code (1 : Nat) (Option.some Jvm.ClassFile.FieldType.int)).before args0 about1 = true := code_word (m := ⟨7, 2⟩) (meth := k7m2) (c := k7c2) (by decide +kernel) rfl rfl rfl (by decide +kernel)
set_option maxRecDepth 65536 in
theorem w_c13 : (Jvm.Cond.code ({ cls := "java/lang/String", name := "coder", desc := "()B" } : Jvm.MethodName) jdk_42_method_152_code (1 : Nat) (Option.some Jvm.ClassFile.FieldType.byte)).before args0 about1 = true := code_word (m := ⟨7, 6⟩) (meth := k7m6) (c := k7c6) (by decide +kernel) rfl rfl rfl (by decide +kernel)
set_option maxRecDepth 65536 in
theorem w_c14 : (Jvm.Cond.code ({ cls := "com/example/phaseline/phaseline/game/KindNamedPinLaw", name := "at", desc := "(Ljava/lang/String;IIC)C" } : Jvm.MethodName) method_4_code (4 : Nat) (Option.some Jvm.ClassFile.FieldType.char)).before args0 about1 = true := code_word (m := ⟨1, 3⟩) (meth := k1m3) (c := k1c3) (by decide +kernel) rfl rfl rfl (by decide +kernel)
set_option maxRecDepth 65536 in
theorem w_c15 : (Jvm.Cond.code ({ cls := "java/lang/String", name := "charAt", desc := "(I)C" } : Jvm.MethodName) jdk_42_method_56_code (2 : Nat) (Option.some Jvm.ClassFile.FieldType.char)).before args0 about1 = true := code_word (m := ⟨7, 3⟩) (meth := k7m3) (c := k7c3) (by decide +kernel) rfl rfl rfl (by decide +kernel)
set_option maxRecDepth 65536 in
theorem w_c16 : (Jvm.Cond.code ({ cls := "java/lang/String", name := "isLatin1", desc := "()Z" } : Jvm.MethodName) jdk_42_method_154_code (1 : Nat) (Option.some Jvm.ClassFile.FieldType.boolean)).before args0 about1 = true := code_word (m := ⟨7, 7⟩) (meth := k7m7) (c := k7c7) (by decide +kernel) rfl rfl rfl (by decide +kernel)
set_option maxRecDepth 65536 in
theorem w_c17 : (Jvm.Cond.code ({ cls := "java/lang/StringLatin1", name := "charAt", desc := "([BI)C" } : Jvm.MethodName) jdk_43_method_2_code (2 : Nat) (Option.some Jvm.ClassFile.FieldType.char)).before args0 about1 = true := code_word (m := ⟨11, 1⟩) (meth := k11m1) (c := k11c1) (by decide +kernel) rfl rfl rfl (by decide +kernel)
set_option maxRecDepth 65536 in
theorem w_c18 : (Jvm.Cond.code ({ cls := "java/lang/String", name := "checkIndex", desc := "(II)V" } : Jvm.MethodName) jdk_42_method_155_code (2 : Nat) (Option.none : Option Jvm.ClassFile.FieldType)).before args0 about1 = true := code_word (m := ⟨7, 8⟩) (meth := k7m8) (c := k7c8) (by decide +kernel) rfl rfl rfl (by decide +kernel)
set_option maxRecDepth 65536 in
theorem w_c19 : (Jvm.Cond.code ({ cls := "jdk/internal/util/Preconditions", name := "checkIndex", desc := "(IILjava/util/function/BiFunction;)I" } : Jvm.MethodName) jdk_41_method_11_code (3 : Nat) (Option.some Jvm.ClassFile.FieldType.int)).before args0 about1 = true := code_word (m := ⟨13, 1⟩) (meth := k13m1) (c := k13c1) (by decide +kernel) rfl rfl rfl (by decide +kernel)
set_option maxRecDepth 65536 in
theorem w_c20 : (Jvm.Cond.code ({ cls := "java/lang/StringUTF16", name := "compress", desc := "([CII)[B" } : Jvm.MethodName) jdk_52_method_16_code (6 : Nat) (Option.some (Jvm.ClassFile.FieldType.array Jvm.ClassFile.FieldType.byte))).before args0 about1 = true := code_word (m := ⟨14, 2⟩) (meth := k14m2) (c := k14c2) (by decide +kernel) rfl rfl rfl (by decide +kernel)
set_option maxRecDepth 65536 in
theorem w_c21 : (Jvm.Cond.code ({ cls := "java/lang/StringUTF16", name := "compress", desc := "([CI[BII)I" } : Jvm.MethodName) jdk_52_method_21_code (7 : Nat) (Option.some Jvm.ClassFile.FieldType.int)).before args0 about1 = true := code_word (m := ⟨14, 3⟩) (meth := k14m3) (c := k14c3) (by decide +kernel) rfl rfl rfl (by decide +kernel)
set_option maxRecDepth 65536 in
theorem w_c22 : (Jvm.Cond.code ({ cls := "java/lang/StringUTF16", name := "coderFromArrayLen", desc := "([BI)B" } : Jvm.MethodName) jdk_52_method_15_code (2 : Nat) (Option.some Jvm.ClassFile.FieldType.byte)).before args0 about1 = true := code_word (m := ⟨14, 1⟩) (meth := k14m1) (c := k14c1) (by decide +kernel) rfl rfl rfl (by decide +kernel)
set_option maxRecDepth 65536 in
theorem w_c23 : (Jvm.Cond.code ({ cls := "java/util/Optional", name := "of", desc := "(Ljava/lang/Object;)Ljava/util/Optional;" } : Jvm.MethodName) jdk_32_method_3_code (1 : Nat) (Option.some (Jvm.ClassFile.FieldType.object "java/util/Optional"))).before args0 about1 = true := code_word (m := ⟨12, 2⟩) (meth := k12m2) (c := k12c2) (by decide +kernel) rfl rfl rfl (by decide +kernel)
set_option maxRecDepth 65536 in
theorem w_c24 : (Jvm.Cond.code ({ cls := "java/util/Objects", name := "requireNonNull", desc := "(Ljava/lang/Object;)Ljava/lang/Object;" } : Jvm.MethodName) jdk_31_method_10_code (1 : Nat) (Option.some (Jvm.ClassFile.FieldType.object "java/lang/Object"))).before args0 about1 = true := code_word (m := ⟨15, 1⟩) (meth := k15m1) (c := k15c1) (by decide +kernel) rfl rfl rfl (by decide +kernel)
set_option maxRecDepth 65536 in
theorem w_c25 : (Jvm.Cond.code ({ cls := "java/util/Optional", name := "<init>", desc := "(Ljava/lang/Object;)V" } : Jvm.MethodName) jdk_32_method_2_code (2 : Nat) (Option.none : Option Jvm.ClassFile.FieldType)).before args0 about1 = true := code_word (m := ⟨12, 1⟩) (meth := k12m1) (c := k12c1) (by decide +kernel) rfl rfl rfl (by decide +kernel)
def codes1 : List Jvm.Cond := [Jvm.Cond.code x code maxLocals ret, Jvm.Cond.code ({ cls := "com/example/phaseline/phaseline/game/KindNamedPinLaw", name := "build", desc := "(Ljava/lang/String;IIC)Ljava/lang/String;" } : Jvm.MethodName) method_5_code (5 : Nat) (Option.some (Jvm.ClassFile.FieldType.object "java/lang/String")), Jvm.Cond.code ({ cls := "java/lang/String", name := "<init>", desc := "([C)V" } : Jvm.MethodName) jdk_42_method_3_code (2 : Nat) (Option.none : Option Jvm.ClassFile.FieldType), Jvm.Cond.code ({ cls := "java/lang/String", name := "<init>", desc := "([CIILjava/lang/Void;)V" } : Jvm.MethodName) jdk_42_method_149_code (6 : Nat) (Option.none : Option Jvm.ClassFile.FieldType), Jvm.Cond.code ({ cls := "java/lang/Object", name := "<init>", desc := "()V" } : Jvm.MethodName) object_method_1_code (1 : Nat) (Option.none : Option Jvm.ClassFile.FieldType), Jvm.Cond.code ({ cls := "com/example/phaseline/phaseline/game/Kind", name := "named", desc := "(Ljava/lang/String;)Ljava/util/Optional;" } : Jvm.MethodName) prog_14_method_7_code (5 : Nat) (Option.some (Jvm.ClassFile.FieldType.object "java/util/Optional")), Jvm.Cond.code ({ cls := "com/example/phaseline/phaseline/game/Kind", name := "values", desc := "()[Lcom/example/phaseline/phaseline/game/Kind;" } : Jvm.MethodName) prog_14_method_1_code (0 : Nat) (Option.some (Jvm.ClassFile.FieldType.array (Jvm.ClassFile.FieldType.object "com/example/phaseline/phaseline/game/Kind"))), Jvm.Cond.code ({ cls := "java/lang/String", name := "equals", desc := "(Ljava/lang/Object;)Z" } : Jvm.MethodName) jdk_42_method_66_code (3 : Nat) (Option.some Jvm.ClassFile.FieldType.boolean), Jvm.Cond.code ({ cls := "java/lang/StringLatin1", name := "equals", desc := "([B[B)Z" } : Jvm.MethodName) jdk_43_method_13_code (3 : Nat) (Option.some Jvm.ClassFile.FieldType.boolean), Jvm.Cond.code ({ cls := "java/util/Optional", name := "empty", desc := "()Ljava/util/Optional;" } : Jvm.MethodName) jdk_32_method_1_code (1 : Nat) (Option.some (Jvm.ClassFile.FieldType.object "java/util/Optional")), Jvm.Cond.code ({ cls := "java/util/Optional", name := "orElse", desc := "(Ljava/lang/Object;)Ljava/lang/Object;" } : Jvm.MethodName) jdk_32_method_15_code (2 : Nat) (Option.some (Jvm.ClassFile.FieldType.object "java/lang/Object")), Jvm.Cond.code ({ cls := "com/example/phaseline/phaseline/game/KindNamedPinLaw", name := "expected", desc := "(Ljava/lang/String;)Lcom/example/phaseline/phaseline/game/Kind;" } : Jvm.MethodName) method_3_code (1 : Nat) (Option.some (Jvm.ClassFile.FieldType.object "com/example/phaseline/phaseline/game/Kind")), Jvm.Cond.code ({ cls := "java/lang/String", name := "length", desc := "()I" } : Jvm.MethodName) jdk_42_method_54_code (1 : Nat) (Option.some Jvm.ClassFile.FieldType.int), Jvm.Cond.code ({ cls := "java/lang/String", name := "coder", desc := "()B" } : Jvm.MethodName) jdk_42_method_152_code (1 : Nat) (Option.some Jvm.ClassFile.FieldType.byte), Jvm.Cond.code ({ cls := "com/example/phaseline/phaseline/game/KindNamedPinLaw", name := "at", desc := "(Ljava/lang/String;IIC)C" } : Jvm.MethodName) method_4_code (4 : Nat) (Option.some Jvm.ClassFile.FieldType.char), Jvm.Cond.code ({ cls := "java/lang/String", name := "charAt", desc := "(I)C" } : Jvm.MethodName) jdk_42_method_56_code (2 : Nat) (Option.some Jvm.ClassFile.FieldType.char), Jvm.Cond.code ({ cls := "java/lang/String", name := "isLatin1", desc := "()Z" } : Jvm.MethodName) jdk_42_method_154_code (1 : Nat) (Option.some Jvm.ClassFile.FieldType.boolean), Jvm.Cond.code ({ cls := "java/lang/StringLatin1", name := "charAt", desc := "([BI)C" } : Jvm.MethodName) jdk_43_method_2_code (2 : Nat) (Option.some Jvm.ClassFile.FieldType.char), Jvm.Cond.code ({ cls := "java/lang/String", name := "checkIndex", desc := "(II)V" } : Jvm.MethodName) jdk_42_method_155_code (2 : Nat) (Option.none : Option Jvm.ClassFile.FieldType), Jvm.Cond.code ({ cls := "jdk/internal/util/Preconditions", name := "checkIndex", desc := "(IILjava/util/function/BiFunction;)I" } : Jvm.MethodName) jdk_41_method_11_code (3 : Nat) (Option.some Jvm.ClassFile.FieldType.int), Jvm.Cond.code ({ cls := "java/lang/StringUTF16", name := "compress", desc := "([CII)[B" } : Jvm.MethodName) jdk_52_method_16_code (6 : Nat) (Option.some (Jvm.ClassFile.FieldType.array Jvm.ClassFile.FieldType.byte)), Jvm.Cond.code ({ cls := "java/lang/StringUTF16", name := "compress", desc := "([CI[BII)I" } : Jvm.MethodName) jdk_52_method_21_code (7 : Nat) (Option.some Jvm.ClassFile.FieldType.int), Jvm.Cond.code ({ cls := "java/lang/StringUTF16", name := "coderFromArrayLen", desc := "([BI)B" } : Jvm.MethodName) jdk_52_method_15_code (2 : Nat) (Option.some Jvm.ClassFile.FieldType.byte), Jvm.Cond.code ({ cls := "java/util/Optional", name := "of", desc := "(Ljava/lang/Object;)Ljava/util/Optional;" } : Jvm.MethodName) jdk_32_method_3_code (1 : Nat) (Option.some (Jvm.ClassFile.FieldType.object "java/util/Optional")), Jvm.Cond.code ({ cls := "java/util/Objects", name := "requireNonNull", desc := "(Ljava/lang/Object;)Ljava/lang/Object;" } : Jvm.MethodName) jdk_31_method_10_code (1 : Nat) (Option.some (Jvm.ClassFile.FieldType.object "java/lang/Object")), Jvm.Cond.code ({ cls := "java/util/Optional", name := "<init>", desc := "(Ljava/lang/Object;)V" } : Jvm.MethodName) jdk_32_method_2_code (2 : Nat) (Option.none : Option Jvm.ClassFile.FieldType)]
set_option maxRecDepth 65536 in
theorem codes_eq : words1.filter isCode = codes1 := rfl
theorem w_codes : ∀ c ∈ words1.filter isCode, c.before args0 about1 = true := by
  rw [codes_eq]
  intro c hc
  simp only [codes1, List.mem_cons, List.not_mem_nil, or_false] at hc
  rcases hc with rfl | rfl | rfl | rfl | rfl | rfl | rfl | rfl | rfl | rfl | rfl | rfl | rfl | rfl | rfl | rfl | rfl | rfl | rfl | rfl | rfl | rfl | rfl | rfl | rfl | rfl
  · exact w_c0
  · exact w_c1
  · exact w_c2
  · exact w_c3
  · exact w_c4
  · exact w_c5
  · exact w_c6
  · exact w_c7
  · exact w_c8
  · exact w_c9
  · exact w_c10
  · exact w_c11
  · exact w_c12
  · exact w_c13
  · exact w_c14
  · exact w_c15
  · exact w_c16
  · exact w_c17
  · exact w_c18
  · exact w_c19
  · exact w_c20
  · exact w_c21
  · exact w_c22
  · exact w_c23
  · exact w_c24
  · exact w_c25
set_option maxRecDepth 65536 in
theorem w_t1 : (words1.take 24).all (fun c => isCode c || c.before args0 about1) = true := by decide +kernel
set_option maxRecDepth 65536 in
theorem w_t2 : ((words1.drop 24).take 24).all (fun c => isCode c || c.before args0 about1) = true := by decide +kernel
set_option maxRecDepth 65536 in
theorem w_t3 : (((words1.drop 24).drop 24).take 24).all (fun c => isCode c || c.before args0 about1) = true := by decide +kernel
set_option maxRecDepth 65536 in
theorem w_t4 : ((((words1.drop 24).drop 24).drop 24).take 24).all (fun c => isCode c || c.before args0 about1) = true := by decide +kernel
set_option maxRecDepth 65536 in
theorem w_t5 : (((((words1.drop 24).drop 24).drop 24).drop 24).take 24).all (fun c => isCode c || c.before args0 about1) = true := by decide +kernel
set_option maxRecDepth 65536 in
theorem w_t6 : ((((((words1.drop 24).drop 24).drop 24).drop 24).drop 24).take 24).all (fun c => isCode c || c.before args0 about1) = true := by decide +kernel
set_option maxRecDepth 65536 in
theorem w_t7 : ((((((words1.drop 24).drop 24).drop 24).drop 24).drop 24).drop 24).all (fun c => isCode c || c.before args0 about1) = true := by decide +kernel
theorem w_tables : (allAtoms (Jvm.Cond.code x code maxLocals ret :: tables_1)).before args0 about1 = true := by
  rw [allAtoms_all]
  show words1.all (fun c => c.before args0 about1) = true
  refine all_split ?_ w_codes
  rw [← List.take_append_drop 24 words1, List.all_append, w_t1, ← List.take_append_drop 24 (words1.drop 24), List.all_append, w_t2, ← List.take_append_drop 24 ((words1.drop 24).drop 24), List.all_append, w_t3, ← List.take_append_drop 24 (((words1.drop 24).drop 24).drop 24), List.all_append, w_t4, ← List.take_append_drop 24 ((((words1.drop 24).drop 24).drop 24).drop 24), List.all_append, w_t5, ← List.take_append_drop 24 (((((words1.drop 24).drop 24).drop 24).drop 24).drop 24), List.all_append, w_t6, w_t7]
  rfl
set_option maxRecDepth 65536 in
theorem w_rest : rest_1_c.before args0 about1 = true := by decide +kernel
set_option maxRecDepth 65536 in
theorem w_case : (Jvm.Cond.and given_1 narrow_1).before args0 about1 = true := by decide +kernel
set_option maxRecDepth 65536 in
theorem w_consts : constsHeld consts_1 about1 := Jvm.Lit.constsHeldB_iff.mp (by decide +kernel)
theorem w_applies : (headSpec (Jvm.Cond.code x code maxLocals ret :: tables_1) room_1).applies x e0.platform about1 = true :=
  (Spec.applies_iff w_frames).mpr ⟨w_running, w_runnable, w_alone, w_named, w_hears, w_ripe, w_room, w_tables⟩
theorem atStart : AtStart classFile x code maxLocals ret World_1 tables_1 room_1 Calls_1 rest_1 Pre_1 launch0 p0 e0 about1 theMethod args0 below0 :=
  ⟨lists_1, trivial, launch0.admits_env _ _ _, launch0.least_env, fairChoices_fair.cas, fairChoices_fair.clock, w_frames, w_args, w_heap, w_applies, ⟨w_consts, trivial⟩, w_rest, w_case⟩
end start1
theorem witness_1 : WitnessClaimed_1 := ⟨start1.p0, start1.e0, start1.about1, start1.theMethod, start1.args0, start1.below0, start1.atStart⟩
end Jvm.Pilot.@@N@@
