import JvmDerived
import JvmDerived.Pilot.@@N@@Statement
import JvmDerived.Pilot.@@N@@Code
set_option linter.unusedVariables false
set_option linter.unusedSimpArgs false
namespace Jvm.RoadKit
open Sem ClassFile Op Lib Jvm.Stand Jvm.Free Jvm.LawKit
section New
variable {p : Program} {l : Launch} {e : Env} {R : Room} {s : State} {m : MethodId} {args : Array Value} {below : List Frame} {meth : Method} {c : Code} {T : State} {locs : List Loc} {cells slots : Nat}
theorem retI (X : Stand p l e R s m args below meth c T locs cells slots) (hx : p.tables.exec = Jvm.exec) {pc : Nat} {Ls : Array Slot} {z : Int32} {rest : List Value} (hret : meth.sig.returnType = some .int) (hd : decode c.code pc = .ok (.ireturn, 1)) {fs : List Frame}
    (hl : ∀ (f : JFrame) (acts : List Action), f.method = m → f.locked = none → f.entered = [] → (doReturn e (T.setTop f) acts (some (.int z))).1 = T.setFrames fs) : Steps p.tables e below (T.setTop (mkF m pc Ls (.int z :: rest))) (T.setFrames fs) := by
  have hm' : T.vm.method? m = some meth := X.method'
  have hn : narrow .int (.int z) = .int z := rfl
  show Steps p.tables e below (T.setTop { method := m, pc := pc, locals := Ls, stack := _ :: rest, locked := none }) _
  jvm_step X.here [X.here.top, hx, hd, hm', hret, hn]
  first | (intro acts; rw [hl _ acts rfl rfl rfl]) | rw [hl _ _ rfl rfl rfl]
  exact Steps.refl _
end New
end Jvm.RoadKit
namespace Jvm.Pilot.@@N@@
open Jvm Jvm.ClassFile Sem Op Lib Jvm.Free Jvm.Stand Jvm.LawKit Jvm.RoadKit Bundle Jvm.Pilot.@@N@@.Jvm.D
open Jvm.Free.XT (ushr ushrL cmpL)
section GoKit
open Jvm.Free.XT (ushr ushrL cmpL)
variable {p : Program} {l : Launch} {e : Env} {R : Room} {s : State} {m : MethodId} {args : Array Value} {below : List Frame} {meth : Method} {c : Code} {T : State} {locs : List Loc} {cells slots : Nat} {Q : Option Value → Heap → List Loc → Prop} {rc rs : Nat} {Fi : Outcome → State → Prop} {bytes : ByteArray} {pc pc' : Nat} {Ls : Array Slot} {rest : List Value}
def GoE (p : Program) (e : Env) (below : List Frame) (Fi : Outcome → State → Prop) (S : State) : Prop :=
  ∃ t o, Steps p.tables e below S t ∧ t.status = .running ∧ Ended t below o ∧ Fi o t
abbrev Go (p : Program) (e : Env) (below : List Frame) (s : State) (rc rs : Nat) (Q : Option Value → Heap → List Loc → Prop) (S : State) : Prop :=
  GoE p e below (fun o t => ∃ v L, o = .returned v ∧ Q v t.heap L ∧ FrameEnd s o t L rc rs) S
theorem GoE.pull {a b : State} (h : GoE p e below Fi b) (f : ∀ t, Steps p.tables e below b t → Steps p.tables e below a t) : GoE p e below Fi a := by
  obtain ⟨t, o, h1, h2⟩ := h
  exact ⟨t, o, f t h1, h2⟩
def Ctr (l : Launch) (Z : State) (y : MethodName) (bytes : ByteArray) (ml : Nat) (ret : Option FieldType) (ws : List Jvm.Cond) (rm : Room) (as : Array Value) (h0 : Heap) (Q : Option Value → Heap → List Loc → Prop) : Prop :=
  MetFree l y (head1 (Jvm.Cond.code y bytes ml ret :: ws) rm) (fun a U => a = as ∧ Z.Warmed39 U.vm ∧ U.heap = h0) (fun _ _ _ _ _ => True) (fun _ U o U' => ∃ v L, o = .returned v ∧ Q v U'.heap L ∧ FrameEnd U o U' L rm.cells rm.slots)
theorem Ctr.enter {Z : State} {y : MethodName} {ml : Nat} {ret : Option FieldType} {ws : List Jvm.Cond} {rm : Room} {as : Array Value} {h0 : Heap} (hpl : plainFor y = true) (hef : ∀ m, entryFrame m as ml = mkF m 0 Ls [])
    (body : ∀ (p : Program) (e : Env) (s : State) (m : MethodId) (below : List Frame) (meth : Method) (c : Code) (T : State), p.tables.exec = Jvm.exec → c.code = bytes → c.maxLocals = ml → s.vm.findClass y.cls = some m.cls → meth.name = y.name → meth.sig.returnType = ret → meth.locks = false → Z.Warmed39 s.vm → s.heap = h0 →
      Stand p l e rm s m as below meth c T [] 0 0 → T.heap = h0 → Go p e below s rm.cells rm.slots Q (T.setTop (mkF m 0 Ls []))) : Ctr l Z y bytes ml ret ws rm as h0 Q := by
  refine MetFree.of_bodySF hpl hisR ?_
  intro p e s m args below meth c s₁ Bd hml0 hP hK
  obtain ⟨rfl, hZ, hh⟩ := hP
  have h := body p e s m below meth c s₁ Bd.exec Bd.bytes hml0 (findClass_of_methodNamed Bd.named) (name_of_methodNamed Bd.named Bd.method).1 Bd.returns (BodyLoose.notSynchronized Bd) hZ hh (Stand.of_body Bd) (by rw [← hh, Bd.state]; rfl)
  exact h.pull fun t k => castTop (hef m) k
theorem g_iload (X : Stand p l e R s m args below meth c T locs cells slots) (hx : p.tables.exec = Jvm.exec) {k : Nat} {v : Int32} (hby : c.code = bytes) (hd : decode bytes pc = .ok (.iload k, 2)) (hp : pc + 2 = pc') (hl : Ls[k]? = some (.val (.int v)))
    (H : GoE p e below Fi (T.setTop (mkF m pc' Ls (.int v :: rest)))) : GoE p e below Fi (T.setTop (mkF m pc Ls rest)) := by
  subst hp; exact H.pull fun t k => Jvm.Free.XS.iload X.here hx rfl (hb hby hd) hl k
theorem g_iloadN (X : Stand p l e R s m args below meth c T locs cells slots) (hx : p.tables.exec = Jvm.exec) {k : Fin 4} {v : Int32} (hby : c.code = bytes) (hd : decode bytes pc = .ok (.iload_n k, 1)) (hp : pc + 1 = pc') (hl : Ls[k.val]? = some (.val (.int v)))
    (H : GoE p e below Fi (T.setTop (mkF m pc' Ls (.int v :: rest)))) : GoE p e below Fi (T.setTop (mkF m pc Ls rest)) := by
  subst hp; exact H.pull fun t k => Jvm.Free.XS.iloadN X.here hx rfl (hb hby hd) hl k
theorem g_istore (X : Stand p l e R s m args below meth c T locs cells slots) (hx : p.tables.exec = Jvm.exec) {k : Nat} {x : Int32} {l' : Array Slot} (hby : c.code = bytes) (hd : decode bytes pc = .ok (.istore k, 2)) (hp : pc + 2 = pc') (hl : storeLocals Ls k (.int x) = some l')
    (H : GoE p e below Fi (T.setTop (mkF m pc' l' rest))) : GoE p e below Fi (T.setTop (mkF m pc Ls (.int x :: rest))) := by
  subst hp; exact H.pull fun t k => Jvm.Free.XS.istore X.here hx rfl (hb hby hd) rfl hl k
theorem g_aload (X : Stand p l e R s m args below meth c T locs cells slots) (hx : p.tables.exec = Jvm.exec) {k : Nat} {v : Value} (hby : c.code = bytes) (hd : decode bytes pc = .ok (.aload k, 2)) (hp : pc + 2 = pc') (hl : Ls[k]? = some (.val v)) (hv : v.isRef = true)
    (H : GoE p e below Fi (T.setTop (mkF m pc' Ls (v :: rest)))) : GoE p e below Fi (T.setTop (mkF m pc Ls rest)) := by
  subst hp; exact H.pull fun t k => Jvm.Free.XS.aload X.here hx rfl (hb hby hd) hl hv k
theorem g_aloadN (X : Stand p l e R s m args below meth c T locs cells slots) (hx : p.tables.exec = Jvm.exec) {k : Fin 4} {v : Value} (hby : c.code = bytes) (hd : decode bytes pc = .ok (.aload_n k, 1)) (hp : pc + 1 = pc') (hl : Ls[k.val]? = some (.val v)) (hv : v.isRef = true)
    (H : GoE p e below Fi (T.setTop (mkF m pc' Ls (v :: rest)))) : GoE p e below Fi (T.setTop (mkF m pc Ls rest)) := by
  subst hp; exact H.pull fun t k => Jvm.Free.XS.aloadN X.here hx rfl (hb hby hd) hl hv k
theorem g_astore (X : Stand p l e R s m args below meth c T locs cells slots) (hx : p.tables.exec = Jvm.exec) {k : Nat} {x : Value} {l' : Array Slot} (hby : c.code = bytes) (hd : decode bytes pc = .ok (.astore k, 2)) (hp : pc + 2 = pc') (hv : x.isRef = true) (hl : storeLocals Ls k x = some l')
    (H : GoE p e below Fi (T.setTop (mkF m pc' l' rest))) : GoE p e below Fi (T.setTop (mkF m pc Ls (x :: rest))) := by
  subst hp; exact H.pull fun t k => Jvm.Free.XS.astore X.here hx rfl (hb hby hd) rfl hv hl k
theorem g_astoreN (X : Stand p l e R s m args below meth c T locs cells slots) (hx : p.tables.exec = Jvm.exec) {k : Fin 4} {x : Value} {l' : Array Slot} (hby : c.code = bytes) (hd : decode bytes pc = .ok (.astore_n k, 1)) (hp : pc + 1 = pc') (hv : x.isRef = true) (hl : storeLocals Ls k.val x = some l')
    (H : GoE p e below Fi (T.setTop (mkF m pc' l' rest))) : GoE p e below Fi (T.setTop (mkF m pc Ls (x :: rest))) := by
  subst hp; exact H.pull fun t k => Jvm.Free.XS.astoreN X.here hx rfl (hb hby hd) rfl hv hl k
theorem g_iconst (X : Stand p l e R s m args below meth c T locs cells slots) (hx : p.tables.exec = Jvm.exec) {i : Int} {z : Int32} (hby : c.code = bytes) (hd : decode bytes pc = .ok (.iconst i, 1)) (hp : pc + 1 = pc') (hz : z = Int32.ofInt i)
    (H : GoE p e below Fi (T.setTop (mkF m pc' Ls (.int z :: rest)))) : GoE p e below Fi (T.setTop (mkF m pc Ls rest)) := by
  subst hp; exact H.pull fun t k => Jvm.Free.XS.iconst X.here hx rfl (hb hby hd) (hz ▸ k)
theorem g_aconstNull (X : Stand p l e R s m args below meth c T locs cells slots) (hx : p.tables.exec = Jvm.exec)  (hby : c.code = bytes) (hd : decode bytes pc = .ok (.aconst_null, 1)) (hp : pc + 1 = pc') 
    (H : GoE p e below Fi (T.setTop (mkF m pc' Ls (.null :: rest)))) : GoE p e below Fi (T.setTop (mkF m pc Ls rest)) := by
  subst hp; exact H.pull fun t k => Jvm.Free.XS.aconstNull X.here hx rfl (hb hby hd) k
theorem g_iand (X : Stand p l e R s m args below meth c T locs cells slots) (hx : p.tables.exec = Jvm.exec) {x y : Int32} (hby : c.code = bytes) (hd : decode bytes pc = .ok (.iand, 1)) (hp : pc + 1 = pc') 
    (H : GoE p e below Fi (T.setTop (mkF m pc' Ls (.int (x &&& y) :: rest)))) : GoE p e below Fi (T.setTop (mkF m pc Ls (.int y :: .int x :: rest))) := by
  subst hp; exact H.pull fun t k => Jvm.Free.XS.iand X.here hx rfl (hb hby hd) rfl k
theorem g_i2b (X : Stand p l e R s m args below meth c T locs cells slots) (hx : p.tables.exec = Jvm.exec) {x : Int32} (hby : c.code = bytes) (hd : decode bytes pc = .ok (.i2b, 1)) (hp : pc + 1 = pc') 
    (H : GoE p e below Fi (T.setTop (mkF m pc' Ls (.int x.toInt8.toInt32 :: rest)))) : GoE p e below Fi (T.setTop (mkF m pc Ls (.int x :: rest))) := by
  subst hp; exact H.pull fun t k => Jvm.Free.XT.i2b X.here hx rfl (hb hby hd) rfl k
theorem g_dup (X : Stand p l e R s m args below meth c T locs cells slots) (hx : p.tables.exec = Jvm.exec) {x : Value} (hby : c.code = bytes) (hd : decode bytes pc = .ok (.dup, 1)) (hp : pc + 1 = pc') (hc : x.category = 1)
    (H : GoE p e below Fi (T.setTop (mkF m pc' Ls (x :: x :: rest)))) : GoE p e below Fi (T.setTop (mkF m pc Ls (x :: rest))) := by
  subst hp; exact H.pull fun t k => Jvm.Free.XS.dup X.here hx rfl (hb hby hd) rfl hc k
theorem g_dup_x1 (X : Stand p l e R s m args below meth c T locs cells slots) (hx : p.tables.exec = Jvm.exec) {x y : Value} (hby : c.code = bytes) (hd : decode bytes pc = .ok (.dup_x1, 1)) (hp : pc + 1 = pc') (hc : x.category = 1) (hc2 : y.category = 1)
    (H : GoE p e below Fi (T.setTop (mkF m pc' Ls (x :: y :: x :: rest)))) : GoE p e below Fi (T.setTop (mkF m pc Ls (x :: y :: rest))) := by
  subst hp; exact H.pull fun t k => Jvm.Free.XT.dupX1 X.here hx rfl (hb hby hd) rfl hc hc2 k
theorem g_goto (X : Stand p l e R s m args below meth c T locs cells slots) (hx : p.tables.exec = Jvm.exec) {o : Int} (hby : c.code = bytes) (hd : decode bytes pc = .ok (.goto o, 3)) (ho : 0 ≤ (pc : Int) + o) (hp : ((pc : Int) + o).toNat = pc')
    (H : GoE p e below Fi (T.setTop (mkF m pc' Ls rest))) : GoE p e below Fi (T.setTop (mkF m pc Ls rest)) :=
  H.pull fun t k => Jvm.Free.XS.goto X.here hx rfl rfl (hb hby hd) ho hp k
theorem g_if_eq (X : Stand p l e R s m args below meth c T locs cells slots) (hx : p.tables.exec = Jvm.exec) {o : Int} {pn : Nat} (hby : c.code = bytes) {x : Int32} (hd : decode bytes pc = .ok (.ifCond .eq o, 3)) (ho : 0 ≤ (pc : Int) + o) (hp : ((pc : Int) + o).toNat = pc') (hn : pc + 3 = pn)
    (HY : x = 0 → GoE p e below Fi (T.setTop (mkF m pc' Ls rest))) (HN : ¬ (x = 0) → GoE p e below Fi (T.setTop (mkF m pn Ls rest))) : GoE p e below Fi (T.setTop (mkF m pc Ls (.int x :: rest))) := by
  subst hn
  by_cases q : x = 0
  · exact (HY q).pull fun t k => Jvm.Free.XS.ifYes X.here hx rfl rfl (hb hby hd) rfl ((if0 _ _).trans (teq q).1) ho hp k
  · have q' : ¬ (x = 0) := by first | exact q | exact Decidable.not_not.mp q
    exact (HN q').pull fun t k => Jvm.Free.XS.ifNo X.here hx rfl (hb hby hd) rfl ((if0 _ _).trans (feq q').1) k
theorem g_icmp_ne (X : Stand p l e R s m args below meth c T locs cells slots) (hx : p.tables.exec = Jvm.exec) {o : Int} {pn : Nat} (hby : c.code = bytes) {x y : Int32} (hd : decode bytes pc = .ok (.if_icmp .ne o, 3)) (ho : 0 ≤ (pc : Int) + o) (hp : ((pc : Int) + o).toNat = pc') (hn : pc + 3 = pn)
    (HY : ¬ (x = y) → GoE p e below Fi (T.setTop (mkF m pc' Ls rest))) (HN : x = y → GoE p e below Fi (T.setTop (mkF m pn Ls rest))) : GoE p e below Fi (T.setTop (mkF m pc Ls (.int y :: .int x :: rest))) := by
  subst hn
  by_cases q : ¬ (x = y)
  · exact (HY q).pull fun t k => Jvm.Free.XS.icmpYes X.here hx rfl rfl (hb hby hd) rfl (feq q).2 ho hp k
  · have q' : x = y := by first | exact q | exact Decidable.not_not.mp q
    exact (HN q').pull fun t k => Jvm.Free.XS.icmpNo X.here hx rfl (hb hby hd) rfl (teq q').2 k
theorem g_if_ne (X : Stand p l e R s m args below meth c T locs cells slots) (hx : p.tables.exec = Jvm.exec) {o : Int} {pn : Nat} (hby : c.code = bytes) {x : Int32} (hd : decode bytes pc = .ok (.ifCond .ne o, 3)) (ho : 0 ≤ (pc : Int) + o) (hp : ((pc : Int) + o).toNat = pc') (hn : pc + 3 = pn)
    (HY : ¬ (x = 0) → GoE p e below Fi (T.setTop (mkF m pc' Ls rest))) (HN : x = 0 → GoE p e below Fi (T.setTop (mkF m pn Ls rest))) : GoE p e below Fi (T.setTop (mkF m pc Ls (.int x :: rest))) := by
  subst hn
  by_cases q : ¬ (x = 0)
  · exact (HY q).pull fun t k => Jvm.Free.XS.ifYes X.here hx rfl rfl (hb hby hd) rfl ((if0 _ _).trans (feq q).2) ho hp k
  · have q' : x = 0 := by first | exact q | exact Decidable.not_not.mp q
    exact (HN q').pull fun t k => Jvm.Free.XS.ifNo X.here hx rfl (hb hby hd) rfl ((if0 _ _).trans (teq q').2) k
theorem g_ifnull_yes (X : Stand p l e R s m args below meth c T locs cells slots) (hx : p.tables.exec = Jvm.exec) {o : Int} (hby : c.code = bytes) (hd : decode bytes pc = .ok (.ifnull o, 3)) (ho : 0 ≤ (pc : Int) + o) (hp : ((pc : Int) + o).toNat = pc')
    (H : GoE p e below Fi (T.setTop (mkF m pc' Ls rest))) : GoE p e below Fi (T.setTop (mkF m pc Ls (.null :: rest))) :=
  H.pull fun t k => Jvm.Free.XS.ifnullYes X.here hx rfl rfl (hb hby hd) rfl ho hp k
theorem g_ifnonnull_yes (X : Stand p l e R s m args below meth c T locs cells slots) (hx : p.tables.exec = Jvm.exec) {o : Int} (hby : c.code = bytes) {b : Addr} (hd : decode bytes pc = .ok (.ifnonnull o, 3)) (ho : 0 ≤ (pc : Int) + o) (hp : ((pc : Int) + o).toNat = pc')
    (H : GoE p e below Fi (T.setTop (mkF m pc' Ls rest))) : GoE p e below Fi (T.setTop (mkF m pc Ls (.ref b :: rest))) :=
  H.pull fun t k => Jvm.Free.XT.ifnonnullYes X.here hx rfl rfl (hb hby hd) rfl ho hp k
theorem g_ifnonnull_no (X : Stand p l e R s m args below meth c T locs cells slots) (hx : p.tables.exec = Jvm.exec) {o : Int} {pn : Nat} (hby : c.code = bytes) (hd : decode bytes pc = .ok (.ifnonnull o, 3)) (hn : pc + 3 = pn)
    (H : GoE p e below Fi (T.setTop (mkF m pn Ls rest))) : GoE p e below Fi (T.setTop (mkF m pc Ls (.null :: rest))) := by
  subst hn; exact H.pull fun t k => Jvm.Free.XT.ifnonnullNo X.here hx rfl (hb hby hd) rfl k
theorem g_acmp_yes (X : Stand p l e R s m args below meth c T locs cells slots) (hx : p.tables.exec = Jvm.exec) {o : Int} (hby : c.code = bytes) {cd : ClassFile.ACond} {x y : Value} (hd : decode bytes pc = .ok (.if_acmp cd o, 3)) (ho : 0 ≤ (pc : Int) + o) (hp : ((pc : Int) + o).toNat = pc') (h1 : x.isRef = true) (h2 : y.isRef = true) (hc : Jvm.Free.XT.acmp cd x y = true)
    (H : GoE p e below Fi (T.setTop (mkF m pc' Ls rest))) : GoE p e below Fi (T.setTop (mkF m pc Ls (y :: x :: rest))) :=
  H.pull fun t k => Jvm.Free.XT.acmpYes X.here hx rfl rfl (hb hby hd) rfl h1 h2 hc ho hp k
theorem g_retN (X : Stand p l e R s m args below meth c T locs cells slots) (hx : p.tables.exec = Jvm.exec) {z w : Int32} {t : FieldType} (hby : c.code = bytes) (hd : decode bytes pc = .ok (.ireturn, 1)) (hret : meth.sig.returnType = some t) (ht : t = .boolean ∨ t = .byte ∨ t = .char ∨ t = .short) (hnar : nar t z = w) (hlk : meth.locks = false) (hc : cells ≤ rc) (hs : slots ≤ rs) (hQ : Q (some (.int w)) T.heap locs) : Go p e below s rc rs Q (T.setTop (mkF m pc Ls (.int z :: rest))) := by
  subst hnar
  obtain ⟨fs, hr, hrun, hended, hW, hsame⟩ := X.leave (v := some (.int (nar t z))) (fun h => by rw [hret] at h; cases h) hlk
  exact ⟨_, _, retN X hx hret ht (hb hby hd) hr, hrun, hended, _, _, rfl, hQ, ⟨_, rfl⟩, hW, hsame.mono hc hs⟩
theorem g_retA (X : Stand p l e R s m args below meth c T locs cells slots) (hx : p.tables.exec = Jvm.exec) {z : Value} {t : FieldType} (hby : c.code = bytes) (hd : decode bytes pc = .ok (.areturn, 1)) (hz : z.isRef = true) (hret : meth.sig.returnType = some t) (ht : t.isReference = true) (hlk : meth.locks = false) (hc : cells ≤ rc) (hs : slots ≤ rs) (hQ : Q (some z) T.heap locs) : Go p e below s rc rs Q (T.setTop (mkF m pc Ls [z])) := by
  obtain ⟨fs, hr, hrun, hended, hW, hsame⟩ := X.leave (v := some z) (fun h => by first | rfl | (rw [hret] at h; cases h)) hlk
  exact ⟨_, _, X.areturnOut hx hz hret ht (hb hby hd) hr, hrun, hended, _, _, rfl, hQ, ⟨_, rfl⟩, hW, hsame.mono hc hs⟩
theorem g_retV (X : Stand p l e R s m args below meth c T locs cells slots) (hx : p.tables.exec = Jvm.exec)  (hby : c.code = bytes) (hd : decode bytes pc = .ok (.return_, 1)) (hret : meth.sig.returnType = none) (hlk : meth.locks = false) (hc : cells ≤ rc) (hs : slots ≤ rs) (hQ : Q (none) T.heap locs) : Go p e below s rc rs Q (T.setTop (mkF m pc Ls [])) := by
  obtain ⟨fs, hr, hrun, hended, hW, hsame⟩ := X.leave (v := none) (fun h => by first | rfl | (rw [hret] at h; cases h)) hlk
  exact ⟨_, _, X.returnOut hx hret (hb hby hd) hr, hrun, hended, _, _, rfl, hQ, ⟨_, rfl⟩, hW, hsame.mono hc hs⟩
theorem g_callS (X : Stand p l e R s m args below meth c T locs cells slots) (hx : p.tables.exec = Jvm.exec) {Z : State} {a0 : Array Value} (hZ : Z.Warmed39 s.vm) {own : String} (hown : s.vm.findClass own = some m.cls) {y : MethodName} {cb : ByteArray} {maxL : Nat} {ret : Option FieldType} {rm : Room} {as' : Array Value} {h : Heap} {Q' : Option Value → Heap → List Loc → Prop} {W : Nat} {index : Nat} {argsL : List Value} (hby : c.code = bytes) (hd : decode bytes pc = .ok (.invokestatic index, 3)) (hp : pc + 3 = pc') (hml : Ls.size = c.maxLocals)
    (w1 : (Jvm.Cond.methodLink own index y).before a0 Z = true) (w2 : (Jvm.Cond.static y).before a0 Z = true) (w3 : (Jvm.Cond.initialized y.cls).before a0 Z = true) (w4 : (Jvm.Cond.code y cb maxL ret).before a0 Z = true) (hy : y.cls ≠ "java/lang/invoke/MethodHandle" ∧ y.cls ≠ "java/lang/invoke/VarHandle")
    (C : Ctr l Z y cb maxL ret [] rm as' h Q') (eT : T.heap = h) (hfr : rm.frames + 1 ≤ R.frames) (hlo : W + (maxL + 11) + rm.locals ≤ R.locals) (hce : cells + rm.cells ≤ R.cells) (hsl : slots + rm.slots ≤ R.slots) {stk : List Value} {psig : MethodDescriptor} (has : argsL.toArray = as') (hpd : parseMethodDescriptor y.desc = some psig) (hlen : argsL.length = psig.parameters.length) (hst : stk = argsL.reverse ++ rest) (hW : 2 * 0 + (rest.map fun v => v.category).sum ≤ W)
    (K : ∀ (v : Option Value) (T' : State) (L : List Loc), Stand p l e R s m args below meth c T' (locs ++ L) (cells + rm.cells) (slots + rm.slots) → Q' v T'.heap L → GoE p e below Fi (T'.setTop (mkF m pc' Ls (v.toList ++ rest)))) : GoE p e below Fi (T.setTop (mkF m pc Ls stk)) := by
  subst hp hst has
  obtain ⟨v, _, ⟨T4, L4, k4, n4⟩, -, X4, ⟨Lc, hQ, l4, y4, z4⟩, st⟩ := Jvm.LawKit.callS X hx (y := y) hown (mvT hZ w1) (mvT hZ w2) (mvT hZ w3) (mvT hZ w4) hy (backOf (W := W) C hZ w4 w3 hfr hlo) (g := mkF m pc Ls (argsL.reverse ++ rest)) rfl hml (argsL := argsL) (rest := rest) (fun sig h => by rw [hpd] at h; cases h; exact hlen) rfl hW (hb hby hd) (fun _ _ => ⟨rfl, eT, hce, hsl⟩)
  dsimp only [Pt.U, Pt.locs, Pt.cells, Pt.slots] at X4 l4 y4 z4 st hQ
  subst l4 y4 z4
  exact (K v T4 Lc X4 hQ).pull st
theorem g_callI (X : Stand p l e R s m args below meth c T locs cells slots) (hx : p.tables.exec = Jvm.exec) {Z : State} {a0 : Array Value} (hZ : Z.Warmed39 s.vm) {own : String} (hown : s.vm.findClass own = some m.cls) {y : MethodName} {cb : ByteArray} {maxL : Nat} {rm : Room} {as' : Array Value} {h : Heap} {Q' : Option Value → Heap → List Loc → Prop} {W : Nat} {index : Nat} {argsL : List Value} {b : Addr} (hby : c.code = bytes) (hd : decode bytes pc = .ok (.invokespecial index, 3)) (hp : pc + 3 = pc') (hml : Ls.size = c.maxLocals)
    (w1 : (Jvm.Cond.methodLink own index y).before a0 Z = true) (w2 : (Jvm.Cond.instanceMethod y).before a0 Z = true) (w3 : (Jvm.Cond.initialized y.cls).before a0 Z = true) (w4 : (Jvm.Cond.code y cb maxL none).before a0 Z = true) (hin : y.name = "<init>") (hy : y.cls ≠ "java/lang/invoke/MethodHandle" ∧ y.cls ≠ "java/lang/invoke/VarHandle")
    (C : Ctr l Z y cb maxL none [] rm as' h Q') (eT : T.heap = h) (hfr : rm.frames + 1 ≤ R.frames) (hlo : W + (maxL + 11) + rm.locals ≤ R.locals) (hce : cells + rm.cells ≤ R.cells) (hsl : slots + rm.slots ≤ R.slots) {stk : List Value} {psig : MethodDescriptor} (has : (Value.ref b :: argsL).toArray = as') (hpd : parseMethodDescriptor y.desc = some psig) (hlen : argsL.length = psig.parameters.length) (hst : stk = argsL.reverse ++ Value.ref b :: rest) (hW : 2 * 0 + (rest.map fun v => v.category).sum ≤ W)
    (K : ∀ (v : Option Value) (T' : State) (L : List Loc), Stand p l e R s m args below meth c T' (locs ++ L) (cells + rm.cells) (slots + rm.slots) → Q' v T'.heap L → GoE p e below Fi (T'.setTop (mkF m pc' Ls (v.toList ++ rest)))) : GoE p e below Fi (T.setTop (mkF m pc Ls stk)) := by
  subst hp hst has
  obtain ⟨v, _, ⟨T4, L4, k4, n4⟩, -, X4, ⟨Lc, hQ, l4, y4, z4⟩, st⟩ := X.specialBack hx (y := y) hin hown (mvT hZ w1) (mvT hZ w2) (mvT hZ w4) hy (backOf (W := W) C hZ w4 w3 hfr hlo) (g := mkF m pc Ls (argsL.reverse ++ Value.ref b :: rest)) rfl hml (Steps.refl _) (a := b) (argsL := argsL) (rest := rest) (fun sig h => by rw [hpd] at h; cases h; exact hlen) rfl hW (hb hby hd) (fun _ _ => ⟨rfl, eT, hce, hsl⟩)
  dsimp only [Pt.U, Pt.locs, Pt.cells, Pt.slots] at X4 l4 y4 z4 st hQ
  subst l4 y4 z4
  exact (K v T4 Lc X4 hQ).pull fun t k => st.trans k
theorem g_callV (X : Stand p l e R s m args below meth c T locs cells slots) (hx : p.tables.exec = Jvm.exec) {Z : State} {a0 : Array Value} (hZ : Z.Warmed39 s.vm) {own : String} (hown : s.vm.findClass own = some m.cls) {y : MethodName} {cb : ByteArray} {maxL : Nat} {ret : Option FieldType} {rm : Room} {as' : Array Value} {h : Heap} {Q' : Option Value → Heap → List Loc → Prop} {W : Nat} {index : Nat} {argsL : List Value} {b : Addr} {z : MethodName} {C0 : String} (hby : c.code = bytes) (hd : decode bytes pc = .ok (.invokevirtual index, 3)) (hp : pc + 3 = pc') (hml : Ls.size = c.maxLocals)
    (w1 : (Jvm.Cond.methodLink own index y).before a0 Z = true) (w2 : (Jvm.Cond.declares y).before a0 Z = true) (w5 : (Jvm.Cond.selects C0 y z).before a0 Z = true) (nf : NotFace s y) (w6 : (Jvm.Cond.instanceMethod z).before a0 Z = true) (w3 : (Jvm.Cond.initialized z.cls).before a0 Z = true) (w4 : (Jvm.Cond.code z cb maxL ret).before a0 Z = true) (hy : y.cls ≠ "java/lang/invoke/MethodHandle" ∧ y.cls ≠ "java/lang/invoke/VarHandle")
    (C : Ctr l Z z cb maxL ret [] rm as' h Q') (eT : T.heap = h) (E : Exa Z h b C0) (hfr : rm.frames + 1 ≤ R.frames) (hlo : W + (maxL + 11) + rm.locals ≤ R.locals) (hce : cells + rm.cells ≤ R.cells) (hsl : slots + rm.slots ≤ R.slots) {stk : List Value} {psig : MethodDescriptor} (has : (Value.ref b :: argsL).toArray = as') (hpd : parseMethodDescriptor y.desc = some psig) (hlen : argsL.length = psig.parameters.length) (hst : stk = argsL.reverse ++ Value.ref b :: rest) (hW : 2 * 0 + (rest.map fun v => v.category).sum ≤ W)
    (K : ∀ (v : Option Value) (T' : State) (L : List Loc), Stand p l e R s m args below meth c T' (locs ++ L) (cells + rm.cells) (slots + rm.slots) → Q' v T'.heap L → GoE p e below Fi (T'.setTop (mkF m pc' Ls (v.toList ++ rest)))) : GoE p e below Fi (T.setTop (mkF m pc Ls stk)) := by
  subst hp hst has
  obtain ⟨cq, kq, qa, qb, qc⟩ := isOf hZ eT E
  obtain ⟨v, _, ⟨T4, L4, k4, n4⟩, -, X4, ⟨Lc, hQ, l4, y4, z4⟩, st⟩ := X.virtualBack hx (y := y) (z := z) hown (mvT hZ w1) (mvT hZ w2) nf (mvT hZ w5) (mvT hZ w6) hy (backOf (W := W) C hZ w4 w3 hfr hlo) qa qc (g := mkF m pc Ls (argsL.reverse ++ Value.ref b :: rest)) rfl hml (Steps.refl _) (argsL := argsL) (rest := rest) (fun sig h => by rw [hpd] at h; cases h; exact hlen) rfl hW (hb hby hd) (fun _ _ => ⟨rfl, eT, hce, hsl⟩)
  dsimp only [Pt.U, Pt.locs, Pt.cells, Pt.slots] at X4 l4 y4 z4 st hQ
  subst l4 y4 z4
  exact (K v T4 Lc X4 hQ).pull fun t k => st.trans k
theorem g_new (X : Stand p l e R s m args below meth c T locs cells slots) (hx : p.tables.exec = Jvm.exec) {Z : State} {a0 : Array Value} (hZ : Z.Warmed39 s.vm) {own : String} (hown : s.vm.findClass own = some m.cls) {C : String} {index n : Nat} {h : Heap} (hby : c.code = bytes) (hd : decode bytes pc = .ok (.new index, 3)) (hp : pc + 3 = pc') (w1 : (Jvm.Cond.classLink own index C).before a0 Z = true) (w2 : (Jvm.Cond.instantiable C n).before a0 Z = true) (w3 : (Jvm.Cond.initialized C).before a0 Z = true) (eT : T.heap = h) (hce : cells + 1 ≤ R.cells) (hsl : slots + n ≤ R.slots)
    (K : ∀ (T' : State) (b : Addr), b = h.size → Stand p l e R s m args below meth c T' locs (cells + 1) (slots + n) → Ext h T'.heap → Exa Z T'.heap b C → (∀ {O nm d : String} {ty : FieldType}, Laid Z a0 C O nm d → parseFieldDescriptor d = some ty → Fld Z T'.heap b O nm d (defaultValue ty)) → GoE p e below Fi (T'.setTop (mkF m pc' Ls (.ref b :: rest)))) : GoE p e below Fi (T.setTop (mkF m pc Ls rest)) := by
  subst hp
  obtain ⟨T2, h2, X2, e2, E2, A2, D2, -, st2⟩ := newO X hx hZ hown w1 w2 w3 eT (g := mkF m pc Ls rest) rfl (hb hby hd) hce hsl
  subst e2
  exact (K T2 _ rfl X2 E2 A2 D2).pull st2
theorem g_get (X : Stand p l e R s m args below meth c T locs cells slots) (hx : p.tables.exec = Jvm.exec) {Z : State} {a0 : Array Value} (hZ : Z.Warmed39 s.vm) {own : String} (hown : s.vm.findClass own = some m.cls) {O n d : String} {index : Nat} {h : Heap} {a : Addr} {v : Value} (hby : c.code = bytes) (hd : decode bytes pc = .ok (.getfield index, 3)) (hp : pc + 3 = pc') (w : (Jvm.Cond.fieldLink own index O n d).before a0 Z = true) (eT : T.heap = h) (F : Fld Z h a O n d v)
    (K : ∀ T' : State, Stand p l e R s m args below meth c T' locs cells slots → T'.heap = h → GoE p e below Fi (T'.setTop (mkF m pc' Ls (v :: rest)))) : GoE p e below Fi (T.setTop (mkF m pc Ls (.ref a :: rest))) := by
  subst hp
  obtain ⟨T2, X2, e2, st2⟩ := getF X hx hZ hown (host := "") (Or.inl w) Via.refl eT F (g := mkF m pc Ls (.ref a :: rest)) rfl rfl (hb hby hd)
  exact (K T2 X2 e2).pull st2
theorem g_put (X : Stand p l e R s m args below meth c T locs cells slots) (hx : p.tables.exec = Jvm.exec) {Z : State} {a0 : Array Value} (hZ : Z.Warmed39 s.vm) {own : String} (hown : s.vm.findClass own = some m.cls) {O n d C : String} {index kk : Nat} {ty : FieldType} {h : Heap} {a : Addr} {v old : Value} (hby : c.code = bytes) (hd : decode bytes pc = .ok (.putfield index, 3)) (hp : pc + 3 = pc') (w : (Jvm.Cond.fieldLink own index O n d).before a0 Z = true) (eT : T.heap = h) (F : Fld Z h a O n d old) (E : Exa Z h a C) (Lf : (Jvm.Cond.lays C O n d).before a0 Z = true ∨ ((Jvm.Cond.laysFinal C O n d).before a0 Z = true ∧ own = O ∧ meth.name = "<init>")) (wi : (Jvm.Cond.instantiable C kk).before a0 Z = true) (hty : parseFieldDescriptor d = some ty) (hn : narrow ty v = v) (hf : fits ty v = true)
    (K : ∀ T' : State, Stand p l e R s m args below meth c T' (locs ++ [⟨a, RoadKit.slotOf Z O n d⟩]) cells slots → Wr h T'.heap a (RoadKit.slotOf Z O n d) v → GoE p e below Fi (T'.setTop (mkF m pc' Ls rest))) : GoE p e below Fi (T.setTop (mkF m pc Ls (v :: .ref a :: rest))) := by
  subst hp
  obtain ⟨T2, h2, X2, e2, W2, st2⟩ := putF X hx hZ hown (host := "") (Or.inl w) Via.refl eT F E Lf wi hty hn hf (g := mkF m pc Ls (v :: .ref a :: rest)) rfl rfl (hb hby hd)
  subst e2
  exact (K T2 X2 W2).pull st2
theorem g_bastore (X : Stand p l e R s m args below meth c T locs cells slots) (hx : p.tables.exec = Jvm.exec) {Z : State} (hZ : Z.Warmed39 s.vm) {h : Heap} {a : Addr} {k : ClassId} {n : Int32} {vs : List Value} {dv : Value} {j : Int32} {x : Int32} (i : Nat) (hby : c.code = bytes) (hd : decode bytes pc = .ok (.bastore, 1)) (hp : pc + 1 = pc') (eT : T.heap = h) (F : Arv Z h a k .byte n vs dv) (hj : ¬ j < 0 ∧ j < n) (hji : j.toNatClampNeg = i) (hi : i < vs.length)
    (K : ∀ T' : State, Stand p l e R s m args below meth c T' (locs ++ [⟨a, j.toNatClampNeg⟩]) cells slots → Wr h T'.heap a j.toNatClampNeg (.int (nar .byte x)) → Arv Z T'.heap a k .byte n (vs.set i (.int (nar .byte x))) dv → GoE p e below Fi (T'.setTop (mkF m pc' Ls rest))) : GoE p e below Fi (T.setTop (mkF m pc Ls (.int x :: .int j :: .ref a :: rest))) := by
  subst hp
  obtain ⟨cl, A, q1, S, q3, Hh, G⟩ := F
  obtain ⟨T2, h2, X2, e2, W2, st2⟩ := stB X hx hZ eT A (inb_of S hj) (g := mkF m pc Ls (.int x :: .int j :: .ref a :: rest)) rfl rfl (hb hby hd)
  subst e2
  exact (K T2 X2 W2 (Arv.set A q1 S q3 Hh G (fits_nar_byte x) W2 i hji hi)).pull st2
theorem g_newarray (X : Stand p l e R s m args below meth c T locs cells slots) (hx : p.tables.exec = Jvm.exec) {Z : State} {a0 : Array Value} (hZ : Z.Warmed39 s.vm) {aty : ArrayType} {h : Heap} {n : Int32} (cap : Nat) (ad : String) (hby : c.code = bytes) (hd : decode bytes pc = .ok (.newarray aty, 2)) (hp : pc + 2 = pc') (w : (Jvm.Cond.arrayClass (newarray.typeOf aty)).before a0 Z = true) (eT : T.heap = h) (hn : ¬ n < 0) (hcap : n.toNatClampNeg ≤ cap) (hbg : cap * 8 ≤ 536870912) (hce : cells + 1 ≤ R.cells) (hsl : slots + cap ≤ R.slots) (had : "[" ++ (newarray.typeOf aty).toString = ad)
    (K : ∀ (T' : State) (b : Addr) (cA : ClassId), b = h.size → Stand p l e R s m args below meth c T' locs (cells + 1) (slots + cap) → Ext h T'.heap → Arv Z T'.heap b cA (newarray.typeOf aty) n (List.replicate cap (defaultValue (newarray.typeOf aty))) (defaultValue (newarray.typeOf aty)) → Exa Z T'.heap b ad → GoE p e below Fi (T'.setTop (mkF m pc' Ls (.ref b :: rest)))) : GoE p e below Fi (T.setTop (mkF m pc Ls (.int n :: rest))) := by
  subst hp
  obtain ⟨T2, h2, cA, X2, e2, E2, A2, Ex2, st2⟩ := newPE X hx hZ w eT (g := mkF m pc Ls (.int n :: rest)) rfl (hb hby hd) rfl hn hcap hbg hce hsl had
  subst e2
  exact (K T2 _ cA rfl X2 E2 ((Arv.new A2 hn).pad (pad_rep [] _ cap)) Ex2).pull st2
theorem g_castY (X : Stand p l e R s m args below meth c T locs cells slots) (hx : p.tables.exec = Jvm.exec) {Z : State} {a0 : Array Value} (hZ : Z.Warmed39 s.vm) {own : String} (hown : s.vm.findClass own = some m.cls) {C : String} {index : Nat} {h : Heap} {a : Addr} (hby : c.code = bytes) (hd : decode bytes pc = .ok (.checkcast index, 3)) (hp : pc + 3 = pc') (w : (Jvm.Cond.classLink own index C).before a0 Z = true) (eT : T.heap = h) (F : Ins Z h a C true)
    (K : ∀ T' : State, Stand p l e R s m args below meth c T' locs cells slots → T'.heap = h → GoE p e below Fi (T'.setTop (mkF m pc' Ls (.ref a :: rest)))) : GoE p e below Fi (T.setTop (mkF m pc Ls (.ref a :: rest))) := by
  subst hp
  obtain ⟨T2, X2, e2, st2⟩ := castY X hx hZ hown w eT F (g := mkF m pc Ls (.ref a :: rest)) rfl rfl (hb hby hd)
  exact (K T2 X2 e2).pull st2
theorem g_callIf (X : Stand p l e R s m args below meth c T locs cells slots) (hx : p.tables.exec = Jvm.exec) {Z : State} {a0 : Array Value} (hZ : Z.Warmed39 s.vm) {own : String} (hown : s.vm.findClass own = some m.cls) {y : MethodName} {cb : ByteArray} {maxL : Nat} {ret : Option FieldType} {rm : Room} {as' : Array Value} {h : Heap} {Q' : Option Value → Heap → List Loc → Prop} {W : Nat} {index : Nat} {argsL : List Value} {b : Addr} {z : MethodName} {C0 : String} {count : Nat} (hby : c.code = bytes) (hd : decode bytes pc = .ok (.invokeinterface index count, 5)) (hp : pc + 5 = pc') (hml : Ls.size = c.maxLocals)
    (w1 : (Jvm.Cond.methodLink own index y).before a0 Z = true) (w2 : (Jvm.Cond.declares y).before a0 Z = true) (w7 : (Jvm.Cond.interfaceMethod y.cls y.cls y.name y.desc).before a0 Z = true) (hd7 : ((Jvm.Cond.interfaceMethod y.cls y.cls y.name y.desc).onTables && (Jvm.Cond.interfaceMethod y.cls y.cls y.name y.desc).keepsFace) = true) (w5 : (Jvm.Cond.selects C0 y z).before a0 Z = true) (w6 : (Jvm.Cond.instanceMethod z).before a0 Z = true) (w8 : (Jvm.Cond.publicMethod z).before a0 Z = true) (w9 : (Jvm.Cond.unhidden C0 y.name y.desc).before a0 Z = true) (w10 : (Jvm.Cond.castable C0 y.cls).before a0 Z = true) (w3 : (Jvm.Cond.initialized z.cls).before a0 Z = true) (w4 : (Jvm.Cond.code z cb maxL ret).before a0 Z = true) (hy : y.cls ≠ "java/lang/invoke/MethodHandle" ∧ y.cls ≠ "java/lang/invoke/VarHandle")
    (C : Ctr l Z z cb maxL ret [] rm as' h Q') (eT : T.heap = h) (E : Exa Z h b C0) (hfr : rm.frames + 1 ≤ R.frames) (hlo : W + (maxL + 11) + rm.locals ≤ R.locals) (hce : cells + rm.cells ≤ R.cells) (hsl : slots + rm.slots ≤ R.slots) {stk : List Value} {psig : MethodDescriptor} (has : (Value.ref b :: argsL).toArray = as') (hpd : parseMethodDescriptor y.desc = some psig) (hlen : argsL.length = psig.parameters.length) (hst : stk = argsL.reverse ++ Value.ref b :: rest) (hW : 2 * 0 + (rest.map fun v => v.category).sum ≤ W)
    (K : ∀ (v : Option Value) (T' : State) (L : List Loc), Stand p l e R s m args below meth c T' (locs ++ L) (cells + rm.cells) (slots + rm.slots) → Q' v T'.heap L → GoE p e below Fi (T'.setTop (mkF m pc' Ls (v.toList ++ rest)))) : GoE p e below Fi (T.setTop (mkF m pc Ls stk)) := by
  subst hp hst has
  obtain ⟨cq, kq, qa, qb, qc⟩ := isOf hZ eT E
  obtain ⟨v, _, ⟨T4, L4, k4, n4⟩, -, X4, ⟨Lc, hQ, l4, y4, z4⟩, st⟩ := X.interfaceBack hx (xi := y) (y := z) hown (mvT hZ w1) (mvT hZ w2) (mvT hZ w7 hd7) (mvT hZ w5) (mvT hZ w6) (mvT hZ w8) (mvT hZ w9) (mvT hZ w10) hy (backOf (W := W) C hZ w4 w3 hfr hlo) qa qb qc (g := mkF m pc Ls (argsL.reverse ++ Value.ref b :: rest)) rfl hml (Steps.refl _) (argsL := argsL) (rest := rest) (fun sig h => by rw [hpd] at h; cases h; exact hlen) rfl hW (hb hby hd) (fun _ _ => ⟨rfl, eT, hce, hsl⟩)
  dsimp only [Pt.U, Pt.locs, Pt.cells, Pt.slots] at X4 l4 y4 z4 st hQ
  subst l4 y4 z4
  exact (K v T4 Lc X4 hQ).pull fun t k => st.trans k
theorem g_getR (X : Stand p l e R s m args below meth c T locs cells slots) (hx : p.tables.exec = Jvm.exec) {Z : State} {a0 : Array Value} (hZ : Z.Warmed39 s.vm) {own : String} (hown : s.vm.findClass own = some m.cls) {O n d : String} {index : Nat} {h : Heap} {a : Addr} {v : Value} (hby : c.code = bytes) (hd : decode bytes pc = .ok (.getfield index, 3)) (hp : pc + 3 = pc') (w : (Jvm.Cond.fieldRef own index O n d).before a0 Z = true) (eT : T.heap = h) (F : Fld Z h a O n d v)
    (H : GoE p e below Fi (T.setTop (mkF m pc' Ls (v :: rest)))) : GoE p e below Fi (T.setTop (mkF m pc Ls (.ref a :: rest))) := by
  subst hp
  obtain ⟨cell, cf, k, i, f, h1, h2, h3, h4, -, -, h7⟩ := F
  have hT : Z.Warmed39 T.vm := wtrans hZ X.warmed
  have w' := Cond.fieldRef_warmed39 hT w
  have hownT : (Z.setVm T.vm).vm.findClass own = some m.cls := by
    show T.vm.findClass own = some m.cls
    rw [X.warmed.alike.findClass]; exact hown
  obtain ⟨c2, k2, i2, f2, g1, g2⟩ := Cond.fieldRef_spec hownT w'
  obtain ⟨k', hi, -⟩ := State.fieldFound?_setVm (s := Z) hT.alike h2
  cases g1.symm.trans hi
  have g2' : T.vm.fieldReady m.cls index cf f := g2
  refine H.pull fun t kk => ?_
  have hdd := hb hby hd
  have hcell : T.heap[a]? = some cell := by rw [eT]; exact h1
  show Steps p.tables e below (T.setTop { method := m, pc := pc, locals := Ls, stack := .ref a :: rest, locked := none }) t
  jvm_step X.here [hx, hdd, getfield.wp_ready (s := T) (f := { method := m, pc := pc, locals := Ls, stack := .ref a :: rest, locked := none }) X.here.top g2' h3 rfl hcell h4 h7]
  exact kk
theorem g_getClassI (X : Stand p l e R s m args below meth c T locs cells slots) (hx : p.tables.exec = Jvm.exec) {Z : State} {a0 : Array Value} (hZ : Z.Warmed39 s.vm) {own : String} (hown : s.vm.findClass own = some m.cls) {C : String} {xi : MethodName} {index count : Nat} {h : Heap} {a mr : Addr} {W : Nat} (hby : c.code = bytes) (hd : decode bytes pc = .ok (.invokeinterface index count, 5)) (hp : pc + 5 = pc') (hml : Ls.size = c.maxLocals)
    (w1 : (Jvm.Cond.methodLink own index xi).before a0 Z = true) (w2 : (Jvm.Cond.declares Jvm.Stand.gcN).before a0 Z = true) (w3 : (Jvm.Cond.interfaceMethod xi.cls "java/lang/Object" xi.name xi.desc).before a0 Z = true) (w4 : (Jvm.Cond.selects C xi Jvm.Stand.gcN).before a0 Z = true) (w5 : (Jvm.Cond.instanceMethod Jvm.Stand.gcN).before a0 Z = true) (w6 : (Jvm.Cond.publicMethod Jvm.Stand.gcN).before a0 Z = true) (w7 : (Jvm.Cond.unhidden C xi.name xi.desc).before a0 Z = true) (w8 : (Jvm.Cond.castable C xi.cls).before a0 Z = true) (w9 : (Jvm.Cond.native Jvm.Stand.gcN).before a0 Z = true) (hxi : xi.cls ≠ "java/lang/invoke/MethodHandle" ∧ xi.cls ≠ "java/lang/invoke/VarHandle") (hxo : xi.cls ≠ "java/lang/Object") (hn1 : xi.name = "getClass") (hn2 : xi.desc = "()Ljava/lang/Class;")
    (eT : T.heap = h) (E : Exa Z h a C) (M : Mir Z C mr) (hf : 1 ≤ R.frames) (hW : 2 * 0 + (rest.map fun v => v.category).sum ≤ W) (hl : W + (nativeFrameWords "java/lang/Object" "getClass" 1 + 11) ≤ R.locals)
    (K : ∀ T' : State, Stand p l e R s m args below meth c T' locs cells slots → T'.heap = h → GoE p e below Fi (T'.setTop (mkF m pc' Ls (.ref mr :: rest)))) : GoE p e below Fi (T.setTop (mkF m pc Ls (.ref a :: rest))) := by
  subst hp
  obtain ⟨cB, kB, i1, i2, i3⟩ := isOf hZ eT E
  obtain ⟨cc, kc, m1, m2, m3, -⟩ := M
  rw [hZ.alike.findClass] at i1
  cases i1.symm.trans m1
  obtain ⟨k', q, ek⟩ := hZ.alike.2.2 _ _ m2
  obtain ⟨vm', X', st⟩ := X.getClassOfI hx hown (mvT hZ w1) (mvT hZ w2) (Jvm.Free.ULB.iface_rides hZ.alike w3) (mvT hZ w4) (mvT hZ w5) (mvT hZ w6) (mvT hZ w7) (mvT hZ w8) (mvT hZ w9) hxi hxo hn1 hn2 (by rw [hZ.alike.findClass]; exact m1) q i3 (by rw [ek]; exact m3) (g := mkF m pc Ls (.ref a :: rest)) rfl hml rfl (hb hby hd) hf (Nat.le_trans (Nat.add_le_add_right hW _) hl)
  exact (K _ X' eT).pull st
theorem g_ldcM (X : Stand p l e R s m args below meth c T locs cells slots) (hx : p.tables.exec = Jvm.exec) {Z : State} {a0 : Array Value} (hZ : Z.Warmed39 s.vm) {own : String} (hown : s.vm.findClass own = some m.cls) {C : String} {index : Nat} {h : Heap} {mr : Addr} (hby : c.code = bytes) (hd : decode bytes pc = .ok (.ldc index, 2)) (hp : pc + 2 = pc') (w : (Jvm.Cond.classLink own index C).before a0 Z = true) (eT : T.heap = h) (M : Mir Z C mr)
    (K : ∀ T' : State, Stand p l e R s m args below meth c T' locs cells slots → T'.heap = h → GoE p e below Fi (T'.setTop (mkF m pc' Ls (.ref mr :: rest)))) : GoE p e below Fi (T.setTop (mkF m pc Ls rest)) := by
  subst hp
  obtain ⟨cc, kc, m1, m2, m3, -⟩ := M
  obtain ⟨k', q, ek⟩ := hZ.alike.2.2 _ _ m2
  have hev : (Term.mirror C).eval args s none [] s = some (.ref mr) := by
    have f1 : s.vm.findClass C = some cc := by rw [hZ.alike.findClass]; exact m1
    have f2 : k'.mirror = some mr := by rw [ek]; exact m3
    simp [Term.eval, f1, q, f2]
  obtain ⟨vm', X', st⟩ := X.ldcMirror hx hown (mvT hZ w) hev (g := mkF m pc Ls rest) rfl (hb hby hd)
  exact (K _ X' eT).pull st
end GoKit
section GoWKit
variable {p : Program} {l : Launch} {e : Env} {R : Room} {s : State} {m : MethodId} {args : Array Value} {below : List Frame} {meth : Method} {c : Code} {T : State} {locs : List Loc} {cells slots : Nat} {Q : Option Value → Heap → List Loc → Prop} {rc rs : Nat} {Fi : Outcome → State → Prop} {bytes : ByteArray} {pc pc' : Nat} {Ls : Array Slot} {rest : List Value}
abbrev GoW (p : Program) (e : Env) (below : List Frame) (s : State) (rc rs : Nat) (Q : Option Value → Heap → List Loc → Prop) (S : State) : Prop :=
  GoE p e below (fun o t => ∃ v L, o = .returned v ∧ Q v t.heap L ∧ ReturnedEndW s o t L rc rs) S
def CtrW (l : Launch) (Z : State) (y : MethodName) (bytes : ByteArray) (ml : Nat) (ret : Option FieldType) (ws : List Jvm.Cond) (rm : Room) (as : Array Value) (h0 : Heap) (Q : Option Value → Heap → List Loc → Prop) : Prop :=
  MetFree l y (head1 (Jvm.Cond.code y bytes ml ret :: ws) rm) (fun a U => a = as ∧ Z.Warmed39 U.vm ∧ U.heap = h0) (fun _ _ _ _ _ => True) (fun _ U o U' => ∃ v L, o = .returned v ∧ Q v U'.heap L ∧ ReturnedEndW U o U' L rm.cells rm.slots)
theorem CtrW.enter {Z : State} {y : MethodName} {ml : Nat} {ret : Option FieldType} {ws : List Jvm.Cond} {rm : Room} {as : Array Value} {h0 : Heap} (hpl : plainFor y = true) (hef : ∀ m, entryFrame m as ml = mkF m 0 Ls [])
    (body : ∀ (p : Program) (e : Env) (s : State) (m : MethodId) (below : List Frame) (meth : Method) (c : Code) (T : State), p.tables.exec = Jvm.exec → c.code = bytes → c.maxLocals = ml → (s.setVm s.vm).vm.findClass y.cls = some m.cls → meth.name = y.name → meth.sig.returnType = ret → meth.locks = false → Z.Warmed39 (s.setVm s.vm).vm → s.heap = h0 →
      Stand p l e rm (s.setVm s.vm) m as below meth c T [] 0 0 → T.heap = h0 → s.Since s.vm h0.size → GoW p e below s rm.cells rm.slots Q (T.setTop (mkF m 0 Ls []))) : CtrW l Z y bytes ml ret ws rm as h0 Q := by
  refine MetFree.of_bodySF hpl hisR ?_
  intro p e s m args below meth c s₁ Bd hml0 hP hK
  obtain ⟨rfl, hZ, hh⟩ := hP
  have h := body p e s m below meth c s₁ Bd.exec Bd.bytes hml0 (findClass_of_methodNamed Bd.named) (name_of_methodNamed Bd.named Bd.method).1 Bd.returns (BodyLoose.notSynchronized Bd) hZ hh (Stand.of_body Bd) (by rw [← hh, Bd.state]; rfl) ((State.WarmedH.refl s).since _)
  exact h.pull fun t k => castTop (hef m) k
theorem g_clone (X : Stand p l e R s m args below meth c T locs cells slots) (hx : p.tables.exec = Jvm.exec) {Z : State} {a0 : Array Value} (hZ : Z.Warmed39 s.vm) {own : String} (hown : s.vm.findClass own = some m.cls) {index : Nat} {ad : String} {h : Heap} {a : Addr} {k : ClassId} {n : Int32} {vs : List Value} {dv : Value} {ty : FieldType} {W : Nat} (cap : Nat) (hby : c.code = bytes) (hd : decode bytes pc = .ok (.invokevirtual index, 3)) (hp : pc + 3 = pc') (hml : Ls.size = c.maxLocals)
    (w1 : (Jvm.Cond.methodLink own index ⟨ad, "clone", "()Ljava/lang/Object;"⟩).before a0 Z = true) (w2 : (Jvm.Cond.sameMethod ad "java/lang/Object" "clone" "()Ljava/lang/Object;").before a0 Z = true) (w3 : (Jvm.Cond.native ⟨"java/lang/Object", "clone", "()Ljava/lang/Object;"⟩).before a0 Z = true) (w4 : (Jvm.Cond.instanceMethod ⟨"java/lang/Object", "clone", "()Ljava/lang/Object;"⟩).before a0 Z = true) (w5 : (Jvm.Cond.selects ad ⟨ad, "clone", "()Ljava/lang/Object;"⟩ ⟨"java/lang/Object", "clone", "()Ljava/lang/Object;"⟩).before a0 Z = true) (w6 : (Jvm.Cond.castable ad "java/lang/Cloneable").before a0 Z = true)
    (eT : T.heap = h) (F : Arv Z h a k ty n vs dv) (E : Exa Z h a ad) (hfr : 1 ≤ R.frames) (hW : 2 * 0 + (rest.map fun v => v.category).sum ≤ W) (hlo : W + 14 ≤ R.locals) (hcap : n.toNatClampNeg ≤ cap) (hce : cells + 1 ≤ R.cells) (hsl : slots + cap ≤ R.slots)
    (K : ∀ (T' : State) (b : Addr), b = h.size → Stand p l e R s m args below meth c T' locs (cells + 1) (slots + cap) → Ext h T'.heap → Arv Z T'.heap b k ty n vs dv → Exa Z T'.heap b ad → GoE p e below Fi (T'.setTop (mkF m pc' Ls (.ref b :: rest)))) : GoE p e below Fi (T.setTop (mkF m pc Ls (.ref a :: rest))) := by
  subst hp
  obtain ⟨T2, h2, X2, e2, E2, A2, Ex2, st2⟩ := cloneH X hx hZ hown w1 w2 w3 w4 w5 w6 eT F.arh E (g := mkF m pc Ls (.ref a :: rest)) rfl hml rfl (hb hby hd) hfr hW hlo hcap hce hsl
  subst e2
  exact (K T2 _ rfl X2 E2 A2 Ex2).pull st2
end GoWKit

theorem w_0 {Z : State} {a0 : Array Value} (hw : ∀ d ∈ tables_1, d.before a0 Z = true) : (Jvm.Cond.arrayClass Jvm.ClassFile.FieldType.byte).before a0 Z = true := hw _ (List.mem_of_getElem? (i := 0) rfl)
theorem w_1 {Z : State} {a0 : Array Value} (hw : ∀ d ∈ tables_1, d.before a0 Z = true) : (Jvm.Cond.classLink "com/example/libonce/libonce/KeyRecordIsRunningPinLaw" (15 : Nat) "com/example/libonce/libonce/KeyRecord").before a0 Z = true := hw _ (List.mem_of_getElem? (i := 1) rfl)
theorem w_2 {Z : State} {a0 : Array Value} (hw : ∀ d ∈ tables_1, d.before a0 Z = true) : (Jvm.Cond.instantiable "com/example/libonce/libonce/KeyRecord" (2 : Nat)).before a0 Z = true := hw _ (List.mem_of_getElem? (i := 2) rfl)
theorem w_3 {Z : State} {a0 : Array Value} (hw : ∀ d ∈ tables_1, d.before a0 Z = true) : (Jvm.Cond.initialized "com/example/libonce/libonce/KeyRecord").before a0 Z = true := hw _ (List.mem_of_getElem? (i := 3) rfl)
theorem w_4 {Z : State} {a0 : Array Value} (hw : ∀ d ∈ tables_1, d.before a0 Z = true) : (Jvm.Cond.methodLink "com/example/libonce/libonce/KeyRecordIsRunningPinLaw" (17 : Nat) ({ cls := "com/example/libonce/libonce/KeyRecord", name := "<init>", desc := "([BLcom/example/libonce/libonce/Outcome;)V" } : Jvm.MethodName)).before a0 Z = true := hw _ (List.mem_of_getElem? (i := 4) rfl)
theorem w_5 {Z : State} {a0 : Array Value} (hw : ∀ d ∈ tables_1, d.before a0 Z = true) : (Jvm.Cond.instanceMethod ({ cls := "com/example/libonce/libonce/KeyRecord", name := "<init>", desc := "([BLcom/example/libonce/libonce/Outcome;)V" } : Jvm.MethodName)).before a0 Z = true := hw _ (List.mem_of_getElem? (i := 5) rfl)
theorem w_6 {Z : State} {a0 : Array Value} (hw : ∀ d ∈ tables_1, d.before a0 Z = true) : (Jvm.Cond.code ({ cls := "com/example/libonce/libonce/KeyRecord", name := "<init>", desc := "([BLcom/example/libonce/libonce/Outcome;)V" } : Jvm.MethodName) prog_6_method_1_code (3 : Nat) (Option.none : Option Jvm.ClassFile.FieldType)).before a0 Z = true := hw _ (List.mem_of_getElem? (i := 6) rfl)
theorem w_7 {Z : State} {a0 : Array Value} (hw : ∀ d ∈ tables_1, d.before a0 Z = true) : (Jvm.Cond.methodLink "com/example/libonce/libonce/KeyRecord" (1 : Nat) ({ cls := "java/lang/Object", name := "<init>", desc := "()V" } : Jvm.MethodName)).before a0 Z = true := hw _ (List.mem_of_getElem? (i := 7) rfl)
theorem w_8 {Z : State} {a0 : Array Value} (hw : ∀ d ∈ tables_1, d.before a0 Z = true) : (Jvm.Cond.instanceMethod ({ cls := "java/lang/Object", name := "<init>", desc := "()V" } : Jvm.MethodName)).before a0 Z = true := hw _ (List.mem_of_getElem? (i := 8) rfl)
theorem w_9 {Z : State} {a0 : Array Value} (hw : ∀ d ∈ tables_1, d.before a0 Z = true) : (Jvm.Cond.code ({ cls := "java/lang/Object", name := "<init>", desc := "()V" } : Jvm.MethodName) object_method_1_code (1 : Nat) (Option.none : Option Jvm.ClassFile.FieldType)).before a0 Z = true := hw _ (List.mem_of_getElem? (i := 9) rfl)
theorem w_10 {Z : State} {a0 : Array Value} (hw : ∀ d ∈ tables_1, d.before a0 Z = true) : (Jvm.Cond.methodLink "com/example/libonce/libonce/KeyRecord" (7 : Nat) ({ cls := "[B", name := "clone", desc := "()Ljava/lang/Object;" } : Jvm.MethodName)).before a0 Z = true := hw _ (List.mem_of_getElem? (i := 10) rfl)
theorem w_11 {Z : State} {a0 : Array Value} (hw : ∀ d ∈ tables_1, d.before a0 Z = true) : (Jvm.Cond.sameMethod "[B" "java/lang/Object" "clone" "()Ljava/lang/Object;").before a0 Z = true := hw _ (List.mem_of_getElem? (i := 11) rfl)
theorem w_13 {Z : State} {a0 : Array Value} (hw : ∀ d ∈ tables_1, d.before a0 Z = true) : (Jvm.Cond.instanceMethod ({ cls := "java/lang/Object", name := "clone", desc := "()Ljava/lang/Object;" } : Jvm.MethodName)).before a0 Z = true := hw _ (List.mem_of_getElem? (i := 13) rfl)
theorem w_14 {Z : State} {a0 : Array Value} (hw : ∀ d ∈ tables_1, d.before a0 Z = true) : (Jvm.Cond.selects "[B" ({ cls := "[B", name := "clone", desc := "()Ljava/lang/Object;" } : Jvm.MethodName) ({ cls := "java/lang/Object", name := "clone", desc := "()Ljava/lang/Object;" } : Jvm.MethodName)).before a0 Z = true := hw _ (List.mem_of_getElem? (i := 14) rfl)
theorem w_15 {Z : State} {a0 : Array Value} (hw : ∀ d ∈ tables_1, d.before a0 Z = true) : (Jvm.Cond.native ({ cls := "java/lang/Object", name := "clone", desc := "()Ljava/lang/Object;" } : Jvm.MethodName)).before a0 Z = true := hw _ (List.mem_of_getElem? (i := 15) rfl)
theorem w_16 {Z : State} {a0 : Array Value} (hw : ∀ d ∈ tables_1, d.before a0 Z = true) : (Jvm.Cond.castable "[B" "java/lang/Cloneable").before a0 Z = true := hw _ (List.mem_of_getElem? (i := 16) rfl)
theorem w_17 {Z : State} {a0 : Array Value} (hw : ∀ d ∈ tables_1, d.before a0 Z = true) : (Jvm.Cond.classLink "com/example/libonce/libonce/KeyRecord" (8 : Nat) "[B").before a0 Z = true := hw _ (List.mem_of_getElem? (i := 17) rfl)
theorem w_19 {Z : State} {a0 : Array Value} (hw : ∀ d ∈ tables_1, d.before a0 Z = true) : (Jvm.Cond.fieldLink "com/example/libonce/libonce/KeyRecord" (13 : Nat) "com/example/libonce/libonce/KeyRecord" "_requestDigest" "[B").before a0 Z = true := hw _ (List.mem_of_getElem? (i := 19) rfl)
theorem w_20 {Z : State} {a0 : Array Value} (hw : ∀ d ∈ tables_1, d.before a0 Z = true) : (Jvm.Cond.laysFinal "com/example/libonce/libonce/KeyRecord" "com/example/libonce/libonce/KeyRecord" "_requestDigest" "[B").before a0 Z = true := hw _ (List.mem_of_getElem? (i := 20) rfl)
theorem w_21 {Z : State} {a0 : Array Value} (hw : ∀ d ∈ tables_1, d.before a0 Z = true) : (Jvm.Cond.fieldLink "com/example/libonce/libonce/KeyRecord" (18 : Nat) "com/example/libonce/libonce/KeyRecord" "_outcome" "Lcom/example/libonce/libonce/Outcome;").before a0 Z = true := hw _ (List.mem_of_getElem? (i := 21) rfl)
theorem w_22 {Z : State} {a0 : Array Value} (hw : ∀ d ∈ tables_1, d.before a0 Z = true) : (Jvm.Cond.laysFinal "com/example/libonce/libonce/KeyRecord" "com/example/libonce/libonce/KeyRecord" "_outcome" "Lcom/example/libonce/libonce/Outcome;").before a0 Z = true := hw _ (List.mem_of_getElem? (i := 22) rfl)
theorem w_23 {Z : State} {a0 : Array Value} (hw : ∀ d ∈ tables_1, d.before a0 Z = true) : (Jvm.Cond.methodLink "com/example/libonce/libonce/KeyRecordIsRunningPinLaw" (20 : Nat) ({ cls := "com/example/libonce/libonce/KeyRecord", name := "isRunning", desc := "()Z" } : Jvm.MethodName)).before a0 Z = true := hw _ (List.mem_of_getElem? (i := 23) rfl)
theorem w_24 {Z : State} {a0 : Array Value} (hw : ∀ d ∈ tables_1, d.before a0 Z = true) : (Jvm.Cond.declares ({ cls := "com/example/libonce/libonce/KeyRecord", name := "isRunning", desc := "()Z" } : Jvm.MethodName)).before a0 Z = true := hw _ (List.mem_of_getElem? (i := 24) rfl)
theorem w_25 {Z : State} {a0 : Array Value} (hw : ∀ d ∈ tables_1, d.before a0 Z = true) : (Jvm.Cond.instanceMethod ({ cls := "com/example/libonce/libonce/KeyRecord", name := "isRunning", desc := "()Z" } : Jvm.MethodName)).before a0 Z = true := hw _ (List.mem_of_getElem? (i := 25) rfl)
theorem w_26 {Z : State} {a0 : Array Value} (hw : ∀ d ∈ tables_1, d.before a0 Z = true) : (Jvm.Cond.selects "com/example/libonce/libonce/KeyRecord" ({ cls := "com/example/libonce/libonce/KeyRecord", name := "isRunning", desc := "()Z" } : Jvm.MethodName) ({ cls := "com/example/libonce/libonce/KeyRecord", name := "isRunning", desc := "()Z" } : Jvm.MethodName)).before a0 Z = true := hw _ (List.mem_of_getElem? (i := 26) rfl)
theorem w_27 {Z : State} {a0 : Array Value} (hw : ∀ d ∈ tables_1, d.before a0 Z = true) : (Jvm.Cond.code ({ cls := "com/example/libonce/libonce/KeyRecord", name := "isRunning", desc := "()Z" } : Jvm.MethodName) prog_6_method_3_code (1 : Nat) (Option.some Jvm.ClassFile.FieldType.boolean)).before a0 Z = true := hw _ (List.mem_of_getElem? (i := 27) rfl)
theorem w_28 {Z : State} {a0 : Array Value} (hw : ∀ d ∈ tables_1, d.before a0 Z = true) : (Jvm.Cond.methodLink "com/example/libonce/libonce/KeyRecordIsRunningPinLaw" (24 : Nat) ({ cls := "com/example/libonce/libonce/KeyRecord", name := "outcome", desc := "()Lcom/example/libonce/libonce/Outcome;" } : Jvm.MethodName)).before a0 Z = true := hw _ (List.mem_of_getElem? (i := 28) rfl)
theorem w_29 {Z : State} {a0 : Array Value} (hw : ∀ d ∈ tables_1, d.before a0 Z = true) : (Jvm.Cond.declares ({ cls := "com/example/libonce/libonce/KeyRecord", name := "outcome", desc := "()Lcom/example/libonce/libonce/Outcome;" } : Jvm.MethodName)).before a0 Z = true := hw _ (List.mem_of_getElem? (i := 29) rfl)
theorem w_30 {Z : State} {a0 : Array Value} (hw : ∀ d ∈ tables_1, d.before a0 Z = true) : (Jvm.Cond.instanceMethod ({ cls := "com/example/libonce/libonce/KeyRecord", name := "outcome", desc := "()Lcom/example/libonce/libonce/Outcome;" } : Jvm.MethodName)).before a0 Z = true := hw _ (List.mem_of_getElem? (i := 30) rfl)
theorem w_31 {Z : State} {a0 : Array Value} (hw : ∀ d ∈ tables_1, d.before a0 Z = true) : (Jvm.Cond.selects "com/example/libonce/libonce/KeyRecord" ({ cls := "com/example/libonce/libonce/KeyRecord", name := "outcome", desc := "()Lcom/example/libonce/libonce/Outcome;" } : Jvm.MethodName) ({ cls := "com/example/libonce/libonce/KeyRecord", name := "outcome", desc := "()Lcom/example/libonce/libonce/Outcome;" } : Jvm.MethodName)).before a0 Z = true := hw _ (List.mem_of_getElem? (i := 31) rfl)
theorem w_32 {Z : State} {a0 : Array Value} (hw : ∀ d ∈ tables_1, d.before a0 Z = true) : (Jvm.Cond.code ({ cls := "com/example/libonce/libonce/KeyRecord", name := "outcome", desc := "()Lcom/example/libonce/libonce/Outcome;" } : Jvm.MethodName) prog_6_method_4_code (1 : Nat) (Option.some (Jvm.ClassFile.FieldType.object "com/example/libonce/libonce/Outcome"))).before a0 Z = true := hw _ (List.mem_of_getElem? (i := 32) rfl)
theorem w_33 {Z : State} {a0 : Array Value} (hw : ∀ d ∈ tables_1, d.before a0 Z = true) : (Jvm.Cond.classLink "com/example/libonce/libonce/KeyRecordIsRunningPinLaw" (7 : Nat) "com/example/libonce/libonce/Outcome").before a0 Z = true := hw _ (List.mem_of_getElem? (i := 33) rfl)
theorem w_34 {Z : State} {a0 : Array Value} (hw : ∀ d ∈ tables_1, d.before a0 Z = true) : (Jvm.Cond.instantiable "com/example/libonce/libonce/Outcome" (3 : Nat)).before a0 Z = true := hw _ (List.mem_of_getElem? (i := 34) rfl)
theorem w_35 {Z : State} {a0 : Array Value} (hw : ∀ d ∈ tables_1, d.before a0 Z = true) : (Jvm.Cond.initialized "com/example/libonce/libonce/Outcome").before a0 Z = true := hw _ (List.mem_of_getElem? (i := 35) rfl)
theorem w_36 {Z : State} {a0 : Array Value} (hw : ∀ d ∈ tables_1, d.before a0 Z = true) : (Jvm.Cond.classLink "com/example/libonce/libonce/KeyRecordIsRunningPinLaw" (9 : Nat) "java/util/TreeMap").before a0 Z = true := hw _ (List.mem_of_getElem? (i := 36) rfl)
theorem w_37 {Z : State} {a0 : Array Value} (hw : ∀ d ∈ tables_1, d.before a0 Z = true) : (Jvm.Cond.instantiable "java/util/TreeMap" (9 : Nat)).before a0 Z = true := hw _ (List.mem_of_getElem? (i := 37) rfl)
theorem w_38 {Z : State} {a0 : Array Value} (hw : ∀ d ∈ tables_1, d.before a0 Z = true) : (Jvm.Cond.initialized "java/util/TreeMap").before a0 Z = true := hw _ (List.mem_of_getElem? (i := 38) rfl)
theorem w_39 {Z : State} {a0 : Array Value} (hw : ∀ d ∈ tables_1, d.before a0 Z = true) : (Jvm.Cond.methodLink "com/example/libonce/libonce/KeyRecordIsRunningPinLaw" (11 : Nat) ({ cls := "java/util/TreeMap", name := "<init>", desc := "()V" } : Jvm.MethodName)).before a0 Z = true := hw _ (List.mem_of_getElem? (i := 39) rfl)
theorem w_40 {Z : State} {a0 : Array Value} (hw : ∀ d ∈ tables_1, d.before a0 Z = true) : (Jvm.Cond.instanceMethod ({ cls := "java/util/TreeMap", name := "<init>", desc := "()V" } : Jvm.MethodName)).before a0 Z = true := hw _ (List.mem_of_getElem? (i := 40) rfl)
theorem w_41 {Z : State} {a0 : Array Value} (hw : ∀ d ∈ tables_1, d.before a0 Z = true) : (Jvm.Cond.code ({ cls := "java/util/TreeMap", name := "<init>", desc := "()V" } : Jvm.MethodName) jdk_2729_method_1_code (1 : Nat) (Option.none : Option Jvm.ClassFile.FieldType)).before a0 Z = true := hw _ (List.mem_of_getElem? (i := 41) rfl)
theorem w_42 {Z : State} {a0 : Array Value} (hw : ∀ d ∈ tables_1, d.before a0 Z = true) : (Jvm.Cond.methodLink "java/util/TreeMap" (1 : Nat) ({ cls := "java/util/AbstractMap", name := "<init>", desc := "()V" } : Jvm.MethodName)).before a0 Z = true := hw _ (List.mem_of_getElem? (i := 42) rfl)
theorem w_43 {Z : State} {a0 : Array Value} (hw : ∀ d ∈ tables_1, d.before a0 Z = true) : (Jvm.Cond.instanceMethod ({ cls := "java/util/AbstractMap", name := "<init>", desc := "()V" } : Jvm.MethodName)).before a0 Z = true := hw _ (List.mem_of_getElem? (i := 43) rfl)
theorem w_46 {Z : State} {a0 : Array Value} (hw : ∀ d ∈ tables_1, d.before a0 Z = true) : (Jvm.Cond.initialized "java/util/AbstractMap").before a0 Z = true := hw _ (List.mem_of_getElem? (i := 46) rfl)
theorem w_47 {Z : State} {a0 : Array Value} (hw : ∀ d ∈ tables_1, d.before a0 Z = true) : (Jvm.Cond.code ({ cls := "java/util/AbstractMap", name := "<init>", desc := "()V" } : Jvm.MethodName) jdk_71_method_1_code (1 : Nat) (Option.none : Option Jvm.ClassFile.FieldType)).before a0 Z = true := hw _ (List.mem_of_getElem? (i := 47) rfl)
theorem w_48 {Z : State} {a0 : Array Value} (hw : ∀ d ∈ tables_1, d.before a0 Z = true) : (Jvm.Cond.methodLink "java/util/AbstractMap" (1 : Nat) ({ cls := "java/lang/Object", name := "<init>", desc := "()V" } : Jvm.MethodName)).before a0 Z = true := hw _ (List.mem_of_getElem? (i := 48) rfl)
theorem w_49 {Z : State} {a0 : Array Value} (hw : ∀ d ∈ tables_1, d.before a0 Z = true) : (Jvm.Cond.fieldLink "java/util/TreeMap" (7 : Nat) "java/util/TreeMap" "size" "I").before a0 Z = true := hw _ (List.mem_of_getElem? (i := 49) rfl)
theorem w_50 {Z : State} {a0 : Array Value} (hw : ∀ d ∈ tables_1, d.before a0 Z = true) : (Jvm.Cond.lays "java/util/TreeMap" "java/util/TreeMap" "size" "I").before a0 Z = true := hw _ (List.mem_of_getElem? (i := 50) rfl)
theorem w_51 {Z : State} {a0 : Array Value} (hw : ∀ d ∈ tables_1, d.before a0 Z = true) : (Jvm.Cond.fieldLink "java/util/TreeMap" (13 : Nat) "java/util/TreeMap" "modCount" "I").before a0 Z = true := hw _ (List.mem_of_getElem? (i := 51) rfl)
theorem w_52 {Z : State} {a0 : Array Value} (hw : ∀ d ∈ tables_1, d.before a0 Z = true) : (Jvm.Cond.lays "java/util/TreeMap" "java/util/TreeMap" "modCount" "I").before a0 Z = true := hw _ (List.mem_of_getElem? (i := 52) rfl)
theorem w_53 {Z : State} {a0 : Array Value} (hw : ∀ d ∈ tables_1, d.before a0 Z = true) : (Jvm.Cond.fieldLink "java/util/TreeMap" (16 : Nat) "java/util/TreeMap" "comparator" "Ljava/util/Comparator;").before a0 Z = true := hw _ (List.mem_of_getElem? (i := 53) rfl)
theorem w_54 {Z : State} {a0 : Array Value} (hw : ∀ d ∈ tables_1, d.before a0 Z = true) : (Jvm.Cond.laysFinal "java/util/TreeMap" "java/util/TreeMap" "comparator" "Ljava/util/Comparator;").before a0 Z = true := hw _ (List.mem_of_getElem? (i := 54) rfl)
theorem w_55 {Z : State} {a0 : Array Value} (hw : ∀ d ∈ tables_1, d.before a0 Z = true) : (Jvm.Cond.methodLink "com/example/libonce/libonce/KeyRecordIsRunningPinLaw" (12 : Nat) ({ cls := "com/example/libonce/libonce/Outcome", name := "<init>", desc := "(ILjava/util/Map;[B)V" } : Jvm.MethodName)).before a0 Z = true := hw _ (List.mem_of_getElem? (i := 55) rfl)
theorem w_56 {Z : State} {a0 : Array Value} (hw : ∀ d ∈ tables_1, d.before a0 Z = true) : (Jvm.Cond.instanceMethod ({ cls := "com/example/libonce/libonce/Outcome", name := "<init>", desc := "(ILjava/util/Map;[B)V" } : Jvm.MethodName)).before a0 Z = true := hw _ (List.mem_of_getElem? (i := 56) rfl)
theorem w_57 {Z : State} {a0 : Array Value} (hw : ∀ d ∈ tables_1, d.before a0 Z = true) : (Jvm.Cond.code ({ cls := "com/example/libonce/libonce/Outcome", name := "<init>", desc := "(ILjava/util/Map;[B)V" } : Jvm.MethodName) prog_8_method_1_code (7 : Nat) (Option.none : Option Jvm.ClassFile.FieldType)).before a0 Z = true := hw _ (List.mem_of_getElem? (i := 57) rfl)
theorem w_58 {Z : State} {a0 : Array Value} (hw : ∀ d ∈ tables_1, d.before a0 Z = true) : (Jvm.Cond.methodLink "com/example/libonce/libonce/Outcome" (1 : Nat) ({ cls := "java/lang/Object", name := "<init>", desc := "()V" } : Jvm.MethodName)).before a0 Z = true := hw _ (List.mem_of_getElem? (i := 58) rfl)
theorem w_59 {Z : State} {a0 : Array Value} (hw : ∀ d ∈ tables_1, d.before a0 Z = true) : (Jvm.Cond.classLink "com/example/libonce/libonce/Outcome" (7 : Nat) "java/util/TreeMap").before a0 Z = true := hw _ (List.mem_of_getElem? (i := 59) rfl)
theorem w_60 {Z : State} {a0 : Array Value} (hw : ∀ d ∈ tables_1, d.before a0 Z = true) : (Jvm.Cond.methodLink "com/example/libonce/libonce/Outcome" (9 : Nat) ({ cls := "java/util/TreeMap", name := "<init>", desc := "()V" } : Jvm.MethodName)).before a0 Z = true := hw _ (List.mem_of_getElem? (i := 60) rfl)
theorem w_61 {Z : State} {a0 : Array Value} (hw : ∀ d ∈ tables_1, d.before a0 Z = true) : (Jvm.Cond.methodLink "com/example/libonce/libonce/Outcome" (10 : Nat) ({ cls := "java/util/Map", name := "entrySet", desc := "()Ljava/util/Set;" } : Jvm.MethodName)).before a0 Z = true := hw _ (List.mem_of_getElem? (i := 61) rfl)
theorem w_62 {Z : State} {a0 : Array Value} (hw : ∀ d ∈ tables_1, d.before a0 Z = true) : (Jvm.Cond.declares ({ cls := "java/util/Map", name := "entrySet", desc := "()Ljava/util/Set;" } : Jvm.MethodName)).before a0 Z = true := hw _ (List.mem_of_getElem? (i := 62) rfl)
theorem w_63 {Z : State} {a0 : Array Value} (hw : ∀ d ∈ tables_1, d.before a0 Z = true) : (Jvm.Cond.interfaceMethod "java/util/Map" "java/util/Map" "entrySet" "()Ljava/util/Set;").before a0 Z = true := hw _ (List.mem_of_getElem? (i := 63) rfl)
theorem w_64 {Z : State} {a0 : Array Value} (hw : ∀ d ∈ tables_1, d.before a0 Z = true) : (Jvm.Cond.selects "java/util/TreeMap" ({ cls := "java/util/Map", name := "entrySet", desc := "()Ljava/util/Set;" } : Jvm.MethodName) ({ cls := "java/util/TreeMap", name := "entrySet", desc := "()Ljava/util/Set;" } : Jvm.MethodName)).before a0 Z = true := hw _ (List.mem_of_getElem? (i := 64) rfl)
theorem w_65 {Z : State} {a0 : Array Value} (hw : ∀ d ∈ tables_1, d.before a0 Z = true) : (Jvm.Cond.instanceMethod ({ cls := "java/util/TreeMap", name := "entrySet", desc := "()Ljava/util/Set;" } : Jvm.MethodName)).before a0 Z = true := hw _ (List.mem_of_getElem? (i := 65) rfl)
theorem w_66 {Z : State} {a0 : Array Value} (hw : ∀ d ∈ tables_1, d.before a0 Z = true) : (Jvm.Cond.publicMethod ({ cls := "java/util/TreeMap", name := "entrySet", desc := "()Ljava/util/Set;" } : Jvm.MethodName)).before a0 Z = true := hw _ (List.mem_of_getElem? (i := 66) rfl)
theorem w_67 {Z : State} {a0 : Array Value} (hw : ∀ d ∈ tables_1, d.before a0 Z = true) : (Jvm.Cond.unhidden "java/util/TreeMap" "entrySet" "()Ljava/util/Set;").before a0 Z = true := hw _ (List.mem_of_getElem? (i := 67) rfl)
theorem w_68 {Z : State} {a0 : Array Value} (hw : ∀ d ∈ tables_1, d.before a0 Z = true) : (Jvm.Cond.castable "java/util/TreeMap" "java/util/Map").before a0 Z = true := hw _ (List.mem_of_getElem? (i := 68) rfl)
theorem w_69 {Z : State} {a0 : Array Value} (hw : ∀ d ∈ tables_1, d.before a0 Z = true) : (Jvm.Cond.code ({ cls := "java/util/TreeMap", name := "entrySet", desc := "()Ljava/util/Set;" } : Jvm.MethodName) jdk_2729_method_53_code (2 : Nat) (Option.some (Jvm.ClassFile.FieldType.object "java/util/Set"))).before a0 Z = true := hw _ (List.mem_of_getElem? (i := 69) rfl)
theorem w_70 {Z : State} {a0 : Array Value} (hw : ∀ d ∈ tables_1, d.before a0 Z = true) : (Jvm.Cond.fieldLink "java/util/TreeMap" (188 : Nat) "java/util/TreeMap" "entrySet" "Ljava/util/TreeMap$EntrySet;").before a0 Z = true := hw _ (List.mem_of_getElem? (i := 70) rfl)
theorem w_71 {Z : State} {a0 : Array Value} (hw : ∀ d ∈ tables_1, d.before a0 Z = true) : (Jvm.Cond.lays "java/util/TreeMap" "java/util/TreeMap" "entrySet" "Ljava/util/TreeMap$EntrySet;").before a0 Z = true := hw _ (List.mem_of_getElem? (i := 71) rfl)
theorem w_72 {Z : State} {a0 : Array Value} (hw : ∀ d ∈ tables_1, d.before a0 Z = true) : (Jvm.Cond.classLink "java/util/TreeMap" (242 : Nat) "java/util/TreeMap$EntrySet").before a0 Z = true := hw _ (List.mem_of_getElem? (i := 72) rfl)
theorem w_73 {Z : State} {a0 : Array Value} (hw : ∀ d ∈ tables_1, d.before a0 Z = true) : (Jvm.Cond.instantiable "java/util/TreeMap$EntrySet" (1 : Nat)).before a0 Z = true := hw _ (List.mem_of_getElem? (i := 73) rfl)
theorem w_74 {Z : State} {a0 : Array Value} (hw : ∀ d ∈ tables_1, d.before a0 Z = true) : (Jvm.Cond.initialized "java/util/TreeMap$EntrySet").before a0 Z = true := hw _ (List.mem_of_getElem? (i := 74) rfl)
theorem w_75 {Z : State} {a0 : Array Value} (hw : ∀ d ∈ tables_1, d.before a0 Z = true) : (Jvm.Cond.methodLink "java/util/TreeMap" (244 : Nat) ({ cls := "java/util/TreeMap$EntrySet", name := "<init>", desc := "(Ljava/util/TreeMap;)V" } : Jvm.MethodName)).before a0 Z = true := hw _ (List.mem_of_getElem? (i := 75) rfl)
theorem w_76 {Z : State} {a0 : Array Value} (hw : ∀ d ∈ tables_1, d.before a0 Z = true) : (Jvm.Cond.instanceMethod ({ cls := "java/util/TreeMap$EntrySet", name := "<init>", desc := "(Ljava/util/TreeMap;)V" } : Jvm.MethodName)).before a0 Z = true := hw _ (List.mem_of_getElem? (i := 76) rfl)
theorem w_78 {Z : State} {a0 : Array Value} (hw : ∀ d ∈ tables_1, d.before a0 Z = true) : (Jvm.Cond.code ({ cls := "java/util/TreeMap$EntrySet", name := "<init>", desc := "(Ljava/util/TreeMap;)V" } : Jvm.MethodName) jdk_2738_method_1_code (2 : Nat) (Option.none : Option Jvm.ClassFile.FieldType)).before a0 Z = true := hw _ (List.mem_of_getElem? (i := 78) rfl)
theorem w_79 {Z : State} {a0 : Array Value} (hw : ∀ d ∈ tables_1, d.before a0 Z = true) : (Jvm.Cond.fieldLink "java/util/TreeMap$EntrySet" (1 : Nat) "java/util/TreeMap$EntrySet" "this$0" "Ljava/util/TreeMap;").before a0 Z = true := hw _ (List.mem_of_getElem? (i := 79) rfl)
theorem w_80 {Z : State} {a0 : Array Value} (hw : ∀ d ∈ tables_1, d.before a0 Z = true) : (Jvm.Cond.laysFinal "java/util/TreeMap$EntrySet" "java/util/TreeMap$EntrySet" "this$0" "Ljava/util/TreeMap;").before a0 Z = true := hw _ (List.mem_of_getElem? (i := 80) rfl)
theorem w_81 {Z : State} {a0 : Array Value} (hw : ∀ d ∈ tables_1, d.before a0 Z = true) : (Jvm.Cond.methodLink "java/util/TreeMap$EntrySet" (7 : Nat) ({ cls := "java/util/AbstractSet", name := "<init>", desc := "()V" } : Jvm.MethodName)).before a0 Z = true := hw _ (List.mem_of_getElem? (i := 81) rfl)
theorem w_82 {Z : State} {a0 : Array Value} (hw : ∀ d ∈ tables_1, d.before a0 Z = true) : (Jvm.Cond.instanceMethod ({ cls := "java/util/AbstractSet", name := "<init>", desc := "()V" } : Jvm.MethodName)).before a0 Z = true := hw _ (List.mem_of_getElem? (i := 82) rfl)
theorem w_85 {Z : State} {a0 : Array Value} (hw : ∀ d ∈ tables_1, d.before a0 Z = true) : (Jvm.Cond.initialized "java/util/AbstractSet").before a0 Z = true := hw _ (List.mem_of_getElem? (i := 85) rfl)
theorem w_86 {Z : State} {a0 : Array Value} (hw : ∀ d ∈ tables_1, d.before a0 Z = true) : (Jvm.Cond.code ({ cls := "java/util/AbstractSet", name := "<init>", desc := "()V" } : Jvm.MethodName) jdk_91_method_1_code (1 : Nat) (Option.none : Option Jvm.ClassFile.FieldType)).before a0 Z = true := hw _ (List.mem_of_getElem? (i := 86) rfl)
theorem w_87 {Z : State} {a0 : Array Value} (hw : ∀ d ∈ tables_1, d.before a0 Z = true) : (Jvm.Cond.methodLink "java/util/AbstractSet" (1 : Nat) ({ cls := "java/util/AbstractCollection", name := "<init>", desc := "()V" } : Jvm.MethodName)).before a0 Z = true := hw _ (List.mem_of_getElem? (i := 87) rfl)
theorem w_88 {Z : State} {a0 : Array Value} (hw : ∀ d ∈ tables_1, d.before a0 Z = true) : (Jvm.Cond.instanceMethod ({ cls := "java/util/AbstractCollection", name := "<init>", desc := "()V" } : Jvm.MethodName)).before a0 Z = true := hw _ (List.mem_of_getElem? (i := 88) rfl)
theorem w_91 {Z : State} {a0 : Array Value} (hw : ∀ d ∈ tables_1, d.before a0 Z = true) : (Jvm.Cond.initialized "java/util/AbstractCollection").before a0 Z = true := hw _ (List.mem_of_getElem? (i := 91) rfl)
theorem w_92 {Z : State} {a0 : Array Value} (hw : ∀ d ∈ tables_1, d.before a0 Z = true) : (Jvm.Cond.code ({ cls := "java/util/AbstractCollection", name := "<init>", desc := "()V" } : Jvm.MethodName) jdk_22_method_1_code (1 : Nat) (Option.none : Option Jvm.ClassFile.FieldType)).before a0 Z = true := hw _ (List.mem_of_getElem? (i := 92) rfl)
theorem w_93 {Z : State} {a0 : Array Value} (hw : ∀ d ∈ tables_1, d.before a0 Z = true) : (Jvm.Cond.methodLink "java/util/AbstractCollection" (1 : Nat) ({ cls := "java/lang/Object", name := "<init>", desc := "()V" } : Jvm.MethodName)).before a0 Z = true := hw _ (List.mem_of_getElem? (i := 93) rfl)
theorem w_94 {Z : State} {a0 : Array Value} (hw : ∀ d ∈ tables_1, d.before a0 Z = true) : (Jvm.Cond.methodLink "com/example/libonce/libonce/Outcome" (16 : Nat) ({ cls := "java/util/Set", name := "iterator", desc := "()Ljava/util/Iterator;" } : Jvm.MethodName)).before a0 Z = true := hw _ (List.mem_of_getElem? (i := 94) rfl)
theorem w_95 {Z : State} {a0 : Array Value} (hw : ∀ d ∈ tables_1, d.before a0 Z = true) : (Jvm.Cond.declares ({ cls := "java/util/Set", name := "iterator", desc := "()Ljava/util/Iterator;" } : Jvm.MethodName)).before a0 Z = true := hw _ (List.mem_of_getElem? (i := 95) rfl)
theorem w_96 {Z : State} {a0 : Array Value} (hw : ∀ d ∈ tables_1, d.before a0 Z = true) : (Jvm.Cond.interfaceMethod "java/util/Set" "java/util/Set" "iterator" "()Ljava/util/Iterator;").before a0 Z = true := hw _ (List.mem_of_getElem? (i := 96) rfl)
theorem w_97 {Z : State} {a0 : Array Value} (hw : ∀ d ∈ tables_1, d.before a0 Z = true) : (Jvm.Cond.selects "java/util/TreeMap$EntrySet" ({ cls := "java/util/Set", name := "iterator", desc := "()Ljava/util/Iterator;" } : Jvm.MethodName) ({ cls := "java/util/TreeMap$EntrySet", name := "iterator", desc := "()Ljava/util/Iterator;" } : Jvm.MethodName)).before a0 Z = true := hw _ (List.mem_of_getElem? (i := 97) rfl)
theorem w_98 {Z : State} {a0 : Array Value} (hw : ∀ d ∈ tables_1, d.before a0 Z = true) : (Jvm.Cond.instanceMethod ({ cls := "java/util/TreeMap$EntrySet", name := "iterator", desc := "()Ljava/util/Iterator;" } : Jvm.MethodName)).before a0 Z = true := hw _ (List.mem_of_getElem? (i := 98) rfl)
theorem w_99 {Z : State} {a0 : Array Value} (hw : ∀ d ∈ tables_1, d.before a0 Z = true) : (Jvm.Cond.publicMethod ({ cls := "java/util/TreeMap$EntrySet", name := "iterator", desc := "()Ljava/util/Iterator;" } : Jvm.MethodName)).before a0 Z = true := hw _ (List.mem_of_getElem? (i := 99) rfl)
theorem w_100 {Z : State} {a0 : Array Value} (hw : ∀ d ∈ tables_1, d.before a0 Z = true) : (Jvm.Cond.unhidden "java/util/TreeMap$EntrySet" "iterator" "()Ljava/util/Iterator;").before a0 Z = true := hw _ (List.mem_of_getElem? (i := 100) rfl)
theorem w_101 {Z : State} {a0 : Array Value} (hw : ∀ d ∈ tables_1, d.before a0 Z = true) : (Jvm.Cond.castable "java/util/TreeMap$EntrySet" "java/util/Set").before a0 Z = true := hw _ (List.mem_of_getElem? (i := 101) rfl)
theorem w_102 {Z : State} {a0 : Array Value} (hw : ∀ d ∈ tables_1, d.before a0 Z = true) : (Jvm.Cond.code ({ cls := "java/util/TreeMap$EntrySet", name := "iterator", desc := "()Ljava/util/Iterator;" } : Jvm.MethodName) jdk_2738_method_2_code (1 : Nat) (Option.some (Jvm.ClassFile.FieldType.object "java/util/Iterator"))).before a0 Z = true := hw _ (List.mem_of_getElem? (i := 102) rfl)
theorem w_103 {Z : State} {a0 : Array Value} (hw : ∀ d ∈ tables_1, d.before a0 Z = true) : (Jvm.Cond.classLink "java/util/TreeMap$EntrySet" (13 : Nat) "java/util/TreeMap$EntryIterator").before a0 Z = true := hw _ (List.mem_of_getElem? (i := 103) rfl)
theorem w_104 {Z : State} {a0 : Array Value} (hw : ∀ d ∈ tables_1, d.before a0 Z = true) : (Jvm.Cond.instantiable "java/util/TreeMap$EntryIterator" (4 : Nat)).before a0 Z = true := hw _ (List.mem_of_getElem? (i := 104) rfl)
theorem w_105 {Z : State} {a0 : Array Value} (hw : ∀ d ∈ tables_1, d.before a0 Z = true) : (Jvm.Cond.initialized "java/util/TreeMap$EntryIterator").before a0 Z = true := hw _ (List.mem_of_getElem? (i := 105) rfl)
theorem w_106 {Z : State} {a0 : Array Value} (hw : ∀ d ∈ tables_1, d.before a0 Z = true) : (Jvm.Cond.methodLink "java/util/TreeMap$EntrySet" (15 : Nat) ({ cls := "java/util/TreeMap", name := "getFirstEntry", desc := "()Ljava/util/TreeMap$Entry;" } : Jvm.MethodName)).before a0 Z = true := hw _ (List.mem_of_getElem? (i := 106) rfl)
theorem w_107 {Z : State} {a0 : Array Value} (hw : ∀ d ∈ tables_1, d.before a0 Z = true) : (Jvm.Cond.declares ({ cls := "java/util/TreeMap", name := "getFirstEntry", desc := "()Ljava/util/TreeMap$Entry;" } : Jvm.MethodName)).before a0 Z = true := hw _ (List.mem_of_getElem? (i := 107) rfl)
theorem w_108 {Z : State} {a0 : Array Value} (hw : ∀ d ∈ tables_1, d.before a0 Z = true) : (Jvm.Cond.instanceMethod ({ cls := "java/util/TreeMap", name := "getFirstEntry", desc := "()Ljava/util/TreeMap$Entry;" } : Jvm.MethodName)).before a0 Z = true := hw _ (List.mem_of_getElem? (i := 108) rfl)
theorem w_109 {Z : State} {a0 : Array Value} (hw : ∀ d ∈ tables_1, d.before a0 Z = true) : (Jvm.Cond.selects "java/util/TreeMap" ({ cls := "java/util/TreeMap", name := "getFirstEntry", desc := "()Ljava/util/TreeMap$Entry;" } : Jvm.MethodName) ({ cls := "java/util/TreeMap", name := "getFirstEntry", desc := "()Ljava/util/TreeMap$Entry;" } : Jvm.MethodName)).before a0 Z = true := hw _ (List.mem_of_getElem? (i := 109) rfl)
theorem w_110 {Z : State} {a0 : Array Value} (hw : ∀ d ∈ tables_1, d.before a0 Z = true) : (Jvm.Cond.code ({ cls := "java/util/TreeMap", name := "getFirstEntry", desc := "()Ljava/util/TreeMap$Entry;" } : Jvm.MethodName) jdk_2729_method_72_code (2 : Nat) (Option.some (Jvm.ClassFile.FieldType.object "java/util/TreeMap$Entry"))).before a0 Z = true := hw _ (List.mem_of_getElem? (i := 110) rfl)
theorem w_111 {Z : State} {a0 : Array Value} (hw : ∀ d ∈ tables_1, d.before a0 Z = true) : (Jvm.Cond.fieldLink "java/util/TreeMap" (101 : Nat) "java/util/TreeMap" "root" "Ljava/util/TreeMap$Entry;").before a0 Z = true := hw _ (List.mem_of_getElem? (i := 111) rfl)
theorem w_112 {Z : State} {a0 : Array Value} (hw : ∀ d ∈ tables_1, d.before a0 Z = true) : (Jvm.Cond.lays "java/util/TreeMap" "java/util/TreeMap" "root" "Ljava/util/TreeMap$Entry;").before a0 Z = true := hw _ (List.mem_of_getElem? (i := 112) rfl)
theorem w_113 {Z : State} {a0 : Array Value} (hw : ∀ d ∈ tables_1, d.before a0 Z = true) : (Jvm.Cond.methodLink "java/util/TreeMap$EntrySet" (21 : Nat) ({ cls := "java/util/TreeMap$EntryIterator", name := "<init>", desc := "(Ljava/util/TreeMap;Ljava/util/TreeMap$Entry;)V" } : Jvm.MethodName)).before a0 Z = true := hw _ (List.mem_of_getElem? (i := 113) rfl)
theorem w_114 {Z : State} {a0 : Array Value} (hw : ∀ d ∈ tables_1, d.before a0 Z = true) : (Jvm.Cond.instanceMethod ({ cls := "java/util/TreeMap$EntryIterator", name := "<init>", desc := "(Ljava/util/TreeMap;Ljava/util/TreeMap$Entry;)V" } : Jvm.MethodName)).before a0 Z = true := hw _ (List.mem_of_getElem? (i := 114) rfl)
theorem w_116 {Z : State} {a0 : Array Value} (hw : ∀ d ∈ tables_1, d.before a0 Z = true) : (Jvm.Cond.code ({ cls := "java/util/TreeMap$EntryIterator", name := "<init>", desc := "(Ljava/util/TreeMap;Ljava/util/TreeMap$Entry;)V" } : Jvm.MethodName) jdk_2737_method_1_code (3 : Nat) (Option.none : Option Jvm.ClassFile.FieldType)).before a0 Z = true := hw _ (List.mem_of_getElem? (i := 116) rfl)
theorem w_117 {Z : State} {a0 : Array Value} (hw : ∀ d ∈ tables_1, d.before a0 Z = true) : (Jvm.Cond.methodLink "java/util/TreeMap$EntryIterator" (1 : Nat) ({ cls := "java/util/TreeMap$PrivateEntryIterator", name := "<init>", desc := "(Ljava/util/TreeMap;Ljava/util/TreeMap$Entry;)V" } : Jvm.MethodName)).before a0 Z = true := hw _ (List.mem_of_getElem? (i := 117) rfl)
theorem w_118 {Z : State} {a0 : Array Value} (hw : ∀ d ∈ tables_1, d.before a0 Z = true) : (Jvm.Cond.instanceMethod ({ cls := "java/util/TreeMap$PrivateEntryIterator", name := "<init>", desc := "(Ljava/util/TreeMap;Ljava/util/TreeMap$Entry;)V" } : Jvm.MethodName)).before a0 Z = true := hw _ (List.mem_of_getElem? (i := 118) rfl)
theorem w_121 {Z : State} {a0 : Array Value} (hw : ∀ d ∈ tables_1, d.before a0 Z = true) : (Jvm.Cond.initialized "java/util/TreeMap$PrivateEntryIterator").before a0 Z = true := hw _ (List.mem_of_getElem? (i := 121) rfl)
theorem w_122 {Z : State} {a0 : Array Value} (hw : ∀ d ∈ tables_1, d.before a0 Z = true) : (Jvm.Cond.code ({ cls := "java/util/TreeMap$PrivateEntryIterator", name := "<init>", desc := "(Ljava/util/TreeMap;Ljava/util/TreeMap$Entry;)V" } : Jvm.MethodName) jdk_2750_method_1_code (3 : Nat) (Option.none : Option Jvm.ClassFile.FieldType)).before a0 Z = true := hw _ (List.mem_of_getElem? (i := 122) rfl)
theorem w_123 {Z : State} {a0 : Array Value} (hw : ∀ d ∈ tables_1, d.before a0 Z = true) : (Jvm.Cond.fieldLink "java/util/TreeMap$PrivateEntryIterator" (1 : Nat) "java/util/TreeMap$PrivateEntryIterator" "this$0" "Ljava/util/TreeMap;").before a0 Z = true := hw _ (List.mem_of_getElem? (i := 123) rfl)
theorem w_124 {Z : State} {a0 : Array Value} (hw : ∀ d ∈ tables_1, d.before a0 Z = true) : (Jvm.Cond.laysFinal "java/util/TreeMap$EntryIterator" "java/util/TreeMap$PrivateEntryIterator" "this$0" "Ljava/util/TreeMap;").before a0 Z = true := hw _ (List.mem_of_getElem? (i := 124) rfl)
theorem w_125 {Z : State} {a0 : Array Value} (hw : ∀ d ∈ tables_1, d.before a0 Z = true) : (Jvm.Cond.methodLink "java/util/TreeMap$PrivateEntryIterator" (7 : Nat) ({ cls := "java/lang/Object", name := "<init>", desc := "()V" } : Jvm.MethodName)).before a0 Z = true := hw _ (List.mem_of_getElem? (i := 125) rfl)
theorem w_126 {Z : State} {a0 : Array Value} (hw : ∀ d ∈ tables_1, d.before a0 Z = true) : (Jvm.Cond.fieldRef "java/util/TreeMap$PrivateEntryIterator" (13 : Nat) "java/util/TreeMap" "modCount" "I").before a0 Z = true := hw _ (List.mem_of_getElem? (i := 126) rfl)
theorem w_127 {Z : State} {a0 : Array Value} (hw : ∀ d ∈ tables_1, d.before a0 Z = true) : (Jvm.Cond.fieldLink "java/util/TreeMap$PrivateEntryIterator" (19 : Nat) "java/util/TreeMap$PrivateEntryIterator" "expectedModCount" "I").before a0 Z = true := hw _ (List.mem_of_getElem? (i := 127) rfl)
theorem w_128 {Z : State} {a0 : Array Value} (hw : ∀ d ∈ tables_1, d.before a0 Z = true) : (Jvm.Cond.lays "java/util/TreeMap$EntryIterator" "java/util/TreeMap$PrivateEntryIterator" "expectedModCount" "I").before a0 Z = true := hw _ (List.mem_of_getElem? (i := 128) rfl)
theorem w_129 {Z : State} {a0 : Array Value} (hw : ∀ d ∈ tables_1, d.before a0 Z = true) : (Jvm.Cond.fieldLink "java/util/TreeMap$PrivateEntryIterator" (22 : Nat) "java/util/TreeMap$PrivateEntryIterator" "lastReturned" "Ljava/util/TreeMap$Entry;").before a0 Z = true := hw _ (List.mem_of_getElem? (i := 129) rfl)
theorem w_130 {Z : State} {a0 : Array Value} (hw : ∀ d ∈ tables_1, d.before a0 Z = true) : (Jvm.Cond.lays "java/util/TreeMap$EntryIterator" "java/util/TreeMap$PrivateEntryIterator" "lastReturned" "Ljava/util/TreeMap$Entry;").before a0 Z = true := hw _ (List.mem_of_getElem? (i := 130) rfl)
theorem w_131 {Z : State} {a0 : Array Value} (hw : ∀ d ∈ tables_1, d.before a0 Z = true) : (Jvm.Cond.fieldLink "java/util/TreeMap$PrivateEntryIterator" (26 : Nat) "java/util/TreeMap$PrivateEntryIterator" "next" "Ljava/util/TreeMap$Entry;").before a0 Z = true := hw _ (List.mem_of_getElem? (i := 131) rfl)
theorem w_132 {Z : State} {a0 : Array Value} (hw : ∀ d ∈ tables_1, d.before a0 Z = true) : (Jvm.Cond.lays "java/util/TreeMap$EntryIterator" "java/util/TreeMap$PrivateEntryIterator" "next" "Ljava/util/TreeMap$Entry;").before a0 Z = true := hw _ (List.mem_of_getElem? (i := 132) rfl)
theorem w_133 {Z : State} {a0 : Array Value} (hw : ∀ d ∈ tables_1, d.before a0 Z = true) : (Jvm.Cond.methodLink "com/example/libonce/libonce/Outcome" (22 : Nat) ({ cls := "java/util/Iterator", name := "hasNext", desc := "()Z" } : Jvm.MethodName)).before a0 Z = true := hw _ (List.mem_of_getElem? (i := 133) rfl)
theorem w_134 {Z : State} {a0 : Array Value} (hw : ∀ d ∈ tables_1, d.before a0 Z = true) : (Jvm.Cond.declares ({ cls := "java/util/Iterator", name := "hasNext", desc := "()Z" } : Jvm.MethodName)).before a0 Z = true := hw _ (List.mem_of_getElem? (i := 134) rfl)
theorem w_135 {Z : State} {a0 : Array Value} (hw : ∀ d ∈ tables_1, d.before a0 Z = true) : (Jvm.Cond.interfaceMethod "java/util/Iterator" "java/util/Iterator" "hasNext" "()Z").before a0 Z = true := hw _ (List.mem_of_getElem? (i := 135) rfl)
theorem w_136 {Z : State} {a0 : Array Value} (hw : ∀ d ∈ tables_1, d.before a0 Z = true) : (Jvm.Cond.selects "java/util/TreeMap$EntryIterator" ({ cls := "java/util/Iterator", name := "hasNext", desc := "()Z" } : Jvm.MethodName) ({ cls := "java/util/TreeMap$PrivateEntryIterator", name := "hasNext", desc := "()Z" } : Jvm.MethodName)).before a0 Z = true := hw _ (List.mem_of_getElem? (i := 136) rfl)
theorem w_137 {Z : State} {a0 : Array Value} (hw : ∀ d ∈ tables_1, d.before a0 Z = true) : (Jvm.Cond.instanceMethod ({ cls := "java/util/TreeMap$PrivateEntryIterator", name := "hasNext", desc := "()Z" } : Jvm.MethodName)).before a0 Z = true := hw _ (List.mem_of_getElem? (i := 137) rfl)
theorem w_138 {Z : State} {a0 : Array Value} (hw : ∀ d ∈ tables_1, d.before a0 Z = true) : (Jvm.Cond.publicMethod ({ cls := "java/util/TreeMap$PrivateEntryIterator", name := "hasNext", desc := "()Z" } : Jvm.MethodName)).before a0 Z = true := hw _ (List.mem_of_getElem? (i := 138) rfl)
theorem w_139 {Z : State} {a0 : Array Value} (hw : ∀ d ∈ tables_1, d.before a0 Z = true) : (Jvm.Cond.unhidden "java/util/TreeMap$EntryIterator" "hasNext" "()Z").before a0 Z = true := hw _ (List.mem_of_getElem? (i := 139) rfl)
theorem w_140 {Z : State} {a0 : Array Value} (hw : ∀ d ∈ tables_1, d.before a0 Z = true) : (Jvm.Cond.castable "java/util/TreeMap$EntryIterator" "java/util/Iterator").before a0 Z = true := hw _ (List.mem_of_getElem? (i := 140) rfl)
theorem w_141 {Z : State} {a0 : Array Value} (hw : ∀ d ∈ tables_1, d.before a0 Z = true) : (Jvm.Cond.code ({ cls := "java/util/TreeMap$PrivateEntryIterator", name := "hasNext", desc := "()Z" } : Jvm.MethodName) jdk_2750_method_2_code (1 : Nat) (Option.some Jvm.ClassFile.FieldType.boolean)).before a0 Z = true := hw _ (List.mem_of_getElem? (i := 141) rfl)
theorem w_142 {Z : State} {a0 : Array Value} (hw : ∀ d ∈ tables_1, d.before a0 Z = true) : (Jvm.Cond.fieldLink "com/example/libonce/libonce/Outcome" (56 : Nat) "com/example/libonce/libonce/Outcome" "_status" "I").before a0 Z = true := hw _ (List.mem_of_getElem? (i := 142) rfl)
theorem w_143 {Z : State} {a0 : Array Value} (hw : ∀ d ∈ tables_1, d.before a0 Z = true) : (Jvm.Cond.laysFinal "com/example/libonce/libonce/Outcome" "com/example/libonce/libonce/Outcome" "_status" "I").before a0 Z = true := hw _ (List.mem_of_getElem? (i := 143) rfl)
theorem w_144 {Z : State} {a0 : Array Value} (hw : ∀ d ∈ tables_1, d.before a0 Z = true) : (Jvm.Cond.methodLink "com/example/libonce/libonce/Outcome" (62 : Nat) ({ cls := "java/util/Collections", name := "unmodifiableMap", desc := "(Ljava/util/Map;)Ljava/util/Map;" } : Jvm.MethodName)).before a0 Z = true := hw _ (List.mem_of_getElem? (i := 144) rfl)
theorem w_145 {Z : State} {a0 : Array Value} (hw : ∀ d ∈ tables_1, d.before a0 Z = true) : (Jvm.Cond.static ({ cls := "java/util/Collections", name := "unmodifiableMap", desc := "(Ljava/util/Map;)Ljava/util/Map;" } : Jvm.MethodName)).before a0 Z = true := hw _ (List.mem_of_getElem? (i := 145) rfl)
theorem w_146 {Z : State} {a0 : Array Value} (hw : ∀ d ∈ tables_1, d.before a0 Z = true) : (Jvm.Cond.initialized "java/util/Collections").before a0 Z = true := hw _ (List.mem_of_getElem? (i := 146) rfl)
theorem w_147 {Z : State} {a0 : Array Value} (hw : ∀ d ∈ tables_1, d.before a0 Z = true) : (Jvm.Cond.code ({ cls := "java/util/Collections", name := "unmodifiableMap", desc := "(Ljava/util/Map;)Ljava/util/Map;" } : Jvm.MethodName) jdk_79_method_36_code (1 : Nat) (Option.some (Jvm.ClassFile.FieldType.object "java/util/Map"))).before a0 Z = true := hw _ (List.mem_of_getElem? (i := 147) rfl)
theorem w_148 {Z : State} {a0 : Array Value} (hw : ∀ d ∈ tables_1, d.before a0 Z = true) : (Jvm.Cond.methodLink "java/util/Collections" (220 : Nat) ({ cls := "java/util/Map", name := "getClass", desc := "()Ljava/lang/Class;" } : Jvm.MethodName)).before a0 Z = true := hw _ (List.mem_of_getElem? (i := 148) rfl)
theorem w_149 {Z : State} {a0 : Array Value} (hw : ∀ d ∈ tables_1, d.before a0 Z = true) : (Jvm.Cond.declares ({ cls := "java/lang/Object", name := "getClass", desc := "()Ljava/lang/Class;" } : Jvm.MethodName)).before a0 Z = true := hw _ (List.mem_of_getElem? (i := 149) rfl)
theorem w_150 {Z : State} {a0 : Array Value} (hw : ∀ d ∈ tables_1, d.before a0 Z = true) : (Jvm.Cond.interfaceMethod "java/util/Map" "java/lang/Object" "getClass" "()Ljava/lang/Class;").before a0 Z = true := hw _ (List.mem_of_getElem? (i := 150) rfl)
theorem w_151 {Z : State} {a0 : Array Value} (hw : ∀ d ∈ tables_1, d.before a0 Z = true) : (Jvm.Cond.selects "java/util/TreeMap" ({ cls := "java/util/Map", name := "getClass", desc := "()Ljava/lang/Class;" } : Jvm.MethodName) ({ cls := "java/lang/Object", name := "getClass", desc := "()Ljava/lang/Class;" } : Jvm.MethodName)).before a0 Z = true := hw _ (List.mem_of_getElem? (i := 151) rfl)
theorem w_152 {Z : State} {a0 : Array Value} (hw : ∀ d ∈ tables_1, d.before a0 Z = true) : (Jvm.Cond.instanceMethod ({ cls := "java/lang/Object", name := "getClass", desc := "()Ljava/lang/Class;" } : Jvm.MethodName)).before a0 Z = true := hw _ (List.mem_of_getElem? (i := 152) rfl)
theorem w_153 {Z : State} {a0 : Array Value} (hw : ∀ d ∈ tables_1, d.before a0 Z = true) : (Jvm.Cond.publicMethod ({ cls := "java/lang/Object", name := "getClass", desc := "()Ljava/lang/Class;" } : Jvm.MethodName)).before a0 Z = true := hw _ (List.mem_of_getElem? (i := 153) rfl)
theorem w_154 {Z : State} {a0 : Array Value} (hw : ∀ d ∈ tables_1, d.before a0 Z = true) : (Jvm.Cond.unhidden "java/util/TreeMap" "getClass" "()Ljava/lang/Class;").before a0 Z = true := hw _ (List.mem_of_getElem? (i := 154) rfl)
theorem w_155 {Z : State} {a0 : Array Value} (hw : ∀ d ∈ tables_1, d.before a0 Z = true) : (Jvm.Cond.native ({ cls := "java/lang/Object", name := "getClass", desc := "()Ljava/lang/Class;" } : Jvm.MethodName)).before a0 Z = true := hw _ (List.mem_of_getElem? (i := 155) rfl)
theorem w_157 {Z : State} {a0 : Array Value} (hw : ∀ d ∈ tables_1, d.before a0 Z = true) : (Jvm.Cond.classLink "java/util/Collections" (223 : Nat) "java/util/Collections$UnmodifiableMap").before a0 Z = true := hw _ (List.mem_of_getElem? (i := 157) rfl)
theorem w_159 {Z : State} {a0 : Array Value} (hw : ∀ d ∈ tables_1, d.before a0 Z = true) : (Jvm.Cond.instantiable "java/util/Collections$UnmodifiableMap" (4 : Nat)).before a0 Z = true := hw _ (List.mem_of_getElem? (i := 159) rfl)
theorem w_160 {Z : State} {a0 : Array Value} (hw : ∀ d ∈ tables_1, d.before a0 Z = true) : (Jvm.Cond.initialized "java/util/Collections$UnmodifiableMap").before a0 Z = true := hw _ (List.mem_of_getElem? (i := 160) rfl)
theorem w_161 {Z : State} {a0 : Array Value} (hw : ∀ d ∈ tables_1, d.before a0 Z = true) : (Jvm.Cond.methodLink "java/util/Collections" (225 : Nat) ({ cls := "java/util/Collections$UnmodifiableMap", name := "<init>", desc := "(Ljava/util/Map;)V" } : Jvm.MethodName)).before a0 Z = true := hw _ (List.mem_of_getElem? (i := 161) rfl)
theorem w_162 {Z : State} {a0 : Array Value} (hw : ∀ d ∈ tables_1, d.before a0 Z = true) : (Jvm.Cond.instanceMethod ({ cls := "java/util/Collections$UnmodifiableMap", name := "<init>", desc := "(Ljava/util/Map;)V" } : Jvm.MethodName)).before a0 Z = true := hw _ (List.mem_of_getElem? (i := 162) rfl)
theorem w_163 {Z : State} {a0 : Array Value} (hw : ∀ d ∈ tables_1, d.before a0 Z = true) : (Jvm.Cond.code ({ cls := "java/util/Collections$UnmodifiableMap", name := "<init>", desc := "(Ljava/util/Map;)V" } : Jvm.MethodName) jdk_2500_method_1_code (2 : Nat) (Option.none : Option Jvm.ClassFile.FieldType)).before a0 Z = true := hw _ (List.mem_of_getElem? (i := 163) rfl)
theorem w_164 {Z : State} {a0 : Array Value} (hw : ∀ d ∈ tables_1, d.before a0 Z = true) : (Jvm.Cond.methodLink "java/util/Collections$UnmodifiableMap" (1 : Nat) ({ cls := "java/lang/Object", name := "<init>", desc := "()V" } : Jvm.MethodName)).before a0 Z = true := hw _ (List.mem_of_getElem? (i := 164) rfl)
theorem w_165 {Z : State} {a0 : Array Value} (hw : ∀ d ∈ tables_1, d.before a0 Z = true) : (Jvm.Cond.fieldLink "java/util/Collections$UnmodifiableMap" (10 : Nat) "java/util/Collections$UnmodifiableMap" "m" "Ljava/util/Map;").before a0 Z = true := hw _ (List.mem_of_getElem? (i := 165) rfl)
theorem w_166 {Z : State} {a0 : Array Value} (hw : ∀ d ∈ tables_1, d.before a0 Z = true) : (Jvm.Cond.laysFinal "java/util/Collections$UnmodifiableMap" "java/util/Collections$UnmodifiableMap" "m" "Ljava/util/Map;").before a0 Z = true := hw _ (List.mem_of_getElem? (i := 166) rfl)
theorem w_167 {Z : State} {a0 : Array Value} (hw : ∀ d ∈ tables_1, d.before a0 Z = true) : (Jvm.Cond.fieldLink "com/example/libonce/libonce/Outcome" (68 : Nat) "com/example/libonce/libonce/Outcome" "_attributes" "Ljava/util/Map;").before a0 Z = true := hw _ (List.mem_of_getElem? (i := 167) rfl)
theorem w_168 {Z : State} {a0 : Array Value} (hw : ∀ d ∈ tables_1, d.before a0 Z = true) : (Jvm.Cond.laysFinal "com/example/libonce/libonce/Outcome" "com/example/libonce/libonce/Outcome" "_attributes" "Ljava/util/Map;").before a0 Z = true := hw _ (List.mem_of_getElem? (i := 168) rfl)
theorem w_169 {Z : State} {a0 : Array Value} (hw : ∀ d ∈ tables_1, d.before a0 Z = true) : (Jvm.Cond.methodLink "com/example/libonce/libonce/Outcome" (72 : Nat) ({ cls := "[B", name := "clone", desc := "()Ljava/lang/Object;" } : Jvm.MethodName)).before a0 Z = true := hw _ (List.mem_of_getElem? (i := 169) rfl)
theorem w_170 {Z : State} {a0 : Array Value} (hw : ∀ d ∈ tables_1, d.before a0 Z = true) : (Jvm.Cond.classLink "com/example/libonce/libonce/Outcome" (73 : Nat) "[B").before a0 Z = true := hw _ (List.mem_of_getElem? (i := 170) rfl)
theorem w_171 {Z : State} {a0 : Array Value} (hw : ∀ d ∈ tables_1, d.before a0 Z = true) : (Jvm.Cond.fieldLink "com/example/libonce/libonce/Outcome" (77 : Nat) "com/example/libonce/libonce/Outcome" "_body" "[B").before a0 Z = true := hw _ (List.mem_of_getElem? (i := 171) rfl)
theorem w_172 {Z : State} {a0 : Array Value} (hw : ∀ d ∈ tables_1, d.before a0 Z = true) : (Jvm.Cond.laysFinal "com/example/libonce/libonce/Outcome" "com/example/libonce/libonce/Outcome" "_body" "[B").before a0 Z = true := hw _ (List.mem_of_getElem? (i := 172) rfl)
theorem d6_0 : decode jdk_71_method_1_code 0 = .ok (.aload_n 0, 1) := by decide +kernel
theorem d6_1 : decode jdk_71_method_1_code 1 = .ok (.invokespecial 1, 3) := by decide +kernel
theorem d6_4 : decode jdk_71_method_1_code 4 = .ok (.return_, 1) := by decide +kernel
theorem d11_0 : decode jdk_22_method_1_code 0 = .ok (.aload_n 0, 1) := by decide +kernel
theorem d11_1 : decode jdk_22_method_1_code 1 = .ok (.invokespecial 1, 3) := by decide +kernel
theorem d11_4 : decode jdk_22_method_1_code 4 = .ok (.return_, 1) := by decide +kernel
theorem d10_0 : decode jdk_91_method_1_code 0 = .ok (.aload_n 0, 1) := by decide +kernel
theorem d10_1 : decode jdk_91_method_1_code 1 = .ok (.invokespecial 1, 3) := by decide +kernel
theorem d10_4 : decode jdk_91_method_1_code 4 = .ok (.return_, 1) := by decide +kernel
theorem d5_0 : decode jdk_2729_method_1_code 0 = .ok (.aload_n 0, 1) := by decide +kernel
theorem d5_1 : decode jdk_2729_method_1_code 1 = .ok (.invokespecial 1, 3) := by decide +kernel
theorem d5_4 : decode jdk_2729_method_1_code 4 = .ok (.aload_n 0, 1) := by decide +kernel
theorem d5_5 : decode jdk_2729_method_1_code 5 = .ok (.iconst 0, 1) := by decide +kernel
theorem d5_6 : decode jdk_2729_method_1_code 6 = .ok (.putfield 7, 3) := by decide +kernel
theorem d5_9 : decode jdk_2729_method_1_code 9 = .ok (.aload_n 0, 1) := by decide +kernel
theorem d5_10 : decode jdk_2729_method_1_code 10 = .ok (.iconst 0, 1) := by decide +kernel
theorem d5_11 : decode jdk_2729_method_1_code 11 = .ok (.putfield 13, 3) := by decide +kernel
theorem d5_14 : decode jdk_2729_method_1_code 14 = .ok (.aload_n 0, 1) := by decide +kernel
theorem d5_15 : decode jdk_2729_method_1_code 15 = .ok (.aconst_null, 1) := by decide +kernel
theorem d5_16 : decode jdk_2729_method_1_code 16 = .ok (.putfield 16, 3) := by decide +kernel
theorem d5_19 : decode jdk_2729_method_1_code 19 = .ok (.return_, 1) := by decide +kernel
theorem d9_0 : decode jdk_2738_method_1_code 0 = .ok (.aload_n 0, 1) := by decide +kernel
theorem d9_1 : decode jdk_2738_method_1_code 1 = .ok (.aload_n 1, 1) := by decide +kernel
theorem d9_2 : decode jdk_2738_method_1_code 2 = .ok (.putfield 1, 3) := by decide +kernel
theorem d9_5 : decode jdk_2738_method_1_code 5 = .ok (.aload_n 0, 1) := by decide +kernel
theorem d9_6 : decode jdk_2738_method_1_code 6 = .ok (.invokespecial 7, 3) := by decide +kernel
theorem d9_9 : decode jdk_2738_method_1_code 9 = .ok (.return_, 1) := by decide +kernel
theorem d8_0 : decode jdk_2729_method_53_code 0 = .ok (.aload_n 0, 1) := by decide +kernel
theorem d8_1 : decode jdk_2729_method_53_code 1 = .ok (.getfield 188, 3) := by decide +kernel
theorem d8_4 : decode jdk_2729_method_53_code 4 = .ok (.astore_n 1, 1) := by decide +kernel
theorem d8_5 : decode jdk_2729_method_53_code 5 = .ok (.aload_n 1, 1) := by decide +kernel
theorem d8_6 : decode jdk_2729_method_53_code 6 = .ok (.ifnull 7, 3) := by decide +kernel
theorem d8_9 : decode jdk_2729_method_53_code 9 = .ok (.aload_n 1, 1) := by decide +kernel
theorem d8_10 : decode jdk_2729_method_53_code 10 = .ok (.goto 16, 3) := by decide +kernel
theorem d8_13 : decode jdk_2729_method_53_code 13 = .ok (.aload_n 0, 1) := by decide +kernel
theorem d8_14 : decode jdk_2729_method_53_code 14 = .ok (.new 242, 3) := by decide +kernel
theorem d8_17 : decode jdk_2729_method_53_code 17 = .ok (.dup, 1) := by decide +kernel
theorem d8_18 : decode jdk_2729_method_53_code 18 = .ok (.aload_n 0, 1) := by decide +kernel
theorem d8_19 : decode jdk_2729_method_53_code 19 = .ok (.invokespecial 244, 3) := by decide +kernel
theorem d8_22 : decode jdk_2729_method_53_code 22 = .ok (.dup_x1, 1) := by decide +kernel
theorem d8_23 : decode jdk_2729_method_53_code 23 = .ok (.putfield 188, 3) := by decide +kernel
theorem d8_26 : decode jdk_2729_method_53_code 26 = .ok (.areturn, 1) := by decide +kernel
theorem d13_0 : decode jdk_2729_method_72_code 0 = .ok (.aload_n 0, 1) := by decide +kernel
theorem d13_1 : decode jdk_2729_method_72_code 1 = .ok (.getfield 101, 3) := by decide +kernel
theorem d13_4 : decode jdk_2729_method_72_code 4 = .ok (.astore_n 1, 1) := by decide +kernel
theorem d13_5 : decode jdk_2729_method_72_code 5 = .ok (.aload_n 1, 1) := by decide +kernel
theorem d13_6 : decode jdk_2729_method_72_code 6 = .ok (.ifnull 18, 3) := by decide +kernel
theorem d13_9 : decode jdk_2729_method_72_code 9 = .ok (.aload_n 1, 1) := by decide +kernel
theorem d13_10 : decode jdk_2729_method_72_code 10 = .ok (.getfield 111, 3) := by decide +kernel
theorem d13_13 : decode jdk_2729_method_72_code 13 = .ok (.ifnull 11, 3) := by decide +kernel
theorem d13_16 : decode jdk_2729_method_72_code 16 = .ok (.aload_n 1, 1) := by decide +kernel
theorem d13_17 : decode jdk_2729_method_72_code 17 = .ok (.getfield 111, 3) := by decide +kernel
theorem d13_20 : decode jdk_2729_method_72_code 20 = .ok (.astore_n 1, 1) := by decide +kernel
theorem d13_21 : decode jdk_2729_method_72_code 21 = .ok (.goto (-12), 3) := by decide +kernel
theorem d13_24 : decode jdk_2729_method_72_code 24 = .ok (.aload_n 1, 1) := by decide +kernel
theorem d13_25 : decode jdk_2729_method_72_code 25 = .ok (.areturn, 1) := by decide +kernel
theorem d15_0 : decode jdk_2750_method_1_code 0 = .ok (.aload_n 0, 1) := by decide +kernel
theorem d15_1 : decode jdk_2750_method_1_code 1 = .ok (.aload_n 1, 1) := by decide +kernel
theorem d15_2 : decode jdk_2750_method_1_code 2 = .ok (.putfield 1, 3) := by decide +kernel
theorem d15_5 : decode jdk_2750_method_1_code 5 = .ok (.aload_n 0, 1) := by decide +kernel
theorem d15_6 : decode jdk_2750_method_1_code 6 = .ok (.invokespecial 7, 3) := by decide +kernel
theorem d15_9 : decode jdk_2750_method_1_code 9 = .ok (.aload_n 0, 1) := by decide +kernel
theorem d15_10 : decode jdk_2750_method_1_code 10 = .ok (.aload_n 1, 1) := by decide +kernel
theorem d15_11 : decode jdk_2750_method_1_code 11 = .ok (.getfield 13, 3) := by decide +kernel
theorem d15_14 : decode jdk_2750_method_1_code 14 = .ok (.putfield 19, 3) := by decide +kernel
theorem d15_17 : decode jdk_2750_method_1_code 17 = .ok (.aload_n 0, 1) := by decide +kernel
theorem d15_18 : decode jdk_2750_method_1_code 18 = .ok (.aconst_null, 1) := by decide +kernel
theorem d15_19 : decode jdk_2750_method_1_code 19 = .ok (.putfield 22, 3) := by decide +kernel
theorem d15_22 : decode jdk_2750_method_1_code 22 = .ok (.aload_n 0, 1) := by decide +kernel
theorem d15_23 : decode jdk_2750_method_1_code 23 = .ok (.aload_n 2, 1) := by decide +kernel
theorem d15_24 : decode jdk_2750_method_1_code 24 = .ok (.putfield 26, 3) := by decide +kernel
theorem d15_27 : decode jdk_2750_method_1_code 27 = .ok (.return_, 1) := by decide +kernel
theorem d14_0 : decode jdk_2737_method_1_code 0 = .ok (.aload_n 0, 1) := by decide +kernel
theorem d14_1 : decode jdk_2737_method_1_code 1 = .ok (.aload_n 1, 1) := by decide +kernel
theorem d14_2 : decode jdk_2737_method_1_code 2 = .ok (.aload_n 2, 1) := by decide +kernel
theorem d14_3 : decode jdk_2737_method_1_code 3 = .ok (.invokespecial 1, 3) := by decide +kernel
theorem d14_6 : decode jdk_2737_method_1_code 6 = .ok (.return_, 1) := by decide +kernel
theorem d12_0 : decode jdk_2738_method_2_code 0 = .ok (.new 13, 3) := by decide +kernel
theorem d12_3 : decode jdk_2738_method_2_code 3 = .ok (.dup, 1) := by decide +kernel
theorem d12_4 : decode jdk_2738_method_2_code 4 = .ok (.aload_n 0, 1) := by decide +kernel
theorem d12_5 : decode jdk_2738_method_2_code 5 = .ok (.getfield 1, 3) := by decide +kernel
theorem d12_8 : decode jdk_2738_method_2_code 8 = .ok (.aload_n 0, 1) := by decide +kernel
theorem d12_9 : decode jdk_2738_method_2_code 9 = .ok (.getfield 1, 3) := by decide +kernel
theorem d12_12 : decode jdk_2738_method_2_code 12 = .ok (.invokevirtual 15, 3) := by decide +kernel
theorem d12_15 : decode jdk_2738_method_2_code 15 = .ok (.invokespecial 21, 3) := by decide +kernel
theorem d12_18 : decode jdk_2738_method_2_code 18 = .ok (.areturn, 1) := by decide +kernel
theorem d16_0 : decode jdk_2750_method_2_code 0 = .ok (.aload_n 0, 1) := by decide +kernel
theorem d16_1 : decode jdk_2750_method_2_code 1 = .ok (.getfield 26, 3) := by decide +kernel
theorem d16_4 : decode jdk_2750_method_2_code 4 = .ok (.ifnull 7, 3) := by decide +kernel
theorem d16_7 : decode jdk_2750_method_2_code 7 = .ok (.iconst 1, 1) := by decide +kernel
theorem d16_8 : decode jdk_2750_method_2_code 8 = .ok (.goto 4, 3) := by decide +kernel
theorem d16_11 : decode jdk_2750_method_2_code 11 = .ok (.iconst 0, 1) := by decide +kernel
theorem d16_12 : decode jdk_2750_method_2_code 12 = .ok (.ireturn, 1) := by decide +kernel
theorem d18_0 : decode jdk_2500_method_1_code 0 = .ok (.aload_n 0, 1) := by decide +kernel
theorem d18_1 : decode jdk_2500_method_1_code 1 = .ok (.invokespecial 1, 3) := by decide +kernel
theorem d18_4 : decode jdk_2500_method_1_code 4 = .ok (.aload_n 1, 1) := by decide +kernel
theorem d18_5 : decode jdk_2500_method_1_code 5 = .ok (.ifnonnull 11, 3) := by decide +kernel
theorem d18_8 : decode jdk_2500_method_1_code 8 = .ok (.new 7, 3) := by decide +kernel
theorem d18_11 : decode jdk_2500_method_1_code 11 = .ok (.dup, 1) := by decide +kernel
theorem d18_12 : decode jdk_2500_method_1_code 12 = .ok (.invokespecial 9, 3) := by decide +kernel
theorem d18_15 : decode jdk_2500_method_1_code 15 = .ok (.athrow, 1) := by decide +kernel
theorem d18_16 : decode jdk_2500_method_1_code 16 = .ok (.aload_n 0, 1) := by decide +kernel
theorem d18_17 : decode jdk_2500_method_1_code 17 = .ok (.aload_n 1, 1) := by decide +kernel
theorem d18_18 : decode jdk_2500_method_1_code 18 = .ok (.putfield 10, 3) := by decide +kernel
theorem d18_21 : decode jdk_2500_method_1_code 21 = .ok (.return_, 1) := by decide +kernel
theorem d17_0 : decode jdk_79_method_36_code 0 = .ok (.aload_n 0, 1) := by decide +kernel
theorem d17_1 : decode jdk_79_method_36_code 1 = .ok (.invokeinterface 220 1, 5) := by decide +kernel
theorem d17_6 : decode jdk_79_method_36_code 6 = .ok (.ldc 223, 2) := by decide +kernel
theorem d17_8 : decode jdk_79_method_36_code 8 = .ok (.if_acmp .ne 5, 3) := by decide +kernel
theorem d17_11 : decode jdk_79_method_36_code 11 = .ok (.aload_n 0, 1) := by decide +kernel
theorem d17_12 : decode jdk_79_method_36_code 12 = .ok (.areturn, 1) := by decide +kernel
theorem d17_13 : decode jdk_79_method_36_code 13 = .ok (.new 223, 3) := by decide +kernel
theorem d17_16 : decode jdk_79_method_36_code 16 = .ok (.dup, 1) := by decide +kernel
theorem d17_17 : decode jdk_79_method_36_code 17 = .ok (.aload_n 0, 1) := by decide +kernel
theorem d17_18 : decode jdk_79_method_36_code 18 = .ok (.invokespecial 225, 3) := by decide +kernel
theorem d17_21 : decode jdk_79_method_36_code 21 = .ok (.areturn, 1) := by decide +kernel
theorem d7_0 : decode prog_8_method_1_code 0 = .ok (.aload_n 0, 1) := by decide +kernel
theorem d7_1 : decode prog_8_method_1_code 1 = .ok (.invokespecial 1, 3) := by decide +kernel
theorem d7_4 : decode prog_8_method_1_code 4 = .ok (.new 7, 3) := by decide +kernel
theorem d7_7 : decode prog_8_method_1_code 7 = .ok (.dup, 1) := by decide +kernel
theorem d7_8 : decode prog_8_method_1_code 8 = .ok (.invokespecial 9, 3) := by decide +kernel
theorem d7_11 : decode prog_8_method_1_code 11 = .ok (.astore 4, 2) := by decide +kernel
theorem d7_13 : decode prog_8_method_1_code 13 = .ok (.aload_n 2, 1) := by decide +kernel
theorem d7_14 : decode prog_8_method_1_code 14 = .ok (.invokeinterface 10 1, 5) := by decide +kernel
theorem d7_19 : decode prog_8_method_1_code 19 = .ok (.invokeinterface 16 1, 5) := by decide +kernel
theorem d7_24 : decode prog_8_method_1_code 24 = .ok (.astore 5, 2) := by decide +kernel
theorem d7_26 : decode prog_8_method_1_code 26 = .ok (.aload 5, 2) := by decide +kernel
theorem d7_28 : decode prog_8_method_1_code 28 = .ok (.invokeinterface 22 1, 5) := by decide +kernel
theorem d7_33 : decode prog_8_method_1_code 33 = .ok (.ifCond .eq 60, 3) := by decide +kernel
theorem d7_36 : decode prog_8_method_1_code 36 = .ok (.aload 5, 2) := by decide +kernel
theorem d7_38 : decode prog_8_method_1_code 38 = .ok (.invokeinterface 28 1, 5) := by decide +kernel
theorem d7_43 : decode prog_8_method_1_code 43 = .ok (.checkcast 32, 3) := by decide +kernel
theorem d7_46 : decode prog_8_method_1_code 46 = .ok (.astore 6, 2) := by decide +kernel
theorem d7_48 : decode prog_8_method_1_code 48 = .ok (.aload 4, 2) := by decide +kernel
theorem d7_50 : decode prog_8_method_1_code 50 = .ok (.aload 6, 2) := by decide +kernel
theorem d7_52 : decode prog_8_method_1_code 52 = .ok (.invokeinterface 34 1, 5) := by decide +kernel
theorem d7_57 : decode prog_8_method_1_code 57 = .ok (.checkcast 37, 3) := by decide +kernel
theorem d7_60 : decode prog_8_method_1_code 60 = .ok (.ldc 39, 2) := by decide +kernel
theorem d7_62 : decode prog_8_method_1_code 62 = .ok (.invokestatic 41, 3) := by decide +kernel
theorem d7_65 : decode prog_8_method_1_code 65 = .ok (.checkcast 37, 3) := by decide +kernel
theorem d7_68 : decode prog_8_method_1_code 68 = .ok (.aload 6, 2) := by decide +kernel
theorem d7_70 : decode prog_8_method_1_code 70 = .ok (.invokeinterface 47 1, 5) := by decide +kernel
theorem d7_75 : decode prog_8_method_1_code 75 = .ok (.checkcast 37, 3) := by decide +kernel
theorem d7_78 : decode prog_8_method_1_code 78 = .ok (.ldc 50, 2) := by decide +kernel
theorem d7_80 : decode prog_8_method_1_code 80 = .ok (.invokestatic 41, 3) := by decide +kernel
theorem d7_83 : decode prog_8_method_1_code 83 = .ok (.checkcast 37, 3) := by decide +kernel
theorem d7_86 : decode prog_8_method_1_code 86 = .ok (.invokevirtual 52, 3) := by decide +kernel
theorem d7_89 : decode prog_8_method_1_code 89 = .ok (.pop, 1) := by decide +kernel
theorem d7_90 : decode prog_8_method_1_code 90 = .ok (.goto (-64), 3) := by decide +kernel
theorem d7_93 : decode prog_8_method_1_code 93 = .ok (.aload_n 0, 1) := by decide +kernel
theorem d7_94 : decode prog_8_method_1_code 94 = .ok (.iload_n 1, 1) := by decide +kernel
theorem d7_95 : decode prog_8_method_1_code 95 = .ok (.putfield 56, 3) := by decide +kernel
theorem d7_98 : decode prog_8_method_1_code 98 = .ok (.aload_n 0, 1) := by decide +kernel
theorem d7_99 : decode prog_8_method_1_code 99 = .ok (.aload 4, 2) := by decide +kernel
theorem d7_101 : decode prog_8_method_1_code 101 = .ok (.invokestatic 62, 3) := by decide +kernel
theorem d7_104 : decode prog_8_method_1_code 104 = .ok (.putfield 68, 3) := by decide +kernel
theorem d7_107 : decode prog_8_method_1_code 107 = .ok (.aload_n 0, 1) := by decide +kernel
theorem d7_108 : decode prog_8_method_1_code 108 = .ok (.aload_n 3, 1) := by decide +kernel
theorem d7_109 : decode prog_8_method_1_code 109 = .ok (.invokevirtual 72, 3) := by decide +kernel
theorem d7_112 : decode prog_8_method_1_code 112 = .ok (.checkcast 73, 3) := by decide +kernel
theorem d7_115 : decode prog_8_method_1_code 115 = .ok (.putfield 77, 3) := by decide +kernel
theorem d7_118 : decode prog_8_method_1_code 118 = .ok (.return_, 1) := by decide +kernel
theorem d1_0 : decode prog_6_method_1_code 0 = .ok (.aload_n 0, 1) := by decide +kernel
theorem d1_1 : decode prog_6_method_1_code 1 = .ok (.invokespecial 1, 3) := by decide +kernel
theorem d1_4 : decode prog_6_method_1_code 4 = .ok (.aload_n 0, 1) := by decide +kernel
theorem d1_5 : decode prog_6_method_1_code 5 = .ok (.aload_n 1, 1) := by decide +kernel
theorem d1_6 : decode prog_6_method_1_code 6 = .ok (.invokevirtual 7, 3) := by decide +kernel
theorem d1_9 : decode prog_6_method_1_code 9 = .ok (.checkcast 8, 3) := by decide +kernel
theorem d1_12 : decode prog_6_method_1_code 12 = .ok (.putfield 13, 3) := by decide +kernel
theorem d1_15 : decode prog_6_method_1_code 15 = .ok (.aload_n 0, 1) := by decide +kernel
theorem d1_16 : decode prog_6_method_1_code 16 = .ok (.aload_n 2, 1) := by decide +kernel
theorem d1_17 : decode prog_6_method_1_code 17 = .ok (.putfield 18, 3) := by decide +kernel
theorem d1_20 : decode prog_6_method_1_code 20 = .ok (.return_, 1) := by decide +kernel
theorem d3_0 : decode prog_6_method_3_code 0 = .ok (.aload_n 0, 1) := by decide +kernel
theorem d3_1 : decode prog_6_method_3_code 1 = .ok (.getfield 18, 3) := by decide +kernel
theorem d3_4 : decode prog_6_method_3_code 4 = .ok (.ifnonnull 7, 3) := by decide +kernel
theorem d3_7 : decode prog_6_method_3_code 7 = .ok (.iconst 1, 1) := by decide +kernel
theorem d3_8 : decode prog_6_method_3_code 8 = .ok (.goto 4, 3) := by decide +kernel
theorem d3_11 : decode prog_6_method_3_code 11 = .ok (.iconst 0, 1) := by decide +kernel
theorem d3_12 : decode prog_6_method_3_code 12 = .ok (.ireturn, 1) := by decide +kernel
theorem d4_0 : decode prog_6_method_4_code 0 = .ok (.aload_n 0, 1) := by decide +kernel
theorem d4_1 : decode prog_6_method_4_code 1 = .ok (.getfield 18, 3) := by decide +kernel
theorem d4_4 : decode prog_6_method_4_code 4 = .ok (.areturn, 1) := by decide +kernel
theorem pd__28_29V : parseMethodDescriptor "()V" = some ⟨[], none⟩ := by decide +kernel
theorem pd__28Ljava_2futil_2fTreeMap_3b_29V : parseMethodDescriptor "(Ljava/util/TreeMap;)V" = some ⟨[(.object "java/util/TreeMap")], none⟩ := by decide +kernel
theorem pd__28Ljava_2futil_2fTreeMap_3bLjava_2futil_2fTreeMap_24Entry_3b_29V : parseMethodDescriptor "(Ljava/util/TreeMap;Ljava/util/TreeMap$Entry;)V" = some ⟨[(.object "java/util/TreeMap"), (.object "java/util/TreeMap$Entry")], none⟩ := by decide +kernel
theorem pd__28_29Ljava_2futil_2fTreeMap_24Entry_3b : parseMethodDescriptor "()Ljava/util/TreeMap$Entry;" = some ⟨[], some (.object "java/util/TreeMap$Entry")⟩ := by decide +kernel
theorem pd__28Ljava_2futil_2fMap_3b_29V : parseMethodDescriptor "(Ljava/util/Map;)V" = some ⟨[(.object "java/util/Map")], none⟩ := by decide +kernel
theorem pd__28_29Ljava_2futil_2fSet_3b : parseMethodDescriptor "()Ljava/util/Set;" = some ⟨[], some (.object "java/util/Set")⟩ := by decide +kernel
theorem pd__28_29Ljava_2futil_2fIterator_3b : parseMethodDescriptor "()Ljava/util/Iterator;" = some ⟨[], some (.object "java/util/Iterator")⟩ := by decide +kernel
theorem pd__28_29Z : parseMethodDescriptor "()Z" = some ⟨[], some .boolean⟩ := by decide +kernel
theorem pd__28Ljava_2futil_2fMap_3b_29Ljava_2futil_2fMap_3b : parseMethodDescriptor "(Ljava/util/Map;)Ljava/util/Map;" = some ⟨[(.object "java/util/Map")], some (.object "java/util/Map")⟩ := by decide +kernel
theorem pd__28_5bBLcom_2fexample_2flibonce_2flibonce_2fOutcome_3b_29V : parseMethodDescriptor "([BLcom/example/libonce/libonce/Outcome;)V" = some ⟨[(.array .byte), (.object "com/example/libonce/libonce/Outcome")], none⟩ := by decide +kernel
theorem pd__28_29Lcom_2fexample_2flibonce_2flibonce_2fOutcome_3b : parseMethodDescriptor "()Lcom/example/libonce/libonce/Outcome;" = some ⟨[], some (.object "com/example/libonce/libonce/Outcome")⟩ := by decide +kernel
theorem pd__28ILjava_2futil_2fMap_3b_5bB_29V : parseMethodDescriptor "(ILjava/util/Map;[B)V" = some ⟨[.int, (.object "java/util/Map"), (.array .byte)], none⟩ := by decide +kernel
theorem ef_rmAM (q1 : Addr) (m : MethodId) : entryFrame m #[.ref q1] 1 = mkF m 0 #[.val (.ref q1)] [] := by
  first | (simp [entryFrame, mkF, argsToLocals, Value.category]; done) | rfl
set_option maxRecDepth 65536 in
set_option maxHeartbeats 40000000 in
theorem rmAM (l : Launch) (Z : State) (a0 : Array Value) (hw : ∀ d ∈ tables_1, d.before a0 Z = true) (ws : List Jvm.Cond) (q1 : Addr) (h0 : Heap) (n0 : Nat)  :
    Ctr l Z ({ cls := "java/util/AbstractMap", name := "<init>", desc := "()V" } : Jvm.MethodName) jdk_71_method_1_code 1 none ws ({ frames := 1, cells := 0, slots := 0, locals := 12 } : Room) #[.ref q1] h0 (fun v h L => v = none ∧ Fr n0 L ∧ h = h0) := by
  refine Ctr.enter (Ls := #[.val (.ref q1)]) (by decide +kernel) (fun m => ef_rmAM q1 m) ?_
  intro p e s m below meth c T hx hby hml hown hnm hret hlk hZ hh X0 e0
  have N0 := Fr.nil n0
  refine g_aloadN X0 hx hby d6_0 (pc' := 1) rfl rfl rfl ?_
  obtain ⟨T1, X1, e1, st1⟩ := initO X0 hx hZ hown (w_48 hw) (w_8 hw) (w_9 hw) e0 (g := (mkF m 1 #[.val (.ref q1)] [.ref q1])) rfl (by rw [hml]; rfl) rfl (hb hby d6_1) (by decide) (W := 0) (by show 2 * 0 + _ ≤ _; exact Nat.le_of_eq rfl) (by decide)
  refine GoE.pull (b := T1.setTop (mkF m 4 #[.val (.ref q1)] [])) ?_ st1
  exact g_retV (Q := (fun v h L => v = none ∧ Fr n0 L ∧ h = h0)) X1 hx hby d6_4 hret hlk (by decide) (by decide) ⟨rfl, N0, e1⟩
theorem ef_rmAC (q1 : Addr) (m : MethodId) : entryFrame m #[.ref q1] 1 = mkF m 0 #[.val (.ref q1)] [] := by
  first | (simp [entryFrame, mkF, argsToLocals, Value.category]; done) | rfl
set_option maxRecDepth 65536 in
set_option maxHeartbeats 40000000 in
theorem rmAC (l : Launch) (Z : State) (a0 : Array Value) (hw : ∀ d ∈ tables_1, d.before a0 Z = true) (ws : List Jvm.Cond) (q1 : Addr) (h0 : Heap) (n0 : Nat)  :
    Ctr l Z ({ cls := "java/util/AbstractCollection", name := "<init>", desc := "()V" } : Jvm.MethodName) jdk_22_method_1_code 1 none ws ({ frames := 1, cells := 0, slots := 0, locals := 12 } : Room) #[.ref q1] h0 (fun v h L => v = none ∧ Fr n0 L ∧ h = h0) := by
  refine Ctr.enter (Ls := #[.val (.ref q1)]) (by decide +kernel) (fun m => ef_rmAC q1 m) ?_
  intro p e s m below meth c T hx hby hml hown hnm hret hlk hZ hh X0 e0
  have N0 := Fr.nil n0
  refine g_aloadN X0 hx hby d11_0 (pc' := 1) rfl rfl rfl ?_
  obtain ⟨T1, X1, e1, st1⟩ := initO X0 hx hZ hown (w_93 hw) (w_8 hw) (w_9 hw) e0 (g := (mkF m 1 #[.val (.ref q1)] [.ref q1])) rfl (by rw [hml]; rfl) rfl (hb hby d11_1) (by decide) (W := 0) (by show 2 * 0 + _ ≤ _; exact Nat.le_of_eq rfl) (by decide)
  refine GoE.pull (b := T1.setTop (mkF m 4 #[.val (.ref q1)] [])) ?_ st1
  exact g_retV (Q := (fun v h L => v = none ∧ Fr n0 L ∧ h = h0)) X1 hx hby d11_4 hret hlk (by decide) (by decide) ⟨rfl, N0, e1⟩
theorem ef_rmAS (q1 : Addr) (m : MethodId) : entryFrame m #[.ref q1] 1 = mkF m 0 #[.val (.ref q1)] [] := by
  first | (simp [entryFrame, mkF, argsToLocals, Value.category]; done) | rfl
set_option maxRecDepth 65536 in
set_option maxHeartbeats 40000000 in
theorem rmAS (l : Launch) (Z : State) (a0 : Array Value) (hw : ∀ d ∈ tables_1, d.before a0 Z = true) (ws : List Jvm.Cond) (q1 : Addr) (h0 : Heap) (n0 : Nat)  :
    Ctr l Z ({ cls := "java/util/AbstractSet", name := "<init>", desc := "()V" } : Jvm.MethodName) jdk_91_method_1_code 1 none ws ({ frames := 2, cells := 0, slots := 0, locals := 24 } : Room) #[.ref q1] h0 (fun v h L => v = none ∧ Fr n0 L ∧ h = h0) := by
  refine Ctr.enter (Ls := #[.val (.ref q1)]) (by decide +kernel) (fun m => ef_rmAS q1 m) ?_
  intro p e s m below meth c T hx hby hml hown hnm hret hlk hZ hh X0 e0
  have N0 := Fr.nil n0
  refine g_aloadN X0 hx hby d10_0 (pc' := 1) rfl rfl rfl ?_
  refine g_callI X0 hx hZ hown (W := 0) (argsL := []) (b := q1) (rest := []) hby d10_1 (pc' := 4) rfl (by rw [hml]; rfl) (w_87 hw) (w_88 hw) (w_91 hw) (w_92 hw) rfl (by decide) (rmAC l Z a0 hw [] q1  h0 n0) e0 (by decide) (by decide) (by decide) (by decide) rfl pd__28_29V rfl rfl (Nat.le_of_eq rfl) ?_
  rintro _ T1 L1 X1 ⟨rfl, N1q, e1⟩
  have N1 := Fr.app N0 N1q
  show GoE p e below _ (T1.setTop (mkF m 4 #[.val (.ref q1)] []))
  exact g_retV (Q := (fun v h L => v = none ∧ Fr n0 L ∧ h = h0)) X1 hx hby d10_4 hret hlk (by decide) (by decide) ⟨rfl, N1, e1⟩
theorem ef_rmTI (q1 : Addr) (m : MethodId) : entryFrame m #[.ref q1] 1 = mkF m 0 #[.val (.ref q1)] [] := by
  first | (simp [entryFrame, mkF, argsToLocals, Value.category]; done) | rfl
set_option maxRecDepth 65536 in
set_option maxHeartbeats 40000000 in
theorem rmTI (l : Launch) (Z : State) (a0 : Array Value) (hw : ∀ d ∈ tables_1, d.before a0 Z = true) (ws : List Jvm.Cond) (q1 : Addr) (h0 : Heap) (n0 : Nat) (E_q1 : Exa Z h0 q1 "java/util/TreeMap") (F_q1_size : Fld Z h0 q1 "java/util/TreeMap" "size" "I" (.int (0 : Int32))) (F_q1_modCount : Fld Z h0 q1 "java/util/TreeMap" "modCount" "I" (.int (0 : Int32))) (F_q1_comparator : Fld Z h0 q1 "java/util/TreeMap" "comparator" "Ljava/util/Comparator;" (.null)) (F_q1_entrySet : Fld Z h0 q1 "java/util/TreeMap" "entrySet" "Ljava/util/TreeMap$EntrySet;" (.null)) (F_q1_root : Fld Z h0 q1 "java/util/TreeMap" "root" "Ljava/util/TreeMap$Entry;" (.null)) (g_a : n0 ≤ q1) :
    Ctr l Z ({ cls := "java/util/TreeMap", name := "<init>", desc := "()V" } : Jvm.MethodName) jdk_2729_method_1_code 1 none ws ({ frames := 2, cells := 0, slots := 0, locals := 24 } : Room) #[.ref q1] h0 (fun v h L => v = none ∧ Fr n0 L ∧ Keep h0 h [q1] ∧ Exa Z h q1 "java/util/TreeMap" ∧ Fld Z h q1 "java/util/TreeMap" "size" "I" (.int (0 : Int32)) ∧ Fld Z h q1 "java/util/TreeMap" "modCount" "I" (.int (0 : Int32)) ∧ Fld Z h q1 "java/util/TreeMap" "comparator" "Ljava/util/Comparator;" (.null) ∧ Fld Z h q1 "java/util/TreeMap" "entrySet" "Ljava/util/TreeMap$EntrySet;" (.null) ∧ Fld Z h q1 "java/util/TreeMap" "root" "Ljava/util/TreeMap$Entry;" (.null)) := by
  refine Ctr.enter (Ls := #[.val (.ref q1)]) (by decide +kernel) (fun m => ef_rmTI q1 m) ?_
  intro p e s m below meth c T hx hby hml hown hnm hret hlk hZ hh X0 e0
  have N0 := Fr.nil n0
  refine g_aloadN X0 hx hby d5_0 (pc' := 1) rfl rfl rfl ?_
  refine g_callI X0 hx hZ hown (W := 0) (argsL := []) (b := q1) (rest := []) hby d5_1 (pc' := 4) rfl (by rw [hml]; rfl) (w_42 hw) (w_43 hw) (w_46 hw) (w_47 hw) rfl (by decide) (rmAM l Z a0 hw [] q1  h0 n0) e0 (by decide) (by decide) (by decide) (by decide) rfl pd__28_29V rfl rfl (Nat.le_of_eq rfl) ?_
  rintro _ T1 L1 X1 ⟨rfl, N1q, e1⟩
  have N1 := Fr.app N0 N1q
  show GoE p e below _ (T1.setTop (mkF m 4 #[.val (.ref q1)] []))
  refine g_aloadN X1 hx hby d5_4 (pc' := 5) rfl rfl rfl ?_
  refine g_iconst X1 hx hby d5_5 (pc' := 6) rfl (z := (0 : Int32)) rfl ?_
  refine g_put X1 hx hZ hown hby d5_6 (pc' := 9) rfl (w_49 hw) e1 F_q1_size E_q1 (Or.inl (w_50 hw)) (w_37 hw) (ty := .int) (by decide) rfl rfl ?_
  intro T2 X2 W2
  have N2 := Fr.snoc X2 N1 g_a
  have E2_q1 := E_q1.wr W2
  have F2_q1_size := F_q1_size.same W2
  have F2_q1_modCount := F_q1_modCount.other W2 (Or.inr (slot_ne (Or.inl (w_52 hw)) (Or.inl (w_50 hw)) (by decide) (t := .int) (t' := .int) (by decide) (by decide)))
  have F2_q1_comparator := F_q1_comparator.other W2 (Or.inr (slot_ne (Or.inr (w_54 hw)) (Or.inl (w_50 hw)) (by decide) (t := (.object "java/util/Comparator")) (t' := .int) (by decide) (by decide)))
  have F2_q1_entrySet := F_q1_entrySet.other W2 (Or.inr (slot_ne (Or.inl (w_71 hw)) (Or.inl (w_50 hw)) (by decide) (t := (.object "java/util/TreeMap$EntrySet")) (t' := .int) (by decide) (by decide)))
  have F2_q1_root := F_q1_root.other W2 (Or.inr (slot_ne (Or.inl (w_112 hw)) (Or.inl (w_50 hw)) (by decide) (t := (.object "java/util/TreeMap$Entry")) (t' := .int) (by decide) (by decide)))
  have K2 := (Keep.refl h0 [q1]).wr W2 (Or.inl (List.mem_of_getElem? (i := 0) rfl))
  refine g_aloadN X2 hx hby d5_9 (pc' := 10) rfl rfl rfl ?_
  refine g_iconst X2 hx hby d5_10 (pc' := 11) rfl (z := (0 : Int32)) rfl ?_
  refine g_put X2 hx hZ hown hby d5_11 (pc' := 14) rfl (w_51 hw) rfl F2_q1_modCount E2_q1 (Or.inl (w_52 hw)) (w_37 hw) (ty := .int) (by decide) rfl rfl ?_
  intro T3 X3 W3
  have N3 := Fr.snoc X3 N2 g_a
  have E3_q1 := E2_q1.wr W3
  have F3_q1_size := F2_q1_size.other W3 (Or.inr (slot_ne (Or.inl (w_50 hw)) (Or.inl (w_52 hw)) (by decide) (t := .int) (t' := .int) (by decide) (by decide)))
  have F3_q1_modCount := F2_q1_modCount.same W3
  have F3_q1_comparator := F2_q1_comparator.other W3 (Or.inr (slot_ne (Or.inr (w_54 hw)) (Or.inl (w_52 hw)) (by decide) (t := (.object "java/util/Comparator")) (t' := .int) (by decide) (by decide)))
  have F3_q1_entrySet := F2_q1_entrySet.other W3 (Or.inr (slot_ne (Or.inl (w_71 hw)) (Or.inl (w_52 hw)) (by decide) (t := (.object "java/util/TreeMap$EntrySet")) (t' := .int) (by decide) (by decide)))
  have F3_q1_root := F2_q1_root.other W3 (Or.inr (slot_ne (Or.inl (w_112 hw)) (Or.inl (w_52 hw)) (by decide) (t := (.object "java/util/TreeMap$Entry")) (t' := .int) (by decide) (by decide)))
  have K3 := K2.wr W3 (Or.inl (List.mem_of_getElem? (i := 0) rfl))
  refine g_aloadN X3 hx hby d5_14 (pc' := 15) rfl rfl rfl ?_
  refine g_aconstNull X3 hx hby d5_15 (pc' := 16) rfl ?_
  refine g_put X3 hx hZ hown hby d5_16 (pc' := 19) rfl (w_53 hw) rfl F3_q1_comparator E3_q1 (Or.inr ⟨(w_54 hw), rfl, hnm⟩) (w_37 hw) (ty := (.object "java/util/Comparator")) (by decide) rfl rfl ?_
  intro T4 X4 W4
  have N4 := Fr.snoc X4 N3 g_a
  have E4_q1 := E3_q1.wr W4
  have F4_q1_size := F3_q1_size.other W4 (Or.inr (slot_ne (Or.inl (w_50 hw)) (Or.inr (w_54 hw)) (by decide) (t := .int) (t' := (.object "java/util/Comparator")) (by decide) (by decide)))
  have F4_q1_modCount := F3_q1_modCount.other W4 (Or.inr (slot_ne (Or.inl (w_52 hw)) (Or.inr (w_54 hw)) (by decide) (t := .int) (t' := (.object "java/util/Comparator")) (by decide) (by decide)))
  have F4_q1_comparator := F3_q1_comparator.same W4
  have F4_q1_entrySet := F3_q1_entrySet.other W4 (Or.inr (slot_ne (Or.inl (w_71 hw)) (Or.inr (w_54 hw)) (by decide) (t := (.object "java/util/TreeMap$EntrySet")) (t' := (.object "java/util/Comparator")) (by decide) (by decide)))
  have F4_q1_root := F3_q1_root.other W4 (Or.inr (slot_ne (Or.inl (w_112 hw)) (Or.inr (w_54 hw)) (by decide) (t := (.object "java/util/TreeMap$Entry")) (t' := (.object "java/util/Comparator")) (by decide) (by decide)))
  have K4 := K3.wr W4 (Or.inl (List.mem_of_getElem? (i := 0) rfl))
  exact g_retV (Q := (fun v h L => v = none ∧ Fr n0 L ∧ Keep h0 h [q1] ∧ Exa Z h q1 "java/util/TreeMap" ∧ Fld Z h q1 "java/util/TreeMap" "size" "I" (.int (0 : Int32)) ∧ Fld Z h q1 "java/util/TreeMap" "modCount" "I" (.int (0 : Int32)) ∧ Fld Z h q1 "java/util/TreeMap" "comparator" "Ljava/util/Comparator;" (.null) ∧ Fld Z h q1 "java/util/TreeMap" "entrySet" "Ljava/util/TreeMap$EntrySet;" (.null) ∧ Fld Z h q1 "java/util/TreeMap" "root" "Ljava/util/TreeMap$Entry;" (.null))) X4 hx hby d5_19 hret hlk (by decide) (by decide) ⟨rfl, N4, K4, E4_q1, F4_q1_size, F4_q1_modCount, F4_q1_comparator, F4_q1_entrySet, F4_q1_root⟩
theorem ef_rmSI (q1 : Addr) (q2 : Addr) (m : MethodId) : entryFrame m #[.ref q1, .ref q2] 2 = mkF m 0 #[.val (.ref q1), .val (.ref q2)] [] := by
  first | (simp [entryFrame, mkF, argsToLocals, Value.category]; done) | rfl
set_option maxRecDepth 65536 in
set_option maxHeartbeats 40000000 in
theorem rmSI (l : Launch) (Z : State) (a0 : Array Value) (hw : ∀ d ∈ tables_1, d.before a0 Z = true) (ws : List Jvm.Cond) (q1 : Addr) (q2 : Addr) (h0 : Heap) (n0 : Nat) (w1 : Value) (E_q1 : Exa Z h0 q1 "java/util/TreeMap$EntrySet") (F_q1_this0 : Fld Z h0 q1 "java/util/TreeMap$EntrySet" "this$0" "Ljava/util/TreeMap;" (w1)) (g_a : n0 ≤ q1) :
    Ctr l Z ({ cls := "java/util/TreeMap$EntrySet", name := "<init>", desc := "(Ljava/util/TreeMap;)V" } : Jvm.MethodName) jdk_2738_method_1_code 2 none ws ({ frames := 3, cells := 0, slots := 0, locals := 36 } : Room) #[.ref q1, .ref q2] h0 (fun v h L => v = none ∧ Fr n0 L ∧ Keep h0 h [q1] ∧ Exa Z h q1 "java/util/TreeMap$EntrySet" ∧ Fld Z h q1 "java/util/TreeMap$EntrySet" "this$0" "Ljava/util/TreeMap;" (.ref q2)) := by
  refine Ctr.enter (Ls := #[.val (.ref q1), .val (.ref q2)]) (by decide +kernel) (fun m => ef_rmSI q1 q2 m) ?_
  intro p e s m below meth c T hx hby hml hown hnm hret hlk hZ hh X0 e0
  have N0 := Fr.nil n0
  refine g_aloadN X0 hx hby d9_0 (pc' := 1) rfl rfl rfl ?_
  refine g_aloadN X0 hx hby d9_1 (pc' := 2) rfl rfl rfl ?_
  refine g_put X0 hx hZ hown hby d9_2 (pc' := 5) rfl (w_79 hw) e0 F_q1_this0 E_q1 (Or.inr ⟨(w_80 hw), rfl, hnm⟩) (w_73 hw) (ty := (.object "java/util/TreeMap")) (by decide) rfl rfl ?_
  intro T1 X1 W1
  have N1 := Fr.snoc X1 N0 g_a
  have E1_q1 := E_q1.wr W1
  have F1_q1_this0 := F_q1_this0.same W1
  have K1 := (Keep.refl h0 [q1]).wr W1 (Or.inl (List.mem_of_getElem? (i := 0) rfl))
  refine g_aloadN X1 hx hby d9_5 (pc' := 6) rfl rfl rfl ?_
  refine g_callI X1 hx hZ hown (W := 0) (argsL := []) (b := q1) (rest := []) hby d9_6 (pc' := 9) rfl (by rw [hml]; rfl) (w_81 hw) (w_82 hw) (w_85 hw) (w_86 hw) rfl (by decide) (rmAS l Z a0 hw [] q1  T1.heap n0) rfl (by decide) (by decide) (by decide) (by decide) rfl pd__28_29V rfl rfl (Nat.le_of_eq rfl) ?_
  rintro _ T2 L2 X2 ⟨rfl, N2q, e2⟩
  have N2 := Fr.app N1 N2q
  show GoE p e below _ (T2.setTop (mkF m 9 #[.val (.ref q1), .val (.ref q2)] []))
  exact g_retV (Q := (fun v h L => v = none ∧ Fr n0 L ∧ Keep h0 h [q1] ∧ Exa Z h q1 "java/util/TreeMap$EntrySet" ∧ Fld Z h q1 "java/util/TreeMap$EntrySet" "this$0" "Ljava/util/TreeMap;" (.ref q2))) X2 hx hby d9_9 hret hlk (by decide) (by decide) (by rw [e2]; exact ⟨rfl, N2, K1, E1_q1, F1_q1_this0⟩)
theorem ef_rmTE (q1 : Addr) (m : MethodId) : entryFrame m #[.ref q1] 2 = mkF m 0 #[.val (.ref q1), .unset] [] := by
  first | (simp [entryFrame, mkF, argsToLocals, Value.category]; done) | rfl
set_option maxRecDepth 65536 in
set_option maxHeartbeats 40000000 in
theorem rmTE (l : Launch) (Z : State) (a0 : Array Value) (hw : ∀ d ∈ tables_1, d.before a0 Z = true) (ws : List Jvm.Cond) (q1 : Addr) (h0 : Heap) (n0 : Nat) (E_q1 : Exa Z h0 q1 "java/util/TreeMap") (F_q1_modCount : Fld Z h0 q1 "java/util/TreeMap" "modCount" "I" (.int (0 : Int32))) (F_q1_entrySet : Fld Z h0 q1 "java/util/TreeMap" "entrySet" "Ljava/util/TreeMap$EntrySet;" (.null)) (F_q1_root : Fld Z h0 q1 "java/util/TreeMap" "root" "Ljava/util/TreeMap$Entry;" (.null)) (g_a : n0 ≤ q1) (Z0 : n0 ≤ h0.size) :
    Ctr l Z ({ cls := "java/util/TreeMap", name := "entrySet", desc := "()Ljava/util/Set;" } : Jvm.MethodName) jdk_2729_method_53_code 2 (some (.object "java/util/Set")) ws ({ frames := 4, cells := 1, slots := 1, locals := 51 } : Room) #[.ref q1] h0 (fun v h L => ∃ b : Addr, v = some (.ref b) ∧ Fr n0 L ∧ Keep h0 h [q1] ∧ h0.size ≤ b ∧ Exa Z h b "java/util/TreeMap$EntrySet" ∧ Fld Z h b "java/util/TreeMap$EntrySet" "this$0" "Ljava/util/TreeMap;" (.ref q1) ∧ Exa Z h q1 "java/util/TreeMap" ∧ Fld Z h q1 "java/util/TreeMap" "root" "Ljava/util/TreeMap$Entry;" (.null) ∧ Fld Z h q1 "java/util/TreeMap" "modCount" "I" (.int (0 : Int32))) := by
  refine Ctr.enter (Ls := #[.val (.ref q1), .unset]) (by decide +kernel) (fun m => ef_rmTE q1 m) ?_
  intro p e s m below meth c T hx hby hml hown hnm hret hlk hZ hh X0 e0
  have N0 := Fr.nil n0
  refine g_aloadN X0 hx hby d8_0 (pc' := 1) rfl rfl rfl ?_
  refine g_get X0 hx hZ hown hby d8_1 (pc' := 4) rfl (w_70 hw) e0 F_q1_entrySet ?_
  intro T1 X1 e1
  refine g_astoreN X1 hx hby d8_4 (pc' := 5) rfl rfl (l' := #[.val (.ref q1), .val (.null)]) rfl ?_
  refine g_aloadN X1 hx hby d8_5 (pc' := 6) rfl rfl rfl ?_
  refine g_ifnull_yes X1 hx hby d8_6 (by decide) (pc' := 13) (by decide) ?_
  refine g_aloadN X1 hx hby d8_13 (pc' := 14) rfl rfl rfl ?_
  refine g_new X1 hx hZ hown hby d8_14 (pc' := 17) rfl (w_72 hw) (w_73 hw) (w_74 hw) e1 (by decide) (by decide) ?_
  intro T2 b2 hb2 X2 E2 A2 D2
  have E2_q1 := E_q1.ext E2
  have ne2_q1 : q1 ≠ b2 := hb2 ▸ Nat.ne_of_lt E_q1.lt
  have F2_q1_modCount := F_q1_modCount.ext E2
  have F2_q1_entrySet := F_q1_entrySet.ext E2
  have F2_q1_root := F_q1_root.ext E2
  have Z2 := Nat.le_trans Z0 E2.1
  have K2 := (Keep.refl h0 [q1]).ext E2
  have F2_this0 : Fld Z T2.heap b2 "java/util/TreeMap$EntrySet" "this$0" "Ljava/util/TreeMap;" (.null) := D2 (Or.inr (w_80 hw)) (ty := (.object "java/util/TreeMap")) (by decide)
  refine g_dup X2 hx hby d8_17 (pc' := 18) rfl rfl ?_
  refine g_aloadN X2 hx hby d8_18 (pc' := 19) rfl rfl rfl ?_
  refine g_callI X2 hx hZ hown (W := 2) (argsL := [.ref q1]) (b := b2) (rest := [.ref b2, .ref q1]) hby d8_19 (pc' := 22) rfl (by rw [hml]; rfl) (w_75 hw) (w_76 hw) (w_74 hw) (w_78 hw) rfl (by decide) (rmSI l Z a0 hw [] b2 q1 T2.heap n0 _ A2 F2_this0 (Nat.le_trans Z0 (Nat.le_of_eq hb2.symm))) rfl (by decide) (by decide) (by decide) (by decide) rfl pd__28Ljava_2futil_2fTreeMap_3b_29V rfl rfl (Nat.le_of_eq rfl) ?_
  rintro _ T3 L3 X3 ⟨rfl, N3q, K3, Ei3, Fi3⟩
  have N3 := Fr.app N0 N3q
  have E3_q1 := E2_q1.keep K3
  have F3_q1_modCount := F2_q1_modCount.keep K3 (ninS ne2_q1 nin0)
  have F3_q1_entrySet := F2_q1_entrySet.keep K3 (ninS ne2_q1 nin0)
  have F3_q1_root := F2_q1_root.keep K3 (ninS ne2_q1 nin0)
  have Z3 := Nat.le_trans Z2 K3.1
  have K3t := K2.trans K3 (allS (Or.inr (Nat.le_trans (Keep.refl h0 [q1]).1 (Nat.le_of_eq hb2.symm))) all0)
  have E3_b2 := A2.keep K3
  show GoE p e below _ (T3.setTop (mkF m 22 #[.val (.ref q1), .val (.null)] [.ref b2, .ref q1]))
  refine g_dup_x1 X3 hx hby d8_22 (pc' := 23) rfl rfl rfl ?_
  refine g_put X3 hx hZ hown hby d8_23 (pc' := 26) rfl (w_70 hw) rfl F3_q1_entrySet E3_q1 (Or.inl (w_71 hw)) (w_37 hw) (ty := (.object "java/util/TreeMap$EntrySet")) (by decide) rfl rfl ?_
  intro T4 X4 W4
  have N4 := Fr.snoc X4 N3 g_a
  have E4_q1 := E3_q1.wr W4
  have F4_q1_modCount := F3_q1_modCount.other W4 (Or.inr (slot_ne (Or.inl (w_52 hw)) (Or.inl (w_71 hw)) (by decide) (t := .int) (t' := (.object "java/util/TreeMap$EntrySet")) (by decide) (by decide)))
  have F4_q1_entrySet := F3_q1_entrySet.same W4
  have F4_q1_root := F3_q1_root.other W4 (Or.inr (slot_ne (Or.inl (w_112 hw)) (Or.inl (w_71 hw)) (by decide) (t := (.object "java/util/TreeMap$Entry")) (t' := (.object "java/util/TreeMap$EntrySet")) (by decide) (by decide)))
  have Z4 : n0 ≤ T4.heap.size := (W4.size ▸ Z3)
  have K4 := K3t.wr W4 (Or.inl (List.mem_of_getElem? (i := 0) rfl))
  have E4_b2 := Ei3.wr W4
  have F4_b2_this0 := Fi3.other W4 (Or.inl ne2_q1.symm)
  exact g_retA (Q := (fun v h L => ∃ b : Addr, v = some (.ref b) ∧ Fr n0 L ∧ Keep h0 h [q1] ∧ h0.size ≤ b ∧ Exa Z h b "java/util/TreeMap$EntrySet" ∧ Fld Z h b "java/util/TreeMap$EntrySet" "this$0" "Ljava/util/TreeMap;" (.ref q1) ∧ Exa Z h q1 "java/util/TreeMap" ∧ Fld Z h q1 "java/util/TreeMap" "root" "Ljava/util/TreeMap$Entry;" (.null) ∧ Fld Z h q1 "java/util/TreeMap" "modCount" "I" (.int (0 : Int32)))) X4 hx hby d8_26 rfl hret rfl hlk (by decide) (by decide) ⟨b2, rfl, N4, K4, (Nat.le_trans (Keep.refl h0 [q1]).1 (Nat.le_of_eq hb2.symm)), E4_b2, F4_b2_this0, E4_q1, F4_q1_root, F4_q1_modCount⟩
theorem ef_rmGF (q1 : Addr) (m : MethodId) : entryFrame m #[.ref q1] 2 = mkF m 0 #[.val (.ref q1), .unset] [] := by
  first | (simp [entryFrame, mkF, argsToLocals, Value.category]; done) | rfl
set_option maxRecDepth 65536 in
set_option maxHeartbeats 40000000 in
theorem rmGF (l : Launch) (Z : State) (a0 : Array Value) (hw : ∀ d ∈ tables_1, d.before a0 Z = true) (ws : List Jvm.Cond) (q1 : Addr) (h0 : Heap) (n0 : Nat) (F_r : Fld Z h0 q1 "java/util/TreeMap" "root" "Ljava/util/TreeMap$Entry;" (.null)) :
    Ctr l Z ({ cls := "java/util/TreeMap", name := "getFirstEntry", desc := "()Ljava/util/TreeMap$Entry;" } : Jvm.MethodName) jdk_2729_method_72_code 2 (some (.object "java/util/TreeMap$Entry")) ws ({ frames := 0, cells := 0, slots := 0, locals := 0 } : Room) #[.ref q1] h0 (fun v h L => v = some (.null) ∧ Fr n0 L ∧ h = h0) := by
  refine Ctr.enter (Ls := #[.val (.ref q1), .unset]) (by decide +kernel) (fun m => ef_rmGF q1 m) ?_
  intro p e s m below meth c T hx hby hml hown hnm hret hlk hZ hh X0 e0
  have N0 := Fr.nil n0
  refine g_aloadN X0 hx hby d13_0 (pc' := 1) rfl rfl rfl ?_
  refine g_get X0 hx hZ hown hby d13_1 (pc' := 4) rfl (w_111 hw) e0 F_r ?_
  intro T1 X1 e1
  refine g_astoreN X1 hx hby d13_4 (pc' := 5) rfl rfl (l' := #[.val (.ref q1), .val (.null)]) rfl ?_
  refine g_aloadN X1 hx hby d13_5 (pc' := 6) rfl rfl rfl ?_
  refine g_ifnull_yes X1 hx hby d13_6 (by decide) (pc' := 24) (by decide) ?_
  refine g_aloadN X1 hx hby d13_24 (pc' := 25) rfl rfl rfl ?_
  exact g_retA (Q := (fun v h L => v = some (.null) ∧ Fr n0 L ∧ h = h0)) X1 hx hby d13_25 rfl hret rfl hlk (by decide) (by decide) ⟨rfl, N0, e1⟩
theorem ef_rmPE (q1 : Addr) (q2 : Addr) (m : MethodId) : entryFrame m #[.ref q1, .ref q2, .null] 3 = mkF m 0 #[.val (.ref q1), .val (.ref q2), .val (.null)] [] := by
  first | (simp [entryFrame, mkF, argsToLocals, Value.category]; done) | rfl
set_option maxRecDepth 65536 in
set_option maxHeartbeats 40000000 in
theorem rmPE (l : Launch) (Z : State) (a0 : Array Value) (hw : ∀ d ∈ tables_1, d.before a0 Z = true) (ws : List Jvm.Cond) (q1 : Addr) (q2 : Addr) (h0 : Heap) (n0 : Nat) (w0 w1 w2 w3 : Value) (E_q1 : Exa Z h0 q1 "java/util/TreeMap$EntryIterator") (F_q1_this0 : Fld Z h0 q1 "java/util/TreeMap$PrivateEntryIterator" "this$0" "Ljava/util/TreeMap;" (w0)) (F_q1_expectedModCount : Fld Z h0 q1 "java/util/TreeMap$PrivateEntryIterator" "expectedModCount" "I" (w1)) (F_q1_lastReturned : Fld Z h0 q1 "java/util/TreeMap$PrivateEntryIterator" "lastReturned" "Ljava/util/TreeMap$Entry;" (w2)) (F_q1_next : Fld Z h0 q1 "java/util/TreeMap$PrivateEntryIterator" "next" "Ljava/util/TreeMap$Entry;" (w3)) (F_m : Fld Z h0 q2 "java/util/TreeMap" "modCount" "I" (.int (0 : Int32))) (n_q : q2 ≠ q1) (g_a : n0 ≤ q1) :
    Ctr l Z ({ cls := "java/util/TreeMap$PrivateEntryIterator", name := "<init>", desc := "(Ljava/util/TreeMap;Ljava/util/TreeMap$Entry;)V" } : Jvm.MethodName) jdk_2750_method_1_code 3 none ws ({ frames := 1, cells := 0, slots := 0, locals := 12 } : Room) #[.ref q1, .ref q2, .null] h0 (fun v h L => v = none ∧ Fr n0 L ∧ Keep h0 h [q1] ∧ Exa Z h q1 "java/util/TreeMap$EntryIterator" ∧ Fld Z h q1 "java/util/TreeMap$PrivateEntryIterator" "next" "Ljava/util/TreeMap$Entry;" (.null)) := by
  refine Ctr.enter (Ls := #[.val (.ref q1), .val (.ref q2), .val (.null)]) (by decide +kernel) (fun m => ef_rmPE q1 q2 m) ?_
  intro p e s m below meth c T hx hby hml hown hnm hret hlk hZ hh X0 e0
  have N0 := Fr.nil n0
  refine g_aloadN X0 hx hby d15_0 (pc' := 1) rfl rfl rfl ?_
  refine g_aloadN X0 hx hby d15_1 (pc' := 2) rfl rfl rfl ?_
  refine g_put X0 hx hZ hown hby d15_2 (pc' := 5) rfl (w_123 hw) e0 F_q1_this0 E_q1 (Or.inr ⟨(w_124 hw), rfl, hnm⟩) (w_104 hw) (ty := (.object "java/util/TreeMap")) (by decide) rfl rfl ?_
  intro T1 X1 W1
  have N1 := Fr.snoc X1 N0 g_a
  have E1_q1 := E_q1.wr W1
  have F1_q1_this0 := F_q1_this0.same W1
  have F1_q1_expectedModCount := F_q1_expectedModCount.other W1 (Or.inr (slot_ne (Or.inl (w_128 hw)) (Or.inr (w_124 hw)) (by decide) (t := .int) (t' := (.object "java/util/TreeMap")) (by decide) (by decide)))
  have F1_q1_lastReturned := F_q1_lastReturned.other W1 (Or.inr (slot_ne (Or.inl (w_130 hw)) (Or.inr (w_124 hw)) (by decide) (t := (.object "java/util/TreeMap$Entry")) (t' := (.object "java/util/TreeMap")) (by decide) (by decide)))
  have F1_q1_next := F_q1_next.other W1 (Or.inr (slot_ne (Or.inl (w_132 hw)) (Or.inr (w_124 hw)) (by decide) (t := (.object "java/util/TreeMap$Entry")) (t' := (.object "java/util/TreeMap")) (by decide) (by decide)))
  have K1 := (Keep.refl h0 [q1]).wr W1 (Or.inl (List.mem_of_getElem? (i := 0) rfl))
  have F1_q2_modCount := F_m.other W1 (Or.inl n_q)
  refine g_aloadN X1 hx hby d15_5 (pc' := 6) rfl rfl rfl ?_
  obtain ⟨T2, X2, e2, st2⟩ := initO X1 hx hZ hown (w_125 hw) (w_8 hw) (w_9 hw) rfl (g := (mkF m 6 #[.val (.ref q1), .val (.ref q2), .val (.null)] [.ref q1])) rfl (by rw [hml]; rfl) rfl (hb hby d15_6) (by decide) (W := 0) (by show 2 * 0 + _ ≤ _; exact Nat.le_of_eq rfl) (by decide)
  refine GoE.pull (b := T2.setTop (mkF m 9 #[.val (.ref q1), .val (.ref q2), .val (.null)] [])) ?_ st2
  refine g_aloadN X2 hx hby d15_9 (pc' := 10) rfl rfl rfl ?_
  refine g_aloadN X2 hx hby d15_10 (pc' := 11) rfl rfl rfl ?_
  refine g_getR X2 hx hZ hown hby d15_11 (pc' := 14) rfl (w_126 hw) e2 F1_q2_modCount ?_
  refine g_put X2 hx hZ hown hby d15_14 (pc' := 17) rfl (w_127 hw) e2 F1_q1_expectedModCount E1_q1 (Or.inl (w_128 hw)) (w_104 hw) (ty := .int) (by decide) rfl rfl ?_
  intro T3 X3 W3
  have N3 := Fr.snoc X3 N1 g_a
  have E3_q1 := E1_q1.wr W3
  have F3_q1_this0 := F1_q1_this0.other W3 (Or.inr (slot_ne (Or.inr (w_124 hw)) (Or.inl (w_128 hw)) (by decide) (t := (.object "java/util/TreeMap")) (t' := .int) (by decide) (by decide)))
  have F3_q1_expectedModCount := F1_q1_expectedModCount.same W3
  have F3_q1_lastReturned := F1_q1_lastReturned.other W3 (Or.inr (slot_ne (Or.inl (w_130 hw)) (Or.inl (w_128 hw)) (by decide) (t := (.object "java/util/TreeMap$Entry")) (t' := .int) (by decide) (by decide)))
  have F3_q1_next := F1_q1_next.other W3 (Or.inr (slot_ne (Or.inl (w_132 hw)) (Or.inl (w_128 hw)) (by decide) (t := (.object "java/util/TreeMap$Entry")) (t' := .int) (by decide) (by decide)))
  have K3 := K1.wr W3 (Or.inl (List.mem_of_getElem? (i := 0) rfl))
  have F3_q2_modCount := F1_q2_modCount.other W3 (Or.inl n_q)
  refine g_aloadN X3 hx hby d15_17 (pc' := 18) rfl rfl rfl ?_
  refine g_aconstNull X3 hx hby d15_18 (pc' := 19) rfl ?_
  refine g_put X3 hx hZ hown hby d15_19 (pc' := 22) rfl (w_129 hw) rfl F3_q1_lastReturned E3_q1 (Or.inl (w_130 hw)) (w_104 hw) (ty := (.object "java/util/TreeMap$Entry")) (by decide) rfl rfl ?_
  intro T4 X4 W4
  have N4 := Fr.snoc X4 N3 g_a
  have E4_q1 := E3_q1.wr W4
  have F4_q1_this0 := F3_q1_this0.other W4 (Or.inr (slot_ne (Or.inr (w_124 hw)) (Or.inl (w_130 hw)) (by decide) (t := (.object "java/util/TreeMap")) (t' := (.object "java/util/TreeMap$Entry")) (by decide) (by decide)))
  have F4_q1_expectedModCount := F3_q1_expectedModCount.other W4 (Or.inr (slot_ne (Or.inl (w_128 hw)) (Or.inl (w_130 hw)) (by decide) (t := .int) (t' := (.object "java/util/TreeMap$Entry")) (by decide) (by decide)))
  have F4_q1_lastReturned := F3_q1_lastReturned.same W4
  have F4_q1_next := F3_q1_next.other W4 (Or.inr (slot_ne (Or.inl (w_132 hw)) (Or.inl (w_130 hw)) (by decide) (t := (.object "java/util/TreeMap$Entry")) (t' := (.object "java/util/TreeMap$Entry")) (by decide) (by decide)))
  have K4 := K3.wr W4 (Or.inl (List.mem_of_getElem? (i := 0) rfl))
  have F4_q2_modCount := F3_q2_modCount.other W4 (Or.inl n_q)
  refine g_aloadN X4 hx hby d15_22 (pc' := 23) rfl rfl rfl ?_
  refine g_aloadN X4 hx hby d15_23 (pc' := 24) rfl rfl rfl ?_
  refine g_put X4 hx hZ hown hby d15_24 (pc' := 27) rfl (w_131 hw) rfl F4_q1_next E4_q1 (Or.inl (w_132 hw)) (w_104 hw) (ty := (.object "java/util/TreeMap$Entry")) (by decide) rfl rfl ?_
  intro T5 X5 W5
  have N5 := Fr.snoc X5 N4 g_a
  have E5_q1 := E4_q1.wr W5
  have F5_q1_this0 := F4_q1_this0.other W5 (Or.inr (slot_ne (Or.inr (w_124 hw)) (Or.inl (w_132 hw)) (by decide) (t := (.object "java/util/TreeMap")) (t' := (.object "java/util/TreeMap$Entry")) (by decide) (by decide)))
  have F5_q1_expectedModCount := F4_q1_expectedModCount.other W5 (Or.inr (slot_ne (Or.inl (w_128 hw)) (Or.inl (w_132 hw)) (by decide) (t := .int) (t' := (.object "java/util/TreeMap$Entry")) (by decide) (by decide)))
  have F5_q1_lastReturned := F4_q1_lastReturned.other W5 (Or.inr (slot_ne (Or.inl (w_130 hw)) (Or.inl (w_132 hw)) (by decide) (t := (.object "java/util/TreeMap$Entry")) (t' := (.object "java/util/TreeMap$Entry")) (by decide) (by decide)))
  have F5_q1_next := F4_q1_next.same W5
  have K5 := K4.wr W5 (Or.inl (List.mem_of_getElem? (i := 0) rfl))
  have F5_q2_modCount := F4_q2_modCount.other W5 (Or.inl n_q)
  exact g_retV (Q := (fun v h L => v = none ∧ Fr n0 L ∧ Keep h0 h [q1] ∧ Exa Z h q1 "java/util/TreeMap$EntryIterator" ∧ Fld Z h q1 "java/util/TreeMap$PrivateEntryIterator" "next" "Ljava/util/TreeMap$Entry;" (.null))) X5 hx hby d15_27 hret hlk (by decide) (by decide) ⟨rfl, N5, K5, E5_q1, F5_q1_next⟩
theorem ef_rmEI (q1 : Addr) (q2 : Addr) (m : MethodId) : entryFrame m #[.ref q1, .ref q2, .null] 3 = mkF m 0 #[.val (.ref q1), .val (.ref q2), .val (.null)] [] := by
  first | (simp [entryFrame, mkF, argsToLocals, Value.category]; done) | rfl
set_option maxRecDepth 65536 in
set_option maxHeartbeats 40000000 in
theorem rmEI (l : Launch) (Z : State) (a0 : Array Value) (hw : ∀ d ∈ tables_1, d.before a0 Z = true) (ws : List Jvm.Cond) (q1 : Addr) (q2 : Addr) (h0 : Heap) (n0 : Nat) (w0 w1 w2 w3 : Value) (E_q1 : Exa Z h0 q1 "java/util/TreeMap$EntryIterator") (F_q1_this0 : Fld Z h0 q1 "java/util/TreeMap$PrivateEntryIterator" "this$0" "Ljava/util/TreeMap;" (w0)) (F_q1_expectedModCount : Fld Z h0 q1 "java/util/TreeMap$PrivateEntryIterator" "expectedModCount" "I" (w1)) (F_q1_lastReturned : Fld Z h0 q1 "java/util/TreeMap$PrivateEntryIterator" "lastReturned" "Ljava/util/TreeMap$Entry;" (w2)) (F_q1_next : Fld Z h0 q1 "java/util/TreeMap$PrivateEntryIterator" "next" "Ljava/util/TreeMap$Entry;" (w3)) (F_m : Fld Z h0 q2 "java/util/TreeMap" "modCount" "I" (.int (0 : Int32))) (n_q : q2 ≠ q1) (g_a : n0 ≤ q1) :
    Ctr l Z ({ cls := "java/util/TreeMap$EntryIterator", name := "<init>", desc := "(Ljava/util/TreeMap;Ljava/util/TreeMap$Entry;)V" } : Jvm.MethodName) jdk_2737_method_1_code 3 none ws ({ frames := 2, cells := 0, slots := 0, locals := 26 } : Room) #[.ref q1, .ref q2, .null] h0 (fun v h L => v = none ∧ Fr n0 L ∧ Keep h0 h [q1] ∧ Exa Z h q1 "java/util/TreeMap$EntryIterator" ∧ Fld Z h q1 "java/util/TreeMap$PrivateEntryIterator" "next" "Ljava/util/TreeMap$Entry;" (.null)) := by
  refine Ctr.enter (Ls := #[.val (.ref q1), .val (.ref q2), .val (.null)]) (by decide +kernel) (fun m => ef_rmEI q1 q2 m) ?_
  intro p e s m below meth c T hx hby hml hown hnm hret hlk hZ hh X0 e0
  have N0 := Fr.nil n0
  refine g_aloadN X0 hx hby d14_0 (pc' := 1) rfl rfl rfl ?_
  refine g_aloadN X0 hx hby d14_1 (pc' := 2) rfl rfl rfl ?_
  refine g_aloadN X0 hx hby d14_2 (pc' := 3) rfl rfl rfl ?_
  refine g_callI X0 hx hZ hown (W := 0) (argsL := [.ref q2, .null]) (b := q1) (rest := []) hby d14_3 (pc' := 6) rfl (by rw [hml]; rfl) (w_117 hw) (w_118 hw) (w_121 hw) (w_122 hw) rfl (by decide) (rmPE l Z a0 hw [] q1 q2 h0 n0 _ _ _ _ E_q1 F_q1_this0 F_q1_expectedModCount F_q1_lastReturned F_q1_next F_m n_q g_a) e0 (by decide) (by decide) (by decide) (by decide) rfl pd__28Ljava_2futil_2fTreeMap_3bLjava_2futil_2fTreeMap_24Entry_3b_29V rfl rfl (Nat.le_of_eq rfl) ?_
  rintro _ T1 L1 X1 ⟨rfl, N1q, K1, Ei1, Fi1⟩
  have N1 := Fr.app N0 N1q
  have E1_q1 := E_q1.keep K1
  have K1t := (Keep.refl h0 [q1]).trans K1 (allS (Or.inl (List.mem_of_getElem? (i := 0) rfl)) all0)
  have F1_q2_modCount := F_m.keep K1 (ninS n_q nin0)
  show GoE p e below _ (T1.setTop (mkF m 6 #[.val (.ref q1), .val (.ref q2), .val (.null)] []))
  exact g_retV (Q := (fun v h L => v = none ∧ Fr n0 L ∧ Keep h0 h [q1] ∧ Exa Z h q1 "java/util/TreeMap$EntryIterator" ∧ Fld Z h q1 "java/util/TreeMap$PrivateEntryIterator" "next" "Ljava/util/TreeMap$Entry;" (.null))) X1 hx hby d14_6 hret hlk (by decide) (by decide) ⟨rfl, N1, K1t, Ei1, Fi1⟩
theorem ef_rmIT (q1 : Addr) (m : MethodId) : entryFrame m #[.ref q1] 1 = mkF m 0 #[.val (.ref q1)] [] := by
  first | (simp [entryFrame, mkF, argsToLocals, Value.category]; done) | rfl
set_option maxRecDepth 65536 in
set_option maxHeartbeats 40000000 in
theorem rmIT (l : Launch) (Z : State) (a0 : Array Value) (hw : ∀ d ∈ tables_1, d.before a0 Z = true) (ws : List Jvm.Cond) (q1 : Addr) (h0 : Heap) (n0 : Nat) (t : Addr) (E_q1 : Exa Z h0 q1 "java/util/TreeMap$EntrySet") (F_t : Fld Z h0 q1 "java/util/TreeMap$EntrySet" "this$0" "Ljava/util/TreeMap;" (.ref t)) (E_t : Exa Z h0 t "java/util/TreeMap") (F_t_root : Fld Z h0 t "java/util/TreeMap" "root" "Ljava/util/TreeMap$Entry;" (.null)) (F_t_modCount : Fld Z h0 t "java/util/TreeMap" "modCount" "I" (.int (0 : Int32))) (Z0 : n0 ≤ h0.size) :
    Ctr l Z ({ cls := "java/util/TreeMap$EntrySet", name := "iterator", desc := "()Ljava/util/Iterator;" } : Jvm.MethodName) jdk_2738_method_2_code 1 (some (.object "java/util/Iterator")) ws ({ frames := 3, cells := 1, slots := 4, locals := 41 } : Room) #[.ref q1] h0 (fun v h L => ∃ b : Addr, v = some (.ref b) ∧ Fr n0 L ∧ Keep h0 h [] ∧ h0.size ≤ b ∧ Exa Z h b "java/util/TreeMap$EntryIterator" ∧ Fld Z h b "java/util/TreeMap$PrivateEntryIterator" "next" "Ljava/util/TreeMap$Entry;" (.null)) := by
  refine Ctr.enter (Ls := #[.val (.ref q1)]) (by decide +kernel) (fun m => ef_rmIT q1 m) ?_
  intro p e s m below meth c T hx hby hml hown hnm hret hlk hZ hh X0 e0
  have N0 := Fr.nil n0
  refine g_new X0 hx hZ hown hby d12_0 (pc' := 3) rfl (w_103 hw) (w_104 hw) (w_105 hw) e0 (by decide) (by decide) ?_
  intro T1 b1 hb1 X1 E1 A1 D1
  have F1_q1_this0 := F_t.ext E1
  have E1_q1 := E_q1.ext E1
  have ne1_q1 : q1 ≠ b1 := hb1 ▸ Nat.ne_of_lt E_q1.lt
  have E1_t := E_t.ext E1
  have ne1_t : t ≠ b1 := hb1 ▸ Nat.ne_of_lt E_t.lt
  have F1_t_root := F_t_root.ext E1
  have F1_t_modCount := F_t_modCount.ext E1
  have Z1 := Nat.le_trans Z0 E1.1
  have K1 := (Keep.refl h0 []).ext E1
  have F1_expectedModCount : Fld Z T1.heap b1 "java/util/TreeMap$PrivateEntryIterator" "expectedModCount" "I" (.int (0 : Int32)) := D1 (Or.inl (w_128 hw)) (ty := .int) (by decide)
  have F1_lastReturned : Fld Z T1.heap b1 "java/util/TreeMap$PrivateEntryIterator" "lastReturned" "Ljava/util/TreeMap$Entry;" (.null) := D1 (Or.inl (w_130 hw)) (ty := (.object "java/util/TreeMap$Entry")) (by decide)
  have F1_next : Fld Z T1.heap b1 "java/util/TreeMap$PrivateEntryIterator" "next" "Ljava/util/TreeMap$Entry;" (.null) := D1 (Or.inl (w_132 hw)) (ty := (.object "java/util/TreeMap$Entry")) (by decide)
  have F1_this0 : Fld Z T1.heap b1 "java/util/TreeMap$PrivateEntryIterator" "this$0" "Ljava/util/TreeMap;" (.null) := D1 (Or.inr (w_124 hw)) (ty := (.object "java/util/TreeMap")) (by decide)
  refine g_dup X1 hx hby d12_3 (pc' := 4) rfl rfl ?_
  refine g_aloadN X1 hx hby d12_4 (pc' := 5) rfl rfl rfl ?_
  refine g_get X1 hx hZ hown hby d12_5 (pc' := 8) rfl (w_79 hw) rfl F1_q1_this0 ?_
  intro T2 X2 e2
  refine g_aloadN X2 hx hby d12_8 (pc' := 9) rfl rfl rfl ?_
  refine g_get X2 hx hZ hown hby d12_9 (pc' := 12) rfl (w_79 hw) e2 F1_q1_this0 ?_
  intro T3 X3 e3
  refine g_callV X3 hx hZ hown (W := 3) (argsL := []) (b := t) (rest := [.ref t, .ref b1, .ref b1]) hby d12_12 (pc' := 15) rfl (by rw [hml]; rfl) (w_106 hw) (w_107 hw) (w_109 hw) (notFace_of_selects (args := #[]) (mvT hZ (w_109 hw))) (w_108 hw) (w_38 hw) (w_110 hw) (by decide) (rmGF l Z a0 hw [] t T1.heap n0 F1_t_root) e3 E1_t (by decide) (by decide) (by decide) (by decide) rfl pd__28_29Ljava_2futil_2fTreeMap_24Entry_3b rfl rfl (Nat.le_of_eq rfl) ?_
  rintro _ T4 L4 X4 ⟨rfl, N4q, e4⟩
  have N4 := Fr.app N0 N4q
  show GoE p e below _ (T4.setTop (mkF m 15 #[.val (.ref q1)] [.null, .ref t, .ref b1, .ref b1]))
  refine g_callI X4 hx hZ hown (W := 1) (argsL := [.ref t, .null]) (b := b1) (rest := [.ref b1]) hby d12_15 (pc' := 18) rfl (by rw [hml]; rfl) (w_113 hw) (w_114 hw) (w_105 hw) (w_116 hw) rfl (by decide) (rmEI l Z a0 hw [] b1 t T1.heap n0 _ _ _ _ A1 F1_this0 F1_expectedModCount F1_lastReturned F1_next F1_t_modCount ne1_t (Nat.le_trans Z0 (Nat.le_of_eq hb1.symm))) e4 (by decide) (by decide) (by decide) (by decide) rfl pd__28Ljava_2futil_2fTreeMap_3bLjava_2futil_2fTreeMap_24Entry_3b_29V rfl rfl (Nat.le_of_eq rfl) ?_
  rintro _ T5 L5 X5 ⟨rfl, N5q, K5, Ei5, Fi5⟩
  have N5 := Fr.app N4 N5q
  have F5_q1_this0 := F1_q1_this0.keep K5 (ninS ne1_q1 nin0)
  have E5_q1 := E1_q1.keep K5
  have E5_t := E1_t.keep K5
  have F5_t_root := F1_t_root.keep K5 (ninS ne1_t nin0)
  have F5_t_modCount := F1_t_modCount.keep K5 (ninS ne1_t nin0)
  have Z5 := Nat.le_trans Z1 K5.1
  have K5t := K1.trans K5 (allS (Or.inr (Nat.le_trans (Keep.refl h0 []).1 (Nat.le_of_eq hb1.symm))) all0)
  have E5_b1 := A1.keep K5
  show GoE p e below _ (T5.setTop (mkF m 18 #[.val (.ref q1)] [.ref b1]))
  exact g_retA (Q := (fun v h L => ∃ b : Addr, v = some (.ref b) ∧ Fr n0 L ∧ Keep h0 h [] ∧ h0.size ≤ b ∧ Exa Z h b "java/util/TreeMap$EntryIterator" ∧ Fld Z h b "java/util/TreeMap$PrivateEntryIterator" "next" "Ljava/util/TreeMap$Entry;" (.null))) X5 hx hby d12_18 rfl hret rfl hlk (by decide) (by decide) ⟨b1, rfl, N5, K5t, (Nat.le_trans (Keep.refl h0 []).1 (Nat.le_of_eq hb1.symm)), Ei5, Fi5⟩
theorem ef_rmHN (q1 : Addr) (m : MethodId) : entryFrame m #[.ref q1] 1 = mkF m 0 #[.val (.ref q1)] [] := by
  first | (simp [entryFrame, mkF, argsToLocals, Value.category]; done) | rfl
set_option maxRecDepth 65536 in
set_option maxHeartbeats 40000000 in
theorem rmHN (l : Launch) (Z : State) (a0 : Array Value) (hw : ∀ d ∈ tables_1, d.before a0 Z = true) (ws : List Jvm.Cond) (q1 : Addr) (h0 : Heap) (n0 : Nat) (F_n : Fld Z h0 q1 "java/util/TreeMap$PrivateEntryIterator" "next" "Ljava/util/TreeMap$Entry;" (.null)) :
    Ctr l Z ({ cls := "java/util/TreeMap$PrivateEntryIterator", name := "hasNext", desc := "()Z" } : Jvm.MethodName) jdk_2750_method_2_code 1 (some .boolean) ws ({ frames := 0, cells := 0, slots := 0, locals := 0 } : Room) #[.ref q1] h0 (fun v h L => v = some (.int (0 : Int32)) ∧ Fr n0 L ∧ h = h0) := by
  refine Ctr.enter (Ls := #[.val (.ref q1)]) (by decide +kernel) (fun m => ef_rmHN q1 m) ?_
  intro p e s m below meth c T hx hby hml hown hnm hret hlk hZ hh X0 e0
  have N0 := Fr.nil n0
  refine g_aloadN X0 hx hby d16_0 (pc' := 1) rfl rfl rfl ?_
  refine g_get X0 hx hZ hown hby d16_1 (pc' := 4) rfl (w_131 hw) e0 F_n ?_
  intro T1 X1 e1
  refine g_ifnull_yes X1 hx hby d16_4 (by decide) (pc' := 11) (by decide) ?_
  refine g_iconst X1 hx hby d16_11 (pc' := 12) rfl (z := (0 : Int32)) rfl ?_
  exact g_retN (Q := (fun v h L => v = some (.int (0 : Int32)) ∧ Fr n0 L ∧ h = h0)) (w := (0 : Int32)) X1 hx hby d16_12 hret (by simp) (by first | decide | rfl) hlk (by decide) (by decide) ⟨rfl, N0, e1⟩
theorem ef_rmUI (q1 : Addr) (q2 : Addr) (m : MethodId) : entryFrame m #[.ref q1, .ref q2] 2 = mkF m 0 #[.val (.ref q1), .val (.ref q2)] [] := by
  first | (simp [entryFrame, mkF, argsToLocals, Value.category]; done) | rfl
set_option maxRecDepth 65536 in
set_option maxHeartbeats 40000000 in
theorem rmUI (l : Launch) (Z : State) (a0 : Array Value) (hw : ∀ d ∈ tables_1, d.before a0 Z = true) (ws : List Jvm.Cond) (q1 : Addr) (q2 : Addr) (h0 : Heap) (n0 : Nat) (w1 : Value) (E_q1 : Exa Z h0 q1 "java/util/Collections$UnmodifiableMap") (F_q1_m : Fld Z h0 q1 "java/util/Collections$UnmodifiableMap" "m" "Ljava/util/Map;" (w1)) (g_a : n0 ≤ q1) :
    Ctr l Z ({ cls := "java/util/Collections$UnmodifiableMap", name := "<init>", desc := "(Ljava/util/Map;)V" } : Jvm.MethodName) jdk_2500_method_1_code 2 none ws ({ frames := 1, cells := 0, slots := 0, locals := 12 } : Room) #[.ref q1, .ref q2] h0 (fun v h L => v = none ∧ Fr n0 L ∧ Keep h0 h [q1] ∧ Exa Z h q1 "java/util/Collections$UnmodifiableMap") := by
  refine Ctr.enter (Ls := #[.val (.ref q1), .val (.ref q2)]) (by decide +kernel) (fun m => ef_rmUI q1 q2 m) ?_
  intro p e s m below meth c T hx hby hml hown hnm hret hlk hZ hh X0 e0
  have N0 := Fr.nil n0
  refine g_aloadN X0 hx hby d18_0 (pc' := 1) rfl rfl rfl ?_
  obtain ⟨T1, X1, e1, st1⟩ := initO X0 hx hZ hown (w_164 hw) (w_8 hw) (w_9 hw) e0 (g := (mkF m 1 #[.val (.ref q1), .val (.ref q2)] [.ref q1])) rfl (by rw [hml]; rfl) rfl (hb hby d18_1) (by decide) (W := 0) (by show 2 * 0 + _ ≤ _; exact Nat.le_of_eq rfl) (by decide)
  refine GoE.pull (b := T1.setTop (mkF m 4 #[.val (.ref q1), .val (.ref q2)] [])) ?_ st1
  refine g_aloadN X1 hx hby d18_4 (pc' := 5) rfl rfl rfl ?_
  refine g_ifnonnull_yes X1 hx hby d18_5 (by decide) (pc' := 16) (by decide) ?_
  refine g_aloadN X1 hx hby d18_16 (pc' := 17) rfl rfl rfl ?_
  refine g_aloadN X1 hx hby d18_17 (pc' := 18) rfl rfl rfl ?_
  refine g_put X1 hx hZ hown hby d18_18 (pc' := 21) rfl (w_165 hw) e1 F_q1_m E_q1 (Or.inr ⟨(w_166 hw), rfl, hnm⟩) (w_159 hw) (ty := (.object "java/util/Map")) (by decide) rfl rfl ?_
  intro T2 X2 W2
  have N2 := Fr.snoc X2 N0 g_a
  have E2_q1 := E_q1.wr W2
  have F2_q1_m := F_q1_m.same W2
  have K2 := (Keep.refl h0 [q1]).wr W2 (Or.inl (List.mem_of_getElem? (i := 0) rfl))
  exact g_retV (Q := (fun v h L => v = none ∧ Fr n0 L ∧ Keep h0 h [q1] ∧ Exa Z h q1 "java/util/Collections$UnmodifiableMap")) X2 hx hby d18_21 hret hlk (by decide) (by decide) ⟨rfl, N2, K2, E2_q1⟩
theorem ef_rmUM (q1 : Addr) (m : MethodId) : entryFrame m #[.ref q1] 1 = mkF m 0 #[.val (.ref q1)] [] := by
  first | (simp [entryFrame, mkF, argsToLocals, Value.category]; done) | rfl
set_option maxRecDepth 65536 in
set_option maxHeartbeats 40000000 in
theorem rmUM (l : Launch) (Z : State) (a0 : Array Value) (hw : ∀ d ∈ tables_1, d.before a0 Z = true) (ws : List Jvm.Cond) (q1 : Addr) (h0 : Heap) (n0 : Nat) (mT mU : Addr) (M_T : Mir Z "java/util/TreeMap" mT) (M_U : Mir Z "java/util/Collections$UnmodifiableMap" mU) (E_q1 : Exa Z h0 q1 "java/util/TreeMap") (Z0 : n0 ≤ h0.size) :
    Ctr l Z ({ cls := "java/util/Collections", name := "unmodifiableMap", desc := "(Ljava/util/Map;)Ljava/util/Map;" } : Jvm.MethodName) jdk_79_method_36_code 1 (some (.object "java/util/Map")) ws ({ frames := 2, cells := 1, slots := 4, locals := 26 } : Room) #[.ref q1] h0 (fun v h L => ∃ b : Addr, v = some (.ref b) ∧ Fr n0 L ∧ Keep h0 h [] ∧ h0.size ≤ b ∧ Exa Z h b "java/util/Collections$UnmodifiableMap") := by
  refine Ctr.enter (Ls := #[.val (.ref q1)]) (by decide +kernel) (fun m => ef_rmUM q1 m) ?_
  intro p e s m below meth c T hx hby hml hown hnm hret hlk hZ hh X0 e0
  have N0 := Fr.nil n0
  refine g_aloadN X0 hx hby d17_0 (pc' := 1) rfl rfl rfl ?_
  refine g_getClassI X0 hx hZ hown (W := 0) hby d17_1 (pc' := 6) rfl (by rw [hml]; rfl) (w_148 hw) (w_149 hw) (w_150 hw) (w_151 hw) (w_152 hw) (w_153 hw) (w_154 hw) (w_68 hw) (w_155 hw) (by decide) (by decide) rfl rfl e0 E_q1 M_T (by decide) (Nat.le_of_eq rfl) (by decide) ?_
  intro T1 X1 e1
  refine g_ldcM X1 hx hZ hown hby d17_6 (pc' := 8) rfl (w_157 hw) e1 M_U ?_
  intro T2 X2 e2
  refine g_acmp_yes X2 hx hby d17_8 (by decide) (pc' := 13) (by decide) rfl rfl (by simp [Jvm.Free.XT.acmp, (M_T.ne M_U (by decide))]) ?_
  refine g_new X2 hx hZ hown hby d17_13 (pc' := 16) rfl (w_157 hw) (w_159 hw) (w_160 hw) e2 (by decide) (by decide) ?_
  intro T3 b3 hb3 X3 E3 A3 D3
  have E3_q1 := E_q1.ext E3
  have ne3_q1 : q1 ≠ b3 := hb3 ▸ Nat.ne_of_lt E_q1.lt
  have Z3 := Nat.le_trans Z0 E3.1
  have K3 := (Keep.refl h0 []).ext E3
  have F3_m : Fld Z T3.heap b3 "java/util/Collections$UnmodifiableMap" "m" "Ljava/util/Map;" (.null) := D3 (Or.inr (w_166 hw)) (ty := (.object "java/util/Map")) (by decide)
  refine g_dup X3 hx hby d17_16 (pc' := 17) rfl rfl ?_
  refine g_aloadN X3 hx hby d17_17 (pc' := 18) rfl rfl rfl ?_
  refine g_callI X3 hx hZ hown (W := 1) (argsL := [.ref q1]) (b := b3) (rest := [.ref b3]) hby d17_18 (pc' := 21) rfl (by rw [hml]; rfl) (w_161 hw) (w_162 hw) (w_160 hw) (w_163 hw) rfl (by decide) (rmUI l Z a0 hw [] b3 q1 T3.heap n0 _ A3 F3_m (Nat.le_trans Z0 (Nat.le_of_eq hb3.symm))) rfl (by decide) (by decide) (by decide) (by decide) rfl pd__28Ljava_2futil_2fMap_3b_29V rfl rfl (Nat.le_of_eq rfl) ?_
  rintro _ T4 L4 X4 ⟨rfl, N4q, K4, Ei4⟩
  have N4 := Fr.app N0 N4q
  have E4_q1 := E3_q1.keep K4
  have Z4 := Nat.le_trans Z3 K4.1
  have K4t := K3.trans K4 (allS (Or.inr (Nat.le_trans (Keep.refl h0 []).1 (Nat.le_of_eq hb3.symm))) all0)
  have E4_b3 := A3.keep K4
  show GoE p e below _ (T4.setTop (mkF m 21 #[.val (.ref q1)] [.ref b3]))
  exact g_retA (Q := (fun v h L => ∃ b : Addr, v = some (.ref b) ∧ Fr n0 L ∧ Keep h0 h [] ∧ h0.size ≤ b ∧ Exa Z h b "java/util/Collections$UnmodifiableMap")) X4 hx hby d17_21 rfl hret rfl hlk (by decide) (by decide) ⟨b3, rfl, N4, K4t, (Nat.le_trans (Keep.refl h0 []).1 (Nat.le_of_eq hb3.symm)), Ei4⟩
theorem ef_rmOC (q1 : Addr) (q2 : Int32) (q3 : Addr) (q4 : Addr) (m : MethodId) : entryFrame m #[.ref q1, .int q2, .ref q3, .ref q4] 7 = mkF m 0 #[.val (.ref q1), .val (.int q2), .val (.ref q3), .val (.ref q4), .unset, .unset, .unset] [] := by
  first | (simp [entryFrame, mkF, argsToLocals, Value.category]; done) | rfl
theorem pn_rmOC : plainName "com/example/libonce/libonce/Outcome" = true := by first | (simp [plainName, overriddenIn]; done) | decide +kernel
set_option maxRecDepth 65536 in
set_option maxHeartbeats 40000000 in
theorem rmOC (l : Launch) (Z : State) (a0 : Array Value) (hw : ∀ d ∈ tables_1, d.before a0 Z = true) (ws : List Jvm.Cond) (q1 : Addr) (q2 : Int32) (q3 : Addr) (q4 : Addr) (h0 : Heap) (n0 : Nat) (mT mU : Addr) (M_T : Mir Z "java/util/TreeMap" mT) (M_U : Mir Z "java/util/Collections$UnmodifiableMap" mU) (w0 w1 w2 dv : Value) (vs : List Value) (kq : ClassId) (E_q1 : Exa Z h0 q1 "com/example/libonce/libonce/Outcome") (F_q1__status : Fld Z h0 q1 "com/example/libonce/libonce/Outcome" "_status" "I" (w0)) (F_q1__attributes : Fld Z h0 q1 "com/example/libonce/libonce/Outcome" "_attributes" "Ljava/util/Map;" (w1)) (F_q1__body : Fld Z h0 q1 "com/example/libonce/libonce/Outcome" "_body" "[B" (w2)) (E_q3 : Exa Z h0 q3 "java/util/TreeMap") (F_q3_modCount : Fld Z h0 q3 "java/util/TreeMap" "modCount" "I" (.int (0 : Int32))) (F_q3_entrySet : Fld Z h0 q3 "java/util/TreeMap" "entrySet" "Ljava/util/TreeMap$EntrySet;" (.null)) (F_q3_root : Fld Z h0 q3 "java/util/TreeMap" "root" "Ljava/util/TreeMap$Entry;" (.null)) (A_q : Arv Z h0 q4 kq .byte (1 : Int32) vs dv) (E_q4 : Exa Z h0 q4 "[B") (n31 : q3 ≠ q1) (n41 : q4 ≠ q1) (n43 : q4 ≠ q3) (g_a : n0 ≤ q1) (g_t : n0 ≤ q3) (Z0 : n0 ≤ h0.size) :
    Ctr l Z ({ cls := "com/example/libonce/libonce/Outcome", name := "<init>", desc := "(ILjava/util/Map;[B)V" } : Jvm.MethodName) prog_8_method_1_code 7 none ws ({ frames := 5, cells := 5, slots := 19, locals := 64 } : Room) #[.ref q1, .int q2, .ref q3, .ref q4] h0 (fun v h L => v = none ∧ Fr n0 L ∧ Keep h0 h [q1, q3] ∧ Exa Z h q1 "com/example/libonce/libonce/Outcome") := by
  refine Ctr.enter (Ls := #[.val (.ref q1), .val (.int q2), .val (.ref q3), .val (.ref q4), .unset, .unset, .unset]) (plainFor_of_name pn_rmOC) (fun m => ef_rmOC q1 q2 q3 q4 m) ?_
  intro p e s m below meth c T hx hby hml hown hnm hret hlk hZ hh X0 e0
  have N0 := Fr.nil n0
  refine g_aloadN X0 hx hby d7_0 (pc' := 1) rfl rfl rfl ?_
  obtain ⟨T1, X1, e1, st1⟩ := initO X0 hx hZ hown (w_58 hw) (w_8 hw) (w_9 hw) e0 (g := (mkF m 1 #[.val (.ref q1), .val (.int q2), .val (.ref q3), .val (.ref q4), .unset, .unset, .unset] [.ref q1])) rfl (by rw [hml]; rfl) rfl (hb hby d7_1) (by decide) (W := 0) (by show 2 * 0 + _ ≤ _; exact Nat.le_of_eq rfl) (by decide)
  refine GoE.pull (b := T1.setTop (mkF m 4 #[.val (.ref q1), .val (.int q2), .val (.ref q3), .val (.ref q4), .unset, .unset, .unset] [])) ?_ st1
  refine g_new X1 hx hZ hown hby d7_4 (pc' := 7) rfl (w_59 hw) (w_37 hw) (w_38 hw) e1 (by decide) (by decide) ?_
  intro T2 b2 hb2 X2 E2 A2 D2
  have E2_q1 := E_q1.ext E2
  have ne2_q1 : q1 ≠ b2 := hb2 ▸ Nat.ne_of_lt E_q1.lt
  have F2_q1__status := F_q1__status.ext E2
  have F2_q1__attributes := F_q1__attributes.ext E2
  have F2_q1__body := F_q1__body.ext E2
  have E2_q3 := E_q3.ext E2
  have ne2_q3 : q3 ≠ b2 := hb2 ▸ Nat.ne_of_lt E_q3.lt
  have F2_q3_modCount := F_q3_modCount.ext E2
  have F2_q3_entrySet := F_q3_entrySet.ext E2
  have F2_q3_root := F_q3_root.ext E2
  have Z2 := Nat.le_trans Z0 E2.1
  have K2 := (Keep.refl h0 [q1, q3]).ext E2
  have A2_q4 := A_q.ext E2
  have ne2_q4 : q4 ≠ b2 := hb2 ▸ Nat.ne_of_lt A_q.lt
  have E2_q4 := E_q4.ext E2
  have F2_size : Fld Z T2.heap b2 "java/util/TreeMap" "size" "I" (.int (0 : Int32)) := D2 (Or.inl (w_50 hw)) (ty := .int) (by decide)
  have F2_modCount : Fld Z T2.heap b2 "java/util/TreeMap" "modCount" "I" (.int (0 : Int32)) := D2 (Or.inl (w_52 hw)) (ty := .int) (by decide)
  have F2_entrySet : Fld Z T2.heap b2 "java/util/TreeMap" "entrySet" "Ljava/util/TreeMap$EntrySet;" (.null) := D2 (Or.inl (w_71 hw)) (ty := (.object "java/util/TreeMap$EntrySet")) (by decide)
  have F2_root : Fld Z T2.heap b2 "java/util/TreeMap" "root" "Ljava/util/TreeMap$Entry;" (.null) := D2 (Or.inl (w_112 hw)) (ty := (.object "java/util/TreeMap$Entry")) (by decide)
  have F2_comparator : Fld Z T2.heap b2 "java/util/TreeMap" "comparator" "Ljava/util/Comparator;" (.null) := D2 (Or.inr (w_54 hw)) (ty := (.object "java/util/Comparator")) (by decide)
  refine g_dup X2 hx hby d7_7 (pc' := 8) rfl rfl ?_
  refine g_callI X2 hx hZ hown (W := 1) (argsL := []) (b := b2) (rest := [.ref b2]) hby d7_8 (pc' := 11) rfl (by rw [hml]; rfl) (w_60 hw) (w_40 hw) (w_38 hw) (w_41 hw) rfl (by decide) (rmTI l Z a0 hw [] b2 T2.heap n0 A2 F2_size F2_modCount F2_comparator F2_entrySet F2_root (Nat.le_trans Z0 (Nat.le_of_eq hb2.symm))) rfl (by decide) (by decide) (by decide) (by decide) rfl pd__28_29V rfl rfl (Nat.le_of_eq rfl) ?_
  rintro _ T3 L3 X3 ⟨rfl, N3q, K3, Ei3, Fi3_size, Fi3_modCount, Fi3_comparator, Fi3_entrySet, Fi3_root⟩
  have N3 := Fr.app N0 N3q
  have E3_q1 := E2_q1.keep K3
  have F3_q1__status := F2_q1__status.keep K3 (ninS ne2_q1 nin0)
  have F3_q1__attributes := F2_q1__attributes.keep K3 (ninS ne2_q1 nin0)
  have F3_q1__body := F2_q1__body.keep K3 (ninS ne2_q1 nin0)
  have E3_q3 := E2_q3.keep K3
  have F3_q3_modCount := F2_q3_modCount.keep K3 (ninS ne2_q3 nin0)
  have F3_q3_entrySet := F2_q3_entrySet.keep K3 (ninS ne2_q3 nin0)
  have F3_q3_root := F2_q3_root.keep K3 (ninS ne2_q3 nin0)
  have Z3 := Nat.le_trans Z2 K3.1
  have K3t := K2.trans K3 (allS (Or.inr (Nat.le_trans (Keep.refl h0 [q1, q3]).1 (Nat.le_of_eq hb2.symm))) all0)
  have A3_q4 := A2_q4.keep K3 (ninS ne2_q4 nin0)
  have E3_q4 := E2_q4.keep K3
  have E3_b2 := A2.keep K3
  show GoE p e below _ (T3.setTop (mkF m 11 #[.val (.ref q1), .val (.int q2), .val (.ref q3), .val (.ref q4), .unset, .unset, .unset] [.ref b2]))
  refine g_astore X3 hx hby d7_11 (pc' := 13) rfl rfl (l' := #[.val (.ref q1), .val (.int q2), .val (.ref q3), .val (.ref q4), .val (.ref b2), .unset, .unset]) rfl ?_
  refine g_aloadN X3 hx hby d7_13 (pc' := 14) rfl rfl rfl ?_
  refine g_callIf X3 hx hZ hown (W := 0) (argsL := []) (b := q3) (rest := []) hby d7_14 (pc' := 19) rfl (by rw [hml]; rfl) (w_61 hw) (w_62 hw) (w_63 hw) (by first | rfl | simp [Cond.onTables, Cond.keepsFace, Cond.keeps, Cond.steady]) (w_64 hw) (w_65 hw) (w_66 hw) (w_67 hw) (w_68 hw) (w_38 hw) (w_69 hw) (by decide) (rmTE l Z a0 hw [] q3 T3.heap n0 E3_q3 F3_q3_modCount F3_q3_entrySet F3_q3_root g_t Z3) rfl E3_q3 (by decide) (by decide) (by decide) (by decide) rfl pd__28_29Ljava_2futil_2fSet_3b rfl rfl (Nat.le_of_eq rfl) ?_
  rintro _ T4 L4 X4 (⟨b4, rfl, N4q, K4, G4, Ex4, Fx4, Ea4, Fr4, Fm4⟩)
  · have N4 := Fr.app N3 N4q
    have nb4_q1 : q1 ≠ b4 := Nat.ne_of_lt (Nat.lt_of_lt_of_le E3_q1.lt G4)
    have nb4_q3 : q3 ≠ b4 := Nat.ne_of_lt (Nat.lt_of_lt_of_le E3_q3.lt G4)
    have nb4_q4 : q4 ≠ b4 := Nat.ne_of_lt (Nat.lt_of_lt_of_le A3_q4.lt G4)
    have nb4_b2 : b2 ≠ b4 := Nat.ne_of_lt (Nat.lt_of_lt_of_le Ei3.lt G4)
    have E4_q1 := E3_q1.keep K4
    have F4_q1__status := F3_q1__status.keep K4 (ninS n31.symm nin0)
    have F4_q1__attributes := F3_q1__attributes.keep K4 (ninS n31.symm nin0)
    have F4_q1__body := F3_q1__body.keep K4 (ninS n31.symm nin0)
    have E4_q3 := E3_q3.keep K4
    have Z4 := Nat.le_trans Z3 K4.1
    have K4t := K3t.trans K4 (allS (Or.inl (List.mem_of_getElem? (i := 1) rfl)) all0)
    have A4_q4 := A3_q4.keep K4 (ninS n43 nin0)
    have E4_q4 := E3_q4.keep K4
    have E4_b2 := Ei3.keep K4
    have F4_b2_size := Fi3_size.keep K4 (ninS ne2_q3.symm nin0)
    have F4_b2_modCount := Fi3_modCount.keep K4 (ninS ne2_q3.symm nin0)
    have F4_b2_comparator := Fi3_comparator.keep K4 (ninS ne2_q3.symm nin0)
    have F4_b2_entrySet := Fi3_entrySet.keep K4 (ninS ne2_q3.symm nin0)
    have F4_b2_root := Fi3_root.keep K4 (ninS ne2_q3.symm nin0)
    show GoE p e below _ (T4.setTop (mkF m 19 #[.val (.ref q1), .val (.int q2), .val (.ref q3), .val (.ref q4), .val (.ref b2), .unset, .unset] [.ref b4]))
    refine g_callIf X4 hx hZ hown (W := 0) (argsL := []) (b := b4) (rest := []) hby d7_19 (pc' := 24) rfl (by rw [hml]; rfl) (w_94 hw) (w_95 hw) (w_96 hw) (by first | rfl | simp [Cond.onTables, Cond.keepsFace, Cond.keeps, Cond.steady]) (w_97 hw) (w_98 hw) (w_99 hw) (w_100 hw) (w_101 hw) (w_74 hw) (w_102 hw) (by decide) (rmIT l Z a0 hw [] b4 T4.heap n0 q3 Ex4 Fx4 Ea4 Fr4 Fm4 Z4) rfl Ex4 (by decide) (by decide) (by decide) (by decide) rfl pd__28_29Ljava_2futil_2fIterator_3b rfl rfl (Nat.le_of_eq rfl) ?_
    rintro _ T5 L5 X5 (⟨b5, rfl, N5q, K5, G5, Ex5, Fx5⟩)
    · have N5 := Fr.app N4 N5q
      have nb5_q1 : q1 ≠ b5 := Nat.ne_of_lt (Nat.lt_of_lt_of_le E4_q1.lt G5)
      have nb5_q3 : q3 ≠ b5 := Nat.ne_of_lt (Nat.lt_of_lt_of_le Ea4.lt G5)
      have nb5_q4 : q4 ≠ b5 := Nat.ne_of_lt (Nat.lt_of_lt_of_le A4_q4.lt G5)
      have nb5_b2 : b2 ≠ b5 := Nat.ne_of_lt (Nat.lt_of_lt_of_le E4_b2.lt G5)
      have nb5_b4 : b4 ≠ b5 := Nat.ne_of_lt (Nat.lt_of_lt_of_le Ex4.lt G5)
      have E5_q1 := E4_q1.keep K5
      have F5_q1__status := F4_q1__status.keep K5 nin0
      have F5_q1__attributes := F4_q1__attributes.keep K5 nin0
      have F5_q1__body := F4_q1__body.keep K5 nin0
      have E5_q3 := Ea4.keep K5
      have Z5 := Nat.le_trans Z4 K5.1
      have K5t := K4t.trans K5 all0
      have A5_q4 := A4_q4.keep K5 nin0
      have E5_q4 := E4_q4.keep K5
      have E5_b2 := E4_b2.keep K5
      have F5_b2_size := F4_b2_size.keep K5 nin0
      have F5_b2_modCount := F4_b2_modCount.keep K5 nin0
      have F5_b2_comparator := F4_b2_comparator.keep K5 nin0
      have F5_b2_entrySet := F4_b2_entrySet.keep K5 nin0
      have F5_b2_root := F4_b2_root.keep K5 nin0
      have E5_b4 := Ex4.keep K5
      have F5_b4_this0 := Fx4.keep K5 nin0
      have F5_q3_root := Fr4.keep K5 nin0
      have F5_q3_modCount := Fm4.keep K5 nin0
      show GoE p e below _ (T5.setTop (mkF m 24 #[.val (.ref q1), .val (.int q2), .val (.ref q3), .val (.ref q4), .val (.ref b2), .unset, .unset] [.ref b5]))
      refine g_astore X5 hx hby d7_24 (pc' := 26) rfl rfl (l' := #[.val (.ref q1), .val (.int q2), .val (.ref q3), .val (.ref q4), .val (.ref b2), .val (.ref b5), .unset]) rfl ?_
      refine g_aload X5 hx hby d7_26 (pc' := 28) rfl rfl rfl ?_
      refine g_callIf X5 hx hZ hown (W := 0) (argsL := []) (b := b5) (rest := []) hby d7_28 (pc' := 33) rfl (by rw [hml]; rfl) (w_133 hw) (w_134 hw) (w_135 hw) (by first | rfl | simp [Cond.onTables, Cond.keepsFace, Cond.keeps, Cond.steady]) (w_136 hw) (w_137 hw) (w_138 hw) (w_139 hw) (w_140 hw) (w_121 hw) (w_141 hw) (by decide) (rmHN l Z a0 hw [] b5 T5.heap n0 Fx5) rfl Ex5 (by decide) (by decide) (by decide) (by decide) rfl pd__28_29Z rfl rfl (Nat.le_of_eq rfl) ?_
      rintro _ T6 L6 X6 ⟨rfl, N6q, e6⟩
      have N6 := Fr.app N5 N6q
      show GoE p e below _ (T6.setTop (mkF m 33 #[.val (.ref q1), .val (.int q2), .val (.ref q3), .val (.ref q4), .val (.ref b2), .val (.ref b5), .unset] [.int (0 : Int32)]))
      refine g_if_eq X6 hx hby d7_33 (by decide) (pc' := 93) (by decide) (pn := 36) rfl (fun _ => ?_) (fun z => absurd z (by decide))
      refine g_aloadN X6 hx hby d7_93 (pc' := 94) rfl rfl rfl ?_
      refine g_iloadN X6 hx hby d7_94 (pc' := 95) rfl rfl ?_
      refine g_put X6 hx hZ hown hby d7_95 (pc' := 98) rfl (w_142 hw) e6 F5_q1__status E5_q1 (Or.inr ⟨(w_143 hw), rfl, hnm⟩) (w_34 hw) (ty := .int) (by decide) rfl rfl ?_
      intro T7 X7 W7
      have N7 := Fr.snoc X7 N6 g_a
      have E7_q1 := E5_q1.wr W7
      have F7_q1__status := F5_q1__status.same W7
      have F7_q1__attributes := F5_q1__attributes.other W7 (Or.inr (slot_ne (Or.inr (w_168 hw)) (Or.inr (w_143 hw)) (by decide) (t := (.object "java/util/Map")) (t' := .int) (by decide) (by decide)))
      have F7_q1__body := F5_q1__body.other W7 (Or.inr (slot_ne (Or.inr (w_172 hw)) (Or.inr (w_143 hw)) (by decide) (t := (.array .byte)) (t' := .int) (by decide) (by decide)))
      have E7_q3 := E5_q3.wr W7
      have Z7 : n0 ≤ T7.heap.size := (W7.size ▸ Z5)
      have K7 := K5t.wr W7 (Or.inl (List.mem_of_getElem? (i := 0) rfl))
      have A7_q4 := A5_q4.other W7 n41
      have E7_q4 := E5_q4.wr W7
      have E7_b2 := E5_b2.wr W7
      have F7_b2_size := F5_b2_size.other W7 (Or.inl ne2_q1.symm)
      have F7_b2_modCount := F5_b2_modCount.other W7 (Or.inl ne2_q1.symm)
      have F7_b2_comparator := F5_b2_comparator.other W7 (Or.inl ne2_q1.symm)
      have F7_b2_entrySet := F5_b2_entrySet.other W7 (Or.inl ne2_q1.symm)
      have F7_b2_root := F5_b2_root.other W7 (Or.inl ne2_q1.symm)
      have E7_b4 := E5_b4.wr W7
      have F7_b4_this0 := F5_b4_this0.other W7 (Or.inl nb4_q1.symm)
      have F7_q3_root := F5_q3_root.other W7 (Or.inl n31)
      have F7_q3_modCount := F5_q3_modCount.other W7 (Or.inl n31)
      have E7_b5 := Ex5.wr W7
      have F7_b5_next := Fx5.other W7 (Or.inl nb5_q1.symm)
      refine g_aloadN X7 hx hby d7_98 (pc' := 99) rfl rfl rfl ?_
      refine g_aload X7 hx hby d7_99 (pc' := 101) rfl rfl rfl ?_
      refine g_callS X7 hx hZ hown (W := 1) (argsL := [.ref b2]) (rest := [.ref q1]) hby d7_101 (pc' := 104) rfl (by rw [hml]; rfl) (w_144 hw) (w_145 hw) (w_146 hw) (w_147 hw) (by decide) (rmUM l Z a0 hw [] b2 T7.heap n0 mT mU M_T M_U E7_b2 Z7) rfl (by decide) (by decide) (by decide) (by decide) rfl pd__28Ljava_2futil_2fMap_3b_29Ljava_2futil_2fMap_3b rfl rfl (Nat.le_of_eq rfl) ?_
      rintro _ T8 L8 X8 (⟨b8, rfl, N8q, K8, G8, Ex8⟩)
      · have N8 := Fr.app N7 N8q
        have nb8_q1 : q1 ≠ b8 := Nat.ne_of_lt (Nat.lt_of_lt_of_le E7_q1.lt G8)
        have nb8_q3 : q3 ≠ b8 := Nat.ne_of_lt (Nat.lt_of_lt_of_le E7_q3.lt G8)
        have nb8_q4 : q4 ≠ b8 := Nat.ne_of_lt (Nat.lt_of_lt_of_le A7_q4.lt G8)
        have nb8_b2 : b2 ≠ b8 := Nat.ne_of_lt (Nat.lt_of_lt_of_le E7_b2.lt G8)
        have nb8_b4 : b4 ≠ b8 := Nat.ne_of_lt (Nat.lt_of_lt_of_le E7_b4.lt G8)
        have nb8_b5 : b5 ≠ b8 := Nat.ne_of_lt (Nat.lt_of_lt_of_le E7_b5.lt G8)
        have E8_q1 := E7_q1.keep K8
        have F8_q1__status := F7_q1__status.keep K8 nin0
        have F8_q1__attributes := F7_q1__attributes.keep K8 nin0
        have F8_q1__body := F7_q1__body.keep K8 nin0
        have E8_q3 := E7_q3.keep K8
        have Z8 := Nat.le_trans Z7 K8.1
        have K8t := K7.trans K8 all0
        have A8_q4 := A7_q4.keep K8 nin0
        have E8_q4 := E7_q4.keep K8
        have E8_b2 := E7_b2.keep K8
        have F8_b2_size := F7_b2_size.keep K8 nin0
        have F8_b2_modCount := F7_b2_modCount.keep K8 nin0
        have F8_b2_comparator := F7_b2_comparator.keep K8 nin0
        have F8_b2_entrySet := F7_b2_entrySet.keep K8 nin0
        have F8_b2_root := F7_b2_root.keep K8 nin0
        have E8_b4 := E7_b4.keep K8
        have F8_b4_this0 := F7_b4_this0.keep K8 nin0
        have F8_q3_root := F7_q3_root.keep K8 nin0
        have F8_q3_modCount := F7_q3_modCount.keep K8 nin0
        have E8_b5 := E7_b5.keep K8
        have F8_b5_next := F7_b5_next.keep K8 nin0
        show GoE p e below _ (T8.setTop (mkF m 104 #[.val (.ref q1), .val (.int q2), .val (.ref q3), .val (.ref q4), .val (.ref b2), .val (.ref b5), .unset] [.ref b8, .ref q1]))
        refine g_put X8 hx hZ hown hby d7_104 (pc' := 107) rfl (w_167 hw) rfl F8_q1__attributes E8_q1 (Or.inr ⟨(w_168 hw), rfl, hnm⟩) (w_34 hw) (ty := (.object "java/util/Map")) (by decide) rfl rfl ?_
        intro T9 X9 W9
        have N9 := Fr.snoc X9 N8 g_a
        have E9_q1 := E8_q1.wr W9
        have F9_q1__status := F8_q1__status.other W9 (Or.inr (slot_ne (Or.inr (w_143 hw)) (Or.inr (w_168 hw)) (by decide) (t := .int) (t' := (.object "java/util/Map")) (by decide) (by decide)))
        have F9_q1__attributes := F8_q1__attributes.same W9
        have F9_q1__body := F8_q1__body.other W9 (Or.inr (slot_ne (Or.inr (w_172 hw)) (Or.inr (w_168 hw)) (by decide) (t := (.array .byte)) (t' := (.object "java/util/Map")) (by decide) (by decide)))
        have E9_q3 := E8_q3.wr W9
        have Z9 : n0 ≤ T9.heap.size := (W9.size ▸ Z8)
        have K9 := K8t.wr W9 (Or.inl (List.mem_of_getElem? (i := 0) rfl))
        have A9_q4 := A8_q4.other W9 n41
        have E9_q4 := E8_q4.wr W9
        have E9_b2 := E8_b2.wr W9
        have F9_b2_size := F8_b2_size.other W9 (Or.inl ne2_q1.symm)
        have F9_b2_modCount := F8_b2_modCount.other W9 (Or.inl ne2_q1.symm)
        have F9_b2_comparator := F8_b2_comparator.other W9 (Or.inl ne2_q1.symm)
        have F9_b2_entrySet := F8_b2_entrySet.other W9 (Or.inl ne2_q1.symm)
        have F9_b2_root := F8_b2_root.other W9 (Or.inl ne2_q1.symm)
        have E9_b4 := E8_b4.wr W9
        have F9_b4_this0 := F8_b4_this0.other W9 (Or.inl nb4_q1.symm)
        have F9_q3_root := F8_q3_root.other W9 (Or.inl n31)
        have F9_q3_modCount := F8_q3_modCount.other W9 (Or.inl n31)
        have E9_b5 := E8_b5.wr W9
        have F9_b5_next := F8_b5_next.other W9 (Or.inl nb5_q1.symm)
        have E9_b8 := Ex8.wr W9
        refine g_aloadN X9 hx hby d7_107 (pc' := 108) rfl rfl rfl ?_
        refine g_aloadN X9 hx hby d7_108 (pc' := 109) rfl rfl rfl ?_
        refine g_clone X9 hx hZ hown (ad := "[B") (W := 1) 1 hby d7_109 (pc' := 112) rfl (by rw [hml]; rfl) (w_169 hw) (w_11 hw) (w_15 hw) (w_13 hw) (w_14 hw) (w_16 hw) rfl A9_q4 E9_q4 (by decide) (Nat.le_of_eq rfl) (by decide) (by decide) (by decide) (by decide) ?_
        intro T10 b10 hb10 X10 E10 A10 A10x
        have E10_q1 := E9_q1.ext E10
        have ne10_q1 : q1 ≠ b10 := hb10 ▸ Nat.ne_of_lt E9_q1.lt
        have F10_q1__status := F9_q1__status.ext E10
        have F10_q1__attributes := F9_q1__attributes.ext E10
        have F10_q1__body := F9_q1__body.ext E10
        have E10_q3 := E9_q3.ext E10
        have ne10_q3 : q3 ≠ b10 := hb10 ▸ Nat.ne_of_lt E9_q3.lt
        have Z10 := Nat.le_trans Z9 E10.1
        have K10 := K9.ext E10
        have A10_q4 := A9_q4.ext E10
        have ne10_q4 : q4 ≠ b10 := hb10 ▸ Nat.ne_of_lt A9_q4.lt
        have E10_q4 := E9_q4.ext E10
        have E10_b2 := E9_b2.ext E10
        have ne10_b2 : b2 ≠ b10 := hb10 ▸ Nat.ne_of_lt E9_b2.lt
        have F10_b2_size := F9_b2_size.ext E10
        have F10_b2_modCount := F9_b2_modCount.ext E10
        have F10_b2_comparator := F9_b2_comparator.ext E10
        have F10_b2_entrySet := F9_b2_entrySet.ext E10
        have F10_b2_root := F9_b2_root.ext E10
        have E10_b4 := E9_b4.ext E10
        have ne10_b4 : b4 ≠ b10 := hb10 ▸ Nat.ne_of_lt E9_b4.lt
        have F10_b4_this0 := F9_b4_this0.ext E10
        have F10_q3_root := F9_q3_root.ext E10
        have F10_q3_modCount := F9_q3_modCount.ext E10
        have E10_b5 := E9_b5.ext E10
        have ne10_b5 : b5 ≠ b10 := hb10 ▸ Nat.ne_of_lt E9_b5.lt
        have F10_b5_next := F9_b5_next.ext E10
        have E10_b8 := E9_b8.ext E10
        have ne10_b8 : b8 ≠ b10 := hb10 ▸ Nat.ne_of_lt E9_b8.lt
        refine g_castY X10 hx hZ hown hby d7_112 (pc' := 115) rfl (w_170 hw) rfl (Ins.self A10x) ?_
        intro T11 X11 e11
        refine g_put X11 hx hZ hown hby d7_115 (pc' := 118) rfl (w_171 hw) e11 F10_q1__body E10_q1 (Or.inr ⟨(w_172 hw), rfl, hnm⟩) (w_34 hw) (ty := (.array .byte)) (by decide) rfl rfl ?_
        intro T12 X12 W12
        have N12 := Fr.snoc X12 N9 g_a
        have E12_q1 := E10_q1.wr W12
        have F12_q1__status := F10_q1__status.other W12 (Or.inr (slot_ne (Or.inr (w_143 hw)) (Or.inr (w_172 hw)) (by decide) (t := .int) (t' := (.array .byte)) (by decide) (by decide)))
        have F12_q1__attributes := F10_q1__attributes.other W12 (Or.inr (slot_ne (Or.inr (w_168 hw)) (Or.inr (w_172 hw)) (by decide) (t := (.object "java/util/Map")) (t' := (.array .byte)) (by decide) (by decide)))
        have F12_q1__body := F10_q1__body.same W12
        have E12_q3 := E10_q3.wr W12
        have Z12 : n0 ≤ T12.heap.size := (W12.size ▸ Z10)
        have K12 := K10.wr W12 (Or.inl (List.mem_of_getElem? (i := 0) rfl))
        have A12_q4 := A10_q4.other W12 n41
        have E12_q4 := E10_q4.wr W12
        have E12_b2 := E10_b2.wr W12
        have F12_b2_size := F10_b2_size.other W12 (Or.inl ne2_q1.symm)
        have F12_b2_modCount := F10_b2_modCount.other W12 (Or.inl ne2_q1.symm)
        have F12_b2_comparator := F10_b2_comparator.other W12 (Or.inl ne2_q1.symm)
        have F12_b2_entrySet := F10_b2_entrySet.other W12 (Or.inl ne2_q1.symm)
        have F12_b2_root := F10_b2_root.other W12 (Or.inl ne2_q1.symm)
        have E12_b4 := E10_b4.wr W12
        have F12_b4_this0 := F10_b4_this0.other W12 (Or.inl nb4_q1.symm)
        have F12_q3_root := F10_q3_root.other W12 (Or.inl n31)
        have F12_q3_modCount := F10_q3_modCount.other W12 (Or.inl n31)
        have E12_b5 := E10_b5.wr W12
        have F12_b5_next := F10_b5_next.other W12 (Or.inl nb5_q1.symm)
        have E12_b8 := E10_b8.wr W12
        have A12_b10 := A10.other W12 ne10_q1.symm
        have E12_b10 := A10x.wr W12
        exact g_retV (Q := (fun v h L => v = none ∧ Fr n0 L ∧ Keep h0 h [q1, q3] ∧ Exa Z h q1 "com/example/libonce/libonce/Outcome")) X12 hx hby d7_118 hret hlk (by decide) (by decide) ⟨rfl, N12, K12, E12_q1⟩
theorem ef_rmKR (q1 : Addr) (q2 : Addr) (q3 : Addr) (m : MethodId) : entryFrame m #[.ref q1, .ref q2, .ref q3] 3 = mkF m 0 #[.val (.ref q1), .val (.ref q2), .val (.ref q3)] [] := by
  first | (simp [entryFrame, mkF, argsToLocals, Value.category]; done) | rfl
theorem pn_rmKR : plainName "com/example/libonce/libonce/KeyRecord" = true := by first | (simp [plainName, overriddenIn]; done) | decide +kernel
set_option maxRecDepth 65536 in
set_option maxHeartbeats 40000000 in
theorem rmKR (l : Launch) (Z : State) (a0 : Array Value) (hw : ∀ d ∈ tables_1, d.before a0 Z = true) (ws : List Jvm.Cond) (q1 : Addr) (q2 : Addr) (q3 : Addr) (h0 : Heap) (n0 : Nat) (w0 w1 dv : Value) (vs : List Value) (kq : ClassId) (E_q1 : Exa Z h0 q1 "com/example/libonce/libonce/KeyRecord") (F_q1__requestDigest : Fld Z h0 q1 "com/example/libonce/libonce/KeyRecord" "_requestDigest" "[B" (w0)) (F_q1__outcome : Fld Z h0 q1 "com/example/libonce/libonce/KeyRecord" "_outcome" "Lcom/example/libonce/libonce/Outcome;" (w1)) (A_q : Arv Z h0 q2 kq .byte (2 : Int32) vs dv) (E_q2 : Exa Z h0 q2 "[B") (n_q : q2 ≠ q1) (g_a : n0 ≤ q1) (Z0 : n0 ≤ h0.size) :
    Ctr l Z ({ cls := "com/example/libonce/libonce/KeyRecord", name := "<init>", desc := "([BLcom/example/libonce/libonce/Outcome;)V" } : Jvm.MethodName) prog_6_method_1_code 3 none ws ({ frames := 1, cells := 1, slots := 2, locals := 15 } : Room) #[.ref q1, .ref q2, .ref q3] h0 (fun v h L => v = none ∧ Fr n0 L ∧ Keep h0 h [q1] ∧ Exa Z h q1 "com/example/libonce/libonce/KeyRecord" ∧ Fld Z h q1 "com/example/libonce/libonce/KeyRecord" "_outcome" "Lcom/example/libonce/libonce/Outcome;" (.ref q3)) := by
  refine Ctr.enter (Ls := #[.val (.ref q1), .val (.ref q2), .val (.ref q3)]) (plainFor_of_name pn_rmKR) (fun m => ef_rmKR q1 q2 q3 m) ?_
  intro p e s m below meth c T hx hby hml hown hnm hret hlk hZ hh X0 e0
  have N0 := Fr.nil n0
  refine g_aloadN X0 hx hby d1_0 (pc' := 1) rfl rfl rfl ?_
  obtain ⟨T1, X1, e1, st1⟩ := initO X0 hx hZ hown (w_7 hw) (w_8 hw) (w_9 hw) e0 (g := (mkF m 1 #[.val (.ref q1), .val (.ref q2), .val (.ref q3)] [.ref q1])) rfl (by rw [hml]; rfl) rfl (hb hby d1_1) (by decide) (W := 0) (by show 2 * 0 + _ ≤ _; exact Nat.le_of_eq rfl) (by decide)
  refine GoE.pull (b := T1.setTop (mkF m 4 #[.val (.ref q1), .val (.ref q2), .val (.ref q3)] [])) ?_ st1
  refine g_aloadN X1 hx hby d1_4 (pc' := 5) rfl rfl rfl ?_
  refine g_aloadN X1 hx hby d1_5 (pc' := 6) rfl rfl rfl ?_
  refine g_clone X1 hx hZ hown (ad := "[B") (W := 1) 2 hby d1_6 (pc' := 9) rfl (by rw [hml]; rfl) (w_10 hw) (w_11 hw) (w_15 hw) (w_13 hw) (w_14 hw) (w_16 hw) e1 A_q E_q2 (by decide) (Nat.le_of_eq rfl) (by decide) (by decide) (by decide) (by decide) ?_
  intro T2 b2 hb2 X2 E2 A2 A2x
  have E2_q1 := E_q1.ext E2
  have ne2_q1 : q1 ≠ b2 := hb2 ▸ Nat.ne_of_lt E_q1.lt
  have F2_q1__requestDigest := F_q1__requestDigest.ext E2
  have F2_q1__outcome := F_q1__outcome.ext E2
  have Z2 := Nat.le_trans Z0 E2.1
  have A2_q2 := A_q.ext E2
  have ne2_q2 : q2 ≠ b2 := hb2 ▸ Nat.ne_of_lt A_q.lt
  have E2_q2 := E_q2.ext E2
  have K2 := (Keep.refl h0 [q1]).ext E2
  refine g_castY X2 hx hZ hown hby d1_9 (pc' := 12) rfl (w_17 hw) rfl (Ins.self A2x) ?_
  intro T3 X3 e3
  refine g_put X3 hx hZ hown hby d1_12 (pc' := 15) rfl (w_19 hw) e3 F2_q1__requestDigest E2_q1 (Or.inr ⟨(w_20 hw), rfl, hnm⟩) (w_2 hw) (ty := (.array .byte)) (by decide) rfl rfl ?_
  intro T4 X4 W4
  have N4 := Fr.snoc X4 N0 g_a
  have E4_q1 := E2_q1.wr W4
  have F4_q1__requestDigest := F2_q1__requestDigest.same W4
  have F4_q1__outcome := F2_q1__outcome.other W4 (Or.inr (slot_ne (Or.inr (w_22 hw)) (Or.inr (w_20 hw)) (by decide) (t := (.object "com/example/libonce/libonce/Outcome")) (t' := (.array .byte)) (by decide) (by decide)))
  have Z4 : n0 ≤ T4.heap.size := (W4.size ▸ Z2)
  have A4_q2 := A2_q2.other W4 n_q
  have E4_q2 := E2_q2.wr W4
  have K4 := K2.wr W4 (Or.inl (List.mem_of_getElem? (i := 0) rfl))
  have A4_b2 := A2.other W4 ne2_q1.symm
  have E4_b2 := A2x.wr W4
  refine g_aloadN X4 hx hby d1_15 (pc' := 16) rfl rfl rfl ?_
  refine g_aloadN X4 hx hby d1_16 (pc' := 17) rfl rfl rfl ?_
  refine g_put X4 hx hZ hown hby d1_17 (pc' := 20) rfl (w_21 hw) rfl F4_q1__outcome E4_q1 (Or.inr ⟨(w_22 hw), rfl, hnm⟩) (w_2 hw) (ty := (.object "com/example/libonce/libonce/Outcome")) (by decide) rfl rfl ?_
  intro T5 X5 W5
  have N5 := Fr.snoc X5 N4 g_a
  have E5_q1 := E4_q1.wr W5
  have F5_q1__requestDigest := F4_q1__requestDigest.other W5 (Or.inr (slot_ne (Or.inr (w_20 hw)) (Or.inr (w_22 hw)) (by decide) (t := (.array .byte)) (t' := (.object "com/example/libonce/libonce/Outcome")) (by decide) (by decide)))
  have F5_q1__outcome := F4_q1__outcome.same W5
  have Z5 : n0 ≤ T5.heap.size := (W5.size ▸ Z4)
  have A5_q2 := A4_q2.other W5 n_q
  have E5_q2 := E4_q2.wr W5
  have K5 := K4.wr W5 (Or.inl (List.mem_of_getElem? (i := 0) rfl))
  have A5_b2 := A4_b2.other W5 ne2_q1.symm
  have E5_b2 := E4_b2.wr W5
  exact g_retV (Q := (fun v h L => v = none ∧ Fr n0 L ∧ Keep h0 h [q1] ∧ Exa Z h q1 "com/example/libonce/libonce/KeyRecord" ∧ Fld Z h q1 "com/example/libonce/libonce/KeyRecord" "_outcome" "Lcom/example/libonce/libonce/Outcome;" (.ref q3))) X5 hx hby d1_20 hret hlk (by decide) (by decide) ⟨rfl, N5, K5, E5_q1, F5_q1__outcome⟩
theorem ef_rmKN (q1 : Addr) (q2 : Addr) (m : MethodId) : entryFrame m #[.ref q1, .ref q2, .null] 3 = mkF m 0 #[.val (.ref q1), .val (.ref q2), .val (.null)] [] := by
  first | (simp [entryFrame, mkF, argsToLocals, Value.category]; done) | rfl
theorem pn_rmKN : plainName "com/example/libonce/libonce/KeyRecord" = true := by first | (simp [plainName, overriddenIn]; done) | decide +kernel
set_option maxRecDepth 65536 in
set_option maxHeartbeats 40000000 in
theorem rmKN (l : Launch) (Z : State) (a0 : Array Value) (hw : ∀ d ∈ tables_1, d.before a0 Z = true) (ws : List Jvm.Cond) (q1 : Addr) (q2 : Addr) (h0 : Heap) (n0 : Nat) (w0 w1 dv : Value) (vs : List Value) (kq : ClassId) (E_q1 : Exa Z h0 q1 "com/example/libonce/libonce/KeyRecord") (F_q1__requestDigest : Fld Z h0 q1 "com/example/libonce/libonce/KeyRecord" "_requestDigest" "[B" (w0)) (F_q1__outcome : Fld Z h0 q1 "com/example/libonce/libonce/KeyRecord" "_outcome" "Lcom/example/libonce/libonce/Outcome;" (w1)) (A_q : Arv Z h0 q2 kq .byte (2 : Int32) vs dv) (E_q2 : Exa Z h0 q2 "[B") (n_q : q2 ≠ q1) (g_a : n0 ≤ q1) (Z0 : n0 ≤ h0.size) :
    Ctr l Z ({ cls := "com/example/libonce/libonce/KeyRecord", name := "<init>", desc := "([BLcom/example/libonce/libonce/Outcome;)V" } : Jvm.MethodName) prog_6_method_1_code 3 none ws ({ frames := 1, cells := 1, slots := 2, locals := 15 } : Room) #[.ref q1, .ref q2, .null] h0 (fun v h L => v = none ∧ Fr n0 L ∧ Keep h0 h [q1] ∧ Exa Z h q1 "com/example/libonce/libonce/KeyRecord" ∧ Fld Z h q1 "com/example/libonce/libonce/KeyRecord" "_outcome" "Lcom/example/libonce/libonce/Outcome;" (.null)) := by
  refine Ctr.enter (Ls := #[.val (.ref q1), .val (.ref q2), .val (.null)]) (plainFor_of_name pn_rmKN) (fun m => ef_rmKN q1 q2 m) ?_
  intro p e s m below meth c T hx hby hml hown hnm hret hlk hZ hh X0 e0
  have N0 := Fr.nil n0
  refine g_aloadN X0 hx hby d1_0 (pc' := 1) rfl rfl rfl ?_
  obtain ⟨T1, X1, e1, st1⟩ := initO X0 hx hZ hown (w_7 hw) (w_8 hw) (w_9 hw) e0 (g := (mkF m 1 #[.val (.ref q1), .val (.ref q2), .val (.null)] [.ref q1])) rfl (by rw [hml]; rfl) rfl (hb hby d1_1) (by decide) (W := 0) (by show 2 * 0 + _ ≤ _; exact Nat.le_of_eq rfl) (by decide)
  refine GoE.pull (b := T1.setTop (mkF m 4 #[.val (.ref q1), .val (.ref q2), .val (.null)] [])) ?_ st1
  refine g_aloadN X1 hx hby d1_4 (pc' := 5) rfl rfl rfl ?_
  refine g_aloadN X1 hx hby d1_5 (pc' := 6) rfl rfl rfl ?_
  refine g_clone X1 hx hZ hown (ad := "[B") (W := 1) 2 hby d1_6 (pc' := 9) rfl (by rw [hml]; rfl) (w_10 hw) (w_11 hw) (w_15 hw) (w_13 hw) (w_14 hw) (w_16 hw) e1 A_q E_q2 (by decide) (Nat.le_of_eq rfl) (by decide) (by decide) (by decide) (by decide) ?_
  intro T2 b2 hb2 X2 E2 A2 A2x
  have E2_q1 := E_q1.ext E2
  have ne2_q1 : q1 ≠ b2 := hb2 ▸ Nat.ne_of_lt E_q1.lt
  have F2_q1__requestDigest := F_q1__requestDigest.ext E2
  have F2_q1__outcome := F_q1__outcome.ext E2
  have Z2 := Nat.le_trans Z0 E2.1
  have A2_q2 := A_q.ext E2
  have ne2_q2 : q2 ≠ b2 := hb2 ▸ Nat.ne_of_lt A_q.lt
  have E2_q2 := E_q2.ext E2
  have K2 := (Keep.refl h0 [q1]).ext E2
  refine g_castY X2 hx hZ hown hby d1_9 (pc' := 12) rfl (w_17 hw) rfl (Ins.self A2x) ?_
  intro T3 X3 e3
  refine g_put X3 hx hZ hown hby d1_12 (pc' := 15) rfl (w_19 hw) e3 F2_q1__requestDigest E2_q1 (Or.inr ⟨(w_20 hw), rfl, hnm⟩) (w_2 hw) (ty := (.array .byte)) (by decide) rfl rfl ?_
  intro T4 X4 W4
  have N4 := Fr.snoc X4 N0 g_a
  have E4_q1 := E2_q1.wr W4
  have F4_q1__requestDigest := F2_q1__requestDigest.same W4
  have F4_q1__outcome := F2_q1__outcome.other W4 (Or.inr (slot_ne (Or.inr (w_22 hw)) (Or.inr (w_20 hw)) (by decide) (t := (.object "com/example/libonce/libonce/Outcome")) (t' := (.array .byte)) (by decide) (by decide)))
  have Z4 : n0 ≤ T4.heap.size := (W4.size ▸ Z2)
  have A4_q2 := A2_q2.other W4 n_q
  have E4_q2 := E2_q2.wr W4
  have K4 := K2.wr W4 (Or.inl (List.mem_of_getElem? (i := 0) rfl))
  have A4_b2 := A2.other W4 ne2_q1.symm
  have E4_b2 := A2x.wr W4
  refine g_aloadN X4 hx hby d1_15 (pc' := 16) rfl rfl rfl ?_
  refine g_aloadN X4 hx hby d1_16 (pc' := 17) rfl rfl rfl ?_
  refine g_put X4 hx hZ hown hby d1_17 (pc' := 20) rfl (w_21 hw) rfl F4_q1__outcome E4_q1 (Or.inr ⟨(w_22 hw), rfl, hnm⟩) (w_2 hw) (ty := (.object "com/example/libonce/libonce/Outcome")) (by decide) rfl rfl ?_
  intro T5 X5 W5
  have N5 := Fr.snoc X5 N4 g_a
  have E5_q1 := E4_q1.wr W5
  have F5_q1__requestDigest := F4_q1__requestDigest.other W5 (Or.inr (slot_ne (Or.inr (w_20 hw)) (Or.inr (w_22 hw)) (by decide) (t := (.array .byte)) (t' := (.object "com/example/libonce/libonce/Outcome")) (by decide) (by decide)))
  have F5_q1__outcome := F4_q1__outcome.same W5
  have Z5 : n0 ≤ T5.heap.size := (W5.size ▸ Z4)
  have A5_q2 := A4_q2.other W5 n_q
  have E5_q2 := E4_q2.wr W5
  have K5 := K4.wr W5 (Or.inl (List.mem_of_getElem? (i := 0) rfl))
  have A5_b2 := A4_b2.other W5 ne2_q1.symm
  have E5_b2 := E4_b2.wr W5
  exact g_retV (Q := (fun v h L => v = none ∧ Fr n0 L ∧ Keep h0 h [q1] ∧ Exa Z h q1 "com/example/libonce/libonce/KeyRecord" ∧ Fld Z h q1 "com/example/libonce/libonce/KeyRecord" "_outcome" "Lcom/example/libonce/libonce/Outcome;" (.null))) X5 hx hby d1_20 hret hlk (by decide) (by decide) ⟨rfl, N5, K5, E5_q1, F5_q1__outcome⟩
theorem ef_rmRr (q1 : Addr) (m : MethodId) : entryFrame m #[.ref q1] 1 = mkF m 0 #[.val (.ref q1)] [] := by
  first | (simp [entryFrame, mkF, argsToLocals, Value.category]; done) | rfl
theorem pn_rmRr : plainName "com/example/libonce/libonce/KeyRecord" = true := by first | (simp [plainName, overriddenIn]; done) | decide +kernel
set_option maxRecDepth 65536 in
set_option maxHeartbeats 40000000 in
theorem rmRr (l : Launch) (Z : State) (a0 : Array Value) (hw : ∀ d ∈ tables_1, d.before a0 Z = true) (ws : List Jvm.Cond) (q1 : Addr) (h0 : Heap) (n0 : Nat) (v1 : Addr) (F_o : Fld Z h0 q1 "com/example/libonce/libonce/KeyRecord" "_outcome" "Lcom/example/libonce/libonce/Outcome;" (.ref v1)) :
    Ctr l Z ({ cls := "com/example/libonce/libonce/KeyRecord", name := "isRunning", desc := "()Z" } : Jvm.MethodName) prog_6_method_3_code 1 (some .boolean) ws ({ frames := 0, cells := 0, slots := 0, locals := 0 } : Room) #[.ref q1] h0 (fun v h L => v = some (.int (0 : Int32)) ∧ Fr n0 L ∧ h = h0) := by
  refine Ctr.enter (Ls := #[.val (.ref q1)]) (plainFor_of_name pn_rmRr) (fun m => ef_rmRr q1 m) ?_
  intro p e s m below meth c T hx hby hml hown hnm hret hlk hZ hh X0 e0
  have N0 := Fr.nil n0
  refine g_aloadN X0 hx hby d3_0 (pc' := 1) rfl rfl rfl ?_
  refine g_get X0 hx hZ hown hby d3_1 (pc' := 4) rfl (w_21 hw) e0 F_o ?_
  intro T1 X1 e1
  refine g_ifnonnull_yes X1 hx hby d3_4 (by decide) (pc' := 11) (by decide) ?_
  refine g_iconst X1 hx hby d3_11 (pc' := 12) rfl (z := (0 : Int32)) rfl ?_
  exact g_retN (Q := (fun v h L => v = some (.int (0 : Int32)) ∧ Fr n0 L ∧ h = h0)) (w := (0 : Int32)) X1 hx hby d3_12 hret (by simp) (by first | decide | rfl) hlk (by decide) (by decide) ⟨rfl, N0, e1⟩
theorem ef_rmRn (q1 : Addr) (m : MethodId) : entryFrame m #[.ref q1] 1 = mkF m 0 #[.val (.ref q1)] [] := by
  first | (simp [entryFrame, mkF, argsToLocals, Value.category]; done) | rfl
theorem pn_rmRn : plainName "com/example/libonce/libonce/KeyRecord" = true := by first | (simp [plainName, overriddenIn]; done) | decide +kernel
set_option maxRecDepth 65536 in
set_option maxHeartbeats 40000000 in
theorem rmRn (l : Launch) (Z : State) (a0 : Array Value) (hw : ∀ d ∈ tables_1, d.before a0 Z = true) (ws : List Jvm.Cond) (q1 : Addr) (h0 : Heap) (n0 : Nat) (F_o : Fld Z h0 q1 "com/example/libonce/libonce/KeyRecord" "_outcome" "Lcom/example/libonce/libonce/Outcome;" (.null)) :
    Ctr l Z ({ cls := "com/example/libonce/libonce/KeyRecord", name := "isRunning", desc := "()Z" } : Jvm.MethodName) prog_6_method_3_code 1 (some .boolean) ws ({ frames := 0, cells := 0, slots := 0, locals := 0 } : Room) #[.ref q1] h0 (fun v h L => v = some (.int (1 : Int32)) ∧ Fr n0 L ∧ h = h0) := by
  refine Ctr.enter (Ls := #[.val (.ref q1)]) (plainFor_of_name pn_rmRn) (fun m => ef_rmRn q1 m) ?_
  intro p e s m below meth c T hx hby hml hown hnm hret hlk hZ hh X0 e0
  have N0 := Fr.nil n0
  refine g_aloadN X0 hx hby d3_0 (pc' := 1) rfl rfl rfl ?_
  refine g_get X0 hx hZ hown hby d3_1 (pc' := 4) rfl (w_21 hw) e0 F_o ?_
  intro T1 X1 e1
  refine g_ifnonnull_no X1 hx hby d3_4 (pn := 7) rfl ?_
  refine g_iconst X1 hx hby d3_7 (pc' := 8) rfl (z := (1 : Int32)) rfl ?_
  refine g_goto X1 hx hby d3_8 (by decide) (pc' := 12) (by decide) ?_
  exact g_retN (Q := (fun v h L => v = some (.int (1 : Int32)) ∧ Fr n0 L ∧ h = h0)) (w := (1 : Int32)) X1 hx hby d3_12 hret (by simp) (by first | decide | rfl) hlk (by decide) (by decide) ⟨rfl, N0, e1⟩
theorem ef_rmOr (q1 : Addr) (m : MethodId) : entryFrame m #[.ref q1] 1 = mkF m 0 #[.val (.ref q1)] [] := by
  first | (simp [entryFrame, mkF, argsToLocals, Value.category]; done) | rfl
theorem pn_rmOr : plainName "com/example/libonce/libonce/KeyRecord" = true := by first | (simp [plainName, overriddenIn]; done) | decide +kernel
set_option maxRecDepth 65536 in
set_option maxHeartbeats 40000000 in
theorem rmOr (l : Launch) (Z : State) (a0 : Array Value) (hw : ∀ d ∈ tables_1, d.before a0 Z = true) (ws : List Jvm.Cond) (q1 : Addr) (h0 : Heap) (n0 : Nat) (v1 : Addr) (F_o : Fld Z h0 q1 "com/example/libonce/libonce/KeyRecord" "_outcome" "Lcom/example/libonce/libonce/Outcome;" (.ref v1)) :
    Ctr l Z ({ cls := "com/example/libonce/libonce/KeyRecord", name := "outcome", desc := "()Lcom/example/libonce/libonce/Outcome;" } : Jvm.MethodName) prog_6_method_4_code 1 (some (.object "com/example/libonce/libonce/Outcome")) ws ({ frames := 0, cells := 0, slots := 0, locals := 0 } : Room) #[.ref q1] h0 (fun v h L => v = some (.ref v1) ∧ Fr n0 L ∧ h = h0) := by
  refine Ctr.enter (Ls := #[.val (.ref q1)]) (plainFor_of_name pn_rmOr) (fun m => ef_rmOr q1 m) ?_
  intro p e s m below meth c T hx hby hml hown hnm hret hlk hZ hh X0 e0
  have N0 := Fr.nil n0
  refine g_aloadN X0 hx hby d4_0 (pc' := 1) rfl rfl rfl ?_
  refine g_get X0 hx hZ hown hby d4_1 (pc' := 4) rfl (w_21 hw) e0 F_o ?_
  intro T1 X1 e1
  exact g_retA (Q := (fun v h L => v = some (.ref v1) ∧ Fr n0 L ∧ h = h0)) X1 hx hby d4_4 rfl hret rfl hlk (by decide) (by decide) ⟨rfl, N0, e1⟩
theorem ef_rmOn (q1 : Addr) (m : MethodId) : entryFrame m #[.ref q1] 1 = mkF m 0 #[.val (.ref q1)] [] := by
  first | (simp [entryFrame, mkF, argsToLocals, Value.category]; done) | rfl
theorem pn_rmOn : plainName "com/example/libonce/libonce/KeyRecord" = true := by first | (simp [plainName, overriddenIn]; done) | decide +kernel
set_option maxRecDepth 65536 in
set_option maxHeartbeats 40000000 in
theorem rmOn (l : Launch) (Z : State) (a0 : Array Value) (hw : ∀ d ∈ tables_1, d.before a0 Z = true) (ws : List Jvm.Cond) (q1 : Addr) (h0 : Heap) (n0 : Nat) (F_o : Fld Z h0 q1 "com/example/libonce/libonce/KeyRecord" "_outcome" "Lcom/example/libonce/libonce/Outcome;" (.null)) :
    Ctr l Z ({ cls := "com/example/libonce/libonce/KeyRecord", name := "outcome", desc := "()Lcom/example/libonce/libonce/Outcome;" } : Jvm.MethodName) prog_6_method_4_code 1 (some (.object "com/example/libonce/libonce/Outcome")) ws ({ frames := 0, cells := 0, slots := 0, locals := 0 } : Room) #[.ref q1] h0 (fun v h L => v = some (.null) ∧ Fr n0 L ∧ h = h0) := by
  refine Ctr.enter (Ls := #[.val (.ref q1)]) (plainFor_of_name pn_rmOn) (fun m => ef_rmOn q1 m) ?_
  intro p e s m below meth c T hx hby hml hown hnm hret hlk hZ hh X0 e0
  have N0 := Fr.nil n0
  refine g_aloadN X0 hx hby d4_0 (pc' := 1) rfl rfl rfl ?_
  refine g_get X0 hx hZ hown hby d4_1 (pc' := 4) rfl (w_21 hw) e0 F_o ?_
  intro T1 X1 e1
  exact g_retA (Q := (fun v h L => v = some (.null) ∧ Fr n0 L ∧ h = h0)) X1 hx hby d4_4 rfl hret rfl hlk (by decide) (by decide) ⟨rfl, N0, e1⟩
theorem ef_rm0 (q1 : Int32) (q2 : Int32) (q3 : Int32) (q4 : Int32) (m : MethodId) : entryFrame m #[.int q1, .int q2, .int q3, .int q4] maxLocals = mkF m 0 #[.val (.int q1), .val (.int q2), .val (.int q3), .val (.int q4), .unset, .unset, .unset, .unset, .unset] [] := by
  first | (simp [entryFrame, mkF, argsToLocals, Value.category, maxLocals]; done) | rfl
theorem pn_rm0 : plainName "com/example/libonce/libonce/KeyRecordIsRunningPinLaw" = true := by first | (simp [plainName, overriddenIn]; done) | decide +kernel
set_option maxRecDepth 65536 in
set_option maxHeartbeats 40000000 in
theorem rm0 (l : Launch) (Z : State) (a0 : Array Value) (hw : ∀ d ∈ tables_1, d.before a0 Z = true) (ws : List Jvm.Cond) (q1 : Int32) (q2 : Int32) (q3 : Int32) (q4 : Int32) (h0 : Heap) (n0 : Nat) (mT mU : Addr) (M_T : Mir Z "java/util/TreeMap" mT) (M_U : Mir Z "java/util/Collections$UnmodifiableMap" mU) (Z0 : n0 ≤ h0.size) :
    Ctr l Z x code maxLocals ret ws room_1 #[.int q1, .int q2, .int q3, .int q4] h0 (fun v h L => v = some (.int 1) ∧ Fr n0 L) := by
  refine Ctr.enter (Ls := #[.val (.int q1), .val (.int q2), .val (.int q3), .val (.int q4), .unset, .unset, .unset, .unset, .unset]) (plainFor_of_name pn_rm0) (fun m => ef_rm0 q1 q2 q3 q4 m) ?_
  intro p e s m below meth c T hx hby hml hown hnm hret hlk hZ hh X0 e0
  have N0 := Fr.nil n0
  refine g_iconst X0 hx hby at_0 (pc' := 1) rfl (z := (2 : Int32)) rfl ?_
  refine g_newarray X0 hx hZ 2  "[B" hby at_1 (pc' := 3) rfl (w_0 hw) e0 (by decide) (by decide) (by decide) (by decide) (by decide) rfl ?_
  intro T1 b1 c1 hb1 X1 E1 A1v A1x
  have Z1 := Nat.le_trans Z0 E1.1
  have A1 : Arv Z T1.heap b1 c1 .byte (2 : Int32) [.int 0, .int 0] (.int 0) := A1v
  refine g_dup X1 hx hby at_3 (pc' := 4) rfl rfl ?_
  refine g_iconst X1 hx hby at_4 (pc' := 5) rfl (z := (0 : Int32)) rfl ?_
  refine g_iloadN X1 hx hby at_5 (pc' := 6) rfl rfl ?_
  refine g_i2b X1 hx hby at_6 (pc' := 7) rfl ?_
  refine g_bastore X1 hx hZ 0 hby at_7 (pc' := 8) rfl rfl A1 (by decide) (by decide) (by first | decide | simp) ?_
  intro T2 X2 W2 A2v
  have N2 := Fr.snoc X2 N0 (Nat.le_trans Z0 (Nat.le_of_eq hb1.symm))
  have Z2 : n0 ≤ T2.heap.size := (W2.size ▸ Z1)
  have E2_b1 := A1x.wr W2
  have A2 : Arv Z T2.heap b1 c1 .byte (2 : Int32) [.int (nar .byte q3.toInt8.toInt32), .int 0] (.int 0) := A2v
  refine g_dup X2 hx hby at_8 (pc' := 9) rfl rfl ?_
  refine g_iconst X2 hx hby at_9 (pc' := 10) rfl (z := (1 : Int32)) rfl ?_
  refine g_iloadN X2 hx hby at_10 (pc' := 11) rfl rfl ?_
  refine g_i2b X2 hx hby at_11 (pc' := 12) rfl ?_
  refine g_bastore X2 hx hZ 1 hby at_12 (pc' := 13) rfl rfl A2 (by decide) (by decide) (by first | decide | simp) ?_
  intro T3 X3 W3 A3v
  have N3 := Fr.snoc X3 N2 (Nat.le_trans Z0 (Nat.le_of_eq hb1.symm))
  have Z3 : n0 ≤ T3.heap.size := (W3.size ▸ Z2)
  have E3_b1 := E2_b1.wr W3
  have A3 : Arv Z T3.heap b1 c1 .byte (2 : Int32) [.int (nar .byte q3.toInt8.toInt32), .int (nar .byte q4.toInt8.toInt32)] (.int 0) := A3v
  refine g_astore X3 hx hby at_13 (pc' := 15) rfl rfl (l' := #[.val (.int q1), .val (.int q2), .val (.int q3), .val (.int q4), .val (.ref b1), .unset, .unset, .unset, .unset]) rfl ?_
  refine g_iloadN X3 hx hby at_15 (pc' := 16) rfl rfl ?_
  refine g_iconst X3 hx hby at_16 (pc' := 17) rfl (z := (1 : Int32)) rfl ?_
  refine g_iand X3 hx hby at_17 (pc' := 18) rfl ?_
  refine g_if_eq X3 hx hby at_18 (by decide) (pc' := 25) (by decide) (pn := 21) rfl (fun hc18_4 => ?_) (fun hc18_4 => ?_)
  · refine g_iconst X3 hx hby at_25 (pc' := 26) rfl (z := (0 : Int32)) rfl ?_
    refine g_istore X3 hx hby at_26 (pc' := 28) rfl (l' := #[.val (.int q1), .val (.int q2), .val (.int q3), .val (.int q4), .val (.ref b1), .val (.int (0 : Int32)), .unset, .unset, .unset]) rfl ?_
    refine g_aconstNull X3 hx hby at_28 (pc' := 29) rfl ?_
    refine g_astore X3 hx hby at_29 (pc' := 31) rfl rfl (l' := #[.val (.int q1), .val (.int q2), .val (.int q3), .val (.int q4), .val (.ref b1), .val (.int (0 : Int32)), .val (.null), .unset, .unset]) rfl ?_
    refine g_iload X3 hx hby at_31 (pc' := 33) rfl rfl ?_
    refine g_if_eq X3 hx hby at_33 (by decide) (pc' := 65) (by decide) (pn := 36) rfl (fun _ => ?_) (fun z => absurd z (by decide))
    refine g_new X3 hx hZ hown hby at_65 (pc' := 68) rfl (w_1 hw) (w_2 hw) (w_3 hw) rfl (by decide) (by decide) ?_
    intro T5 b5 hb5 X5 E5 A5 D5
    have Z5 := Nat.le_trans Z3 E5.1
    have E5_b1 := E3_b1.ext E5
    have ne5_b1 : b1 ≠ b5 := hb5 ▸ Nat.ne_of_lt E3_b1.lt
    have A5_b1 := A3.ext E5
    have F5__requestDigest : Fld Z T5.heap b5 "com/example/libonce/libonce/KeyRecord" "_requestDigest" "[B" (.null) := D5 (Or.inr (w_20 hw)) (ty := (.array .byte)) (by decide)
    have F5__outcome : Fld Z T5.heap b5 "com/example/libonce/libonce/KeyRecord" "_outcome" "Lcom/example/libonce/libonce/Outcome;" (.null) := D5 (Or.inr (w_22 hw)) (ty := (.object "com/example/libonce/libonce/Outcome")) (by decide)
    refine g_dup X5 hx hby at_68 (pc' := 69) rfl rfl ?_
    refine g_aload X5 hx hby at_69 (pc' := 71) rfl rfl rfl ?_
    refine g_aload X5 hx hby at_71 (pc' := 73) rfl rfl rfl ?_
    refine g_callI X5 hx hZ hown (W := 1) (argsL := [.ref b1, .null]) (b := b5) (rest := [.ref b5]) hby at_73 (pc' := 76) rfl (by rw [hml]; rfl) (w_4 hw) (w_5 hw) (w_3 hw) (w_6 hw) rfl (by decide) (rmKN l Z a0 hw [] b5 b1  T5.heap n0 _ _ _ _ _ A5 F5__requestDigest F5__outcome A5_b1 E5_b1 ne5_b1 (Nat.le_trans Z3 (Nat.le_of_eq hb5.symm)) Z5) rfl (by decide) (by decide) (by decide) (by decide) rfl pd__28_5bBLcom_2fexample_2flibonce_2flibonce_2fOutcome_3b_29V rfl rfl (Nat.le_of_eq rfl) ?_
    rintro _ T6 L6 X6 ⟨rfl, N6q, K6, Ei6, Fi6⟩
    have N6 := Fr.app N3 N6q
    have Z6 := Nat.le_trans Z5 K6.1
    have E6_b1 := E5_b1.keep K6
    have A6_b1 := A5_b1.keep K6 (ninS ne5_b1 nin0)
    have E6_b5 := A5.keep K6
    show GoE p e below _ (T6.setTop (mkF m 76 #[.val (.int q1), .val (.int q2), .val (.int q3), .val (.int q4), .val (.ref b1), .val (.int (0 : Int32)), .val (.null), .unset, .unset] [.ref b5]))
    refine g_astore X6 hx hby at_76 (pc' := 78) rfl rfl (l' := #[.val (.int q1), .val (.int q2), .val (.int q3), .val (.int q4), .val (.ref b1), .val (.int (0 : Int32)), .val (.null), .val (.ref b5), .unset]) rfl ?_
    refine g_aload X6 hx hby at_78 (pc' := 80) rfl rfl rfl ?_
    refine g_callV X6 hx hZ hown (W := 0) (argsL := []) (b := b5) (rest := []) hby at_80 (pc' := 83) rfl (by rw [hml]; rfl) (w_23 hw) (w_24 hw) (w_26 hw) (notFace_of_selects (args := #[]) (mvT hZ (w_26 hw))) (w_25 hw) (w_3 hw) (w_27 hw) (by decide) (rmRn l Z a0 hw [] b5 T6.heap n0 Fi6) rfl Ei6 (by decide) (by decide) (by decide) (by decide) rfl pd__28_29Z rfl rfl (Nat.le_of_eq rfl) ?_
    rintro _ T7 L7 X7 ⟨rfl, N7q, e7⟩
    have N7 := Fr.app N6 N7q
    show GoE p e below _ (T7.setTop (mkF m 83 #[.val (.int q1), .val (.int q2), .val (.int q3), .val (.int q4), .val (.ref b1), .val (.int (0 : Int32)), .val (.null), .val (.ref b5), .unset] [.int (1 : Int32)]))
    refine g_istore X7 hx hby at_83 (pc' := 85) rfl (l' := #[.val (.int q1), .val (.int q2), .val (.int q3), .val (.int q4), .val (.ref b1), .val (.int (0 : Int32)), .val (.null), .val (.ref b5), .val (.int (1 : Int32))]) rfl ?_
    refine g_iload X7 hx hby at_85 (pc' := 87) rfl rfl ?_
    refine g_iload X7 hx hby at_87 (pc' := 89) rfl rfl ?_
    refine g_if_ne X7 hx hby at_89 (by decide) (pc' := 96) (by decide) (pn := 92) rfl (fun z => absurd z (by decide)) (fun _ => ?_)
    refine g_iconst X7 hx hby at_92 (pc' := 93) rfl (z := (1 : Int32)) rfl ?_
    refine g_goto X7 hx hby at_93 (by decide) (pc' := 97) (by decide) ?_
    refine g_icmp_ne X7 hx hby at_97 (by decide) (pc' := 122) (by decide) (pn := 100) rfl (fun z => absurd z (by decide)) (fun _ => ?_)
    refine g_iload X7 hx hby at_100 (pc' := 102) rfl rfl ?_
    refine g_aload X7 hx hby at_102 (pc' := 104) rfl rfl rfl ?_
    refine g_callV X7 hx hZ hown (W := 1) (argsL := []) (b := b5) (rest := [.int (1 : Int32)]) hby at_104 (pc' := 107) rfl (by rw [hml]; rfl) (w_28 hw) (w_29 hw) (w_31 hw) (notFace_of_selects (args := #[]) (mvT hZ (w_31 hw))) (w_30 hw) (w_3 hw) (w_32 hw) (by decide) (rmOn l Z a0 hw [] b5 T6.heap n0 Fi6) e7 Ei6 (by decide) (by decide) (by decide) (by decide) rfl pd__28_29Lcom_2fexample_2flibonce_2flibonce_2fOutcome_3b rfl rfl (Nat.le_of_eq rfl) ?_
    rintro _ T8 L8 X8 ⟨rfl, N8q, e8⟩
    have N8 := Fr.app N7 N8q
    show GoE p e below _ (T8.setTop (mkF m 107 #[.val (.int q1), .val (.int q2), .val (.int q3), .val (.int q4), .val (.ref b1), .val (.int (0 : Int32)), .val (.null), .val (.ref b5), .val (.int (1 : Int32))] [.null, .int (1 : Int32)]))
    refine g_ifnonnull_no X8 hx hby at_107 (pn := 110) rfl ?_
    refine g_iconst X8 hx hby at_110 (pc' := 111) rfl (z := (1 : Int32)) rfl ?_
    refine g_goto X8 hx hby at_111 (by decide) (pc' := 115) (by decide) ?_
    refine g_icmp_ne X8 hx hby at_115 (by decide) (pc' := 122) (by decide) (pn := 118) rfl (fun z => absurd z (by decide)) (fun _ => ?_)
    refine g_iconst X8 hx hby at_118 (pc' := 119) rfl (z := (1 : Int32)) rfl ?_
    refine g_goto X8 hx hby at_119 (by decide) (pc' := 123) (by decide) ?_
    exact g_retN (Q := (fun v h L => v = some (.int 1) ∧ Fr n0 L)) (w := (1 : Int32)) X8 hx hby at_123 hret (by simp) (by first | decide | rfl) hlk (by decide) (by decide) ⟨rfl, N8⟩
  · refine g_iconst X3 hx hby at_21 (pc' := 22) rfl (z := (1 : Int32)) rfl ?_
    refine g_goto X3 hx hby at_22 (by decide) (pc' := 26) (by decide) ?_
    refine g_istore X3 hx hby at_26 (pc' := 28) rfl (l' := #[.val (.int q1), .val (.int q2), .val (.int q3), .val (.int q4), .val (.ref b1), .val (.int (1 : Int32)), .unset, .unset, .unset]) rfl ?_
    refine g_aconstNull X3 hx hby at_28 (pc' := 29) rfl ?_
    refine g_astore X3 hx hby at_29 (pc' := 31) rfl rfl (l' := #[.val (.int q1), .val (.int q2), .val (.int q3), .val (.int q4), .val (.ref b1), .val (.int (1 : Int32)), .val (.null), .unset, .unset]) rfl ?_
    refine g_iload X3 hx hby at_31 (pc' := 33) rfl rfl ?_
    refine g_if_eq X3 hx hby at_33 (by decide) (pc' := 65) (by decide) (pn := 36) rfl (fun z => absurd z (by decide)) (fun _ => ?_)
    refine g_iconst X3 hx hby at_36 (pc' := 37) rfl (z := (1 : Int32)) rfl ?_
    refine g_newarray X3 hx hZ 1  "[B" hby at_37 (pc' := 39) rfl (w_0 hw) rfl (by decide) (by decide) (by decide) (by decide) (by decide) rfl ?_
    intro T9 b9 c9 hb9 X9 E9 A9v A9x
    have Z9 := Nat.le_trans Z3 E9.1
    have E9_b1 := E3_b1.ext E9
    have ne9_b1 : b1 ≠ b9 := hb9 ▸ Nat.ne_of_lt E3_b1.lt
    have A9_b1 := A3.ext E9
    have A9 : Arv Z T9.heap b9 c9 .byte (1 : Int32) [.int 0] (.int 0) := A9v
    refine g_dup X9 hx hby at_39 (pc' := 40) rfl rfl ?_
    refine g_iconst X9 hx hby at_40 (pc' := 41) rfl (z := (0 : Int32)) rfl ?_
    refine g_iloadN X9 hx hby at_41 (pc' := 42) rfl rfl ?_
    refine g_i2b X9 hx hby at_42 (pc' := 43) rfl ?_
    refine g_bastore X9 hx hZ 0 hby at_43 (pc' := 44) rfl rfl A9 (by decide) (by decide) (by first | decide | simp) ?_
    intro T10 X10 W10 A10v
    have N10 := Fr.snoc X10 N3 (Nat.le_trans Z3 (Nat.le_of_eq hb9.symm))
    have Z10 : n0 ≤ T10.heap.size := (W10.size ▸ Z9)
    have E10_b1 := E9_b1.wr W10
    have A10_b1 := A9_b1.other W10 ne9_b1
    have E10_b9 := A9x.wr W10
    have A10 : Arv Z T10.heap b9 c9 .byte (1 : Int32) [.int (nar .byte q4.toInt8.toInt32)] (.int 0) := A10v
    refine g_astore X10 hx hby at_44 (pc' := 46) rfl rfl (l' := #[.val (.int q1), .val (.int q2), .val (.int q3), .val (.int q4), .val (.ref b1), .val (.int (1 : Int32)), .val (.null), .val (.ref b9), .unset]) rfl ?_
    refine g_new X10 hx hZ hown hby at_46 (pc' := 49) rfl (w_33 hw) (w_34 hw) (w_35 hw) rfl (by decide) (by decide) ?_
    intro T11 b11 hb11 X11 E11 A11 D11
    have Z11 := Nat.le_trans Z10 E11.1
    have E11_b1 := E10_b1.ext E11
    have ne11_b1 : b1 ≠ b11 := hb11 ▸ Nat.ne_of_lt E10_b1.lt
    have A11_b1 := A10_b1.ext E11
    have E11_b9 := E10_b9.ext E11
    have ne11_b9 : b9 ≠ b11 := hb11 ▸ Nat.ne_of_lt E10_b9.lt
    have A11_b9 := A10.ext E11
    have F11__status : Fld Z T11.heap b11 "com/example/libonce/libonce/Outcome" "_status" "I" (.int (0 : Int32)) := D11 (Or.inr (w_143 hw)) (ty := .int) (by decide)
    have F11__attributes : Fld Z T11.heap b11 "com/example/libonce/libonce/Outcome" "_attributes" "Ljava/util/Map;" (.null) := D11 (Or.inr (w_168 hw)) (ty := (.object "java/util/Map")) (by decide)
    have F11__body : Fld Z T11.heap b11 "com/example/libonce/libonce/Outcome" "_body" "[B" (.null) := D11 (Or.inr (w_172 hw)) (ty := (.array .byte)) (by decide)
    refine g_dup X11 hx hby at_49 (pc' := 50) rfl rfl ?_
    refine g_iloadN X11 hx hby at_50 (pc' := 51) rfl rfl ?_
    refine g_new X11 hx hZ hown hby at_51 (pc' := 54) rfl (w_36 hw) (w_37 hw) (w_38 hw) rfl (by decide) (by decide) ?_
    intro T12 b12 hb12 X12 E12 A12 D12
    have Z12 := Nat.le_trans Z11 E12.1
    have E12_b1 := E11_b1.ext E12
    have ne12_b1 : b1 ≠ b12 := hb12 ▸ Nat.ne_of_lt E11_b1.lt
    have A12_b1 := A11_b1.ext E12
    have E12_b9 := E11_b9.ext E12
    have ne12_b9 : b9 ≠ b12 := hb12 ▸ Nat.ne_of_lt E11_b9.lt
    have A12_b9 := A11_b9.ext E12
    have E12_b11 := A11.ext E12
    have ne12_b11 : b11 ≠ b12 := hb12 ▸ Nat.ne_of_lt A11.lt
    have F12_b11__status := F11__status.ext E12
    have F12_b11__attributes := F11__attributes.ext E12
    have F12_b11__body := F11__body.ext E12
    have F12_size : Fld Z T12.heap b12 "java/util/TreeMap" "size" "I" (.int (0 : Int32)) := D12 (Or.inl (w_50 hw)) (ty := .int) (by decide)
    have F12_modCount : Fld Z T12.heap b12 "java/util/TreeMap" "modCount" "I" (.int (0 : Int32)) := D12 (Or.inl (w_52 hw)) (ty := .int) (by decide)
    have F12_entrySet : Fld Z T12.heap b12 "java/util/TreeMap" "entrySet" "Ljava/util/TreeMap$EntrySet;" (.null) := D12 (Or.inl (w_71 hw)) (ty := (.object "java/util/TreeMap$EntrySet")) (by decide)
    have F12_root : Fld Z T12.heap b12 "java/util/TreeMap" "root" "Ljava/util/TreeMap$Entry;" (.null) := D12 (Or.inl (w_112 hw)) (ty := (.object "java/util/TreeMap$Entry")) (by decide)
    have F12_comparator : Fld Z T12.heap b12 "java/util/TreeMap" "comparator" "Ljava/util/Comparator;" (.null) := D12 (Or.inr (w_54 hw)) (ty := (.object "java/util/Comparator")) (by decide)
    refine g_dup X12 hx hby at_54 (pc' := 55) rfl rfl ?_
    refine g_callI X12 hx hZ hown (W := 4) (argsL := []) (b := b12) (rest := [.ref b12, .int q2, .ref b11, .ref b11]) hby at_55 (pc' := 58) rfl (by rw [hml]; rfl) (w_39 hw) (w_40 hw) (w_38 hw) (w_41 hw) rfl (by decide) (rmTI l Z a0 hw [] b12 T12.heap n0 A12 F12_size F12_modCount F12_comparator F12_entrySet F12_root (Nat.le_trans Z11 (Nat.le_of_eq hb12.symm))) rfl (by decide) (by decide) (by decide) (by decide) rfl pd__28_29V rfl rfl (Nat.le_of_eq rfl) ?_
    rintro _ T13 L13 X13 ⟨rfl, N13q, K13, Ei13, Fi13_size, Fi13_modCount, Fi13_comparator, Fi13_entrySet, Fi13_root⟩
    have N13 := Fr.app N10 N13q
    have Z13 := Nat.le_trans Z12 K13.1
    have E13_b1 := E12_b1.keep K13
    have A13_b1 := A12_b1.keep K13 (ninS ne12_b1 nin0)
    have E13_b9 := E12_b9.keep K13
    have A13_b9 := A12_b9.keep K13 (ninS ne12_b9 nin0)
    have E13_b11 := E12_b11.keep K13
    have F13_b11__status := F12_b11__status.keep K13 (ninS ne12_b11 nin0)
    have F13_b11__attributes := F12_b11__attributes.keep K13 (ninS ne12_b11 nin0)
    have F13_b11__body := F12_b11__body.keep K13 (ninS ne12_b11 nin0)
    have E13_b12 := A12.keep K13
    show GoE p e below _ (T13.setTop (mkF m 58 #[.val (.int q1), .val (.int q2), .val (.int q3), .val (.int q4), .val (.ref b1), .val (.int (1 : Int32)), .val (.null), .val (.ref b9), .unset] [.ref b12, .int q2, .ref b11, .ref b11]))
    refine g_aload X13 hx hby at_58 (pc' := 60) rfl rfl rfl ?_
    refine g_callI X13 hx hZ hown (W := 1) (argsL := [.int q2, .ref b12, .ref b9]) (b := b11) (rest := [.ref b11]) hby at_60 (pc' := 63) rfl (by rw [hml]; rfl) (w_55 hw) (w_56 hw) (w_35 hw) (w_57 hw) rfl (by decide) (rmOC l Z a0 hw [] b11 q2 b12 b9 T13.heap n0 mT mU M_T M_U _ _ _ _ _ _ E13_b11 F13_b11__status F13_b11__attributes F13_b11__body Ei13 Fi13_modCount Fi13_entrySet Fi13_root A13_b9 E13_b9 ne12_b11.symm ne11_b9 ne12_b9 (Nat.le_trans Z10 (Nat.le_of_eq hb11.symm)) (Nat.le_trans Z11 (Nat.le_of_eq hb12.symm)) Z13) rfl (by decide) (by decide) (by decide) (by decide) rfl pd__28ILjava_2futil_2fMap_3b_5bB_29V rfl rfl (Nat.le_of_eq rfl) ?_
    rintro _ T14 L14 X14 ⟨rfl, N14q, K14, Ei14⟩
    have N14 := Fr.app N13 N14q
    have Z14 := Nat.le_trans Z13 K14.1
    have E14_b1 := E13_b1.keep K14
    have A14_b1 := A13_b1.keep K14 (ninS ne11_b1 (ninS ne12_b1 nin0))
    have E14_b9 := E13_b9.keep K14
    have A14_b9 := A13_b9.keep K14 (ninS ne11_b9 (ninS ne12_b9 nin0))
    have E14_b11 := E13_b11.keep K14
    have E14_b12 := Ei13.keep K14
    show GoE p e below _ (T14.setTop (mkF m 63 #[.val (.int q1), .val (.int q2), .val (.int q3), .val (.int q4), .val (.ref b1), .val (.int (1 : Int32)), .val (.null), .val (.ref b9), .unset] [.ref b11]))
    refine g_astore X14 hx hby at_63 (pc' := 65) rfl rfl (l' := #[.val (.int q1), .val (.int q2), .val (.int q3), .val (.int q4), .val (.ref b1), .val (.int (1 : Int32)), .val (.ref b11), .val (.ref b9), .unset]) rfl ?_
    refine g_new X14 hx hZ hown hby at_65 (pc' := 68) rfl (w_1 hw) (w_2 hw) (w_3 hw) rfl (by decide) (by decide) ?_
    intro T15 b15 hb15 X15 E15 A15 D15
    have Z15 := Nat.le_trans Z14 E15.1
    have E15_b1 := E14_b1.ext E15
    have ne15_b1 : b1 ≠ b15 := hb15 ▸ Nat.ne_of_lt E14_b1.lt
    have A15_b1 := A14_b1.ext E15
    have E15_b9 := E14_b9.ext E15
    have ne15_b9 : b9 ≠ b15 := hb15 ▸ Nat.ne_of_lt E14_b9.lt
    have A15_b9 := A14_b9.ext E15
    have E15_b11 := Ei14.ext E15
    have ne15_b11 : b11 ≠ b15 := hb15 ▸ Nat.ne_of_lt Ei14.lt
    have E15_b12 := E14_b12.ext E15
    have ne15_b12 : b12 ≠ b15 := hb15 ▸ Nat.ne_of_lt E14_b12.lt
    have F15__requestDigest : Fld Z T15.heap b15 "com/example/libonce/libonce/KeyRecord" "_requestDigest" "[B" (.null) := D15 (Or.inr (w_20 hw)) (ty := (.array .byte)) (by decide)
    have F15__outcome : Fld Z T15.heap b15 "com/example/libonce/libonce/KeyRecord" "_outcome" "Lcom/example/libonce/libonce/Outcome;" (.null) := D15 (Or.inr (w_22 hw)) (ty := (.object "com/example/libonce/libonce/Outcome")) (by decide)
    refine g_dup X15 hx hby at_68 (pc' := 69) rfl rfl ?_
    refine g_aload X15 hx hby at_69 (pc' := 71) rfl rfl rfl ?_
    refine g_aload X15 hx hby at_71 (pc' := 73) rfl rfl rfl ?_
    refine g_callI X15 hx hZ hown (W := 1) (argsL := [.ref b1, .ref b11]) (b := b15) (rest := [.ref b15]) hby at_73 (pc' := 76) rfl (by rw [hml]; rfl) (w_4 hw) (w_5 hw) (w_3 hw) (w_6 hw) rfl (by decide) (rmKR l Z a0 hw [] b15 b1 b11 T15.heap n0 _ _ _ _ _ A15 F15__requestDigest F15__outcome A15_b1 E15_b1 ne15_b1 (Nat.le_trans Z14 (Nat.le_of_eq hb15.symm)) Z15) rfl (by decide) (by decide) (by decide) (by decide) rfl pd__28_5bBLcom_2fexample_2flibonce_2flibonce_2fOutcome_3b_29V rfl rfl (Nat.le_of_eq rfl) ?_
    rintro _ T16 L16 X16 ⟨rfl, N16q, K16, Ei16, Fi16⟩
    have N16 := Fr.app N14 N16q
    have Z16 := Nat.le_trans Z15 K16.1
    have E16_b1 := E15_b1.keep K16
    have A16_b1 := A15_b1.keep K16 (ninS ne15_b1 nin0)
    have E16_b9 := E15_b9.keep K16
    have A16_b9 := A15_b9.keep K16 (ninS ne15_b9 nin0)
    have E16_b11 := E15_b11.keep K16
    have E16_b12 := E15_b12.keep K16
    have E16_b15 := A15.keep K16
    show GoE p e below _ (T16.setTop (mkF m 76 #[.val (.int q1), .val (.int q2), .val (.int q3), .val (.int q4), .val (.ref b1), .val (.int (1 : Int32)), .val (.ref b11), .val (.ref b9), .unset] [.ref b15]))
    refine g_astore X16 hx hby at_76 (pc' := 78) rfl rfl (l' := #[.val (.int q1), .val (.int q2), .val (.int q3), .val (.int q4), .val (.ref b1), .val (.int (1 : Int32)), .val (.ref b11), .val (.ref b15), .unset]) rfl ?_
    refine g_aload X16 hx hby at_78 (pc' := 80) rfl rfl rfl ?_
    refine g_callV X16 hx hZ hown (W := 0) (argsL := []) (b := b15) (rest := []) hby at_80 (pc' := 83) rfl (by rw [hml]; rfl) (w_23 hw) (w_24 hw) (w_26 hw) (notFace_of_selects (args := #[]) (mvT hZ (w_26 hw))) (w_25 hw) (w_3 hw) (w_27 hw) (by decide) (rmRr l Z a0 hw [] b15 T16.heap n0 b11 Fi16) rfl Ei16 (by decide) (by decide) (by decide) (by decide) rfl pd__28_29Z rfl rfl (Nat.le_of_eq rfl) ?_
    rintro _ T17 L17 X17 ⟨rfl, N17q, e17⟩
    have N17 := Fr.app N16 N17q
    show GoE p e below _ (T17.setTop (mkF m 83 #[.val (.int q1), .val (.int q2), .val (.int q3), .val (.int q4), .val (.ref b1), .val (.int (1 : Int32)), .val (.ref b11), .val (.ref b15), .unset] [.int (0 : Int32)]))
    refine g_istore X17 hx hby at_83 (pc' := 85) rfl (l' := #[.val (.int q1), .val (.int q2), .val (.int q3), .val (.int q4), .val (.ref b1), .val (.int (1 : Int32)), .val (.ref b11), .val (.ref b15), .val (.int (0 : Int32))]) rfl ?_
    refine g_iload X17 hx hby at_85 (pc' := 87) rfl rfl ?_
    refine g_iload X17 hx hby at_87 (pc' := 89) rfl rfl ?_
    refine g_if_ne X17 hx hby at_89 (by decide) (pc' := 96) (by decide) (pn := 92) rfl (fun _ => ?_) (fun z => absurd z (by decide))
    refine g_iconst X17 hx hby at_96 (pc' := 97) rfl (z := (0 : Int32)) rfl ?_
    refine g_icmp_ne X17 hx hby at_97 (by decide) (pc' := 122) (by decide) (pn := 100) rfl (fun z => absurd z (by decide)) (fun _ => ?_)
    refine g_iload X17 hx hby at_100 (pc' := 102) rfl rfl ?_
    refine g_aload X17 hx hby at_102 (pc' := 104) rfl rfl rfl ?_
    refine g_callV X17 hx hZ hown (W := 1) (argsL := []) (b := b15) (rest := [.int (0 : Int32)]) hby at_104 (pc' := 107) rfl (by rw [hml]; rfl) (w_28 hw) (w_29 hw) (w_31 hw) (notFace_of_selects (args := #[]) (mvT hZ (w_31 hw))) (w_30 hw) (w_3 hw) (w_32 hw) (by decide) (rmOr l Z a0 hw [] b15 T16.heap n0 b11 Fi16) e17 Ei16 (by decide) (by decide) (by decide) (by decide) rfl pd__28_29Lcom_2fexample_2flibonce_2flibonce_2fOutcome_3b rfl rfl (Nat.le_of_eq rfl) ?_
    rintro _ T18 L18 X18 ⟨rfl, N18q, e18⟩
    have N18 := Fr.app N17 N18q
    show GoE p e below _ (T18.setTop (mkF m 107 #[.val (.int q1), .val (.int q2), .val (.int q3), .val (.int q4), .val (.ref b1), .val (.int (1 : Int32)), .val (.ref b11), .val (.ref b15), .val (.int (0 : Int32))] [.ref b11, .int (0 : Int32)]))
    refine g_ifnonnull_yes X18 hx hby at_107 (by decide) (pc' := 114) (by decide) ?_
    refine g_iconst X18 hx hby at_114 (pc' := 115) rfl (z := (0 : Int32)) rfl ?_
    refine g_icmp_ne X18 hx hby at_115 (by decide) (pc' := 122) (by decide) (pn := 118) rfl (fun z => absurd z (by decide)) (fun _ => ?_)
    refine g_iconst X18 hx hby at_118 (pc' := 119) rfl (z := (1 : Int32)) rfl ?_
    refine g_goto X18 hx hby at_119 (by decide) (pc' := 123) (by decide) ?_
    exact g_retN (Q := (fun v h L => v = some (.int 1) ∧ Fr n0 L)) (w := (1 : Int32)) X18 hx hby at_123 hret (by simp) (by first | decide | rfl) hlk (by decide) (by decide) ⟨rfl, N18⟩
set_option maxRecDepth 65536 in
set_option maxHeartbeats 40000000 in
theorem comes_1 {Post : Tables → Env → Array Value → State → Outcome → State → Prop} (hpost : ∀ tb e args s v u, (limb_1_1.after args s (.returned v) u = true ∧ limb_1_2.after args s (.returned v) u = true ∧ True) → FrameEnd s (.returned v) u (Jvm.fieldLocs frame_1_writes args s ++ Jvm.arrayLocs frame_1_arrays args s ++ Jvm.staticLocs frame_1_statics s) 32 192 → Post tb e args s (.returned v) u) :
    ArmFor flags0 classFile x code maxLocals ret World_1 tables_1 room_1 Calls_1 rest_1 Pre_1 Post := by
  intro l hfl _ _ p e ha hc hk s m args below hf hA hF happ hP
  obtain ⟨hcalls, hrest, hpre⟩ := hP
  obtain ⟨-, -, -, hnamed, -, -, -, hat⟩ := (Spec.applies_iff hf).mp happ
  obtain ⟨hg, hn⟩ := and_e (Cond.before_iff.mp (show (Jvm.Cond.and given_1 narrow_1).before args s = true from hpre))
  obtain ⟨h1, g0⟩ := and_e hg
  obtain ⟨a0, g1⟩ := and_e g0
  obtain ⟨a1, g2⟩ := and_e g1
  obtain ⟨a2, g3⟩ := and_e g2
  have a3 := g3
  obtain ⟨u0, u1, u2, u3, rfl⟩ : ∃ u0 u1 u2 u3 : Value, args = #[u0, u1, u2, u3] := by
    have hs : args.size = 4 := by simpa [Cond.value, given_1] using h1
    obtain ⟨L⟩ := args
    match L, hs with
    | [u0, u1, u2, u3], _ => exact ⟨u0, u1, u2, u3, rfl⟩
  have hw := fun d (hd : d ∈ tables_1) => atoms_spec (ws := Jvm.Cond.code x code maxLocals ret :: tables_1) hat d (List.mem_cons_of_mem _ hd)
  have hfit : Fit s := fun {y c} hc i hi => by
    obtain ⟨ha, rfl⟩ := Array.getElem?_eq_some_iff.mp hc
    have q := List.all_eq_true.mp ((Array.all_eq_true_iff_forall_mem.mp hF) _ (Array.getElem_mem ha)) i (List.mem_range.mpr hi)
    simpa [Array.getElem?_eq_getElem hi] using q
  obtain ⟨i0, e0⟩ := is_v a0
  obtain rfl : u0 = (.int i0) := Option.some.inj e0
  obtain ⟨i1, e1⟩ := is_v a1
  obtain rfl : u1 = (.int i1) := Option.some.inj e1
  obtain ⟨i2, e2⟩ := is_v a2
  obtain rfl : u2 = (.int i2) := Option.some.inj e2
  obtain ⟨i3, e3⟩ := is_v a3
  obtain rfl : u3 = (.int i3) := Option.some.inj e3
  obtain ⟨c1, k1, mT, f1, f2, f3, f4⟩ := hcalls.1
  have M_T : Mir s "java/util/TreeMap" mT := ⟨c1, k1, f1, f2, f3, f4⟩
  obtain ⟨c2, k2, mU, g1, g2, g3, g4⟩ := hcalls.2.1
  have M_U : Mir s "java/util/Collections$UnmodifiableMap" mU := ⟨c2, k2, g1, g2, g3, g4⟩
  obtain ⟨n, o, h1, h2, h3, _, L, rfl, ⟨rfl, N⟩, hq⟩ := rm0 l s _ hw tables_1 i0 i1 i2 i3  s.heap s.heap.size mT mU M_T M_U (Nat.le_refl _) p e ha hc hk s m _ below hf ((Spec.applies_iff_loose hf).mp happ).1 ⟨rfl, State.Warmed39.refl s, rfl⟩ trivial
  refine ⟨n, _, h1, h2, h3, hpost _ _ _ _ _ _ ⟨Cond.after_iff.mpr rfl, Cond.after_iff.mpr (eq_i res_at (Term.int_eval (1)) rfl), trivial⟩ ⟨hq.1, hq.2.1, (hq.2.2.sift fun y hy => Or.inr (N y hy)).mono (by decide) (by decide)⟩⟩
theorem main_1_1 : Claimed_1_1 := comes_1 fun _ _ _ _ _ _ h hF => ⟨h.1, hF⟩
theorem main_1_2 : Claimed_1_2 := comes_1 fun _ _ _ _ _ _ h hF => ⟨h.2.1, hF⟩
end Jvm.Pilot.@@N@@
namespace Jvm.Pilot.@@N@@
open Jvm Jvm.ClassFile Sem Op Lib Jvm.Free Jvm.Stand Jvm.Pilot.@@N@@.Jvm.D
/-! MADE BY PROGRAM (witnessworld.py) out of the Statement's table words and the real class files: 28 classes; the members and pool entries that the words name. The judged class is class 1, her method 1. -/
namespace start1
open Jvm.ClassFile
def u (s : String) : CpInfo := .utf8 (stringToUtf16 s)
/-- a pool by its gaps: so many unusable entries, then the entry; so many at the end -/
def gap : Nat → List CpInfo → List CpInfo
  | 0, r => r
  | n + 1, r => .unusable :: gap n r
def poolList (es : List (Nat × CpInfo)) (last : Nat) : List CpInfo := es.foldr (fun e r => gap e.1 (e.2 :: r)) (gap last [])
def pool (es : List (Nat × CpInfo)) (last : Nat) : Array CpInfo := ⟨poolList es last⟩
def fileOf (pool : Array CpInfo) (this : Nat) (attrs : Array Attribute := #[]) (ms : Array MethodInfo := #[]) (fl : Nat := 33) (sup : Nat := 0) (ifs : Array Nat := #[]) (fds : Array FieldInfo := #[]) : ClassFile where
  minorVersion := 0
  majorVersion := 65
  constantPool := pool
  accessFlags := fl
  thisClass := this
  superClass := sup
  interfaces := ifs
  fields := fds
  methods := ms
  attributes := attrs
def plain (name : String) (sup : Option ClassId) : Class where
  name := name
  kind := .ordinary
  loader := none
  accessFlags := 33
  super := sup
  interfaces := #[]
  cf := none
  fields := #[]
  methods := #[]
  instanceTypes := #[]
  staticTypes := #[]
  resolved := #[]
  callSites := []
  init := .initialized
  statics := none
  mirror := none

def pool0 : Array CpInfo := pool [(5, u "<init>"), (0, u "()V"), (1, .class_ 10), (1, u "java/lang/Object"), (0, u "getClass"), (0, u "()Ljava/lang/Class;"), (83, u "clone"), (0, u "()Ljava/lang/Object;")] 26

def k0c0 : Code := { maxStack := 0, maxLocals := 1, code := object_method_1_code, exceptionTable := #[], attributes := #[] }
def k0m0 : Method := { name := "<init>", desc := "()V", sig := { parameters := [], returnType := none }, accessFlags := 1, code := some k0c0 }
def k0m1 : Method := { name := "getClass", desc := "()Ljava/lang/Class;", sig := { parameters := [], returnType := some (.object "java/lang/Class") }, accessFlags := 273, code := none }
def k0m2 : Method := { name := "clone", desc := "()Ljava/lang/Object;", sig := { parameters := [], returnType := some (.object "java/lang/Object") }, accessFlags := 260, code := none }
/-- java/lang/Object -/
def k0 : Class := { plain "java/lang/Object" none with
  accessFlags := 33
  interfaces := #[]
  cf := some (fileOf pool0 8 #[] #[{ accessFlags := 1, nameIndex := 5, descriptorIndex := 6, attributes := #[] }, { accessFlags := 273, nameIndex := 11, descriptorIndex := 12, attributes := #[] }, { accessFlags := 260, nameIndex := 96, descriptorIndex := 97, attributes := #[] }] 33 0 #[] #[])
  fields := #[]
  methods := #[k0m0, k0m1, k0m2]
  instanceTypes := #[]
  staticTypes := #[]
  resolved := Array.replicate 124 none
  statics := none }

def pool1 : Array CpInfo := pool [(2, .class_ 4), (0, .nameAndType 5 6), (0, u "java/lang/Object"), (0, u "<init>"), (0, u "()V"), (0, .class_ 8), (0, u "com/example/libonce/libonce/Outcome"), (0, .class_ 10), (0, u "java/util/TreeMap"), (0, .methodref 9 3), (0, .methodref 7 13), (0, .nameAndType 5 14), (0, u "(ILjava/util/Map;[B)V"), (0, .class_ 16), (0, u "com/example/libonce/libonce/KeyRecord"), (0, .methodref 15 18), (0, .nameAndType 5 19), (0, u "([BLcom/example/libonce/libonce/Outcome;)V"), (0, .methodref 15 21), (0, .nameAndType 22 23), (0, u "isRunning"), (0, u "()Z"), (0, .methodref 15 25), (0, .nameAndType 26 27), (0, u "outcome"), (0, u "()Lcom/example/libonce/libonce/Outcome;"), (0, .class_ 29), (0, u "com/example/libonce/libonce/KeyRecordIsRunningPinLaw"), (2, u "law"), (0, u "(IIII)Z")] 5

def k1m0 : Method := { name := "<init>", desc := "()V", sig := { parameters := [], returnType := none }, accessFlags := 1, code := none }
def k1c1 : Code := { maxStack := 5, maxLocals := 9, code := code, exceptionTable := #[], attributes := #[] }
def k1m1 : Method := { name := "law", desc := "(IIII)Z", sig := { parameters := [.int, .int, .int, .int], returnType := some .boolean }, accessFlags := 9, code := some k1c1 }
/-- com/example/libonce/libonce/KeyRecordIsRunningPinLaw -/
def k1 : Class := { plain "com/example/libonce/libonce/KeyRecordIsRunningPinLaw" (some 0) with
  accessFlags := 49
  interfaces := #[]
  cf := some (fileOf pool1 28 #[] #[{ accessFlags := 1, nameIndex := 5, descriptorIndex := 6, attributes := #[] }, { accessFlags := 9, nameIndex := 32, descriptorIndex := 33, attributes := #[] }] 49 2 #[] #[])
  fields := #[]
  methods := #[k1m0, k1m1]
  instanceTypes := #[]
  staticTypes := #[]
  resolved := Array.replicate 39 none
  statics := none }

def pool2 : Array CpInfo := pool [(1, .methodref 2 3), (0, .class_ 4), (0, .nameAndType 5 6), (0, u "java/lang/Object"), (0, u "<init>"), (0, u "()V"), (0, .methodref 8 9), (0, .class_ 10), (0, .nameAndType 11 12), (0, u "[B"), (0, u "clone"), (0, u "()Ljava/lang/Object;"), (0, .fieldref 14 15), (0, .class_ 16), (0, .nameAndType 17 10), (0, u "com/example/libonce/libonce/KeyRecord"), (0, u "_requestDigest"), (0, .fieldref 14 19), (0, .nameAndType 20 21), (0, u "_outcome"), (0, u "Lcom/example/libonce/libonce/Outcome;"), (6, u "([BLcom/example/libonce/libonce/Outcome;)V"), (4, u "isRunning"), (0, u "()Z"), (1, u "outcome"), (0, u "()Lcom/example/libonce/libonce/Outcome;")] 2

def k2c0 : Code := { maxStack := 2, maxLocals := 3, code := prog_6_method_1_code, exceptionTable := #[], attributes := #[] }
def k2m0 : Method := { name := "<init>", desc := "([BLcom/example/libonce/libonce/Outcome;)V", sig := { parameters := [(.array .byte), (.object "com/example/libonce/libonce/Outcome")], returnType := none }, accessFlags := 1, code := some k2c0 }
def k2c1 : Code := { maxStack := 1, maxLocals := 1, code := prog_6_method_3_code, exceptionTable := #[], attributes := #[] }
def k2m1 : Method := { name := "isRunning", desc := "()Z", sig := { parameters := [], returnType := some .boolean }, accessFlags := 1, code := some k2c1 }
def k2c2 : Code := { maxStack := 1, maxLocals := 1, code := prog_6_method_4_code, exceptionTable := #[], attributes := #[] }
def k2m2 : Method := { name := "outcome", desc := "()Lcom/example/libonce/libonce/Outcome;", sig := { parameters := [], returnType := some (.object "com/example/libonce/libonce/Outcome") }, accessFlags := 1, code := some k2c2 }
/-- com/example/libonce/libonce/KeyRecord -/
def k2 : Class := { plain "com/example/libonce/libonce/KeyRecord" (some 0) with
  accessFlags := 33
  interfaces := #[]
  cf := some (fileOf pool2 14 #[] #[{ accessFlags := 1, nameIndex := 5, descriptorIndex := 28, attributes := #[] }, { accessFlags := 1, nameIndex := 33, descriptorIndex := 34, attributes := #[] }, { accessFlags := 1, nameIndex := 36, descriptorIndex := 37, attributes := #[] }] 33 2 #[] #[{ accessFlags := 18, nameIndex := 17, descriptorIndex := 10, attributes := #[] }, { accessFlags := 18, nameIndex := 20, descriptorIndex := 21, attributes := #[] }])
  fields := #[{ name := "_requestDigest", type := (.array .byte), accessFlags := 18, slot := 0, constantValue := 0 }, { name := "_outcome", type := (.object "com/example/libonce/libonce/Outcome"), accessFlags := 18, slot := 1, constantValue := 0 }]
  methods := #[k2m0, k2m1, k2m2]
  instanceTypes := #[(.array .byte), (.object "com/example/libonce/libonce/Outcome")]
  staticTypes := #[]
  resolved := Array.replicate 40 none
  statics := none }

def pool3 : Array CpInfo := pool [(1, .class_ 2), (0, u "java/lang/Cloneable"), (0, .class_ 4), (0, u "java/lang/Object")] 2

/-- java/lang/Cloneable -/
def k3 : Class := { plain "java/lang/Cloneable" (some 0) with
  accessFlags := 1537
  interfaces := #[]
  cf := some (fileOf pool3 1 #[] #[] 1537 3 #[] #[])
  fields := #[]
  methods := #[]
  instanceTypes := #[]
  staticTypes := #[]
  resolved := Array.replicate 7 none
  statics := none }

def pool4 : Array CpInfo := pool [(1, .methodref 2 3), (0, .class_ 4), (0, .nameAndType 5 6), (0, u "java/lang/Object"), (0, u "<init>"), (0, u "()V"), (0, .class_ 8), (0, u "java/util/TreeMap"), (0, .methodref 7 3), (0, .interfaceMethodref 11 12), (0, .class_ 13), (0, .nameAndType 14 15), (0, u "java/util/Map"), (0, u "entrySet"), (0, u "()Ljava/util/Set;"), (0, .interfaceMethodref 17 18), (0, .class_ 19), (0, .nameAndType 20 21), (0, u "java/util/Set"), (0, u "iterator"), (0, u "()Ljava/util/Iterator;"), (0, .interfaceMethodref 23 24), (0, .class_ 25), (0, .nameAndType 26 27), (0, u "java/util/Iterator"), (0, u "hasNext"), (0, u "()Z"), (3, u "()Ljava/lang/Object;"), (24, .fieldref 57 58), (0, .class_ 59), (0, .nameAndType 60 61), (0, u "com/example/libonce/libonce/Outcome"), (0, u "_status"), (0, u "I"), (0, .methodref 63 64), (0, .class_ 65), (0, .nameAndType 66 67), (0, u "java/util/Collections"), (0, u "unmodifiableMap"), (0, u "(Ljava/util/Map;)Ljava/util/Map;"), (0, .fieldref 57 69), (0, .nameAndType 70 71), (0, u "_attributes"), (0, u "Ljava/util/Map;"), (0, .methodref 73 74), (0, .class_ 75), (0, .nameAndType 76 31), (0, u "[B"), (0, u "clone"), (0, .fieldref 57 78), (0, .nameAndType 79 75), (0, u "_body"), (36, u "(ILjava/util/Map;[B)V")] 31

def k4c0 : Code := { maxStack := 4, maxLocals := 7, code := prog_8_method_1_code, exceptionTable := #[], attributes := #[] }
def k4m0 : Method := { name := "<init>", desc := "(ILjava/util/Map;[B)V", sig := { parameters := [.int, (.object "java/util/Map"), (.array .byte)], returnType := none }, accessFlags := 1, code := some k4c0 }
/-- com/example/libonce/libonce/Outcome -/
def k4 : Class := { plain "com/example/libonce/libonce/Outcome" (some 0) with
  accessFlags := 33
  interfaces := #[]
  cf := some (fileOf pool4 57 #[] #[{ accessFlags := 1, nameIndex := 5, descriptorIndex := 116, attributes := #[] }] 33 2 #[] #[{ accessFlags := 18, nameIndex := 60, descriptorIndex := 61, attributes := #[] }, { accessFlags := 18, nameIndex := 70, descriptorIndex := 71, attributes := #[] }, { accessFlags := 18, nameIndex := 79, descriptorIndex := 75, attributes := #[] }])
  fields := #[{ name := "_status", type := .int, accessFlags := 18, slot := 0, constantValue := 0 }, { name := "_attributes", type := (.object "java/util/Map"), accessFlags := 18, slot := 1, constantValue := 0 }, { name := "_body", type := (.array .byte), accessFlags := 18, slot := 2, constantValue := 0 }]
  methods := #[k4m0]
  instanceTypes := #[.int, (.object "java/util/Map"), (.array .byte)]
  staticTypes := #[]
  resolved := Array.replicate 148 none
  statics := none }

def pool5 : Array CpInfo := pool [(2, .class_ 4), (1, u "java/util/Map"), (13, u "entrySet"), (0, u "()Ljava/util/Set;"), (16, .class_ 37), (0, u "java/util/Map$Entry"), (55, .class_ 94), (0, u "java/lang/Object")] 168

def k5m0 : Method := { name := "entrySet", desc := "()Ljava/util/Set;", sig := { parameters := [], returnType := some (.object "java/util/Set") }, accessFlags := 1025, code := none }
/-- java/util/Map -/
def k5 : Class := { plain "java/util/Map" (some 0) with
  accessFlags := 1537
  interfaces := #[]
  cf := some (fileOf pool5 2 #[.nestMembers #[36]] #[{ accessFlags := 1025, nameIndex := 18, descriptorIndex := 19, attributes := #[] }] 1537 93 #[] #[])
  fields := #[]
  methods := #[k5m0]
  instanceTypes := #[]
  staticTypes := #[]
  resolved := Array.replicate 263 none
  statics := none }

def pool6 : Array CpInfo := pool [(1, .methodref 2 3), (0, .class_ 4), (0, .nameAndType 5 6), (0, u "java/lang/Object"), (0, u "<init>"), (0, u "()V"), (1, .class_ 10), (1, u "java/util/AbstractMap"), (42, .class_ 54), (0, u "java/util/Map"), (9, u "keySet"), (0, u "Ljava/util/Set;"), (0, .class_ 67), (0, u "java/util/AbstractMap$1"), (5, u "values"), (0, u "Ljava/util/Collection;"), (0, .class_ 76), (0, u "java/util/AbstractMap$2"), (104, .class_ 182), (0, u "java/util/AbstractMap$ViewCollection"), (0, .class_ 184), (0, u "java/util/AbstractMap$SimpleImmutableEntry"), (0, .class_ 186), (0, u "java/util/AbstractMap$SimpleEntry"), (0, .class_ 188), (0, u "java/util/AbstractMap$2$1"), (0, .class_ 190), (0, u "java/util/AbstractMap$1$1")] 5

def k6c0 : Code := { maxStack := 1, maxLocals := 1, code := jdk_71_method_1_code, exceptionTable := #[], attributes := #[] }
def k6m0 : Method := { name := "<init>", desc := "()V", sig := { parameters := [], returnType := none }, accessFlags := 4, code := some k6c0 }
/-- java/util/AbstractMap -/
def k6 : Class := { plain "java/util/AbstractMap" (some 0) with
  accessFlags := 1057
  interfaces := #[5]
  cf := some (fileOf pool6 8 #[.nestMembers #[181, 183, 185, 75, 187, 66, 189]] #[{ accessFlags := 4, nameIndex := 5, descriptorIndex := 6, attributes := #[] }] 1057 2 #[53] #[{ accessFlags := 128, nameIndex := 64, descriptorIndex := 65, attributes := #[] }, { accessFlags := 128, nameIndex := 73, descriptorIndex := 74, attributes := #[] }])
  fields := #[{ name := "keySet", type := (.object "java/util/Set"), accessFlags := 128, slot := 0, constantValue := 0 }, { name := "values", type := (.object "java/util/Collection"), accessFlags := 128, slot := 1, constantValue := 0 }]
  methods := #[k6m0]
  instanceTypes := #[(.object "java/util/Set"), (.object "java/util/Collection")]
  staticTypes := #[]
  resolved := Array.replicate 196 none
  statics := none }

def pool7 : Array CpInfo := pool [(2, .class_ 4), (1, u "java/util/SequencedMap"), (38, .class_ 44), (0, u "java/util/SequencedMap$1SeqKeySet"), (3, .class_ 49), (0, u "java/util/SequencedMap$1SeqValues"), (1, .class_ 52), (0, u "java/util/SequencedMap$1SeqEntrySet"), (1, .class_ 55), (0, u "java/lang/Object"), (0, .class_ 57), (0, u "java/util/Map")] 48

/-- java/util/SequencedMap -/
def k7 : Class := { plain "java/util/SequencedMap" (some 0) with
  accessFlags := 1537
  interfaces := #[5]
  cf := some (fileOf pool7 2 #[.nestMembers #[51, 48, 43]] #[] 1537 54 #[56] #[])
  fields := #[]
  methods := #[]
  instanceTypes := #[]
  staticTypes := #[]
  resolved := Array.replicate 106 none
  statics := none }

def pool8 : Array CpInfo := pool [(14, .class_ 16), (1, u "java/util/SortedMap"), (2, .class_ 20), (0, u "java/lang/Object"), (0, .class_ 22), (0, u "java/util/SequencedMap")] 50

/-- java/util/SortedMap -/
def k8 : Class := { plain "java/util/SortedMap" (some 0) with
  accessFlags := 1537
  interfaces := #[7]
  cf := some (fileOf pool8 14 #[] #[] 1537 19 #[21] #[])
  fields := #[]
  methods := #[]
  instanceTypes := #[]
  staticTypes := #[]
  resolved := Array.replicate 73 none
  statics := none }

def pool9 : Array CpInfo := pool [(2, .class_ 4), (1, u "java/util/NavigableMap"), (5, .class_ 11), (0, u "java/lang/Object"), (0, .class_ 13), (0, u "java/util/SortedMap")] 53

/-- java/util/NavigableMap -/
def k9 : Class := { plain "java/util/NavigableMap" (some 0) with
  accessFlags := 1537
  interfaces := #[8]
  cf := some (fileOf pool9 2 #[] #[] 1537 10 #[12] #[])
  fields := #[]
  methods := #[]
  instanceTypes := #[]
  staticTypes := #[]
  resolved := Array.replicate 67 none
  statics := none }

def pool10 : Array CpInfo := pool [(1, .class_ 2), (0, u "java/io/Serializable"), (0, .class_ 4), (0, u "java/lang/Object")] 2

/-- java/io/Serializable -/
def k10 : Class := { plain "java/io/Serializable" (some 0) with
  accessFlags := 1537
  interfaces := #[]
  cf := some (fileOf pool10 1 #[] #[] 1537 3 #[] #[])
  fields := #[]
  methods := #[]
  instanceTypes := #[]
  staticTypes := #[]
  resolved := Array.replicate 7 none
  statics := none }

def pool11 : Array CpInfo := pool [(1, .methodref 2 3), (0, .class_ 4), (0, .nameAndType 5 6), (0, u "java/util/AbstractMap"), (0, u "<init>"), (0, u "()V"), (0, .fieldref 8 9), (0, .class_ 10), (0, .nameAndType 11 12), (0, u "java/util/TreeMap"), (0, u "size"), (0, u "I"), (0, .fieldref 8 14), (0, .nameAndType 15 12), (0, u "modCount"), (0, .fieldref 8 17), (0, .nameAndType 18 19), (0, u "comparator"), (0, u "Ljava/util/Comparator;"), (14, u "entrySet"), (0, u "()Ljava/util/Set;"), (20, u "getFirstEntry"), (0, u "()Ljava/util/TreeMap$Entry;"), (1, .class_ 61), (1, u "java/util/TreeMap$Entry"), (1, u "Ljava/lang/Object;"), (37, .fieldref 8 102), (0, .nameAndType 103 104), (0, u "root"), (0, u "Ljava/util/TreeMap$Entry;"), (83, .fieldref 8 189), (0, .nameAndType 34 190), (0, u "Ljava/util/TreeMap$EntrySet;"), (2, u "navigableKeySet"), (0, u "Ljava/util/TreeMap$KeySet;"), (2, u "descendingMap"), (0, u "Ljava/util/NavigableMap;"), (23, .class_ 223), (0, u "java/util/TreeMap$KeySet"), (7, .class_ 232), (0, u "java/util/NavigableMap"), (4, .class_ 238), (0, u "java/util/TreeMap$Values"), (1, .nameAndType 5 241), (0, u "(Ljava/util/TreeMap;)V"), (0, .class_ 243), (0, u "java/util/TreeMap$EntrySet"), (0, .methodref 242 240), (0, .class_ 246), (0, u "java/util/TreeMap$DescendingSubMap"), (3, .class_ 251), (0, u "java/util/TreeMap$AscendingSubMap"), (17, .class_ 270), (0, u "java/util/TreeMap$KeyIterator"), (3, .class_ 275), (0, u "java/util/TreeMap$DescendingKeyIterator"), (17, u "Z"), (94, .class_ 389), (0, u "java/util/TreeMap$NavigableSubMap"), (1, .class_ 392), (0, u "java/util/TreeMap$KeySpliterator"), (3, .class_ 397), (0, u "java/util/TreeMap$DescendingKeySpliterator"), (4, u "UNBOUNDED"), (0, .class_ 404), (0, u "java/lang/Cloneable"), (0, .class_ 406), (0, u "java/io/Serializable"), (6, u "RED"), (2, u "BLACK"), (1, u "serialVersionUID"), (0, u "J"), (214, .class_ 635), (0, u "java/util/TreeMap$EntrySpliterator"), (0, .class_ 637), (0, u "java/util/TreeMap$ValueSpliterator"), (0, .class_ 639), (0, u "java/util/TreeMap$TreeMapSpliterator"), (0, .class_ 641), (0, u "java/util/TreeMap$SubMap"), (0, .class_ 643), (0, u "java/util/TreeMap$DescendingSubMap$DescendingEntrySetView"), (0, .class_ 645), (0, u "java/util/TreeMap$AscendingSubMap$AscendingEntrySetView"), (0, .class_ 647), (0, u "java/util/TreeMap$NavigableSubMap$DescendingSubMapKeyIterator"), (0, .class_ 649), (0, u "java/util/TreeMap$NavigableSubMap$SubMapKeyIterator"), (0, .class_ 651), (0, u "java/util/TreeMap$NavigableSubMap$DescendingSubMapEntryIterator"), (0, .class_ 653), (0, u "java/util/TreeMap$NavigableSubMap$SubMapEntryIterator"), (0, .class_ 655), (0, u "java/util/TreeMap$NavigableSubMap$SubMapIterator"), (0, .class_ 657), (0, u "java/util/TreeMap$NavigableSubMap$EntrySetView"), (0, .class_ 659), (0, u "java/util/TreeMap$ValueIterator"), (0, .class_ 661), (0, u "java/util/TreeMap$EntryIterator"), (0, .class_ 663), (0, u "java/util/TreeMap$PrivateEntryIterator")] 28

def k11c0 : Code := { maxStack := 2, maxLocals := 1, code := jdk_2729_method_1_code, exceptionTable := #[], attributes := #[] }
def k11m0 : Method := { name := "<init>", desc := "()V", sig := { parameters := [], returnType := none }, accessFlags := 1, code := some k11c0 }
def k11c1 : Code := { maxStack := 4, maxLocals := 2, code := jdk_2729_method_53_code, exceptionTable := #[], attributes := #[] }
def k11m1 : Method := { name := "entrySet", desc := "()Ljava/util/Set;", sig := { parameters := [], returnType := some (.object "java/util/Set") }, accessFlags := 1, code := some k11c1 }
def k11c2 : Code := { maxStack := 1, maxLocals := 2, code := jdk_2729_method_72_code, exceptionTable := #[], attributes := #[] }
def k11m2 : Method := { name := "getFirstEntry", desc := "()Ljava/util/TreeMap$Entry;", sig := { parameters := [], returnType := some (.object "java/util/TreeMap$Entry") }, accessFlags := 16, code := some k11c2 }
/-- java/util/TreeMap -/
def k11 : Class := { plain "java/util/TreeMap" (some 6) with
  accessFlags := 33
  interfaces := #[9, 3, 10]
  cf := some (fileOf pool11 8 #[.nestMembers #[634, 636, 396, 391, 638, 59, 640, 245, 642, 250, 644, 388, 646, 648, 650, 652, 654, 656, 274, 269, 658, 660, 662, 222, 242, 237]] #[{ accessFlags := 1, nameIndex := 5, descriptorIndex := 6, attributes := #[] }, { accessFlags := 1, nameIndex := 34, descriptorIndex := 35, attributes := #[] }, { accessFlags := 16, nameIndex := 56, descriptorIndex := 57, attributes := #[] }] 33 2 #[231, 403, 405] #[{ accessFlags := 18, nameIndex := 18, descriptorIndex := 19, attributes := #[] }, { accessFlags := 130, nameIndex := 103, descriptorIndex := 104, attributes := #[] }, { accessFlags := 130, nameIndex := 11, descriptorIndex := 12, attributes := #[] }, { accessFlags := 130, nameIndex := 15, descriptorIndex := 12, attributes := #[] }, { accessFlags := 130, nameIndex := 34, descriptorIndex := 190, attributes := #[] }, { accessFlags := 130, nameIndex := 193, descriptorIndex := 194, attributes := #[] }, { accessFlags := 130, nameIndex := 197, descriptorIndex := 198, attributes := #[] }, { accessFlags := 26, nameIndex := 402, descriptorIndex := 63, attributes := #[] }, { accessFlags := 26, nameIndex := 413, descriptorIndex := 293, attributes := #[] }, { accessFlags := 26, nameIndex := 416, descriptorIndex := 293, attributes := #[] }, { accessFlags := 26, nameIndex := 418, descriptorIndex := 419, attributes := #[] }])
  fields := #[{ name := "comparator", type := (.object "java/util/Comparator"), accessFlags := 18, slot := 2, constantValue := 0 }, { name := "root", type := (.object "java/util/TreeMap$Entry"), accessFlags := 130, slot := 3, constantValue := 0 }, { name := "size", type := .int, accessFlags := 130, slot := 4, constantValue := 0 }, { name := "modCount", type := .int, accessFlags := 130, slot := 5, constantValue := 0 }, { name := "entrySet", type := (.object "java/util/TreeMap$EntrySet"), accessFlags := 130, slot := 6, constantValue := 0 }, { name := "navigableKeySet", type := (.object "java/util/TreeMap$KeySet"), accessFlags := 130, slot := 7, constantValue := 0 }, { name := "descendingMap", type := (.object "java/util/NavigableMap"), accessFlags := 130, slot := 8, constantValue := 0 }, { name := "UNBOUNDED", type := (.object "java/lang/Object"), accessFlags := 26, slot := 0, constantValue := 0 }, { name := "RED", type := .boolean, accessFlags := 26, slot := 1, constantValue := 0 }, { name := "BLACK", type := .boolean, accessFlags := 26, slot := 2, constantValue := 0 }, { name := "serialVersionUID", type := .long, accessFlags := 26, slot := 3, constantValue := 0 }]
  methods := #[k11m0, k11m1, k11m2]
  instanceTypes := #[(.object "java/util/Set"), (.object "java/util/Collection"), (.object "java/util/Comparator"), (.object "java/util/TreeMap$Entry"), .int, .int, (.object "java/util/TreeMap$EntrySet"), (.object "java/util/TreeMap$KeySet"), (.object "java/util/NavigableMap")]
  staticTypes := #[(.object "java/lang/Object"), .boolean, .boolean, .long]
  resolved := Array.replicate 692 none
  mirror := some 0
  statics := none }

def pool12 : Array CpInfo := pool [(8, .class_ 10), (1, u "java/lang/Iterable"), (24, .class_ 36), (0, u "java/lang/Object")] 25

/-- java/lang/Iterable -/
def k12 : Class := { plain "java/lang/Iterable" (some 0) with
  accessFlags := 1537
  interfaces := #[]
  cf := some (fileOf pool12 8 #[] #[] 1537 35 #[] #[])
  fields := #[]
  methods := #[]
  instanceTypes := #[]
  staticTypes := #[]
  resolved := Array.replicate 62 none
  statics := none }

def pool13 : Array CpInfo := pool [(10, .class_ 12), (1, u "java/util/Collection"), (47, .class_ 61), (0, u "java/lang/Object"), (0, .class_ 63), (0, u "java/lang/Iterable")] 51

/-- java/util/Collection -/
def k13 : Class := { plain "java/util/Collection" (some 0) with
  accessFlags := 1537
  interfaces := #[12]
  cf := some (fileOf pool13 10 #[] #[] 1537 60 #[62] #[])
  fields := #[]
  methods := #[]
  instanceTypes := #[]
  staticTypes := #[]
  resolved := Array.replicate 115 none
  statics := none }

def pool14 : Array CpInfo := pool [(1, .methodref 2 3), (0, .class_ 4), (0, .nameAndType 5 6), (0, u "java/lang/Object"), (0, u "<init>"), (0, u "()V"), (1, .class_ 10), (1, u "java/util/AbstractCollection"), (66, .class_ 78), (0, u "java/util/Collection")] 81

def k14c0 : Code := { maxStack := 1, maxLocals := 1, code := jdk_22_method_1_code, exceptionTable := #[], attributes := #[] }
def k14m0 : Method := { name := "<init>", desc := "()V", sig := { parameters := [], returnType := none }, accessFlags := 4, code := some k14c0 }
/-- java/util/AbstractCollection -/
def k14 : Class := { plain "java/util/AbstractCollection" (some 0) with
  accessFlags := 1057
  interfaces := #[13]
  cf := some (fileOf pool14 8 #[] #[{ accessFlags := 4, nameIndex := 5, descriptorIndex := 6, attributes := #[] }] 1057 2 #[77] #[])
  fields := #[]
  methods := #[k14m0]
  instanceTypes := #[]
  staticTypes := #[]
  resolved := Array.replicate 160 none
  statics := none }

def pool15 : Array CpInfo := pool [(26, .class_ 27), (0, u "java/lang/Object"), (5, .class_ 34), (0, u "java/util/Set"), (1, .class_ 38), (1, u "java/util/Collection"), (22, u "iterator"), (0, u "()Ljava/util/Iterator;")] 81

def k15m0 : Method := { name := "iterator", desc := "()Ljava/util/Iterator;", sig := { parameters := [], returnType := some (.object "java/util/Iterator") }, accessFlags := 1025, code := none }
/-- java/util/Set -/
def k15 : Class := { plain "java/util/Set" (some 0) with
  accessFlags := 1537
  interfaces := #[13]
  cf := some (fileOf pool15 33 #[] #[{ accessFlags := 1025, nameIndex := 61, descriptorIndex := 62, attributes := #[] }] 1537 26 #[36] #[])
  fields := #[]
  methods := #[k15m0]
  instanceTypes := #[]
  staticTypes := #[]
  resolved := Array.replicate 144 none
  statics := none }

def pool16 : Array CpInfo := pool [(1, .methodref 2 3), (0, .class_ 4), (0, .nameAndType 5 6), (0, u "java/util/AbstractCollection"), (0, u "<init>"), (0, u "()V"), (0, .class_ 8), (0, u "java/util/Set"), (7, .class_ 17), (0, u "java/util/AbstractSet")] 78

def k16c0 : Code := { maxStack := 1, maxLocals := 1, code := jdk_91_method_1_code, exceptionTable := #[], attributes := #[] }
def k16m0 : Method := { name := "<init>", desc := "()V", sig := { parameters := [], returnType := none }, accessFlags := 4, code := some k16c0 }
/-- java/util/AbstractSet -/
def k16 : Class := { plain "java/util/AbstractSet" (some 14) with
  accessFlags := 1057
  interfaces := #[15]
  cf := some (fileOf pool16 16 #[] #[{ accessFlags := 4, nameIndex := 5, descriptorIndex := 6, attributes := #[] }] 1057 2 #[7] #[])
  fields := #[]
  methods := #[k16m0]
  instanceTypes := #[]
  staticTypes := #[]
  resolved := Array.replicate 96 none
  statics := none }

def pool17 : Array CpInfo := pool [(1, .fieldref 2 3), (0, .class_ 4), (0, .nameAndType 5 6), (0, u "java/util/TreeMap$EntrySet"), (0, u "this$0"), (0, u "Ljava/util/TreeMap;"), (0, .methodref 8 9), (0, .class_ 10), (0, .nameAndType 11 12), (0, u "java/util/AbstractSet"), (0, u "<init>"), (0, u "()V"), (0, .class_ 14), (0, u "java/util/TreeMap$EntryIterator"), (0, .methodref 16 17), (0, .class_ 18), (0, .nameAndType 19 20), (0, u "java/util/TreeMap"), (0, u "getFirstEntry"), (0, u "()Ljava/util/TreeMap$Entry;"), (0, .methodref 13 22), (0, .nameAndType 11 23), (0, u "(Ljava/util/TreeMap;Ljava/util/TreeMap$Entry;)V"), (36, u "(Ljava/util/TreeMap;)V"), (8, u "iterator"), (0, u "()Ljava/util/Iterator;")] 31

def k17c0 : Code := { maxStack := 2, maxLocals := 2, code := jdk_2738_method_1_code, exceptionTable := #[], attributes := #[] }
def k17m0 : Method := { name := "<init>", desc := "(Ljava/util/TreeMap;)V", sig := { parameters := [(.object "java/util/TreeMap")], returnType := none }, accessFlags := 0, code := some k17c0 }
def k17c1 : Code := { maxStack := 4, maxLocals := 1, code := jdk_2738_method_2_code, exceptionTable := #[], attributes := #[] }
def k17m1 : Method := { name := "iterator", desc := "()Ljava/util/Iterator;", sig := { parameters := [], returnType := some (.object "java/util/Iterator") }, accessFlags := 1, code := some k17c1 }
/-- java/util/TreeMap$EntrySet -/
def k17 : Class := { plain "java/util/TreeMap$EntrySet" (some 16) with
  accessFlags := 32
  interfaces := #[]
  cf := some (fileOf pool17 2 #[.nestHost 16] #[{ accessFlags := 0, nameIndex := 11, descriptorIndex := 60, attributes := #[] }, { accessFlags := 1, nameIndex := 69, descriptorIndex := 70, attributes := #[] }] 32 8 #[] #[{ accessFlags := 4112, nameIndex := 5, descriptorIndex := 6, attributes := #[] }])
  fields := #[{ name := "this$0", type := (.object "java/util/TreeMap"), accessFlags := 4112, slot := 0, constantValue := 0 }]
  methods := #[k17m0, k17m1]
  instanceTypes := #[(.object "java/util/TreeMap")]
  staticTypes := #[]
  resolved := Array.replicate 102 none
  statics := none }

def pool18 : Array CpInfo := pool [(16, .class_ 18), (1, u "java/util/Iterator"), (0, u "hasNext"), (0, u "()Z"), (10, .class_ 32), (0, u "java/lang/Object")] 20

def k18m0 : Method := { name := "hasNext", desc := "()Z", sig := { parameters := [], returnType := some .boolean }, accessFlags := 1025, code := none }
/-- java/util/Iterator -/
def k18 : Class := { plain "java/util/Iterator" (some 0) with
  accessFlags := 1537
  interfaces := #[]
  cf := some (fileOf pool18 16 #[] #[{ accessFlags := 1025, nameIndex := 19, descriptorIndex := 20, attributes := #[] }] 1537 31 #[] #[])
  fields := #[]
  methods := #[k18m0]
  instanceTypes := #[]
  staticTypes := #[]
  resolved := Array.replicate 53 none
  statics := none }

def pool19 : Array CpInfo := pool [(1, .fieldref 2 3), (0, .class_ 4), (0, .nameAndType 5 6), (0, u "java/util/TreeMap$PrivateEntryIterator"), (0, u "this$0"), (0, u "Ljava/util/TreeMap;"), (0, .methodref 8 9), (0, .class_ 10), (0, .nameAndType 11 12), (0, u "java/lang/Object"), (0, u "<init>"), (0, u "()V"), (0, .fieldref 14 15), (0, .class_ 16), (0, .nameAndType 17 18), (0, u "java/util/TreeMap"), (0, u "modCount"), (0, u "I"), (0, .fieldref 2 20), (0, .nameAndType 21 18), (0, u "expectedModCount"), (0, .fieldref 2 23), (0, .nameAndType 24 25), (0, u "lastReturned"), (0, u "Ljava/util/TreeMap$Entry;"), (0, .fieldref 2 27), (0, .nameAndType 28 25), (0, u "next"), (28, .class_ 58), (0, u "java/util/Iterator"), (2, u "(Ljava/util/TreeMap;Ljava/util/TreeMap$Entry;)V"), (10, u "hasNext"), (0, u "()Z")] 14

def k19c0 : Code := { maxStack := 2, maxLocals := 3, code := jdk_2750_method_1_code, exceptionTable := #[], attributes := #[] }
def k19m0 : Method := { name := "<init>", desc := "(Ljava/util/TreeMap;Ljava/util/TreeMap$Entry;)V", sig := { parameters := [(.object "java/util/TreeMap"), (.object "java/util/TreeMap$Entry")], returnType := none }, accessFlags := 0, code := some k19c0 }
def k19c1 : Code := { maxStack := 1, maxLocals := 1, code := jdk_2750_method_2_code, exceptionTable := #[], attributes := #[] }
def k19m1 : Method := { name := "hasNext", desc := "()Z", sig := { parameters := [], returnType := some .boolean }, accessFlags := 17, code := some k19c1 }
/-- java/util/TreeMap$PrivateEntryIterator -/
def k19 : Class := { plain "java/util/TreeMap$PrivateEntryIterator" (some 0) with
  accessFlags := 1056
  interfaces := #[18]
  cf := some (fileOf pool19 2 #[.nestHost 14] #[{ accessFlags := 0, nameIndex := 11, descriptorIndex := 61, attributes := #[] }, { accessFlags := 17, nameIndex := 72, descriptorIndex := 73, attributes := #[] }] 1056 8 #[57] #[{ accessFlags := 0, nameIndex := 28, descriptorIndex := 25, attributes := #[] }, { accessFlags := 0, nameIndex := 24, descriptorIndex := 25, attributes := #[] }, { accessFlags := 0, nameIndex := 21, descriptorIndex := 18, attributes := #[] }, { accessFlags := 4112, nameIndex := 5, descriptorIndex := 6, attributes := #[] }])
  fields := #[{ name := "next", type := (.object "java/util/TreeMap$Entry"), accessFlags := 0, slot := 0, constantValue := 0 }, { name := "lastReturned", type := (.object "java/util/TreeMap$Entry"), accessFlags := 0, slot := 1, constantValue := 0 }, { name := "expectedModCount", type := .int, accessFlags := 0, slot := 2, constantValue := 0 }, { name := "this$0", type := (.object "java/util/TreeMap"), accessFlags := 4112, slot := 3, constantValue := 0 }]
  methods := #[k19m0, k19m1]
  instanceTypes := #[(.object "java/util/TreeMap$Entry"), (.object "java/util/TreeMap$Entry"), .int, (.object "java/util/TreeMap")]
  staticTypes := #[]
  resolved := (Array.replicate 88 none).setIfInBounds 13 (some (.field 11 3))
  statics := none }

def pool20 : Array CpInfo := pool [(1, .methodref 2 3), (0, .class_ 4), (0, .nameAndType 5 6), (0, u "java/util/TreeMap$PrivateEntryIterator"), (0, u "<init>"), (0, u "(Ljava/util/TreeMap;Ljava/util/TreeMap$Entry;)V"), (1, .class_ 10), (1, u "java/util/TreeMap$EntryIterator"), (27, .class_ 39), (0, u "java/util/TreeMap")] 10

def k20c0 : Code := { maxStack := 3, maxLocals := 3, code := jdk_2737_method_1_code, exceptionTable := #[], attributes := #[] }
def k20m0 : Method := { name := "<init>", desc := "(Ljava/util/TreeMap;Ljava/util/TreeMap$Entry;)V", sig := { parameters := [(.object "java/util/TreeMap"), (.object "java/util/TreeMap$Entry")], returnType := none }, accessFlags := 0, code := some k20c0 }
/-- java/util/TreeMap$EntryIterator -/
def k20 : Class := { plain "java/util/TreeMap$EntryIterator" (some 19) with
  accessFlags := 48
  interfaces := #[]
  cf := some (fileOf pool20 8 #[.nestHost 38] #[{ accessFlags := 0, nameIndex := 5, descriptorIndex := 6, attributes := #[] }] 48 2 #[] #[])
  fields := #[]
  methods := #[k20m0]
  instanceTypes := #[(.object "java/util/TreeMap$Entry"), (.object "java/util/TreeMap$Entry"), .int, (.object "java/util/TreeMap")]
  staticTypes := #[]
  resolved := Array.replicate 50 none
  statics := none }

def pool21 : Array CpInfo := pool [(2, .class_ 4), (1, u "java/lang/Object"), (0, u "<init>"), (0, u "()V"), (12, .class_ 20), (0, u "java/util/Collections"), (63, u "r"), (0, u "Ljava/util/Random;"), (77, .nameAndType 164 165), (0, u "getClass"), (0, u "()Ljava/lang/Class;"), (0, .class_ 167), (0, u "java/util/Collections$UnmodifiableCollection"), (6, .class_ 175), (0, u "java/util/Collections$UnmodifiableSequencedCollection"), (6, .class_ 183), (0, u "java/util/Collections$UnmodifiableSet"), (6, .class_ 191), (0, u "java/util/Collections$UnmodifiableSequencedSet"), (6, .class_ 199), (0, u "java/util/Collections$UnmodifiableSortedSet"), (6, .class_ 207), (0, u "java/util/Collections$UnmodifiableNavigableSet"), (4, .class_ 213), (0, u "java/util/Collections$UnmodifiableList"), (1, .class_ 216), (0, u "java/util/Collections$UnmodifiableRandomAccessList"), (3, .interfaceMethodref 221 163), (0, .class_ 222), (0, u "java/util/Map"), (0, .class_ 224), (0, u "java/util/Collections$UnmodifiableMap"), (0, .methodref 223 226), (0, .nameAndType 5 227), (0, u "(Ljava/util/Map;)V"), (3, .class_ 232), (0, u "java/util/Collections$UnmodifiableSequencedMap"), (4, .class_ 238), (0, u "java/util/Collections$UnmodifiableSortedMap"), (6, .class_ 246), (0, u "java/util/Collections$UnmodifiableNavigableMap"), (3, .class_ 251), (0, u "java/util/Collections$SynchronizedCollection"), (4, .class_ 257), (0, u "java/util/Collections$SynchronizedSet"), (4, .class_ 263), (0, u "java/util/Collections$SynchronizedSortedSet"), (1, .class_ 266), (0, u "java/util/Collections$SynchronizedNavigableSet"), (1, .class_ 269), (0, u "java/util/Collections$SynchronizedRandomAccessList"), (1, .class_ 272), (0, u "java/util/Collections$SynchronizedList"), (5, .class_ 279), (0, u "java/util/Collections$SynchronizedMap"), (1, .class_ 282), (0, u "java/util/Collections$SynchronizedSortedMap"), (1, .class_ 285), (0, u "java/util/Collections$SynchronizedNavigableMap"), (1, .class_ 288), (0, u "java/util/Collections$CheckedCollection"), (11, .class_ 301), (0, u "java/util/Collections$CheckedQueue"), (3, .class_ 306), (0, u "java/util/Collections$CheckedSet"), (3, .class_ 311), (0, u "java/util/Collections$CheckedSortedSet"), (3, .class_ 316), (0, u "java/util/Collections$CheckedNavigableSet"), (3, .class_ 321), (0, u "java/util/Collections$CheckedRandomAccessList"), (3, .class_ 326), (0, u "java/util/Collections$CheckedList"), (1, .class_ 329), (0, u "java/util/Collections$CheckedMap"), (3, .class_ 334), (0, u "java/util/Collections$CheckedSortedMap"), (3, .class_ 339), (0, u "java/util/Collections$CheckedNavigableMap"), (4, .class_ 346), (1, u "java/util/Collections$EmptyIterator"), (3, .class_ 352), (1, u "java/util/Collections$EmptyListIterator"), (2, .class_ 357), (1, u "java/util/Collections$EmptyEnumeration"), (4, u "EMPTY_SET"), (0, u "Ljava/util/Set;"), (6, u "EMPTY_LIST"), (0, u "Ljava/util/List;"), (2, u "EMPTY_MAP"), (0, u "Ljava/util/Map;"), (4, .class_ 381), (0, u "java/util/Collections$SingletonSet"), (2, .class_ 385), (0, u "java/util/Collections$1"), (1, .class_ 388), (0, u "java/util/Collections$2"), (1, .class_ 391), (0, u "java/util/Collections$SingletonList"), (1, .class_ 394), (0, u "java/util/Collections$SingletonMap"), (22, .class_ 418), (0, u "java/util/Collections$CopiesList"), (4, .class_ 425), (1, u "java/util/Collections$ReverseComparator"), (8, .class_ 435), (0, u "java/util/Collections$ReverseComparator2"), (6, .class_ 443), (0, u "java/util/Collections$3"), (25, .class_ 470), (0, u "java/util/Collections$SetFromMap"), (2, .class_ 474), (0, u "java/util/Collections$SequencedSetFromMap"), (3, .class_ 479), (0, u "java/util/Collections$AsLIFOQueue"), (11, .class_ 492), (0, u "java/util/Collections$EmptySet"), (1, .class_ 495), (0, u "java/util/Collections$EmptyList"), (1, .class_ 498), (0, u "java/util/Collections$EmptyMap"), (1, u "BINARYSEARCH_THRESHOLD"), (0, u "I"), (2, u "REVERSE_THRESHOLD"), (1, u "SHUFFLE_THRESHOLD"), (1, u "FILL_THRESHOLD"), (1, u "ROTATE_THRESHOLD"), (1, u "COPY_THRESHOLD"), (1, u "REPLACEALL_THRESHOLD"), (1, u "INDEXOFSUBLIST_THRESHOLD"), (132, u "unmodifiableMap"), (0, u "(Ljava/util/Map;)Ljava/util/Map;"), (199, .class_ 851), (0, u "java/util/Collections$CheckedMap$CheckedEntrySet"), (0, .class_ 853), (0, u "java/util/Collections$CheckedMap$CheckedEntrySet$CheckedEntry"), (0, .class_ 855), (0, u "java/util/Collections$CheckedMap$CheckedEntrySet$1"), (0, .class_ 857), (0, u "java/util/Collections$CheckedList$1"), (0, .class_ 859), (0, u "java/util/Collections$CheckedCollection$1"), (0, .class_ 861), (0, u "java/util/Collections$UnmodifiableNavigableMap$EmptyNavigableMap"), (0, .class_ 863), (0, u "java/util/Collections$UnmodifiableMap$UnmodifiableEntrySet"), (0, .class_ 865), (0, u "java/util/Collections$UnmodifiableMap$UnmodifiableEntrySet$UnmodifiableEntry"), (0, .class_ 867), (0, u "java/util/Collections$UnmodifiableMap$UnmodifiableEntrySet$UnmodifiableEntrySetSpliterator"), (0, .class_ 869), (0, u "java/util/Collections$UnmodifiableMap$UnmodifiableEntrySet$1"), (0, .class_ 871), (0, u "java/util/Collections$UnmodifiableList$1"), (0, .class_ 873), (0, u "java/util/Collections$UnmodifiableNavigableSet$EmptyNavigableSet"), (0, .class_ 875), (0, u "java/util/Collections$UnmodifiableCollection$1")] 57

def k21m0 : Method := { name := "<init>", desc := "()V", sig := { parameters := [], returnType := none }, accessFlags := 2, code := none }
def k21c1 : Code := { maxStack := 3, maxLocals := 1, code := jdk_79_method_36_code, exceptionTable := #[], attributes := #[] }
def k21m1 : Method := { name := "unmodifiableMap", desc := "(Ljava/util/Map;)Ljava/util/Map;", sig := { parameters := [(.object "java/util/Map")], returnType := some (.object "java/util/Map") }, accessFlags := 9, code := some k21c1 }
/-- java/util/Collections -/
def k21 : Class := { plain "java/util/Collections" (some 0) with
  accessFlags := 33
  interfaces := #[]
  cf := some (fileOf pool21 19 #[.nestMembers #[478, 473, 469, 434, 423, 417, 393, 390, 380, 497, 494, 491, 355, 350, 344, 338, 333, 328, 850, 852, 854, 320, 325, 856, 315, 310, 305, 300, 287, 858, 284, 281, 278, 268, 271, 265, 262, 256, 250, 245, 860, 237, 231, 223, 862, 864, 866, 868, 215, 212, 870, 206, 872, 198, 190, 182, 174, 166, 874, 442, 387, 384]] #[{ accessFlags := 2, nameIndex := 5, descriptorIndex := 6, attributes := #[] }, { accessFlags := 9, nameIndex := 649, descriptorIndex := 650, attributes := #[] }] 33 2 #[] #[{ accessFlags := 26, nameIndex := 500, descriptorIndex := 501, attributes := #[] }, { accessFlags := 26, nameIndex := 504, descriptorIndex := 501, attributes := #[] }, { accessFlags := 26, nameIndex := 506, descriptorIndex := 501, attributes := #[] }, { accessFlags := 26, nameIndex := 508, descriptorIndex := 501, attributes := #[] }, { accessFlags := 26, nameIndex := 510, descriptorIndex := 501, attributes := #[] }, { accessFlags := 26, nameIndex := 512, descriptorIndex := 501, attributes := #[] }, { accessFlags := 26, nameIndex := 514, descriptorIndex := 501, attributes := #[] }, { accessFlags := 26, nameIndex := 516, descriptorIndex := 501, attributes := #[] }, { accessFlags := 10, nameIndex := 84, descriptorIndex := 85, attributes := #[] }, { accessFlags := 25, nameIndex := 362, descriptorIndex := 363, attributes := #[] }, { accessFlags := 25, nameIndex := 370, descriptorIndex := 371, attributes := #[] }, { accessFlags := 25, nameIndex := 374, descriptorIndex := 375, attributes := #[] }])
  fields := #[{ name := "BINARYSEARCH_THRESHOLD", type := .int, accessFlags := 26, slot := 0, constantValue := 0 }, { name := "REVERSE_THRESHOLD", type := .int, accessFlags := 26, slot := 1, constantValue := 0 }, { name := "SHUFFLE_THRESHOLD", type := .int, accessFlags := 26, slot := 2, constantValue := 0 }, { name := "FILL_THRESHOLD", type := .int, accessFlags := 26, slot := 3, constantValue := 0 }, { name := "ROTATE_THRESHOLD", type := .int, accessFlags := 26, slot := 4, constantValue := 0 }, { name := "COPY_THRESHOLD", type := .int, accessFlags := 26, slot := 5, constantValue := 0 }, { name := "REPLACEALL_THRESHOLD", type := .int, accessFlags := 26, slot := 6, constantValue := 0 }, { name := "INDEXOFSUBLIST_THRESHOLD", type := .int, accessFlags := 26, slot := 7, constantValue := 0 }, { name := "r", type := (.object "java/util/Random"), accessFlags := 10, slot := 8, constantValue := 0 }, { name := "EMPTY_SET", type := (.object "java/util/Set"), accessFlags := 25, slot := 9, constantValue := 0 }, { name := "EMPTY_LIST", type := (.object "java/util/List"), accessFlags := 25, slot := 10, constantValue := 0 }, { name := "EMPTY_MAP", type := (.object "java/util/Map"), accessFlags := 25, slot := 11, constantValue := 0 }]
  methods := #[k21m0, k21m1]
  instanceTypes := #[]
  staticTypes := #[.int, .int, .int, .int, .int, .int, .int, .int, (.object "java/util/Random"), (.object "java/util/Set"), (.object "java/util/List"), (.object "java/util/Map")]
  resolved := Array.replicate 933 none
  statics := none }

def pool22 : Array CpInfo := pool [(1, .methodref 2 3), (0, .class_ 4), (0, .nameAndType 5 6), (0, u "java/lang/Object"), (0, u "<init>"), (0, u "()V"), (3, .fieldref 11 12), (0, .class_ 13), (0, .nameAndType 14 15), (0, u "java/util/Collections$UnmodifiableMap"), (0, u "m"), (0, u "Ljava/util/Map;"), (1, .class_ 19), (1, u "java/util/Map"), (22, u "keySet"), (0, u "Ljava/util/Set;"), (4, .class_ 50), (1, u "java/util/Collections"), (4, u "entrySet"), (9, u "values"), (0, u "Ljava/util/Collection;"), (25, .class_ 93), (0, u "java/io/Serializable"), (0, u "serialVersionUID"), (0, u "J"), (8, u "(Ljava/util/Map;)V")] 70

def k22c0 : Code := { maxStack := 2, maxLocals := 2, code := jdk_2500_method_1_code, exceptionTable := #[], attributes := #[] }
def k22m0 : Method := { name := "<init>", desc := "(Ljava/util/Map;)V", sig := { parameters := [(.object "java/util/Map")], returnType := none }, accessFlags := 0, code := some k22c0 }
/-- java/util/Collections$UnmodifiableMap -/
def k22 : Class := { plain "java/util/Collections$UnmodifiableMap" (some 0) with
  accessFlags := 32
  interfaces := #[5, 10]
  cf := some (fileOf pool22 11 #[.nestHost 48] #[{ accessFlags := 0, nameIndex := 5, descriptorIndex := 104, attributes := #[] }] 32 2 #[17, 92] #[{ accessFlags := 26, nameIndex := 94, descriptorIndex := 95, attributes := #[] }, { accessFlags := 16, nameIndex := 14, descriptorIndex := 15, attributes := #[] }, { accessFlags := 130, nameIndex := 42, descriptorIndex := 43, attributes := #[] }, { accessFlags := 130, nameIndex := 55, descriptorIndex := 43, attributes := #[] }, { accessFlags := 130, nameIndex := 65, descriptorIndex := 66, attributes := #[] }])
  fields := #[{ name := "serialVersionUID", type := .long, accessFlags := 26, slot := 0, constantValue := 0 }, { name := "m", type := (.object "java/util/Map"), accessFlags := 16, slot := 0, constantValue := 0 }, { name := "keySet", type := (.object "java/util/Set"), accessFlags := 130, slot := 1, constantValue := 0 }, { name := "entrySet", type := (.object "java/util/Set"), accessFlags := 130, slot := 2, constantValue := 0 }, { name := "values", type := (.object "java/util/Collection"), accessFlags := 130, slot := 3, constantValue := 0 }]
  methods := #[k22m0]
  instanceTypes := #[(.object "java/util/Map"), (.object "java/util/Set"), (.object "java/util/Set"), (.object "java/util/Collection")]
  staticTypes := #[.long]
  resolved := Array.replicate 175 none
  mirror := some 1
  statics := none }

def pool23 : Array CpInfo := pool [(1, u "java/lang/Class"), (0, .class_ 1), (0, u "java/lang/Object"), (0, .class_ 3)] 0

/-- java/lang/Class -/
def k23 : Class := { plain "java/lang/Class" (some 0) with
  accessFlags := 49
  interfaces := #[]
  cf := some (fileOf pool23 2 #[] #[] 49 4 #[] #[])
  fields := #[]
  methods := #[]
  instanceTypes := #[]
  staticTypes := #[]
  resolved := Array.replicate 5 none
  statics := none }

/-- the primitive byte -/
def k24 : Class := { plain "byte" none with kind := .primitive 'B', accessFlags := 0x411 }
/-- [B -/
def k25 : Class := { plain "[B" (some 0) with kind := .array 24 .byte, interfaces := #[3, 10], accessFlags := 1041 }

/-- the primitive int -/
def k26 : Class := { plain "int" none with kind := .primitive 'I', accessFlags := 0x411 }
/-- [I -/
def k27 : Class := { plain "[I" (some 0) with kind := .array 26 .int, interfaces := #[3, 10], accessFlags := 1041 }

def heap : Heap := #[{ cls := 23, slots := #[], vm := .mirror 11 },
  { cls := 23, slots := #[], vm := .mirror 22 }]
def classes : Array Class := #[k0, k1, k2, k3, k4, k5, k6, k7, k8, k9, k10, k11, k12, k13, k14, k15, k16, k17, k18, k19, k20, k21, k22, k23, k24, k25, k26, k27]
def interned : List (Array UInt16 × Addr) := []
def slotsUsed : Nat := 0
def theMethod : MethodId := ⟨1, 1⟩
def args0 : Array Value := #[.int 5, .int 7, .int 9, .int 1]
def aboutOver (below : List Frame) : State where
  vm := { classes := classes, interned := interned.toArray }
  heap := heap
  slotsUsed := slotsUsed
  threads := #[{ frames := .invoking theMethod args0 :: below }]
def below0 : List Frame := [.native { method := ⟨0, 0⟩, args := #[] }]
def about1 : State := aboutOver below0
def p0 : Program := .bare "" "" ""
def e0 : Env := launch0.env 0 0 0
theorem w_frames : about1.frames = Frame.invoking theMethod args0 :: below0 := rfl
set_option maxRecDepth 65536 in
theorem w_args : argsFit about1.vm theMethod args0 = true := by decide +kernel
set_option maxRecDepth 65536 in
theorem w_heap : heapFits about1 = true := by decide +kernel
set_option maxRecDepth 65536 in
theorem w_runnable : about1.curStatus? = some .runnable := by decide +kernel
set_option maxRecDepth 65536 in
theorem w_alone : about1.alone = true := by decide +kernel
set_option maxRecDepth 65536 in
theorem w_named : about1.methodNamed? x = some theMethod := by decide +kernel
set_option maxRecDepth 65536 in
theorem w_hears : about1.hears theMethod below0 = true := by decide +kernel
set_option maxRecDepth 65536 in
theorem w_ripe : about1.ripe theMethod args0 below0 = true := by decide +kernel
theorem w_running : about1.status = .running := rfl
set_option maxRecDepth 65536 in
theorem w_room : about1.hasRoom e0.platform room_1 = true :=
  launch0.hasRoom_least _ room_1 (by decide +kernel) (by decide +kernel) (by decide +kernel) (by decide +kernel) (by decide +kernel) (by decide +kernel)
theorem allAtoms_all (ts : List Jvm.Cond) (a : Array Jvm.Value) (st : Jvm.State) : (allAtoms ts).before a st = ts.all (fun c => c.before a st) := by
  induction ts with
  | nil => rfl
  | cons c t ih =>
    show (Jvm.Cond.and c (allAtoms t)).before a st = _
    rw [Jvm.Cond.before_and, ih, List.all_cons]
def words1 : List Jvm.Cond := Jvm.Cond.code x code maxLocals ret :: tables_1
/-- a 'code' word, met by the world's own term for the bytes: nothing is compared byte by byte -/
theorem code_word {y : MethodName} {bytes : ByteArray} {mx : Nat} {rt : Option FieldType} {a : Array Value} {s : State} {m : MethodId} {meth : Method} {c : Code} (h1 : s.methodNamed? y = some m) (h2 : s.vm.method? m = some meth) (h3 : meth.code = some c) (h4 : c.code = bytes)
    (h5 : (c.maxLocals == mx && c.exceptionTable.isEmpty && decide (c.maxStack ≤ mostOperands) && decide (meth.sig.returnType = rt) && !meth.locks && decide (parseMethodDescriptor y.desc = some meth.sig)) = true) : (Jvm.Cond.code y bytes mx rt).before a s = true := by
  simp only [Bool.and_eq_true, beq_iff_eq, Bool.not_eq_true', decide_eq_true_eq] at h5
  obtain ⟨⟨⟨⟨⟨g1, g2⟩, g3⟩, g4⟩, g5⟩, g6⟩ := h5
  simp [Cond.before, Cond.holds, Cond.value, h1, h2, h3, h4, g1, g2, g3, g4, g5, g6]
def isCode : Jvm.Cond → Bool
  | .code _ _ _ _ => true
  | _ => false
theorem all_split {L : List Jvm.Cond} {P : Jvm.Cond → Bool} (h1 : L.all (fun c => isCode c || P c) = true) (h2 : ∀ c ∈ L.filter isCode, P c = true) : L.all P = true := by
  refine List.all_eq_true.mpr fun c hc => ?_
  have h := List.all_eq_true.mp h1 c hc
  rcases Bool.eq_false_or_eq_true (isCode c) with hi | hi
  · exact h2 c (List.mem_filter.mpr ⟨hc, hi⟩)
  · simpa [hi] using h
set_option maxRecDepth 65536 in
theorem w_c0 : (Jvm.Cond.code x code maxLocals ret).before args0 about1 = true := code_word (m := ⟨1, 1⟩) (meth := k1m1) (c := k1c1) (by decide +kernel) rfl rfl rfl (by decide +kernel)
set_option maxRecDepth 65536 in
theorem w_c1 : (Jvm.Cond.code ({ cls := "com/example/libonce/libonce/KeyRecord", name := "<init>", desc := "([BLcom/example/libonce/libonce/Outcome;)V" } : Jvm.MethodName) prog_6_method_1_code (3 : Nat) (Option.none : Option Jvm.ClassFile.FieldType)).before args0 about1 = true := code_word (m := ⟨2, 0⟩) (meth := k2m0) (c := k2c0) (by decide +kernel) rfl rfl rfl (by decide +kernel)
set_option maxRecDepth 65536 in
theorem w_c2 : (Jvm.Cond.code ({ cls := "java/lang/Object", name := "<init>", desc := "()V" } : Jvm.MethodName) object_method_1_code (1 : Nat) (Option.none : Option Jvm.ClassFile.FieldType)).before args0 about1 = true := code_word (m := ⟨0, 0⟩) (meth := k0m0) (c := k0c0) (by decide +kernel) rfl rfl rfl (by decide +kernel)
set_option maxRecDepth 65536 in
theorem w_c3 : (Jvm.Cond.code ({ cls := "com/example/libonce/libonce/KeyRecord", name := "isRunning", desc := "()Z" } : Jvm.MethodName) prog_6_method_3_code (1 : Nat) (Option.some Jvm.ClassFile.FieldType.boolean)).before args0 about1 = true := code_word (m := ⟨2, 1⟩) (meth := k2m1) (c := k2c1) (by decide +kernel) rfl rfl rfl (by decide +kernel)
set_option maxRecDepth 65536 in
theorem w_c4 : (Jvm.Cond.code ({ cls := "com/example/libonce/libonce/KeyRecord", name := "outcome", desc := "()Lcom/example/libonce/libonce/Outcome;" } : Jvm.MethodName) prog_6_method_4_code (1 : Nat) (Option.some (Jvm.ClassFile.FieldType.object "com/example/libonce/libonce/Outcome"))).before args0 about1 = true := code_word (m := ⟨2, 2⟩) (meth := k2m2) (c := k2c2) (by decide +kernel) rfl rfl rfl (by decide +kernel)
set_option maxRecDepth 65536 in
theorem w_c5 : (Jvm.Cond.code ({ cls := "java/util/TreeMap", name := "<init>", desc := "()V" } : Jvm.MethodName) jdk_2729_method_1_code (1 : Nat) (Option.none : Option Jvm.ClassFile.FieldType)).before args0 about1 = true := code_word (m := ⟨11, 0⟩) (meth := k11m0) (c := k11c0) (by decide +kernel) rfl rfl rfl (by decide +kernel)
set_option maxRecDepth 65536 in
theorem w_c6 : (Jvm.Cond.code ({ cls := "java/util/AbstractMap", name := "<init>", desc := "()V" } : Jvm.MethodName) jdk_71_method_1_code (1 : Nat) (Option.none : Option Jvm.ClassFile.FieldType)).before args0 about1 = true := code_word (m := ⟨6, 0⟩) (meth := k6m0) (c := k6c0) (by decide +kernel) rfl rfl rfl (by decide +kernel)
set_option maxRecDepth 65536 in
theorem w_c7 : (Jvm.Cond.code ({ cls := "com/example/libonce/libonce/Outcome", name := "<init>", desc := "(ILjava/util/Map;[B)V" } : Jvm.MethodName) prog_8_method_1_code (7 : Nat) (Option.none : Option Jvm.ClassFile.FieldType)).before args0 about1 = true := code_word (m := ⟨4, 0⟩) (meth := k4m0) (c := k4c0) (by decide +kernel) rfl rfl rfl (by decide +kernel)
set_option maxRecDepth 65536 in
theorem w_c8 : (Jvm.Cond.code ({ cls := "java/util/TreeMap", name := "entrySet", desc := "()Ljava/util/Set;" } : Jvm.MethodName) jdk_2729_method_53_code (2 : Nat) (Option.some (Jvm.ClassFile.FieldType.object "java/util/Set"))).before args0 about1 = true := code_word (m := ⟨11, 1⟩) (meth := k11m1) (c := k11c1) (by decide +kernel) rfl rfl rfl (by decide +kernel)
set_option maxRecDepth 65536 in
theorem w_c9 : (Jvm.Cond.code ({ cls := "java/util/TreeMap$EntrySet", name := "<init>", desc := "(Ljava/util/TreeMap;)V" } : Jvm.MethodName) jdk_2738_method_1_code (2 : Nat) (Option.none : Option Jvm.ClassFile.FieldType)).before args0 about1 = true := code_word (m := ⟨17, 0⟩) (meth := k17m0) (c := k17c0) (by decide +kernel) rfl rfl rfl (by decide +kernel)
set_option maxRecDepth 65536 in
theorem w_c10 : (Jvm.Cond.code ({ cls := "java/util/AbstractSet", name := "<init>", desc := "()V" } : Jvm.MethodName) jdk_91_method_1_code (1 : Nat) (Option.none : Option Jvm.ClassFile.FieldType)).before args0 about1 = true := code_word (m := ⟨16, 0⟩) (meth := k16m0) (c := k16c0) (by decide +kernel) rfl rfl rfl (by decide +kernel)
set_option maxRecDepth 65536 in
theorem w_c11 : (Jvm.Cond.code ({ cls := "java/util/AbstractCollection", name := "<init>", desc := "()V" } : Jvm.MethodName) jdk_22_method_1_code (1 : Nat) (Option.none : Option Jvm.ClassFile.FieldType)).before args0 about1 = true := code_word (m := ⟨14, 0⟩) (meth := k14m0) (c := k14c0) (by decide +kernel) rfl rfl rfl (by decide +kernel)
set_option maxRecDepth 65536 in
theorem w_c12 : (Jvm.Cond.code ({ cls := "java/util/TreeMap$EntrySet", name := "iterator", desc := "()Ljava/util/Iterator;" } : Jvm.MethodName) jdk_2738_method_2_code (1 : Nat) (Option.some (Jvm.ClassFile.FieldType.object "java/util/Iterator"))).before args0 about1 = true := code_word (m := ⟨17, 1⟩) (meth := k17m1) (c := k17c1) (by decide +kernel) rfl rfl rfl (by decide +kernel)
set_option maxRecDepth 65536 in
theorem w_c13 : (Jvm.Cond.code ({ cls := "java/util/TreeMap", name := "getFirstEntry", desc := "()Ljava/util/TreeMap$Entry;" } : Jvm.MethodName) jdk_2729_method_72_code (2 : Nat) (Option.some (Jvm.ClassFile.FieldType.object "java/util/TreeMap$Entry"))).before args0 about1 = true := code_word (m := ⟨11, 2⟩) (meth := k11m2) (c := k11c2) (by decide +kernel) rfl rfl rfl (by decide +kernel)
set_option maxRecDepth 65536 in
theorem w_c14 : (Jvm.Cond.code ({ cls := "java/util/TreeMap$EntryIterator", name := "<init>", desc := "(Ljava/util/TreeMap;Ljava/util/TreeMap$Entry;)V" } : Jvm.MethodName) jdk_2737_method_1_code (3 : Nat) (Option.none : Option Jvm.ClassFile.FieldType)).before args0 about1 = true := code_word (m := ⟨20, 0⟩) (meth := k20m0) (c := k20c0) (by decide +kernel) rfl rfl rfl (by decide +kernel)
set_option maxRecDepth 65536 in
theorem w_c15 : (Jvm.Cond.code ({ cls := "java/util/TreeMap$PrivateEntryIterator", name := "<init>", desc := "(Ljava/util/TreeMap;Ljava/util/TreeMap$Entry;)V" } : Jvm.MethodName) jdk_2750_method_1_code (3 : Nat) (Option.none : Option Jvm.ClassFile.FieldType)).before args0 about1 = true := code_word (m := ⟨19, 0⟩) (meth := k19m0) (c := k19c0) (by decide +kernel) rfl rfl rfl (by decide +kernel)
set_option maxRecDepth 65536 in
theorem w_c16 : (Jvm.Cond.code ({ cls := "java/util/TreeMap$PrivateEntryIterator", name := "hasNext", desc := "()Z" } : Jvm.MethodName) jdk_2750_method_2_code (1 : Nat) (Option.some Jvm.ClassFile.FieldType.boolean)).before args0 about1 = true := code_word (m := ⟨19, 1⟩) (meth := k19m1) (c := k19c1) (by decide +kernel) rfl rfl rfl (by decide +kernel)
set_option maxRecDepth 65536 in
theorem w_c17 : (Jvm.Cond.code ({ cls := "java/util/Collections", name := "unmodifiableMap", desc := "(Ljava/util/Map;)Ljava/util/Map;" } : Jvm.MethodName) jdk_79_method_36_code (1 : Nat) (Option.some (Jvm.ClassFile.FieldType.object "java/util/Map"))).before args0 about1 = true := code_word (m := ⟨21, 1⟩) (meth := k21m1) (c := k21c1) (by decide +kernel) rfl rfl rfl (by decide +kernel)
set_option maxRecDepth 65536 in
theorem w_c18 : (Jvm.Cond.code ({ cls := "java/util/Collections$UnmodifiableMap", name := "<init>", desc := "(Ljava/util/Map;)V" } : Jvm.MethodName) jdk_2500_method_1_code (2 : Nat) (Option.none : Option Jvm.ClassFile.FieldType)).before args0 about1 = true := code_word (m := ⟨22, 0⟩) (meth := k22m0) (c := k22c0) (by decide +kernel) rfl rfl rfl (by decide +kernel)
def codes1 : List Jvm.Cond := [Jvm.Cond.code x code maxLocals ret, Jvm.Cond.code ({ cls := "com/example/libonce/libonce/KeyRecord", name := "<init>", desc := "([BLcom/example/libonce/libonce/Outcome;)V" } : Jvm.MethodName) prog_6_method_1_code (3 : Nat) (Option.none : Option Jvm.ClassFile.FieldType), Jvm.Cond.code ({ cls := "java/lang/Object", name := "<init>", desc := "()V" } : Jvm.MethodName) object_method_1_code (1 : Nat) (Option.none : Option Jvm.ClassFile.FieldType), Jvm.Cond.code ({ cls := "com/example/libonce/libonce/KeyRecord", name := "isRunning", desc := "()Z" } : Jvm.MethodName) prog_6_method_3_code (1 : Nat) (Option.some Jvm.ClassFile.FieldType.boolean), Jvm.Cond.code ({ cls := "com/example/libonce/libonce/KeyRecord", name := "outcome", desc := "()Lcom/example/libonce/libonce/Outcome;" } : Jvm.MethodName) prog_6_method_4_code (1 : Nat) (Option.some (Jvm.ClassFile.FieldType.object "com/example/libonce/libonce/Outcome")), Jvm.Cond.code ({ cls := "java/util/TreeMap", name := "<init>", desc := "()V" } : Jvm.MethodName) jdk_2729_method_1_code (1 : Nat) (Option.none : Option Jvm.ClassFile.FieldType), Jvm.Cond.code ({ cls := "java/util/AbstractMap", name := "<init>", desc := "()V" } : Jvm.MethodName) jdk_71_method_1_code (1 : Nat) (Option.none : Option Jvm.ClassFile.FieldType), Jvm.Cond.code ({ cls := "com/example/libonce/libonce/Outcome", name := "<init>", desc := "(ILjava/util/Map;[B)V" } : Jvm.MethodName) prog_8_method_1_code (7 : Nat) (Option.none : Option Jvm.ClassFile.FieldType), Jvm.Cond.code ({ cls := "java/util/TreeMap", name := "entrySet", desc := "()Ljava/util/Set;" } : Jvm.MethodName) jdk_2729_method_53_code (2 : Nat) (Option.some (Jvm.ClassFile.FieldType.object "java/util/Set")), Jvm.Cond.code ({ cls := "java/util/TreeMap$EntrySet", name := "<init>", desc := "(Ljava/util/TreeMap;)V" } : Jvm.MethodName) jdk_2738_method_1_code (2 : Nat) (Option.none : Option Jvm.ClassFile.FieldType), Jvm.Cond.code ({ cls := "java/util/AbstractSet", name := "<init>", desc := "()V" } : Jvm.MethodName) jdk_91_method_1_code (1 : Nat) (Option.none : Option Jvm.ClassFile.FieldType), Jvm.Cond.code ({ cls := "java/util/AbstractCollection", name := "<init>", desc := "()V" } : Jvm.MethodName) jdk_22_method_1_code (1 : Nat) (Option.none : Option Jvm.ClassFile.FieldType), Jvm.Cond.code ({ cls := "java/util/TreeMap$EntrySet", name := "iterator", desc := "()Ljava/util/Iterator;" } : Jvm.MethodName) jdk_2738_method_2_code (1 : Nat) (Option.some (Jvm.ClassFile.FieldType.object "java/util/Iterator")), Jvm.Cond.code ({ cls := "java/util/TreeMap", name := "getFirstEntry", desc := "()Ljava/util/TreeMap$Entry;" } : Jvm.MethodName) jdk_2729_method_72_code (2 : Nat) (Option.some (Jvm.ClassFile.FieldType.object "java/util/TreeMap$Entry")), Jvm.Cond.code ({ cls := "java/util/TreeMap$EntryIterator", name := "<init>", desc := "(Ljava/util/TreeMap;Ljava/util/TreeMap$Entry;)V" } : Jvm.MethodName) jdk_2737_method_1_code (3 : Nat) (Option.none : Option Jvm.ClassFile.FieldType), Jvm.Cond.code ({ cls := "java/util/TreeMap$PrivateEntryIterator", name := "<init>", desc := "(Ljava/util/TreeMap;Ljava/util/TreeMap$Entry;)V" } : Jvm.MethodName) jdk_2750_method_1_code (3 : Nat) (Option.none : Option Jvm.ClassFile.FieldType), Jvm.Cond.code ({ cls := "java/util/TreeMap$PrivateEntryIterator", name := "hasNext", desc := "()Z" } : Jvm.MethodName) jdk_2750_method_2_code (1 : Nat) (Option.some Jvm.ClassFile.FieldType.boolean), Jvm.Cond.code ({ cls := "java/util/Collections", name := "unmodifiableMap", desc := "(Ljava/util/Map;)Ljava/util/Map;" } : Jvm.MethodName) jdk_79_method_36_code (1 : Nat) (Option.some (Jvm.ClassFile.FieldType.object "java/util/Map")), Jvm.Cond.code ({ cls := "java/util/Collections$UnmodifiableMap", name := "<init>", desc := "(Ljava/util/Map;)V" } : Jvm.MethodName) jdk_2500_method_1_code (2 : Nat) (Option.none : Option Jvm.ClassFile.FieldType)]
set_option maxRecDepth 65536 in
theorem codes_eq : words1.filter isCode = codes1 := rfl
theorem w_codes : ∀ c ∈ words1.filter isCode, c.before args0 about1 = true := by
  rw [codes_eq]
  intro c hc
  simp only [codes1, List.mem_cons, List.not_mem_nil, or_false] at hc
  rcases hc with rfl | rfl | rfl | rfl | rfl | rfl | rfl | rfl | rfl | rfl | rfl | rfl | rfl | rfl | rfl | rfl | rfl | rfl | rfl
  · exact w_c0
  · exact w_c1
  · exact w_c2
  · exact w_c3
  · exact w_c4
  · exact w_c5
  · exact w_c6
  · exact w_c7
  · exact w_c8
  · exact w_c9
  · exact w_c10
  · exact w_c11
  · exact w_c12
  · exact w_c13
  · exact w_c14
  · exact w_c15
  · exact w_c16
  · exact w_c17
  · exact w_c18
set_option maxRecDepth 65536 in
theorem w_t1 : (words1.take 24).all (fun c => isCode c || c.before args0 about1) = true := by decide +kernel
set_option maxRecDepth 65536 in
theorem w_t2 : ((words1.drop 24).take 24).all (fun c => isCode c || c.before args0 about1) = true := by decide +kernel
set_option maxRecDepth 65536 in
theorem w_t3 : (((words1.drop 24).drop 24).take 24).all (fun c => isCode c || c.before args0 about1) = true := by decide +kernel
set_option maxRecDepth 65536 in
theorem w_t4 : ((((words1.drop 24).drop 24).drop 24).take 24).all (fun c => isCode c || c.before args0 about1) = true := by decide +kernel
set_option maxRecDepth 65536 in
theorem w_t5 : (((((words1.drop 24).drop 24).drop 24).drop 24).take 24).all (fun c => isCode c || c.before args0 about1) = true := by decide +kernel
set_option maxRecDepth 65536 in
theorem w_t6 : ((((((words1.drop 24).drop 24).drop 24).drop 24).drop 24).take 24).all (fun c => isCode c || c.before args0 about1) = true := by decide +kernel
set_option maxRecDepth 65536 in
theorem w_t7 : (((((((words1.drop 24).drop 24).drop 24).drop 24).drop 24).drop 24).take 24).all (fun c => isCode c || c.before args0 about1) = true := by decide +kernel
set_option maxRecDepth 65536 in
theorem w_t8 : (((((((words1.drop 24).drop 24).drop 24).drop 24).drop 24).drop 24).drop 24).all (fun c => isCode c || c.before args0 about1) = true := by decide +kernel
theorem w_tables : (allAtoms (Jvm.Cond.code x code maxLocals ret :: tables_1)).before args0 about1 = true := by
  rw [allAtoms_all]
  show words1.all (fun c => c.before args0 about1) = true
  refine all_split ?_ w_codes
  rw [← List.take_append_drop 24 words1, List.all_append, w_t1, ← List.take_append_drop 24 (words1.drop 24), List.all_append, w_t2, ← List.take_append_drop 24 ((words1.drop 24).drop 24), List.all_append, w_t3, ← List.take_append_drop 24 (((words1.drop 24).drop 24).drop 24), List.all_append, w_t4, ← List.take_append_drop 24 ((((words1.drop 24).drop 24).drop 24).drop 24), List.all_append, w_t5, ← List.take_append_drop 24 (((((words1.drop 24).drop 24).drop 24).drop 24).drop 24), List.all_append, w_t6, ← List.take_append_drop 24 ((((((words1.drop 24).drop 24).drop 24).drop 24).drop 24).drop 24), List.all_append, w_t7, w_t8]
  rfl
set_option maxRecDepth 65536 in
theorem w_case : (Jvm.Cond.and given_1 narrow_1).before args0 about1 = true := by decide +kernel
theorem w_applies : (headSpec (Jvm.Cond.code x code maxLocals ret :: tables_1) room_1).applies x e0.platform about1 = true :=
  (Spec.applies_iff w_frames).mpr ⟨w_running, w_runnable, w_alone, w_named, w_hears, w_ripe, w_room, w_tables⟩
theorem atStart : AtStart classFile x code maxLocals ret World_1 tables_1 room_1 Calls_1 rest_1 Pre_1 launch0 p0 e0 about1 theMethod args0 below0 :=
  ⟨lists_1, trivial, launch0.admits_env _ _ _, launch0.least_env, fairChoices_fair.cas, fairChoices_fair.clock, w_frames, w_args, w_heap, w_applies, ⟨⟨11, k11, 0, by decide +kernel, rfl, rfl, _, rfl, rfl⟩, ⟨⟨22, k22, 1, by decide +kernel, rfl, rfl, _, rfl, rfl⟩, trivial⟩⟩, trivial, w_case⟩
end start1
theorem witness_1 : WitnessClaimed_1 := ⟨start1.p0, start1.e0, start1.about1, start1.theMethod, start1.args0, start1.below0, start1.atStart⟩
end Jvm.Pilot.@@N@@
