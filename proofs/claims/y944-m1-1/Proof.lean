import JvmDerived
import JvmDerived.Pilot.@@N@@Statement
import JvmDerived.Pilot.@@N@@Code
set_option linter.unusedVariables false
set_option linter.unusedSimpArgs false
namespace Jvm.RoadKit
open Sem ClassFile Op Lib Jvm.Stand Jvm.Free Jvm.LawKit
section New
variable {p : Program} {l : Launch} {e : Env} {R : Room} {s : State} {m : MethodId} {args : Array Value} {below : List Frame} {meth : Method} {c : Code} {T : State} {locs : List Loc} {cells slots : Nat}
theorem retI (X : Stand p l e R s m args below meth c T locs cells slots) (hx : p.tables.exec = Jvm.exec) {pc : Nat} {Ls : Array Slot} {z : Int32} {rest : List Value} (hret : meth.sig.returnType = some .int) (hd : decode c.code pc = .ok (.ireturn, 1)) {fs : List Frame}
    (hl : ∀ (f : JFrame) (acts : List Action), f.method = m → f.locked = none → f.entered = [] → (doReturn e (T.setTop f) acts (some (.int z))).1 = T.setFrames fs) : Steps p.tables e below (T.setTop (mkF m pc Ls (.int z :: rest))) (T.setFrames fs) := by
  have hm' : T.vm.method? m = some meth := X.method'
  have hn : narrow .int (.int z) = .int z := rfl
  show Steps p.tables e below (T.setTop { method := m, pc := pc, locals := Ls, stack := _ :: rest, locked := none }) _
  jvm_step X.here [X.here.top, hx, hd, hm', hret, hn]
  first | (intro acts; rw [hl _ acts rfl rfl rfl]) | rw [hl _ _ rfl rfl rfl]
  exact Steps.refl _
end New
end Jvm.RoadKit
namespace Jvm.Pilot.@@N@@
open Jvm Jvm.ClassFile Sem Op Lib Jvm.Free Jvm.Stand Jvm.LawKit Jvm.RoadKit Bundle Jvm.Pilot.@@N@@.Jvm.D
section OwnLayer
variable {p : Program} {l : Launch} {e : Env} {R : Room} {s : State} {m : MethodId} {args : Array Value} {below : List Frame} {meth : Method} {c : Code} {T : State} {locs : List Loc} {cells slots : Nat} {Z : State} {a0 : Array Value} {h h' : Heap} {K : State → Outcome → Prop} {Q : Option Value → Heap → List Loc → Prop} {pc : Nat} {Ls : Array Slot} {S : List Value} {own : String} {index : Nat} {y : MethodName} {bytes : ByteArray} {maxL : Nat} {ret : Option FieldType} {rm : Room} {as' : Array Value} {h0 : Heap} {ws : List Jvm.Cond}
/-- from here the body comes to its end, and K holds of it -/
def own_W (p : Program) (e : Env) (below : List Frame) (K : State → Outcome → Prop) (T : State) (f : JFrame) : Prop :=
  ∃ s₂ o, Steps p.tables e below (T.setTop f) s₂ ∧ s₂.status = .running ∧ Ended s₂ below o ∧ K s₂ o
def own_K (s : State) (R : Room) (Q : Option Value → Heap → List Loc → Prop) (s₂ : State) (o : Outcome) : Prop :=
  ∃ v L, o = .returned v ∧ Q v s₂.heap L ∧ FrameEnd s o s₂ L R.cells R.slots
/-- a body's contract -/
def own_C (l : Launch) (Z : State) (y : MethodName) (bytes : ByteArray) (maxL : Nat) (ret : Option FieldType) (ws : List Jvm.Cond) (rm : Room) (as' : Array Value) (h0 : Heap) (Q : Option Value → Heap → List Loc → Prop) : Prop :=
  MetFree l y (head1 (Jvm.Cond.code y bytes maxL ret :: ws) rm) (fun a U => a = as' ∧ Z.Warmed39 U.vm ∧ U.heap = h0) (fun _ _ _ _ _ => True) (fun _ U o U' => ∃ v L, o = .returned v ∧ Q v U'.heap L ∧ FrameEnd U o U' L rm.cells rm.slots)
theorem own_bodyF (hpl : plainFor y = true)
    (body : ∀ (p : Program) (e : Env) (s : State) (m : MethodId) (below : List Frame) (meth : Method) (c : Code) (T : State), p.tables.exec = Jvm.exec → c.code = bytes → c.maxLocals = maxL → s.vm.findClass y.cls = some m.cls → meth.name = y.name → meth.sig.returnType = ret → meth.locks = false → Z.Warmed39 s.vm →
      Stand p l e rm s m as' below meth c T [] 0 0 → T.heap = h0 → own_W p e below (own_K s rm Q) T (entryFrame m as' maxL)) : own_C l Z y bytes maxL ret ws rm as' h0 Q := by
  refine MetFree.of_bodySF hpl hisR ?_
  intro p e s m args below meth c s₁ Bd hml0 hP hK
  obtain ⟨rfl, hZ, hh⟩ := hP
  exact body p e s m below meth c s₁ Bd.exec Bd.bytes hml0 (findClass_of_methodNamed Bd.named) (name_of_methodNamed Bd.named Bd.method).1 Bd.returns (BodyLoose.notSynchronized Bd) hZ (Stand.of_body Bd) (by rw [← hh, Bd.state]; rfl)
theorem own_body (hpn : plainName y.cls = true)
    (body : ∀ (p : Program) (e : Env) (s : State) (m : MethodId) (below : List Frame) (meth : Method) (c : Code) (T : State), p.tables.exec = Jvm.exec → c.code = bytes → c.maxLocals = maxL → s.vm.findClass y.cls = some m.cls → meth.name = y.name → meth.sig.returnType = ret → meth.locks = false → Z.Warmed39 s.vm →
      Stand p l e rm s m as' below meth c T [] 0 0 → T.heap = h0 → own_W p e below (own_K s rm Q) T (entryFrame m as' maxL)) : own_C l Z y bytes maxL ret ws rm as' h0 Q := own_bodyF (plainFor_of_name hpn) body
theorem own_s {f f' : JFrame} {T' : State} (hs : ∀ t, Steps p.tables e below (T'.setTop f') t → Steps p.tables e below (T.setTop f) t) (k : own_W p e below K T' f') : own_W p e below K T f := by
  obtain ⟨s₂, o, h1, r⟩ := k; exact ⟨s₂, o, hs _ h1, r⟩
theorem own_s' {f f' : JFrame} {T' : State} (hs : Steps p.tables e below (T.setTop f) (T'.setTop f')) (k : own_W p e below K T' f') : own_W p e below K T f := by
  obtain ⟨s₂, o, h1, r⟩ := k; exact ⟨s₂, o, hs.trans h1, r⟩
theorem own_eq {f f' : JFrame} (q : f = f') (k : own_W p e below K T f') : own_W p e below K T f := q ▸ k
section Plain
theorem own_iloadN (X : Stand p l e R s m args below meth c T locs cells slots) (hx : p.tables.exec = Jvm.exec) {i : Fin 4} {v : Int32} (pc' : Nat) (hd : decode c.code pc = .ok (.iload_n i, 1)) (hp : pc + 1 = pc') (hl : Ls[i.val]? = some (.val (.int v))) (k : own_W p e below K T (mkF m pc' Ls (.int v :: S))) : own_W p e below K T (mkF m pc Ls S) := by subst hp; exact own_s (fun _ => XS.iloadN X.here hx rfl hd hl) k
theorem own_iload (X : Stand p l e R s m args below meth c T locs cells slots) (hx : p.tables.exec = Jvm.exec) {i : Nat} {v : Int32} (pc' : Nat) (hd : decode c.code pc = .ok (.iload i, 2)) (hp : pc + 2 = pc') (hl : Ls[i]? = some (.val (.int v))) (k : own_W p e below K T (mkF m pc' Ls (.int v :: S))) : own_W p e below K T (mkF m pc Ls S) := by subst hp; exact own_s (fun _ => XS.iload X.here hx rfl hd hl) k
theorem own_lloadN (X : Stand p l e R s m args below meth c T locs cells slots) (hx : p.tables.exec = Jvm.exec) {i : Fin 4} {v : Int64} (pc' : Nat) (hd : decode c.code pc = .ok (.lload_n i, 1)) (hp : pc + 1 = pc') (hl : Ls[i.val]? = some (.val (.long v))) (k : own_W p e below K T (mkF m pc' Ls (.long v :: S))) : own_W p e below K T (mkF m pc Ls S) := by subst hp; exact own_s (fun _ => XS.lloadN X.here hx rfl hd hl) k
theorem own_lload (X : Stand p l e R s m args below meth c T locs cells slots) (hx : p.tables.exec = Jvm.exec) {i : Nat} {v : Int64} (pc' : Nat) (hd : decode c.code pc = .ok (.lload i, 2)) (hp : pc + 2 = pc') (hl : Ls[i]? = some (.val (.long v))) (k : own_W p e below K T (mkF m pc' Ls (.long v :: S))) : own_W p e below K T (mkF m pc Ls S) := by subst hp; exact own_s (fun _ => XS.lload X.here hx rfl hd hl) k
theorem own_aloadN (X : Stand p l e R s m args below meth c T locs cells slots) (hx : p.tables.exec = Jvm.exec) {i : Fin 4} {v : Addr} (pc' : Nat) (hd : decode c.code pc = .ok (.aload_n i, 1)) (hp : pc + 1 = pc') (hl : Ls[i.val]? = some (.val (.ref v))) (k : own_W p e below K T (mkF m pc' Ls (.ref v :: S))) : own_W p e below K T (mkF m pc Ls S) := by subst hp; exact own_s (fun _ => XS.aloadN X.here hx rfl hd hl rfl) k
theorem own_aload (X : Stand p l e R s m args below meth c T locs cells slots) (hx : p.tables.exec = Jvm.exec) {i : Nat} {v : Addr} (pc' : Nat) (hd : decode c.code pc = .ok (.aload i, 2)) (hp : pc + 2 = pc') (hl : Ls[i]? = some (.val (.ref v))) (k : own_W p e below K T (mkF m pc' Ls (.ref v :: S))) : own_W p e below K T (mkF m pc Ls S) := by subst hp; exact own_s (fun _ => XS.aload X.here hx rfl hd hl rfl) k
theorem own_istoreN (X : Stand p l e R s m args below meth c T locs cells slots) (hx : p.tables.exec = Jvm.exec) {i : Fin 4} {x y : Int32} (pc' : Nat) (l' : Array Slot) (hy : y = x) (hd : decode c.code pc = .ok (.istore_n i, 1)) (hp : pc + 1 = pc') (hl : storeLocals Ls i.val (.int y) = some l') (k : own_W p e below K T (mkF m pc' l' S)) : own_W p e below K T (mkF m pc Ls (.int x :: S)) := by subst hp hy; exact own_s (fun _ => XS.istoreN X.here hx rfl hd rfl hl) k
theorem own_istore (X : Stand p l e R s m args below meth c T locs cells slots) (hx : p.tables.exec = Jvm.exec) {i : Nat} {x y : Int32} (pc' : Nat) (l' : Array Slot) (hy : y = x) (hd : decode c.code pc = .ok (.istore i, 2)) (hp : pc + 2 = pc') (hl : storeLocals Ls i (.int y) = some l') (k : own_W p e below K T (mkF m pc' l' S)) : own_W p e below K T (mkF m pc Ls (.int x :: S)) := by subst hp hy; exact own_s (fun _ => XS.istore X.here hx rfl hd rfl hl) k
theorem own_lstoreN (X : Stand p l e R s m args below meth c T locs cells slots) (hx : p.tables.exec = Jvm.exec) {i : Fin 4} {x y : Int64} (pc' : Nat) (l' : Array Slot) (hy : y = x) (hd : decode c.code pc = .ok (.lstore_n i, 1)) (hp : pc + 1 = pc') (hl : storeLocals Ls i.val (.long y) = some l') (k : own_W p e below K T (mkF m pc' l' S)) : own_W p e below K T (mkF m pc Ls (.long x :: S)) := by subst hp hy; exact own_s (fun _ => XS.lstoreN X.here hx rfl hd rfl hl) k
theorem own_lstore (X : Stand p l e R s m args below meth c T locs cells slots) (hx : p.tables.exec = Jvm.exec) {i : Nat} {x y : Int64} (pc' : Nat) (l' : Array Slot) (hy : y = x) (hd : decode c.code pc = .ok (.lstore i, 2)) (hp : pc + 2 = pc') (hl : storeLocals Ls i (.long y) = some l') (k : own_W p e below K T (mkF m pc' l' S)) : own_W p e below K T (mkF m pc Ls (.long x :: S)) := by subst hp hy; exact own_s (fun _ => XS.lstore X.here hx rfl hd rfl hl) k
theorem own_astoreN (X : Stand p l e R s m args below meth c T locs cells slots) (hx : p.tables.exec = Jvm.exec) {i : Fin 4} {x y : Addr} (pc' : Nat) (l' : Array Slot) (hy : y = x) (hd : decode c.code pc = .ok (.astore_n i, 1)) (hp : pc + 1 = pc') (hl : storeLocals Ls i.val (.ref y) = some l') (k : own_W p e below K T (mkF m pc' l' S)) : own_W p e below K T (mkF m pc Ls (.ref x :: S)) := by subst hp hy; exact own_s (fun _ => XS.astoreN X.here hx rfl hd rfl rfl hl) k
theorem own_astore (X : Stand p l e R s m args below meth c T locs cells slots) (hx : p.tables.exec = Jvm.exec) {i : Nat} {x y : Addr} (pc' : Nat) (l' : Array Slot) (hy : y = x) (hd : decode c.code pc = .ok (.astore i, 2)) (hp : pc + 2 = pc') (hl : storeLocals Ls i (.ref y) = some l') (k : own_W p e below K T (mkF m pc' l' S)) : own_W p e below K T (mkF m pc Ls (.ref x :: S)) := by subst hp hy; exact own_s (fun _ => XS.astore X.here hx rfl hd rfl rfl hl) k
theorem own_iinc (X : Stand p l e R s m args below meth c T locs cells slots) (hx : p.tables.exec = Jvm.exec) {i : Nat} {cst : Int} {x : Int32} (y : Int32) (pc' : Nat) (l' : Array Slot) (hy : y = x + Int32.ofInt cst) (hd : decode c.code pc = .ok (.iinc i cst, 3)) (hp : pc + 3 = pc') (hl : Ls[i]? = some (.val (.int x))) (hl' : storeLocals Ls i (.int y) = some l') (k : own_W p e below K T (mkF m pc' l' S)) : own_W p e below K T (mkF m pc Ls S) := by subst hp hy; exact own_s (fun _ => XS.iinc X.here hx rfl hd hl hl') k
theorem own_iconst (X : Stand p l e R s m args below meth c T locs cells slots) (hx : p.tables.exec = Jvm.exec) {i : Int} (pc' : Nat) (z : Int32) (hz : Int32.ofInt i = z) (hd : decode c.code pc = .ok (.iconst i, 1)) (hp : pc + 1 = pc') (k : own_W p e below K T (mkF m pc' Ls (.int z :: S))) : own_W p e below K T (mkF m pc Ls S) := by subst hp hz; exact own_s (fun _ => XS.iconst X.here hx rfl hd) k
theorem own_bipush (X : Stand p l e R s m args below meth c T locs cells slots) (hx : p.tables.exec = Jvm.exec) {i : Int} (pc' : Nat) (z : Int32) (hz : (Int8.ofInt i).toInt32 = z) (hd : decode c.code pc = .ok (.bipush i, 2)) (hp : pc + 2 = pc') (k : own_W p e below K T (mkF m pc' Ls (.int z :: S))) : own_W p e below K T (mkF m pc Ls S) := by subst hp hz; exact own_s (fun _ => XS.bipush X.here hx rfl hd) k
theorem own_sipush (X : Stand p l e R s m args below meth c T locs cells slots) (hx : p.tables.exec = Jvm.exec) {i : Int} (pc' : Nat) (z : Int32) (hz : (Int16.ofInt i).toInt32 = z) (hd : decode c.code pc = .ok (.sipush i, 3)) (hp : pc + 3 = pc') (k : own_W p e below K T (mkF m pc' Ls (.int z :: S))) : own_W p e below K T (mkF m pc Ls S) := by subst hp hz; exact own_s (fun _ => XS.sipush X.here hx rfl hd) k
theorem own_lconst (X : Stand p l e R s m args below meth c T locs cells slots) (hx : p.tables.exec = Jvm.exec) {i : Fin 2} (pc' : Nat) (z : Int64) (hz : Int64.ofNat i = z) (hd : decode c.code pc = .ok (.lconst i, 1)) (hp : pc + 1 = pc') (k : own_W p e below K T (mkF m pc' Ls (.long z :: S))) : own_W p e below K T (mkF m pc Ls S) := by subst hp hz; exact own_s (fun _ => XS.lconst X.here hx rfl hd) k
theorem own_ldc (X : Stand p l e R s m args below meth c T locs cells slots) (hx : p.tables.exec = Jvm.exec) {v : Int32} (hZ : Z.Warmed39 s.vm) (hown : s.vm.findClass own = some m.cls) (pc' : Nat) (w : (Jvm.Cond.constant own index v).before a0 Z = true) (hd : decode c.code pc = .ok (.ldc index, 2)) (hp : pc + 2 = pc') (k : own_W p e below K T (mkF m pc' Ls (.int v :: S))) : own_W p e below K T (mkF m pc Ls S) := by subst hp; exact own_s (X.ldcInt hx hown (mvT hZ w) (g := mkF m pc Ls S) rfl hd) k
theorem own_ldc2 (X : Stand p l e R s m args below meth c T locs cells slots) (hx : p.tables.exec = Jvm.exec) {v : Int64} (hZ : Z.Warmed39 s.vm) (hown : s.vm.findClass own = some m.cls) (pc' : Nat) (w : (Jvm.Cond.constantLong own index v).before a0 Z = true) (hd : decode c.code pc = .ok (.ldc2_w index, 3)) (hp : pc + 3 = pc') (k : own_W p e below K T (mkF m pc' Ls (.long v :: S))) : own_W p e below K T (mkF m pc Ls S) := by subst hp; exact own_s (X.ldc2Long hx hown (mvT hZ w) (g := mkF m pc Ls S) rfl hd) k
theorem own_goto (X : Stand p l e R s m args below meth c T locs cells slots) (hx : p.tables.exec = Jvm.exec) {o : Int} (pc' : Nat) (hd : decode c.code pc = .ok (.goto o, 3)) (ho : 0 ≤ (pc : Int) + o) (hp : ((pc : Int) + o).toNat = pc') (k : own_W p e below K T (mkF m pc' Ls S)) : own_W p e below K T (mkF m pc Ls S) := own_s (fun _ => XS.goto X.here hx (g := mkF m pc Ls S) rfl rfl hd ho hp) k
theorem own_dup (X : Stand p l e R s m args below meth c T locs cells slots) (hx : p.tables.exec = Jvm.exec) {x : Value} (pc' : Nat) (hc : x.category = 1) (hd : decode c.code pc = .ok (.dup, 1)) (hp : pc + 1 = pc') (k : own_W p e below K T (mkF m pc' Ls (x :: x :: S))) : own_W p e below K T (mkF m pc Ls (x :: S)) := by subst hp; exact own_s (fun _ => XS.dup X.here hx rfl hd rfl hc) k
theorem own_pop (X : Stand p l e R s m args below meth c T locs cells slots) (hx : p.tables.exec = Jvm.exec) {x : Value} (pc' : Nat) (hc : x.category = 1) (hd : decode c.code pc = .ok (.pop, 1)) (hp : pc + 1 = pc') (k : own_W p e below K T (mkF m pc' Ls S)) : own_W p e below K T (mkF m pc Ls (x :: S)) := by subst hp; exact own_s (fun _ => XS.pop X.here hx rfl hd rfl hc) k
theorem own_dupX1 (X : Stand p l e R s m args below meth c T locs cells slots) (hx : p.tables.exec = Jvm.exec) {x y : Value} (pc' : Nat) (hc : x.category = 1) (hc2 : y.category = 1) (hd : decode c.code pc = .ok (.dup_x1, 1)) (hp : pc + 1 = pc') (k : own_W p e below K T (mkF m pc' Ls (x :: y :: x :: S))) : own_W p e below K T (mkF m pc Ls (x :: y :: S)) := by subst hp; exact own_s (fun _ => XS.dupX1 X.here hx rfl hd rfl hc hc2) k
theorem own_dup2 (X : Stand p l e R s m args below meth c T locs cells slots) (hx : p.tables.exec = Jvm.exec) {x y : Value} (pc' : Nat) (hc : x.category = 1) (hc2 : y.category = 1) (hd : decode c.code pc = .ok (.dup2, 1)) (hp : pc + 1 = pc') (k : own_W p e below K T (mkF m pc' Ls (x :: y :: x :: y :: S))) : own_W p e below K T (mkF m pc Ls (x :: y :: S)) := by subst hp; exact own_s (fun _ => XT.dup2 X.here hx rfl hd rfl hc hc2) k
theorem own_iadd (X : Stand p l e R s m args below meth c T locs cells slots) (hx : p.tables.exec = Jvm.exec) {x y : Int32} (pc' : Nat) (hd : decode c.code pc = .ok (.iadd, 1)) (hp : pc + 1 = pc') (k : own_W p e below K T (mkF m pc' Ls (.int (x + y) :: S))) : own_W p e below K T (mkF m pc Ls (.int y :: .int x :: S)) := by subst hp; exact own_s (fun _ => XS.iadd X.here hx rfl hd rfl) k
theorem own_ladd (X : Stand p l e R s m args below meth c T locs cells slots) (hx : p.tables.exec = Jvm.exec) {x y : Int64} (pc' : Nat) (hd : decode c.code pc = .ok (.ladd, 1)) (hp : pc + 1 = pc') (k : own_W p e below K T (mkF m pc' Ls (.long (x + y) :: S))) : own_W p e below K T (mkF m pc Ls (.long y :: .long x :: S)) := by subst hp; exact own_s (fun _ => XS.ladd X.here hx rfl hd rfl) k
theorem own_isub (X : Stand p l e R s m args below meth c T locs cells slots) (hx : p.tables.exec = Jvm.exec) {x y : Int32} (pc' : Nat) (hd : decode c.code pc = .ok (.isub, 1)) (hp : pc + 1 = pc') (k : own_W p e below K T (mkF m pc' Ls (.int (x - y) :: S))) : own_W p e below K T (mkF m pc Ls (.int y :: .int x :: S)) := by subst hp; exact own_s (fun _ => XS.isub X.here hx rfl hd rfl) k
theorem own_lsub (X : Stand p l e R s m args below meth c T locs cells slots) (hx : p.tables.exec = Jvm.exec) {x y : Int64} (pc' : Nat) (hd : decode c.code pc = .ok (.lsub, 1)) (hp : pc + 1 = pc') (k : own_W p e below K T (mkF m pc' Ls (.long (x - y) :: S))) : own_W p e below K T (mkF m pc Ls (.long y :: .long x :: S)) := by subst hp; exact own_s (fun _ => XS.lsub X.here hx rfl hd rfl) k
theorem own_imul (X : Stand p l e R s m args below meth c T locs cells slots) (hx : p.tables.exec = Jvm.exec) {x y : Int32} (pc' : Nat) (hd : decode c.code pc = .ok (.imul, 1)) (hp : pc + 1 = pc') (k : own_W p e below K T (mkF m pc' Ls (.int (x * y) :: S))) : own_W p e below K T (mkF m pc Ls (.int y :: .int x :: S)) := by subst hp; exact own_s (fun _ => XS.imul X.here hx rfl hd rfl) k
theorem own_lmul (X : Stand p l e R s m args below meth c T locs cells slots) (hx : p.tables.exec = Jvm.exec) {x y : Int64} (pc' : Nat) (hd : decode c.code pc = .ok (.lmul, 1)) (hp : pc + 1 = pc') (k : own_W p e below K T (mkF m pc' Ls (.long (x * y) :: S))) : own_W p e below K T (mkF m pc Ls (.long y :: .long x :: S)) := by subst hp; exact own_s (fun _ => XS.lmul X.here hx rfl hd rfl) k
theorem own_iand (X : Stand p l e R s m args below meth c T locs cells slots) (hx : p.tables.exec = Jvm.exec) {x y : Int32} (pc' : Nat) (hd : decode c.code pc = .ok (.iand, 1)) (hp : pc + 1 = pc') (k : own_W p e below K T (mkF m pc' Ls (.int (x &&& y) :: S))) : own_W p e below K T (mkF m pc Ls (.int y :: .int x :: S)) := by subst hp; exact own_s (fun _ => XS.iand X.here hx rfl hd rfl) k
theorem own_land (X : Stand p l e R s m args below meth c T locs cells slots) (hx : p.tables.exec = Jvm.exec) {x y : Int64} (pc' : Nat) (hd : decode c.code pc = .ok (.land, 1)) (hp : pc + 1 = pc') (k : own_W p e below K T (mkF m pc' Ls (.long (x &&& y) :: S))) : own_W p e below K T (mkF m pc Ls (.long y :: .long x :: S)) := by subst hp; exact own_s (fun _ => XS.land X.here hx rfl hd rfl) k
theorem own_ior (X : Stand p l e R s m args below meth c T locs cells slots) (hx : p.tables.exec = Jvm.exec) {x y : Int32} (pc' : Nat) (hd : decode c.code pc = .ok (.ior, 1)) (hp : pc + 1 = pc') (k : own_W p e below K T (mkF m pc' Ls (.int (x ||| y) :: S))) : own_W p e below K T (mkF m pc Ls (.int y :: .int x :: S)) := by subst hp; exact own_s (fun _ => XS.ior X.here hx rfl hd rfl) k
theorem own_lor (X : Stand p l e R s m args below meth c T locs cells slots) (hx : p.tables.exec = Jvm.exec) {x y : Int64} (pc' : Nat) (hd : decode c.code pc = .ok (.lor, 1)) (hp : pc + 1 = pc') (k : own_W p e below K T (mkF m pc' Ls (.long (x ||| y) :: S))) : own_W p e below K T (mkF m pc Ls (.long y :: .long x :: S)) := by subst hp; exact own_s (fun _ => XS.lor X.here hx rfl hd rfl) k
theorem own_ixor (X : Stand p l e R s m args below meth c T locs cells slots) (hx : p.tables.exec = Jvm.exec) {x y : Int32} (pc' : Nat) (hd : decode c.code pc = .ok (.ixor, 1)) (hp : pc + 1 = pc') (k : own_W p e below K T (mkF m pc' Ls (.int (x ^^^ y) :: S))) : own_W p e below K T (mkF m pc Ls (.int y :: .int x :: S)) := by subst hp; exact own_s (fun _ => XS.ixor X.here hx rfl hd rfl) k
theorem own_lxor (X : Stand p l e R s m args below meth c T locs cells slots) (hx : p.tables.exec = Jvm.exec) {x y : Int64} (pc' : Nat) (hd : decode c.code pc = .ok (.lxor, 1)) (hp : pc + 1 = pc') (k : own_W p e below K T (mkF m pc' Ls (.long (x ^^^ y) :: S))) : own_W p e below K T (mkF m pc Ls (.long y :: .long x :: S)) := by subst hp; exact own_s (fun _ => XS.lxor X.here hx rfl hd rfl) k
theorem own_iaddz (X : Stand p l e R s m args below meth c T locs cells slots) (hx : p.tables.exec = Jvm.exec) {x y z : Int32} (pc' : Nat) (hz : x + y = z) (hd : decode c.code pc = .ok (.iadd, 1)) (hp : pc + 1 = pc') (k : own_W p e below K T (mkF m pc' Ls (.int z :: S))) : own_W p e below K T (mkF m pc Ls (.int y :: .int x :: S)) := by subst hz; exact own_iadd X hx pc' hd hp k
theorem own_laddz (X : Stand p l e R s m args below meth c T locs cells slots) (hx : p.tables.exec = Jvm.exec) {x y z : Int64} (pc' : Nat) (hz : x + y = z) (hd : decode c.code pc = .ok (.ladd, 1)) (hp : pc + 1 = pc') (k : own_W p e below K T (mkF m pc' Ls (.long z :: S))) : own_W p e below K T (mkF m pc Ls (.long y :: .long x :: S)) := by subst hz; exact own_ladd X hx pc' hd hp k
theorem own_isubz (X : Stand p l e R s m args below meth c T locs cells slots) (hx : p.tables.exec = Jvm.exec) {x y z : Int32} (pc' : Nat) (hz : x - y = z) (hd : decode c.code pc = .ok (.isub, 1)) (hp : pc + 1 = pc') (k : own_W p e below K T (mkF m pc' Ls (.int z :: S))) : own_W p e below K T (mkF m pc Ls (.int y :: .int x :: S)) := by subst hz; exact own_isub X hx pc' hd hp k
theorem own_lsubz (X : Stand p l e R s m args below meth c T locs cells slots) (hx : p.tables.exec = Jvm.exec) {x y z : Int64} (pc' : Nat) (hz : x - y = z) (hd : decode c.code pc = .ok (.lsub, 1)) (hp : pc + 1 = pc') (k : own_W p e below K T (mkF m pc' Ls (.long z :: S))) : own_W p e below K T (mkF m pc Ls (.long y :: .long x :: S)) := by subst hz; exact own_lsub X hx pc' hd hp k
theorem own_imulz (X : Stand p l e R s m args below meth c T locs cells slots) (hx : p.tables.exec = Jvm.exec) {x y z : Int32} (pc' : Nat) (hz : x * y = z) (hd : decode c.code pc = .ok (.imul, 1)) (hp : pc + 1 = pc') (k : own_W p e below K T (mkF m pc' Ls (.int z :: S))) : own_W p e below K T (mkF m pc Ls (.int y :: .int x :: S)) := by subst hz; exact own_imul X hx pc' hd hp k
theorem own_lmulz (X : Stand p l e R s m args below meth c T locs cells slots) (hx : p.tables.exec = Jvm.exec) {x y z : Int64} (pc' : Nat) (hz : x * y = z) (hd : decode c.code pc = .ok (.lmul, 1)) (hp : pc + 1 = pc') (k : own_W p e below K T (mkF m pc' Ls (.long z :: S))) : own_W p e below K T (mkF m pc Ls (.long y :: .long x :: S)) := by subst hz; exact own_lmul X hx pc' hd hp k
theorem own_iandz (X : Stand p l e R s m args below meth c T locs cells slots) (hx : p.tables.exec = Jvm.exec) {x y z : Int32} (pc' : Nat) (hz : x &&& y = z) (hd : decode c.code pc = .ok (.iand, 1)) (hp : pc + 1 = pc') (k : own_W p e below K T (mkF m pc' Ls (.int z :: S))) : own_W p e below K T (mkF m pc Ls (.int y :: .int x :: S)) := by subst hz; exact own_iand X hx pc' hd hp k
theorem own_landz (X : Stand p l e R s m args below meth c T locs cells slots) (hx : p.tables.exec = Jvm.exec) {x y z : Int64} (pc' : Nat) (hz : x &&& y = z) (hd : decode c.code pc = .ok (.land, 1)) (hp : pc + 1 = pc') (k : own_W p e below K T (mkF m pc' Ls (.long z :: S))) : own_W p e below K T (mkF m pc Ls (.long y :: .long x :: S)) := by subst hz; exact own_land X hx pc' hd hp k
theorem own_iorz (X : Stand p l e R s m args below meth c T locs cells slots) (hx : p.tables.exec = Jvm.exec) {x y z : Int32} (pc' : Nat) (hz : x ||| y = z) (hd : decode c.code pc = .ok (.ior, 1)) (hp : pc + 1 = pc') (k : own_W p e below K T (mkF m pc' Ls (.int z :: S))) : own_W p e below K T (mkF m pc Ls (.int y :: .int x :: S)) := by subst hz; exact own_ior X hx pc' hd hp k
theorem own_lorz (X : Stand p l e R s m args below meth c T locs cells slots) (hx : p.tables.exec = Jvm.exec) {x y z : Int64} (pc' : Nat) (hz : x ||| y = z) (hd : decode c.code pc = .ok (.lor, 1)) (hp : pc + 1 = pc') (k : own_W p e below K T (mkF m pc' Ls (.long z :: S))) : own_W p e below K T (mkF m pc Ls (.long y :: .long x :: S)) := by subst hz; exact own_lor X hx pc' hd hp k
theorem own_ixorz (X : Stand p l e R s m args below meth c T locs cells slots) (hx : p.tables.exec = Jvm.exec) {x y z : Int32} (pc' : Nat) (hz : x ^^^ y = z) (hd : decode c.code pc = .ok (.ixor, 1)) (hp : pc + 1 = pc') (k : own_W p e below K T (mkF m pc' Ls (.int z :: S))) : own_W p e below K T (mkF m pc Ls (.int y :: .int x :: S)) := by subst hz; exact own_ixor X hx pc' hd hp k
theorem own_lxorz (X : Stand p l e R s m args below meth c T locs cells slots) (hx : p.tables.exec = Jvm.exec) {x y z : Int64} (pc' : Nat) (hz : x ^^^ y = z) (hd : decode c.code pc = .ok (.lxor, 1)) (hp : pc + 1 = pc') (k : own_W p e below K T (mkF m pc' Ls (.long z :: S))) : own_W p e below K T (mkF m pc Ls (.long y :: .long x :: S)) := by subst hz; exact own_lxor X hx pc' hd hp k
theorem own_ishl (X : Stand p l e R s m args below meth c T locs cells slots) (hx : p.tables.exec = Jvm.exec) {x : Int32} {y : Int32} (pc' : Nat) (hd : decode c.code pc = .ok (.ishl, 1)) (hp : pc + 1 = pc') (k : own_W p e below K T (mkF m pc' Ls (.int (x <<< (y &&& 31)) :: S))) : own_W p e below K T (mkF m pc Ls (.int y :: .int x :: S)) := by subst hp; exact own_s (fun _ => XS.ishl X.here hx rfl hd rfl) k
theorem own_ishr (X : Stand p l e R s m args below meth c T locs cells slots) (hx : p.tables.exec = Jvm.exec) {x : Int32} {y : Int32} (pc' : Nat) (hd : decode c.code pc = .ok (.ishr, 1)) (hp : pc + 1 = pc') (k : own_W p e below K T (mkF m pc' Ls (.int (x >>> (y &&& 31)) :: S))) : own_W p e below K T (mkF m pc Ls (.int y :: .int x :: S)) := by subst hp; exact own_s (fun _ => XS.ishr X.here hx rfl hd rfl) k
theorem own_iushr (X : Stand p l e R s m args below meth c T locs cells slots) (hx : p.tables.exec = Jvm.exec) {x : Int32} {y : Int32} (pc' : Nat) (hd : decode c.code pc = .ok (.iushr, 1)) (hp : pc + 1 = pc') (k : own_W p e below K T (mkF m pc' Ls (.int ((x.toUInt32 >>> (y &&& 31).toUInt32).toInt32) :: S))) : own_W p e below K T (mkF m pc Ls (.int y :: .int x :: S)) := by subst hp; exact own_s (fun _ => XS.iushr X.here hx rfl hd rfl) k
theorem own_lshl (X : Stand p l e R s m args below meth c T locs cells slots) (hx : p.tables.exec = Jvm.exec) {x : Int64} {y : Int32} (pc' : Nat) (hd : decode c.code pc = .ok (.lshl, 1)) (hp : pc + 1 = pc') (k : own_W p e below K T (mkF m pc' Ls (.long (x <<< (y &&& 0x3f).toInt64) :: S))) : own_W p e below K T (mkF m pc Ls (.int y :: .long x :: S)) := by subst hp; exact own_s (fun _ => XS.lshl X.here hx rfl hd rfl) k
theorem own_lshr (X : Stand p l e R s m args below meth c T locs cells slots) (hx : p.tables.exec = Jvm.exec) {x : Int64} {y : Int32} (pc' : Nat) (hd : decode c.code pc = .ok (.lshr, 1)) (hp : pc + 1 = pc') (k : own_W p e below K T (mkF m pc' Ls (.long (x >>> (y &&& 0x3f).toInt64) :: S))) : own_W p e below K T (mkF m pc Ls (.int y :: .long x :: S)) := by subst hp; exact own_s (fun _ => XS.lshr X.here hx rfl hd rfl) k
theorem own_lushr (X : Stand p l e R s m args below meth c T locs cells slots) (hx : p.tables.exec = Jvm.exec) {x : Int64} {y : Int32} (pc' : Nat) (hd : decode c.code pc = .ok (.lushr, 1)) (hp : pc + 1 = pc') (k : own_W p e below K T (mkF m pc' Ls (.long ((x.toUInt64 >>> (y &&& 0x3f).toInt64.toUInt64).toInt64) :: S))) : own_W p e below K T (mkF m pc Ls (.int y :: .long x :: S)) := by subst hp; exact own_s (fun _ => XS.lushr X.here hx rfl hd rfl) k
theorem own_ineg (X : Stand p l e R s m args below meth c T locs cells slots) (hx : p.tables.exec = Jvm.exec) {x : Int32} (pc' : Nat) (hd : decode c.code pc = .ok (.ineg, 1)) (hp : pc + 1 = pc') (k : own_W p e below K T (mkF m pc' Ls (.int ((-x)) :: S))) : own_W p e below K T (mkF m pc Ls (.int x :: S)) := by subst hp; exact own_s (fun _ => XS.ineg X.here hx rfl hd rfl) k
theorem own_lneg (X : Stand p l e R s m args below meth c T locs cells slots) (hx : p.tables.exec = Jvm.exec) {x : Int64} (pc' : Nat) (hd : decode c.code pc = .ok (.lneg, 1)) (hp : pc + 1 = pc') (k : own_W p e below K T (mkF m pc' Ls (.long ((-x)) :: S))) : own_W p e below K T (mkF m pc Ls (.long x :: S)) := by subst hp; exact own_s (fun _ => XS.lneg X.here hx rfl hd rfl) k
theorem own_i2l (X : Stand p l e R s m args below meth c T locs cells slots) (hx : p.tables.exec = Jvm.exec) {x : Int32} (pc' : Nat) (hd : decode c.code pc = .ok (.i2l, 1)) (hp : pc + 1 = pc') (k : own_W p e below K T (mkF m pc' Ls (.long (x.toInt64) :: S))) : own_W p e below K T (mkF m pc Ls (.int x :: S)) := by subst hp; exact own_s (fun _ => XS.i2l X.here hx rfl hd rfl) k
theorem own_l2i (X : Stand p l e R s m args below meth c T locs cells slots) (hx : p.tables.exec = Jvm.exec) {x : Int64} (pc' : Nat) (hd : decode c.code pc = .ok (.l2i, 1)) (hp : pc + 1 = pc') (k : own_W p e below K T (mkF m pc' Ls (.int (x.toInt32) :: S))) : own_W p e below K T (mkF m pc Ls (.long x :: S)) := by subst hp; exact own_s (fun _ => XS.l2i X.here hx rfl hd rfl) k
theorem own_i2b (X : Stand p l e R s m args below meth c T locs cells slots) (hx : p.tables.exec = Jvm.exec) {x : Int32} (pc' : Nat) (hd : decode c.code pc = .ok (.i2b, 1)) (hp : pc + 1 = pc') (k : own_W p e below K T (mkF m pc' Ls (.int (x.toInt8.toInt32) :: S))) : own_W p e below K T (mkF m pc Ls (.int x :: S)) := by subst hp; exact own_s (fun _ => XS.i2b X.here hx rfl hd rfl) k
theorem own_i2s (X : Stand p l e R s m args below meth c T locs cells slots) (hx : p.tables.exec = Jvm.exec) {x : Int32} (pc' : Nat) (hd : decode c.code pc = .ok (.i2s, 1)) (hp : pc + 1 = pc') (k : own_W p e below K T (mkF m pc' Ls (.int (x.toInt16.toInt32) :: S))) : own_W p e below K T (mkF m pc Ls (.int x :: S)) := by subst hp; exact own_s (fun _ => XS.i2s X.here hx rfl hd rfl) k
theorem own_i2c (X : Stand p l e R s m args below meth c T locs cells slots) (hx : p.tables.exec = Jvm.exec) {x : Int32} (pc' : Nat) (hd : decode c.code pc = .ok (.i2c, 1)) (hp : pc + 1 = pc') (k : own_W p e below K T (mkF m pc' Ls (.int (x.toUInt32.toUInt16.toUInt32.toInt32) :: S))) : own_W p e below K T (mkF m pc Ls (.int x :: S)) := by subst hp; exact own_s (fun _ => XS.i2c X.here hx rfl hd rfl) k
theorem own_i2lz (X : Stand p l e R s m args below meth c T locs cells slots) (hx : p.tables.exec = Jvm.exec) {x : Int32} {z : Int64} (pc' : Nat) (hz : x.toInt64 = z) (hd : decode c.code pc = .ok (.i2l, 1)) (hp : pc + 1 = pc') (k : own_W p e below K T (mkF m pc' Ls (.long z :: S))) : own_W p e below K T (mkF m pc Ls (.int x :: S)) := by subst hz; exact own_i2l X hx pc' hd hp k
theorem own_l2iz (X : Stand p l e R s m args below meth c T locs cells slots) (hx : p.tables.exec = Jvm.exec) {x : Int64} {z : Int32} (pc' : Nat) (hz : x.toInt32 = z) (hd : decode c.code pc = .ok (.l2i, 1)) (hp : pc + 1 = pc') (k : own_W p e below K T (mkF m pc' Ls (.int z :: S))) : own_W p e below K T (mkF m pc Ls (.long x :: S)) := by subst hz; exact own_l2i X hx pc' hd hp k
theorem own_idiv (X : Stand p l e R s m args below meth c T locs cells slots) (hx : p.tables.exec = Jvm.exec) {x y : Int32} (pc' : Nat) (hy : y ≠ 0) (hd : decode c.code pc = .ok (.idiv, 1)) (hp : pc + 1 = pc') (k : own_W p e below K T (mkF m pc' Ls (.int (x / y) :: S))) : own_W p e below K T (mkF m pc Ls (.int y :: .int x :: S)) := by subst hp; exact own_s (fun _ => XS.idiv X.here hx rfl hd rfl hy) k
theorem own_irem (X : Stand p l e R s m args below meth c T locs cells slots) (hx : p.tables.exec = Jvm.exec) {x y : Int32} (pc' : Nat) (hy : y ≠ 0) (hd : decode c.code pc = .ok (.irem, 1)) (hp : pc + 1 = pc') (k : own_W p e below K T (mkF m pc' Ls (.int (x % y) :: S))) : own_W p e below K T (mkF m pc Ls (.int y :: .int x :: S)) := by subst hp; exact own_s (fun _ => iremM X hx rfl hd rfl hy) k
theorem own_ldiv (X : Stand p l e R s m args below meth c T locs cells slots) (hx : p.tables.exec = Jvm.exec) {x y : Int64} (pc' : Nat) (hy : y ≠ 0) (hd : decode c.code pc = .ok (.ldiv, 1)) (hp : pc + 1 = pc') (k : own_W p e below K T (mkF m pc' Ls (.long (x / y) :: S))) : own_W p e below K T (mkF m pc Ls (.long y :: .long x :: S)) := by subst hp; exact own_s (fun _ => XS.ldiv X.here hx rfl hd rfl hy) k
theorem own_lrem (X : Stand p l e R s m args below meth c T locs cells slots) (hx : p.tables.exec = Jvm.exec) {x y : Int64} (pc' : Nat) (hy : y ≠ 0) (hd : decode c.code pc = .ok (.lrem, 1)) (hp : pc + 1 = pc') (k : own_W p e below K T (mkF m pc' Ls (.long (x % y) :: S))) : own_W p e below K T (mkF m pc Ls (.long y :: .long x :: S)) := by subst hp; rw [← lrem_mod] at k; exact own_s (fun _ => XS.lrem X.here hx rfl hd rfl hy) k
theorem own_icmp (X : Stand p l e R s m args below meth c T locs cells slots) (hx : p.tables.exec = Jvm.exec) {cd : ClassFile.Cond} {x y : Int32} {o : Int} (pcT pcF : Nat) (P : Prop) [Decidable P] (hT : P → if_icmp.holds cd x y = true) (hF : ¬ P → if_icmp.holds cd x y = false) (hd : decode c.code pc = .ok (.if_icmp cd o, 3)) (ho : 0 ≤ (pc : Int) + o) (hp : ((pc : Int) + o).toNat = pcT) (hp' : pc + 3 = pcF)
    (kT : P → own_W p e below K T (mkF m pcT Ls S)) (kF : ¬ P → own_W p e below K T (mkF m pcF Ls S)) : own_W p e below K T (mkF m pc Ls (.int y :: .int x :: S)) := by
  subst hp'
  by_cases q : P
  · exact own_s (fun _ => XS.icmpYes X.here hx (g := mkF m pc Ls (.int y :: .int x :: S)) rfl rfl hd rfl (hT q) ho hp) (kT q)
  · exact own_s (fun _ => XS.icmpNo X.here hx (g := mkF m pc Ls (.int y :: .int x :: S)) rfl hd rfl (hF q)) (kF q)
theorem own_if (X : Stand p l e R s m args below meth c T locs cells slots) (hx : p.tables.exec = Jvm.exec) {cd : ClassFile.Cond} {x : Int32} {o : Int} (pcT pcF : Nat) (P : Prop) [Decidable P] (hT : P → if_icmp.holds cd x 0 = true) (hF : ¬ P → if_icmp.holds cd x 0 = false) (hd : decode c.code pc = .ok (.ifCond cd o, 3)) (ho : 0 ≤ (pc : Int) + o) (hp : ((pc : Int) + o).toNat = pcT) (hp' : pc + 3 = pcF)
    (kT : P → own_W p e below K T (mkF m pcT Ls S)) (kF : ¬ P → own_W p e below K T (mkF m pcF Ls S)) : own_W p e below K T (mkF m pc Ls (.int x :: S)) := by
  subst hp'
  by_cases q : P
  · exact own_s (fun _ => XS.ifYes X.here hx (g := mkF m pc Ls (.int x :: S)) rfl rfl hd rfl ((if0 cd x).trans (hT q)) ho hp) (kT q)
  · exact own_s (fun _ => XS.ifNo X.here hx (g := mkF m pc Ls (.int x :: S)) rfl hd rfl ((if0 cd x).trans (hF q))) (kF q)
theorem own_lcmp (X : Stand p l e R s m args below meth c T locs cells slots) (hx : p.tables.exec = Jvm.exec) {x y : Int64} (pc' : Nat) (hd : decode c.code pc = .ok (.lcmp, 1)) (hp : pc + 1 = pc') (k : own_W p e below K T (mkF m pc' Ls (.int (lcmpW x y) :: S))) : own_W p e below K T (mkF m pc Ls (.long y :: .long x :: S)) := by subst hp; exact own_s (fun _ => XS.lcmp X.here hx rfl hd rfl) k
theorem own_icmp_lt (X : Stand p l e R s m args below meth c T locs cells slots) (hx : p.tables.exec = Jvm.exec) {x y : Int32} {o : Int} (pcT pcF : Nat) (hd : decode c.code pc = .ok (.if_icmp .lt o, 3)) (ho : 0 ≤ (pc : Int) + o) (hp : ((pc : Int) + o).toNat = pcT) (hp' : pc + 3 = pcF) (kT : x < y → own_W p e below K T (mkF m pcT Ls S)) (kF : ¬ x < y → own_W p e below K T (mkF m pcF Ls S)) : own_W p e below K T (mkF m pc Ls (.int y :: .int x :: S)) := own_icmp X hx pcT pcF (x < y) (fun q => (tlt q).1) (fun q => (flt q).1) hd ho hp hp' kT kF
theorem own_if_lt (X : Stand p l e R s m args below meth c T locs cells slots) (hx : p.tables.exec = Jvm.exec) {x : Int32} {o : Int} (pcT pcF : Nat) (hd : decode c.code pc = .ok (.ifCond .lt o, 3)) (ho : 0 ≤ (pc : Int) + o) (hp : ((pc : Int) + o).toNat = pcT) (hp' : pc + 3 = pcF) (kT : x < 0 → own_W p e below K T (mkF m pcT Ls S)) (kF : ¬ x < 0 → own_W p e below K T (mkF m pcF Ls S)) : own_W p e below K T (mkF m pc Ls (.int x :: S)) := own_if X hx pcT pcF (x < 0) (fun q => (tlt q).1) (fun q => (flt q).1) hd ho hp hp' kT kF
theorem own_lif_lt (X : Stand p l e R s m args below meth c T locs cells slots) (hx : p.tables.exec = Jvm.exec) {x y : Int64} {o : Int} (pc1 pcT pcF : Nat) (hd1 : decode c.code pc = .ok (.lcmp, 1)) (hp1 : pc + 1 = pc1) (hd : decode c.code pc1 = .ok (.ifCond .lt o, 3)) (ho : 0 ≤ (pc1 : Int) + o) (hp : ((pc1 : Int) + o).toNat = pcT) (hp' : pc1 + 3 = pcF) (kT : x < y → own_W p e below K T (mkF m pcT Ls S)) (kF : ¬ x < y → own_W p e below K T (mkF m pcF Ls S)) : own_W p e below K T (mkF m pc Ls (.long y :: .long x :: S)) := own_lcmp X hx pc1 hd1 hp1 (own_if_lt X hx pcT pcF hd ho hp hp' (fun q => kT ((lw_lt x y).mp q)) (fun q => kF (fun r => q ((lw_lt x y).mpr r))))
theorem own_icmp_ge (X : Stand p l e R s m args below meth c T locs cells slots) (hx : p.tables.exec = Jvm.exec) {x y : Int32} {o : Int} (pcT pcF : Nat) (hd : decode c.code pc = .ok (.if_icmp .ge o, 3)) (ho : 0 ≤ (pc : Int) + o) (hp : ((pc : Int) + o).toNat = pcT) (hp' : pc + 3 = pcF) (kT : ¬ x < y → own_W p e below K T (mkF m pcT Ls S)) (kF : x < y → own_W p e below K T (mkF m pcF Ls S)) : own_W p e below K T (mkF m pc Ls (.int y :: .int x :: S)) := own_icmp X hx pcT pcF (¬ x < y) (fun q => (flt q).2.1) (fun q => (tlt (Decidable.not_not.mp q)).2.1) hd ho hp hp' kT (fun q => kF (Decidable.not_not.mp q))
theorem own_if_ge (X : Stand p l e R s m args below meth c T locs cells slots) (hx : p.tables.exec = Jvm.exec) {x : Int32} {o : Int} (pcT pcF : Nat) (hd : decode c.code pc = .ok (.ifCond .ge o, 3)) (ho : 0 ≤ (pc : Int) + o) (hp : ((pc : Int) + o).toNat = pcT) (hp' : pc + 3 = pcF) (kT : ¬ x < 0 → own_W p e below K T (mkF m pcT Ls S)) (kF : x < 0 → own_W p e below K T (mkF m pcF Ls S)) : own_W p e below K T (mkF m pc Ls (.int x :: S)) := own_if X hx pcT pcF (¬ x < 0) (fun q => (flt q).2.1) (fun q => (tlt (Decidable.not_not.mp q)).2.1) hd ho hp hp' kT (fun q => kF (Decidable.not_not.mp q))
theorem own_lif_ge (X : Stand p l e R s m args below meth c T locs cells slots) (hx : p.tables.exec = Jvm.exec) {x y : Int64} {o : Int} (pc1 pcT pcF : Nat) (hd1 : decode c.code pc = .ok (.lcmp, 1)) (hp1 : pc + 1 = pc1) (hd : decode c.code pc1 = .ok (.ifCond .ge o, 3)) (ho : 0 ≤ (pc1 : Int) + o) (hp : ((pc1 : Int) + o).toNat = pcT) (hp' : pc1 + 3 = pcF) (kT : ¬ x < y → own_W p e below K T (mkF m pcT Ls S)) (kF : x < y → own_W p e below K T (mkF m pcF Ls S)) : own_W p e below K T (mkF m pc Ls (.long y :: .long x :: S)) := own_lcmp X hx pc1 hd1 hp1 (own_if_ge X hx pcT pcF hd ho hp hp' (fun q => kT (fun r => q ((lw_lt x y).mpr r))) (fun q => kF ((lw_lt x y).mp q)))
theorem own_icmp_gt (X : Stand p l e R s m args below meth c T locs cells slots) (hx : p.tables.exec = Jvm.exec) {x y : Int32} {o : Int} (pcT pcF : Nat) (hd : decode c.code pc = .ok (.if_icmp .gt o, 3)) (ho : 0 ≤ (pc : Int) + o) (hp : ((pc : Int) + o).toNat = pcT) (hp' : pc + 3 = pcF) (kT : y < x → own_W p e below K T (mkF m pcT Ls S)) (kF : ¬ y < x → own_W p e below K T (mkF m pcF Ls S)) : own_W p e below K T (mkF m pc Ls (.int y :: .int x :: S)) := own_icmp X hx pcT pcF (y < x) (fun q => (tlt q).2.2.1) (fun q => (flt q).2.2.1) hd ho hp hp' kT kF
theorem own_if_gt (X : Stand p l e R s m args below meth c T locs cells slots) (hx : p.tables.exec = Jvm.exec) {x : Int32} {o : Int} (pcT pcF : Nat) (hd : decode c.code pc = .ok (.ifCond .gt o, 3)) (ho : 0 ≤ (pc : Int) + o) (hp : ((pc : Int) + o).toNat = pcT) (hp' : pc + 3 = pcF) (kT : 0 < x → own_W p e below K T (mkF m pcT Ls S)) (kF : ¬ 0 < x → own_W p e below K T (mkF m pcF Ls S)) : own_W p e below K T (mkF m pc Ls (.int x :: S)) := own_if X hx pcT pcF (0 < x) (fun q => (tlt q).2.2.1) (fun q => (flt q).2.2.1) hd ho hp hp' kT kF
theorem own_lif_gt (X : Stand p l e R s m args below meth c T locs cells slots) (hx : p.tables.exec = Jvm.exec) {x y : Int64} {o : Int} (pc1 pcT pcF : Nat) (hd1 : decode c.code pc = .ok (.lcmp, 1)) (hp1 : pc + 1 = pc1) (hd : decode c.code pc1 = .ok (.ifCond .gt o, 3)) (ho : 0 ≤ (pc1 : Int) + o) (hp : ((pc1 : Int) + o).toNat = pcT) (hp' : pc1 + 3 = pcF) (kT : y < x → own_W p e below K T (mkF m pcT Ls S)) (kF : ¬ y < x → own_W p e below K T (mkF m pcF Ls S)) : own_W p e below K T (mkF m pc Ls (.long y :: .long x :: S)) := own_lcmp X hx pc1 hd1 hp1 (own_if_gt X hx pcT pcF hd ho hp hp' (fun q => kT ((lw_gt x y).mp q)) (fun q => kF (fun r => q ((lw_gt x y).mpr r))))
theorem own_icmp_le (X : Stand p l e R s m args below meth c T locs cells slots) (hx : p.tables.exec = Jvm.exec) {x y : Int32} {o : Int} (pcT pcF : Nat) (hd : decode c.code pc = .ok (.if_icmp .le o, 3)) (ho : 0 ≤ (pc : Int) + o) (hp : ((pc : Int) + o).toNat = pcT) (hp' : pc + 3 = pcF) (kT : ¬ y < x → own_W p e below K T (mkF m pcT Ls S)) (kF : y < x → own_W p e below K T (mkF m pcF Ls S)) : own_W p e below K T (mkF m pc Ls (.int y :: .int x :: S)) := own_icmp X hx pcT pcF (¬ y < x) (fun q => (flt q).2.2.2) (fun q => (tlt (Decidable.not_not.mp q)).2.2.2) hd ho hp hp' kT (fun q => kF (Decidable.not_not.mp q))
theorem own_if_le (X : Stand p l e R s m args below meth c T locs cells slots) (hx : p.tables.exec = Jvm.exec) {x : Int32} {o : Int} (pcT pcF : Nat) (hd : decode c.code pc = .ok (.ifCond .le o, 3)) (ho : 0 ≤ (pc : Int) + o) (hp : ((pc : Int) + o).toNat = pcT) (hp' : pc + 3 = pcF) (kT : ¬ 0 < x → own_W p e below K T (mkF m pcT Ls S)) (kF : 0 < x → own_W p e below K T (mkF m pcF Ls S)) : own_W p e below K T (mkF m pc Ls (.int x :: S)) := own_if X hx pcT pcF (¬ 0 < x) (fun q => (flt q).2.2.2) (fun q => (tlt (Decidable.not_not.mp q)).2.2.2) hd ho hp hp' kT (fun q => kF (Decidable.not_not.mp q))
theorem own_lif_le (X : Stand p l e R s m args below meth c T locs cells slots) (hx : p.tables.exec = Jvm.exec) {x y : Int64} {o : Int} (pc1 pcT pcF : Nat) (hd1 : decode c.code pc = .ok (.lcmp, 1)) (hp1 : pc + 1 = pc1) (hd : decode c.code pc1 = .ok (.ifCond .le o, 3)) (ho : 0 ≤ (pc1 : Int) + o) (hp : ((pc1 : Int) + o).toNat = pcT) (hp' : pc1 + 3 = pcF) (kT : ¬ y < x → own_W p e below K T (mkF m pcT Ls S)) (kF : y < x → own_W p e below K T (mkF m pcF Ls S)) : own_W p e below K T (mkF m pc Ls (.long y :: .long x :: S)) := own_lcmp X hx pc1 hd1 hp1 (own_if_le X hx pcT pcF hd ho hp hp' (fun q => kT (fun r => q ((lw_gt x y).mpr r))) (fun q => kF ((lw_gt x y).mp q)))
theorem own_icmp_eq (X : Stand p l e R s m args below meth c T locs cells slots) (hx : p.tables.exec = Jvm.exec) {x y : Int32} {o : Int} (pcT pcF : Nat) (hd : decode c.code pc = .ok (.if_icmp .eq o, 3)) (ho : 0 ≤ (pc : Int) + o) (hp : ((pc : Int) + o).toNat = pcT) (hp' : pc + 3 = pcF) (kT : x = y → own_W p e below K T (mkF m pcT Ls S)) (kF : ¬ x = y → own_W p e below K T (mkF m pcF Ls S)) : own_W p e below K T (mkF m pc Ls (.int y :: .int x :: S)) := own_icmp X hx pcT pcF (x = y) (fun q => (teq q).1) (fun q => (feq q).1) hd ho hp hp' kT kF
theorem own_if_eq (X : Stand p l e R s m args below meth c T locs cells slots) (hx : p.tables.exec = Jvm.exec) {x : Int32} {o : Int} (pcT pcF : Nat) (hd : decode c.code pc = .ok (.ifCond .eq o, 3)) (ho : 0 ≤ (pc : Int) + o) (hp : ((pc : Int) + o).toNat = pcT) (hp' : pc + 3 = pcF) (kT : x = 0 → own_W p e below K T (mkF m pcT Ls S)) (kF : ¬ x = 0 → own_W p e below K T (mkF m pcF Ls S)) : own_W p e below K T (mkF m pc Ls (.int x :: S)) := own_if X hx pcT pcF (x = 0) (fun q => (teq q).1) (fun q => (feq q).1) hd ho hp hp' kT kF
theorem own_lif_eq (X : Stand p l e R s m args below meth c T locs cells slots) (hx : p.tables.exec = Jvm.exec) {x y : Int64} {o : Int} (pc1 pcT pcF : Nat) (hd1 : decode c.code pc = .ok (.lcmp, 1)) (hp1 : pc + 1 = pc1) (hd : decode c.code pc1 = .ok (.ifCond .eq o, 3)) (ho : 0 ≤ (pc1 : Int) + o) (hp : ((pc1 : Int) + o).toNat = pcT) (hp' : pc1 + 3 = pcF) (kT : x = y → own_W p e below K T (mkF m pcT Ls S)) (kF : ¬ x = y → own_W p e below K T (mkF m pcF Ls S)) : own_W p e below K T (mkF m pc Ls (.long y :: .long x :: S)) := own_lcmp X hx pc1 hd1 hp1 (own_if_eq X hx pcT pcF hd ho hp hp' (fun q => kT ((lw_eq x y).mp q)) (fun q => kF (fun r => q ((lw_eq x y).mpr r))))
theorem own_icmp_ne (X : Stand p l e R s m args below meth c T locs cells slots) (hx : p.tables.exec = Jvm.exec) {x y : Int32} {o : Int} (pcT pcF : Nat) (hd : decode c.code pc = .ok (.if_icmp .ne o, 3)) (ho : 0 ≤ (pc : Int) + o) (hp : ((pc : Int) + o).toNat = pcT) (hp' : pc + 3 = pcF) (kT : ¬ x = y → own_W p e below K T (mkF m pcT Ls S)) (kF : x = y → own_W p e below K T (mkF m pcF Ls S)) : own_W p e below K T (mkF m pc Ls (.int y :: .int x :: S)) := own_icmp X hx pcT pcF (¬ x = y) (fun q => (feq q).2) (fun q => (teq (Decidable.not_not.mp q)).2) hd ho hp hp' kT (fun q => kF (Decidable.not_not.mp q))
theorem own_if_ne (X : Stand p l e R s m args below meth c T locs cells slots) (hx : p.tables.exec = Jvm.exec) {x : Int32} {o : Int} (pcT pcF : Nat) (hd : decode c.code pc = .ok (.ifCond .ne o, 3)) (ho : 0 ≤ (pc : Int) + o) (hp : ((pc : Int) + o).toNat = pcT) (hp' : pc + 3 = pcF) (kT : ¬ x = 0 → own_W p e below K T (mkF m pcT Ls S)) (kF : x = 0 → own_W p e below K T (mkF m pcF Ls S)) : own_W p e below K T (mkF m pc Ls (.int x :: S)) := own_if X hx pcT pcF (¬ x = 0) (fun q => (feq q).2) (fun q => (teq (Decidable.not_not.mp q)).2) hd ho hp hp' kT (fun q => kF (Decidable.not_not.mp q))
theorem own_lif_ne (X : Stand p l e R s m args below meth c T locs cells slots) (hx : p.tables.exec = Jvm.exec) {x y : Int64} {o : Int} (pc1 pcT pcF : Nat) (hd1 : decode c.code pc = .ok (.lcmp, 1)) (hp1 : pc + 1 = pc1) (hd : decode c.code pc1 = .ok (.ifCond .ne o, 3)) (ho : 0 ≤ (pc1 : Int) + o) (hp : ((pc1 : Int) + o).toNat = pcT) (hp' : pc1 + 3 = pcF) (kT : ¬ x = y → own_W p e below K T (mkF m pcT Ls S)) (kF : x = y → own_W p e below K T (mkF m pcF Ls S)) : own_W p e below K T (mkF m pc Ls (.long y :: .long x :: S)) := own_lcmp X hx pc1 hd1 hp1 (own_if_ne X hx pcT pcF hd ho hp hp' (fun q => kT (fun r => q ((lw_eq x y).mpr r))) (fun q => kF ((lw_eq x y).mp q)))
end Plain
section Rets
theorem own_retI (X : Stand p l e R s m args below meth c T locs cells slots) (hx : p.tables.exec = Jvm.exec) {z : Int32} (hret : meth.sig.returnType = some .int) (hlk : meth.locks = false) (hd : decode c.code pc = .ok (.ireturn, 1)) (hc : cells ≤ R.cells) (hl : slots ≤ R.slots) (q : Q (some (.int z)) T.heap locs) : own_W p e below (own_K s R Q) T (mkF m pc Ls (.int z :: S)) := by
  obtain ⟨fs, hr, hrun, hended, hW, hsame⟩ := X.leave (v := some (.int z)) (fun h => by rw [hret] at h; cases h) hlk
  exact ⟨_, _, retI X hx hret hd hr, hrun, hended, _, _, rfl, q, ⟨_, rfl⟩, hW, hsame.mono hc hl⟩
theorem own_retZ (X : Stand p l e R s m args below meth c T locs cells slots) (hx : p.tables.exec = Jvm.exec) {z : Int32} (z' : Int32) (hz : z &&& 1 = z') (hret : meth.sig.returnType = some .boolean) (hlk : meth.locks = false) (hd : decode c.code pc = .ok (.ireturn, 1)) (hc : cells ≤ R.cells) (hl : slots ≤ R.slots) (q : Q (some (.int z')) T.heap locs) : own_W p e below (own_K s R Q) T (mkF m pc Ls (.int z :: S)) := by
  subst hz
  obtain ⟨fs, hr, hrun, hended, hW, hsame⟩ := X.leave (v := some (.int (nar .boolean z))) (fun h => by rw [hret] at h; cases h) hlk
  exact ⟨_, _, retN X hx (t := .boolean) hret (by simp) hd hr, hrun, hended, _, _, rfl, q, ⟨_, rfl⟩, hW, hsame.mono hc hl⟩
theorem own_retJ (X : Stand p l e R s m args below meth c T locs cells slots) (hx : p.tables.exec = Jvm.exec) {z : Int64} (hret : meth.sig.returnType = some .long) (hlk : meth.locks = false) (hd : decode c.code pc = .ok (.lreturn, 1)) (hc : cells ≤ R.cells) (hl : slots ≤ R.slots) (q : Q (some (.long z)) T.heap locs) : own_W p e below (own_K s R Q) T (mkF m pc Ls [.long z]) := by
  obtain ⟨fs, hr, hrun, hended, hW, hsame⟩ := X.leave (v := some (.long z)) (fun h => by rw [hret] at h; cases h) hlk
  exact ⟨_, _, X.lreturnOut hx hret hd hr, hrun, hended, _, _, rfl, q, ⟨_, rfl⟩, hW, hsame.mono hc hl⟩
theorem own_retA (X : Stand p l e R s m args below meth c T locs cells slots) (hx : p.tables.exec = Jvm.exec) {z : Addr} {t : FieldType} (hret : meth.sig.returnType = some t) (ht : t.isReference = true) (hlk : meth.locks = false) (hd : decode c.code pc = .ok (.areturn, 1)) (hc : cells ≤ R.cells) (hl : slots ≤ R.slots) (q : Q (some (.ref z)) T.heap locs) : own_W p e below (own_K s R Q) T (mkF m pc Ls [.ref z]) := by
  obtain ⟨fs, hr, hrun, hended, hW, hsame⟩ := X.leave (v := some (.ref z)) (fun h => by rw [hret] at h; cases h) hlk
  exact ⟨_, _, X.areturnOut hx rfl hret ht hd hr, hrun, hended, _, _, rfl, q, ⟨_, rfl⟩, hW, hsame.mono hc hl⟩
theorem own_retV (X : Stand p l e R s m args below meth c T locs cells slots) (hx : p.tables.exec = Jvm.exec) (hret : meth.sig.returnType = none) (hlk : meth.locks = false) (hd : decode c.code pc = .ok (.return_, 1)) (hc : cells ≤ R.cells) (hl : slots ≤ R.slots) (q : Q none T.heap locs) : own_W p e below (own_K s R Q) T (mkF m pc Ls []) := by
  obtain ⟨fs, hr, hrun, hended, hW, hsame⟩ := X.leave (v := none) (fun _ => rfl) hlk
  exact ⟨_, _, X.returnOut hx hret hd hr, hrun, hended, _, _, rfl, q, ⟨_, rfl⟩, hW, hsame.mono hc hl⟩
end Rets
section Heaps
theorem own_getF (X : Stand p l e R s m args below meth c T locs cells slots) (hx : p.tables.exec = Jvm.exec) (hZ : Z.Warmed39 s.vm) (hown : s.vm.findClass own = some m.cls) (eT : T.heap = h) {O n d : String} {a : Addr} {v : Value} (pc' : Nat) (w : (Jvm.Cond.fieldLink own index O n d).before a0 Z = true) (F : Fld Z h a O n d v) (hd : decode c.code pc = .ok (.getfield index, 3)) (hp : pc + 3 = pc')
    (k : ∀ T', Stand p l e R s m args below meth c T' locs cells slots → T'.heap = h → own_W p e below K T' (mkF m pc' Ls (v :: S))) : own_W p e below K T (mkF m pc Ls (.ref a :: S)) := by
  subst hp
  obtain ⟨T', X', e', st⟩ := getF X hx hZ hown (host := "") (Or.inl w) Via.refl eT F (g := mkF m pc Ls (.ref a :: S)) rfl rfl hd
  exact own_s st (k T' X' e')
theorem own_putF (X : Stand p l e R s m args below meth c T locs cells slots) (hx : p.tables.exec = Jvm.exec) (hZ : Z.Warmed39 s.vm) (hown : s.vm.findClass own = some m.cls) (eT : T.heap = h) {O n d C : String} {a : Addr} {v old : Value} {kk : Nat} {ty : FieldType} (pc' : Nat) (w : (Jvm.Cond.fieldLink own index O n d).before a0 Z = true) (F : Fld Z h a O n d old) (E : Exa Z h a C) (L : (Jvm.Cond.lays C O n d).before a0 Z = true ∨ ((Jvm.Cond.laysFinal C O n d).before a0 Z = true ∧ own = O ∧ meth.name = "<init>")) (wi : (Jvm.Cond.instantiable C kk).before a0 Z = true)
    (hty : parseFieldDescriptor d = some ty) (hn : narrow ty v = v) (hf : fits ty v = true) (hd : decode c.code pc = .ok (.putfield index, 3)) (hp : pc + 3 = pc')
    (k : ∀ T' h', Stand p l e R s m args below meth c T' (locs ++ [⟨a, Jvm.RoadKit.slotOf Z O n d⟩]) cells slots → T'.heap = h' → Wr h h' a (Jvm.RoadKit.slotOf Z O n d) v → own_W p e below K T' (mkF m pc' Ls S)) : own_W p e below K T (mkF m pc Ls (v :: .ref a :: S)) := by
  subst hp
  obtain ⟨T', h', X', e', W, st⟩ := putF X hx hZ hown (host := "") (Or.inl w) Via.refl eT F E L wi hty hn hf (g := mkF m pc Ls (v :: .ref a :: S)) rfl rfl hd
  exact own_s st (k T' h' X' e' W)
theorem own_putZ (X : Stand p l e R s m args below meth c T locs cells slots) (hx : p.tables.exec = Jvm.exec) (hZ : Z.Warmed39 s.vm) (hown : s.vm.findClass own = some m.cls) (eT : T.heap = h) {O n d C : String} {a : Addr} {v : Int32} {old : Value} {kk : Nat} (pc' : Nat) (w : (Jvm.Cond.fieldLink own index O n d).before a0 Z = true) (F : Fld Z h a O n d old) (E : Exa Z h a C) (L : (Jvm.Cond.lays C O n d).before a0 Z = true ∨ ((Jvm.Cond.laysFinal C O n d).before a0 Z = true ∧ own = O ∧ meth.name = "<init>")) (wi : (Jvm.Cond.instantiable C kk).before a0 Z = true)
    (hty : parseFieldDescriptor d = some .boolean) (hd : decode c.code pc = .ok (.putfield index, 3)) (hp : pc + 3 = pc')
    (k : ∀ T' h', Stand p l e R s m args below meth c T' (locs ++ [⟨a, Jvm.RoadKit.slotOf Z O n d⟩]) cells slots → T'.heap = h' → Wr h h' a (Jvm.RoadKit.slotOf Z O n d) (.int (v &&& 1)) → own_W p e below K T' (mkF m pc' Ls S)) : own_W p e below K T (mkF m pc Ls (.int v :: .ref a :: S)) := by
  subst hp
  obtain ⟨T', h', X', e', W, st⟩ := putFN X hx hZ hown w Via.refl eT F E L wi (ty := .boolean) (v' := .int (nar .boolean v)) hty rfl (fits_nar_bool _) (g := mkF m pc Ls (.int v :: .ref a :: S)) rfl rfl hd
  exact own_s st (k T' h' X' e' W)
theorem own_new (X : Stand p l e R s m args below meth c T locs cells slots) (hx : p.tables.exec = Jvm.exec) (hZ : Z.Warmed39 s.vm) (hown : s.vm.findClass own = some m.cls) (eT : T.heap = h) {C : String} {n : Nat} (pc' : Nat) (w : (Jvm.Cond.classLink own index C).before a0 Z = true) (wi : (Jvm.Cond.instantiable C n).before a0 Z = true) (wz : (Jvm.Cond.initialized C).before a0 Z = true) (hd : decode c.code pc = .ok (.new index, 3)) (hp : pc + 3 = pc') (hc : cells + 1 ≤ R.cells) (hl : slots + n ≤ R.slots)
    (k : ∀ T' h' a, Stand p l e R s m args below meth c T' locs (cells + 1) (slots + n) → T'.heap = h' → a = h.size → Ext h h' → Exa Z h' a C → (∀ {O nm d : String} {ty : FieldType}, Laid Z a0 C O nm d → parseFieldDescriptor d = some ty → Fld Z h' a O nm d (defaultValue ty)) → own_W p e below K T' (mkF m pc' Ls (.ref a :: S))) : own_W p e below K T (mkF m pc Ls S) := by
  subst hp
  obtain ⟨T', h', X', e', E, A, D, -, st⟩ := newO X hx hZ hown w wi wz eT (g := mkF m pc Ls S) rfl hd hc hl
  exact own_s st (k T' h' _ X' e' rfl E A D)
theorem own_initO (X : Stand p l e R s m args below meth c T locs cells slots) (hx : p.tables.exec = Jvm.exec) (hZ : Z.Warmed39 s.vm) (hown : s.vm.findClass own = some m.cls) (eT : T.heap = h) {a : Addr} {W : Nat} (pc' : Nat) (w1 : (Jvm.Cond.methodLink own index Lib.objectInit).before a0 Z = true) (w2 : (Jvm.Cond.instanceMethod Lib.objectInit).before a0 Z = true) (w3 : (Jvm.Cond.code Lib.objectInit ⟨#[0xb1]⟩ 1 none).before a0 Z = true) (hsize : Ls.size = c.maxLocals) (hd : decode c.code pc = .ok (.invokespecial index, 3)) (hp : pc + 3 = pc')
    (hf : 1 ≤ R.frames) (hW : (S.map fun v => v.category).sum = W) (hl : W + 12 ≤ R.locals)
    (k : ∀ T', Stand p l e R s m args below meth c T' locs cells slots → T'.heap = h → own_W p e below K T' (mkF m pc' Ls S)) : own_W p e below K T (mkF m pc Ls (.ref a :: S)) := by
  subst hp
  obtain ⟨T', X', e', st⟩ := initO X hx hZ hown w1 w2 w3 eT (g := mkF m pc Ls (.ref a :: S)) rfl hsize rfl hd hf (W := W) (by show 2 * 0 + _ ≤ _; rw [hW]; omega) hl
  exact own_s st (k T' X' e')
theorem own_callS (X : Stand p l e R s m args below meth c T locs cells slots) (hx : p.tables.exec = Jvm.exec) (hZ : Z.Warmed39 s.vm) (hown : s.vm.findClass own = some m.cls) (eT : T.heap = h) {argsL rest : List Value} {W : Nat} (pc' : Nat) (hM : own_C l Z y bytes maxL ret [] rm argsL.toArray h Q) (w1 : (Jvm.Cond.methodLink own index y).before a0 Z = true) (w2 : (Jvm.Cond.static y).before a0 Z = true) (w3 : (Jvm.Cond.initialized y.cls).before a0 Z = true) (w4 : (Jvm.Cond.code y bytes maxL ret).before a0 Z = true)
    (hy : y.cls ≠ "java/lang/invoke/MethodHandle" ∧ y.cls ≠ "java/lang/invoke/VarHandle") (hsize : Ls.size = c.maxLocals) (hlen : ∀ sig, parseMethodDescriptor y.desc = some sig → argsL.length = sig.parameters.length) (hst : S = argsL.reverse ++ rest) (hd : decode c.code pc = .ok (.invokestatic index, 3)) (hp : pc + 3 = pc')
    (hW : (rest.map fun v => v.category).sum = W) (hf : rm.frames + 1 ≤ R.frames) (hl : W + (maxL + 11) + rm.locals ≤ R.locals) (hc : cells + rm.cells ≤ R.cells) (hs : slots + rm.slots ≤ R.slots)
    (k : ∀ v T' L, Stand p l e R s m args below meth c T' (locs ++ L) (cells + rm.cells) (slots + rm.slots) → Q v T'.heap L → own_W p e below K T' (mkF m pc' Ls (v.toList ++ rest))) : own_W p e below K T (mkF m pc Ls S) := by
  subst hp hst
  obtain ⟨v, vm₁, ⟨T', L', k', n'⟩, -, X', ⟨L, hQ, l1, y1, z1⟩, st⟩ := Jvm.LawKit.callS X hx (y := y) hown (mvT hZ w1) (mvT hZ w2) (mvT hZ w3) (mvT hZ w4) hy (backOf (W := W) hM hZ w4 w3 hf hl) (g := mkF m pc Ls (argsL.reverse ++ rest)) rfl hsize (argsL := argsL) (rest := rest) hlen rfl (by show 2 * 0 + _ ≤ _; rw [hW]; omega) hd (fun _ _ => ⟨rfl, eT, hc, hs⟩)
  dsimp only [Pt.U, Pt.locs, Pt.cells, Pt.slots] at X' l1 y1 z1 st hQ
  subst l1 y1 z1
  exact own_s st (k v T' L X' hQ)
theorem own_callI (X : Stand p l e R s m args below meth c T locs cells slots) (hx : p.tables.exec = Jvm.exec) (hZ : Z.Warmed39 s.vm) (hown : s.vm.findClass own = some m.cls) (eT : T.heap = h) {a : Addr} {argsL rest : List Value} {W : Nat} (pc' : Nat) (hM : own_C l Z y bytes maxL none [] rm (.ref a :: argsL).toArray h Q) (hn : y.name = "<init>") (w1 : (Jvm.Cond.methodLink own index y).before a0 Z = true) (w2 : (Jvm.Cond.instanceMethod y).before a0 Z = true) (w3 : (Jvm.Cond.initialized y.cls).before a0 Z = true) (w4 : (Jvm.Cond.code y bytes maxL none).before a0 Z = true)
    (hy : y.cls ≠ "java/lang/invoke/MethodHandle" ∧ y.cls ≠ "java/lang/invoke/VarHandle") (hsize : Ls.size = c.maxLocals) (hlen : ∀ sig, parseMethodDescriptor y.desc = some sig → argsL.length = sig.parameters.length) (hst : S = argsL.reverse ++ .ref a :: rest) (hd : decode c.code pc = .ok (.invokespecial index, 3)) (hp : pc + 3 = pc')
    (hW : (rest.map fun v => v.category).sum = W) (hf : rm.frames + 1 ≤ R.frames) (hl : W + (maxL + 11) + rm.locals ≤ R.locals) (hc : cells + rm.cells ≤ R.cells) (hs : slots + rm.slots ≤ R.slots)
    (k : ∀ v T' L, Stand p l e R s m args below meth c T' (locs ++ L) (cells + rm.cells) (slots + rm.slots) → Q v T'.heap L → own_W p e below K T' (mkF m pc' Ls (v.toList ++ rest))) : own_W p e below K T (mkF m pc Ls S) := by
  subst hp hst
  obtain ⟨v, vm₁, ⟨T', L', k', n'⟩, -, X', ⟨L, hQ, l1, y1, z1⟩, st⟩ := X.specialBack hx (y := y) hn hown (mvT hZ w1) (mvT hZ w2) (mvT hZ w4) hy (backOf (W := W) hM hZ w4 w3 hf hl) (g := mkF m pc Ls (argsL.reverse ++ .ref a :: rest)) rfl hsize (Steps.refl _) (a := a) (argsL := argsL) (rest := rest) hlen rfl (by show 2 * 0 + _ ≤ _; rw [hW]; omega) hd (fun _ _ => ⟨rfl, eT, hc, hs⟩)
  dsimp only [Pt.U, Pt.locs, Pt.cells, Pt.slots] at X' l1 y1 z1 st hQ
  subst l1 y1 z1
  exact own_s' st (k v T' L X' hQ)
theorem own_callV (X : Stand p l e R s m args below meth c T locs cells slots) (hx : p.tables.exec = Jvm.exec) (hZ : Z.Warmed39 s.vm) (hown : s.vm.findClass own = some m.cls) (eT : T.heap = h) {a : Addr} {argsL rest : List Value} {W : Nat} (pc' : Nat) (hM : own_C l Z y bytes maxL ret [] rm (.ref a :: argsL).toArray h Q) (E : Exa Z h a y.cls) (w1 : (Jvm.Cond.methodLink own index y).before a0 Z = true) (w2 : (Jvm.Cond.declares y).before a0 Z = true) (w5 : (Jvm.Cond.selects y.cls y y).before a0 Z = true) (w6 : (Jvm.Cond.instanceMethod y).before a0 Z = true) (w3 : (Jvm.Cond.initialized y.cls).before a0 Z = true) (w4 : (Jvm.Cond.code y bytes maxL ret).before a0 Z = true)
    (hy : y.cls ≠ "java/lang/invoke/MethodHandle" ∧ y.cls ≠ "java/lang/invoke/VarHandle") (hsize : Ls.size = c.maxLocals) (hlen : ∀ sig, parseMethodDescriptor y.desc = some sig → argsL.length = sig.parameters.length) (hst : S = argsL.reverse ++ .ref a :: rest) (hd : decode c.code pc = .ok (.invokevirtual index, 3)) (hp : pc + 3 = pc')
    (hW : (rest.map fun v => v.category).sum = W) (hf : rm.frames + 1 ≤ R.frames) (hl : W + (maxL + 11) + rm.locals ≤ R.locals) (hc : cells + rm.cells ≤ R.cells) (hs : slots + rm.slots ≤ R.slots)
    (k : ∀ v T' L, Stand p l e R s m args below meth c T' (locs ++ L) (cells + rm.cells) (slots + rm.slots) → Q v T'.heap L → own_W p e below K T' (mkF m pc' Ls (v.toList ++ rest))) : own_W p e below K T (mkF m pc Ls S) := by
  subst hp hst
  obtain ⟨cq, kq, qa, qb, qc⟩ := isOf hZ eT E
  obtain ⟨v, vm₁, ⟨T', L', k', n'⟩, -, X', ⟨L, hQ, l1, y1, z1⟩, st⟩ := X.virtualBack hx (y := y) (z := y) hown (mvT hZ w1) (mvT hZ w2) (notFace_of_selects (args := #[]) (mvT hZ w5)) (mvT hZ w5) (mvT hZ w6) hy (backOf (W := W) hM hZ w4 w3 hf hl) qa qc (g := mkF m pc Ls (argsL.reverse ++ .ref a :: rest)) rfl hsize (Steps.refl _) (argsL := argsL) (rest := rest) hlen rfl (by show 2 * 0 + _ ≤ _; rw [hW]; omega) hd (fun _ _ => ⟨rfl, eT, hc, hs⟩)
  dsimp only [Pt.U, Pt.locs, Pt.cells, Pt.slots] at X' l1 y1 z1 st hQ
  subst l1 y1 z1
  exact own_s' st (k v T' L X' hQ)
/-- an array of ints (bytes, booleans): n places, place j holds f j -/
def own_AI (Z : State) (h : Heap) (a : Addr) (ty : FieldType) (n : Nat) (f : Nat → Int32) : Prop := ∃ c : Cell, Arr Z h a c ty ∧ c.slots.size = n ∧ ∀ j, j < n → c.slots[j]? = some (.int (f j))
def own_AJ (Z : State) (h : Heap) (a : Addr) (n : Nat) (f : Nat → Int64) : Prop := ∃ c : Cell, Arr Z h a c .long ∧ c.slots.size = n ∧ ∀ j, j < n → c.slots[j]? = some (.long (f j))
section Arrs
variable {a b : Addr} {n i : Nat} {ty : FieldType} {f : Nat → Int32} {fj : Nat → Int64} {j : Int32} {ws : List Addr} {v : Value} {sl : Nat}
theorem own_AI.lt (A : own_AI Z h a ty n f) : a < h.size := by obtain ⟨c, A, -⟩ := A; exact A.lt
theorem own_AJ.lt (A : own_AJ Z h a n fj) : a < h.size := by obtain ⟨c, A, -⟩ := A; exact A.lt
theorem own_AI.ext (A : own_AI Z h a ty n f) (E : Ext h h') : own_AI Z h' a ty n f := by obtain ⟨c, A, r⟩ := A; exact ⟨c, A.ext E, r⟩
theorem own_AJ.ext (A : own_AJ Z h a n fj) (E : Ext h h') : own_AJ Z h' a n fj := by obtain ⟨c, A, r⟩ := A; exact ⟨c, A.ext E, r⟩
theorem own_AI.other (A : own_AI Z h a ty n f) (W : Wr h h' b sl v) (q : a ≠ b) : own_AI Z h' a ty n f := by obtain ⟨c, A, r⟩ := A; exact ⟨c, A.other W q, r⟩
theorem own_AJ.other (A : own_AJ Z h a n fj) (W : Wr h h' b sl v) (q : a ≠ b) : own_AJ Z h' a n fj := by obtain ⟨c, A, r⟩ := A; exact ⟨c, A.other W q, r⟩
theorem own_AI.keep (A : own_AI Z h a ty n f) (K : Keep h h' ws) (q : a ∉ ws) : own_AI Z h' a ty n f := by obtain ⟨c, A, r⟩ := A; exact ⟨c, ⟨K.2.1 a c A.1 q, A.2⟩, r⟩
theorem own_AJ.keep (A : own_AJ Z h a n fj) (K : Keep h h' ws) (q : a ∉ ws) : own_AJ Z h' a n fj := by obtain ⟨c, A, r⟩ := A; exact ⟨c, ⟨K.2.1 a c A.1 q, A.2⟩, r⟩
theorem own_AI.set {x : Int32} (A : own_AI Z h a ty n f) (W : Wr h h' a i (.int x)) : own_AI Z h' a ty n (fun q => if q = i then x else f q) := by
  obtain ⟨c, A, S, H⟩ := A
  refine ⟨_, A.same W, by rw [sz_set]; exact S, fun q hq => ?_⟩
  by_cases e : q = i
  · subst e; simp [Cell.setSlot, S, hq]
  · simp only [Cell.setSlot, if_neg e]; rw [Array.getElem?_setIfInBounds_ne (Ne.symm e)]; exact H q hq
theorem own_AJ.set {x : Int64} (A : own_AJ Z h a n fj) (W : Wr h h' a i (.long x)) : own_AJ Z h' a n (fun q => if q = i then x else fj q) := by
  obtain ⟨c, A, S, H⟩ := A
  refine ⟨_, A.same W, by rw [sz_set]; exact S, fun q hq => ?_⟩
  by_cases e : q = i
  · subst e; simp [Cell.setSlot, S, hq]
  · simp only [Cell.setSlot, if_neg e]; rw [Array.getElem?_setIfInBounds_ne (Ne.symm e)]; exact H q hq
theorem own_AI.congr {g : Nat → Int32} (A : own_AI Z h a ty n f) (q : ∀ j, j < n → f j = g j) : own_AI Z h a ty n g := by obtain ⟨c, A, S, H⟩ := A; exact ⟨c, A, S, fun j hj => by rw [← q j hj]; exact H j hj⟩
theorem own_AJ.congr {g : Nat → Int64} (A : own_AJ Z h a n fj) (q : ∀ j, j < n → fj j = g j) : own_AJ Z h a n g := by obtain ⟨c, A, S, H⟩ := A; exact ⟨c, A, S, fun j hj => by rw [← q j hj]; exact H j hj⟩
theorem own_nat {j : Int32} {i : Nat} (q : j.toInt = i) : j.toNatClampNeg = i := by show j.toInt.toNat = i; rw [q]; exact Int.toNat_natCast i
theorem own_inb {j : Int32} {i n : Nat} (q : j.toInt = i) (r : i < n) {k : Nat} (e : k = n) : ¬ (j < 0 ∨ k ≤ j.toNatClampNeg) := by
  rw [own_nat q]; rintro (u | u)
  · rw [Int32.lt_iff_toInt_lt] at u; rw [q] at u; have : (0 : Int32).toInt = 0 := rfl; omega
  · omega
theorem own_iaload (X : Stand p l e R s m args below meth c T locs cells slots) (hx : p.tables.exec = Jvm.exec) (hZ : Z.Warmed39 s.vm) (eT : T.heap = h) (pc' : Nat) (i : Nat) (A : own_AI Z h a .int n f) (hj : j.toInt = i) (hi : i < n) (hd : decode c.code pc = .ok (.iaload, 1)) (hp : pc + 1 = pc') (k : own_W p e below K T (mkF m pc' Ls (.int (f i) :: S))) : own_W p e below K T (mkF m pc Ls (.int j :: .ref a :: S)) := by
  subst hp
  obtain ⟨cl, A, Sz, H⟩ := A
  exact own_s (fun t => X.iaload hx (j := j) (by rw [eT]; exact A.1) (State.isArrayOf_alike hZ.alike A.2.1) A.2.2 (own_inb hj hi Sz) (by rw [own_nat hj]; exact H i hi) (g := mkF m pc Ls (.int j :: .ref a :: S)) rfl rfl hd t) k
theorem own_baload (X : Stand p l e R s m args below meth c T locs cells slots) (hx : p.tables.exec = Jvm.exec) (hZ : Z.Warmed39 s.vm) (eT : T.heap = h) (pc' : Nat) (i : Nat) (A : own_AI Z h a .byte n f) (hj : j.toInt = i) (hi : i < n) (hd : decode c.code pc = .ok (.baload, 1)) (hp : pc + 1 = pc') (k : own_W p e below K T (mkF m pc' Ls (.int (f i) :: S))) : own_W p e below K T (mkF m pc Ls (.int j :: .ref a :: S)) := by
  subst hp
  obtain ⟨cl, A, Sz, H⟩ := A
  exact own_s (fun t => X.baloadBytes hx (j := j) (by rw [eT]; exact A.1) (State.isArrayOf_alike hZ.alike A.2.1) A.2.2 (own_inb hj hi Sz) (by rw [own_nat hj]; exact H i hi) (g := mkF m pc Ls (.int j :: .ref a :: S)) rfl rfl hd t) k
theorem own_laload (X : Stand p l e R s m args below meth c T locs cells slots) (hx : p.tables.exec = Jvm.exec) (hZ : Z.Warmed39 s.vm) (eT : T.heap = h) (pc' : Nat) (i : Nat) (A : own_AJ Z h a n fj) (hj : j.toInt = i) (hi : i < n) (hd : decode c.code pc = .ok (.laload, 1)) (hp : pc + 1 = pc') (k : own_W p e below K T (mkF m pc' Ls (.long (fj i) :: S))) : own_W p e below K T (mkF m pc Ls (.int j :: .ref a :: S)) := by
  subst hp
  obtain ⟨cl, A, Sz, H⟩ := A
  exact own_s (fun t => X.laload hx (j := j) (by rw [eT]; exact A.1) (State.isArrayOf_alike hZ.alike A.2.1) A.2.2 (own_inb hj hi Sz) (by rw [own_nat hj]; exact H i hi) (g := mkF m pc Ls (.int j :: .ref a :: S)) rfl rfl hd t) k
theorem own_iastore (X : Stand p l e R s m args below meth c T locs cells slots) (hx : p.tables.exec = Jvm.exec) (hZ : Z.Warmed39 s.vm) (eT : T.heap = h) {x : Int32} (pc' : Nat) (i : Nat) (A : own_AI Z h a .int n f) (hj : j.toInt = i) (hi : i < n) (hd : decode c.code pc = .ok (.iastore, 1)) (hp : pc + 1 = pc')
    (k : ∀ T' h', Stand p l e R s m args below meth c T' (locs ++ [⟨a, i⟩]) cells slots → T'.heap = h' → Wr h h' a i (.int x) → own_W p e below K T' (mkF m pc' Ls S)) : own_W p e below K T (mkF m pc Ls (.int x :: .int j :: .ref a :: S)) := by
  subst hp
  obtain ⟨cl, A, Sz, H⟩ := A
  obtain ⟨T', h', X', e', W, st⟩ := stI X hx hZ eT A (j := j) (own_inb hj hi Sz) (g := mkF m pc Ls (.int x :: .int j :: .ref a :: S)) rfl rfl hd
  rw [own_nat hj] at X' W
  exact own_s st (k T' h' X' e' W)
theorem own_bastore (X : Stand p l e R s m args below meth c T locs cells slots) (hx : p.tables.exec = Jvm.exec) (hZ : Z.Warmed39 s.vm) (eT : T.heap = h) {x : Int32} (pc' : Nat) (i : Nat) (A : own_AI Z h a .byte n f) (hj : j.toInt = i) (hi : i < n) (hd : decode c.code pc = .ok (.bastore, 1)) (hp : pc + 1 = pc')
    (k : ∀ T' h', Stand p l e R s m args below meth c T' (locs ++ [⟨a, i⟩]) cells slots → T'.heap = h' → Wr h h' a i (.int x.toInt8.toInt32) → own_W p e below K T' (mkF m pc' Ls S)) : own_W p e below K T (mkF m pc Ls (.int x :: .int j :: .ref a :: S)) := by
  subst hp
  obtain ⟨cl, A, Sz, H⟩ := A
  obtain ⟨T', h', X', e', W, st⟩ := stB X hx hZ eT A (j := j) (own_inb hj hi Sz) (g := mkF m pc Ls (.int x :: .int j :: .ref a :: S)) rfl rfl hd
  rw [own_nat hj] at X' W
  exact own_s st (k T' h' X' e' W)
theorem own_lastore (X : Stand p l e R s m args below meth c T locs cells slots) (hx : p.tables.exec = Jvm.exec) (hZ : Z.Warmed39 s.vm) (eT : T.heap = h) {x : Int64} (pc' : Nat) (i : Nat) (A : own_AJ Z h a n fj) (hj : j.toInt = i) (hi : i < n) (hd : decode c.code pc = .ok (.lastore, 1)) (hp : pc + 1 = pc')
    (k : ∀ T' h', Stand p l e R s m args below meth c T' (locs ++ [⟨a, i⟩]) cells slots → T'.heap = h' → Wr h h' a i (.long x) → own_W p e below K T' (mkF m pc' Ls S)) : own_W p e below K T (mkF m pc Ls (.long x :: .int j :: .ref a :: S)) := by
  subst hp
  obtain ⟨cl, A, Sz, H⟩ := A
  obtain ⟨T', h', X', e', W, st⟩ := stJ X hx hZ eT A (j := j) (own_inb hj hi Sz) (g := mkF m pc Ls (.long x :: .int j :: .ref a :: S)) rfl rfl hd
  rw [own_nat hj] at X' W
  exact own_s st (k T' h' X' e' W)
theorem own_arraylength (X : Stand p l e R s m args below meth c T locs cells slots) (hx : p.tables.exec = Jvm.exec) (hZ : Z.Warmed39 s.vm) (eT : T.heap = h) (pc' : Nat) {z : Int32} (A : own_AI Z h a ty n f) (hz : z.toInt = n) (hd : decode c.code pc = .ok (.arraylength, 1)) (hp : pc + 1 = pc') (k : own_W p e below K T (mkF m pc' Ls (.int z :: S))) : own_W p e below K T (mkF m pc Ls (.ref a :: S)) := by
  subst hp
  obtain ⟨cl, A, Sz, H⟩ := A
  have q : cl.slots.size.toInt32 = z := len_of (by rw [Sz, own_nat hz]) (fun u => by rw [Int32.lt_iff_toInt_lt, hz] at u; have : (0 : Int32).toInt = 0 := rfl; omega)
  rw [← q] at k
  exact own_s (fun t => X.arraylength hx (by rw [eT]; exact A.1) (State.isArrayOf_alike hZ.alike A.2.1) (g := mkF m pc Ls (.ref a :: S)) rfl rfl hd t) k
theorem own_arraylengthJ (X : Stand p l e R s m args below meth c T locs cells slots) (hx : p.tables.exec = Jvm.exec) (hZ : Z.Warmed39 s.vm) (eT : T.heap = h) (pc' : Nat) {z : Int32} (A : own_AJ Z h a n fj) (hz : z.toInt = n) (hd : decode c.code pc = .ok (.arraylength, 1)) (hp : pc + 1 = pc') (k : own_W p e below K T (mkF m pc' Ls (.int z :: S))) : own_W p e below K T (mkF m pc Ls (.ref a :: S)) := by
  subst hp
  obtain ⟨cl, A, Sz, H⟩ := A
  have q : cl.slots.size.toInt32 = z := len_of (by rw [Sz, own_nat hz]) (fun u => by rw [Int32.lt_iff_toInt_lt, hz] at u; have : (0 : Int32).toInt = 0 := rfl; omega)
  rw [← q] at k
  exact own_s (fun t => X.arraylength hx (by rw [eT]; exact A.1) (State.isArrayOf_alike hZ.alike A.2.1) (g := mkF m pc Ls (.ref a :: S)) rfl rfl hd t) k
theorem own_newI (X : Stand p l e R s m args below meth c T locs cells slots) (hx : p.tables.exec = Jvm.exec) (hZ : Z.Warmed39 s.vm) (eT : T.heap = h) {aty : ArrayType} {z : Int32} {n cap : Nat} (pc' : Nat) (ty : FieldType) (hty : newarray.typeOf aty = ty) (hdef : defaultValue ty = .int 0) (w : (Jvm.Cond.arrayClass ty).before a0 Z = true) (hz : z.toInt = n) (hcap : n ≤ cap) (hb : cap * 8 ≤ 536870912) (hd : decode c.code pc = .ok (.newarray aty, 2)) (hp : pc + 2 = pc') (hc : cells + 1 ≤ R.cells) (hl : slots + cap ≤ R.slots)
    (k : ∀ T' h' a, Stand p l e R s m args below meth c T' locs (cells + 1) (slots + cap) → T'.heap = h' → a = h.size → Ext h h' → own_AI Z h' a ty n (fun _ => 0) → own_W p e below K T' (mkF m pc' Ls (.ref a :: S))) : own_W p e below K T (mkF m pc Ls (.int z :: S)) := by
  subst hp hty
  obtain ⟨T', h', cA, X', e', E, A, st⟩ := newP X hx hZ w eT (g := mkF m pc Ls (.int z :: S)) rfl hd rfl (fun u => by rw [Int32.lt_iff_toInt_lt, hz] at u; have : (0 : Int32).toInt = 0 := rfl; omega) (cap := cap) (by rw [own_nat hz]; exact hcap) hb hc hl
  refine own_s st (k T' h' _ X' e' rfl E ⟨_, A, by rw [sz_new, own_nat hz], fun j hj => ?_⟩)
  simp [newA, own_nat hz, hj, hdef]
theorem own_newJ (X : Stand p l e R s m args below meth c T locs cells slots) (hx : p.tables.exec = Jvm.exec) (hZ : Z.Warmed39 s.vm) (eT : T.heap = h) {z : Int32} {n cap : Nat} (pc' : Nat) (w : (Jvm.Cond.arrayClass .long).before a0 Z = true) (hz : z.toInt = n) (hcap : n ≤ cap) (hb : cap * 8 ≤ 536870912) (hd : decode c.code pc = .ok (.newarray .long, 2)) (hp : pc + 2 = pc') (hc : cells + 1 ≤ R.cells) (hl : slots + cap ≤ R.slots)
    (k : ∀ T' h' a, Stand p l e R s m args below meth c T' locs (cells + 1) (slots + cap) → T'.heap = h' → a = h.size → Ext h h' → own_AJ Z h' a n (fun _ => 0) → own_W p e below K T' (mkF m pc' Ls (.ref a :: S))) : own_W p e below K T (mkF m pc Ls (.int z :: S)) := by
  subst hp
  obtain ⟨T', h', cA, X', e', E, A, st⟩ := newP X hx hZ (aty := .long) w eT (g := mkF m pc Ls (.int z :: S)) rfl hd rfl (fun u => by rw [Int32.lt_iff_toInt_lt, hz] at u; have : (0 : Int32).toInt = 0 := rfl; omega) (cap := cap) (by rw [own_nat hz]; exact hcap) hb hc hl
  refine own_s st (k T' h' _ X' e' rfl E ⟨_, A, by rw [sz_new, own_nat hz], fun j hj => ?_⟩)
  simp [newA, own_nat hz, hj, newarray.typeOf, defaultValue]
end Arrs
end Heaps
end OwnLayer
theorem own_toInt (x : Int32) : x.toInt = if x.toBitVec.toNat < 2147483648 then (x.toBitVec.toNat : Int) else (x.toBitVec.toNat : Int) - 4294967296 := by
  show x.toBitVec.toInt = _
  rw [BitVec.toInt_eq_toNat_cond]; split <;> split <;> omega
theorem own_toIntL (x : Int64) : x.toInt = if x.toBitVec.toNat < 9223372036854775808 then (x.toBitVec.toNat : Int) else (x.toBitVec.toNat : Int) - 18446744073709551616 := by
  show x.toBitVec.toInt = _
  rw [BitVec.toInt_eq_toNat_cond]; split <;> split <;> omega
theorem own_k0 : (0 : Int32).toInt = 0 := rfl
theorem own_k1 : (1 : Int32).toInt = 1 := rfl
theorem own_k2 : (2 : Int32).toInt = 2 := rfl
theorem own_k3 : (3 : Int32).toInt = 3 := rfl
theorem own_k4 : (4 : Int32).toInt = 4 := rfl
theorem own_k128 : (128 : Int32).toInt = 128 := rfl
theorem own_k143 : (143 : Int32).toInt = 143 := rfl
theorem own_k144 : (144 : Int32).toInt = 144 := rfl
theorem own_k159 : (159 : Int32).toInt = 159 := rfl
theorem own_k160 : (160 : Int32).toInt = 160 := rfl
theorem own_k191 : (191 : Int32).toInt = 191 := rfl
theorem own_k192 : (192 : Int32).toInt = 192 := rfl
theorem own_k194 : (194 : Int32).toInt = 194 := rfl
theorem own_k223 : (223 : Int32).toInt = 223 := rfl
theorem own_k224 : (224 : Int32).toInt = 224 := rfl
theorem own_k237 : (237 : Int32).toInt = 237 := rfl
theorem own_k239 : (239 : Int32).toInt = 239 := rfl
theorem own_k240 : (240 : Int32).toInt = 240 := rfl
theorem own_k244 : (244 : Int32).toInt = 244 := rfl
theorem own_k248 : (248 : Int32).toInt = 248 := rfl
theorem own_k2048 : (2048 : Int32).toInt = 2048 := rfl
theorem own_k55296 : (55296 : Int32).toInt = 55296 := rfl
theorem own_k57343 : (57343 : Int32).toInt = 57343 := rfl
theorem own_k65536 : (65536 : Int32).toInt = 65536 := rfl
theorem own_k1114111 : (1114111 : Int32).toInt = 1114111 := rfl
def own_isCont (p0 : Int32) : Int32 := (if (p0 &&& (192 : Int32)) = (128 : Int32) then (1 : Int32) else (0 : Int32))
theorem own_192 (x : Int32) : (x &&& 192).toInt = x.toInt % 256 / 64 * 64 := by
  have h1 : ∀ r : Fin 256, r.val &&& 192 = r.val / 64 * 64 := by decide +kernel
  have h2 := h1 ⟨x.toBitVec.toNat % 256, Nat.mod_lt _ (by decide)⟩
  simp only at h2
  have h3 : x.toBitVec.toNat &&& 192 = x.toBitVec.toNat % 256 &&& 192 := by
    rw [show x.toBitVec.toNat % 256 = x.toBitVec.toNat &&& (2 ^ 8 - 1) from (Nat.and_two_pow_sub_one_eq_mod _ 8).symm, Nat.and_assoc]
    rfl
  have h4 : (x &&& 192).toBitVec.toNat = x.toBitVec.toNat &&& 192 := rfl
  have h5 := own_toInt (x &&& 192)
  have h6 := own_toInt x
  rw [h4, h3, h2] at h5
  split at h5 <;> split at h6 <;> omega
theorem own_m8 (y x : Int32) (e : y = x &&& 255) : y.toInt = x.toInt % 256 := by rw [e]; exact c_mask x 255 8 (by decide) rfl
def own_sp (u0 u1 u2 u3 r : Int) : Int :=
  if 194 ≤ u0 ∧ u0 ≤ 223 then (if r < 2 then 0 else if 128 ≤ u1 ∧ u1 ≤ 191 then 2 else 0)
  else if 224 ≤ u0 ∧ u0 ≤ 239 then (if r < 3 then 0 else if (if u0 = 224 then 160 else 128) ≤ u1 ∧ u1 ≤ (if u0 = 237 then 159 else 191) then (if 128 ≤ u2 ∧ u2 ≤ 191 then 3 else 0) else 0)
  else if 240 ≤ u0 ∧ u0 ≤ 244 then (if r < 4 then 0 else if (if u0 = 240 then 144 else 128) ≤ u1 ∧ u1 ≤ (if u0 = 244 then 143 else 191) then (if (128 ≤ u2 ∧ u2 ≤ 191) ∧ (128 ≤ u3 ∧ u3 ≤ 191) then 4 else 0) else 0)
  else 0
theorem own_sub (x y : Int32) (n : Int) (hy : y.toInt = n) (hn : 0 ≤ n) (hx : n ≤ x.toInt ∧ x.toInt ≤ 6) : (x - y).toInt = x.toInt - n := by
  have h1 := c_isub x y
  have h2 := rng32 (x - y)
  have h3 := rng32 x
  have h4 := rng32 y
  omega
theorem own_bz (x : Int32) : ((x.toInt8.toInt32).toInt8.toInt32).toInt % 256 = (x &&& 255).toInt := by
  have h1 := c_i2b x
  have h2 := c_i2b x.toInt8.toInt32
  rw [c_mask x 255 8 (by decide) rfl]; omega
theorem own_ct (x : Int32) (h : 0 ≤ x.toInt ∧ x.toInt < 256) : (own_isCont x = 0 ∧ ¬ (128 ≤ x.toInt ∧ x.toInt ≤ 191)) ∨ (own_isCont x = 1 ∧ (128 ≤ x.toInt ∧ x.toInt ≤ 191)) := by
  unfold own_isCont
  have e := own_192 x
  by_cases q : (x &&& 192) = 128
  · right; rw [if_pos q]; rw [← Int32.toInt_inj, e] at q
    have k : (128 : Int32).toInt = 128 := rfl
    exact ⟨rfl, by omega⟩
  · left; rw [if_neg q]; rw [← Int32.toInt_inj, e] at q
    have k : (128 : Int32).toInt = 128 := rfl
    exact ⟨rfl, by omega⟩
theorem own_by (c b : Int32) (e : c = b &&& 255) : 0 ≤ c.toInt ∧ c.toInt < 256 := by
  have := own_m8 c b e; omega
def own_vd (ct cp mn : Int32) : Int32 := if ct = 0 then 0 else if cp < mn then 0 else if (1114111 : Int32) < cp then 0 else if cp < (55296 : Int32) then 1 else if (57343 : Int32) < cp then 1 else 0
theorem own_shl' (x : Int32) (s : Int32) (k : Nat) (hk : s.toBitVec.toNat % 32 = k) (b : Int) (hx : 0 ≤ x.toInt ∧ x.toInt * (2 ^ k : Nat) < 2147483648) : (x <<< (s &&& 31)).toInt = x.toInt * (2 ^ k : Nat) := by
  have h1 := c_ishl x s k hk
  have h2 := rng32 (x <<< (s &&& 31))
  have h3 : 0 ≤ x.toInt * (2 ^ k : Nat) := Int.mul_nonneg hx.1 (by exact Int.natCast_nonneg _)
  omega
theorem own_or' (a b : Int32) (k : Nat) (hk : k ≤ 31) (P : Int) (hP : P = (2 ^ k : Nat)) (h1 : a.toInt % P = 0) (h2 : 0 ≤ b.toInt ∧ b.toInt < P) (h3 : 0 ≤ a.toInt ∧ a.toInt + b.toInt < 2147483648) : (a ||| b).toInt = a.toInt + b.toInt := by
  have e := c_or a b k hk P hP h1 h2.1 h2.2
  have r := rng32 (a ||| b)
  omega
theorem own_cp2 (c0 c1 cp : Int32) (e : cp = ((c0 &&& (31 : Int32)) <<< ((6 : Int32) &&& 31)) ||| (c1 &&& (63 : Int32))) : cp.toInt = c0.toInt % 32 * 64 + c1.toInt % 64 := by
  have m0 := c_mask c0 31 5 (by decide) rfl
  have m1 := c_mask c1 63 6 (by decide) rfl
  have s0 := own_shl' (c0 &&& 31) 6 6 rfl 0 (by omega)
  have o1 := own_or' ((c0 &&& 31) <<< ((6 : Int32) &&& 31)) (c1 &&& 63) 6 (by decide) 64 rfl (by omega) (by omega) (by omega)
  rw [e, o1, s0, m0, m1]; omega
theorem own_cp3 (c0 c1 c2 cp : Int32) (e : cp = (((c0 &&& (15 : Int32)) <<< ((12 : Int32) &&& 31)) ||| ((c1 &&& (63 : Int32)) <<< ((6 : Int32) &&& 31))) ||| (c2 &&& (63 : Int32))) : cp.toInt = c0.toInt % 16 * 4096 + c1.toInt % 64 * 64 + c2.toInt % 64 := by
  have m0 := c_mask c0 15 4 (by decide) rfl
  have m1 := c_mask c1 63 6 (by decide) rfl
  have m2 := c_mask c2 63 6 (by decide) rfl
  have s0 := own_shl' (c0 &&& 15) 12 12 rfl 0 (by omega)
  have s1 := own_shl' (c1 &&& 63) 6 6 rfl 0 (by omega)
  have o1 := own_or' ((c0 &&& 15) <<< ((12 : Int32) &&& 31)) ((c1 &&& 63) <<< ((6 : Int32) &&& 31)) 12 (by decide) 4096 rfl (by omega) (by omega) (by omega)
  have o2 := own_or' (((c0 &&& 15) <<< ((12 : Int32) &&& 31)) ||| ((c1 &&& 63) <<< ((6 : Int32) &&& 31))) (c2 &&& 63) 6 (by decide) 64 rfl (by omega) (by omega) (by omega)
  rw [e, o2, o1, s0, s1, m0, m1, m2]; omega
theorem own_cp4 (c0 c1 c2 c3 cp : Int32) (e : cp = ((((c0 &&& (7 : Int32)) <<< ((18 : Int32) &&& 31)) ||| ((c1 &&& (63 : Int32)) <<< ((12 : Int32) &&& 31))) ||| ((c2 &&& (63 : Int32)) <<< ((6 : Int32) &&& 31))) ||| (c3 &&& (63 : Int32))) : cp.toInt = c0.toInt % 8 * 262144 + c1.toInt % 64 * 4096 + c2.toInt % 64 * 64 + c3.toInt % 64 := by
  have m0 := c_mask c0 7 3 (by decide) rfl
  have m1 := c_mask c1 63 6 (by decide) rfl
  have m2 := c_mask c2 63 6 (by decide) rfl
  have m3 := c_mask c3 63 6 (by decide) rfl
  have s0 := own_shl' (c0 &&& 7) 18 18 rfl 0 (by omega)
  have s1 := own_shl' (c1 &&& 63) 12 12 rfl 0 (by omega)
  have s2 := own_shl' (c2 &&& 63) 6 6 rfl 0 (by omega)
  have o1 := own_or' ((c0 &&& 7) <<< ((18 : Int32) &&& 31)) ((c1 &&& 63) <<< ((12 : Int32) &&& 31)) 18 (by decide) 262144 rfl (by omega) (by omega) (by omega)
  have o2 := own_or' (((c0 &&& 7) <<< ((18 : Int32) &&& 31)) ||| ((c1 &&& 63) <<< ((12 : Int32) &&& 31))) ((c2 &&& 63) <<< ((6 : Int32) &&& 31)) 12 (by decide) 4096 rfl (by omega) (by omega) (by omega)
  have o3 := own_or' ((((c0 &&& 7) <<< ((18 : Int32) &&& 31)) ||| ((c1 &&& 63) <<< ((12 : Int32) &&& 31))) ||| ((c2 &&& 63) <<< ((6 : Int32) &&& 31))) (c3 &&& 63) 6 (by decide) 64 rfl (by omega) (by omega) (by omega)
  rw [e, o3, o2, o1, s0, s1, s2, m0, m1, m2, m3]; omega
theorem own_vdN (ct cp mn : Int32) : (own_vd ct cp mn = 1 ∧ ¬ ct = 0 ∧ mn.toInt ≤ cp.toInt ∧ cp.toInt ≤ 1114111 ∧ (cp.toInt < 55296 ∨ 57343 < cp.toInt)) ∨ (own_vd ct cp mn = 0 ∧ (ct = 0 ∨ cp.toInt < mn.toInt ∨ 1114111 < cp.toInt ∨ (55296 ≤ cp.toInt ∧ cp.toInt ≤ 57343))) := by
  unfold own_vd
  simp only [Int32.lt_iff_toInt_lt]
  have k1 : (1114111 : Int32).toInt = 1114111 := rfl
  have k2 : (55296 : Int32).toInt = 55296 := rfl
  have k3 : (57343 : Int32).toInt = 57343 := rfl
  rw [k1, k2, k3]
  by_cases q : ct = 0
  · right; rw [if_pos q]; exact ⟨rfl, Or.inl q⟩
  · rw [if_neg q]
    by_cases q1 : cp.toInt < mn.toInt
    · right; rw [if_pos q1]; exact ⟨rfl, Or.inr (Or.inl q1)⟩
    · rw [if_neg q1]
      by_cases q2 : 1114111 < cp.toInt
      · right; rw [if_pos q2]; exact ⟨rfl, Or.inr (Or.inr (Or.inl q2))⟩
      · rw [if_neg q2]
        by_cases q3 : cp.toInt < 55296
        · left; rw [if_pos q3]; exact ⟨rfl, q, by omega, by omega, Or.inl q3⟩
        · rw [if_neg q3]
          by_cases q4 : 57343 < cp.toInt
          · left; rw [if_pos q4]; exact ⟨rfl, q, by omega, by omega, Or.inr q4⟩
          · right; rw [if_neg q4]; exact ⟨rfl, Or.inr (Or.inr (Or.inr ⟨by omega, by omega⟩))⟩
def own_co (u : Int) : Prop := 128 ≤ u ∧ u ≤ 191
theorem own_F2 (u0 u1 u2 u3 r : Int) (ct cp : Int32) (b0 : 192 ≤ u0 ∧ u0 < 224) (b1 : 0 ≤ u1 ∧ u1 < 256) (hr : 2 ≤ r) (hct : (ct = 1 ∧ own_co u1) ∨ (ct = 0 ∧ ¬ own_co u1)) (hcp : cp.toInt = u0 % 32 * 64 + u1 % 64) : own_sp u0 u1 u2 u3 r = if own_vd ct cp 128 = 0 then 0 else 2 := by
  have k : (128 : Int32).toInt = 128 := rfl
  unfold own_co at hct
  rcases own_vdN ct cp 128 with ⟨e, q0, q1, q2, q3⟩ | ⟨e, q⟩
  · rw [e, if_neg (show ¬ (1 : Int32) = 0 by decide)]
    have hc := hct.resolve_right (fun u => q0 u.1)
    unfold own_sp
    rw [if_pos (by omega), if_neg (by omega), if_pos (by omega)]
  · rw [e, if_pos (show (0 : Int32) = 0 from rfl)]
    unfold own_sp
    by_cases c : 194 ≤ u0 ∧ u0 ≤ 223
    · rw [if_pos c, if_neg (by omega), if_neg]
      intro z
      rcases hct with ⟨h1, h2⟩ | ⟨h1, h2⟩
      · rcases q with q | q
        · rw [h1] at q; exact absurd q (by decide)
        · omega
      · exact h2 z
    · rw [if_neg c, if_neg (by omega), if_neg (by omega)]
theorem own_F3 (u0 u1 u2 u3 r : Int) (ct cp : Int32) (b0 : 224 ≤ u0 ∧ u0 < 240) (b1 : 0 ≤ u1 ∧ u1 < 256) (b2 : 0 ≤ u2 ∧ u2 < 256) (hr : 3 ≤ r) (hct : (ct = 1 ∧ own_co u1 ∧ own_co u2) ∨ (ct = 0 ∧ ¬ (own_co u1 ∧ own_co u2))) (hcp : cp.toInt = u0 % 16 * 4096 + u1 % 64 * 64 + u2 % 64) : own_sp u0 u1 u2 u3 r = if own_vd ct cp 2048 = 0 then 0 else 3 := by
  have k : (2048 : Int32).toInt = 2048 := rfl
  unfold own_co at hct
  unfold own_sp
  rw [if_neg (by omega), if_pos (by omega), if_neg (by omega)]
  rcases own_vdN ct cp 2048 with ⟨e, q0, q1, q2, q3⟩ | ⟨e, q⟩
  · rw [e, if_neg (show ¬ (1 : Int32) = 0 by decide)]
    have hc := hct.resolve_right (fun u => q0 u.1)
    rw [if_pos, if_pos hc.2.2]
    constructor
    · split <;> omega
    · split <;> omega
  · rw [e, if_pos (show (0 : Int32) = 0 from rfl)]
    by_cases c : (if u0 = 224 then 160 else 128) ≤ u1 ∧ u1 ≤ (if u0 = 237 then 159 else 191)
    · rw [if_pos c]
      by_cases c2 : 128 ≤ u2 ∧ u2 ≤ 191
      · exfalso
        rcases hct with ⟨h1, h2⟩ | ⟨h1, h2⟩
        · rcases q with q | q
          · rw [h1] at q; exact absurd q (by decide)
          · obtain ⟨c3, c4⟩ := c
            split at c3 <;> split at c4 <;> omega
        · refine h2 ⟨?_, c2⟩
          obtain ⟨c3, c4⟩ := c
          split at c3 <;> split at c4 <;> omega
      · rw [if_neg c2]
    · rw [if_neg c]
theorem own_F4 (u0 u1 u2 u3 r : Int) (ct cp : Int32) (b0 : 240 ≤ u0 ∧ u0 < 248) (b1 : 0 ≤ u1 ∧ u1 < 256) (b2 : 0 ≤ u2 ∧ u2 < 256) (b3 : 0 ≤ u3 ∧ u3 < 256) (hr : 4 ≤ r) (hct : (ct = 1 ∧ own_co u1 ∧ own_co u2 ∧ own_co u3) ∨ (ct = 0 ∧ ¬ (own_co u1 ∧ own_co u2 ∧ own_co u3))) (hcp : cp.toInt = u0 % 8 * 262144 + u1 % 64 * 4096 + u2 % 64 * 64 + u3 % 64) : own_sp u0 u1 u2 u3 r = if own_vd ct cp 65536 = 0 then 0 else 4 := by
  have k : (65536 : Int32).toInt = 65536 := rfl
  unfold own_co at hct
  unfold own_sp
  rw [if_neg (by omega), if_neg (by omega)]
  rcases own_vdN ct cp 65536 with ⟨e, q0, q1, q2, q3⟩ | ⟨e, q⟩
  · rw [e, if_neg (show ¬ (1 : Int32) = 0 by decide)]
    have hc := hct.resolve_right (fun u => q0 u.1)
    rw [if_pos (by omega), if_neg (by omega), if_pos, if_pos ⟨hc.2.2.1, hc.2.2.2⟩]
    constructor
    · split <;> omega
    · split <;> omega
  · rw [e, if_pos (show (0 : Int32) = 0 from rfl)]
    by_cases c0 : 240 ≤ u0 ∧ u0 ≤ 244
    · rw [if_pos c0, if_neg (by omega)]
      by_cases c : (if u0 = 240 then 144 else 128) ≤ u1 ∧ u1 ≤ (if u0 = 244 then 143 else 191)
      · rw [if_pos c]
        by_cases c2 : (128 ≤ u2 ∧ u2 ≤ 191) ∧ (128 ≤ u3 ∧ u3 ≤ 191)
        · exfalso
          rcases hct with ⟨h1, h2⟩ | ⟨h1, h2⟩
          · rcases q with q | q
            · rw [h1] at q; exact absurd q (by decide)
            · obtain ⟨c3, c4⟩ := c
              split at c3 <;> split at c4 <;> omega
          · refine h2 ⟨?_, c2.1, c2.2⟩
            obtain ⟨c3, c4⟩ := c
            split at c3 <;> split at c4 <;> omega
        · rw [if_neg c2]
      · rw [if_neg c]
    · rw [if_neg c0]
theorem own_F0 (u0 u1 u2 u3 r : Int) (h : 248 ≤ u0 ∨ u0 < 192 ∨ (192 ≤ u0 ∧ u0 < 224 ∧ r < 2) ∨ (224 ≤ u0 ∧ u0 < 240 ∧ r < 3) ∨ (240 ≤ u0 ∧ u0 < 248 ∧ r < 4)) : own_sp u0 u1 u2 u3 r = 0 := by
  unfold own_sp
  by_cases c : 194 ≤ u0 ∧ u0 ≤ 223
  · rw [if_pos c, if_pos (by omega)]
  · rw [if_neg c]
    by_cases c : 224 ≤ u0 ∧ u0 ≤ 239
    · rw [if_pos c, if_pos (by omega)]
    · rw [if_neg c]
      by_cases c : 240 ≤ u0 ∧ u0 ≤ 244
      · rw [if_pos c, if_pos (by omega)]
      · rw [if_neg c]
theorem own_o (x v : Int32) (e : v = x &&& 1) : v = 0 ∨ v = 1 := by
  have h := c_mask x 1 1 (by decide) rfl
  rw [← e] at h
  have k0 : (0 : Int32).toInt = 0 := rfl
  have k1 : (1 : Int32).toInt = 1 := rfl
  simp only [← Int32.toInt_inj]; omega
theorem own_rm (x d v : Int32) (n : Int) (hd : d.toInt = n) (hn : n = 5 ∨ n = 6) (e : v = ((x.toUInt32 >>> ((1 : Int32) &&& 31).toUInt32).toInt32) % d) : 0 ≤ v.toInt ∧ v.toInt < n := by
  have h1 := c_iushr x 1 1 rfl (by decide)
  have rx := rng32 x
  generalize (x.toUInt32 >>> ((1 : Int32) &&& 31).toUInt32).toInt32 = y at *
  have h2 := (c_irem y d n hd).1
  rw [← e] at h2
  rcases hn with rfl | rfl <;> omega
theorem own_tt (v t a : Int32) (n : Int) (ha : a.toInt = n) (hn : n = 0 ∨ n = 1) (hv : 0 ≤ v.toInt ∧ v.toInt < 6) (e : t = a + v) : t.toInt = n + v.toInt := by
  have h := c_iadd a v
  rw [← e] at h
  have r := rng32 t
  omega
theorem own_cT (c : Int32) (h : 0 ≤ c.toInt ∧ c.toInt < 256) (q : ¬ own_isCont c = 0) : own_co c.toInt := by
  rcases own_ct c h with u | u
  · exact absurd u.1 q
  · exact u.2
theorem own_cF (c : Int32) (h : 0 ≤ c.toInt ∧ c.toInt < 256) (q : own_isCont c = 0) (u : own_co c.toInt) : False := by
  rcases own_ct c h with v | v
  · exact v.2 u
  · rw [v.1] at q; exact absurd q (by decide)
theorem own_fin (r ex vd nd : Int32) (n s : Int) (hr : r.toInt = s) (hs : s = if vd = 0 then 0 else n) (he : ex = if vd = 0 then 0 else nd) (hn : nd.toInt = n) : r = ex := by
  rw [← Int32.toInt_inj, hr, hs, he]
  by_cases q : vd = 0
  · rw [if_pos q, if_pos q]; rfl
  · rw [if_neg q, if_neg q]; exact hn.symm
theorem d1_0 : decode method_2_code 0 = .ok (.iload_n 0, 1) := by decide +kernel
theorem d1_1 : decode method_2_code 1 = .ok (.sipush 192, 3) := by decide +kernel
theorem d1_4 : decode method_2_code 4 = .ok (.iand, 1) := by decide +kernel
theorem d1_5 : decode method_2_code 5 = .ok (.sipush 128, 3) := by decide +kernel
theorem d1_8 : decode method_2_code 8 = .ok (.if_icmp .ne 7, 3) := by decide +kernel
theorem d1_11 : decode method_2_code 11 = .ok (.iconst 1, 1) := by decide +kernel
theorem d1_12 : decode method_2_code 12 = .ok (.goto 4, 3) := by decide +kernel
theorem d1_15 : decode method_2_code 15 = .ok (.iconst 0, 1) := by decide +kernel
theorem d1_16 : decode method_2_code 16 = .ok (.ireturn, 1) := by decide +kernel
set_option maxRecDepth 65536 in
set_option maxHeartbeats 40000000 in
theorem rm1 (l : Launch) (Z : State) (a0 : Array Value) (hw : ∀ d ∈ tables_1, d.before a0 Z = true) (p0 : Int32) (h0 : Heap) (n0 : Nat) (Z0 : n0 ≤ h0.size)  :
    own_C l Z (⟨"com/example/gentle_indent/gentleindent/util/Utf8SequenceLengthPinLaw", "isCont", "(I)Z"⟩ : MethodName) method_2_code 1 (some .boolean) [] ({ frames := 0, cells := 0, slots := 0, locals := 0 } : Room) #[(.int p0)] h0 (fun v h L => v = some (.int (own_isCont p0)) ∧ Fr n0 L ∧ h = h0) := by
  refine own_body (by first | (simp [plainName, overriddenIn]; done) | decide +kernel) ?_
  intro p e s m below meth c T0 hx hby hml hown hnm hret hlk hZ X0 e0
  have N0 := Fr.nil n0
  refine own_eq (f' := (mkF m 0 #[.val (.int p0)] [])) (by first | (simp [entryFrame, mkF, argsToLocals, Value.category]; done) | rfl) ?_
  refine own_iloadN X0 hx 1 (hb hby d1_0) rfl rfl ?_
  refine own_sipush X0 hx 4 (192 : Int32) (by decide) (hb hby d1_1) rfl ?_
  refine own_iand X0 hx 5 (hb hby d1_4) rfl ?_
  refine own_sipush X0 hx 8 (128 : Int32) (by decide) (hb hby d1_5) rfl ?_
  refine own_icmp_ne X0 hx 15 11 (hb hby d1_8) (by decide) (by decide) rfl (fun h1 => ?_) (fun h1 => ?_)
  · show own_W p e below _ T0 (mkF m 15 #[.val (.int p0)] [])
    refine own_iconst X0 hx 16 (0 : Int32) (by decide) (hb hby d1_15) rfl ?_
    exact own_retZ X0 hx (0 : Int32) (by decide) hret hlk (hb hby d1_16) (by decide) (by decide) ⟨by unfold own_isCont; rw [if_neg h1], N0, e0⟩
  · show own_W p e below _ T0 (mkF m 11 #[.val (.int p0)] [])
    refine own_iconst X0 hx 12 (1 : Int32) (by decide) (hb hby d1_11) rfl ?_
    refine own_goto X0 hx 16 (hb hby d1_12) (by decide) (by decide) ?_
    exact own_retZ X0 hx (1 : Int32) (by decide) hret hlk (hb hby d1_16) (by decide) (by decide) ⟨by unfold own_isCont; rw [if_pos h1], N0, e0⟩
theorem d20_0 : decode prog_84_method_2_code 0 = .ok (.aload_n 0, 1) := by decide +kernel
theorem d20_1 : decode prog_84_method_2_code 1 = .ok (.iload_n 1, 1) := by decide +kernel
theorem d20_2 : decode prog_84_method_2_code 2 = .ok (.baload, 1) := by decide +kernel
theorem d20_3 : decode prog_84_method_2_code 3 = .ok (.sipush 255, 3) := by decide +kernel
theorem d20_6 : decode prog_84_method_2_code 6 = .ok (.iand, 1) := by decide +kernel
theorem d20_7 : decode prog_84_method_2_code 7 = .ok (.istore_n 3, 1) := by decide +kernel
theorem d20_8 : decode prog_84_method_2_code 8 = .ok (.sipush 128, 3) := by decide +kernel
theorem d20_11 : decode prog_84_method_2_code 11 = .ok (.istore 5, 2) := by decide +kernel
theorem d20_13 : decode prog_84_method_2_code 13 = .ok (.sipush 191, 3) := by decide +kernel
theorem d20_16 : decode prog_84_method_2_code 16 = .ok (.istore 6, 2) := by decide +kernel
theorem d20_18 : decode prog_84_method_2_code 18 = .ok (.iload_n 3, 1) := by decide +kernel
theorem d20_19 : decode prog_84_method_2_code 19 = .ok (.sipush 194, 3) := by decide +kernel
theorem d20_22 : decode prog_84_method_2_code 22 = .ok (.if_icmp .lt 16, 3) := by decide +kernel
theorem d20_25 : decode prog_84_method_2_code 25 = .ok (.iload_n 3, 1) := by decide +kernel
theorem d20_26 : decode prog_84_method_2_code 26 = .ok (.sipush 223, 3) := by decide +kernel
theorem d20_29 : decode prog_84_method_2_code 29 = .ok (.if_icmp .gt 9, 3) := by decide +kernel
theorem d20_32 : decode prog_84_method_2_code 32 = .ok (.iconst 2, 1) := by decide +kernel
theorem d20_33 : decode prog_84_method_2_code 33 = .ok (.istore 4, 2) := by decide +kernel
theorem d20_35 : decode prog_84_method_2_code 35 = .ok (.goto 113, 3) := by decide +kernel
theorem d20_38 : decode prog_84_method_2_code 38 = .ok (.iload_n 3, 1) := by decide +kernel
theorem d20_39 : decode prog_84_method_2_code 39 = .ok (.sipush 224, 3) := by decide +kernel
theorem d20_42 : decode prog_84_method_2_code 42 = .ok (.if_icmp .lt 50, 3) := by decide +kernel
theorem d20_45 : decode prog_84_method_2_code 45 = .ok (.iload_n 3, 1) := by decide +kernel
theorem d20_46 : decode prog_84_method_2_code 46 = .ok (.sipush 239, 3) := by decide +kernel
theorem d20_49 : decode prog_84_method_2_code 49 = .ok (.if_icmp .gt 43, 3) := by decide +kernel
theorem d20_52 : decode prog_84_method_2_code 52 = .ok (.iconst 3, 1) := by decide +kernel
theorem d20_53 : decode prog_84_method_2_code 53 = .ok (.istore 4, 2) := by decide +kernel
theorem d20_55 : decode prog_84_method_2_code 55 = .ok (.iload_n 3, 1) := by decide +kernel
theorem d20_56 : decode prog_84_method_2_code 56 = .ok (.sipush 224, 3) := by decide +kernel
theorem d20_59 : decode prog_84_method_2_code 59 = .ok (.if_icmp .ne 9, 3) := by decide +kernel
theorem d20_62 : decode prog_84_method_2_code 62 = .ok (.sipush 160, 3) := by decide +kernel
theorem d20_65 : decode prog_84_method_2_code 65 = .ok (.goto 5, 3) := by decide +kernel
theorem d20_68 : decode prog_84_method_2_code 68 = .ok (.iload 5, 2) := by decide +kernel
theorem d20_70 : decode prog_84_method_2_code 70 = .ok (.istore 5, 2) := by decide +kernel
theorem d20_72 : decode prog_84_method_2_code 72 = .ok (.iload_n 3, 1) := by decide +kernel
theorem d20_73 : decode prog_84_method_2_code 73 = .ok (.sipush 237, 3) := by decide +kernel
theorem d20_76 : decode prog_84_method_2_code 76 = .ok (.if_icmp .ne 9, 3) := by decide +kernel
theorem d20_79 : decode prog_84_method_2_code 79 = .ok (.sipush 159, 3) := by decide +kernel
theorem d20_82 : decode prog_84_method_2_code 82 = .ok (.goto 5, 3) := by decide +kernel
theorem d20_85 : decode prog_84_method_2_code 85 = .ok (.iload 6, 2) := by decide +kernel
theorem d20_87 : decode prog_84_method_2_code 87 = .ok (.istore 6, 2) := by decide +kernel
theorem d20_89 : decode prog_84_method_2_code 89 = .ok (.goto 59, 3) := by decide +kernel
theorem d20_92 : decode prog_84_method_2_code 92 = .ok (.iload_n 3, 1) := by decide +kernel
theorem d20_93 : decode prog_84_method_2_code 93 = .ok (.sipush 240, 3) := by decide +kernel
theorem d20_96 : decode prog_84_method_2_code 96 = .ok (.if_icmp .lt 50, 3) := by decide +kernel
theorem d20_99 : decode prog_84_method_2_code 99 = .ok (.iload_n 3, 1) := by decide +kernel
theorem d20_100 : decode prog_84_method_2_code 100 = .ok (.sipush 244, 3) := by decide +kernel
theorem d20_103 : decode prog_84_method_2_code 103 = .ok (.if_icmp .gt 43, 3) := by decide +kernel
theorem d20_106 : decode prog_84_method_2_code 106 = .ok (.iconst 4, 1) := by decide +kernel
theorem d20_107 : decode prog_84_method_2_code 107 = .ok (.istore 4, 2) := by decide +kernel
theorem d20_109 : decode prog_84_method_2_code 109 = .ok (.iload_n 3, 1) := by decide +kernel
theorem d20_110 : decode prog_84_method_2_code 110 = .ok (.sipush 240, 3) := by decide +kernel
theorem d20_113 : decode prog_84_method_2_code 113 = .ok (.if_icmp .ne 9, 3) := by decide +kernel
theorem d20_116 : decode prog_84_method_2_code 116 = .ok (.sipush 144, 3) := by decide +kernel
theorem d20_119 : decode prog_84_method_2_code 119 = .ok (.goto 5, 3) := by decide +kernel
theorem d20_122 : decode prog_84_method_2_code 122 = .ok (.iload 5, 2) := by decide +kernel
theorem d20_124 : decode prog_84_method_2_code 124 = .ok (.istore 5, 2) := by decide +kernel
theorem d20_126 : decode prog_84_method_2_code 126 = .ok (.iload_n 3, 1) := by decide +kernel
theorem d20_127 : decode prog_84_method_2_code 127 = .ok (.sipush 244, 3) := by decide +kernel
theorem d20_130 : decode prog_84_method_2_code 130 = .ok (.if_icmp .ne 9, 3) := by decide +kernel
theorem d20_133 : decode prog_84_method_2_code 133 = .ok (.sipush 143, 3) := by decide +kernel
theorem d20_136 : decode prog_84_method_2_code 136 = .ok (.goto 5, 3) := by decide +kernel
theorem d20_139 : decode prog_84_method_2_code 139 = .ok (.iload 6, 2) := by decide +kernel
theorem d20_141 : decode prog_84_method_2_code 141 = .ok (.istore 6, 2) := by decide +kernel
theorem d20_143 : decode prog_84_method_2_code 143 = .ok (.goto 5, 3) := by decide +kernel
theorem d20_146 : decode prog_84_method_2_code 146 = .ok (.iconst 0, 1) := by decide +kernel
theorem d20_147 : decode prog_84_method_2_code 147 = .ok (.ireturn, 1) := by decide +kernel
theorem d20_148 : decode prog_84_method_2_code 148 = .ok (.iload_n 2, 1) := by decide +kernel
theorem d20_149 : decode prog_84_method_2_code 149 = .ok (.iload_n 1, 1) := by decide +kernel
theorem d20_150 : decode prog_84_method_2_code 150 = .ok (.isub, 1) := by decide +kernel
theorem d20_151 : decode prog_84_method_2_code 151 = .ok (.iload 4, 2) := by decide +kernel
theorem d20_153 : decode prog_84_method_2_code 153 = .ok (.if_icmp .ge 5, 3) := by decide +kernel
theorem d20_156 : decode prog_84_method_2_code 156 = .ok (.iconst 0, 1) := by decide +kernel
theorem d20_157 : decode prog_84_method_2_code 157 = .ok (.ireturn, 1) := by decide +kernel
theorem d20_158 : decode prog_84_method_2_code 158 = .ok (.aload_n 0, 1) := by decide +kernel
theorem d20_159 : decode prog_84_method_2_code 159 = .ok (.iload_n 1, 1) := by decide +kernel
theorem d20_160 : decode prog_84_method_2_code 160 = .ok (.iconst 1, 1) := by decide +kernel
theorem d20_161 : decode prog_84_method_2_code 161 = .ok (.iadd, 1) := by decide +kernel
theorem d20_162 : decode prog_84_method_2_code 162 = .ok (.baload, 1) := by decide +kernel
theorem d20_163 : decode prog_84_method_2_code 163 = .ok (.sipush 255, 3) := by decide +kernel
theorem d20_166 : decode prog_84_method_2_code 166 = .ok (.iand, 1) := by decide +kernel
theorem d20_167 : decode prog_84_method_2_code 167 = .ok (.istore 7, 2) := by decide +kernel
theorem d20_169 : decode prog_84_method_2_code 169 = .ok (.iload 7, 2) := by decide +kernel
theorem d20_171 : decode prog_84_method_2_code 171 = .ok (.iload 5, 2) := by decide +kernel
theorem d20_173 : decode prog_84_method_2_code 173 = .ok (.if_icmp .lt 10, 3) := by decide +kernel
theorem d20_176 : decode prog_84_method_2_code 176 = .ok (.iload 7, 2) := by decide +kernel
theorem d20_178 : decode prog_84_method_2_code 178 = .ok (.iload 6, 2) := by decide +kernel
theorem d20_180 : decode prog_84_method_2_code 180 = .ok (.if_icmp .le 5, 3) := by decide +kernel
theorem d20_183 : decode prog_84_method_2_code 183 = .ok (.iconst 0, 1) := by decide +kernel
theorem d20_184 : decode prog_84_method_2_code 184 = .ok (.ireturn, 1) := by decide +kernel
theorem d20_185 : decode prog_84_method_2_code 185 = .ok (.iconst 2, 1) := by decide +kernel
theorem d20_186 : decode prog_84_method_2_code 186 = .ok (.istore 8, 2) := by decide +kernel
theorem d20_188 : decode prog_84_method_2_code 188 = .ok (.iload 8, 2) := by decide +kernel
theorem d20_190 : decode prog_84_method_2_code 190 = .ok (.iload 4, 2) := by decide +kernel
theorem d20_192 : decode prog_84_method_2_code 192 = .ok (.if_icmp .ge 27, 3) := by decide +kernel
theorem d20_195 : decode prog_84_method_2_code 195 = .ok (.aload_n 0, 1) := by decide +kernel
theorem d20_196 : decode prog_84_method_2_code 196 = .ok (.iload_n 1, 1) := by decide +kernel
theorem d20_197 : decode prog_84_method_2_code 197 = .ok (.iload 8, 2) := by decide +kernel
theorem d20_199 : decode prog_84_method_2_code 199 = .ok (.iadd, 1) := by decide +kernel
theorem d20_200 : decode prog_84_method_2_code 200 = .ok (.baload, 1) := by decide +kernel
theorem d20_201 : decode prog_84_method_2_code 201 = .ok (.sipush 192, 3) := by decide +kernel
theorem d20_204 : decode prog_84_method_2_code 204 = .ok (.iand, 1) := by decide +kernel
theorem d20_205 : decode prog_84_method_2_code 205 = .ok (.sipush 128, 3) := by decide +kernel
theorem d20_208 : decode prog_84_method_2_code 208 = .ok (.if_icmp .eq 5, 3) := by decide +kernel
theorem d20_211 : decode prog_84_method_2_code 211 = .ok (.iconst 0, 1) := by decide +kernel
theorem d20_212 : decode prog_84_method_2_code 212 = .ok (.ireturn, 1) := by decide +kernel
theorem d20_213 : decode prog_84_method_2_code 213 = .ok (.iinc 8 1, 3) := by decide +kernel
theorem d20_216 : decode prog_84_method_2_code 216 = .ok (.goto (-28), 3) := by decide +kernel
theorem d20_219 : decode prog_84_method_2_code 219 = .ok (.iload 4, 2) := by decide +kernel
theorem d20_221 : decode prog_84_method_2_code 221 = .ok (.ireturn, 1) := by decide +kernel
set_option maxRecDepth 65536 in
set_option maxHeartbeats 40000000 in
theorem rm2_0 (l : Launch) (Z : State) (a0 : Array Value) (hw : ∀ d ∈ tables_1, d.before a0 Z = true) (a : Addr) (p2 : Int32) (f : Nat → Int32) (h0 : Heap) (n0 : Nat) (Z0 : n0 ≤ h0.size) (hp2 : 0 ≤ p2.toInt ∧ p2.toInt ≤ 6) (A_a : own_AI Z h0 a .byte 5 f) :
    own_C l Z (⟨"com/example/gentle_indent/gentleindent/util/Utf8", "sequenceLength", "([BII)I"⟩ : MethodName) prog_84_method_2_code 9 (some .int) [] ({ frames := 0, cells := 0, slots := 0, locals := 0 } : Room) #[(.ref a), (.int (0 : Int32)), (.int p2)] h0 (fun v h L => ∃ r : Int32, v = some (.int r) ∧ r.toInt = own_sp ((f 0).toInt % 256) ((f 1).toInt % 256) ((f 2).toInt % 256) ((f 3).toInt % 256) (p2.toInt - 0) ∧ Fr n0 L ∧ h = h0) := by
  refine own_body (by first | (simp [plainName, overriddenIn]; done) | decide +kernel) ?_
  intro p e s m below meth c T0 hx hby hml hown hnm hret hlk hZ X0 e0
  have N0 := Fr.nil n0
  refine own_eq (f' := (mkF m 0 #[.val (.ref a), .val (.int (0 : Int32)), .val (.int p2), .unset, .unset, .unset, .unset, .unset, .unset] [])) (by first | (simp [entryFrame, mkF, argsToLocals, Value.category]; done) | rfl) ?_
  refine own_aloadN X0 hx 1 (hb hby d20_0) rfl rfl ?_
  refine own_iloadN X0 hx 2 (hb hby d20_1) rfl rfl ?_
  refine own_baload X0 hx hZ e0 3 0 A_a rfl (by decide) (hb hby d20_2) rfl ?_
  refine own_sipush X0 hx 6 (255 : Int32) (by decide) (hb hby d20_3) rfl ?_
  refine own_iand X0 hx 7 (hb hby d20_6) rfl ?_
  obtain ⟨ld, e_ld⟩ : ∃ z : Int32, z = ((f 0) &&& (255 : Int32)) := ⟨_, rfl⟩
  refine own_istoreN X0 hx 8 #[.val (.ref a), .val (.int (0 : Int32)), .val (.int p2), .val (.int ld), .unset, .unset, .unset, .unset, .unset] e_ld (hb hby d20_7) rfl rfl ?_
  refine own_sipush X0 hx 11 (128 : Int32) (by decide) (hb hby d20_8) rfl ?_
  refine own_istore X0 hx 13 #[.val (.ref a), .val (.int (0 : Int32)), .val (.int p2), .val (.int ld), .unset, .val (.int (128 : Int32)), .unset, .unset, .unset] rfl (hb hby d20_11) rfl rfl ?_
  refine own_sipush X0 hx 16 (191 : Int32) (by decide) (hb hby d20_13) rfl ?_
  refine own_istore X0 hx 18 #[.val (.ref a), .val (.int (0 : Int32)), .val (.int p2), .val (.int ld), .unset, .val (.int (128 : Int32)), .val (.int (191 : Int32)), .unset, .unset] rfl (hb hby d20_16) rfl rfl ?_
  have hld := own_m8 ld _ e_ld
  refine own_iloadN X0 hx 19 (hb hby d20_18) rfl rfl ?_
  refine own_sipush X0 hx 22 (194 : Int32) (by decide) (hb hby d20_19) rfl ?_
  have J1 : ∀ (hj2 : ¬ (194 ≤ ld.toInt ∧ ld.toInt ≤ 223)), own_W p e below (own_K s ({ frames := 0, cells := 0, slots := 0, locals := 0 } : Room) (fun v h L => ∃ r : Int32, v = some (.int r) ∧ r.toInt = own_sp ((f 0).toInt % 256) ((f 1).toInt % 256) ((f 2).toInt % 256) ((f 3).toInt % 256) (p2.toInt - 0) ∧ Fr n0 L ∧ h = h0)) T0 (mkF m 38 #[.val (.ref a), .val (.int (0 : Int32)), .val (.int p2), .val (.int ld), .unset, .val (.int (128 : Int32)), .val (.int (191 : Int32)), .unset, .unset] []) := by
    intro hj2
    refine own_iloadN X0 hx 39 (hb hby d20_38) rfl rfl ?_
    refine own_sipush X0 hx 42 (224 : Int32) (by decide) (hb hby d20_39) rfl ?_
    have J3 : ∀ (hj4 : ¬ (224 ≤ ld.toInt ∧ ld.toInt ≤ 239)), own_W p e below (own_K s ({ frames := 0, cells := 0, slots := 0, locals := 0 } : Room) (fun v h L => ∃ r : Int32, v = some (.int r) ∧ r.toInt = own_sp ((f 0).toInt % 256) ((f 1).toInt % 256) ((f 2).toInt % 256) ((f 3).toInt % 256) (p2.toInt - 0) ∧ Fr n0 L ∧ h = h0)) T0 (mkF m 92 #[.val (.ref a), .val (.int (0 : Int32)), .val (.int p2), .val (.int ld), .unset, .val (.int (128 : Int32)), .val (.int (191 : Int32)), .unset, .unset] []) := by
      intro hj4
      refine own_iloadN X0 hx 93 (hb hby d20_92) rfl rfl ?_
      refine own_sipush X0 hx 96 (240 : Int32) (by decide) (hb hby d20_93) rfl ?_
      have J5 : ∀ (hj6 : ¬ (240 ≤ ld.toInt ∧ ld.toInt ≤ 244)), own_W p e below (own_K s ({ frames := 0, cells := 0, slots := 0, locals := 0 } : Room) (fun v h L => ∃ r : Int32, v = some (.int r) ∧ r.toInt = own_sp ((f 0).toInt % 256) ((f 1).toInt % 256) ((f 2).toInt % 256) ((f 3).toInt % 256) (p2.toInt - 0) ∧ Fr n0 L ∧ h = h0)) T0 (mkF m 146 #[.val (.ref a), .val (.int (0 : Int32)), .val (.int p2), .val (.int ld), .unset, .val (.int (128 : Int32)), .val (.int (191 : Int32)), .unset, .unset] []) := by
        intro hj6
        refine own_iconst X0 hx 147 (0 : Int32) (by decide) (hb hby d20_146) rfl ?_
        exact own_retI X0 hx hret hlk (hb hby d20_147) (by decide) (by decide) ⟨_, rfl, by unfold own_sp; simp only [Int32.lt_iff_toInt_lt, ← Int32.toInt_inj, own_192, own_k0, own_k1, own_k2, own_k3, own_k4, own_k128, own_k143, own_k144, own_k159, own_k160, own_k191, own_k192, own_k194, own_k223, own_k224, own_k237, own_k239, own_k240, own_k244, own_k248, own_k2048, own_k55296, own_k57343, own_k65536, own_k1114111]; (repeat' split) <;> omega, N0, e0⟩
      refine own_icmp_lt X0 hx 146 99 (hb hby d20_96) (by decide) (by decide) rfl (fun h7 => ?_) (fun h7 => ?_)
      · show own_W p e below _ T0 (mkF m 146 #[.val (.ref a), .val (.int (0 : Int32)), .val (.int p2), .val (.int ld), .unset, .val (.int (128 : Int32)), .val (.int (191 : Int32)), .unset, .unset] [])
        exact J5  (by simp only [Int32.lt_iff_toInt_lt, ← Int32.toInt_inj, own_192, own_k0, own_k1, own_k2, own_k3, own_k4, own_k128, own_k143, own_k144, own_k159, own_k160, own_k191, own_k192, own_k194, own_k223, own_k224, own_k237, own_k239, own_k240, own_k244, own_k248, own_k2048, own_k55296, own_k57343, own_k65536, own_k1114111] at h7; omega)
      · show own_W p e below _ T0 (mkF m 99 #[.val (.ref a), .val (.int (0 : Int32)), .val (.int p2), .val (.int ld), .unset, .val (.int (128 : Int32)), .val (.int (191 : Int32)), .unset, .unset] [])
        refine own_iloadN X0 hx 100 (hb hby d20_99) rfl rfl ?_
        refine own_sipush X0 hx 103 (244 : Int32) (by decide) (hb hby d20_100) rfl ?_
        refine own_icmp_gt X0 hx 146 106 (hb hby d20_103) (by decide) (by decide) rfl (fun h8 => ?_) (fun h8 => ?_)
        · show own_W p e below _ T0 (mkF m 146 #[.val (.ref a), .val (.int (0 : Int32)), .val (.int p2), .val (.int ld), .unset, .val (.int (128 : Int32)), .val (.int (191 : Int32)), .unset, .unset] [])
          exact J5  (by simp only [Int32.lt_iff_toInt_lt, ← Int32.toInt_inj, own_192, own_k0, own_k1, own_k2, own_k3, own_k4, own_k128, own_k143, own_k144, own_k159, own_k160, own_k191, own_k192, own_k194, own_k223, own_k224, own_k237, own_k239, own_k240, own_k244, own_k248, own_k2048, own_k55296, own_k57343, own_k65536, own_k1114111] at h7 h8; omega)
        · show own_W p e below _ T0 (mkF m 106 #[.val (.ref a), .val (.int (0 : Int32)), .val (.int p2), .val (.int ld), .unset, .val (.int (128 : Int32)), .val (.int (191 : Int32)), .unset, .unset] [])
          refine own_iconst X0 hx 107 (4 : Int32) (by decide) (hb hby d20_106) rfl ?_
          refine own_istore X0 hx 109 #[.val (.ref a), .val (.int (0 : Int32)), .val (.int p2), .val (.int ld), .val (.int (4 : Int32)), .val (.int (128 : Int32)), .val (.int (191 : Int32)), .unset, .unset] rfl (hb hby d20_107) rfl rfl ?_
          refine own_iloadN X0 hx 110 (hb hby d20_109) rfl rfl ?_
          refine own_sipush X0 hx 113 (240 : Int32) (by decide) (hb hby d20_110) rfl ?_
          have J9 : ∀ (lo : Int32) (hj10 : lo.toInt = if ld.toInt = 240 then 144 else 128), own_W p e below (own_K s ({ frames := 0, cells := 0, slots := 0, locals := 0 } : Room) (fun v h L => ∃ r : Int32, v = some (.int r) ∧ r.toInt = own_sp ((f 0).toInt % 256) ((f 1).toInt % 256) ((f 2).toInt % 256) ((f 3).toInt % 256) (p2.toInt - 0) ∧ Fr n0 L ∧ h = h0)) T0 (mkF m 124 #[.val (.ref a), .val (.int (0 : Int32)), .val (.int p2), .val (.int ld), .val (.int (4 : Int32)), .val (.int (128 : Int32)), .val (.int (191 : Int32)), .unset, .unset] [(.int lo)]) := by
            intro lo hj10
            refine own_istore X0 hx 126 #[.val (.ref a), .val (.int (0 : Int32)), .val (.int p2), .val (.int ld), .val (.int (4 : Int32)), .val (.int lo), .val (.int (191 : Int32)), .unset, .unset] rfl (hb hby d20_124) rfl rfl ?_
            refine own_iloadN X0 hx 127 (hb hby d20_126) rfl rfl ?_
            refine own_sipush X0 hx 130 (244 : Int32) (by decide) (hb hby d20_127) rfl ?_
            have J11 : ∀ (hi : Int32) (hj12 : hi.toInt = if ld.toInt = 244 then 143 else 191), own_W p e below (own_K s ({ frames := 0, cells := 0, slots := 0, locals := 0 } : Room) (fun v h L => ∃ r : Int32, v = some (.int r) ∧ r.toInt = own_sp ((f 0).toInt % 256) ((f 1).toInt % 256) ((f 2).toInt % 256) ((f 3).toInt % 256) (p2.toInt - 0) ∧ Fr n0 L ∧ h = h0)) T0 (mkF m 141 #[.val (.ref a), .val (.int (0 : Int32)), .val (.int p2), .val (.int ld), .val (.int (4 : Int32)), .val (.int lo), .val (.int (191 : Int32)), .unset, .unset] [(.int hi)]) := by
              intro hi hj12
              refine own_istore X0 hx 143 #[.val (.ref a), .val (.int (0 : Int32)), .val (.int p2), .val (.int ld), .val (.int (4 : Int32)), .val (.int lo), .val (.int hi), .unset, .unset] rfl (hb hby d20_141) rfl rfl ?_
              refine own_goto X0 hx 148 (hb hby d20_143) (by decide) (by decide) ?_
              have hro : (p2 - (0 : Int32)).toInt = p2.toInt - 0 := own_sub p2 (0 : Int32) 0 rfl (by decide) hp2
              refine own_iloadN X0 hx 149 (hb hby d20_148) rfl rfl ?_
              refine own_iloadN X0 hx 150 (hb hby d20_149) rfl rfl ?_
              refine own_isub X0 hx 151 (hb hby d20_150) rfl ?_
              refine own_iload X0 hx 153 (hb hby d20_151) rfl rfl ?_
              refine own_icmp_ge X0 hx 158 156 (hb hby d20_153) (by decide) (by decide) rfl (fun h13 => ?_) (fun h13 => ?_)
              · show own_W p e below _ T0 (mkF m 158 #[.val (.ref a), .val (.int (0 : Int32)), .val (.int p2), .val (.int ld), .val (.int (4 : Int32)), .val (.int lo), .val (.int hi), .unset, .unset] [])
                refine own_aloadN X0 hx 159 (hb hby d20_158) rfl rfl ?_
                refine own_iloadN X0 hx 160 (hb hby d20_159) rfl rfl ?_
                refine own_iconst X0 hx 161 (1 : Int32) (by decide) (hb hby d20_160) rfl ?_
                refine own_iaddz X0 hx 162 (z := (1 : Int32)) (by decide) (hb hby d20_161) rfl ?_
                refine own_baload X0 hx hZ e0 163 1 A_a rfl (by decide) (hb hby d20_162) rfl ?_
                refine own_sipush X0 hx 166 (255 : Int32) (by decide) (hb hby d20_163) rfl ?_
                refine own_iand X0 hx 167 (hb hby d20_166) rfl ?_
                obtain ⟨sc, e_sc⟩ : ∃ z : Int32, z = ((f 1) &&& (255 : Int32)) := ⟨_, rfl⟩
                refine own_istore X0 hx 169 #[.val (.ref a), .val (.int (0 : Int32)), .val (.int p2), .val (.int ld), .val (.int (4 : Int32)), .val (.int lo), .val (.int hi), .val (.int sc), .unset] e_sc (hb hby d20_167) rfl rfl ?_
                have hsc := own_m8 sc _ e_sc
                refine own_iload X0 hx 171 (hb hby d20_169) rfl rfl ?_
                refine own_iload X0 hx 173 (hb hby d20_171) rfl rfl ?_
                refine own_icmp_lt X0 hx 183 176 (hb hby d20_173) (by decide) (by decide) rfl (fun h14 => ?_) (fun h14 => ?_)
                · show own_W p e below _ T0 (mkF m 183 #[.val (.ref a), .val (.int (0 : Int32)), .val (.int p2), .val (.int ld), .val (.int (4 : Int32)), .val (.int lo), .val (.int hi), .val (.int sc), .unset] [])
                  refine own_iconst X0 hx 184 (0 : Int32) (by decide) (hb hby d20_183) rfl ?_
                  try (simp only [Int32.lt_iff_toInt_lt, ← Int32.toInt_inj, own_192, own_k0, own_k1, own_k2, own_k3, own_k4, own_k128, own_k143, own_k144, own_k159, own_k160, own_k191, own_k192, own_k194, own_k223, own_k224, own_k237, own_k239, own_k240, own_k244, own_k248, own_k2048, own_k55296, own_k57343, own_k65536, own_k1114111] at h7 h8 h13 h14)
                  exact own_retI X0 hx hret hlk (hb hby d20_184) (by decide) (by decide) ⟨_, rfl, by unfold own_sp; simp only [Int32.lt_iff_toInt_lt, ← Int32.toInt_inj, own_192, own_k0, own_k1, own_k2, own_k3, own_k4, own_k128, own_k143, own_k144, own_k159, own_k160, own_k191, own_k192, own_k194, own_k223, own_k224, own_k237, own_k239, own_k240, own_k244, own_k248, own_k2048, own_k55296, own_k57343, own_k65536, own_k1114111]; (repeat' split) <;> omega, N0, e0⟩
                · show own_W p e below _ T0 (mkF m 176 #[.val (.ref a), .val (.int (0 : Int32)), .val (.int p2), .val (.int ld), .val (.int (4 : Int32)), .val (.int lo), .val (.int hi), .val (.int sc), .unset] [])
                  refine own_iload X0 hx 178 (hb hby d20_176) rfl rfl ?_
                  refine own_iload X0 hx 180 (hb hby d20_178) rfl rfl ?_
                  refine own_icmp_le X0 hx 185 183 (hb hby d20_180) (by decide) (by decide) rfl (fun h15 => ?_) (fun h15 => ?_)
                  · show own_W p e below _ T0 (mkF m 185 #[.val (.ref a), .val (.int (0 : Int32)), .val (.int p2), .val (.int ld), .val (.int (4 : Int32)), .val (.int lo), .val (.int hi), .val (.int sc), .unset] [])
                    refine own_iconst X0 hx 186 (2 : Int32) (by decide) (hb hby d20_185) rfl ?_
                    refine own_istore X0 hx 188 #[.val (.ref a), .val (.int (0 : Int32)), .val (.int p2), .val (.int ld), .val (.int (4 : Int32)), .val (.int lo), .val (.int hi), .val (.int sc), .val (.int (2 : Int32))] rfl (hb hby d20_186) rfl rfl ?_
                    refine own_iload X0 hx 190 (hb hby d20_188) rfl rfl ?_
                    refine own_iload X0 hx 192 (hb hby d20_190) rfl rfl ?_
                    refine own_icmp_ge X0 hx 219 195 (hb hby d20_192) (by decide) (by decide) rfl (fun h16 => ?_) (fun h16 => ?_)
                    · exact absurd h16 (by decide)
                    · show own_W p e below _ T0 (mkF m 195 #[.val (.ref a), .val (.int (0 : Int32)), .val (.int p2), .val (.int ld), .val (.int (4 : Int32)), .val (.int lo), .val (.int hi), .val (.int sc), .val (.int (2 : Int32))] [])
                      refine own_aloadN X0 hx 196 (hb hby d20_195) rfl rfl ?_
                      refine own_iloadN X0 hx 197 (hb hby d20_196) rfl rfl ?_
                      refine own_iload X0 hx 199 (hb hby d20_197) rfl rfl ?_
                      refine own_iaddz X0 hx 200 (z := (2 : Int32)) (by decide) (hb hby d20_199) rfl ?_
                      refine own_baload X0 hx hZ e0 201 2 A_a rfl (by decide) (hb hby d20_200) rfl ?_
                      refine own_sipush X0 hx 204 (192 : Int32) (by decide) (hb hby d20_201) rfl ?_
                      refine own_iand X0 hx 205 (hb hby d20_204) rfl ?_
                      refine own_sipush X0 hx 208 (128 : Int32) (by decide) (hb hby d20_205) rfl ?_
                      refine own_icmp_eq X0 hx 213 211 (hb hby d20_208) (by decide) (by decide) rfl (fun h17 => ?_) (fun h17 => ?_)
                      · show own_W p e below _ T0 (mkF m 213 #[.val (.ref a), .val (.int (0 : Int32)), .val (.int p2), .val (.int ld), .val (.int (4 : Int32)), .val (.int lo), .val (.int hi), .val (.int sc), .val (.int (2 : Int32))] [])
                        refine own_iinc X0 hx (3 : Int32) 216 #[.val (.ref a), .val (.int (0 : Int32)), .val (.int p2), .val (.int ld), .val (.int (4 : Int32)), .val (.int lo), .val (.int hi), .val (.int sc), .val (.int (3 : Int32))] (by decide) (hb hby d20_213) rfl rfl rfl ?_
                        refine own_goto X0 hx 188 (hb hby d20_216) (by decide) (by decide) ?_
                        refine own_iload X0 hx 190 (hb hby d20_188) rfl rfl ?_
                        refine own_iload X0 hx 192 (hb hby d20_190) rfl rfl ?_
                        refine own_icmp_ge X0 hx 219 195 (hb hby d20_192) (by decide) (by decide) rfl (fun h18 => ?_) (fun h18 => ?_)
                        · exact absurd h18 (by decide)
                        · show own_W p e below _ T0 (mkF m 195 #[.val (.ref a), .val (.int (0 : Int32)), .val (.int p2), .val (.int ld), .val (.int (4 : Int32)), .val (.int lo), .val (.int hi), .val (.int sc), .val (.int (3 : Int32))] [])
                          refine own_aloadN X0 hx 196 (hb hby d20_195) rfl rfl ?_
                          refine own_iloadN X0 hx 197 (hb hby d20_196) rfl rfl ?_
                          refine own_iload X0 hx 199 (hb hby d20_197) rfl rfl ?_
                          refine own_iaddz X0 hx 200 (z := (3 : Int32)) (by decide) (hb hby d20_199) rfl ?_
                          refine own_baload X0 hx hZ e0 201 3 A_a rfl (by decide) (hb hby d20_200) rfl ?_
                          refine own_sipush X0 hx 204 (192 : Int32) (by decide) (hb hby d20_201) rfl ?_
                          refine own_iand X0 hx 205 (hb hby d20_204) rfl ?_
                          refine own_sipush X0 hx 208 (128 : Int32) (by decide) (hb hby d20_205) rfl ?_
                          refine own_icmp_eq X0 hx 213 211 (hb hby d20_208) (by decide) (by decide) rfl (fun h19 => ?_) (fun h19 => ?_)
                          · show own_W p e below _ T0 (mkF m 213 #[.val (.ref a), .val (.int (0 : Int32)), .val (.int p2), .val (.int ld), .val (.int (4 : Int32)), .val (.int lo), .val (.int hi), .val (.int sc), .val (.int (3 : Int32))] [])
                            refine own_iinc X0 hx (4 : Int32) 216 #[.val (.ref a), .val (.int (0 : Int32)), .val (.int p2), .val (.int ld), .val (.int (4 : Int32)), .val (.int lo), .val (.int hi), .val (.int sc), .val (.int (4 : Int32))] (by decide) (hb hby d20_213) rfl rfl rfl ?_
                            refine own_goto X0 hx 188 (hb hby d20_216) (by decide) (by decide) ?_
                            refine own_iload X0 hx 190 (hb hby d20_188) rfl rfl ?_
                            refine own_iload X0 hx 192 (hb hby d20_190) rfl rfl ?_
                            refine own_icmp_ge X0 hx 219 195 (hb hby d20_192) (by decide) (by decide) rfl (fun h20 => ?_) (fun h20 => ?_)
                            · show own_W p e below _ T0 (mkF m 219 #[.val (.ref a), .val (.int (0 : Int32)), .val (.int p2), .val (.int ld), .val (.int (4 : Int32)), .val (.int lo), .val (.int hi), .val (.int sc), .val (.int (4 : Int32))] [])
                              refine own_iload X0 hx 221 (hb hby d20_219) rfl rfl ?_
                              try (simp only [Int32.lt_iff_toInt_lt, ← Int32.toInt_inj, own_192, own_k0, own_k1, own_k2, own_k3, own_k4, own_k128, own_k143, own_k144, own_k159, own_k160, own_k191, own_k192, own_k194, own_k223, own_k224, own_k237, own_k239, own_k240, own_k244, own_k248, own_k2048, own_k55296, own_k57343, own_k65536, own_k1114111] at h7 h8 h13 h14 h15 h17 h19)
                              exact own_retI X0 hx hret hlk (hb hby d20_221) (by decide) (by decide) ⟨_, rfl, by unfold own_sp; simp only [Int32.lt_iff_toInt_lt, ← Int32.toInt_inj, own_192, own_k0, own_k1, own_k2, own_k3, own_k4, own_k128, own_k143, own_k144, own_k159, own_k160, own_k191, own_k192, own_k194, own_k223, own_k224, own_k237, own_k239, own_k240, own_k244, own_k248, own_k2048, own_k55296, own_k57343, own_k65536, own_k1114111]; (repeat' split) <;> omega, N0, e0⟩
                            · exact absurd h20 (by decide)
                          · show own_W p e below _ T0 (mkF m 211 #[.val (.ref a), .val (.int (0 : Int32)), .val (.int p2), .val (.int ld), .val (.int (4 : Int32)), .val (.int lo), .val (.int hi), .val (.int sc), .val (.int (3 : Int32))] [])
                            refine own_iconst X0 hx 212 (0 : Int32) (by decide) (hb hby d20_211) rfl ?_
                            try (simp only [Int32.lt_iff_toInt_lt, ← Int32.toInt_inj, own_192, own_k0, own_k1, own_k2, own_k3, own_k4, own_k128, own_k143, own_k144, own_k159, own_k160, own_k191, own_k192, own_k194, own_k223, own_k224, own_k237, own_k239, own_k240, own_k244, own_k248, own_k2048, own_k55296, own_k57343, own_k65536, own_k1114111] at h7 h8 h13 h14 h15 h17 h19)
                            exact own_retI X0 hx hret hlk (hb hby d20_212) (by decide) (by decide) ⟨_, rfl, by unfold own_sp; simp only [Int32.lt_iff_toInt_lt, ← Int32.toInt_inj, own_192, own_k0, own_k1, own_k2, own_k3, own_k4, own_k128, own_k143, own_k144, own_k159, own_k160, own_k191, own_k192, own_k194, own_k223, own_k224, own_k237, own_k239, own_k240, own_k244, own_k248, own_k2048, own_k55296, own_k57343, own_k65536, own_k1114111]; (repeat' split) <;> omega, N0, e0⟩
                      · show own_W p e below _ T0 (mkF m 211 #[.val (.ref a), .val (.int (0 : Int32)), .val (.int p2), .val (.int ld), .val (.int (4 : Int32)), .val (.int lo), .val (.int hi), .val (.int sc), .val (.int (2 : Int32))] [])
                        refine own_iconst X0 hx 212 (0 : Int32) (by decide) (hb hby d20_211) rfl ?_
                        try (simp only [Int32.lt_iff_toInt_lt, ← Int32.toInt_inj, own_192, own_k0, own_k1, own_k2, own_k3, own_k4, own_k128, own_k143, own_k144, own_k159, own_k160, own_k191, own_k192, own_k194, own_k223, own_k224, own_k237, own_k239, own_k240, own_k244, own_k248, own_k2048, own_k55296, own_k57343, own_k65536, own_k1114111] at h7 h8 h13 h14 h15 h17)
                        exact own_retI X0 hx hret hlk (hb hby d20_212) (by decide) (by decide) ⟨_, rfl, by unfold own_sp; simp only [Int32.lt_iff_toInt_lt, ← Int32.toInt_inj, own_192, own_k0, own_k1, own_k2, own_k3, own_k4, own_k128, own_k143, own_k144, own_k159, own_k160, own_k191, own_k192, own_k194, own_k223, own_k224, own_k237, own_k239, own_k240, own_k244, own_k248, own_k2048, own_k55296, own_k57343, own_k65536, own_k1114111]; (repeat' split) <;> omega, N0, e0⟩
                  · show own_W p e below _ T0 (mkF m 183 #[.val (.ref a), .val (.int (0 : Int32)), .val (.int p2), .val (.int ld), .val (.int (4 : Int32)), .val (.int lo), .val (.int hi), .val (.int sc), .unset] [])
                    refine own_iconst X0 hx 184 (0 : Int32) (by decide) (hb hby d20_183) rfl ?_
                    try (simp only [Int32.lt_iff_toInt_lt, ← Int32.toInt_inj, own_192, own_k0, own_k1, own_k2, own_k3, own_k4, own_k128, own_k143, own_k144, own_k159, own_k160, own_k191, own_k192, own_k194, own_k223, own_k224, own_k237, own_k239, own_k240, own_k244, own_k248, own_k2048, own_k55296, own_k57343, own_k65536, own_k1114111] at h7 h8 h13 h14 h15)
                    exact own_retI X0 hx hret hlk (hb hby d20_184) (by decide) (by decide) ⟨_, rfl, by unfold own_sp; simp only [Int32.lt_iff_toInt_lt, ← Int32.toInt_inj, own_192, own_k0, own_k1, own_k2, own_k3, own_k4, own_k128, own_k143, own_k144, own_k159, own_k160, own_k191, own_k192, own_k194, own_k223, own_k224, own_k237, own_k239, own_k240, own_k244, own_k248, own_k2048, own_k55296, own_k57343, own_k65536, own_k1114111]; (repeat' split) <;> omega, N0, e0⟩
              · show own_W p e below _ T0 (mkF m 156 #[.val (.ref a), .val (.int (0 : Int32)), .val (.int p2), .val (.int ld), .val (.int (4 : Int32)), .val (.int lo), .val (.int hi), .unset, .unset] [])
                refine own_iconst X0 hx 157 (0 : Int32) (by decide) (hb hby d20_156) rfl ?_
                try (simp only [Int32.lt_iff_toInt_lt, ← Int32.toInt_inj, own_192, own_k0, own_k1, own_k2, own_k3, own_k4, own_k128, own_k143, own_k144, own_k159, own_k160, own_k191, own_k192, own_k194, own_k223, own_k224, own_k237, own_k239, own_k240, own_k244, own_k248, own_k2048, own_k55296, own_k57343, own_k65536, own_k1114111] at h7 h8 h13)
                exact own_retI X0 hx hret hlk (hb hby d20_157) (by decide) (by decide) ⟨_, rfl, by unfold own_sp; simp only [Int32.lt_iff_toInt_lt, ← Int32.toInt_inj, own_192, own_k0, own_k1, own_k2, own_k3, own_k4, own_k128, own_k143, own_k144, own_k159, own_k160, own_k191, own_k192, own_k194, own_k223, own_k224, own_k237, own_k239, own_k240, own_k244, own_k248, own_k2048, own_k55296, own_k57343, own_k65536, own_k1114111]; (repeat' split) <;> omega, N0, e0⟩
            refine own_icmp_ne X0 hx 139 133 (hb hby d20_130) (by decide) (by decide) rfl (fun h21 => ?_) (fun h21 => ?_)
            · show own_W p e below _ T0 (mkF m 139 #[.val (.ref a), .val (.int (0 : Int32)), .val (.int p2), .val (.int ld), .val (.int (4 : Int32)), .val (.int lo), .val (.int (191 : Int32)), .unset, .unset] [])
              refine own_iload X0 hx 141 (hb hby d20_139) rfl rfl ?_
              exact J11 (191 : Int32) (by simp only [Int32.lt_iff_toInt_lt, ← Int32.toInt_inj, own_192, own_k0, own_k1, own_k2, own_k3, own_k4, own_k128, own_k143, own_k144, own_k159, own_k160, own_k191, own_k192, own_k194, own_k223, own_k224, own_k237, own_k239, own_k240, own_k244, own_k248, own_k2048, own_k55296, own_k57343, own_k65536, own_k1114111] at h21; rw [if_neg h21]; rfl)
            · show own_W p e below _ T0 (mkF m 133 #[.val (.ref a), .val (.int (0 : Int32)), .val (.int p2), .val (.int ld), .val (.int (4 : Int32)), .val (.int lo), .val (.int (191 : Int32)), .unset, .unset] [])
              refine own_sipush X0 hx 136 (143 : Int32) (by decide) (hb hby d20_133) rfl ?_
              refine own_goto X0 hx 141 (hb hby d20_136) (by decide) (by decide) ?_
              exact J11 (143 : Int32) (by simp only [Int32.lt_iff_toInt_lt, ← Int32.toInt_inj, own_192, own_k0, own_k1, own_k2, own_k3, own_k4, own_k128, own_k143, own_k144, own_k159, own_k160, own_k191, own_k192, own_k194, own_k223, own_k224, own_k237, own_k239, own_k240, own_k244, own_k248, own_k2048, own_k55296, own_k57343, own_k65536, own_k1114111] at h21; rw [if_pos h21]; rfl)
          refine own_icmp_ne X0 hx 122 116 (hb hby d20_113) (by decide) (by decide) rfl (fun h22 => ?_) (fun h22 => ?_)
          · show own_W p e below _ T0 (mkF m 122 #[.val (.ref a), .val (.int (0 : Int32)), .val (.int p2), .val (.int ld), .val (.int (4 : Int32)), .val (.int (128 : Int32)), .val (.int (191 : Int32)), .unset, .unset] [])
            refine own_iload X0 hx 124 (hb hby d20_122) rfl rfl ?_
            exact J9 (128 : Int32) (by simp only [Int32.lt_iff_toInt_lt, ← Int32.toInt_inj, own_192, own_k0, own_k1, own_k2, own_k3, own_k4, own_k128, own_k143, own_k144, own_k159, own_k160, own_k191, own_k192, own_k194, own_k223, own_k224, own_k237, own_k239, own_k240, own_k244, own_k248, own_k2048, own_k55296, own_k57343, own_k65536, own_k1114111] at h22; rw [if_neg h22]; rfl)
          · show own_W p e below _ T0 (mkF m 116 #[.val (.ref a), .val (.int (0 : Int32)), .val (.int p2), .val (.int ld), .val (.int (4 : Int32)), .val (.int (128 : Int32)), .val (.int (191 : Int32)), .unset, .unset] [])
            refine own_sipush X0 hx 119 (144 : Int32) (by decide) (hb hby d20_116) rfl ?_
            refine own_goto X0 hx 124 (hb hby d20_119) (by decide) (by decide) ?_
            exact J9 (144 : Int32) (by simp only [Int32.lt_iff_toInt_lt, ← Int32.toInt_inj, own_192, own_k0, own_k1, own_k2, own_k3, own_k4, own_k128, own_k143, own_k144, own_k159, own_k160, own_k191, own_k192, own_k194, own_k223, own_k224, own_k237, own_k239, own_k240, own_k244, own_k248, own_k2048, own_k55296, own_k57343, own_k65536, own_k1114111] at h22; rw [if_pos h22]; rfl)
    refine own_icmp_lt X0 hx 92 45 (hb hby d20_42) (by decide) (by decide) rfl (fun h23 => ?_) (fun h23 => ?_)
    · show own_W p e below _ T0 (mkF m 92 #[.val (.ref a), .val (.int (0 : Int32)), .val (.int p2), .val (.int ld), .unset, .val (.int (128 : Int32)), .val (.int (191 : Int32)), .unset, .unset] [])
      exact J3  (by simp only [Int32.lt_iff_toInt_lt, ← Int32.toInt_inj, own_192, own_k0, own_k1, own_k2, own_k3, own_k4, own_k128, own_k143, own_k144, own_k159, own_k160, own_k191, own_k192, own_k194, own_k223, own_k224, own_k237, own_k239, own_k240, own_k244, own_k248, own_k2048, own_k55296, own_k57343, own_k65536, own_k1114111] at h23; omega)
    · show own_W p e below _ T0 (mkF m 45 #[.val (.ref a), .val (.int (0 : Int32)), .val (.int p2), .val (.int ld), .unset, .val (.int (128 : Int32)), .val (.int (191 : Int32)), .unset, .unset] [])
      refine own_iloadN X0 hx 46 (hb hby d20_45) rfl rfl ?_
      refine own_sipush X0 hx 49 (239 : Int32) (by decide) (hb hby d20_46) rfl ?_
      refine own_icmp_gt X0 hx 92 52 (hb hby d20_49) (by decide) (by decide) rfl (fun h24 => ?_) (fun h24 => ?_)
      · show own_W p e below _ T0 (mkF m 92 #[.val (.ref a), .val (.int (0 : Int32)), .val (.int p2), .val (.int ld), .unset, .val (.int (128 : Int32)), .val (.int (191 : Int32)), .unset, .unset] [])
        exact J3  (by simp only [Int32.lt_iff_toInt_lt, ← Int32.toInt_inj, own_192, own_k0, own_k1, own_k2, own_k3, own_k4, own_k128, own_k143, own_k144, own_k159, own_k160, own_k191, own_k192, own_k194, own_k223, own_k224, own_k237, own_k239, own_k240, own_k244, own_k248, own_k2048, own_k55296, own_k57343, own_k65536, own_k1114111] at h23 h24; omega)
      · show own_W p e below _ T0 (mkF m 52 #[.val (.ref a), .val (.int (0 : Int32)), .val (.int p2), .val (.int ld), .unset, .val (.int (128 : Int32)), .val (.int (191 : Int32)), .unset, .unset] [])
        refine own_iconst X0 hx 53 (3 : Int32) (by decide) (hb hby d20_52) rfl ?_
        refine own_istore X0 hx 55 #[.val (.ref a), .val (.int (0 : Int32)), .val (.int p2), .val (.int ld), .val (.int (3 : Int32)), .val (.int (128 : Int32)), .val (.int (191 : Int32)), .unset, .unset] rfl (hb hby d20_53) rfl rfl ?_
        refine own_iloadN X0 hx 56 (hb hby d20_55) rfl rfl ?_
        refine own_sipush X0 hx 59 (224 : Int32) (by decide) (hb hby d20_56) rfl ?_
        have J25 : ∀ (lo : Int32) (hj26 : lo.toInt = if ld.toInt = 224 then 160 else 128), own_W p e below (own_K s ({ frames := 0, cells := 0, slots := 0, locals := 0 } : Room) (fun v h L => ∃ r : Int32, v = some (.int r) ∧ r.toInt = own_sp ((f 0).toInt % 256) ((f 1).toInt % 256) ((f 2).toInt % 256) ((f 3).toInt % 256) (p2.toInt - 0) ∧ Fr n0 L ∧ h = h0)) T0 (mkF m 70 #[.val (.ref a), .val (.int (0 : Int32)), .val (.int p2), .val (.int ld), .val (.int (3 : Int32)), .val (.int (128 : Int32)), .val (.int (191 : Int32)), .unset, .unset] [(.int lo)]) := by
          intro lo hj26
          refine own_istore X0 hx 72 #[.val (.ref a), .val (.int (0 : Int32)), .val (.int p2), .val (.int ld), .val (.int (3 : Int32)), .val (.int lo), .val (.int (191 : Int32)), .unset, .unset] rfl (hb hby d20_70) rfl rfl ?_
          refine own_iloadN X0 hx 73 (hb hby d20_72) rfl rfl ?_
          refine own_sipush X0 hx 76 (237 : Int32) (by decide) (hb hby d20_73) rfl ?_
          have J27 : ∀ (hi : Int32) (hj28 : hi.toInt = if ld.toInt = 237 then 159 else 191), own_W p e below (own_K s ({ frames := 0, cells := 0, slots := 0, locals := 0 } : Room) (fun v h L => ∃ r : Int32, v = some (.int r) ∧ r.toInt = own_sp ((f 0).toInt % 256) ((f 1).toInt % 256) ((f 2).toInt % 256) ((f 3).toInt % 256) (p2.toInt - 0) ∧ Fr n0 L ∧ h = h0)) T0 (mkF m 87 #[.val (.ref a), .val (.int (0 : Int32)), .val (.int p2), .val (.int ld), .val (.int (3 : Int32)), .val (.int lo), .val (.int (191 : Int32)), .unset, .unset] [(.int hi)]) := by
            intro hi hj28
            refine own_istore X0 hx 89 #[.val (.ref a), .val (.int (0 : Int32)), .val (.int p2), .val (.int ld), .val (.int (3 : Int32)), .val (.int lo), .val (.int hi), .unset, .unset] rfl (hb hby d20_87) rfl rfl ?_
            refine own_goto X0 hx 148 (hb hby d20_89) (by decide) (by decide) ?_
            have hro : (p2 - (0 : Int32)).toInt = p2.toInt - 0 := own_sub p2 (0 : Int32) 0 rfl (by decide) hp2
            refine own_iloadN X0 hx 149 (hb hby d20_148) rfl rfl ?_
            refine own_iloadN X0 hx 150 (hb hby d20_149) rfl rfl ?_
            refine own_isub X0 hx 151 (hb hby d20_150) rfl ?_
            refine own_iload X0 hx 153 (hb hby d20_151) rfl rfl ?_
            refine own_icmp_ge X0 hx 158 156 (hb hby d20_153) (by decide) (by decide) rfl (fun h29 => ?_) (fun h29 => ?_)
            · show own_W p e below _ T0 (mkF m 158 #[.val (.ref a), .val (.int (0 : Int32)), .val (.int p2), .val (.int ld), .val (.int (3 : Int32)), .val (.int lo), .val (.int hi), .unset, .unset] [])
              refine own_aloadN X0 hx 159 (hb hby d20_158) rfl rfl ?_
              refine own_iloadN X0 hx 160 (hb hby d20_159) rfl rfl ?_
              refine own_iconst X0 hx 161 (1 : Int32) (by decide) (hb hby d20_160) rfl ?_
              refine own_iaddz X0 hx 162 (z := (1 : Int32)) (by decide) (hb hby d20_161) rfl ?_
              refine own_baload X0 hx hZ e0 163 1 A_a rfl (by decide) (hb hby d20_162) rfl ?_
              refine own_sipush X0 hx 166 (255 : Int32) (by decide) (hb hby d20_163) rfl ?_
              refine own_iand X0 hx 167 (hb hby d20_166) rfl ?_
              obtain ⟨sc, e_sc⟩ : ∃ z : Int32, z = ((f 1) &&& (255 : Int32)) := ⟨_, rfl⟩
              refine own_istore X0 hx 169 #[.val (.ref a), .val (.int (0 : Int32)), .val (.int p2), .val (.int ld), .val (.int (3 : Int32)), .val (.int lo), .val (.int hi), .val (.int sc), .unset] e_sc (hb hby d20_167) rfl rfl ?_
              have hsc := own_m8 sc _ e_sc
              refine own_iload X0 hx 171 (hb hby d20_169) rfl rfl ?_
              refine own_iload X0 hx 173 (hb hby d20_171) rfl rfl ?_
              refine own_icmp_lt X0 hx 183 176 (hb hby d20_173) (by decide) (by decide) rfl (fun h30 => ?_) (fun h30 => ?_)
              · show own_W p e below _ T0 (mkF m 183 #[.val (.ref a), .val (.int (0 : Int32)), .val (.int p2), .val (.int ld), .val (.int (3 : Int32)), .val (.int lo), .val (.int hi), .val (.int sc), .unset] [])
                refine own_iconst X0 hx 184 (0 : Int32) (by decide) (hb hby d20_183) rfl ?_
                try (simp only [Int32.lt_iff_toInt_lt, ← Int32.toInt_inj, own_192, own_k0, own_k1, own_k2, own_k3, own_k4, own_k128, own_k143, own_k144, own_k159, own_k160, own_k191, own_k192, own_k194, own_k223, own_k224, own_k237, own_k239, own_k240, own_k244, own_k248, own_k2048, own_k55296, own_k57343, own_k65536, own_k1114111] at h23 h24 h29 h30)
                exact own_retI X0 hx hret hlk (hb hby d20_184) (by decide) (by decide) ⟨_, rfl, by unfold own_sp; simp only [Int32.lt_iff_toInt_lt, ← Int32.toInt_inj, own_192, own_k0, own_k1, own_k2, own_k3, own_k4, own_k128, own_k143, own_k144, own_k159, own_k160, own_k191, own_k192, own_k194, own_k223, own_k224, own_k237, own_k239, own_k240, own_k244, own_k248, own_k2048, own_k55296, own_k57343, own_k65536, own_k1114111]; (repeat' split) <;> omega, N0, e0⟩
              · show own_W p e below _ T0 (mkF m 176 #[.val (.ref a), .val (.int (0 : Int32)), .val (.int p2), .val (.int ld), .val (.int (3 : Int32)), .val (.int lo), .val (.int hi), .val (.int sc), .unset] [])
                refine own_iload X0 hx 178 (hb hby d20_176) rfl rfl ?_
                refine own_iload X0 hx 180 (hb hby d20_178) rfl rfl ?_
                refine own_icmp_le X0 hx 185 183 (hb hby d20_180) (by decide) (by decide) rfl (fun h31 => ?_) (fun h31 => ?_)
                · show own_W p e below _ T0 (mkF m 185 #[.val (.ref a), .val (.int (0 : Int32)), .val (.int p2), .val (.int ld), .val (.int (3 : Int32)), .val (.int lo), .val (.int hi), .val (.int sc), .unset] [])
                  refine own_iconst X0 hx 186 (2 : Int32) (by decide) (hb hby d20_185) rfl ?_
                  refine own_istore X0 hx 188 #[.val (.ref a), .val (.int (0 : Int32)), .val (.int p2), .val (.int ld), .val (.int (3 : Int32)), .val (.int lo), .val (.int hi), .val (.int sc), .val (.int (2 : Int32))] rfl (hb hby d20_186) rfl rfl ?_
                  refine own_iload X0 hx 190 (hb hby d20_188) rfl rfl ?_
                  refine own_iload X0 hx 192 (hb hby d20_190) rfl rfl ?_
                  refine own_icmp_ge X0 hx 219 195 (hb hby d20_192) (by decide) (by decide) rfl (fun h32 => ?_) (fun h32 => ?_)
                  · exact absurd h32 (by decide)
                  · show own_W p e below _ T0 (mkF m 195 #[.val (.ref a), .val (.int (0 : Int32)), .val (.int p2), .val (.int ld), .val (.int (3 : Int32)), .val (.int lo), .val (.int hi), .val (.int sc), .val (.int (2 : Int32))] [])
                    refine own_aloadN X0 hx 196 (hb hby d20_195) rfl rfl ?_
                    refine own_iloadN X0 hx 197 (hb hby d20_196) rfl rfl ?_
                    refine own_iload X0 hx 199 (hb hby d20_197) rfl rfl ?_
                    refine own_iaddz X0 hx 200 (z := (2 : Int32)) (by decide) (hb hby d20_199) rfl ?_
                    refine own_baload X0 hx hZ e0 201 2 A_a rfl (by decide) (hb hby d20_200) rfl ?_
                    refine own_sipush X0 hx 204 (192 : Int32) (by decide) (hb hby d20_201) rfl ?_
                    refine own_iand X0 hx 205 (hb hby d20_204) rfl ?_
                    refine own_sipush X0 hx 208 (128 : Int32) (by decide) (hb hby d20_205) rfl ?_
                    refine own_icmp_eq X0 hx 213 211 (hb hby d20_208) (by decide) (by decide) rfl (fun h33 => ?_) (fun h33 => ?_)
                    · show own_W p e below _ T0 (mkF m 213 #[.val (.ref a), .val (.int (0 : Int32)), .val (.int p2), .val (.int ld), .val (.int (3 : Int32)), .val (.int lo), .val (.int hi), .val (.int sc), .val (.int (2 : Int32))] [])
                      refine own_iinc X0 hx (3 : Int32) 216 #[.val (.ref a), .val (.int (0 : Int32)), .val (.int p2), .val (.int ld), .val (.int (3 : Int32)), .val (.int lo), .val (.int hi), .val (.int sc), .val (.int (3 : Int32))] (by decide) (hb hby d20_213) rfl rfl rfl ?_
                      refine own_goto X0 hx 188 (hb hby d20_216) (by decide) (by decide) ?_
                      refine own_iload X0 hx 190 (hb hby d20_188) rfl rfl ?_
                      refine own_iload X0 hx 192 (hb hby d20_190) rfl rfl ?_
                      refine own_icmp_ge X0 hx 219 195 (hb hby d20_192) (by decide) (by decide) rfl (fun h34 => ?_) (fun h34 => ?_)
                      · show own_W p e below _ T0 (mkF m 219 #[.val (.ref a), .val (.int (0 : Int32)), .val (.int p2), .val (.int ld), .val (.int (3 : Int32)), .val (.int lo), .val (.int hi), .val (.int sc), .val (.int (3 : Int32))] [])
                        refine own_iload X0 hx 221 (hb hby d20_219) rfl rfl ?_
                        try (simp only [Int32.lt_iff_toInt_lt, ← Int32.toInt_inj, own_192, own_k0, own_k1, own_k2, own_k3, own_k4, own_k128, own_k143, own_k144, own_k159, own_k160, own_k191, own_k192, own_k194, own_k223, own_k224, own_k237, own_k239, own_k240, own_k244, own_k248, own_k2048, own_k55296, own_k57343, own_k65536, own_k1114111] at h23 h24 h29 h30 h31 h33)
                        exact own_retI X0 hx hret hlk (hb hby d20_221) (by decide) (by decide) ⟨_, rfl, by unfold own_sp; simp only [Int32.lt_iff_toInt_lt, ← Int32.toInt_inj, own_192, own_k0, own_k1, own_k2, own_k3, own_k4, own_k128, own_k143, own_k144, own_k159, own_k160, own_k191, own_k192, own_k194, own_k223, own_k224, own_k237, own_k239, own_k240, own_k244, own_k248, own_k2048, own_k55296, own_k57343, own_k65536, own_k1114111]; (repeat' split) <;> omega, N0, e0⟩
                      · exact absurd h34 (by decide)
                    · show own_W p e below _ T0 (mkF m 211 #[.val (.ref a), .val (.int (0 : Int32)), .val (.int p2), .val (.int ld), .val (.int (3 : Int32)), .val (.int lo), .val (.int hi), .val (.int sc), .val (.int (2 : Int32))] [])
                      refine own_iconst X0 hx 212 (0 : Int32) (by decide) (hb hby d20_211) rfl ?_
                      try (simp only [Int32.lt_iff_toInt_lt, ← Int32.toInt_inj, own_192, own_k0, own_k1, own_k2, own_k3, own_k4, own_k128, own_k143, own_k144, own_k159, own_k160, own_k191, own_k192, own_k194, own_k223, own_k224, own_k237, own_k239, own_k240, own_k244, own_k248, own_k2048, own_k55296, own_k57343, own_k65536, own_k1114111] at h23 h24 h29 h30 h31 h33)
                      exact own_retI X0 hx hret hlk (hb hby d20_212) (by decide) (by decide) ⟨_, rfl, by unfold own_sp; simp only [Int32.lt_iff_toInt_lt, ← Int32.toInt_inj, own_192, own_k0, own_k1, own_k2, own_k3, own_k4, own_k128, own_k143, own_k144, own_k159, own_k160, own_k191, own_k192, own_k194, own_k223, own_k224, own_k237, own_k239, own_k240, own_k244, own_k248, own_k2048, own_k55296, own_k57343, own_k65536, own_k1114111]; (repeat' split) <;> omega, N0, e0⟩
                · show own_W p e below _ T0 (mkF m 183 #[.val (.ref a), .val (.int (0 : Int32)), .val (.int p2), .val (.int ld), .val (.int (3 : Int32)), .val (.int lo), .val (.int hi), .val (.int sc), .unset] [])
                  refine own_iconst X0 hx 184 (0 : Int32) (by decide) (hb hby d20_183) rfl ?_
                  try (simp only [Int32.lt_iff_toInt_lt, ← Int32.toInt_inj, own_192, own_k0, own_k1, own_k2, own_k3, own_k4, own_k128, own_k143, own_k144, own_k159, own_k160, own_k191, own_k192, own_k194, own_k223, own_k224, own_k237, own_k239, own_k240, own_k244, own_k248, own_k2048, own_k55296, own_k57343, own_k65536, own_k1114111] at h23 h24 h29 h30 h31)
                  exact own_retI X0 hx hret hlk (hb hby d20_184) (by decide) (by decide) ⟨_, rfl, by unfold own_sp; simp only [Int32.lt_iff_toInt_lt, ← Int32.toInt_inj, own_192, own_k0, own_k1, own_k2, own_k3, own_k4, own_k128, own_k143, own_k144, own_k159, own_k160, own_k191, own_k192, own_k194, own_k223, own_k224, own_k237, own_k239, own_k240, own_k244, own_k248, own_k2048, own_k55296, own_k57343, own_k65536, own_k1114111]; (repeat' split) <;> omega, N0, e0⟩
            · show own_W p e below _ T0 (mkF m 156 #[.val (.ref a), .val (.int (0 : Int32)), .val (.int p2), .val (.int ld), .val (.int (3 : Int32)), .val (.int lo), .val (.int hi), .unset, .unset] [])
              refine own_iconst X0 hx 157 (0 : Int32) (by decide) (hb hby d20_156) rfl ?_
              try (simp only [Int32.lt_iff_toInt_lt, ← Int32.toInt_inj, own_192, own_k0, own_k1, own_k2, own_k3, own_k4, own_k128, own_k143, own_k144, own_k159, own_k160, own_k191, own_k192, own_k194, own_k223, own_k224, own_k237, own_k239, own_k240, own_k244, own_k248, own_k2048, own_k55296, own_k57343, own_k65536, own_k1114111] at h23 h24 h29)
              exact own_retI X0 hx hret hlk (hb hby d20_157) (by decide) (by decide) ⟨_, rfl, by unfold own_sp; simp only [Int32.lt_iff_toInt_lt, ← Int32.toInt_inj, own_192, own_k0, own_k1, own_k2, own_k3, own_k4, own_k128, own_k143, own_k144, own_k159, own_k160, own_k191, own_k192, own_k194, own_k223, own_k224, own_k237, own_k239, own_k240, own_k244, own_k248, own_k2048, own_k55296, own_k57343, own_k65536, own_k1114111]; (repeat' split) <;> omega, N0, e0⟩
          refine own_icmp_ne X0 hx 85 79 (hb hby d20_76) (by decide) (by decide) rfl (fun h35 => ?_) (fun h35 => ?_)
          · show own_W p e below _ T0 (mkF m 85 #[.val (.ref a), .val (.int (0 : Int32)), .val (.int p2), .val (.int ld), .val (.int (3 : Int32)), .val (.int lo), .val (.int (191 : Int32)), .unset, .unset] [])
            refine own_iload X0 hx 87 (hb hby d20_85) rfl rfl ?_
            exact J27 (191 : Int32) (by simp only [Int32.lt_iff_toInt_lt, ← Int32.toInt_inj, own_192, own_k0, own_k1, own_k2, own_k3, own_k4, own_k128, own_k143, own_k144, own_k159, own_k160, own_k191, own_k192, own_k194, own_k223, own_k224, own_k237, own_k239, own_k240, own_k244, own_k248, own_k2048, own_k55296, own_k57343, own_k65536, own_k1114111] at h35; rw [if_neg h35]; rfl)
          · show own_W p e below _ T0 (mkF m 79 #[.val (.ref a), .val (.int (0 : Int32)), .val (.int p2), .val (.int ld), .val (.int (3 : Int32)), .val (.int lo), .val (.int (191 : Int32)), .unset, .unset] [])
            refine own_sipush X0 hx 82 (159 : Int32) (by decide) (hb hby d20_79) rfl ?_
            refine own_goto X0 hx 87 (hb hby d20_82) (by decide) (by decide) ?_
            exact J27 (159 : Int32) (by simp only [Int32.lt_iff_toInt_lt, ← Int32.toInt_inj, own_192, own_k0, own_k1, own_k2, own_k3, own_k4, own_k128, own_k143, own_k144, own_k159, own_k160, own_k191, own_k192, own_k194, own_k223, own_k224, own_k237, own_k239, own_k240, own_k244, own_k248, own_k2048, own_k55296, own_k57343, own_k65536, own_k1114111] at h35; rw [if_pos h35]; rfl)
        refine own_icmp_ne X0 hx 68 62 (hb hby d20_59) (by decide) (by decide) rfl (fun h36 => ?_) (fun h36 => ?_)
        · show own_W p e below _ T0 (mkF m 68 #[.val (.ref a), .val (.int (0 : Int32)), .val (.int p2), .val (.int ld), .val (.int (3 : Int32)), .val (.int (128 : Int32)), .val (.int (191 : Int32)), .unset, .unset] [])
          refine own_iload X0 hx 70 (hb hby d20_68) rfl rfl ?_
          exact J25 (128 : Int32) (by simp only [Int32.lt_iff_toInt_lt, ← Int32.toInt_inj, own_192, own_k0, own_k1, own_k2, own_k3, own_k4, own_k128, own_k143, own_k144, own_k159, own_k160, own_k191, own_k192, own_k194, own_k223, own_k224, own_k237, own_k239, own_k240, own_k244, own_k248, own_k2048, own_k55296, own_k57343, own_k65536, own_k1114111] at h36; rw [if_neg h36]; rfl)
        · show own_W p e below _ T0 (mkF m 62 #[.val (.ref a), .val (.int (0 : Int32)), .val (.int p2), .val (.int ld), .val (.int (3 : Int32)), .val (.int (128 : Int32)), .val (.int (191 : Int32)), .unset, .unset] [])
          refine own_sipush X0 hx 65 (160 : Int32) (by decide) (hb hby d20_62) rfl ?_
          refine own_goto X0 hx 70 (hb hby d20_65) (by decide) (by decide) ?_
          exact J25 (160 : Int32) (by simp only [Int32.lt_iff_toInt_lt, ← Int32.toInt_inj, own_192, own_k0, own_k1, own_k2, own_k3, own_k4, own_k128, own_k143, own_k144, own_k159, own_k160, own_k191, own_k192, own_k194, own_k223, own_k224, own_k237, own_k239, own_k240, own_k244, own_k248, own_k2048, own_k55296, own_k57343, own_k65536, own_k1114111] at h36; rw [if_pos h36]; rfl)
  refine own_icmp_lt X0 hx 38 25 (hb hby d20_22) (by decide) (by decide) rfl (fun h37 => ?_) (fun h37 => ?_)
  · show own_W p e below _ T0 (mkF m 38 #[.val (.ref a), .val (.int (0 : Int32)), .val (.int p2), .val (.int ld), .unset, .val (.int (128 : Int32)), .val (.int (191 : Int32)), .unset, .unset] [])
    exact J1  (by simp only [Int32.lt_iff_toInt_lt, ← Int32.toInt_inj, own_192, own_k0, own_k1, own_k2, own_k3, own_k4, own_k128, own_k143, own_k144, own_k159, own_k160, own_k191, own_k192, own_k194, own_k223, own_k224, own_k237, own_k239, own_k240, own_k244, own_k248, own_k2048, own_k55296, own_k57343, own_k65536, own_k1114111] at h37; omega)
  · show own_W p e below _ T0 (mkF m 25 #[.val (.ref a), .val (.int (0 : Int32)), .val (.int p2), .val (.int ld), .unset, .val (.int (128 : Int32)), .val (.int (191 : Int32)), .unset, .unset] [])
    refine own_iloadN X0 hx 26 (hb hby d20_25) rfl rfl ?_
    refine own_sipush X0 hx 29 (223 : Int32) (by decide) (hb hby d20_26) rfl ?_
    refine own_icmp_gt X0 hx 38 32 (hb hby d20_29) (by decide) (by decide) rfl (fun h38 => ?_) (fun h38 => ?_)
    · show own_W p e below _ T0 (mkF m 38 #[.val (.ref a), .val (.int (0 : Int32)), .val (.int p2), .val (.int ld), .unset, .val (.int (128 : Int32)), .val (.int (191 : Int32)), .unset, .unset] [])
      exact J1  (by simp only [Int32.lt_iff_toInt_lt, ← Int32.toInt_inj, own_192, own_k0, own_k1, own_k2, own_k3, own_k4, own_k128, own_k143, own_k144, own_k159, own_k160, own_k191, own_k192, own_k194, own_k223, own_k224, own_k237, own_k239, own_k240, own_k244, own_k248, own_k2048, own_k55296, own_k57343, own_k65536, own_k1114111] at h37 h38; omega)
    · show own_W p e below _ T0 (mkF m 32 #[.val (.ref a), .val (.int (0 : Int32)), .val (.int p2), .val (.int ld), .unset, .val (.int (128 : Int32)), .val (.int (191 : Int32)), .unset, .unset] [])
      refine own_iconst X0 hx 33 (2 : Int32) (by decide) (hb hby d20_32) rfl ?_
      refine own_istore X0 hx 35 #[.val (.ref a), .val (.int (0 : Int32)), .val (.int p2), .val (.int ld), .val (.int (2 : Int32)), .val (.int (128 : Int32)), .val (.int (191 : Int32)), .unset, .unset] rfl (hb hby d20_33) rfl rfl ?_
      refine own_goto X0 hx 148 (hb hby d20_35) (by decide) (by decide) ?_
      have hro : (p2 - (0 : Int32)).toInt = p2.toInt - 0 := own_sub p2 (0 : Int32) 0 rfl (by decide) hp2
      refine own_iloadN X0 hx 149 (hb hby d20_148) rfl rfl ?_
      refine own_iloadN X0 hx 150 (hb hby d20_149) rfl rfl ?_
      refine own_isub X0 hx 151 (hb hby d20_150) rfl ?_
      refine own_iload X0 hx 153 (hb hby d20_151) rfl rfl ?_
      refine own_icmp_ge X0 hx 158 156 (hb hby d20_153) (by decide) (by decide) rfl (fun h39 => ?_) (fun h39 => ?_)
      · show own_W p e below _ T0 (mkF m 158 #[.val (.ref a), .val (.int (0 : Int32)), .val (.int p2), .val (.int ld), .val (.int (2 : Int32)), .val (.int (128 : Int32)), .val (.int (191 : Int32)), .unset, .unset] [])
        refine own_aloadN X0 hx 159 (hb hby d20_158) rfl rfl ?_
        refine own_iloadN X0 hx 160 (hb hby d20_159) rfl rfl ?_
        refine own_iconst X0 hx 161 (1 : Int32) (by decide) (hb hby d20_160) rfl ?_
        refine own_iaddz X0 hx 162 (z := (1 : Int32)) (by decide) (hb hby d20_161) rfl ?_
        refine own_baload X0 hx hZ e0 163 1 A_a rfl (by decide) (hb hby d20_162) rfl ?_
        refine own_sipush X0 hx 166 (255 : Int32) (by decide) (hb hby d20_163) rfl ?_
        refine own_iand X0 hx 167 (hb hby d20_166) rfl ?_
        obtain ⟨sc, e_sc⟩ : ∃ z : Int32, z = ((f 1) &&& (255 : Int32)) := ⟨_, rfl⟩
        refine own_istore X0 hx 169 #[.val (.ref a), .val (.int (0 : Int32)), .val (.int p2), .val (.int ld), .val (.int (2 : Int32)), .val (.int (128 : Int32)), .val (.int (191 : Int32)), .val (.int sc), .unset] e_sc (hb hby d20_167) rfl rfl ?_
        have hsc := own_m8 sc _ e_sc
        refine own_iload X0 hx 171 (hb hby d20_169) rfl rfl ?_
        refine own_iload X0 hx 173 (hb hby d20_171) rfl rfl ?_
        refine own_icmp_lt X0 hx 183 176 (hb hby d20_173) (by decide) (by decide) rfl (fun h40 => ?_) (fun h40 => ?_)
        · show own_W p e below _ T0 (mkF m 183 #[.val (.ref a), .val (.int (0 : Int32)), .val (.int p2), .val (.int ld), .val (.int (2 : Int32)), .val (.int (128 : Int32)), .val (.int (191 : Int32)), .val (.int sc), .unset] [])
          refine own_iconst X0 hx 184 (0 : Int32) (by decide) (hb hby d20_183) rfl ?_
          try (simp only [Int32.lt_iff_toInt_lt, ← Int32.toInt_inj, own_192, own_k0, own_k1, own_k2, own_k3, own_k4, own_k128, own_k143, own_k144, own_k159, own_k160, own_k191, own_k192, own_k194, own_k223, own_k224, own_k237, own_k239, own_k240, own_k244, own_k248, own_k2048, own_k55296, own_k57343, own_k65536, own_k1114111] at h37 h38 h39 h40)
          exact own_retI X0 hx hret hlk (hb hby d20_184) (by decide) (by decide) ⟨_, rfl, by unfold own_sp; simp only [Int32.lt_iff_toInt_lt, ← Int32.toInt_inj, own_192, own_k0, own_k1, own_k2, own_k3, own_k4, own_k128, own_k143, own_k144, own_k159, own_k160, own_k191, own_k192, own_k194, own_k223, own_k224, own_k237, own_k239, own_k240, own_k244, own_k248, own_k2048, own_k55296, own_k57343, own_k65536, own_k1114111]; (repeat' split) <;> omega, N0, e0⟩
        · show own_W p e below _ T0 (mkF m 176 #[.val (.ref a), .val (.int (0 : Int32)), .val (.int p2), .val (.int ld), .val (.int (2 : Int32)), .val (.int (128 : Int32)), .val (.int (191 : Int32)), .val (.int sc), .unset] [])
          refine own_iload X0 hx 178 (hb hby d20_176) rfl rfl ?_
          refine own_iload X0 hx 180 (hb hby d20_178) rfl rfl ?_
          refine own_icmp_le X0 hx 185 183 (hb hby d20_180) (by decide) (by decide) rfl (fun h41 => ?_) (fun h41 => ?_)
          · show own_W p e below _ T0 (mkF m 185 #[.val (.ref a), .val (.int (0 : Int32)), .val (.int p2), .val (.int ld), .val (.int (2 : Int32)), .val (.int (128 : Int32)), .val (.int (191 : Int32)), .val (.int sc), .unset] [])
            refine own_iconst X0 hx 186 (2 : Int32) (by decide) (hb hby d20_185) rfl ?_
            refine own_istore X0 hx 188 #[.val (.ref a), .val (.int (0 : Int32)), .val (.int p2), .val (.int ld), .val (.int (2 : Int32)), .val (.int (128 : Int32)), .val (.int (191 : Int32)), .val (.int sc), .val (.int (2 : Int32))] rfl (hb hby d20_186) rfl rfl ?_
            refine own_iload X0 hx 190 (hb hby d20_188) rfl rfl ?_
            refine own_iload X0 hx 192 (hb hby d20_190) rfl rfl ?_
            refine own_icmp_ge X0 hx 219 195 (hb hby d20_192) (by decide) (by decide) rfl (fun h42 => ?_) (fun h42 => ?_)
            · show own_W p e below _ T0 (mkF m 219 #[.val (.ref a), .val (.int (0 : Int32)), .val (.int p2), .val (.int ld), .val (.int (2 : Int32)), .val (.int (128 : Int32)), .val (.int (191 : Int32)), .val (.int sc), .val (.int (2 : Int32))] [])
              refine own_iload X0 hx 221 (hb hby d20_219) rfl rfl ?_
              try (simp only [Int32.lt_iff_toInt_lt, ← Int32.toInt_inj, own_192, own_k0, own_k1, own_k2, own_k3, own_k4, own_k128, own_k143, own_k144, own_k159, own_k160, own_k191, own_k192, own_k194, own_k223, own_k224, own_k237, own_k239, own_k240, own_k244, own_k248, own_k2048, own_k55296, own_k57343, own_k65536, own_k1114111] at h37 h38 h39 h40 h41)
              exact own_retI X0 hx hret hlk (hb hby d20_221) (by decide) (by decide) ⟨_, rfl, by unfold own_sp; simp only [Int32.lt_iff_toInt_lt, ← Int32.toInt_inj, own_192, own_k0, own_k1, own_k2, own_k3, own_k4, own_k128, own_k143, own_k144, own_k159, own_k160, own_k191, own_k192, own_k194, own_k223, own_k224, own_k237, own_k239, own_k240, own_k244, own_k248, own_k2048, own_k55296, own_k57343, own_k65536, own_k1114111]; (repeat' split) <;> omega, N0, e0⟩
            · exact absurd h42 (by decide)
          · show own_W p e below _ T0 (mkF m 183 #[.val (.ref a), .val (.int (0 : Int32)), .val (.int p2), .val (.int ld), .val (.int (2 : Int32)), .val (.int (128 : Int32)), .val (.int (191 : Int32)), .val (.int sc), .unset] [])
            refine own_iconst X0 hx 184 (0 : Int32) (by decide) (hb hby d20_183) rfl ?_
            try (simp only [Int32.lt_iff_toInt_lt, ← Int32.toInt_inj, own_192, own_k0, own_k1, own_k2, own_k3, own_k4, own_k128, own_k143, own_k144, own_k159, own_k160, own_k191, own_k192, own_k194, own_k223, own_k224, own_k237, own_k239, own_k240, own_k244, own_k248, own_k2048, own_k55296, own_k57343, own_k65536, own_k1114111] at h37 h38 h39 h40 h41)
            exact own_retI X0 hx hret hlk (hb hby d20_184) (by decide) (by decide) ⟨_, rfl, by unfold own_sp; simp only [Int32.lt_iff_toInt_lt, ← Int32.toInt_inj, own_192, own_k0, own_k1, own_k2, own_k3, own_k4, own_k128, own_k143, own_k144, own_k159, own_k160, own_k191, own_k192, own_k194, own_k223, own_k224, own_k237, own_k239, own_k240, own_k244, own_k248, own_k2048, own_k55296, own_k57343, own_k65536, own_k1114111]; (repeat' split) <;> omega, N0, e0⟩
      · show own_W p e below _ T0 (mkF m 156 #[.val (.ref a), .val (.int (0 : Int32)), .val (.int p2), .val (.int ld), .val (.int (2 : Int32)), .val (.int (128 : Int32)), .val (.int (191 : Int32)), .unset, .unset] [])
        refine own_iconst X0 hx 157 (0 : Int32) (by decide) (hb hby d20_156) rfl ?_
        try (simp only [Int32.lt_iff_toInt_lt, ← Int32.toInt_inj, own_192, own_k0, own_k1, own_k2, own_k3, own_k4, own_k128, own_k143, own_k144, own_k159, own_k160, own_k191, own_k192, own_k194, own_k223, own_k224, own_k237, own_k239, own_k240, own_k244, own_k248, own_k2048, own_k55296, own_k57343, own_k65536, own_k1114111] at h37 h38 h39)
        exact own_retI X0 hx hret hlk (hb hby d20_157) (by decide) (by decide) ⟨_, rfl, by unfold own_sp; simp only [Int32.lt_iff_toInt_lt, ← Int32.toInt_inj, own_192, own_k0, own_k1, own_k2, own_k3, own_k4, own_k128, own_k143, own_k144, own_k159, own_k160, own_k191, own_k192, own_k194, own_k223, own_k224, own_k237, own_k239, own_k240, own_k244, own_k248, own_k2048, own_k55296, own_k57343, own_k65536, own_k1114111]; (repeat' split) <;> omega, N0, e0⟩
theorem d21_0 : decode prog_84_method_2_code 0 = .ok (.aload_n 0, 1) := by decide +kernel
theorem d21_1 : decode prog_84_method_2_code 1 = .ok (.iload_n 1, 1) := by decide +kernel
theorem d21_2 : decode prog_84_method_2_code 2 = .ok (.baload, 1) := by decide +kernel
theorem d21_3 : decode prog_84_method_2_code 3 = .ok (.sipush 255, 3) := by decide +kernel
theorem d21_6 : decode prog_84_method_2_code 6 = .ok (.iand, 1) := by decide +kernel
theorem d21_7 : decode prog_84_method_2_code 7 = .ok (.istore_n 3, 1) := by decide +kernel
theorem d21_8 : decode prog_84_method_2_code 8 = .ok (.sipush 128, 3) := by decide +kernel
theorem d21_11 : decode prog_84_method_2_code 11 = .ok (.istore 5, 2) := by decide +kernel
theorem d21_13 : decode prog_84_method_2_code 13 = .ok (.sipush 191, 3) := by decide +kernel
theorem d21_16 : decode prog_84_method_2_code 16 = .ok (.istore 6, 2) := by decide +kernel
theorem d21_18 : decode prog_84_method_2_code 18 = .ok (.iload_n 3, 1) := by decide +kernel
theorem d21_19 : decode prog_84_method_2_code 19 = .ok (.sipush 194, 3) := by decide +kernel
theorem d21_22 : decode prog_84_method_2_code 22 = .ok (.if_icmp .lt 16, 3) := by decide +kernel
theorem d21_25 : decode prog_84_method_2_code 25 = .ok (.iload_n 3, 1) := by decide +kernel
theorem d21_26 : decode prog_84_method_2_code 26 = .ok (.sipush 223, 3) := by decide +kernel
theorem d21_29 : decode prog_84_method_2_code 29 = .ok (.if_icmp .gt 9, 3) := by decide +kernel
theorem d21_32 : decode prog_84_method_2_code 32 = .ok (.iconst 2, 1) := by decide +kernel
theorem d21_33 : decode prog_84_method_2_code 33 = .ok (.istore 4, 2) := by decide +kernel
theorem d21_35 : decode prog_84_method_2_code 35 = .ok (.goto 113, 3) := by decide +kernel
theorem d21_38 : decode prog_84_method_2_code 38 = .ok (.iload_n 3, 1) := by decide +kernel
theorem d21_39 : decode prog_84_method_2_code 39 = .ok (.sipush 224, 3) := by decide +kernel
theorem d21_42 : decode prog_84_method_2_code 42 = .ok (.if_icmp .lt 50, 3) := by decide +kernel
theorem d21_45 : decode prog_84_method_2_code 45 = .ok (.iload_n 3, 1) := by decide +kernel
theorem d21_46 : decode prog_84_method_2_code 46 = .ok (.sipush 239, 3) := by decide +kernel
theorem d21_49 : decode prog_84_method_2_code 49 = .ok (.if_icmp .gt 43, 3) := by decide +kernel
theorem d21_52 : decode prog_84_method_2_code 52 = .ok (.iconst 3, 1) := by decide +kernel
theorem d21_53 : decode prog_84_method_2_code 53 = .ok (.istore 4, 2) := by decide +kernel
theorem d21_55 : decode prog_84_method_2_code 55 = .ok (.iload_n 3, 1) := by decide +kernel
theorem d21_56 : decode prog_84_method_2_code 56 = .ok (.sipush 224, 3) := by decide +kernel
theorem d21_59 : decode prog_84_method_2_code 59 = .ok (.if_icmp .ne 9, 3) := by decide +kernel
theorem d21_62 : decode prog_84_method_2_code 62 = .ok (.sipush 160, 3) := by decide +kernel
theorem d21_65 : decode prog_84_method_2_code 65 = .ok (.goto 5, 3) := by decide +kernel
theorem d21_68 : decode prog_84_method_2_code 68 = .ok (.iload 5, 2) := by decide +kernel
theorem d21_70 : decode prog_84_method_2_code 70 = .ok (.istore 5, 2) := by decide +kernel
theorem d21_72 : decode prog_84_method_2_code 72 = .ok (.iload_n 3, 1) := by decide +kernel
theorem d21_73 : decode prog_84_method_2_code 73 = .ok (.sipush 237, 3) := by decide +kernel
theorem d21_76 : decode prog_84_method_2_code 76 = .ok (.if_icmp .ne 9, 3) := by decide +kernel
theorem d21_79 : decode prog_84_method_2_code 79 = .ok (.sipush 159, 3) := by decide +kernel
theorem d21_82 : decode prog_84_method_2_code 82 = .ok (.goto 5, 3) := by decide +kernel
theorem d21_85 : decode prog_84_method_2_code 85 = .ok (.iload 6, 2) := by decide +kernel
theorem d21_87 : decode prog_84_method_2_code 87 = .ok (.istore 6, 2) := by decide +kernel
theorem d21_89 : decode prog_84_method_2_code 89 = .ok (.goto 59, 3) := by decide +kernel
theorem d21_92 : decode prog_84_method_2_code 92 = .ok (.iload_n 3, 1) := by decide +kernel
theorem d21_93 : decode prog_84_method_2_code 93 = .ok (.sipush 240, 3) := by decide +kernel
theorem d21_96 : decode prog_84_method_2_code 96 = .ok (.if_icmp .lt 50, 3) := by decide +kernel
theorem d21_99 : decode prog_84_method_2_code 99 = .ok (.iload_n 3, 1) := by decide +kernel
theorem d21_100 : decode prog_84_method_2_code 100 = .ok (.sipush 244, 3) := by decide +kernel
theorem d21_103 : decode prog_84_method_2_code 103 = .ok (.if_icmp .gt 43, 3) := by decide +kernel
theorem d21_106 : decode prog_84_method_2_code 106 = .ok (.iconst 4, 1) := by decide +kernel
theorem d21_107 : decode prog_84_method_2_code 107 = .ok (.istore 4, 2) := by decide +kernel
theorem d21_109 : decode prog_84_method_2_code 109 = .ok (.iload_n 3, 1) := by decide +kernel
theorem d21_110 : decode prog_84_method_2_code 110 = .ok (.sipush 240, 3) := by decide +kernel
theorem d21_113 : decode prog_84_method_2_code 113 = .ok (.if_icmp .ne 9, 3) := by decide +kernel
theorem d21_116 : decode prog_84_method_2_code 116 = .ok (.sipush 144, 3) := by decide +kernel
theorem d21_119 : decode prog_84_method_2_code 119 = .ok (.goto 5, 3) := by decide +kernel
theorem d21_122 : decode prog_84_method_2_code 122 = .ok (.iload 5, 2) := by decide +kernel
theorem d21_124 : decode prog_84_method_2_code 124 = .ok (.istore 5, 2) := by decide +kernel
theorem d21_126 : decode prog_84_method_2_code 126 = .ok (.iload_n 3, 1) := by decide +kernel
theorem d21_127 : decode prog_84_method_2_code 127 = .ok (.sipush 244, 3) := by decide +kernel
theorem d21_130 : decode prog_84_method_2_code 130 = .ok (.if_icmp .ne 9, 3) := by decide +kernel
theorem d21_133 : decode prog_84_method_2_code 133 = .ok (.sipush 143, 3) := by decide +kernel
theorem d21_136 : decode prog_84_method_2_code 136 = .ok (.goto 5, 3) := by decide +kernel
theorem d21_139 : decode prog_84_method_2_code 139 = .ok (.iload 6, 2) := by decide +kernel
theorem d21_141 : decode prog_84_method_2_code 141 = .ok (.istore 6, 2) := by decide +kernel
theorem d21_143 : decode prog_84_method_2_code 143 = .ok (.goto 5, 3) := by decide +kernel
theorem d21_146 : decode prog_84_method_2_code 146 = .ok (.iconst 0, 1) := by decide +kernel
theorem d21_147 : decode prog_84_method_2_code 147 = .ok (.ireturn, 1) := by decide +kernel
theorem d21_148 : decode prog_84_method_2_code 148 = .ok (.iload_n 2, 1) := by decide +kernel
theorem d21_149 : decode prog_84_method_2_code 149 = .ok (.iload_n 1, 1) := by decide +kernel
theorem d21_150 : decode prog_84_method_2_code 150 = .ok (.isub, 1) := by decide +kernel
theorem d21_151 : decode prog_84_method_2_code 151 = .ok (.iload 4, 2) := by decide +kernel
theorem d21_153 : decode prog_84_method_2_code 153 = .ok (.if_icmp .ge 5, 3) := by decide +kernel
theorem d21_156 : decode prog_84_method_2_code 156 = .ok (.iconst 0, 1) := by decide +kernel
theorem d21_157 : decode prog_84_method_2_code 157 = .ok (.ireturn, 1) := by decide +kernel
theorem d21_158 : decode prog_84_method_2_code 158 = .ok (.aload_n 0, 1) := by decide +kernel
theorem d21_159 : decode prog_84_method_2_code 159 = .ok (.iload_n 1, 1) := by decide +kernel
theorem d21_160 : decode prog_84_method_2_code 160 = .ok (.iconst 1, 1) := by decide +kernel
theorem d21_161 : decode prog_84_method_2_code 161 = .ok (.iadd, 1) := by decide +kernel
theorem d21_162 : decode prog_84_method_2_code 162 = .ok (.baload, 1) := by decide +kernel
theorem d21_163 : decode prog_84_method_2_code 163 = .ok (.sipush 255, 3) := by decide +kernel
theorem d21_166 : decode prog_84_method_2_code 166 = .ok (.iand, 1) := by decide +kernel
theorem d21_167 : decode prog_84_method_2_code 167 = .ok (.istore 7, 2) := by decide +kernel
theorem d21_169 : decode prog_84_method_2_code 169 = .ok (.iload 7, 2) := by decide +kernel
theorem d21_171 : decode prog_84_method_2_code 171 = .ok (.iload 5, 2) := by decide +kernel
theorem d21_173 : decode prog_84_method_2_code 173 = .ok (.if_icmp .lt 10, 3) := by decide +kernel
theorem d21_176 : decode prog_84_method_2_code 176 = .ok (.iload 7, 2) := by decide +kernel
theorem d21_178 : decode prog_84_method_2_code 178 = .ok (.iload 6, 2) := by decide +kernel
theorem d21_180 : decode prog_84_method_2_code 180 = .ok (.if_icmp .le 5, 3) := by decide +kernel
theorem d21_183 : decode prog_84_method_2_code 183 = .ok (.iconst 0, 1) := by decide +kernel
theorem d21_184 : decode prog_84_method_2_code 184 = .ok (.ireturn, 1) := by decide +kernel
theorem d21_185 : decode prog_84_method_2_code 185 = .ok (.iconst 2, 1) := by decide +kernel
theorem d21_186 : decode prog_84_method_2_code 186 = .ok (.istore 8, 2) := by decide +kernel
theorem d21_188 : decode prog_84_method_2_code 188 = .ok (.iload 8, 2) := by decide +kernel
theorem d21_190 : decode prog_84_method_2_code 190 = .ok (.iload 4, 2) := by decide +kernel
theorem d21_192 : decode prog_84_method_2_code 192 = .ok (.if_icmp .ge 27, 3) := by decide +kernel
theorem d21_195 : decode prog_84_method_2_code 195 = .ok (.aload_n 0, 1) := by decide +kernel
theorem d21_196 : decode prog_84_method_2_code 196 = .ok (.iload_n 1, 1) := by decide +kernel
theorem d21_197 : decode prog_84_method_2_code 197 = .ok (.iload 8, 2) := by decide +kernel
theorem d21_199 : decode prog_84_method_2_code 199 = .ok (.iadd, 1) := by decide +kernel
theorem d21_200 : decode prog_84_method_2_code 200 = .ok (.baload, 1) := by decide +kernel
theorem d21_201 : decode prog_84_method_2_code 201 = .ok (.sipush 192, 3) := by decide +kernel
theorem d21_204 : decode prog_84_method_2_code 204 = .ok (.iand, 1) := by decide +kernel
theorem d21_205 : decode prog_84_method_2_code 205 = .ok (.sipush 128, 3) := by decide +kernel
theorem d21_208 : decode prog_84_method_2_code 208 = .ok (.if_icmp .eq 5, 3) := by decide +kernel
theorem d21_211 : decode prog_84_method_2_code 211 = .ok (.iconst 0, 1) := by decide +kernel
theorem d21_212 : decode prog_84_method_2_code 212 = .ok (.ireturn, 1) := by decide +kernel
theorem d21_213 : decode prog_84_method_2_code 213 = .ok (.iinc 8 1, 3) := by decide +kernel
theorem d21_216 : decode prog_84_method_2_code 216 = .ok (.goto (-28), 3) := by decide +kernel
theorem d21_219 : decode prog_84_method_2_code 219 = .ok (.iload 4, 2) := by decide +kernel
theorem d21_221 : decode prog_84_method_2_code 221 = .ok (.ireturn, 1) := by decide +kernel
set_option maxRecDepth 65536 in
set_option maxHeartbeats 40000000 in
theorem rm2_1 (l : Launch) (Z : State) (a0 : Array Value) (hw : ∀ d ∈ tables_1, d.before a0 Z = true) (a : Addr) (p2 : Int32) (f : Nat → Int32) (h0 : Heap) (n0 : Nat) (Z0 : n0 ≤ h0.size) (hp2 : 1 ≤ p2.toInt ∧ p2.toInt ≤ 6) (A_a : own_AI Z h0 a .byte 5 f) :
    own_C l Z (⟨"com/example/gentle_indent/gentleindent/util/Utf8", "sequenceLength", "([BII)I"⟩ : MethodName) prog_84_method_2_code 9 (some .int) [] ({ frames := 0, cells := 0, slots := 0, locals := 0 } : Room) #[(.ref a), (.int (1 : Int32)), (.int p2)] h0 (fun v h L => ∃ r : Int32, v = some (.int r) ∧ r.toInt = own_sp ((f 1).toInt % 256) ((f 2).toInt % 256) ((f 3).toInt % 256) ((f 4).toInt % 256) (p2.toInt - 1) ∧ Fr n0 L ∧ h = h0) := by
  refine own_body (by first | (simp [plainName, overriddenIn]; done) | decide +kernel) ?_
  intro p e s m below meth c T0 hx hby hml hown hnm hret hlk hZ X0 e0
  have N0 := Fr.nil n0
  refine own_eq (f' := (mkF m 0 #[.val (.ref a), .val (.int (1 : Int32)), .val (.int p2), .unset, .unset, .unset, .unset, .unset, .unset] [])) (by first | (simp [entryFrame, mkF, argsToLocals, Value.category]; done) | rfl) ?_
  refine own_aloadN X0 hx 1 (hb hby d21_0) rfl rfl ?_
  refine own_iloadN X0 hx 2 (hb hby d21_1) rfl rfl ?_
  refine own_baload X0 hx hZ e0 3 1 A_a rfl (by decide) (hb hby d21_2) rfl ?_
  refine own_sipush X0 hx 6 (255 : Int32) (by decide) (hb hby d21_3) rfl ?_
  refine own_iand X0 hx 7 (hb hby d21_6) rfl ?_
  obtain ⟨ld, e_ld⟩ : ∃ z : Int32, z = ((f 1) &&& (255 : Int32)) := ⟨_, rfl⟩
  refine own_istoreN X0 hx 8 #[.val (.ref a), .val (.int (1 : Int32)), .val (.int p2), .val (.int ld), .unset, .unset, .unset, .unset, .unset] e_ld (hb hby d21_7) rfl rfl ?_
  refine own_sipush X0 hx 11 (128 : Int32) (by decide) (hb hby d21_8) rfl ?_
  refine own_istore X0 hx 13 #[.val (.ref a), .val (.int (1 : Int32)), .val (.int p2), .val (.int ld), .unset, .val (.int (128 : Int32)), .unset, .unset, .unset] rfl (hb hby d21_11) rfl rfl ?_
  refine own_sipush X0 hx 16 (191 : Int32) (by decide) (hb hby d21_13) rfl ?_
  refine own_istore X0 hx 18 #[.val (.ref a), .val (.int (1 : Int32)), .val (.int p2), .val (.int ld), .unset, .val (.int (128 : Int32)), .val (.int (191 : Int32)), .unset, .unset] rfl (hb hby d21_16) rfl rfl ?_
  have hld := own_m8 ld _ e_ld
  refine own_iloadN X0 hx 19 (hb hby d21_18) rfl rfl ?_
  refine own_sipush X0 hx 22 (194 : Int32) (by decide) (hb hby d21_19) rfl ?_
  have J1 : ∀ (hj2 : ¬ (194 ≤ ld.toInt ∧ ld.toInt ≤ 223)), own_W p e below (own_K s ({ frames := 0, cells := 0, slots := 0, locals := 0 } : Room) (fun v h L => ∃ r : Int32, v = some (.int r) ∧ r.toInt = own_sp ((f 1).toInt % 256) ((f 2).toInt % 256) ((f 3).toInt % 256) ((f 4).toInt % 256) (p2.toInt - 1) ∧ Fr n0 L ∧ h = h0)) T0 (mkF m 38 #[.val (.ref a), .val (.int (1 : Int32)), .val (.int p2), .val (.int ld), .unset, .val (.int (128 : Int32)), .val (.int (191 : Int32)), .unset, .unset] []) := by
    intro hj2
    refine own_iloadN X0 hx 39 (hb hby d21_38) rfl rfl ?_
    refine own_sipush X0 hx 42 (224 : Int32) (by decide) (hb hby d21_39) rfl ?_
    have J3 : ∀ (hj4 : ¬ (224 ≤ ld.toInt ∧ ld.toInt ≤ 239)), own_W p e below (own_K s ({ frames := 0, cells := 0, slots := 0, locals := 0 } : Room) (fun v h L => ∃ r : Int32, v = some (.int r) ∧ r.toInt = own_sp ((f 1).toInt % 256) ((f 2).toInt % 256) ((f 3).toInt % 256) ((f 4).toInt % 256) (p2.toInt - 1) ∧ Fr n0 L ∧ h = h0)) T0 (mkF m 92 #[.val (.ref a), .val (.int (1 : Int32)), .val (.int p2), .val (.int ld), .unset, .val (.int (128 : Int32)), .val (.int (191 : Int32)), .unset, .unset] []) := by
      intro hj4
      refine own_iloadN X0 hx 93 (hb hby d21_92) rfl rfl ?_
      refine own_sipush X0 hx 96 (240 : Int32) (by decide) (hb hby d21_93) rfl ?_
      have J5 : ∀ (hj6 : ¬ (240 ≤ ld.toInt ∧ ld.toInt ≤ 244)), own_W p e below (own_K s ({ frames := 0, cells := 0, slots := 0, locals := 0 } : Room) (fun v h L => ∃ r : Int32, v = some (.int r) ∧ r.toInt = own_sp ((f 1).toInt % 256) ((f 2).toInt % 256) ((f 3).toInt % 256) ((f 4).toInt % 256) (p2.toInt - 1) ∧ Fr n0 L ∧ h = h0)) T0 (mkF m 146 #[.val (.ref a), .val (.int (1 : Int32)), .val (.int p2), .val (.int ld), .unset, .val (.int (128 : Int32)), .val (.int (191 : Int32)), .unset, .unset] []) := by
        intro hj6
        refine own_iconst X0 hx 147 (0 : Int32) (by decide) (hb hby d21_146) rfl ?_
        exact own_retI X0 hx hret hlk (hb hby d21_147) (by decide) (by decide) ⟨_, rfl, by unfold own_sp; simp only [Int32.lt_iff_toInt_lt, ← Int32.toInt_inj, own_192, own_k0, own_k1, own_k2, own_k3, own_k4, own_k128, own_k143, own_k144, own_k159, own_k160, own_k191, own_k192, own_k194, own_k223, own_k224, own_k237, own_k239, own_k240, own_k244, own_k248, own_k2048, own_k55296, own_k57343, own_k65536, own_k1114111]; (repeat' split) <;> omega, N0, e0⟩
      refine own_icmp_lt X0 hx 146 99 (hb hby d21_96) (by decide) (by decide) rfl (fun h7 => ?_) (fun h7 => ?_)
      · show own_W p e below _ T0 (mkF m 146 #[.val (.ref a), .val (.int (1 : Int32)), .val (.int p2), .val (.int ld), .unset, .val (.int (128 : Int32)), .val (.int (191 : Int32)), .unset, .unset] [])
        exact J5  (by simp only [Int32.lt_iff_toInt_lt, ← Int32.toInt_inj, own_192, own_k0, own_k1, own_k2, own_k3, own_k4, own_k128, own_k143, own_k144, own_k159, own_k160, own_k191, own_k192, own_k194, own_k223, own_k224, own_k237, own_k239, own_k240, own_k244, own_k248, own_k2048, own_k55296, own_k57343, own_k65536, own_k1114111] at h7; omega)
      · show own_W p e below _ T0 (mkF m 99 #[.val (.ref a), .val (.int (1 : Int32)), .val (.int p2), .val (.int ld), .unset, .val (.int (128 : Int32)), .val (.int (191 : Int32)), .unset, .unset] [])
        refine own_iloadN X0 hx 100 (hb hby d21_99) rfl rfl ?_
        refine own_sipush X0 hx 103 (244 : Int32) (by decide) (hb hby d21_100) rfl ?_
        refine own_icmp_gt X0 hx 146 106 (hb hby d21_103) (by decide) (by decide) rfl (fun h8 => ?_) (fun h8 => ?_)
        · show own_W p e below _ T0 (mkF m 146 #[.val (.ref a), .val (.int (1 : Int32)), .val (.int p2), .val (.int ld), .unset, .val (.int (128 : Int32)), .val (.int (191 : Int32)), .unset, .unset] [])
          exact J5  (by simp only [Int32.lt_iff_toInt_lt, ← Int32.toInt_inj, own_192, own_k0, own_k1, own_k2, own_k3, own_k4, own_k128, own_k143, own_k144, own_k159, own_k160, own_k191, own_k192, own_k194, own_k223, own_k224, own_k237, own_k239, own_k240, own_k244, own_k248, own_k2048, own_k55296, own_k57343, own_k65536, own_k1114111] at h7 h8; omega)
        · show own_W p e below _ T0 (mkF m 106 #[.val (.ref a), .val (.int (1 : Int32)), .val (.int p2), .val (.int ld), .unset, .val (.int (128 : Int32)), .val (.int (191 : Int32)), .unset, .unset] [])
          refine own_iconst X0 hx 107 (4 : Int32) (by decide) (hb hby d21_106) rfl ?_
          refine own_istore X0 hx 109 #[.val (.ref a), .val (.int (1 : Int32)), .val (.int p2), .val (.int ld), .val (.int (4 : Int32)), .val (.int (128 : Int32)), .val (.int (191 : Int32)), .unset, .unset] rfl (hb hby d21_107) rfl rfl ?_
          refine own_iloadN X0 hx 110 (hb hby d21_109) rfl rfl ?_
          refine own_sipush X0 hx 113 (240 : Int32) (by decide) (hb hby d21_110) rfl ?_
          have J9 : ∀ (lo : Int32) (hj10 : lo.toInt = if ld.toInt = 240 then 144 else 128), own_W p e below (own_K s ({ frames := 0, cells := 0, slots := 0, locals := 0 } : Room) (fun v h L => ∃ r : Int32, v = some (.int r) ∧ r.toInt = own_sp ((f 1).toInt % 256) ((f 2).toInt % 256) ((f 3).toInt % 256) ((f 4).toInt % 256) (p2.toInt - 1) ∧ Fr n0 L ∧ h = h0)) T0 (mkF m 124 #[.val (.ref a), .val (.int (1 : Int32)), .val (.int p2), .val (.int ld), .val (.int (4 : Int32)), .val (.int (128 : Int32)), .val (.int (191 : Int32)), .unset, .unset] [(.int lo)]) := by
            intro lo hj10
            refine own_istore X0 hx 126 #[.val (.ref a), .val (.int (1 : Int32)), .val (.int p2), .val (.int ld), .val (.int (4 : Int32)), .val (.int lo), .val (.int (191 : Int32)), .unset, .unset] rfl (hb hby d21_124) rfl rfl ?_
            refine own_iloadN X0 hx 127 (hb hby d21_126) rfl rfl ?_
            refine own_sipush X0 hx 130 (244 : Int32) (by decide) (hb hby d21_127) rfl ?_
            have J11 : ∀ (hi : Int32) (hj12 : hi.toInt = if ld.toInt = 244 then 143 else 191), own_W p e below (own_K s ({ frames := 0, cells := 0, slots := 0, locals := 0 } : Room) (fun v h L => ∃ r : Int32, v = some (.int r) ∧ r.toInt = own_sp ((f 1).toInt % 256) ((f 2).toInt % 256) ((f 3).toInt % 256) ((f 4).toInt % 256) (p2.toInt - 1) ∧ Fr n0 L ∧ h = h0)) T0 (mkF m 141 #[.val (.ref a), .val (.int (1 : Int32)), .val (.int p2), .val (.int ld), .val (.int (4 : Int32)), .val (.int lo), .val (.int (191 : Int32)), .unset, .unset] [(.int hi)]) := by
              intro hi hj12
              refine own_istore X0 hx 143 #[.val (.ref a), .val (.int (1 : Int32)), .val (.int p2), .val (.int ld), .val (.int (4 : Int32)), .val (.int lo), .val (.int hi), .unset, .unset] rfl (hb hby d21_141) rfl rfl ?_
              refine own_goto X0 hx 148 (hb hby d21_143) (by decide) (by decide) ?_
              have hro : (p2 - (1 : Int32)).toInt = p2.toInt - 1 := own_sub p2 (1 : Int32) 1 rfl (by decide) hp2
              refine own_iloadN X0 hx 149 (hb hby d21_148) rfl rfl ?_
              refine own_iloadN X0 hx 150 (hb hby d21_149) rfl rfl ?_
              refine own_isub X0 hx 151 (hb hby d21_150) rfl ?_
              refine own_iload X0 hx 153 (hb hby d21_151) rfl rfl ?_
              refine own_icmp_ge X0 hx 158 156 (hb hby d21_153) (by decide) (by decide) rfl (fun h13 => ?_) (fun h13 => ?_)
              · show own_W p e below _ T0 (mkF m 158 #[.val (.ref a), .val (.int (1 : Int32)), .val (.int p2), .val (.int ld), .val (.int (4 : Int32)), .val (.int lo), .val (.int hi), .unset, .unset] [])
                refine own_aloadN X0 hx 159 (hb hby d21_158) rfl rfl ?_
                refine own_iloadN X0 hx 160 (hb hby d21_159) rfl rfl ?_
                refine own_iconst X0 hx 161 (1 : Int32) (by decide) (hb hby d21_160) rfl ?_
                refine own_iaddz X0 hx 162 (z := (2 : Int32)) (by decide) (hb hby d21_161) rfl ?_
                refine own_baload X0 hx hZ e0 163 2 A_a rfl (by decide) (hb hby d21_162) rfl ?_
                refine own_sipush X0 hx 166 (255 : Int32) (by decide) (hb hby d21_163) rfl ?_
                refine own_iand X0 hx 167 (hb hby d21_166) rfl ?_
                obtain ⟨sc, e_sc⟩ : ∃ z : Int32, z = ((f 2) &&& (255 : Int32)) := ⟨_, rfl⟩
                refine own_istore X0 hx 169 #[.val (.ref a), .val (.int (1 : Int32)), .val (.int p2), .val (.int ld), .val (.int (4 : Int32)), .val (.int lo), .val (.int hi), .val (.int sc), .unset] e_sc (hb hby d21_167) rfl rfl ?_
                have hsc := own_m8 sc _ e_sc
                refine own_iload X0 hx 171 (hb hby d21_169) rfl rfl ?_
                refine own_iload X0 hx 173 (hb hby d21_171) rfl rfl ?_
                refine own_icmp_lt X0 hx 183 176 (hb hby d21_173) (by decide) (by decide) rfl (fun h14 => ?_) (fun h14 => ?_)
                · show own_W p e below _ T0 (mkF m 183 #[.val (.ref a), .val (.int (1 : Int32)), .val (.int p2), .val (.int ld), .val (.int (4 : Int32)), .val (.int lo), .val (.int hi), .val (.int sc), .unset] [])
                  refine own_iconst X0 hx 184 (0 : Int32) (by decide) (hb hby d21_183) rfl ?_
                  try (simp only [Int32.lt_iff_toInt_lt, ← Int32.toInt_inj, own_192, own_k0, own_k1, own_k2, own_k3, own_k4, own_k128, own_k143, own_k144, own_k159, own_k160, own_k191, own_k192, own_k194, own_k223, own_k224, own_k237, own_k239, own_k240, own_k244, own_k248, own_k2048, own_k55296, own_k57343, own_k65536, own_k1114111] at h7 h8 h13 h14)
                  exact own_retI X0 hx hret hlk (hb hby d21_184) (by decide) (by decide) ⟨_, rfl, by unfold own_sp; simp only [Int32.lt_iff_toInt_lt, ← Int32.toInt_inj, own_192, own_k0, own_k1, own_k2, own_k3, own_k4, own_k128, own_k143, own_k144, own_k159, own_k160, own_k191, own_k192, own_k194, own_k223, own_k224, own_k237, own_k239, own_k240, own_k244, own_k248, own_k2048, own_k55296, own_k57343, own_k65536, own_k1114111]; (repeat' split) <;> omega, N0, e0⟩
                · show own_W p e below _ T0 (mkF m 176 #[.val (.ref a), .val (.int (1 : Int32)), .val (.int p2), .val (.int ld), .val (.int (4 : Int32)), .val (.int lo), .val (.int hi), .val (.int sc), .unset] [])
                  refine own_iload X0 hx 178 (hb hby d21_176) rfl rfl ?_
                  refine own_iload X0 hx 180 (hb hby d21_178) rfl rfl ?_
                  refine own_icmp_le X0 hx 185 183 (hb hby d21_180) (by decide) (by decide) rfl (fun h15 => ?_) (fun h15 => ?_)
                  · show own_W p e below _ T0 (mkF m 185 #[.val (.ref a), .val (.int (1 : Int32)), .val (.int p2), .val (.int ld), .val (.int (4 : Int32)), .val (.int lo), .val (.int hi), .val (.int sc), .unset] [])
                    refine own_iconst X0 hx 186 (2 : Int32) (by decide) (hb hby d21_185) rfl ?_
                    refine own_istore X0 hx 188 #[.val (.ref a), .val (.int (1 : Int32)), .val (.int p2), .val (.int ld), .val (.int (4 : Int32)), .val (.int lo), .val (.int hi), .val (.int sc), .val (.int (2 : Int32))] rfl (hb hby d21_186) rfl rfl ?_
                    refine own_iload X0 hx 190 (hb hby d21_188) rfl rfl ?_
                    refine own_iload X0 hx 192 (hb hby d21_190) rfl rfl ?_
                    refine own_icmp_ge X0 hx 219 195 (hb hby d21_192) (by decide) (by decide) rfl (fun h16 => ?_) (fun h16 => ?_)
                    · exact absurd h16 (by decide)
                    · show own_W p e below _ T0 (mkF m 195 #[.val (.ref a), .val (.int (1 : Int32)), .val (.int p2), .val (.int ld), .val (.int (4 : Int32)), .val (.int lo), .val (.int hi), .val (.int sc), .val (.int (2 : Int32))] [])
                      refine own_aloadN X0 hx 196 (hb hby d21_195) rfl rfl ?_
                      refine own_iloadN X0 hx 197 (hb hby d21_196) rfl rfl ?_
                      refine own_iload X0 hx 199 (hb hby d21_197) rfl rfl ?_
                      refine own_iaddz X0 hx 200 (z := (3 : Int32)) (by decide) (hb hby d21_199) rfl ?_
                      refine own_baload X0 hx hZ e0 201 3 A_a rfl (by decide) (hb hby d21_200) rfl ?_
                      refine own_sipush X0 hx 204 (192 : Int32) (by decide) (hb hby d21_201) rfl ?_
                      refine own_iand X0 hx 205 (hb hby d21_204) rfl ?_
                      refine own_sipush X0 hx 208 (128 : Int32) (by decide) (hb hby d21_205) rfl ?_
                      refine own_icmp_eq X0 hx 213 211 (hb hby d21_208) (by decide) (by decide) rfl (fun h17 => ?_) (fun h17 => ?_)
                      · show own_W p e below _ T0 (mkF m 213 #[.val (.ref a), .val (.int (1 : Int32)), .val (.int p2), .val (.int ld), .val (.int (4 : Int32)), .val (.int lo), .val (.int hi), .val (.int sc), .val (.int (2 : Int32))] [])
                        refine own_iinc X0 hx (3 : Int32) 216 #[.val (.ref a), .val (.int (1 : Int32)), .val (.int p2), .val (.int ld), .val (.int (4 : Int32)), .val (.int lo), .val (.int hi), .val (.int sc), .val (.int (3 : Int32))] (by decide) (hb hby d21_213) rfl rfl rfl ?_
                        refine own_goto X0 hx 188 (hb hby d21_216) (by decide) (by decide) ?_
                        refine own_iload X0 hx 190 (hb hby d21_188) rfl rfl ?_
                        refine own_iload X0 hx 192 (hb hby d21_190) rfl rfl ?_
                        refine own_icmp_ge X0 hx 219 195 (hb hby d21_192) (by decide) (by decide) rfl (fun h18 => ?_) (fun h18 => ?_)
                        · exact absurd h18 (by decide)
                        · show own_W p e below _ T0 (mkF m 195 #[.val (.ref a), .val (.int (1 : Int32)), .val (.int p2), .val (.int ld), .val (.int (4 : Int32)), .val (.int lo), .val (.int hi), .val (.int sc), .val (.int (3 : Int32))] [])
                          refine own_aloadN X0 hx 196 (hb hby d21_195) rfl rfl ?_
                          refine own_iloadN X0 hx 197 (hb hby d21_196) rfl rfl ?_
                          refine own_iload X0 hx 199 (hb hby d21_197) rfl rfl ?_
                          refine own_iaddz X0 hx 200 (z := (4 : Int32)) (by decide) (hb hby d21_199) rfl ?_
                          refine own_baload X0 hx hZ e0 201 4 A_a rfl (by decide) (hb hby d21_200) rfl ?_
                          refine own_sipush X0 hx 204 (192 : Int32) (by decide) (hb hby d21_201) rfl ?_
                          refine own_iand X0 hx 205 (hb hby d21_204) rfl ?_
                          refine own_sipush X0 hx 208 (128 : Int32) (by decide) (hb hby d21_205) rfl ?_
                          refine own_icmp_eq X0 hx 213 211 (hb hby d21_208) (by decide) (by decide) rfl (fun h19 => ?_) (fun h19 => ?_)
                          · show own_W p e below _ T0 (mkF m 213 #[.val (.ref a), .val (.int (1 : Int32)), .val (.int p2), .val (.int ld), .val (.int (4 : Int32)), .val (.int lo), .val (.int hi), .val (.int sc), .val (.int (3 : Int32))] [])
                            refine own_iinc X0 hx (4 : Int32) 216 #[.val (.ref a), .val (.int (1 : Int32)), .val (.int p2), .val (.int ld), .val (.int (4 : Int32)), .val (.int lo), .val (.int hi), .val (.int sc), .val (.int (4 : Int32))] (by decide) (hb hby d21_213) rfl rfl rfl ?_
                            refine own_goto X0 hx 188 (hb hby d21_216) (by decide) (by decide) ?_
                            refine own_iload X0 hx 190 (hb hby d21_188) rfl rfl ?_
                            refine own_iload X0 hx 192 (hb hby d21_190) rfl rfl ?_
                            refine own_icmp_ge X0 hx 219 195 (hb hby d21_192) (by decide) (by decide) rfl (fun h20 => ?_) (fun h20 => ?_)
                            · show own_W p e below _ T0 (mkF m 219 #[.val (.ref a), .val (.int (1 : Int32)), .val (.int p2), .val (.int ld), .val (.int (4 : Int32)), .val (.int lo), .val (.int hi), .val (.int sc), .val (.int (4 : Int32))] [])
                              refine own_iload X0 hx 221 (hb hby d21_219) rfl rfl ?_
                              try (simp only [Int32.lt_iff_toInt_lt, ← Int32.toInt_inj, own_192, own_k0, own_k1, own_k2, own_k3, own_k4, own_k128, own_k143, own_k144, own_k159, own_k160, own_k191, own_k192, own_k194, own_k223, own_k224, own_k237, own_k239, own_k240, own_k244, own_k248, own_k2048, own_k55296, own_k57343, own_k65536, own_k1114111] at h7 h8 h13 h14 h15 h17 h19)
                              exact own_retI X0 hx hret hlk (hb hby d21_221) (by decide) (by decide) ⟨_, rfl, by unfold own_sp; simp only [Int32.lt_iff_toInt_lt, ← Int32.toInt_inj, own_192, own_k0, own_k1, own_k2, own_k3, own_k4, own_k128, own_k143, own_k144, own_k159, own_k160, own_k191, own_k192, own_k194, own_k223, own_k224, own_k237, own_k239, own_k240, own_k244, own_k248, own_k2048, own_k55296, own_k57343, own_k65536, own_k1114111]; (repeat' split) <;> omega, N0, e0⟩
                            · exact absurd h20 (by decide)
                          · show own_W p e below _ T0 (mkF m 211 #[.val (.ref a), .val (.int (1 : Int32)), .val (.int p2), .val (.int ld), .val (.int (4 : Int32)), .val (.int lo), .val (.int hi), .val (.int sc), .val (.int (3 : Int32))] [])
                            refine own_iconst X0 hx 212 (0 : Int32) (by decide) (hb hby d21_211) rfl ?_
                            try (simp only [Int32.lt_iff_toInt_lt, ← Int32.toInt_inj, own_192, own_k0, own_k1, own_k2, own_k3, own_k4, own_k128, own_k143, own_k144, own_k159, own_k160, own_k191, own_k192, own_k194, own_k223, own_k224, own_k237, own_k239, own_k240, own_k244, own_k248, own_k2048, own_k55296, own_k57343, own_k65536, own_k1114111] at h7 h8 h13 h14 h15 h17 h19)
                            exact own_retI X0 hx hret hlk (hb hby d21_212) (by decide) (by decide) ⟨_, rfl, by unfold own_sp; simp only [Int32.lt_iff_toInt_lt, ← Int32.toInt_inj, own_192, own_k0, own_k1, own_k2, own_k3, own_k4, own_k128, own_k143, own_k144, own_k159, own_k160, own_k191, own_k192, own_k194, own_k223, own_k224, own_k237, own_k239, own_k240, own_k244, own_k248, own_k2048, own_k55296, own_k57343, own_k65536, own_k1114111]; (repeat' split) <;> omega, N0, e0⟩
                      · show own_W p e below _ T0 (mkF m 211 #[.val (.ref a), .val (.int (1 : Int32)), .val (.int p2), .val (.int ld), .val (.int (4 : Int32)), .val (.int lo), .val (.int hi), .val (.int sc), .val (.int (2 : Int32))] [])
                        refine own_iconst X0 hx 212 (0 : Int32) (by decide) (hb hby d21_211) rfl ?_
                        try (simp only [Int32.lt_iff_toInt_lt, ← Int32.toInt_inj, own_192, own_k0, own_k1, own_k2, own_k3, own_k4, own_k128, own_k143, own_k144, own_k159, own_k160, own_k191, own_k192, own_k194, own_k223, own_k224, own_k237, own_k239, own_k240, own_k244, own_k248, own_k2048, own_k55296, own_k57343, own_k65536, own_k1114111] at h7 h8 h13 h14 h15 h17)
                        exact own_retI X0 hx hret hlk (hb hby d21_212) (by decide) (by decide) ⟨_, rfl, by unfold own_sp; simp only [Int32.lt_iff_toInt_lt, ← Int32.toInt_inj, own_192, own_k0, own_k1, own_k2, own_k3, own_k4, own_k128, own_k143, own_k144, own_k159, own_k160, own_k191, own_k192, own_k194, own_k223, own_k224, own_k237, own_k239, own_k240, own_k244, own_k248, own_k2048, own_k55296, own_k57343, own_k65536, own_k1114111]; (repeat' split) <;> omega, N0, e0⟩
                  · show own_W p e below _ T0 (mkF m 183 #[.val (.ref a), .val (.int (1 : Int32)), .val (.int p2), .val (.int ld), .val (.int (4 : Int32)), .val (.int lo), .val (.int hi), .val (.int sc), .unset] [])
                    refine own_iconst X0 hx 184 (0 : Int32) (by decide) (hb hby d21_183) rfl ?_
                    try (simp only [Int32.lt_iff_toInt_lt, ← Int32.toInt_inj, own_192, own_k0, own_k1, own_k2, own_k3, own_k4, own_k128, own_k143, own_k144, own_k159, own_k160, own_k191, own_k192, own_k194, own_k223, own_k224, own_k237, own_k239, own_k240, own_k244, own_k248, own_k2048, own_k55296, own_k57343, own_k65536, own_k1114111] at h7 h8 h13 h14 h15)
                    exact own_retI X0 hx hret hlk (hb hby d21_184) (by decide) (by decide) ⟨_, rfl, by unfold own_sp; simp only [Int32.lt_iff_toInt_lt, ← Int32.toInt_inj, own_192, own_k0, own_k1, own_k2, own_k3, own_k4, own_k128, own_k143, own_k144, own_k159, own_k160, own_k191, own_k192, own_k194, own_k223, own_k224, own_k237, own_k239, own_k240, own_k244, own_k248, own_k2048, own_k55296, own_k57343, own_k65536, own_k1114111]; (repeat' split) <;> omega, N0, e0⟩
              · show own_W p e below _ T0 (mkF m 156 #[.val (.ref a), .val (.int (1 : Int32)), .val (.int p2), .val (.int ld), .val (.int (4 : Int32)), .val (.int lo), .val (.int hi), .unset, .unset] [])
                refine own_iconst X0 hx 157 (0 : Int32) (by decide) (hb hby d21_156) rfl ?_
                try (simp only [Int32.lt_iff_toInt_lt, ← Int32.toInt_inj, own_192, own_k0, own_k1, own_k2, own_k3, own_k4, own_k128, own_k143, own_k144, own_k159, own_k160, own_k191, own_k192, own_k194, own_k223, own_k224, own_k237, own_k239, own_k240, own_k244, own_k248, own_k2048, own_k55296, own_k57343, own_k65536, own_k1114111] at h7 h8 h13)
                exact own_retI X0 hx hret hlk (hb hby d21_157) (by decide) (by decide) ⟨_, rfl, by unfold own_sp; simp only [Int32.lt_iff_toInt_lt, ← Int32.toInt_inj, own_192, own_k0, own_k1, own_k2, own_k3, own_k4, own_k128, own_k143, own_k144, own_k159, own_k160, own_k191, own_k192, own_k194, own_k223, own_k224, own_k237, own_k239, own_k240, own_k244, own_k248, own_k2048, own_k55296, own_k57343, own_k65536, own_k1114111]; (repeat' split) <;> omega, N0, e0⟩
            refine own_icmp_ne X0 hx 139 133 (hb hby d21_130) (by decide) (by decide) rfl (fun h21 => ?_) (fun h21 => ?_)
            · show own_W p e below _ T0 (mkF m 139 #[.val (.ref a), .val (.int (1 : Int32)), .val (.int p2), .val (.int ld), .val (.int (4 : Int32)), .val (.int lo), .val (.int (191 : Int32)), .unset, .unset] [])
              refine own_iload X0 hx 141 (hb hby d21_139) rfl rfl ?_
              exact J11 (191 : Int32) (by simp only [Int32.lt_iff_toInt_lt, ← Int32.toInt_inj, own_192, own_k0, own_k1, own_k2, own_k3, own_k4, own_k128, own_k143, own_k144, own_k159, own_k160, own_k191, own_k192, own_k194, own_k223, own_k224, own_k237, own_k239, own_k240, own_k244, own_k248, own_k2048, own_k55296, own_k57343, own_k65536, own_k1114111] at h21; rw [if_neg h21]; rfl)
            · show own_W p e below _ T0 (mkF m 133 #[.val (.ref a), .val (.int (1 : Int32)), .val (.int p2), .val (.int ld), .val (.int (4 : Int32)), .val (.int lo), .val (.int (191 : Int32)), .unset, .unset] [])
              refine own_sipush X0 hx 136 (143 : Int32) (by decide) (hb hby d21_133) rfl ?_
              refine own_goto X0 hx 141 (hb hby d21_136) (by decide) (by decide) ?_
              exact J11 (143 : Int32) (by simp only [Int32.lt_iff_toInt_lt, ← Int32.toInt_inj, own_192, own_k0, own_k1, own_k2, own_k3, own_k4, own_k128, own_k143, own_k144, own_k159, own_k160, own_k191, own_k192, own_k194, own_k223, own_k224, own_k237, own_k239, own_k240, own_k244, own_k248, own_k2048, own_k55296, own_k57343, own_k65536, own_k1114111] at h21; rw [if_pos h21]; rfl)
          refine own_icmp_ne X0 hx 122 116 (hb hby d21_113) (by decide) (by decide) rfl (fun h22 => ?_) (fun h22 => ?_)
          · show own_W p e below _ T0 (mkF m 122 #[.val (.ref a), .val (.int (1 : Int32)), .val (.int p2), .val (.int ld), .val (.int (4 : Int32)), .val (.int (128 : Int32)), .val (.int (191 : Int32)), .unset, .unset] [])
            refine own_iload X0 hx 124 (hb hby d21_122) rfl rfl ?_
            exact J9 (128 : Int32) (by simp only [Int32.lt_iff_toInt_lt, ← Int32.toInt_inj, own_192, own_k0, own_k1, own_k2, own_k3, own_k4, own_k128, own_k143, own_k144, own_k159, own_k160, own_k191, own_k192, own_k194, own_k223, own_k224, own_k237, own_k239, own_k240, own_k244, own_k248, own_k2048, own_k55296, own_k57343, own_k65536, own_k1114111] at h22; rw [if_neg h22]; rfl)
          · show own_W p e below _ T0 (mkF m 116 #[.val (.ref a), .val (.int (1 : Int32)), .val (.int p2), .val (.int ld), .val (.int (4 : Int32)), .val (.int (128 : Int32)), .val (.int (191 : Int32)), .unset, .unset] [])
            refine own_sipush X0 hx 119 (144 : Int32) (by decide) (hb hby d21_116) rfl ?_
            refine own_goto X0 hx 124 (hb hby d21_119) (by decide) (by decide) ?_
            exact J9 (144 : Int32) (by simp only [Int32.lt_iff_toInt_lt, ← Int32.toInt_inj, own_192, own_k0, own_k1, own_k2, own_k3, own_k4, own_k128, own_k143, own_k144, own_k159, own_k160, own_k191, own_k192, own_k194, own_k223, own_k224, own_k237, own_k239, own_k240, own_k244, own_k248, own_k2048, own_k55296, own_k57343, own_k65536, own_k1114111] at h22; rw [if_pos h22]; rfl)
    refine own_icmp_lt X0 hx 92 45 (hb hby d21_42) (by decide) (by decide) rfl (fun h23 => ?_) (fun h23 => ?_)
    · show own_W p e below _ T0 (mkF m 92 #[.val (.ref a), .val (.int (1 : Int32)), .val (.int p2), .val (.int ld), .unset, .val (.int (128 : Int32)), .val (.int (191 : Int32)), .unset, .unset] [])
      exact J3  (by simp only [Int32.lt_iff_toInt_lt, ← Int32.toInt_inj, own_192, own_k0, own_k1, own_k2, own_k3, own_k4, own_k128, own_k143, own_k144, own_k159, own_k160, own_k191, own_k192, own_k194, own_k223, own_k224, own_k237, own_k239, own_k240, own_k244, own_k248, own_k2048, own_k55296, own_k57343, own_k65536, own_k1114111] at h23; omega)
    · show own_W p e below _ T0 (mkF m 45 #[.val (.ref a), .val (.int (1 : Int32)), .val (.int p2), .val (.int ld), .unset, .val (.int (128 : Int32)), .val (.int (191 : Int32)), .unset, .unset] [])
      refine own_iloadN X0 hx 46 (hb hby d21_45) rfl rfl ?_
      refine own_sipush X0 hx 49 (239 : Int32) (by decide) (hb hby d21_46) rfl ?_
      refine own_icmp_gt X0 hx 92 52 (hb hby d21_49) (by decide) (by decide) rfl (fun h24 => ?_) (fun h24 => ?_)
      · show own_W p e below _ T0 (mkF m 92 #[.val (.ref a), .val (.int (1 : Int32)), .val (.int p2), .val (.int ld), .unset, .val (.int (128 : Int32)), .val (.int (191 : Int32)), .unset, .unset] [])
        exact J3  (by simp only [Int32.lt_iff_toInt_lt, ← Int32.toInt_inj, own_192, own_k0, own_k1, own_k2, own_k3, own_k4, own_k128, own_k143, own_k144, own_k159, own_k160, own_k191, own_k192, own_k194, own_k223, own_k224, own_k237, own_k239, own_k240, own_k244, own_k248, own_k2048, own_k55296, own_k57343, own_k65536, own_k1114111] at h23 h24; omega)
      · show own_W p e below _ T0 (mkF m 52 #[.val (.ref a), .val (.int (1 : Int32)), .val (.int p2), .val (.int ld), .unset, .val (.int (128 : Int32)), .val (.int (191 : Int32)), .unset, .unset] [])
        refine own_iconst X0 hx 53 (3 : Int32) (by decide) (hb hby d21_52) rfl ?_
        refine own_istore X0 hx 55 #[.val (.ref a), .val (.int (1 : Int32)), .val (.int p2), .val (.int ld), .val (.int (3 : Int32)), .val (.int (128 : Int32)), .val (.int (191 : Int32)), .unset, .unset] rfl (hb hby d21_53) rfl rfl ?_
        refine own_iloadN X0 hx 56 (hb hby d21_55) rfl rfl ?_
        refine own_sipush X0 hx 59 (224 : Int32) (by decide) (hb hby d21_56) rfl ?_
        have J25 : ∀ (lo : Int32) (hj26 : lo.toInt = if ld.toInt = 224 then 160 else 128), own_W p e below (own_K s ({ frames := 0, cells := 0, slots := 0, locals := 0 } : Room) (fun v h L => ∃ r : Int32, v = some (.int r) ∧ r.toInt = own_sp ((f 1).toInt % 256) ((f 2).toInt % 256) ((f 3).toInt % 256) ((f 4).toInt % 256) (p2.toInt - 1) ∧ Fr n0 L ∧ h = h0)) T0 (mkF m 70 #[.val (.ref a), .val (.int (1 : Int32)), .val (.int p2), .val (.int ld), .val (.int (3 : Int32)), .val (.int (128 : Int32)), .val (.int (191 : Int32)), .unset, .unset] [(.int lo)]) := by
          intro lo hj26
          refine own_istore X0 hx 72 #[.val (.ref a), .val (.int (1 : Int32)), .val (.int p2), .val (.int ld), .val (.int (3 : Int32)), .val (.int lo), .val (.int (191 : Int32)), .unset, .unset] rfl (hb hby d21_70) rfl rfl ?_
          refine own_iloadN X0 hx 73 (hb hby d21_72) rfl rfl ?_
          refine own_sipush X0 hx 76 (237 : Int32) (by decide) (hb hby d21_73) rfl ?_
          have J27 : ∀ (hi : Int32) (hj28 : hi.toInt = if ld.toInt = 237 then 159 else 191), own_W p e below (own_K s ({ frames := 0, cells := 0, slots := 0, locals := 0 } : Room) (fun v h L => ∃ r : Int32, v = some (.int r) ∧ r.toInt = own_sp ((f 1).toInt % 256) ((f 2).toInt % 256) ((f 3).toInt % 256) ((f 4).toInt % 256) (p2.toInt - 1) ∧ Fr n0 L ∧ h = h0)) T0 (mkF m 87 #[.val (.ref a), .val (.int (1 : Int32)), .val (.int p2), .val (.int ld), .val (.int (3 : Int32)), .val (.int lo), .val (.int (191 : Int32)), .unset, .unset] [(.int hi)]) := by
            intro hi hj28
            refine own_istore X0 hx 89 #[.val (.ref a), .val (.int (1 : Int32)), .val (.int p2), .val (.int ld), .val (.int (3 : Int32)), .val (.int lo), .val (.int hi), .unset, .unset] rfl (hb hby d21_87) rfl rfl ?_
            refine own_goto X0 hx 148 (hb hby d21_89) (by decide) (by decide) ?_
            have hro : (p2 - (1 : Int32)).toInt = p2.toInt - 1 := own_sub p2 (1 : Int32) 1 rfl (by decide) hp2
            refine own_iloadN X0 hx 149 (hb hby d21_148) rfl rfl ?_
            refine own_iloadN X0 hx 150 (hb hby d21_149) rfl rfl ?_
            refine own_isub X0 hx 151 (hb hby d21_150) rfl ?_
            refine own_iload X0 hx 153 (hb hby d21_151) rfl rfl ?_
            refine own_icmp_ge X0 hx 158 156 (hb hby d21_153) (by decide) (by decide) rfl (fun h29 => ?_) (fun h29 => ?_)
            · show own_W p e below _ T0 (mkF m 158 #[.val (.ref a), .val (.int (1 : Int32)), .val (.int p2), .val (.int ld), .val (.int (3 : Int32)), .val (.int lo), .val (.int hi), .unset, .unset] [])
              refine own_aloadN X0 hx 159 (hb hby d21_158) rfl rfl ?_
              refine own_iloadN X0 hx 160 (hb hby d21_159) rfl rfl ?_
              refine own_iconst X0 hx 161 (1 : Int32) (by decide) (hb hby d21_160) rfl ?_
              refine own_iaddz X0 hx 162 (z := (2 : Int32)) (by decide) (hb hby d21_161) rfl ?_
              refine own_baload X0 hx hZ e0 163 2 A_a rfl (by decide) (hb hby d21_162) rfl ?_
              refine own_sipush X0 hx 166 (255 : Int32) (by decide) (hb hby d21_163) rfl ?_
              refine own_iand X0 hx 167 (hb hby d21_166) rfl ?_
              obtain ⟨sc, e_sc⟩ : ∃ z : Int32, z = ((f 2) &&& (255 : Int32)) := ⟨_, rfl⟩
              refine own_istore X0 hx 169 #[.val (.ref a), .val (.int (1 : Int32)), .val (.int p2), .val (.int ld), .val (.int (3 : Int32)), .val (.int lo), .val (.int hi), .val (.int sc), .unset] e_sc (hb hby d21_167) rfl rfl ?_
              have hsc := own_m8 sc _ e_sc
              refine own_iload X0 hx 171 (hb hby d21_169) rfl rfl ?_
              refine own_iload X0 hx 173 (hb hby d21_171) rfl rfl ?_
              refine own_icmp_lt X0 hx 183 176 (hb hby d21_173) (by decide) (by decide) rfl (fun h30 => ?_) (fun h30 => ?_)
              · show own_W p e below _ T0 (mkF m 183 #[.val (.ref a), .val (.int (1 : Int32)), .val (.int p2), .val (.int ld), .val (.int (3 : Int32)), .val (.int lo), .val (.int hi), .val (.int sc), .unset] [])
                refine own_iconst X0 hx 184 (0 : Int32) (by decide) (hb hby d21_183) rfl ?_
                try (simp only [Int32.lt_iff_toInt_lt, ← Int32.toInt_inj, own_192, own_k0, own_k1, own_k2, own_k3, own_k4, own_k128, own_k143, own_k144, own_k159, own_k160, own_k191, own_k192, own_k194, own_k223, own_k224, own_k237, own_k239, own_k240, own_k244, own_k248, own_k2048, own_k55296, own_k57343, own_k65536, own_k1114111] at h23 h24 h29 h30)
                exact own_retI X0 hx hret hlk (hb hby d21_184) (by decide) (by decide) ⟨_, rfl, by unfold own_sp; simp only [Int32.lt_iff_toInt_lt, ← Int32.toInt_inj, own_192, own_k0, own_k1, own_k2, own_k3, own_k4, own_k128, own_k143, own_k144, own_k159, own_k160, own_k191, own_k192, own_k194, own_k223, own_k224, own_k237, own_k239, own_k240, own_k244, own_k248, own_k2048, own_k55296, own_k57343, own_k65536, own_k1114111]; (repeat' split) <;> omega, N0, e0⟩
              · show own_W p e below _ T0 (mkF m 176 #[.val (.ref a), .val (.int (1 : Int32)), .val (.int p2), .val (.int ld), .val (.int (3 : Int32)), .val (.int lo), .val (.int hi), .val (.int sc), .unset] [])
                refine own_iload X0 hx 178 (hb hby d21_176) rfl rfl ?_
                refine own_iload X0 hx 180 (hb hby d21_178) rfl rfl ?_
                refine own_icmp_le X0 hx 185 183 (hb hby d21_180) (by decide) (by decide) rfl (fun h31 => ?_) (fun h31 => ?_)
                · show own_W p e below _ T0 (mkF m 185 #[.val (.ref a), .val (.int (1 : Int32)), .val (.int p2), .val (.int ld), .val (.int (3 : Int32)), .val (.int lo), .val (.int hi), .val (.int sc), .unset] [])
                  refine own_iconst X0 hx 186 (2 : Int32) (by decide) (hb hby d21_185) rfl ?_
                  refine own_istore X0 hx 188 #[.val (.ref a), .val (.int (1 : Int32)), .val (.int p2), .val (.int ld), .val (.int (3 : Int32)), .val (.int lo), .val (.int hi), .val (.int sc), .val (.int (2 : Int32))] rfl (hb hby d21_186) rfl rfl ?_
                  refine own_iload X0 hx 190 (hb hby d21_188) rfl rfl ?_
                  refine own_iload X0 hx 192 (hb hby d21_190) rfl rfl ?_
                  refine own_icmp_ge X0 hx 219 195 (hb hby d21_192) (by decide) (by decide) rfl (fun h32 => ?_) (fun h32 => ?_)
                  · exact absurd h32 (by decide)
                  · show own_W p e below _ T0 (mkF m 195 #[.val (.ref a), .val (.int (1 : Int32)), .val (.int p2), .val (.int ld), .val (.int (3 : Int32)), .val (.int lo), .val (.int hi), .val (.int sc), .val (.int (2 : Int32))] [])
                    refine own_aloadN X0 hx 196 (hb hby d21_195) rfl rfl ?_
                    refine own_iloadN X0 hx 197 (hb hby d21_196) rfl rfl ?_
                    refine own_iload X0 hx 199 (hb hby d21_197) rfl rfl ?_
                    refine own_iaddz X0 hx 200 (z := (3 : Int32)) (by decide) (hb hby d21_199) rfl ?_
                    refine own_baload X0 hx hZ e0 201 3 A_a rfl (by decide) (hb hby d21_200) rfl ?_
                    refine own_sipush X0 hx 204 (192 : Int32) (by decide) (hb hby d21_201) rfl ?_
                    refine own_iand X0 hx 205 (hb hby d21_204) rfl ?_
                    refine own_sipush X0 hx 208 (128 : Int32) (by decide) (hb hby d21_205) rfl ?_
                    refine own_icmp_eq X0 hx 213 211 (hb hby d21_208) (by decide) (by decide) rfl (fun h33 => ?_) (fun h33 => ?_)
                    · show own_W p e below _ T0 (mkF m 213 #[.val (.ref a), .val (.int (1 : Int32)), .val (.int p2), .val (.int ld), .val (.int (3 : Int32)), .val (.int lo), .val (.int hi), .val (.int sc), .val (.int (2 : Int32))] [])
                      refine own_iinc X0 hx (3 : Int32) 216 #[.val (.ref a), .val (.int (1 : Int32)), .val (.int p2), .val (.int ld), .val (.int (3 : Int32)), .val (.int lo), .val (.int hi), .val (.int sc), .val (.int (3 : Int32))] (by decide) (hb hby d21_213) rfl rfl rfl ?_
                      refine own_goto X0 hx 188 (hb hby d21_216) (by decide) (by decide) ?_
                      refine own_iload X0 hx 190 (hb hby d21_188) rfl rfl ?_
                      refine own_iload X0 hx 192 (hb hby d21_190) rfl rfl ?_
                      refine own_icmp_ge X0 hx 219 195 (hb hby d21_192) (by decide) (by decide) rfl (fun h34 => ?_) (fun h34 => ?_)
                      · show own_W p e below _ T0 (mkF m 219 #[.val (.ref a), .val (.int (1 : Int32)), .val (.int p2), .val (.int ld), .val (.int (3 : Int32)), .val (.int lo), .val (.int hi), .val (.int sc), .val (.int (3 : Int32))] [])
                        refine own_iload X0 hx 221 (hb hby d21_219) rfl rfl ?_
                        try (simp only [Int32.lt_iff_toInt_lt, ← Int32.toInt_inj, own_192, own_k0, own_k1, own_k2, own_k3, own_k4, own_k128, own_k143, own_k144, own_k159, own_k160, own_k191, own_k192, own_k194, own_k223, own_k224, own_k237, own_k239, own_k240, own_k244, own_k248, own_k2048, own_k55296, own_k57343, own_k65536, own_k1114111] at h23 h24 h29 h30 h31 h33)
                        exact own_retI X0 hx hret hlk (hb hby d21_221) (by decide) (by decide) ⟨_, rfl, by unfold own_sp; simp only [Int32.lt_iff_toInt_lt, ← Int32.toInt_inj, own_192, own_k0, own_k1, own_k2, own_k3, own_k4, own_k128, own_k143, own_k144, own_k159, own_k160, own_k191, own_k192, own_k194, own_k223, own_k224, own_k237, own_k239, own_k240, own_k244, own_k248, own_k2048, own_k55296, own_k57343, own_k65536, own_k1114111]; (repeat' split) <;> omega, N0, e0⟩
                      · exact absurd h34 (by decide)
                    · show own_W p e below _ T0 (mkF m 211 #[.val (.ref a), .val (.int (1 : Int32)), .val (.int p2), .val (.int ld), .val (.int (3 : Int32)), .val (.int lo), .val (.int hi), .val (.int sc), .val (.int (2 : Int32))] [])
                      refine own_iconst X0 hx 212 (0 : Int32) (by decide) (hb hby d21_211) rfl ?_
                      try (simp only [Int32.lt_iff_toInt_lt, ← Int32.toInt_inj, own_192, own_k0, own_k1, own_k2, own_k3, own_k4, own_k128, own_k143, own_k144, own_k159, own_k160, own_k191, own_k192, own_k194, own_k223, own_k224, own_k237, own_k239, own_k240, own_k244, own_k248, own_k2048, own_k55296, own_k57343, own_k65536, own_k1114111] at h23 h24 h29 h30 h31 h33)
                      exact own_retI X0 hx hret hlk (hb hby d21_212) (by decide) (by decide) ⟨_, rfl, by unfold own_sp; simp only [Int32.lt_iff_toInt_lt, ← Int32.toInt_inj, own_192, own_k0, own_k1, own_k2, own_k3, own_k4, own_k128, own_k143, own_k144, own_k159, own_k160, own_k191, own_k192, own_k194, own_k223, own_k224, own_k237, own_k239, own_k240, own_k244, own_k248, own_k2048, own_k55296, own_k57343, own_k65536, own_k1114111]; (repeat' split) <;> omega, N0, e0⟩
                · show own_W p e below _ T0 (mkF m 183 #[.val (.ref a), .val (.int (1 : Int32)), .val (.int p2), .val (.int ld), .val (.int (3 : Int32)), .val (.int lo), .val (.int hi), .val (.int sc), .unset] [])
                  refine own_iconst X0 hx 184 (0 : Int32) (by decide) (hb hby d21_183) rfl ?_
                  try (simp only [Int32.lt_iff_toInt_lt, ← Int32.toInt_inj, own_192, own_k0, own_k1, own_k2, own_k3, own_k4, own_k128, own_k143, own_k144, own_k159, own_k160, own_k191, own_k192, own_k194, own_k223, own_k224, own_k237, own_k239, own_k240, own_k244, own_k248, own_k2048, own_k55296, own_k57343, own_k65536, own_k1114111] at h23 h24 h29 h30 h31)
                  exact own_retI X0 hx hret hlk (hb hby d21_184) (by decide) (by decide) ⟨_, rfl, by unfold own_sp; simp only [Int32.lt_iff_toInt_lt, ← Int32.toInt_inj, own_192, own_k0, own_k1, own_k2, own_k3, own_k4, own_k128, own_k143, own_k144, own_k159, own_k160, own_k191, own_k192, own_k194, own_k223, own_k224, own_k237, own_k239, own_k240, own_k244, own_k248, own_k2048, own_k55296, own_k57343, own_k65536, own_k1114111]; (repeat' split) <;> omega, N0, e0⟩
            · show own_W p e below _ T0 (mkF m 156 #[.val (.ref a), .val (.int (1 : Int32)), .val (.int p2), .val (.int ld), .val (.int (3 : Int32)), .val (.int lo), .val (.int hi), .unset, .unset] [])
              refine own_iconst X0 hx 157 (0 : Int32) (by decide) (hb hby d21_156) rfl ?_
              try (simp only [Int32.lt_iff_toInt_lt, ← Int32.toInt_inj, own_192, own_k0, own_k1, own_k2, own_k3, own_k4, own_k128, own_k143, own_k144, own_k159, own_k160, own_k191, own_k192, own_k194, own_k223, own_k224, own_k237, own_k239, own_k240, own_k244, own_k248, own_k2048, own_k55296, own_k57343, own_k65536, own_k1114111] at h23 h24 h29)
              exact own_retI X0 hx hret hlk (hb hby d21_157) (by decide) (by decide) ⟨_, rfl, by unfold own_sp; simp only [Int32.lt_iff_toInt_lt, ← Int32.toInt_inj, own_192, own_k0, own_k1, own_k2, own_k3, own_k4, own_k128, own_k143, own_k144, own_k159, own_k160, own_k191, own_k192, own_k194, own_k223, own_k224, own_k237, own_k239, own_k240, own_k244, own_k248, own_k2048, own_k55296, own_k57343, own_k65536, own_k1114111]; (repeat' split) <;> omega, N0, e0⟩
          refine own_icmp_ne X0 hx 85 79 (hb hby d21_76) (by decide) (by decide) rfl (fun h35 => ?_) (fun h35 => ?_)
          · show own_W p e below _ T0 (mkF m 85 #[.val (.ref a), .val (.int (1 : Int32)), .val (.int p2), .val (.int ld), .val (.int (3 : Int32)), .val (.int lo), .val (.int (191 : Int32)), .unset, .unset] [])
            refine own_iload X0 hx 87 (hb hby d21_85) rfl rfl ?_
            exact J27 (191 : Int32) (by simp only [Int32.lt_iff_toInt_lt, ← Int32.toInt_inj, own_192, own_k0, own_k1, own_k2, own_k3, own_k4, own_k128, own_k143, own_k144, own_k159, own_k160, own_k191, own_k192, own_k194, own_k223, own_k224, own_k237, own_k239, own_k240, own_k244, own_k248, own_k2048, own_k55296, own_k57343, own_k65536, own_k1114111] at h35; rw [if_neg h35]; rfl)
          · show own_W p e below _ T0 (mkF m 79 #[.val (.ref a), .val (.int (1 : Int32)), .val (.int p2), .val (.int ld), .val (.int (3 : Int32)), .val (.int lo), .val (.int (191 : Int32)), .unset, .unset] [])
            refine own_sipush X0 hx 82 (159 : Int32) (by decide) (hb hby d21_79) rfl ?_
            refine own_goto X0 hx 87 (hb hby d21_82) (by decide) (by decide) ?_
            exact J27 (159 : Int32) (by simp only [Int32.lt_iff_toInt_lt, ← Int32.toInt_inj, own_192, own_k0, own_k1, own_k2, own_k3, own_k4, own_k128, own_k143, own_k144, own_k159, own_k160, own_k191, own_k192, own_k194, own_k223, own_k224, own_k237, own_k239, own_k240, own_k244, own_k248, own_k2048, own_k55296, own_k57343, own_k65536, own_k1114111] at h35; rw [if_pos h35]; rfl)
        refine own_icmp_ne X0 hx 68 62 (hb hby d21_59) (by decide) (by decide) rfl (fun h36 => ?_) (fun h36 => ?_)
        · show own_W p e below _ T0 (mkF m 68 #[.val (.ref a), .val (.int (1 : Int32)), .val (.int p2), .val (.int ld), .val (.int (3 : Int32)), .val (.int (128 : Int32)), .val (.int (191 : Int32)), .unset, .unset] [])
          refine own_iload X0 hx 70 (hb hby d21_68) rfl rfl ?_
          exact J25 (128 : Int32) (by simp only [Int32.lt_iff_toInt_lt, ← Int32.toInt_inj, own_192, own_k0, own_k1, own_k2, own_k3, own_k4, own_k128, own_k143, own_k144, own_k159, own_k160, own_k191, own_k192, own_k194, own_k223, own_k224, own_k237, own_k239, own_k240, own_k244, own_k248, own_k2048, own_k55296, own_k57343, own_k65536, own_k1114111] at h36; rw [if_neg h36]; rfl)
        · show own_W p e below _ T0 (mkF m 62 #[.val (.ref a), .val (.int (1 : Int32)), .val (.int p2), .val (.int ld), .val (.int (3 : Int32)), .val (.int (128 : Int32)), .val (.int (191 : Int32)), .unset, .unset] [])
          refine own_sipush X0 hx 65 (160 : Int32) (by decide) (hb hby d21_62) rfl ?_
          refine own_goto X0 hx 70 (hb hby d21_65) (by decide) (by decide) ?_
          exact J25 (160 : Int32) (by simp only [Int32.lt_iff_toInt_lt, ← Int32.toInt_inj, own_192, own_k0, own_k1, own_k2, own_k3, own_k4, own_k128, own_k143, own_k144, own_k159, own_k160, own_k191, own_k192, own_k194, own_k223, own_k224, own_k237, own_k239, own_k240, own_k244, own_k248, own_k2048, own_k55296, own_k57343, own_k65536, own_k1114111] at h36; rw [if_pos h36]; rfl)
  refine own_icmp_lt X0 hx 38 25 (hb hby d21_22) (by decide) (by decide) rfl (fun h37 => ?_) (fun h37 => ?_)
  · show own_W p e below _ T0 (mkF m 38 #[.val (.ref a), .val (.int (1 : Int32)), .val (.int p2), .val (.int ld), .unset, .val (.int (128 : Int32)), .val (.int (191 : Int32)), .unset, .unset] [])
    exact J1  (by simp only [Int32.lt_iff_toInt_lt, ← Int32.toInt_inj, own_192, own_k0, own_k1, own_k2, own_k3, own_k4, own_k128, own_k143, own_k144, own_k159, own_k160, own_k191, own_k192, own_k194, own_k223, own_k224, own_k237, own_k239, own_k240, own_k244, own_k248, own_k2048, own_k55296, own_k57343, own_k65536, own_k1114111] at h37; omega)
  · show own_W p e below _ T0 (mkF m 25 #[.val (.ref a), .val (.int (1 : Int32)), .val (.int p2), .val (.int ld), .unset, .val (.int (128 : Int32)), .val (.int (191 : Int32)), .unset, .unset] [])
    refine own_iloadN X0 hx 26 (hb hby d21_25) rfl rfl ?_
    refine own_sipush X0 hx 29 (223 : Int32) (by decide) (hb hby d21_26) rfl ?_
    refine own_icmp_gt X0 hx 38 32 (hb hby d21_29) (by decide) (by decide) rfl (fun h38 => ?_) (fun h38 => ?_)
    · show own_W p e below _ T0 (mkF m 38 #[.val (.ref a), .val (.int (1 : Int32)), .val (.int p2), .val (.int ld), .unset, .val (.int (128 : Int32)), .val (.int (191 : Int32)), .unset, .unset] [])
      exact J1  (by simp only [Int32.lt_iff_toInt_lt, ← Int32.toInt_inj, own_192, own_k0, own_k1, own_k2, own_k3, own_k4, own_k128, own_k143, own_k144, own_k159, own_k160, own_k191, own_k192, own_k194, own_k223, own_k224, own_k237, own_k239, own_k240, own_k244, own_k248, own_k2048, own_k55296, own_k57343, own_k65536, own_k1114111] at h37 h38; omega)
    · show own_W p e below _ T0 (mkF m 32 #[.val (.ref a), .val (.int (1 : Int32)), .val (.int p2), .val (.int ld), .unset, .val (.int (128 : Int32)), .val (.int (191 : Int32)), .unset, .unset] [])
      refine own_iconst X0 hx 33 (2 : Int32) (by decide) (hb hby d21_32) rfl ?_
      refine own_istore X0 hx 35 #[.val (.ref a), .val (.int (1 : Int32)), .val (.int p2), .val (.int ld), .val (.int (2 : Int32)), .val (.int (128 : Int32)), .val (.int (191 : Int32)), .unset, .unset] rfl (hb hby d21_33) rfl rfl ?_
      refine own_goto X0 hx 148 (hb hby d21_35) (by decide) (by decide) ?_
      have hro : (p2 - (1 : Int32)).toInt = p2.toInt - 1 := own_sub p2 (1 : Int32) 1 rfl (by decide) hp2
      refine own_iloadN X0 hx 149 (hb hby d21_148) rfl rfl ?_
      refine own_iloadN X0 hx 150 (hb hby d21_149) rfl rfl ?_
      refine own_isub X0 hx 151 (hb hby d21_150) rfl ?_
      refine own_iload X0 hx 153 (hb hby d21_151) rfl rfl ?_
      refine own_icmp_ge X0 hx 158 156 (hb hby d21_153) (by decide) (by decide) rfl (fun h39 => ?_) (fun h39 => ?_)
      · show own_W p e below _ T0 (mkF m 158 #[.val (.ref a), .val (.int (1 : Int32)), .val (.int p2), .val (.int ld), .val (.int (2 : Int32)), .val (.int (128 : Int32)), .val (.int (191 : Int32)), .unset, .unset] [])
        refine own_aloadN X0 hx 159 (hb hby d21_158) rfl rfl ?_
        refine own_iloadN X0 hx 160 (hb hby d21_159) rfl rfl ?_
        refine own_iconst X0 hx 161 (1 : Int32) (by decide) (hb hby d21_160) rfl ?_
        refine own_iaddz X0 hx 162 (z := (2 : Int32)) (by decide) (hb hby d21_161) rfl ?_
        refine own_baload X0 hx hZ e0 163 2 A_a rfl (by decide) (hb hby d21_162) rfl ?_
        refine own_sipush X0 hx 166 (255 : Int32) (by decide) (hb hby d21_163) rfl ?_
        refine own_iand X0 hx 167 (hb hby d21_166) rfl ?_
        obtain ⟨sc, e_sc⟩ : ∃ z : Int32, z = ((f 2) &&& (255 : Int32)) := ⟨_, rfl⟩
        refine own_istore X0 hx 169 #[.val (.ref a), .val (.int (1 : Int32)), .val (.int p2), .val (.int ld), .val (.int (2 : Int32)), .val (.int (128 : Int32)), .val (.int (191 : Int32)), .val (.int sc), .unset] e_sc (hb hby d21_167) rfl rfl ?_
        have hsc := own_m8 sc _ e_sc
        refine own_iload X0 hx 171 (hb hby d21_169) rfl rfl ?_
        refine own_iload X0 hx 173 (hb hby d21_171) rfl rfl ?_
        refine own_icmp_lt X0 hx 183 176 (hb hby d21_173) (by decide) (by decide) rfl (fun h40 => ?_) (fun h40 => ?_)
        · show own_W p e below _ T0 (mkF m 183 #[.val (.ref a), .val (.int (1 : Int32)), .val (.int p2), .val (.int ld), .val (.int (2 : Int32)), .val (.int (128 : Int32)), .val (.int (191 : Int32)), .val (.int sc), .unset] [])
          refine own_iconst X0 hx 184 (0 : Int32) (by decide) (hb hby d21_183) rfl ?_
          try (simp only [Int32.lt_iff_toInt_lt, ← Int32.toInt_inj, own_192, own_k0, own_k1, own_k2, own_k3, own_k4, own_k128, own_k143, own_k144, own_k159, own_k160, own_k191, own_k192, own_k194, own_k223, own_k224, own_k237, own_k239, own_k240, own_k244, own_k248, own_k2048, own_k55296, own_k57343, own_k65536, own_k1114111] at h37 h38 h39 h40)
          exact own_retI X0 hx hret hlk (hb hby d21_184) (by decide) (by decide) ⟨_, rfl, by unfold own_sp; simp only [Int32.lt_iff_toInt_lt, ← Int32.toInt_inj, own_192, own_k0, own_k1, own_k2, own_k3, own_k4, own_k128, own_k143, own_k144, own_k159, own_k160, own_k191, own_k192, own_k194, own_k223, own_k224, own_k237, own_k239, own_k240, own_k244, own_k248, own_k2048, own_k55296, own_k57343, own_k65536, own_k1114111]; (repeat' split) <;> omega, N0, e0⟩
        · show own_W p e below _ T0 (mkF m 176 #[.val (.ref a), .val (.int (1 : Int32)), .val (.int p2), .val (.int ld), .val (.int (2 : Int32)), .val (.int (128 : Int32)), .val (.int (191 : Int32)), .val (.int sc), .unset] [])
          refine own_iload X0 hx 178 (hb hby d21_176) rfl rfl ?_
          refine own_iload X0 hx 180 (hb hby d21_178) rfl rfl ?_
          refine own_icmp_le X0 hx 185 183 (hb hby d21_180) (by decide) (by decide) rfl (fun h41 => ?_) (fun h41 => ?_)
          · show own_W p e below _ T0 (mkF m 185 #[.val (.ref a), .val (.int (1 : Int32)), .val (.int p2), .val (.int ld), .val (.int (2 : Int32)), .val (.int (128 : Int32)), .val (.int (191 : Int32)), .val (.int sc), .unset] [])
            refine own_iconst X0 hx 186 (2 : Int32) (by decide) (hb hby d21_185) rfl ?_
            refine own_istore X0 hx 188 #[.val (.ref a), .val (.int (1 : Int32)), .val (.int p2), .val (.int ld), .val (.int (2 : Int32)), .val (.int (128 : Int32)), .val (.int (191 : Int32)), .val (.int sc), .val (.int (2 : Int32))] rfl (hb hby d21_186) rfl rfl ?_
            refine own_iload X0 hx 190 (hb hby d21_188) rfl rfl ?_
            refine own_iload X0 hx 192 (hb hby d21_190) rfl rfl ?_
            refine own_icmp_ge X0 hx 219 195 (hb hby d21_192) (by decide) (by decide) rfl (fun h42 => ?_) (fun h42 => ?_)
            · show own_W p e below _ T0 (mkF m 219 #[.val (.ref a), .val (.int (1 : Int32)), .val (.int p2), .val (.int ld), .val (.int (2 : Int32)), .val (.int (128 : Int32)), .val (.int (191 : Int32)), .val (.int sc), .val (.int (2 : Int32))] [])
              refine own_iload X0 hx 221 (hb hby d21_219) rfl rfl ?_
              try (simp only [Int32.lt_iff_toInt_lt, ← Int32.toInt_inj, own_192, own_k0, own_k1, own_k2, own_k3, own_k4, own_k128, own_k143, own_k144, own_k159, own_k160, own_k191, own_k192, own_k194, own_k223, own_k224, own_k237, own_k239, own_k240, own_k244, own_k248, own_k2048, own_k55296, own_k57343, own_k65536, own_k1114111] at h37 h38 h39 h40 h41)
              exact own_retI X0 hx hret hlk (hb hby d21_221) (by decide) (by decide) ⟨_, rfl, by unfold own_sp; simp only [Int32.lt_iff_toInt_lt, ← Int32.toInt_inj, own_192, own_k0, own_k1, own_k2, own_k3, own_k4, own_k128, own_k143, own_k144, own_k159, own_k160, own_k191, own_k192, own_k194, own_k223, own_k224, own_k237, own_k239, own_k240, own_k244, own_k248, own_k2048, own_k55296, own_k57343, own_k65536, own_k1114111]; (repeat' split) <;> omega, N0, e0⟩
            · exact absurd h42 (by decide)
          · show own_W p e below _ T0 (mkF m 183 #[.val (.ref a), .val (.int (1 : Int32)), .val (.int p2), .val (.int ld), .val (.int (2 : Int32)), .val (.int (128 : Int32)), .val (.int (191 : Int32)), .val (.int sc), .unset] [])
            refine own_iconst X0 hx 184 (0 : Int32) (by decide) (hb hby d21_183) rfl ?_
            try (simp only [Int32.lt_iff_toInt_lt, ← Int32.toInt_inj, own_192, own_k0, own_k1, own_k2, own_k3, own_k4, own_k128, own_k143, own_k144, own_k159, own_k160, own_k191, own_k192, own_k194, own_k223, own_k224, own_k237, own_k239, own_k240, own_k244, own_k248, own_k2048, own_k55296, own_k57343, own_k65536, own_k1114111] at h37 h38 h39 h40 h41)
            exact own_retI X0 hx hret hlk (hb hby d21_184) (by decide) (by decide) ⟨_, rfl, by unfold own_sp; simp only [Int32.lt_iff_toInt_lt, ← Int32.toInt_inj, own_192, own_k0, own_k1, own_k2, own_k3, own_k4, own_k128, own_k143, own_k144, own_k159, own_k160, own_k191, own_k192, own_k194, own_k223, own_k224, own_k237, own_k239, own_k240, own_k244, own_k248, own_k2048, own_k55296, own_k57343, own_k65536, own_k1114111]; (repeat' split) <;> omega, N0, e0⟩
      · show own_W p e below _ T0 (mkF m 156 #[.val (.ref a), .val (.int (1 : Int32)), .val (.int p2), .val (.int ld), .val (.int (2 : Int32)), .val (.int (128 : Int32)), .val (.int (191 : Int32)), .unset, .unset] [])
        refine own_iconst X0 hx 157 (0 : Int32) (by decide) (hb hby d21_156) rfl ?_
        try (simp only [Int32.lt_iff_toInt_lt, ← Int32.toInt_inj, own_192, own_k0, own_k1, own_k2, own_k3, own_k4, own_k128, own_k143, own_k144, own_k159, own_k160, own_k191, own_k192, own_k194, own_k223, own_k224, own_k237, own_k239, own_k240, own_k244, own_k248, own_k2048, own_k55296, own_k57343, own_k65536, own_k1114111] at h37 h38 h39)
        exact own_retI X0 hx hret hlk (hb hby d21_157) (by decide) (by decide) ⟨_, rfl, by unfold own_sp; simp only [Int32.lt_iff_toInt_lt, ← Int32.toInt_inj, own_192, own_k0, own_k1, own_k2, own_k3, own_k4, own_k128, own_k143, own_k144, own_k159, own_k160, own_k191, own_k192, own_k194, own_k223, own_k224, own_k237, own_k239, own_k240, own_k244, own_k248, own_k2048, own_k55296, own_k57343, own_k65536, own_k1114111]; (repeat' split) <;> omega, N0, e0⟩
set_option maxRecDepth 65536 in
set_option maxHeartbeats 40000000 in
theorem rm0 (l : Launch) (Z : State) (a0 : Array Value) (hw : ∀ d ∈ tables_1, d.before a0 Z = true) (p0 : Int32) (p1 : Int32) (p2 : Int32) (p3 : Int32) (p4 : Int32) (h0 : Heap) (n0 : Nat) (Z0 : n0 ≤ h0.size)  :
    own_C l Z x code maxLocals ret tables_1 room_1 #[(.int p0), (.int p1), (.int p2), (.int p3), (.int p4)] h0 (fun v h L => v = some (.int 1) ∧ Fr n0 L) := by
  refine own_body (by first | (simp [plainName, overriddenIn]; done) | decide +kernel) ?_
  intro p e s m below meth c T0 hx hby hml hown hnm hret hlk hZ X0 e0
  have N0 := Fr.nil n0
  refine own_eq (f' := (mkF m 0 #[.val (.int p0), .val (.int p1), .val (.int p2), .val (.int p3), .val (.int p4), .unset, .unset, .unset, .unset, .unset, .unset, .unset, .unset, .unset, .unset, .unset, .unset, .unset, .unset, .unset] [])) (by first | (simp [entryFrame, mkF, argsToLocals, Value.category, maxLocals]; done) | rfl) ?_
  refine own_iload X0 hx 2 (hb hby at_0) rfl rfl ?_
  refine own_iconst X0 hx 3 (1 : Int32) (by decide) (hb hby at_2) rfl ?_
  refine own_iand X0 hx 4 (hb hby at_3) rfl ?_
  obtain ⟨vo, e_vo⟩ : ∃ z : Int32, z = (p4 &&& (1 : Int32)) := ⟨_, rfl⟩
  refine own_istore X0 hx 6 #[.val (.int p0), .val (.int p1), .val (.int p2), .val (.int p3), .val (.int p4), .val (.int vo), .unset, .unset, .unset, .unset, .unset, .unset, .unset, .unset, .unset, .unset, .unset, .unset, .unset, .unset] e_vo (hb hby at_4) rfl rfl ?_
  rcases own_o p4 vo e_vo with rfl | rfl
  · show own_W p e below _ T0 (mkF m 6 #[.val (.int p0), .val (.int p1), .val (.int p2), .val (.int p3), .val (.int p4), .val (.int (0 : Int32)), .unset, .unset, .unset, .unset, .unset, .unset, .unset, .unset, .unset, .unset, .unset, .unset, .unset, .unset] [])
    refine own_iload X0 hx 8 (hb hby at_6) rfl rfl ?_
    refine own_iconst X0 hx 9 (1 : Int32) (by decide) (hb hby at_8) rfl ?_
    refine own_iushr X0 hx 10 (hb hby at_9) rfl ?_
    refine own_bipush X0 hx 12 (6 : Int32) (by decide) (hb hby at_10) rfl ?_
    refine own_iload X0 hx 14 (hb hby at_12) rfl rfl ?_
    refine own_isubz X0 hx 15 (z := (6 : Int32)) (by decide) (hb hby at_14) rfl ?_
    refine own_irem X0 hx 16 (by decide) (hb hby at_15) rfl ?_
    obtain ⟨vr, e_vr⟩ : ∃ z : Int32, z = (((p4.toUInt32 >>> ((1 : Int32) &&& 31).toUInt32).toInt32) % (6 : Int32)) := ⟨_, rfl⟩
    refine own_istore X0 hx 18 #[.val (.int p0), .val (.int p1), .val (.int p2), .val (.int p3), .val (.int p4), .val (.int (0 : Int32)), .val (.int vr), .unset, .unset, .unset, .unset, .unset, .unset, .unset, .unset, .unset, .unset, .unset, .unset, .unset] e_vr (hb hby at_16) rfl rfl ?_
    have hvr := own_rm p4 (6 : Int32) vr 6 rfl (by decide) e_vr
    refine own_iload X0 hx 20 (hb hby at_18) rfl rfl ?_
    refine own_iload X0 hx 22 (hb hby at_20) rfl rfl ?_
    refine own_iadd X0 hx 23 (hb hby at_22) rfl ?_
    obtain ⟨vt, e_vt⟩ : ∃ z : Int32, z = ((0 : Int32) + vr) := ⟨_, rfl⟩
    refine own_istore X0 hx 25 #[.val (.int p0), .val (.int p1), .val (.int p2), .val (.int p3), .val (.int p4), .val (.int (0 : Int32)), .val (.int vr), .val (.int vt), .unset, .unset, .unset, .unset, .unset, .unset, .unset, .unset, .unset, .unset, .unset, .unset] e_vt (hb hby at_23) rfl rfl ?_
    have hvt := own_tt vr vt (0 : Int32) 0 rfl (by decide) (by omega) e_vt
    refine own_iload X0 hx 27 (hb hby at_25) rfl rfl ?_
    refine own_bipush X0 hx 29 (8 : Int32) (by decide) (hb hby at_27) rfl ?_
    refine own_iushr X0 hx 30 (hb hby at_29) rfl ?_
    refine own_i2b X0 hx 31 (hb hby at_30) rfl ?_
    obtain ⟨vf, e_vf⟩ : ∃ z : Int32, z = (((p4.toUInt32 >>> ((8 : Int32) &&& 31).toUInt32).toInt32).toInt8.toInt32) := ⟨_, rfl⟩
    refine own_istore X0 hx 33 #[.val (.int p0), .val (.int p1), .val (.int p2), .val (.int p3), .val (.int p4), .val (.int (0 : Int32)), .val (.int vr), .val (.int vt), .val (.int vf), .unset, .unset, .unset, .unset, .unset, .unset, .unset, .unset, .unset, .unset, .unset] e_vf (hb hby at_31) rfl rfl ?_
    refine own_iconst X0 hx 34 (5 : Int32) (by decide) (hb hby at_33) rfl ?_
    refine own_newI X0 hx hZ e0 (n := 5) (cap := 5) 36 .byte rfl rfl (hw _ (List.mem_of_getElem? (i := 0) rfl)) rfl (by decide) (by decide) (hb hby at_34) rfl (by decide) (by decide) (fun T1 h2 a3 X4 e5 g6 E7 A8 => ?_)
    have ga9 : n0 ≤ a3 := by rw [g6]; exact Z0
    have Z10 : n0 ≤ h2.size := Nat.le_trans Z0 E7.1
    refine own_astore X4 hx 38 #[.val (.int p0), .val (.int p1), .val (.int p2), .val (.int p3), .val (.int p4), .val (.int (0 : Int32)), .val (.int vr), .val (.int vt), .val (.int vf), .val (.ref a3), .unset, .unset, .unset, .unset, .unset, .unset, .unset, .unset, .unset, .unset] rfl (hb hby at_36) rfl rfl ?_
    refine own_aload X4 hx 40 (hb hby at_38) rfl rfl ?_
    refine own_iconst X4 hx 41 (0 : Int32) (by decide) (hb hby at_40) rfl ?_
    refine own_iload X4 hx 43 (hb hby at_41) rfl rfl ?_
    refine own_bastore X4 hx hZ e5 44 0 A8 rfl (by decide) (hb hby at_43) rfl (fun T11 h12 X13 e14 W15 => ?_)
    have f16 := A8.set W15
    have Z17 : n0 ≤ h12.size := Nat.le_trans Z10 (Keep.of_wr W15).1
    have N18 := Fr.snoc X13 N0 ga9
    refine own_aload X13 hx 46 (hb hby at_44) rfl rfl ?_
    refine own_iconst X13 hx 47 (4 : Int32) (by decide) (hb hby at_46) rfl ?_
    refine own_iload X13 hx 49 (hb hby at_47) rfl rfl ?_
    refine own_bastore X13 hx hZ e14 50 4 f16 rfl (by decide) (hb hby at_49) rfl (fun T19 h20 X21 e22 W23 => ?_)
    have f24 := f16.set W23
    have Z25 : n0 ≤ h20.size := Nat.le_trans Z17 (Keep.of_wr W23).1
    have N26 := Fr.snoc X21 N18 ga9
    refine own_aload X21 hx 52 (hb hby at_50) rfl rfl ?_
    refine own_iload X21 hx 54 (hb hby at_52) rfl rfl ?_
    refine own_iloadN X21 hx 55 (hb hby at_54) rfl rfl ?_
    refine own_i2b X21 hx 56 (hb hby at_55) rfl ?_
    refine own_bastore X21 hx hZ e22 57 0 f24 rfl (by decide) (hb hby at_56) rfl (fun T27 h28 X29 e30 W31 => ?_)
    have f32 := f24.set W31
    have Z33 : n0 ≤ h28.size := Nat.le_trans Z25 (Keep.of_wr W31).1
    have N34 := Fr.snoc X29 N26 ga9
    refine own_aload X29 hx 59 (hb hby at_57) rfl rfl ?_
    refine own_iload X29 hx 61 (hb hby at_59) rfl rfl ?_
    refine own_iconst X29 hx 62 (1 : Int32) (by decide) (hb hby at_61) rfl ?_
    refine own_iaddz X29 hx 63 (z := (1 : Int32)) (by decide) (hb hby at_62) rfl ?_
    refine own_iloadN X29 hx 64 (hb hby at_63) rfl rfl ?_
    refine own_i2b X29 hx 65 (hb hby at_64) rfl ?_
    refine own_bastore X29 hx hZ e30 66 1 f32 rfl (by decide) (hb hby at_65) rfl (fun T35 h36 X37 e38 W39 => ?_)
    have f40 := f32.set W39
    have Z41 : n0 ≤ h36.size := Nat.le_trans Z33 (Keep.of_wr W39).1
    have N42 := Fr.snoc X37 N34 ga9
    refine own_aload X37 hx 68 (hb hby at_66) rfl rfl ?_
    refine own_iload X37 hx 70 (hb hby at_68) rfl rfl ?_
    refine own_iconst X37 hx 71 (2 : Int32) (by decide) (hb hby at_70) rfl ?_
    refine own_iaddz X37 hx 72 (z := (2 : Int32)) (by decide) (hb hby at_71) rfl ?_
    refine own_iloadN X37 hx 73 (hb hby at_72) rfl rfl ?_
    refine own_i2b X37 hx 74 (hb hby at_73) rfl ?_
    refine own_bastore X37 hx hZ e38 75 2 f40 rfl (by decide) (hb hby at_74) rfl (fun T43 h44 X45 e46 W47 => ?_)
    have f48 := f40.set W47
    have Z49 : n0 ≤ h44.size := Nat.le_trans Z41 (Keep.of_wr W47).1
    have N50 := Fr.snoc X45 N42 ga9
    refine own_aload X45 hx 77 (hb hby at_75) rfl rfl ?_
    refine own_iload X45 hx 79 (hb hby at_77) rfl rfl ?_
    refine own_iconst X45 hx 80 (3 : Int32) (by decide) (hb hby at_79) rfl ?_
    refine own_iaddz X45 hx 81 (z := (3 : Int32)) (by decide) (hb hby at_80) rfl ?_
    refine own_iloadN X45 hx 82 (hb hby at_81) rfl rfl ?_
    refine own_i2b X45 hx 83 (hb hby at_82) rfl ?_
    refine own_bastore X45 hx hZ e46 84 3 f48 rfl (by decide) (hb hby at_83) rfl (fun T51 h52 X53 e54 W55 => ?_)
    have f56 := f48.set W55
    have Z57 : n0 ≤ h52.size := Nat.le_trans Z49 (Keep.of_wr W55).1
    have N58 := Fr.snoc X53 N50 ga9
    obtain ⟨fz, e_fz⟩ : ∃ z : Nat → Int32, z = (fun q => if q = 3 then (p3.toInt8.toInt32).toInt8.toInt32 else (fun q => if q = 2 then (p2.toInt8.toInt32).toInt8.toInt32 else (fun q => if q = 1 then (p1.toInt8.toInt32).toInt8.toInt32 else (fun q => if q = 0 then (p0.toInt8.toInt32).toInt8.toInt32 else (fun q => if q = 4 then vf.toInt8.toInt32 else (fun q => if q = 0 then vf.toInt8.toInt32 else (fun _ => 0) q) q) q) q) q) q) := ⟨_, rfl⟩
    rw [← e_fz] at f56
    have hf0 : (fz 0).toInt % 256 = (p0 &&& 255).toInt := by rw [e_fz]; exact own_bz p0
    have hf1 : (fz 1).toInt % 256 = (p1 &&& 255).toInt := by rw [e_fz]; exact own_bz p1
    have hf2 : (fz 2).toInt % 256 = (p2 &&& 255).toInt := by rw [e_fz]; exact own_bz p2
    have hf3 : (fz 3).toInt % 256 = (p3 &&& 255).toInt := by rw [e_fz]; exact own_bz p3
    refine own_iloadN X53 hx 85 (hb hby at_84) rfl rfl ?_
    refine own_sipush X53 hx 88 (255 : Int32) (by decide) (hb hby at_85) rfl ?_
    refine own_iand X53 hx 89 (hb hby at_88) rfl ?_
    obtain ⟨c0, e_c0⟩ : ∃ z : Int32, z = (p0 &&& (255 : Int32)) := ⟨_, rfl⟩
    refine own_istore X53 hx 91 #[.val (.int p0), .val (.int p1), .val (.int p2), .val (.int p3), .val (.int p4), .val (.int (0 : Int32)), .val (.int vr), .val (.int vt), .val (.int vf), .val (.ref a3), .val (.int c0), .unset, .unset, .unset, .unset, .unset, .unset, .unset, .unset, .unset] e_c0 (hb hby at_89) rfl rfl ?_
    refine own_iloadN X53 hx 92 (hb hby at_91) rfl rfl ?_
    refine own_sipush X53 hx 95 (255 : Int32) (by decide) (hb hby at_92) rfl ?_
    refine own_iand X53 hx 96 (hb hby at_95) rfl ?_
    obtain ⟨c1, e_c1⟩ : ∃ z : Int32, z = (p1 &&& (255 : Int32)) := ⟨_, rfl⟩
    refine own_istore X53 hx 98 #[.val (.int p0), .val (.int p1), .val (.int p2), .val (.int p3), .val (.int p4), .val (.int (0 : Int32)), .val (.int vr), .val (.int vt), .val (.int vf), .val (.ref a3), .val (.int c0), .val (.int c1), .unset, .unset, .unset, .unset, .unset, .unset, .unset, .unset] e_c1 (hb hby at_96) rfl rfl ?_
    refine own_iloadN X53 hx 99 (hb hby at_98) rfl rfl ?_
    refine own_sipush X53 hx 102 (255 : Int32) (by decide) (hb hby at_99) rfl ?_
    refine own_iand X53 hx 103 (hb hby at_102) rfl ?_
    obtain ⟨c2, e_c2⟩ : ∃ z : Int32, z = (p2 &&& (255 : Int32)) := ⟨_, rfl⟩
    refine own_istore X53 hx 105 #[.val (.int p0), .val (.int p1), .val (.int p2), .val (.int p3), .val (.int p4), .val (.int (0 : Int32)), .val (.int vr), .val (.int vt), .val (.int vf), .val (.ref a3), .val (.int c0), .val (.int c1), .val (.int c2), .unset, .unset, .unset, .unset, .unset, .unset, .unset] e_c2 (hb hby at_103) rfl rfl ?_
    refine own_iloadN X53 hx 106 (hb hby at_105) rfl rfl ?_
    refine own_sipush X53 hx 109 (255 : Int32) (by decide) (hb hby at_106) rfl ?_
    refine own_iand X53 hx 110 (hb hby at_109) rfl ?_
    obtain ⟨c3, e_c3⟩ : ∃ z : Int32, z = (p3 &&& (255 : Int32)) := ⟨_, rfl⟩
    refine own_istore X53 hx 112 #[.val (.int p0), .val (.int p1), .val (.int p2), .val (.int p3), .val (.int p4), .val (.int (0 : Int32)), .val (.int vr), .val (.int vt), .val (.int vf), .val (.ref a3), .val (.int c0), .val (.int c1), .val (.int c2), .val (.int c3), .unset, .unset, .unset, .unset, .unset, .unset] e_c3 (hb hby at_110) rfl rfl ?_
    have hc0 := own_by c0 p0 e_c0
    rw [← e_c0] at hf0
    have hc1 := own_by c1 p1 e_c1
    rw [← e_c1] at hf1
    have hc2 := own_by c2 p2 e_c2
    rw [← e_c2] at hf2
    have hc3 := own_by c3 p3 e_c3
    rw [← e_c3] at hf3
    refine own_iload X53 hx 114 (hb hby at_112) rfl rfl ?_
    refine own_sipush X53 hx 117 (248 : Int32) (by decide) (hb hby at_114) rfl ?_
    refine own_icmp_lt X53 hx 124 120 (hb hby at_117) (by decide) (by decide) rfl (fun h59 => ?_) (fun h59 => ?_)
    · show own_W p e below _ T51 (mkF m 124 #[.val (.int p0), .val (.int p1), .val (.int p2), .val (.int p3), .val (.int p4), .val (.int (0 : Int32)), .val (.int vr), .val (.int vt), .val (.int vf), .val (.ref a3), .val (.int c0), .val (.int c1), .val (.int c2), .val (.int c3), .unset, .unset, .unset, .unset, .unset, .unset] [])
      refine own_iload X53 hx 126 (hb hby at_124) rfl rfl ?_
      refine own_sipush X53 hx 129 (240 : Int32) (by decide) (hb hby at_126) rfl ?_
      refine own_icmp_lt X53 hx 136 132 (hb hby at_129) (by decide) (by decide) rfl (fun h60 => ?_) (fun h60 => ?_)
      · show own_W p e below _ T51 (mkF m 136 #[.val (.int p0), .val (.int p1), .val (.int p2), .val (.int p3), .val (.int p4), .val (.int (0 : Int32)), .val (.int vr), .val (.int vt), .val (.int vf), .val (.ref a3), .val (.int c0), .val (.int c1), .val (.int c2), .val (.int c3), .unset, .unset, .unset, .unset, .unset, .unset] [])
        refine own_iload X53 hx 138 (hb hby at_136) rfl rfl ?_
        refine own_sipush X53 hx 141 (224 : Int32) (by decide) (hb hby at_138) rfl ?_
        refine own_icmp_lt X53 hx 148 144 (hb hby at_141) (by decide) (by decide) rfl (fun h61 => ?_) (fun h61 => ?_)
        · show own_W p e below _ T51 (mkF m 148 #[.val (.int p0), .val (.int p1), .val (.int p2), .val (.int p3), .val (.int p4), .val (.int (0 : Int32)), .val (.int vr), .val (.int vt), .val (.int vf), .val (.ref a3), .val (.int c0), .val (.int c1), .val (.int c2), .val (.int c3), .unset, .unset, .unset, .unset, .unset, .unset] [])
          refine own_iload X53 hx 150 (hb hby at_148) rfl rfl ?_
          refine own_sipush X53 hx 153 (192 : Int32) (by decide) (hb hby at_150) rfl ?_
          refine own_icmp_lt X53 hx 160 156 (hb hby at_153) (by decide) (by decide) rfl (fun h62 => ?_) (fun h62 => ?_)
          · show own_W p e below _ T51 (mkF m 160 #[.val (.int p0), .val (.int p1), .val (.int p2), .val (.int p3), .val (.int p4), .val (.int (0 : Int32)), .val (.int vr), .val (.int vt), .val (.int vf), .val (.ref a3), .val (.int c0), .val (.int c1), .val (.int c2), .val (.int c3), .unset, .unset, .unset, .unset, .unset, .unset] [])
            refine own_iconst X53 hx 161 (0 : Int32) (by decide) (hb hby at_160) rfl ?_
            refine own_istore X53 hx 163 #[.val (.int p0), .val (.int p1), .val (.int p2), .val (.int p3), .val (.int p4), .val (.int (0 : Int32)), .val (.int vr), .val (.int vt), .val (.int vf), .val (.ref a3), .val (.int c0), .val (.int c1), .val (.int c2), .val (.int c3), .val (.int (0 : Int32)), .unset, .unset, .unset, .unset, .unset] rfl (hb hby at_161) rfl rfl ?_
            refine own_iconst X53 hx 164 (0 : Int32) (by decide) (hb hby at_163) rfl ?_
            refine own_istore X53 hx 166 #[.val (.int p0), .val (.int p1), .val (.int p2), .val (.int p3), .val (.int p4), .val (.int (0 : Int32)), .val (.int vr), .val (.int vt), .val (.int vf), .val (.ref a3), .val (.int c0), .val (.int c1), .val (.int c2), .val (.int c3), .val (.int (0 : Int32)), .val (.int (0 : Int32)), .unset, .unset, .unset, .unset] rfl (hb hby at_164) rfl rfl ?_
            refine own_iload X53 hx 168 (hb hby at_166) rfl rfl ?_
            refine own_if_eq X53 hx 381 171 (hb hby at_168) (by decide) (by decide) rfl (fun h63 => ?_) (fun h63 => ?_)
            · show own_W p e below _ T51 (mkF m 381 #[.val (.int p0), .val (.int p1), .val (.int p2), .val (.int p3), .val (.int p4), .val (.int (0 : Int32)), .val (.int vr), .val (.int vt), .val (.int vf), .val (.ref a3), .val (.int c0), .val (.int c1), .val (.int c2), .val (.int c3), .val (.int (0 : Int32)), .val (.int (0 : Int32)), .unset, .unset, .unset, .unset] [])
              refine own_aload X53 hx 383 (hb hby at_381) rfl rfl ?_
              refine own_iload X53 hx 385 (hb hby at_383) rfl rfl ?_
              refine own_iload X53 hx 387 (hb hby at_385) rfl rfl ?_
              refine own_callS X53 hx hZ hown e54 (y := (⟨"com/example/gentle_indent/gentleindent/util/Utf8", "sequenceLength", "([BII)I"⟩ : MethodName)) (argsL := [(.ref a3), (.int (0 : Int32)), (.int vt)]) (rest := []) 390 (rm2_0 l Z a0 hw a3 vt fz h52 n0 Z57 (by omega) f56) (hw _ (List.mem_of_getElem? (i := 1) rfl)) (hw _ (List.mem_of_getElem? (i := 2) rfl)) (hw _ (List.mem_of_getElem? (i := 3) rfl)) (hw _ (List.mem_of_getElem? (i := 4) rfl)) (by decide) (by rw [hml]; rfl) (lenOf (by decide +kernel : parseMethodDescriptor "([BII)I" = some ⟨[(.array .byte), .int, .int], some .int⟩) rfl) rfl (hb hby at_387) rfl (W := 0) rfl (by decide) (by decide) (by decide) (by decide) (fun r64 T65 L66 X67 q68 => ?_)
              obtain ⟨rr, rfl, hrr, N69q, e70⟩ := q68
              have N69 := Fr.app N58 N69q
              rw [hf0, hf1, hf2, hf3, show vt.toInt - 0 = vr.toInt from by omega] at hrr
              show own_W p e below _ T65 (mkF m 390 #[.val (.int p0), .val (.int p1), .val (.int p2), .val (.int p3), .val (.int p4), .val (.int (0 : Int32)), .val (.int vr), .val (.int vt), .val (.int vf), .val (.ref a3), .val (.int c0), .val (.int c1), .val (.int c2), .val (.int c3), .val (.int (0 : Int32)), .val (.int (0 : Int32)), .unset, .unset, .unset, .unset] [(.int rr)])
              refine own_iload X67 hx 392 (hb hby at_390) rfl rfl ?_
              refine own_icmp_ne X67 hx 399 395 (hb hby at_392) (by decide) (by decide) rfl (fun h71 => ?_) (fun h71 => ?_)
              · exact absurd (by rw [← Int32.toInt_inj, hrr]; simp only [Int32.lt_iff_toInt_lt, own_k0, own_k1, own_k2, own_k3, own_k4, own_k128, own_k143, own_k144, own_k159, own_k160, own_k191, own_k192, own_k194, own_k223, own_k224, own_k237, own_k239, own_k240, own_k244, own_k248, own_k2048, own_k55296, own_k57343, own_k65536, own_k1114111] at h59 h60 h61 h62; exact (own_F0 _ _ _ _ _ (by omega)).trans rfl) h71
              · show own_W p e below _ T65 (mkF m 395 #[.val (.int p0), .val (.int p1), .val (.int p2), .val (.int p3), .val (.int p4), .val (.int (0 : Int32)), .val (.int vr), .val (.int vt), .val (.int vf), .val (.ref a3), .val (.int c0), .val (.int c1), .val (.int c2), .val (.int c3), .val (.int (0 : Int32)), .val (.int (0 : Int32)), .unset, .unset, .unset, .unset] [])
                refine own_iconst X67 hx 396 (1 : Int32) (by decide) (hb hby at_395) rfl ?_
                refine own_goto X67 hx 400 (hb hby at_396) (by decide) (by decide) ?_
                exact own_retZ X67 hx (1 : Int32) (by decide) hret hlk (hb hby at_400) (by decide) (by decide) ⟨rfl, N69⟩
            · exact absurd h63 (by decide)
          · show own_W p e below _ T51 (mkF m 156 #[.val (.int p0), .val (.int p1), .val (.int p2), .val (.int p3), .val (.int p4), .val (.int (0 : Int32)), .val (.int vr), .val (.int vt), .val (.int vf), .val (.ref a3), .val (.int c0), .val (.int c1), .val (.int c2), .val (.int c3), .unset, .unset, .unset, .unset, .unset, .unset] [])
            refine own_iconst X53 hx 157 (2 : Int32) (by decide) (hb hby at_156) rfl ?_
            refine own_goto X53 hx 161 (hb hby at_157) (by decide) (by decide) ?_
            refine own_istore X53 hx 163 #[.val (.int p0), .val (.int p1), .val (.int p2), .val (.int p3), .val (.int p4), .val (.int (0 : Int32)), .val (.int vr), .val (.int vt), .val (.int vf), .val (.ref a3), .val (.int c0), .val (.int c1), .val (.int c2), .val (.int c3), .val (.int (2 : Int32)), .unset, .unset, .unset, .unset, .unset] rfl (hb hby at_161) rfl rfl ?_
            refine own_iconst X53 hx 164 (0 : Int32) (by decide) (hb hby at_163) rfl ?_
            refine own_istore X53 hx 166 #[.val (.int p0), .val (.int p1), .val (.int p2), .val (.int p3), .val (.int p4), .val (.int (0 : Int32)), .val (.int vr), .val (.int vt), .val (.int vf), .val (.ref a3), .val (.int c0), .val (.int c1), .val (.int c2), .val (.int c3), .val (.int (2 : Int32)), .val (.int (0 : Int32)), .unset, .unset, .unset, .unset] rfl (hb hby at_164) rfl rfl ?_
            refine own_iload X53 hx 168 (hb hby at_166) rfl rfl ?_
            refine own_if_eq X53 hx 381 171 (hb hby at_168) (by decide) (by decide) rfl (fun h72 => ?_) (fun h72 => ?_)
            · exact absurd h72 (by decide)
            · show own_W p e below _ T51 (mkF m 171 #[.val (.int p0), .val (.int p1), .val (.int p2), .val (.int p3), .val (.int p4), .val (.int (0 : Int32)), .val (.int vr), .val (.int vt), .val (.int vf), .val (.ref a3), .val (.int c0), .val (.int c1), .val (.int c2), .val (.int c3), .val (.int (2 : Int32)), .val (.int (0 : Int32)), .unset, .unset, .unset, .unset] [])
              refine own_iload X53 hx 173 (hb hby at_171) rfl rfl ?_
              refine own_iload X53 hx 175 (hb hby at_173) rfl rfl ?_
              refine own_icmp_lt X53 hx 381 178 (hb hby at_175) (by decide) (by decide) rfl (fun h73 => ?_) (fun h73 => ?_)
              · show own_W p e below _ T51 (mkF m 381 #[.val (.int p0), .val (.int p1), .val (.int p2), .val (.int p3), .val (.int p4), .val (.int (0 : Int32)), .val (.int vr), .val (.int vt), .val (.int vf), .val (.ref a3), .val (.int c0), .val (.int c1), .val (.int c2), .val (.int c3), .val (.int (2 : Int32)), .val (.int (0 : Int32)), .unset, .unset, .unset, .unset] [])
                refine own_aload X53 hx 383 (hb hby at_381) rfl rfl ?_
                refine own_iload X53 hx 385 (hb hby at_383) rfl rfl ?_
                refine own_iload X53 hx 387 (hb hby at_385) rfl rfl ?_
                refine own_callS X53 hx hZ hown e54 (y := (⟨"com/example/gentle_indent/gentleindent/util/Utf8", "sequenceLength", "([BII)I"⟩ : MethodName)) (argsL := [(.ref a3), (.int (0 : Int32)), (.int vt)]) (rest := []) 390 (rm2_0 l Z a0 hw a3 vt fz h52 n0 Z57 (by omega) f56) (hw _ (List.mem_of_getElem? (i := 1) rfl)) (hw _ (List.mem_of_getElem? (i := 2) rfl)) (hw _ (List.mem_of_getElem? (i := 3) rfl)) (hw _ (List.mem_of_getElem? (i := 4) rfl)) (by decide) (by rw [hml]; rfl) (lenOf (by decide +kernel : parseMethodDescriptor "([BII)I" = some ⟨[(.array .byte), .int, .int], some .int⟩) rfl) rfl (hb hby at_387) rfl (W := 0) rfl (by decide) (by decide) (by decide) (by decide) (fun r74 T75 L76 X77 q78 => ?_)
                obtain ⟨rr, rfl, hrr, N79q, e80⟩ := q78
                have N79 := Fr.app N58 N79q
                rw [hf0, hf1, hf2, hf3, show vt.toInt - 0 = vr.toInt from by omega] at hrr
                show own_W p e below _ T75 (mkF m 390 #[.val (.int p0), .val (.int p1), .val (.int p2), .val (.int p3), .val (.int p4), .val (.int (0 : Int32)), .val (.int vr), .val (.int vt), .val (.int vf), .val (.ref a3), .val (.int c0), .val (.int c1), .val (.int c2), .val (.int c3), .val (.int (2 : Int32)), .val (.int (0 : Int32)), .unset, .unset, .unset, .unset] [(.int rr)])
                refine own_iload X77 hx 392 (hb hby at_390) rfl rfl ?_
                refine own_icmp_ne X77 hx 399 395 (hb hby at_392) (by decide) (by decide) rfl (fun h81 => ?_) (fun h81 => ?_)
                · exact absurd (by rw [← Int32.toInt_inj, hrr]; simp only [Int32.lt_iff_toInt_lt, own_k0, own_k1, own_k2, own_k3, own_k4, own_k128, own_k143, own_k144, own_k159, own_k160, own_k191, own_k192, own_k194, own_k223, own_k224, own_k237, own_k239, own_k240, own_k244, own_k248, own_k2048, own_k55296, own_k57343, own_k65536, own_k1114111] at h59 h60 h61 h62 h73; exact (own_F0 _ _ _ _ _ (by omega)).trans rfl) h81
                · show own_W p e below _ T75 (mkF m 395 #[.val (.int p0), .val (.int p1), .val (.int p2), .val (.int p3), .val (.int p4), .val (.int (0 : Int32)), .val (.int vr), .val (.int vt), .val (.int vf), .val (.ref a3), .val (.int c0), .val (.int c1), .val (.int c2), .val (.int c3), .val (.int (2 : Int32)), .val (.int (0 : Int32)), .unset, .unset, .unset, .unset] [])
                  refine own_iconst X77 hx 396 (1 : Int32) (by decide) (hb hby at_395) rfl ?_
                  refine own_goto X77 hx 400 (hb hby at_396) (by decide) (by decide) ?_
                  exact own_retZ X77 hx (1 : Int32) (by decide) hret hlk (hb hby at_400) (by decide) (by decide) ⟨rfl, N79⟩
              · show own_W p e below _ T51 (mkF m 178 #[.val (.int p0), .val (.int p1), .val (.int p2), .val (.int p3), .val (.int p4), .val (.int (0 : Int32)), .val (.int vr), .val (.int vt), .val (.int vf), .val (.ref a3), .val (.int c0), .val (.int c1), .val (.int c2), .val (.int c3), .val (.int (2 : Int32)), .val (.int (0 : Int32)), .unset, .unset, .unset, .unset] [])
                have J82 : ∀ (ct : Int32) (T83 : State) (lc84 : List Loc) (h85 : Heap) (fy : Nat → Int32) (X86 : Stand p l e room_1 s m #[(.int p0), (.int p1), (.int p2), (.int p3), (.int p4)] below meth c T83 lc84 1 5) (e87 : T83.heap = h85) (N88 : Fr n0 lc84) (Z89 : n0 ≤ h85.size) (f90 : own_AI Z h85 a3 .byte 5 fy) (hj91 : fy = fz ∧ ((ct = 1 ∧ own_co c1.toInt) ∨ (ct = 0 ∧ ¬ (own_co c1.toInt)))), own_W p e below (own_K s room_1 (fun v h L => v = some (.int 1) ∧ Fr n0 L)) T83 (mkF m 219 #[.val (.int p0), .val (.int p1), .val (.int p2), .val (.int p3), .val (.int p4), .val (.int (0 : Int32)), .val (.int vr), .val (.int vt), .val (.int vf), .val (.ref a3), .val (.int c0), .val (.int c1), .val (.int c2), .val (.int c3), .val (.int (2 : Int32)), .val (.int (0 : Int32)), .unset, .unset, .unset, .unset] [(.int ct)]) := by
                  intro ct T83 lc84 h85 fy X86 e87 N88 Z89 f90 hj91
                  obtain ⟨rfl, hct⟩ := hj91
                  refine own_istore X86 hx 221 #[.val (.int p0), .val (.int p1), .val (.int p2), .val (.int p3), .val (.int p4), .val (.int (0 : Int32)), .val (.int vr), .val (.int vt), .val (.int vf), .val (.ref a3), .val (.int c0), .val (.int c1), .val (.int c2), .val (.int c3), .val (.int (2 : Int32)), .val (.int (0 : Int32)), .val (.int ct), .unset, .unset, .unset] rfl (hb hby at_219) rfl rfl ?_
                  refine own_iload X86 hx 223 (hb hby at_221) rfl rfl ?_
                  refine own_iconst X86 hx 224 (2 : Int32) (by decide) (hb hby at_223) rfl ?_
                  refine own_icmp_ne X86 hx 251 227 (hb hby at_224) (by decide) (by decide) rfl (fun h92 => ?_) (fun h92 => ?_)
                  · exact absurd h92 (by decide)
                  · show own_W p e below _ T83 (mkF m 227 #[.val (.int p0), .val (.int p1), .val (.int p2), .val (.int p3), .val (.int p4), .val (.int (0 : Int32)), .val (.int vr), .val (.int vt), .val (.int vf), .val (.ref a3), .val (.int c0), .val (.int c1), .val (.int c2), .val (.int c3), .val (.int (2 : Int32)), .val (.int (0 : Int32)), .val (.int ct), .unset, .unset, .unset] [])
                    refine own_iload X86 hx 229 (hb hby at_227) rfl rfl ?_
                    refine own_bipush X86 hx 231 (31 : Int32) (by decide) (hb hby at_229) rfl ?_
                    refine own_iand X86 hx 232 (hb hby at_231) rfl ?_
                    refine own_bipush X86 hx 234 (6 : Int32) (by decide) (hb hby at_232) rfl ?_
                    refine own_ishl X86 hx 235 (hb hby at_234) rfl ?_
                    refine own_iload X86 hx 237 (hb hby at_235) rfl rfl ?_
                    refine own_bipush X86 hx 239 (63 : Int32) (by decide) (hb hby at_237) rfl ?_
                    refine own_iand X86 hx 240 (hb hby at_239) rfl ?_
                    refine own_ior X86 hx 241 (hb hby at_240) rfl ?_
                    obtain ⟨cp, e_cp⟩ : ∃ z : Int32, z = (((c0 &&& (31 : Int32)) <<< ((6 : Int32) &&& 31)) ||| (c1 &&& (63 : Int32))) := ⟨_, rfl⟩
                    refine own_istore X86 hx 243 #[.val (.int p0), .val (.int p1), .val (.int p2), .val (.int p3), .val (.int p4), .val (.int (0 : Int32)), .val (.int vr), .val (.int vt), .val (.int vf), .val (.ref a3), .val (.int c0), .val (.int c1), .val (.int c2), .val (.int c3), .val (.int (2 : Int32)), .val (.int (0 : Int32)), .val (.int ct), .val (.int cp), .unset, .unset] e_cp (hb hby at_241) rfl rfl ?_
                    have hcp := own_cp2 c0 c1 cp e_cp
                    refine own_sipush X86 hx 246 (128 : Int32) (by decide) (hb hby at_243) rfl ?_
                    refine own_istore X86 hx 248 #[.val (.int p0), .val (.int p1), .val (.int p2), .val (.int p3), .val (.int p4), .val (.int (0 : Int32)), .val (.int vr), .val (.int vt), .val (.int vf), .val (.ref a3), .val (.int c0), .val (.int c1), .val (.int c2), .val (.int c3), .val (.int (2 : Int32)), .val (.int (0 : Int32)), .val (.int ct), .val (.int cp), .val (.int (128 : Int32)), .unset] rfl (hb hby at_246) rfl rfl ?_
                    refine own_goto X86 hx 328 (hb hby at_248) (by decide) (by decide) ?_
                    refine own_iload X86 hx 330 (hb hby at_328) rfl rfl ?_
                    have J93 : ∀ (vd : Int32) (hj94 : vd = own_vd ct cp (128 : Int32)), own_W p e below (own_K s room_1 (fun v h L => v = some (.int 1) ∧ Fr n0 L)) T83 (mkF m 366 #[.val (.int p0), .val (.int p1), .val (.int p2), .val (.int p3), .val (.int p4), .val (.int (0 : Int32)), .val (.int vr), .val (.int vt), .val (.int vf), .val (.ref a3), .val (.int c0), .val (.int c1), .val (.int c2), .val (.int c3), .val (.int (2 : Int32)), .val (.int (0 : Int32)), .val (.int ct), .val (.int cp), .val (.int (128 : Int32)), .unset] [(.int vd)]) := by
                      intro vd hj94
                      have hvd := hj94
                      refine own_istore X86 hx 368 #[.val (.int p0), .val (.int p1), .val (.int p2), .val (.int p3), .val (.int p4), .val (.int (0 : Int32)), .val (.int vr), .val (.int vt), .val (.int vf), .val (.ref a3), .val (.int c0), .val (.int c1), .val (.int c2), .val (.int c3), .val (.int (2 : Int32)), .val (.int (0 : Int32)), .val (.int ct), .val (.int cp), .val (.int (128 : Int32)), .val (.int vd)] rfl (hb hby at_366) rfl rfl ?_
                      refine own_iload X86 hx 370 (hb hby at_368) rfl rfl ?_
                      have J95 : ∀ (ex : Int32) (hj96 : ex = if vd = 0 then 0 else (2 : Int32)), own_W p e below (own_K s room_1 (fun v h L => v = some (.int 1) ∧ Fr n0 L)) T83 (mkF m 379 #[.val (.int p0), .val (.int p1), .val (.int p2), .val (.int p3), .val (.int p4), .val (.int (0 : Int32)), .val (.int vr), .val (.int vt), .val (.int vf), .val (.ref a3), .val (.int c0), .val (.int c1), .val (.int c2), .val (.int c3), .val (.int (2 : Int32)), .val (.int (0 : Int32)), .val (.int ct), .val (.int cp), .val (.int (128 : Int32)), .val (.int vd)] [(.int ex)]) := by
                        intro ex hj96
                        have hex := hj96
                        refine own_istore X86 hx 381 #[.val (.int p0), .val (.int p1), .val (.int p2), .val (.int p3), .val (.int p4), .val (.int (0 : Int32)), .val (.int vr), .val (.int vt), .val (.int vf), .val (.ref a3), .val (.int c0), .val (.int c1), .val (.int c2), .val (.int c3), .val (.int (2 : Int32)), .val (.int ex), .val (.int ct), .val (.int cp), .val (.int (128 : Int32)), .val (.int vd)] rfl (hb hby at_379) rfl rfl ?_
                        refine own_aload X86 hx 383 (hb hby at_381) rfl rfl ?_
                        refine own_iload X86 hx 385 (hb hby at_383) rfl rfl ?_
                        refine own_iload X86 hx 387 (hb hby at_385) rfl rfl ?_
                        refine own_callS X86 hx hZ hown e87 (y := (⟨"com/example/gentle_indent/gentleindent/util/Utf8", "sequenceLength", "([BII)I"⟩ : MethodName)) (argsL := [(.ref a3), (.int (0 : Int32)), (.int vt)]) (rest := []) 390 (rm2_0 l Z a0 hw a3 vt fy h85 n0 Z89 (by omega) f90) (hw _ (List.mem_of_getElem? (i := 1) rfl)) (hw _ (List.mem_of_getElem? (i := 2) rfl)) (hw _ (List.mem_of_getElem? (i := 3) rfl)) (hw _ (List.mem_of_getElem? (i := 4) rfl)) (by decide) (by rw [hml]; rfl) (lenOf (by decide +kernel : parseMethodDescriptor "([BII)I" = some ⟨[(.array .byte), .int, .int], some .int⟩) rfl) rfl (hb hby at_387) rfl (W := 0) rfl (by decide) (by decide) (by decide) (by decide) (fun r97 T98 L99 X100 q101 => ?_)
                        obtain ⟨rr, rfl, hrr, N102q, e103⟩ := q101
                        have N102 := Fr.app N88 N102q
                        rw [hf0, hf1, hf2, hf3, show vt.toInt - 0 = vr.toInt from by omega] at hrr
                        show own_W p e below _ T98 (mkF m 390 #[.val (.int p0), .val (.int p1), .val (.int p2), .val (.int p3), .val (.int p4), .val (.int (0 : Int32)), .val (.int vr), .val (.int vt), .val (.int vf), .val (.ref a3), .val (.int c0), .val (.int c1), .val (.int c2), .val (.int c3), .val (.int (2 : Int32)), .val (.int ex), .val (.int ct), .val (.int cp), .val (.int (128 : Int32)), .val (.int vd)] [(.int rr)])
                        refine own_iload X100 hx 392 (hb hby at_390) rfl rfl ?_
                        refine own_icmp_ne X100 hx 399 395 (hb hby at_392) (by decide) (by decide) rfl (fun h104 => ?_) (fun h104 => ?_)
                        · exact absurd (by simp only [Int32.lt_iff_toInt_lt, own_k0, own_k1, own_k2, own_k3, own_k4, own_k128, own_k143, own_k144, own_k159, own_k160, own_k191, own_k192, own_k194, own_k223, own_k224, own_k237, own_k239, own_k240, own_k244, own_k248, own_k2048, own_k55296, own_k57343, own_k65536, own_k1114111] at h59 h60 h61 h62 h73; have q := own_F2 c0.toInt c1.toInt c2.toInt c3.toInt vr.toInt ct cp (by omega) hc1 (by omega) hct hcp; rw [← hvd] at q; exact own_fin rr ex vd (2 : Int32) 2 _ hrr q hex rfl) h104
                        · show own_W p e below _ T98 (mkF m 395 #[.val (.int p0), .val (.int p1), .val (.int p2), .val (.int p3), .val (.int p4), .val (.int (0 : Int32)), .val (.int vr), .val (.int vt), .val (.int vf), .val (.ref a3), .val (.int c0), .val (.int c1), .val (.int c2), .val (.int c3), .val (.int (2 : Int32)), .val (.int ex), .val (.int ct), .val (.int cp), .val (.int (128 : Int32)), .val (.int vd)] [])
                          refine own_iconst X100 hx 396 (1 : Int32) (by decide) (hb hby at_395) rfl ?_
                          refine own_goto X100 hx 400 (hb hby at_396) (by decide) (by decide) ?_
                          exact own_retZ X100 hx (1 : Int32) (by decide) hret hlk (hb hby at_400) (by decide) (by decide) ⟨rfl, N102⟩
                      refine own_if_eq X86 hx 378 373 (hb hby at_370) (by decide) (by decide) rfl (fun h105 => ?_) (fun h105 => ?_)
                      · show own_W p e below _ T83 (mkF m 378 #[.val (.int p0), .val (.int p1), .val (.int p2), .val (.int p3), .val (.int p4), .val (.int (0 : Int32)), .val (.int vr), .val (.int vt), .val (.int vf), .val (.ref a3), .val (.int c0), .val (.int c1), .val (.int c2), .val (.int c3), .val (.int (2 : Int32)), .val (.int (0 : Int32)), .val (.int ct), .val (.int cp), .val (.int (128 : Int32)), .val (.int vd)] [])
                        refine own_iconst X86 hx 379 (0 : Int32) (by decide) (hb hby at_378) rfl ?_
                        exact J95 (0 : Int32) (by rw [if_pos h105])
                      · show own_W p e below _ T83 (mkF m 373 #[.val (.int p0), .val (.int p1), .val (.int p2), .val (.int p3), .val (.int p4), .val (.int (0 : Int32)), .val (.int vr), .val (.int vt), .val (.int vf), .val (.ref a3), .val (.int c0), .val (.int c1), .val (.int c2), .val (.int c3), .val (.int (2 : Int32)), .val (.int (0 : Int32)), .val (.int ct), .val (.int cp), .val (.int (128 : Int32)), .val (.int vd)] [])
                        refine own_iload X86 hx 375 (hb hby at_373) rfl rfl ?_
                        refine own_goto X86 hx 379 (hb hby at_375) (by decide) (by decide) ?_
                        exact J95 (2 : Int32) (by rw [if_neg h105])
                    refine own_if_eq X86 hx 365 333 (hb hby at_330) (by decide) (by decide) rfl (fun h106 => ?_) (fun h106 => ?_)
                    · show own_W p e below _ T83 (mkF m 365 #[.val (.int p0), .val (.int p1), .val (.int p2), .val (.int p3), .val (.int p4), .val (.int (0 : Int32)), .val (.int vr), .val (.int vt), .val (.int vf), .val (.ref a3), .val (.int c0), .val (.int c1), .val (.int c2), .val (.int c3), .val (.int (2 : Int32)), .val (.int (0 : Int32)), .val (.int ct), .val (.int cp), .val (.int (128 : Int32)), .unset] [])
                      refine own_iconst X86 hx 366 (0 : Int32) (by decide) (hb hby at_365) rfl ?_
                      exact J93 (0 : Int32) (by unfold own_vd; rw [if_pos h106])
                    · show own_W p e below _ T83 (mkF m 333 #[.val (.int p0), .val (.int p1), .val (.int p2), .val (.int p3), .val (.int p4), .val (.int (0 : Int32)), .val (.int vr), .val (.int vt), .val (.int vf), .val (.ref a3), .val (.int c0), .val (.int c1), .val (.int c2), .val (.int c3), .val (.int (2 : Int32)), .val (.int (0 : Int32)), .val (.int ct), .val (.int cp), .val (.int (128 : Int32)), .unset] [])
                      refine own_iload X86 hx 335 (hb hby at_333) rfl rfl ?_
                      refine own_iload X86 hx 337 (hb hby at_335) rfl rfl ?_
                      refine own_icmp_lt X86 hx 365 340 (hb hby at_337) (by decide) (by decide) rfl (fun h107 => ?_) (fun h107 => ?_)
                      · show own_W p e below _ T83 (mkF m 365 #[.val (.int p0), .val (.int p1), .val (.int p2), .val (.int p3), .val (.int p4), .val (.int (0 : Int32)), .val (.int vr), .val (.int vt), .val (.int vf), .val (.ref a3), .val (.int c0), .val (.int c1), .val (.int c2), .val (.int c3), .val (.int (2 : Int32)), .val (.int (0 : Int32)), .val (.int ct), .val (.int cp), .val (.int (128 : Int32)), .unset] [])
                        refine own_iconst X86 hx 366 (0 : Int32) (by decide) (hb hby at_365) rfl ?_
                        exact J93 (0 : Int32) (by unfold own_vd; rw [if_neg h106, if_pos h107])
                      · show own_W p e below _ T83 (mkF m 340 #[.val (.int p0), .val (.int p1), .val (.int p2), .val (.int p3), .val (.int p4), .val (.int (0 : Int32)), .val (.int vr), .val (.int vt), .val (.int vf), .val (.ref a3), .val (.int c0), .val (.int c1), .val (.int c2), .val (.int c3), .val (.int (2 : Int32)), .val (.int (0 : Int32)), .val (.int ct), .val (.int cp), .val (.int (128 : Int32)), .unset] [])
                        refine own_iload X86 hx 342 (hb hby at_340) rfl rfl ?_
                        refine own_ldc X86 hx hZ hown 344 (hw _ (List.mem_of_getElem? (i := 10) rfl)) (hb hby at_342) rfl ?_
                        refine own_icmp_gt X86 hx 365 347 (hb hby at_344) (by decide) (by decide) rfl (fun h108 => ?_) (fun h108 => ?_)
                        · show own_W p e below _ T83 (mkF m 365 #[.val (.int p0), .val (.int p1), .val (.int p2), .val (.int p3), .val (.int p4), .val (.int (0 : Int32)), .val (.int vr), .val (.int vt), .val (.int vf), .val (.ref a3), .val (.int c0), .val (.int c1), .val (.int c2), .val (.int c3), .val (.int (2 : Int32)), .val (.int (0 : Int32)), .val (.int ct), .val (.int cp), .val (.int (128 : Int32)), .unset] [])
                          refine own_iconst X86 hx 366 (0 : Int32) (by decide) (hb hby at_365) rfl ?_
                          exact J93 (0 : Int32) (by unfold own_vd; rw [if_neg h106, if_neg h107, if_pos h108])
                        · show own_W p e below _ T83 (mkF m 347 #[.val (.int p0), .val (.int p1), .val (.int p2), .val (.int p3), .val (.int p4), .val (.int (0 : Int32)), .val (.int vr), .val (.int vt), .val (.int vf), .val (.ref a3), .val (.int c0), .val (.int c1), .val (.int c2), .val (.int c3), .val (.int (2 : Int32)), .val (.int (0 : Int32)), .val (.int ct), .val (.int cp), .val (.int (128 : Int32)), .unset] [])
                          refine own_iload X86 hx 349 (hb hby at_347) rfl rfl ?_
                          refine own_ldc X86 hx hZ hown 351 (hw _ (List.mem_of_getElem? (i := 11) rfl)) (hb hby at_349) rfl ?_
                          refine own_icmp_lt X86 hx 361 354 (hb hby at_351) (by decide) (by decide) rfl (fun h109 => ?_) (fun h109 => ?_)
                          · show own_W p e below _ T83 (mkF m 361 #[.val (.int p0), .val (.int p1), .val (.int p2), .val (.int p3), .val (.int p4), .val (.int (0 : Int32)), .val (.int vr), .val (.int vt), .val (.int vf), .val (.ref a3), .val (.int c0), .val (.int c1), .val (.int c2), .val (.int c3), .val (.int (2 : Int32)), .val (.int (0 : Int32)), .val (.int ct), .val (.int cp), .val (.int (128 : Int32)), .unset] [])
                            refine own_iconst X86 hx 362 (1 : Int32) (by decide) (hb hby at_361) rfl ?_
                            refine own_goto X86 hx 366 (hb hby at_362) (by decide) (by decide) ?_
                            exact J93 (1 : Int32) (by unfold own_vd; rw [if_neg h106, if_neg h107, if_neg h108, if_pos h109])
                          · show own_W p e below _ T83 (mkF m 354 #[.val (.int p0), .val (.int p1), .val (.int p2), .val (.int p3), .val (.int p4), .val (.int (0 : Int32)), .val (.int vr), .val (.int vt), .val (.int vf), .val (.ref a3), .val (.int c0), .val (.int c1), .val (.int c2), .val (.int c3), .val (.int (2 : Int32)), .val (.int (0 : Int32)), .val (.int ct), .val (.int cp), .val (.int (128 : Int32)), .unset] [])
                            refine own_iload X86 hx 356 (hb hby at_354) rfl rfl ?_
                            refine own_ldc X86 hx hZ hown 358 (hw _ (List.mem_of_getElem? (i := 12) rfl)) (hb hby at_356) rfl ?_
                            refine own_icmp_le X86 hx 365 361 (hb hby at_358) (by decide) (by decide) rfl (fun h110 => ?_) (fun h110 => ?_)
                            · show own_W p e below _ T83 (mkF m 365 #[.val (.int p0), .val (.int p1), .val (.int p2), .val (.int p3), .val (.int p4), .val (.int (0 : Int32)), .val (.int vr), .val (.int vt), .val (.int vf), .val (.ref a3), .val (.int c0), .val (.int c1), .val (.int c2), .val (.int c3), .val (.int (2 : Int32)), .val (.int (0 : Int32)), .val (.int ct), .val (.int cp), .val (.int (128 : Int32)), .unset] [])
                              refine own_iconst X86 hx 366 (0 : Int32) (by decide) (hb hby at_365) rfl ?_
                              exact J93 (0 : Int32) (by unfold own_vd; rw [if_neg h106, if_neg h107, if_neg h108, if_neg h109, if_neg h110])
                            · show own_W p e below _ T83 (mkF m 361 #[.val (.int p0), .val (.int p1), .val (.int p2), .val (.int p3), .val (.int p4), .val (.int (0 : Int32)), .val (.int vr), .val (.int vt), .val (.int vf), .val (.ref a3), .val (.int c0), .val (.int c1), .val (.int c2), .val (.int c3), .val (.int (2 : Int32)), .val (.int (0 : Int32)), .val (.int ct), .val (.int cp), .val (.int (128 : Int32)), .unset] [])
                              refine own_iconst X86 hx 362 (1 : Int32) (by decide) (hb hby at_361) rfl ?_
                              refine own_goto X86 hx 366 (hb hby at_362) (by decide) (by decide) ?_
                              exact J93 (1 : Int32) (by unfold own_vd; rw [if_neg h106, if_neg h107, if_neg h108, if_neg h109, if_pos h110])
                refine own_iload X53 hx 180 (hb hby at_178) rfl rfl ?_
                refine own_callS X53 hx hZ hown e54 (y := (⟨"com/example/gentle_indent/gentleindent/util/Utf8SequenceLengthPinLaw", "isCont", "(I)Z"⟩ : MethodName)) (argsL := [(.int c1)]) (rest := []) 183 (rm1 l Z a0 hw c1 h52 n0 Z57) (hw _ (List.mem_of_getElem? (i := 5) rfl)) (hw _ (List.mem_of_getElem? (i := 6) rfl)) (hw _ (List.mem_of_getElem? (i := 7) rfl)) (hw _ (List.mem_of_getElem? (i := 8) rfl)) (by decide) (by rw [hml]; rfl) (lenOf (by decide +kernel : parseMethodDescriptor "(I)Z" = some ⟨[.int], some .boolean⟩) rfl) rfl (hb hby at_180) rfl (W := 0) rfl (by decide) (by decide) (by decide) (by decide) (fun r111 T112 L113 X114 q115 => ?_)
                obtain ⟨rfl, N116q, e117⟩ := q115
                have N116 := Fr.app N58 N116q
                show own_W p e below _ T112 (mkF m 183 #[.val (.int p0), .val (.int p1), .val (.int p2), .val (.int p3), .val (.int p4), .val (.int (0 : Int32)), .val (.int vr), .val (.int vt), .val (.int vf), .val (.ref a3), .val (.int c0), .val (.int c1), .val (.int c2), .val (.int c3), .val (.int (2 : Int32)), .val (.int (0 : Int32)), .unset, .unset, .unset, .unset] [(.int (own_isCont c1))])
                refine own_if_eq X114 hx 218 186 (hb hby at_183) (by decide) (by decide) rfl (fun h118 => ?_) (fun h118 => ?_)
                · show own_W p e below _ T112 (mkF m 218 #[.val (.int p0), .val (.int p1), .val (.int p2), .val (.int p3), .val (.int p4), .val (.int (0 : Int32)), .val (.int vr), .val (.int vt), .val (.int vf), .val (.ref a3), .val (.int c0), .val (.int c1), .val (.int c2), .val (.int c3), .val (.int (2 : Int32)), .val (.int (0 : Int32)), .unset, .unset, .unset, .unset] [])
                  refine own_iconst X114 hx 219 (0 : Int32) (by decide) (hb hby at_218) rfl ?_
                  exact J82 (0 : Int32) T112 _ _ fz X114 e117 N116 Z57 f56 (⟨rfl, Or.inr ⟨rfl, fun u => own_cF c1 hc1 h118 u⟩⟩)
                · show own_W p e below _ T112 (mkF m 186 #[.val (.int p0), .val (.int p1), .val (.int p2), .val (.int p3), .val (.int p4), .val (.int (0 : Int32)), .val (.int vr), .val (.int vt), .val (.int vf), .val (.ref a3), .val (.int c0), .val (.int c1), .val (.int c2), .val (.int c3), .val (.int (2 : Int32)), .val (.int (0 : Int32)), .unset, .unset, .unset, .unset] [])
                  refine own_iload X114 hx 188 (hb hby at_186) rfl rfl ?_
                  refine own_iconst X114 hx 189 (3 : Int32) (by decide) (hb hby at_188) rfl ?_
                  refine own_icmp_lt X114 hx 200 192 (hb hby at_189) (by decide) (by decide) rfl (fun h119 => ?_) (fun h119 => ?_)
                  · show own_W p e below _ T112 (mkF m 200 #[.val (.int p0), .val (.int p1), .val (.int p2), .val (.int p3), .val (.int p4), .val (.int (0 : Int32)), .val (.int vr), .val (.int vt), .val (.int vf), .val (.ref a3), .val (.int c0), .val (.int c1), .val (.int c2), .val (.int c3), .val (.int (2 : Int32)), .val (.int (0 : Int32)), .unset, .unset, .unset, .unset] [])
                    refine own_iload X114 hx 202 (hb hby at_200) rfl rfl ?_
                    refine own_iconst X114 hx 203 (4 : Int32) (by decide) (hb hby at_202) rfl ?_
                    refine own_icmp_lt X114 hx 214 206 (hb hby at_203) (by decide) (by decide) rfl (fun h120 => ?_) (fun h120 => ?_)
                    · show own_W p e below _ T112 (mkF m 214 #[.val (.int p0), .val (.int p1), .val (.int p2), .val (.int p3), .val (.int p4), .val (.int (0 : Int32)), .val (.int vr), .val (.int vt), .val (.int vf), .val (.ref a3), .val (.int c0), .val (.int c1), .val (.int c2), .val (.int c3), .val (.int (2 : Int32)), .val (.int (0 : Int32)), .unset, .unset, .unset, .unset] [])
                      refine own_iconst X114 hx 215 (1 : Int32) (by decide) (hb hby at_214) rfl ?_
                      refine own_goto X114 hx 219 (hb hby at_215) (by decide) (by decide) ?_
                      exact J82 (1 : Int32) T112 _ _ fz X114 e117 N116 Z57 f56 (⟨rfl, Or.inl ⟨rfl, own_cT c1 hc1 h118⟩⟩)
                    · exact absurd h120 (by decide)
                  · exact absurd h119 (by decide)
        · show own_W p e below _ T51 (mkF m 144 #[.val (.int p0), .val (.int p1), .val (.int p2), .val (.int p3), .val (.int p4), .val (.int (0 : Int32)), .val (.int vr), .val (.int vt), .val (.int vf), .val (.ref a3), .val (.int c0), .val (.int c1), .val (.int c2), .val (.int c3), .unset, .unset, .unset, .unset, .unset, .unset] [])
          refine own_iconst X53 hx 145 (3 : Int32) (by decide) (hb hby at_144) rfl ?_
          refine own_goto X53 hx 161 (hb hby at_145) (by decide) (by decide) ?_
          refine own_istore X53 hx 163 #[.val (.int p0), .val (.int p1), .val (.int p2), .val (.int p3), .val (.int p4), .val (.int (0 : Int32)), .val (.int vr), .val (.int vt), .val (.int vf), .val (.ref a3), .val (.int c0), .val (.int c1), .val (.int c2), .val (.int c3), .val (.int (3 : Int32)), .unset, .unset, .unset, .unset, .unset] rfl (hb hby at_161) rfl rfl ?_
          refine own_iconst X53 hx 164 (0 : Int32) (by decide) (hb hby at_163) rfl ?_
          refine own_istore X53 hx 166 #[.val (.int p0), .val (.int p1), .val (.int p2), .val (.int p3), .val (.int p4), .val (.int (0 : Int32)), .val (.int vr), .val (.int vt), .val (.int vf), .val (.ref a3), .val (.int c0), .val (.int c1), .val (.int c2), .val (.int c3), .val (.int (3 : Int32)), .val (.int (0 : Int32)), .unset, .unset, .unset, .unset] rfl (hb hby at_164) rfl rfl ?_
          refine own_iload X53 hx 168 (hb hby at_166) rfl rfl ?_
          refine own_if_eq X53 hx 381 171 (hb hby at_168) (by decide) (by decide) rfl (fun h121 => ?_) (fun h121 => ?_)
          · exact absurd h121 (by decide)
          · show own_W p e below _ T51 (mkF m 171 #[.val (.int p0), .val (.int p1), .val (.int p2), .val (.int p3), .val (.int p4), .val (.int (0 : Int32)), .val (.int vr), .val (.int vt), .val (.int vf), .val (.ref a3), .val (.int c0), .val (.int c1), .val (.int c2), .val (.int c3), .val (.int (3 : Int32)), .val (.int (0 : Int32)), .unset, .unset, .unset, .unset] [])
            refine own_iload X53 hx 173 (hb hby at_171) rfl rfl ?_
            refine own_iload X53 hx 175 (hb hby at_173) rfl rfl ?_
            refine own_icmp_lt X53 hx 381 178 (hb hby at_175) (by decide) (by decide) rfl (fun h122 => ?_) (fun h122 => ?_)
            · show own_W p e below _ T51 (mkF m 381 #[.val (.int p0), .val (.int p1), .val (.int p2), .val (.int p3), .val (.int p4), .val (.int (0 : Int32)), .val (.int vr), .val (.int vt), .val (.int vf), .val (.ref a3), .val (.int c0), .val (.int c1), .val (.int c2), .val (.int c3), .val (.int (3 : Int32)), .val (.int (0 : Int32)), .unset, .unset, .unset, .unset] [])
              refine own_aload X53 hx 383 (hb hby at_381) rfl rfl ?_
              refine own_iload X53 hx 385 (hb hby at_383) rfl rfl ?_
              refine own_iload X53 hx 387 (hb hby at_385) rfl rfl ?_
              refine own_callS X53 hx hZ hown e54 (y := (⟨"com/example/gentle_indent/gentleindent/util/Utf8", "sequenceLength", "([BII)I"⟩ : MethodName)) (argsL := [(.ref a3), (.int (0 : Int32)), (.int vt)]) (rest := []) 390 (rm2_0 l Z a0 hw a3 vt fz h52 n0 Z57 (by omega) f56) (hw _ (List.mem_of_getElem? (i := 1) rfl)) (hw _ (List.mem_of_getElem? (i := 2) rfl)) (hw _ (List.mem_of_getElem? (i := 3) rfl)) (hw _ (List.mem_of_getElem? (i := 4) rfl)) (by decide) (by rw [hml]; rfl) (lenOf (by decide +kernel : parseMethodDescriptor "([BII)I" = some ⟨[(.array .byte), .int, .int], some .int⟩) rfl) rfl (hb hby at_387) rfl (W := 0) rfl (by decide) (by decide) (by decide) (by decide) (fun r123 T124 L125 X126 q127 => ?_)
              obtain ⟨rr, rfl, hrr, N128q, e129⟩ := q127
              have N128 := Fr.app N58 N128q
              rw [hf0, hf1, hf2, hf3, show vt.toInt - 0 = vr.toInt from by omega] at hrr
              show own_W p e below _ T124 (mkF m 390 #[.val (.int p0), .val (.int p1), .val (.int p2), .val (.int p3), .val (.int p4), .val (.int (0 : Int32)), .val (.int vr), .val (.int vt), .val (.int vf), .val (.ref a3), .val (.int c0), .val (.int c1), .val (.int c2), .val (.int c3), .val (.int (3 : Int32)), .val (.int (0 : Int32)), .unset, .unset, .unset, .unset] [(.int rr)])
              refine own_iload X126 hx 392 (hb hby at_390) rfl rfl ?_
              refine own_icmp_ne X126 hx 399 395 (hb hby at_392) (by decide) (by decide) rfl (fun h130 => ?_) (fun h130 => ?_)
              · exact absurd (by rw [← Int32.toInt_inj, hrr]; simp only [Int32.lt_iff_toInt_lt, own_k0, own_k1, own_k2, own_k3, own_k4, own_k128, own_k143, own_k144, own_k159, own_k160, own_k191, own_k192, own_k194, own_k223, own_k224, own_k237, own_k239, own_k240, own_k244, own_k248, own_k2048, own_k55296, own_k57343, own_k65536, own_k1114111] at h59 h60 h61 h122; exact (own_F0 _ _ _ _ _ (by omega)).trans rfl) h130
              · show own_W p e below _ T124 (mkF m 395 #[.val (.int p0), .val (.int p1), .val (.int p2), .val (.int p3), .val (.int p4), .val (.int (0 : Int32)), .val (.int vr), .val (.int vt), .val (.int vf), .val (.ref a3), .val (.int c0), .val (.int c1), .val (.int c2), .val (.int c3), .val (.int (3 : Int32)), .val (.int (0 : Int32)), .unset, .unset, .unset, .unset] [])
                refine own_iconst X126 hx 396 (1 : Int32) (by decide) (hb hby at_395) rfl ?_
                refine own_goto X126 hx 400 (hb hby at_396) (by decide) (by decide) ?_
                exact own_retZ X126 hx (1 : Int32) (by decide) hret hlk (hb hby at_400) (by decide) (by decide) ⟨rfl, N128⟩
            · show own_W p e below _ T51 (mkF m 178 #[.val (.int p0), .val (.int p1), .val (.int p2), .val (.int p3), .val (.int p4), .val (.int (0 : Int32)), .val (.int vr), .val (.int vt), .val (.int vf), .val (.ref a3), .val (.int c0), .val (.int c1), .val (.int c2), .val (.int c3), .val (.int (3 : Int32)), .val (.int (0 : Int32)), .unset, .unset, .unset, .unset] [])
              have J131 : ∀ (ct : Int32) (T132 : State) (lc133 : List Loc) (h134 : Heap) (fy : Nat → Int32) (X135 : Stand p l e room_1 s m #[(.int p0), (.int p1), (.int p2), (.int p3), (.int p4)] below meth c T132 lc133 1 5) (e136 : T132.heap = h134) (N137 : Fr n0 lc133) (Z138 : n0 ≤ h134.size) (f139 : own_AI Z h134 a3 .byte 5 fy) (hj140 : fy = fz ∧ ((ct = 1 ∧ own_co c1.toInt ∧ own_co c2.toInt) ∨ (ct = 0 ∧ ¬ (own_co c1.toInt ∧ own_co c2.toInt)))), own_W p e below (own_K s room_1 (fun v h L => v = some (.int 1) ∧ Fr n0 L)) T132 (mkF m 219 #[.val (.int p0), .val (.int p1), .val (.int p2), .val (.int p3), .val (.int p4), .val (.int (0 : Int32)), .val (.int vr), .val (.int vt), .val (.int vf), .val (.ref a3), .val (.int c0), .val (.int c1), .val (.int c2), .val (.int c3), .val (.int (3 : Int32)), .val (.int (0 : Int32)), .unset, .unset, .unset, .unset] [(.int ct)]) := by
                intro ct T132 lc133 h134 fy X135 e136 N137 Z138 f139 hj140
                obtain ⟨rfl, hct⟩ := hj140
                refine own_istore X135 hx 221 #[.val (.int p0), .val (.int p1), .val (.int p2), .val (.int p3), .val (.int p4), .val (.int (0 : Int32)), .val (.int vr), .val (.int vt), .val (.int vf), .val (.ref a3), .val (.int c0), .val (.int c1), .val (.int c2), .val (.int c3), .val (.int (3 : Int32)), .val (.int (0 : Int32)), .val (.int ct), .unset, .unset, .unset] rfl (hb hby at_219) rfl rfl ?_
                refine own_iload X135 hx 223 (hb hby at_221) rfl rfl ?_
                refine own_iconst X135 hx 224 (2 : Int32) (by decide) (hb hby at_223) rfl ?_
                refine own_icmp_ne X135 hx 251 227 (hb hby at_224) (by decide) (by decide) rfl (fun h141 => ?_) (fun h141 => ?_)
                · show own_W p e below _ T132 (mkF m 251 #[.val (.int p0), .val (.int p1), .val (.int p2), .val (.int p3), .val (.int p4), .val (.int (0 : Int32)), .val (.int vr), .val (.int vt), .val (.int vf), .val (.ref a3), .val (.int c0), .val (.int c1), .val (.int c2), .val (.int c3), .val (.int (3 : Int32)), .val (.int (0 : Int32)), .val (.int ct), .unset, .unset, .unset] [])
                  refine own_iload X135 hx 253 (hb hby at_251) rfl rfl ?_
                  refine own_iconst X135 hx 254 (3 : Int32) (by decide) (hb hby at_253) rfl ?_
                  refine own_icmp_ne X135 hx 290 257 (hb hby at_254) (by decide) (by decide) rfl (fun h142 => ?_) (fun h142 => ?_)
                  · exact absurd h142 (by decide)
                  · show own_W p e below _ T132 (mkF m 257 #[.val (.int p0), .val (.int p1), .val (.int p2), .val (.int p3), .val (.int p4), .val (.int (0 : Int32)), .val (.int vr), .val (.int vt), .val (.int vf), .val (.ref a3), .val (.int c0), .val (.int c1), .val (.int c2), .val (.int c3), .val (.int (3 : Int32)), .val (.int (0 : Int32)), .val (.int ct), .unset, .unset, .unset] [])
                    refine own_iload X135 hx 259 (hb hby at_257) rfl rfl ?_
                    refine own_bipush X135 hx 261 (15 : Int32) (by decide) (hb hby at_259) rfl ?_
                    refine own_iand X135 hx 262 (hb hby at_261) rfl ?_
                    refine own_bipush X135 hx 264 (12 : Int32) (by decide) (hb hby at_262) rfl ?_
                    refine own_ishl X135 hx 265 (hb hby at_264) rfl ?_
                    refine own_iload X135 hx 267 (hb hby at_265) rfl rfl ?_
                    refine own_bipush X135 hx 269 (63 : Int32) (by decide) (hb hby at_267) rfl ?_
                    refine own_iand X135 hx 270 (hb hby at_269) rfl ?_
                    refine own_bipush X135 hx 272 (6 : Int32) (by decide) (hb hby at_270) rfl ?_
                    refine own_ishl X135 hx 273 (hb hby at_272) rfl ?_
                    refine own_ior X135 hx 274 (hb hby at_273) rfl ?_
                    refine own_iload X135 hx 276 (hb hby at_274) rfl rfl ?_
                    refine own_bipush X135 hx 278 (63 : Int32) (by decide) (hb hby at_276) rfl ?_
                    refine own_iand X135 hx 279 (hb hby at_278) rfl ?_
                    refine own_ior X135 hx 280 (hb hby at_279) rfl ?_
                    obtain ⟨cp, e_cp⟩ : ∃ z : Int32, z = ((((c0 &&& (15 : Int32)) <<< ((12 : Int32) &&& 31)) ||| ((c1 &&& (63 : Int32)) <<< ((6 : Int32) &&& 31))) ||| (c2 &&& (63 : Int32))) := ⟨_, rfl⟩
                    refine own_istore X135 hx 282 #[.val (.int p0), .val (.int p1), .val (.int p2), .val (.int p3), .val (.int p4), .val (.int (0 : Int32)), .val (.int vr), .val (.int vt), .val (.int vf), .val (.ref a3), .val (.int c0), .val (.int c1), .val (.int c2), .val (.int c3), .val (.int (3 : Int32)), .val (.int (0 : Int32)), .val (.int ct), .val (.int cp), .unset, .unset] e_cp (hb hby at_280) rfl rfl ?_
                    have hcp := own_cp3 c0 c1 c2 cp e_cp
                    refine own_sipush X135 hx 285 (2048 : Int32) (by decide) (hb hby at_282) rfl ?_
                    refine own_istore X135 hx 287 #[.val (.int p0), .val (.int p1), .val (.int p2), .val (.int p3), .val (.int p4), .val (.int (0 : Int32)), .val (.int vr), .val (.int vt), .val (.int vf), .val (.ref a3), .val (.int c0), .val (.int c1), .val (.int c2), .val (.int c3), .val (.int (3 : Int32)), .val (.int (0 : Int32)), .val (.int ct), .val (.int cp), .val (.int (2048 : Int32)), .unset] rfl (hb hby at_285) rfl rfl ?_
                    refine own_goto X135 hx 328 (hb hby at_287) (by decide) (by decide) ?_
                    refine own_iload X135 hx 330 (hb hby at_328) rfl rfl ?_
                    have J143 : ∀ (vd : Int32) (hj144 : vd = own_vd ct cp (2048 : Int32)), own_W p e below (own_K s room_1 (fun v h L => v = some (.int 1) ∧ Fr n0 L)) T132 (mkF m 366 #[.val (.int p0), .val (.int p1), .val (.int p2), .val (.int p3), .val (.int p4), .val (.int (0 : Int32)), .val (.int vr), .val (.int vt), .val (.int vf), .val (.ref a3), .val (.int c0), .val (.int c1), .val (.int c2), .val (.int c3), .val (.int (3 : Int32)), .val (.int (0 : Int32)), .val (.int ct), .val (.int cp), .val (.int (2048 : Int32)), .unset] [(.int vd)]) := by
                      intro vd hj144
                      have hvd := hj144
                      refine own_istore X135 hx 368 #[.val (.int p0), .val (.int p1), .val (.int p2), .val (.int p3), .val (.int p4), .val (.int (0 : Int32)), .val (.int vr), .val (.int vt), .val (.int vf), .val (.ref a3), .val (.int c0), .val (.int c1), .val (.int c2), .val (.int c3), .val (.int (3 : Int32)), .val (.int (0 : Int32)), .val (.int ct), .val (.int cp), .val (.int (2048 : Int32)), .val (.int vd)] rfl (hb hby at_366) rfl rfl ?_
                      refine own_iload X135 hx 370 (hb hby at_368) rfl rfl ?_
                      have J145 : ∀ (ex : Int32) (hj146 : ex = if vd = 0 then 0 else (3 : Int32)), own_W p e below (own_K s room_1 (fun v h L => v = some (.int 1) ∧ Fr n0 L)) T132 (mkF m 379 #[.val (.int p0), .val (.int p1), .val (.int p2), .val (.int p3), .val (.int p4), .val (.int (0 : Int32)), .val (.int vr), .val (.int vt), .val (.int vf), .val (.ref a3), .val (.int c0), .val (.int c1), .val (.int c2), .val (.int c3), .val (.int (3 : Int32)), .val (.int (0 : Int32)), .val (.int ct), .val (.int cp), .val (.int (2048 : Int32)), .val (.int vd)] [(.int ex)]) := by
                        intro ex hj146
                        have hex := hj146
                        refine own_istore X135 hx 381 #[.val (.int p0), .val (.int p1), .val (.int p2), .val (.int p3), .val (.int p4), .val (.int (0 : Int32)), .val (.int vr), .val (.int vt), .val (.int vf), .val (.ref a3), .val (.int c0), .val (.int c1), .val (.int c2), .val (.int c3), .val (.int (3 : Int32)), .val (.int ex), .val (.int ct), .val (.int cp), .val (.int (2048 : Int32)), .val (.int vd)] rfl (hb hby at_379) rfl rfl ?_
                        refine own_aload X135 hx 383 (hb hby at_381) rfl rfl ?_
                        refine own_iload X135 hx 385 (hb hby at_383) rfl rfl ?_
                        refine own_iload X135 hx 387 (hb hby at_385) rfl rfl ?_
                        refine own_callS X135 hx hZ hown e136 (y := (⟨"com/example/gentle_indent/gentleindent/util/Utf8", "sequenceLength", "([BII)I"⟩ : MethodName)) (argsL := [(.ref a3), (.int (0 : Int32)), (.int vt)]) (rest := []) 390 (rm2_0 l Z a0 hw a3 vt fy h134 n0 Z138 (by omega) f139) (hw _ (List.mem_of_getElem? (i := 1) rfl)) (hw _ (List.mem_of_getElem? (i := 2) rfl)) (hw _ (List.mem_of_getElem? (i := 3) rfl)) (hw _ (List.mem_of_getElem? (i := 4) rfl)) (by decide) (by rw [hml]; rfl) (lenOf (by decide +kernel : parseMethodDescriptor "([BII)I" = some ⟨[(.array .byte), .int, .int], some .int⟩) rfl) rfl (hb hby at_387) rfl (W := 0) rfl (by decide) (by decide) (by decide) (by decide) (fun r147 T148 L149 X150 q151 => ?_)
                        obtain ⟨rr, rfl, hrr, N152q, e153⟩ := q151
                        have N152 := Fr.app N137 N152q
                        rw [hf0, hf1, hf2, hf3, show vt.toInt - 0 = vr.toInt from by omega] at hrr
                        show own_W p e below _ T148 (mkF m 390 #[.val (.int p0), .val (.int p1), .val (.int p2), .val (.int p3), .val (.int p4), .val (.int (0 : Int32)), .val (.int vr), .val (.int vt), .val (.int vf), .val (.ref a3), .val (.int c0), .val (.int c1), .val (.int c2), .val (.int c3), .val (.int (3 : Int32)), .val (.int ex), .val (.int ct), .val (.int cp), .val (.int (2048 : Int32)), .val (.int vd)] [(.int rr)])
                        refine own_iload X150 hx 392 (hb hby at_390) rfl rfl ?_
                        refine own_icmp_ne X150 hx 399 395 (hb hby at_392) (by decide) (by decide) rfl (fun h154 => ?_) (fun h154 => ?_)
                        · exact absurd (by simp only [Int32.lt_iff_toInt_lt, own_k0, own_k1, own_k2, own_k3, own_k4, own_k128, own_k143, own_k144, own_k159, own_k160, own_k191, own_k192, own_k194, own_k223, own_k224, own_k237, own_k239, own_k240, own_k244, own_k248, own_k2048, own_k55296, own_k57343, own_k65536, own_k1114111] at h59 h60 h61 h122; have q := own_F3 c0.toInt c1.toInt c2.toInt c3.toInt vr.toInt ct cp (by omega) hc1 hc2 (by omega) hct hcp; rw [← hvd] at q; exact own_fin rr ex vd (3 : Int32) 3 _ hrr q hex rfl) h154
                        · show own_W p e below _ T148 (mkF m 395 #[.val (.int p0), .val (.int p1), .val (.int p2), .val (.int p3), .val (.int p4), .val (.int (0 : Int32)), .val (.int vr), .val (.int vt), .val (.int vf), .val (.ref a3), .val (.int c0), .val (.int c1), .val (.int c2), .val (.int c3), .val (.int (3 : Int32)), .val (.int ex), .val (.int ct), .val (.int cp), .val (.int (2048 : Int32)), .val (.int vd)] [])
                          refine own_iconst X150 hx 396 (1 : Int32) (by decide) (hb hby at_395) rfl ?_
                          refine own_goto X150 hx 400 (hb hby at_396) (by decide) (by decide) ?_
                          exact own_retZ X150 hx (1 : Int32) (by decide) hret hlk (hb hby at_400) (by decide) (by decide) ⟨rfl, N152⟩
                      refine own_if_eq X135 hx 378 373 (hb hby at_370) (by decide) (by decide) rfl (fun h155 => ?_) (fun h155 => ?_)
                      · show own_W p e below _ T132 (mkF m 378 #[.val (.int p0), .val (.int p1), .val (.int p2), .val (.int p3), .val (.int p4), .val (.int (0 : Int32)), .val (.int vr), .val (.int vt), .val (.int vf), .val (.ref a3), .val (.int c0), .val (.int c1), .val (.int c2), .val (.int c3), .val (.int (3 : Int32)), .val (.int (0 : Int32)), .val (.int ct), .val (.int cp), .val (.int (2048 : Int32)), .val (.int vd)] [])
                        refine own_iconst X135 hx 379 (0 : Int32) (by decide) (hb hby at_378) rfl ?_
                        exact J145 (0 : Int32) (by rw [if_pos h155])
                      · show own_W p e below _ T132 (mkF m 373 #[.val (.int p0), .val (.int p1), .val (.int p2), .val (.int p3), .val (.int p4), .val (.int (0 : Int32)), .val (.int vr), .val (.int vt), .val (.int vf), .val (.ref a3), .val (.int c0), .val (.int c1), .val (.int c2), .val (.int c3), .val (.int (3 : Int32)), .val (.int (0 : Int32)), .val (.int ct), .val (.int cp), .val (.int (2048 : Int32)), .val (.int vd)] [])
                        refine own_iload X135 hx 375 (hb hby at_373) rfl rfl ?_
                        refine own_goto X135 hx 379 (hb hby at_375) (by decide) (by decide) ?_
                        exact J145 (3 : Int32) (by rw [if_neg h155])
                    refine own_if_eq X135 hx 365 333 (hb hby at_330) (by decide) (by decide) rfl (fun h156 => ?_) (fun h156 => ?_)
                    · show own_W p e below _ T132 (mkF m 365 #[.val (.int p0), .val (.int p1), .val (.int p2), .val (.int p3), .val (.int p4), .val (.int (0 : Int32)), .val (.int vr), .val (.int vt), .val (.int vf), .val (.ref a3), .val (.int c0), .val (.int c1), .val (.int c2), .val (.int c3), .val (.int (3 : Int32)), .val (.int (0 : Int32)), .val (.int ct), .val (.int cp), .val (.int (2048 : Int32)), .unset] [])
                      refine own_iconst X135 hx 366 (0 : Int32) (by decide) (hb hby at_365) rfl ?_
                      exact J143 (0 : Int32) (by unfold own_vd; rw [if_pos h156])
                    · show own_W p e below _ T132 (mkF m 333 #[.val (.int p0), .val (.int p1), .val (.int p2), .val (.int p3), .val (.int p4), .val (.int (0 : Int32)), .val (.int vr), .val (.int vt), .val (.int vf), .val (.ref a3), .val (.int c0), .val (.int c1), .val (.int c2), .val (.int c3), .val (.int (3 : Int32)), .val (.int (0 : Int32)), .val (.int ct), .val (.int cp), .val (.int (2048 : Int32)), .unset] [])
                      refine own_iload X135 hx 335 (hb hby at_333) rfl rfl ?_
                      refine own_iload X135 hx 337 (hb hby at_335) rfl rfl ?_
                      refine own_icmp_lt X135 hx 365 340 (hb hby at_337) (by decide) (by decide) rfl (fun h157 => ?_) (fun h157 => ?_)
                      · show own_W p e below _ T132 (mkF m 365 #[.val (.int p0), .val (.int p1), .val (.int p2), .val (.int p3), .val (.int p4), .val (.int (0 : Int32)), .val (.int vr), .val (.int vt), .val (.int vf), .val (.ref a3), .val (.int c0), .val (.int c1), .val (.int c2), .val (.int c3), .val (.int (3 : Int32)), .val (.int (0 : Int32)), .val (.int ct), .val (.int cp), .val (.int (2048 : Int32)), .unset] [])
                        refine own_iconst X135 hx 366 (0 : Int32) (by decide) (hb hby at_365) rfl ?_
                        exact J143 (0 : Int32) (by unfold own_vd; rw [if_neg h156, if_pos h157])
                      · show own_W p e below _ T132 (mkF m 340 #[.val (.int p0), .val (.int p1), .val (.int p2), .val (.int p3), .val (.int p4), .val (.int (0 : Int32)), .val (.int vr), .val (.int vt), .val (.int vf), .val (.ref a3), .val (.int c0), .val (.int c1), .val (.int c2), .val (.int c3), .val (.int (3 : Int32)), .val (.int (0 : Int32)), .val (.int ct), .val (.int cp), .val (.int (2048 : Int32)), .unset] [])
                        refine own_iload X135 hx 342 (hb hby at_340) rfl rfl ?_
                        refine own_ldc X135 hx hZ hown 344 (hw _ (List.mem_of_getElem? (i := 10) rfl)) (hb hby at_342) rfl ?_
                        refine own_icmp_gt X135 hx 365 347 (hb hby at_344) (by decide) (by decide) rfl (fun h158 => ?_) (fun h158 => ?_)
                        · show own_W p e below _ T132 (mkF m 365 #[.val (.int p0), .val (.int p1), .val (.int p2), .val (.int p3), .val (.int p4), .val (.int (0 : Int32)), .val (.int vr), .val (.int vt), .val (.int vf), .val (.ref a3), .val (.int c0), .val (.int c1), .val (.int c2), .val (.int c3), .val (.int (3 : Int32)), .val (.int (0 : Int32)), .val (.int ct), .val (.int cp), .val (.int (2048 : Int32)), .unset] [])
                          refine own_iconst X135 hx 366 (0 : Int32) (by decide) (hb hby at_365) rfl ?_
                          exact J143 (0 : Int32) (by unfold own_vd; rw [if_neg h156, if_neg h157, if_pos h158])
                        · show own_W p e below _ T132 (mkF m 347 #[.val (.int p0), .val (.int p1), .val (.int p2), .val (.int p3), .val (.int p4), .val (.int (0 : Int32)), .val (.int vr), .val (.int vt), .val (.int vf), .val (.ref a3), .val (.int c0), .val (.int c1), .val (.int c2), .val (.int c3), .val (.int (3 : Int32)), .val (.int (0 : Int32)), .val (.int ct), .val (.int cp), .val (.int (2048 : Int32)), .unset] [])
                          refine own_iload X135 hx 349 (hb hby at_347) rfl rfl ?_
                          refine own_ldc X135 hx hZ hown 351 (hw _ (List.mem_of_getElem? (i := 11) rfl)) (hb hby at_349) rfl ?_
                          refine own_icmp_lt X135 hx 361 354 (hb hby at_351) (by decide) (by decide) rfl (fun h159 => ?_) (fun h159 => ?_)
                          · show own_W p e below _ T132 (mkF m 361 #[.val (.int p0), .val (.int p1), .val (.int p2), .val (.int p3), .val (.int p4), .val (.int (0 : Int32)), .val (.int vr), .val (.int vt), .val (.int vf), .val (.ref a3), .val (.int c0), .val (.int c1), .val (.int c2), .val (.int c3), .val (.int (3 : Int32)), .val (.int (0 : Int32)), .val (.int ct), .val (.int cp), .val (.int (2048 : Int32)), .unset] [])
                            refine own_iconst X135 hx 362 (1 : Int32) (by decide) (hb hby at_361) rfl ?_
                            refine own_goto X135 hx 366 (hb hby at_362) (by decide) (by decide) ?_
                            exact J143 (1 : Int32) (by unfold own_vd; rw [if_neg h156, if_neg h157, if_neg h158, if_pos h159])
                          · show own_W p e below _ T132 (mkF m 354 #[.val (.int p0), .val (.int p1), .val (.int p2), .val (.int p3), .val (.int p4), .val (.int (0 : Int32)), .val (.int vr), .val (.int vt), .val (.int vf), .val (.ref a3), .val (.int c0), .val (.int c1), .val (.int c2), .val (.int c3), .val (.int (3 : Int32)), .val (.int (0 : Int32)), .val (.int ct), .val (.int cp), .val (.int (2048 : Int32)), .unset] [])
                            refine own_iload X135 hx 356 (hb hby at_354) rfl rfl ?_
                            refine own_ldc X135 hx hZ hown 358 (hw _ (List.mem_of_getElem? (i := 12) rfl)) (hb hby at_356) rfl ?_
                            refine own_icmp_le X135 hx 365 361 (hb hby at_358) (by decide) (by decide) rfl (fun h160 => ?_) (fun h160 => ?_)
                            · show own_W p e below _ T132 (mkF m 365 #[.val (.int p0), .val (.int p1), .val (.int p2), .val (.int p3), .val (.int p4), .val (.int (0 : Int32)), .val (.int vr), .val (.int vt), .val (.int vf), .val (.ref a3), .val (.int c0), .val (.int c1), .val (.int c2), .val (.int c3), .val (.int (3 : Int32)), .val (.int (0 : Int32)), .val (.int ct), .val (.int cp), .val (.int (2048 : Int32)), .unset] [])
                              refine own_iconst X135 hx 366 (0 : Int32) (by decide) (hb hby at_365) rfl ?_
                              exact J143 (0 : Int32) (by unfold own_vd; rw [if_neg h156, if_neg h157, if_neg h158, if_neg h159, if_neg h160])
                            · show own_W p e below _ T132 (mkF m 361 #[.val (.int p0), .val (.int p1), .val (.int p2), .val (.int p3), .val (.int p4), .val (.int (0 : Int32)), .val (.int vr), .val (.int vt), .val (.int vf), .val (.ref a3), .val (.int c0), .val (.int c1), .val (.int c2), .val (.int c3), .val (.int (3 : Int32)), .val (.int (0 : Int32)), .val (.int ct), .val (.int cp), .val (.int (2048 : Int32)), .unset] [])
                              refine own_iconst X135 hx 362 (1 : Int32) (by decide) (hb hby at_361) rfl ?_
                              refine own_goto X135 hx 366 (hb hby at_362) (by decide) (by decide) ?_
                              exact J143 (1 : Int32) (by unfold own_vd; rw [if_neg h156, if_neg h157, if_neg h158, if_neg h159, if_pos h160])
                · exact absurd h141 (by decide)
              refine own_iload X53 hx 180 (hb hby at_178) rfl rfl ?_
              refine own_callS X53 hx hZ hown e54 (y := (⟨"com/example/gentle_indent/gentleindent/util/Utf8SequenceLengthPinLaw", "isCont", "(I)Z"⟩ : MethodName)) (argsL := [(.int c1)]) (rest := []) 183 (rm1 l Z a0 hw c1 h52 n0 Z57) (hw _ (List.mem_of_getElem? (i := 5) rfl)) (hw _ (List.mem_of_getElem? (i := 6) rfl)) (hw _ (List.mem_of_getElem? (i := 7) rfl)) (hw _ (List.mem_of_getElem? (i := 8) rfl)) (by decide) (by rw [hml]; rfl) (lenOf (by decide +kernel : parseMethodDescriptor "(I)Z" = some ⟨[.int], some .boolean⟩) rfl) rfl (hb hby at_180) rfl (W := 0) rfl (by decide) (by decide) (by decide) (by decide) (fun r161 T162 L163 X164 q165 => ?_)
              obtain ⟨rfl, N166q, e167⟩ := q165
              have N166 := Fr.app N58 N166q
              show own_W p e below _ T162 (mkF m 183 #[.val (.int p0), .val (.int p1), .val (.int p2), .val (.int p3), .val (.int p4), .val (.int (0 : Int32)), .val (.int vr), .val (.int vt), .val (.int vf), .val (.ref a3), .val (.int c0), .val (.int c1), .val (.int c2), .val (.int c3), .val (.int (3 : Int32)), .val (.int (0 : Int32)), .unset, .unset, .unset, .unset] [(.int (own_isCont c1))])
              refine own_if_eq X164 hx 218 186 (hb hby at_183) (by decide) (by decide) rfl (fun h168 => ?_) (fun h168 => ?_)
              · show own_W p e below _ T162 (mkF m 218 #[.val (.int p0), .val (.int p1), .val (.int p2), .val (.int p3), .val (.int p4), .val (.int (0 : Int32)), .val (.int vr), .val (.int vt), .val (.int vf), .val (.ref a3), .val (.int c0), .val (.int c1), .val (.int c2), .val (.int c3), .val (.int (3 : Int32)), .val (.int (0 : Int32)), .unset, .unset, .unset, .unset] [])
                refine own_iconst X164 hx 219 (0 : Int32) (by decide) (hb hby at_218) rfl ?_
                exact J131 (0 : Int32) T162 _ _ fz X164 e167 N166 Z57 f56 (⟨rfl, Or.inr ⟨rfl, fun u => own_cF c1 hc1 h168 u.1⟩⟩)
              · show own_W p e below _ T162 (mkF m 186 #[.val (.int p0), .val (.int p1), .val (.int p2), .val (.int p3), .val (.int p4), .val (.int (0 : Int32)), .val (.int vr), .val (.int vt), .val (.int vf), .val (.ref a3), .val (.int c0), .val (.int c1), .val (.int c2), .val (.int c3), .val (.int (3 : Int32)), .val (.int (0 : Int32)), .unset, .unset, .unset, .unset] [])
                refine own_iload X164 hx 188 (hb hby at_186) rfl rfl ?_
                refine own_iconst X164 hx 189 (3 : Int32) (by decide) (hb hby at_188) rfl ?_
                refine own_icmp_lt X164 hx 200 192 (hb hby at_189) (by decide) (by decide) rfl (fun h169 => ?_) (fun h169 => ?_)
                · exact absurd h169 (by decide)
                · show own_W p e below _ T162 (mkF m 192 #[.val (.int p0), .val (.int p1), .val (.int p2), .val (.int p3), .val (.int p4), .val (.int (0 : Int32)), .val (.int vr), .val (.int vt), .val (.int vf), .val (.ref a3), .val (.int c0), .val (.int c1), .val (.int c2), .val (.int c3), .val (.int (3 : Int32)), .val (.int (0 : Int32)), .unset, .unset, .unset, .unset] [])
                  refine own_iload X164 hx 194 (hb hby at_192) rfl rfl ?_
                  refine own_callS X164 hx hZ hown e167 (y := (⟨"com/example/gentle_indent/gentleindent/util/Utf8SequenceLengthPinLaw", "isCont", "(I)Z"⟩ : MethodName)) (argsL := [(.int c2)]) (rest := []) 197 (rm1 l Z a0 hw c2 h52 n0 Z57) (hw _ (List.mem_of_getElem? (i := 5) rfl)) (hw _ (List.mem_of_getElem? (i := 6) rfl)) (hw _ (List.mem_of_getElem? (i := 7) rfl)) (hw _ (List.mem_of_getElem? (i := 8) rfl)) (by decide) (by rw [hml]; rfl) (lenOf (by decide +kernel : parseMethodDescriptor "(I)Z" = some ⟨[.int], some .boolean⟩) rfl) rfl (hb hby at_194) rfl (W := 0) rfl (by decide) (by decide) (by decide) (by decide) (fun r170 T171 L172 X173 q174 => ?_)
                  obtain ⟨rfl, N175q, e176⟩ := q174
                  have N175 := Fr.app N166 N175q
                  show own_W p e below _ T171 (mkF m 197 #[.val (.int p0), .val (.int p1), .val (.int p2), .val (.int p3), .val (.int p4), .val (.int (0 : Int32)), .val (.int vr), .val (.int vt), .val (.int vf), .val (.ref a3), .val (.int c0), .val (.int c1), .val (.int c2), .val (.int c3), .val (.int (3 : Int32)), .val (.int (0 : Int32)), .unset, .unset, .unset, .unset] [(.int (own_isCont c2))])
                  refine own_if_eq X173 hx 218 200 (hb hby at_197) (by decide) (by decide) rfl (fun h177 => ?_) (fun h177 => ?_)
                  · show own_W p e below _ T171 (mkF m 218 #[.val (.int p0), .val (.int p1), .val (.int p2), .val (.int p3), .val (.int p4), .val (.int (0 : Int32)), .val (.int vr), .val (.int vt), .val (.int vf), .val (.ref a3), .val (.int c0), .val (.int c1), .val (.int c2), .val (.int c3), .val (.int (3 : Int32)), .val (.int (0 : Int32)), .unset, .unset, .unset, .unset] [])
                    refine own_iconst X173 hx 219 (0 : Int32) (by decide) (hb hby at_218) rfl ?_
                    exact J131 (0 : Int32) T171 _ _ fz X173 e176 N175 Z57 f56 (⟨rfl, Or.inr ⟨rfl, fun u => own_cF c2 hc2 h177 u.2⟩⟩)
                  · show own_W p e below _ T171 (mkF m 200 #[.val (.int p0), .val (.int p1), .val (.int p2), .val (.int p3), .val (.int p4), .val (.int (0 : Int32)), .val (.int vr), .val (.int vt), .val (.int vf), .val (.ref a3), .val (.int c0), .val (.int c1), .val (.int c2), .val (.int c3), .val (.int (3 : Int32)), .val (.int (0 : Int32)), .unset, .unset, .unset, .unset] [])
                    refine own_iload X173 hx 202 (hb hby at_200) rfl rfl ?_
                    refine own_iconst X173 hx 203 (4 : Int32) (by decide) (hb hby at_202) rfl ?_
                    refine own_icmp_lt X173 hx 214 206 (hb hby at_203) (by decide) (by decide) rfl (fun h178 => ?_) (fun h178 => ?_)
                    · show own_W p e below _ T171 (mkF m 214 #[.val (.int p0), .val (.int p1), .val (.int p2), .val (.int p3), .val (.int p4), .val (.int (0 : Int32)), .val (.int vr), .val (.int vt), .val (.int vf), .val (.ref a3), .val (.int c0), .val (.int c1), .val (.int c2), .val (.int c3), .val (.int (3 : Int32)), .val (.int (0 : Int32)), .unset, .unset, .unset, .unset] [])
                      refine own_iconst X173 hx 215 (1 : Int32) (by decide) (hb hby at_214) rfl ?_
                      refine own_goto X173 hx 219 (hb hby at_215) (by decide) (by decide) ?_
                      exact J131 (1 : Int32) T171 _ _ fz X173 e176 N175 Z57 f56 (⟨rfl, Or.inl ⟨rfl, ⟨own_cT c1 hc1 h168, own_cT c2 hc2 h177⟩⟩⟩)
                    · exact absurd h178 (by decide)
      · show own_W p e below _ T51 (mkF m 132 #[.val (.int p0), .val (.int p1), .val (.int p2), .val (.int p3), .val (.int p4), .val (.int (0 : Int32)), .val (.int vr), .val (.int vt), .val (.int vf), .val (.ref a3), .val (.int c0), .val (.int c1), .val (.int c2), .val (.int c3), .unset, .unset, .unset, .unset, .unset, .unset] [])
        refine own_iconst X53 hx 133 (4 : Int32) (by decide) (hb hby at_132) rfl ?_
        refine own_goto X53 hx 161 (hb hby at_133) (by decide) (by decide) ?_
        refine own_istore X53 hx 163 #[.val (.int p0), .val (.int p1), .val (.int p2), .val (.int p3), .val (.int p4), .val (.int (0 : Int32)), .val (.int vr), .val (.int vt), .val (.int vf), .val (.ref a3), .val (.int c0), .val (.int c1), .val (.int c2), .val (.int c3), .val (.int (4 : Int32)), .unset, .unset, .unset, .unset, .unset] rfl (hb hby at_161) rfl rfl ?_
        refine own_iconst X53 hx 164 (0 : Int32) (by decide) (hb hby at_163) rfl ?_
        refine own_istore X53 hx 166 #[.val (.int p0), .val (.int p1), .val (.int p2), .val (.int p3), .val (.int p4), .val (.int (0 : Int32)), .val (.int vr), .val (.int vt), .val (.int vf), .val (.ref a3), .val (.int c0), .val (.int c1), .val (.int c2), .val (.int c3), .val (.int (4 : Int32)), .val (.int (0 : Int32)), .unset, .unset, .unset, .unset] rfl (hb hby at_164) rfl rfl ?_
        refine own_iload X53 hx 168 (hb hby at_166) rfl rfl ?_
        refine own_if_eq X53 hx 381 171 (hb hby at_168) (by decide) (by decide) rfl (fun h179 => ?_) (fun h179 => ?_)
        · exact absurd h179 (by decide)
        · show own_W p e below _ T51 (mkF m 171 #[.val (.int p0), .val (.int p1), .val (.int p2), .val (.int p3), .val (.int p4), .val (.int (0 : Int32)), .val (.int vr), .val (.int vt), .val (.int vf), .val (.ref a3), .val (.int c0), .val (.int c1), .val (.int c2), .val (.int c3), .val (.int (4 : Int32)), .val (.int (0 : Int32)), .unset, .unset, .unset, .unset] [])
          refine own_iload X53 hx 173 (hb hby at_171) rfl rfl ?_
          refine own_iload X53 hx 175 (hb hby at_173) rfl rfl ?_
          refine own_icmp_lt X53 hx 381 178 (hb hby at_175) (by decide) (by decide) rfl (fun h180 => ?_) (fun h180 => ?_)
          · show own_W p e below _ T51 (mkF m 381 #[.val (.int p0), .val (.int p1), .val (.int p2), .val (.int p3), .val (.int p4), .val (.int (0 : Int32)), .val (.int vr), .val (.int vt), .val (.int vf), .val (.ref a3), .val (.int c0), .val (.int c1), .val (.int c2), .val (.int c3), .val (.int (4 : Int32)), .val (.int (0 : Int32)), .unset, .unset, .unset, .unset] [])
            refine own_aload X53 hx 383 (hb hby at_381) rfl rfl ?_
            refine own_iload X53 hx 385 (hb hby at_383) rfl rfl ?_
            refine own_iload X53 hx 387 (hb hby at_385) rfl rfl ?_
            refine own_callS X53 hx hZ hown e54 (y := (⟨"com/example/gentle_indent/gentleindent/util/Utf8", "sequenceLength", "([BII)I"⟩ : MethodName)) (argsL := [(.ref a3), (.int (0 : Int32)), (.int vt)]) (rest := []) 390 (rm2_0 l Z a0 hw a3 vt fz h52 n0 Z57 (by omega) f56) (hw _ (List.mem_of_getElem? (i := 1) rfl)) (hw _ (List.mem_of_getElem? (i := 2) rfl)) (hw _ (List.mem_of_getElem? (i := 3) rfl)) (hw _ (List.mem_of_getElem? (i := 4) rfl)) (by decide) (by rw [hml]; rfl) (lenOf (by decide +kernel : parseMethodDescriptor "([BII)I" = some ⟨[(.array .byte), .int, .int], some .int⟩) rfl) rfl (hb hby at_387) rfl (W := 0) rfl (by decide) (by decide) (by decide) (by decide) (fun r181 T182 L183 X184 q185 => ?_)
            obtain ⟨rr, rfl, hrr, N186q, e187⟩ := q185
            have N186 := Fr.app N58 N186q
            rw [hf0, hf1, hf2, hf3, show vt.toInt - 0 = vr.toInt from by omega] at hrr
            show own_W p e below _ T182 (mkF m 390 #[.val (.int p0), .val (.int p1), .val (.int p2), .val (.int p3), .val (.int p4), .val (.int (0 : Int32)), .val (.int vr), .val (.int vt), .val (.int vf), .val (.ref a3), .val (.int c0), .val (.int c1), .val (.int c2), .val (.int c3), .val (.int (4 : Int32)), .val (.int (0 : Int32)), .unset, .unset, .unset, .unset] [(.int rr)])
            refine own_iload X184 hx 392 (hb hby at_390) rfl rfl ?_
            refine own_icmp_ne X184 hx 399 395 (hb hby at_392) (by decide) (by decide) rfl (fun h188 => ?_) (fun h188 => ?_)
            · exact absurd (by rw [← Int32.toInt_inj, hrr]; simp only [Int32.lt_iff_toInt_lt, own_k0, own_k1, own_k2, own_k3, own_k4, own_k128, own_k143, own_k144, own_k159, own_k160, own_k191, own_k192, own_k194, own_k223, own_k224, own_k237, own_k239, own_k240, own_k244, own_k248, own_k2048, own_k55296, own_k57343, own_k65536, own_k1114111] at h59 h60 h180; exact (own_F0 _ _ _ _ _ (by omega)).trans rfl) h188
            · show own_W p e below _ T182 (mkF m 395 #[.val (.int p0), .val (.int p1), .val (.int p2), .val (.int p3), .val (.int p4), .val (.int (0 : Int32)), .val (.int vr), .val (.int vt), .val (.int vf), .val (.ref a3), .val (.int c0), .val (.int c1), .val (.int c2), .val (.int c3), .val (.int (4 : Int32)), .val (.int (0 : Int32)), .unset, .unset, .unset, .unset] [])
              refine own_iconst X184 hx 396 (1 : Int32) (by decide) (hb hby at_395) rfl ?_
              refine own_goto X184 hx 400 (hb hby at_396) (by decide) (by decide) ?_
              exact own_retZ X184 hx (1 : Int32) (by decide) hret hlk (hb hby at_400) (by decide) (by decide) ⟨rfl, N186⟩
          · show own_W p e below _ T51 (mkF m 178 #[.val (.int p0), .val (.int p1), .val (.int p2), .val (.int p3), .val (.int p4), .val (.int (0 : Int32)), .val (.int vr), .val (.int vt), .val (.int vf), .val (.ref a3), .val (.int c0), .val (.int c1), .val (.int c2), .val (.int c3), .val (.int (4 : Int32)), .val (.int (0 : Int32)), .unset, .unset, .unset, .unset] [])
            have J189 : ∀ (ct : Int32) (T190 : State) (lc191 : List Loc) (h192 : Heap) (fy : Nat → Int32) (X193 : Stand p l e room_1 s m #[(.int p0), (.int p1), (.int p2), (.int p3), (.int p4)] below meth c T190 lc191 1 5) (e194 : T190.heap = h192) (N195 : Fr n0 lc191) (Z196 : n0 ≤ h192.size) (f197 : own_AI Z h192 a3 .byte 5 fy) (hj198 : fy = fz ∧ ((ct = 1 ∧ own_co c1.toInt ∧ own_co c2.toInt ∧ own_co c3.toInt) ∨ (ct = 0 ∧ ¬ (own_co c1.toInt ∧ own_co c2.toInt ∧ own_co c3.toInt)))), own_W p e below (own_K s room_1 (fun v h L => v = some (.int 1) ∧ Fr n0 L)) T190 (mkF m 219 #[.val (.int p0), .val (.int p1), .val (.int p2), .val (.int p3), .val (.int p4), .val (.int (0 : Int32)), .val (.int vr), .val (.int vt), .val (.int vf), .val (.ref a3), .val (.int c0), .val (.int c1), .val (.int c2), .val (.int c3), .val (.int (4 : Int32)), .val (.int (0 : Int32)), .unset, .unset, .unset, .unset] [(.int ct)]) := by
              intro ct T190 lc191 h192 fy X193 e194 N195 Z196 f197 hj198
              obtain ⟨rfl, hct⟩ := hj198
              refine own_istore X193 hx 221 #[.val (.int p0), .val (.int p1), .val (.int p2), .val (.int p3), .val (.int p4), .val (.int (0 : Int32)), .val (.int vr), .val (.int vt), .val (.int vf), .val (.ref a3), .val (.int c0), .val (.int c1), .val (.int c2), .val (.int c3), .val (.int (4 : Int32)), .val (.int (0 : Int32)), .val (.int ct), .unset, .unset, .unset] rfl (hb hby at_219) rfl rfl ?_
              refine own_iload X193 hx 223 (hb hby at_221) rfl rfl ?_
              refine own_iconst X193 hx 224 (2 : Int32) (by decide) (hb hby at_223) rfl ?_
              refine own_icmp_ne X193 hx 251 227 (hb hby at_224) (by decide) (by decide) rfl (fun h199 => ?_) (fun h199 => ?_)
              · show own_W p e below _ T190 (mkF m 251 #[.val (.int p0), .val (.int p1), .val (.int p2), .val (.int p3), .val (.int p4), .val (.int (0 : Int32)), .val (.int vr), .val (.int vt), .val (.int vf), .val (.ref a3), .val (.int c0), .val (.int c1), .val (.int c2), .val (.int c3), .val (.int (4 : Int32)), .val (.int (0 : Int32)), .val (.int ct), .unset, .unset, .unset] [])
                refine own_iload X193 hx 253 (hb hby at_251) rfl rfl ?_
                refine own_iconst X193 hx 254 (3 : Int32) (by decide) (hb hby at_253) rfl ?_
                refine own_icmp_ne X193 hx 290 257 (hb hby at_254) (by decide) (by decide) rfl (fun h200 => ?_) (fun h200 => ?_)
                · show own_W p e below _ T190 (mkF m 290 #[.val (.int p0), .val (.int p1), .val (.int p2), .val (.int p3), .val (.int p4), .val (.int (0 : Int32)), .val (.int vr), .val (.int vt), .val (.int vf), .val (.ref a3), .val (.int c0), .val (.int c1), .val (.int c2), .val (.int c3), .val (.int (4 : Int32)), .val (.int (0 : Int32)), .val (.int ct), .unset, .unset, .unset] [])
                  refine own_iload X193 hx 292 (hb hby at_290) rfl rfl ?_
                  refine own_bipush X193 hx 294 (7 : Int32) (by decide) (hb hby at_292) rfl ?_
                  refine own_iand X193 hx 295 (hb hby at_294) rfl ?_
                  refine own_bipush X193 hx 297 (18 : Int32) (by decide) (hb hby at_295) rfl ?_
                  refine own_ishl X193 hx 298 (hb hby at_297) rfl ?_
                  refine own_iload X193 hx 300 (hb hby at_298) rfl rfl ?_
                  refine own_bipush X193 hx 302 (63 : Int32) (by decide) (hb hby at_300) rfl ?_
                  refine own_iand X193 hx 303 (hb hby at_302) rfl ?_
                  refine own_bipush X193 hx 305 (12 : Int32) (by decide) (hb hby at_303) rfl ?_
                  refine own_ishl X193 hx 306 (hb hby at_305) rfl ?_
                  refine own_ior X193 hx 307 (hb hby at_306) rfl ?_
                  refine own_iload X193 hx 309 (hb hby at_307) rfl rfl ?_
                  refine own_bipush X193 hx 311 (63 : Int32) (by decide) (hb hby at_309) rfl ?_
                  refine own_iand X193 hx 312 (hb hby at_311) rfl ?_
                  refine own_bipush X193 hx 314 (6 : Int32) (by decide) (hb hby at_312) rfl ?_
                  refine own_ishl X193 hx 315 (hb hby at_314) rfl ?_
                  refine own_ior X193 hx 316 (hb hby at_315) rfl ?_
                  refine own_iload X193 hx 318 (hb hby at_316) rfl rfl ?_
                  refine own_bipush X193 hx 320 (63 : Int32) (by decide) (hb hby at_318) rfl ?_
                  refine own_iand X193 hx 321 (hb hby at_320) rfl ?_
                  refine own_ior X193 hx 322 (hb hby at_321) rfl ?_
                  obtain ⟨cp, e_cp⟩ : ∃ z : Int32, z = (((((c0 &&& (7 : Int32)) <<< ((18 : Int32) &&& 31)) ||| ((c1 &&& (63 : Int32)) <<< ((12 : Int32) &&& 31))) ||| ((c2 &&& (63 : Int32)) <<< ((6 : Int32) &&& 31))) ||| (c3 &&& (63 : Int32))) := ⟨_, rfl⟩
                  refine own_istore X193 hx 324 #[.val (.int p0), .val (.int p1), .val (.int p2), .val (.int p3), .val (.int p4), .val (.int (0 : Int32)), .val (.int vr), .val (.int vt), .val (.int vf), .val (.ref a3), .val (.int c0), .val (.int c1), .val (.int c2), .val (.int c3), .val (.int (4 : Int32)), .val (.int (0 : Int32)), .val (.int ct), .val (.int cp), .unset, .unset] e_cp (hb hby at_322) rfl rfl ?_
                  have hcp := own_cp4 c0 c1 c2 c3 cp e_cp
                  refine own_ldc X193 hx hZ hown 326 (hw _ (List.mem_of_getElem? (i := 9) rfl)) (hb hby at_324) rfl ?_
                  refine own_istore X193 hx 328 #[.val (.int p0), .val (.int p1), .val (.int p2), .val (.int p3), .val (.int p4), .val (.int (0 : Int32)), .val (.int vr), .val (.int vt), .val (.int vf), .val (.ref a3), .val (.int c0), .val (.int c1), .val (.int c2), .val (.int c3), .val (.int (4 : Int32)), .val (.int (0 : Int32)), .val (.int ct), .val (.int cp), .val (.int (65536 : Int32)), .unset] rfl (hb hby at_326) rfl rfl ?_
                  refine own_iload X193 hx 330 (hb hby at_328) rfl rfl ?_
                  have J201 : ∀ (vd : Int32) (hj202 : vd = own_vd ct cp (65536 : Int32)), own_W p e below (own_K s room_1 (fun v h L => v = some (.int 1) ∧ Fr n0 L)) T190 (mkF m 366 #[.val (.int p0), .val (.int p1), .val (.int p2), .val (.int p3), .val (.int p4), .val (.int (0 : Int32)), .val (.int vr), .val (.int vt), .val (.int vf), .val (.ref a3), .val (.int c0), .val (.int c1), .val (.int c2), .val (.int c3), .val (.int (4 : Int32)), .val (.int (0 : Int32)), .val (.int ct), .val (.int cp), .val (.int (65536 : Int32)), .unset] [(.int vd)]) := by
                    intro vd hj202
                    have hvd := hj202
                    refine own_istore X193 hx 368 #[.val (.int p0), .val (.int p1), .val (.int p2), .val (.int p3), .val (.int p4), .val (.int (0 : Int32)), .val (.int vr), .val (.int vt), .val (.int vf), .val (.ref a3), .val (.int c0), .val (.int c1), .val (.int c2), .val (.int c3), .val (.int (4 : Int32)), .val (.int (0 : Int32)), .val (.int ct), .val (.int cp), .val (.int (65536 : Int32)), .val (.int vd)] rfl (hb hby at_366) rfl rfl ?_
                    refine own_iload X193 hx 370 (hb hby at_368) rfl rfl ?_
                    have J203 : ∀ (ex : Int32) (hj204 : ex = if vd = 0 then 0 else (4 : Int32)), own_W p e below (own_K s room_1 (fun v h L => v = some (.int 1) ∧ Fr n0 L)) T190 (mkF m 379 #[.val (.int p0), .val (.int p1), .val (.int p2), .val (.int p3), .val (.int p4), .val (.int (0 : Int32)), .val (.int vr), .val (.int vt), .val (.int vf), .val (.ref a3), .val (.int c0), .val (.int c1), .val (.int c2), .val (.int c3), .val (.int (4 : Int32)), .val (.int (0 : Int32)), .val (.int ct), .val (.int cp), .val (.int (65536 : Int32)), .val (.int vd)] [(.int ex)]) := by
                      intro ex hj204
                      have hex := hj204
                      refine own_istore X193 hx 381 #[.val (.int p0), .val (.int p1), .val (.int p2), .val (.int p3), .val (.int p4), .val (.int (0 : Int32)), .val (.int vr), .val (.int vt), .val (.int vf), .val (.ref a3), .val (.int c0), .val (.int c1), .val (.int c2), .val (.int c3), .val (.int (4 : Int32)), .val (.int ex), .val (.int ct), .val (.int cp), .val (.int (65536 : Int32)), .val (.int vd)] rfl (hb hby at_379) rfl rfl ?_
                      refine own_aload X193 hx 383 (hb hby at_381) rfl rfl ?_
                      refine own_iload X193 hx 385 (hb hby at_383) rfl rfl ?_
                      refine own_iload X193 hx 387 (hb hby at_385) rfl rfl ?_
                      refine own_callS X193 hx hZ hown e194 (y := (⟨"com/example/gentle_indent/gentleindent/util/Utf8", "sequenceLength", "([BII)I"⟩ : MethodName)) (argsL := [(.ref a3), (.int (0 : Int32)), (.int vt)]) (rest := []) 390 (rm2_0 l Z a0 hw a3 vt fy h192 n0 Z196 (by omega) f197) (hw _ (List.mem_of_getElem? (i := 1) rfl)) (hw _ (List.mem_of_getElem? (i := 2) rfl)) (hw _ (List.mem_of_getElem? (i := 3) rfl)) (hw _ (List.mem_of_getElem? (i := 4) rfl)) (by decide) (by rw [hml]; rfl) (lenOf (by decide +kernel : parseMethodDescriptor "([BII)I" = some ⟨[(.array .byte), .int, .int], some .int⟩) rfl) rfl (hb hby at_387) rfl (W := 0) rfl (by decide) (by decide) (by decide) (by decide) (fun r205 T206 L207 X208 q209 => ?_)
                      obtain ⟨rr, rfl, hrr, N210q, e211⟩ := q209
                      have N210 := Fr.app N195 N210q
                      rw [hf0, hf1, hf2, hf3, show vt.toInt - 0 = vr.toInt from by omega] at hrr
                      show own_W p e below _ T206 (mkF m 390 #[.val (.int p0), .val (.int p1), .val (.int p2), .val (.int p3), .val (.int p4), .val (.int (0 : Int32)), .val (.int vr), .val (.int vt), .val (.int vf), .val (.ref a3), .val (.int c0), .val (.int c1), .val (.int c2), .val (.int c3), .val (.int (4 : Int32)), .val (.int ex), .val (.int ct), .val (.int cp), .val (.int (65536 : Int32)), .val (.int vd)] [(.int rr)])
                      refine own_iload X208 hx 392 (hb hby at_390) rfl rfl ?_
                      refine own_icmp_ne X208 hx 399 395 (hb hby at_392) (by decide) (by decide) rfl (fun h212 => ?_) (fun h212 => ?_)
                      · exact absurd (by simp only [Int32.lt_iff_toInt_lt, own_k0, own_k1, own_k2, own_k3, own_k4, own_k128, own_k143, own_k144, own_k159, own_k160, own_k191, own_k192, own_k194, own_k223, own_k224, own_k237, own_k239, own_k240, own_k244, own_k248, own_k2048, own_k55296, own_k57343, own_k65536, own_k1114111] at h59 h60 h180; have q := own_F4 c0.toInt c1.toInt c2.toInt c3.toInt vr.toInt ct cp (by omega) hc1 hc2 hc3 (by omega) hct hcp; rw [← hvd] at q; exact own_fin rr ex vd (4 : Int32) 4 _ hrr q hex rfl) h212
                      · show own_W p e below _ T206 (mkF m 395 #[.val (.int p0), .val (.int p1), .val (.int p2), .val (.int p3), .val (.int p4), .val (.int (0 : Int32)), .val (.int vr), .val (.int vt), .val (.int vf), .val (.ref a3), .val (.int c0), .val (.int c1), .val (.int c2), .val (.int c3), .val (.int (4 : Int32)), .val (.int ex), .val (.int ct), .val (.int cp), .val (.int (65536 : Int32)), .val (.int vd)] [])
                        refine own_iconst X208 hx 396 (1 : Int32) (by decide) (hb hby at_395) rfl ?_
                        refine own_goto X208 hx 400 (hb hby at_396) (by decide) (by decide) ?_
                        exact own_retZ X208 hx (1 : Int32) (by decide) hret hlk (hb hby at_400) (by decide) (by decide) ⟨rfl, N210⟩
                    refine own_if_eq X193 hx 378 373 (hb hby at_370) (by decide) (by decide) rfl (fun h213 => ?_) (fun h213 => ?_)
                    · show own_W p e below _ T190 (mkF m 378 #[.val (.int p0), .val (.int p1), .val (.int p2), .val (.int p3), .val (.int p4), .val (.int (0 : Int32)), .val (.int vr), .val (.int vt), .val (.int vf), .val (.ref a3), .val (.int c0), .val (.int c1), .val (.int c2), .val (.int c3), .val (.int (4 : Int32)), .val (.int (0 : Int32)), .val (.int ct), .val (.int cp), .val (.int (65536 : Int32)), .val (.int vd)] [])
                      refine own_iconst X193 hx 379 (0 : Int32) (by decide) (hb hby at_378) rfl ?_
                      exact J203 (0 : Int32) (by rw [if_pos h213])
                    · show own_W p e below _ T190 (mkF m 373 #[.val (.int p0), .val (.int p1), .val (.int p2), .val (.int p3), .val (.int p4), .val (.int (0 : Int32)), .val (.int vr), .val (.int vt), .val (.int vf), .val (.ref a3), .val (.int c0), .val (.int c1), .val (.int c2), .val (.int c3), .val (.int (4 : Int32)), .val (.int (0 : Int32)), .val (.int ct), .val (.int cp), .val (.int (65536 : Int32)), .val (.int vd)] [])
                      refine own_iload X193 hx 375 (hb hby at_373) rfl rfl ?_
                      refine own_goto X193 hx 379 (hb hby at_375) (by decide) (by decide) ?_
                      exact J203 (4 : Int32) (by rw [if_neg h213])
                  refine own_if_eq X193 hx 365 333 (hb hby at_330) (by decide) (by decide) rfl (fun h214 => ?_) (fun h214 => ?_)
                  · show own_W p e below _ T190 (mkF m 365 #[.val (.int p0), .val (.int p1), .val (.int p2), .val (.int p3), .val (.int p4), .val (.int (0 : Int32)), .val (.int vr), .val (.int vt), .val (.int vf), .val (.ref a3), .val (.int c0), .val (.int c1), .val (.int c2), .val (.int c3), .val (.int (4 : Int32)), .val (.int (0 : Int32)), .val (.int ct), .val (.int cp), .val (.int (65536 : Int32)), .unset] [])
                    refine own_iconst X193 hx 366 (0 : Int32) (by decide) (hb hby at_365) rfl ?_
                    exact J201 (0 : Int32) (by unfold own_vd; rw [if_pos h214])
                  · show own_W p e below _ T190 (mkF m 333 #[.val (.int p0), .val (.int p1), .val (.int p2), .val (.int p3), .val (.int p4), .val (.int (0 : Int32)), .val (.int vr), .val (.int vt), .val (.int vf), .val (.ref a3), .val (.int c0), .val (.int c1), .val (.int c2), .val (.int c3), .val (.int (4 : Int32)), .val (.int (0 : Int32)), .val (.int ct), .val (.int cp), .val (.int (65536 : Int32)), .unset] [])
                    refine own_iload X193 hx 335 (hb hby at_333) rfl rfl ?_
                    refine own_iload X193 hx 337 (hb hby at_335) rfl rfl ?_
                    refine own_icmp_lt X193 hx 365 340 (hb hby at_337) (by decide) (by decide) rfl (fun h215 => ?_) (fun h215 => ?_)
                    · show own_W p e below _ T190 (mkF m 365 #[.val (.int p0), .val (.int p1), .val (.int p2), .val (.int p3), .val (.int p4), .val (.int (0 : Int32)), .val (.int vr), .val (.int vt), .val (.int vf), .val (.ref a3), .val (.int c0), .val (.int c1), .val (.int c2), .val (.int c3), .val (.int (4 : Int32)), .val (.int (0 : Int32)), .val (.int ct), .val (.int cp), .val (.int (65536 : Int32)), .unset] [])
                      refine own_iconst X193 hx 366 (0 : Int32) (by decide) (hb hby at_365) rfl ?_
                      exact J201 (0 : Int32) (by unfold own_vd; rw [if_neg h214, if_pos h215])
                    · show own_W p e below _ T190 (mkF m 340 #[.val (.int p0), .val (.int p1), .val (.int p2), .val (.int p3), .val (.int p4), .val (.int (0 : Int32)), .val (.int vr), .val (.int vt), .val (.int vf), .val (.ref a3), .val (.int c0), .val (.int c1), .val (.int c2), .val (.int c3), .val (.int (4 : Int32)), .val (.int (0 : Int32)), .val (.int ct), .val (.int cp), .val (.int (65536 : Int32)), .unset] [])
                      refine own_iload X193 hx 342 (hb hby at_340) rfl rfl ?_
                      refine own_ldc X193 hx hZ hown 344 (hw _ (List.mem_of_getElem? (i := 10) rfl)) (hb hby at_342) rfl ?_
                      refine own_icmp_gt X193 hx 365 347 (hb hby at_344) (by decide) (by decide) rfl (fun h216 => ?_) (fun h216 => ?_)
                      · show own_W p e below _ T190 (mkF m 365 #[.val (.int p0), .val (.int p1), .val (.int p2), .val (.int p3), .val (.int p4), .val (.int (0 : Int32)), .val (.int vr), .val (.int vt), .val (.int vf), .val (.ref a3), .val (.int c0), .val (.int c1), .val (.int c2), .val (.int c3), .val (.int (4 : Int32)), .val (.int (0 : Int32)), .val (.int ct), .val (.int cp), .val (.int (65536 : Int32)), .unset] [])
                        refine own_iconst X193 hx 366 (0 : Int32) (by decide) (hb hby at_365) rfl ?_
                        exact J201 (0 : Int32) (by unfold own_vd; rw [if_neg h214, if_neg h215, if_pos h216])
                      · show own_W p e below _ T190 (mkF m 347 #[.val (.int p0), .val (.int p1), .val (.int p2), .val (.int p3), .val (.int p4), .val (.int (0 : Int32)), .val (.int vr), .val (.int vt), .val (.int vf), .val (.ref a3), .val (.int c0), .val (.int c1), .val (.int c2), .val (.int c3), .val (.int (4 : Int32)), .val (.int (0 : Int32)), .val (.int ct), .val (.int cp), .val (.int (65536 : Int32)), .unset] [])
                        refine own_iload X193 hx 349 (hb hby at_347) rfl rfl ?_
                        refine own_ldc X193 hx hZ hown 351 (hw _ (List.mem_of_getElem? (i := 11) rfl)) (hb hby at_349) rfl ?_
                        refine own_icmp_lt X193 hx 361 354 (hb hby at_351) (by decide) (by decide) rfl (fun h217 => ?_) (fun h217 => ?_)
                        · show own_W p e below _ T190 (mkF m 361 #[.val (.int p0), .val (.int p1), .val (.int p2), .val (.int p3), .val (.int p4), .val (.int (0 : Int32)), .val (.int vr), .val (.int vt), .val (.int vf), .val (.ref a3), .val (.int c0), .val (.int c1), .val (.int c2), .val (.int c3), .val (.int (4 : Int32)), .val (.int (0 : Int32)), .val (.int ct), .val (.int cp), .val (.int (65536 : Int32)), .unset] [])
                          refine own_iconst X193 hx 362 (1 : Int32) (by decide) (hb hby at_361) rfl ?_
                          refine own_goto X193 hx 366 (hb hby at_362) (by decide) (by decide) ?_
                          exact J201 (1 : Int32) (by unfold own_vd; rw [if_neg h214, if_neg h215, if_neg h216, if_pos h217])
                        · show own_W p e below _ T190 (mkF m 354 #[.val (.int p0), .val (.int p1), .val (.int p2), .val (.int p3), .val (.int p4), .val (.int (0 : Int32)), .val (.int vr), .val (.int vt), .val (.int vf), .val (.ref a3), .val (.int c0), .val (.int c1), .val (.int c2), .val (.int c3), .val (.int (4 : Int32)), .val (.int (0 : Int32)), .val (.int ct), .val (.int cp), .val (.int (65536 : Int32)), .unset] [])
                          refine own_iload X193 hx 356 (hb hby at_354) rfl rfl ?_
                          refine own_ldc X193 hx hZ hown 358 (hw _ (List.mem_of_getElem? (i := 12) rfl)) (hb hby at_356) rfl ?_
                          refine own_icmp_le X193 hx 365 361 (hb hby at_358) (by decide) (by decide) rfl (fun h218 => ?_) (fun h218 => ?_)
                          · show own_W p e below _ T190 (mkF m 365 #[.val (.int p0), .val (.int p1), .val (.int p2), .val (.int p3), .val (.int p4), .val (.int (0 : Int32)), .val (.int vr), .val (.int vt), .val (.int vf), .val (.ref a3), .val (.int c0), .val (.int c1), .val (.int c2), .val (.int c3), .val (.int (4 : Int32)), .val (.int (0 : Int32)), .val (.int ct), .val (.int cp), .val (.int (65536 : Int32)), .unset] [])
                            refine own_iconst X193 hx 366 (0 : Int32) (by decide) (hb hby at_365) rfl ?_
                            exact J201 (0 : Int32) (by unfold own_vd; rw [if_neg h214, if_neg h215, if_neg h216, if_neg h217, if_neg h218])
                          · show own_W p e below _ T190 (mkF m 361 #[.val (.int p0), .val (.int p1), .val (.int p2), .val (.int p3), .val (.int p4), .val (.int (0 : Int32)), .val (.int vr), .val (.int vt), .val (.int vf), .val (.ref a3), .val (.int c0), .val (.int c1), .val (.int c2), .val (.int c3), .val (.int (4 : Int32)), .val (.int (0 : Int32)), .val (.int ct), .val (.int cp), .val (.int (65536 : Int32)), .unset] [])
                            refine own_iconst X193 hx 362 (1 : Int32) (by decide) (hb hby at_361) rfl ?_
                            refine own_goto X193 hx 366 (hb hby at_362) (by decide) (by decide) ?_
                            exact J201 (1 : Int32) (by unfold own_vd; rw [if_neg h214, if_neg h215, if_neg h216, if_neg h217, if_pos h218])
                · exact absurd h200 (by decide)
              · exact absurd h199 (by decide)
            refine own_iload X53 hx 180 (hb hby at_178) rfl rfl ?_
            refine own_callS X53 hx hZ hown e54 (y := (⟨"com/example/gentle_indent/gentleindent/util/Utf8SequenceLengthPinLaw", "isCont", "(I)Z"⟩ : MethodName)) (argsL := [(.int c1)]) (rest := []) 183 (rm1 l Z a0 hw c1 h52 n0 Z57) (hw _ (List.mem_of_getElem? (i := 5) rfl)) (hw _ (List.mem_of_getElem? (i := 6) rfl)) (hw _ (List.mem_of_getElem? (i := 7) rfl)) (hw _ (List.mem_of_getElem? (i := 8) rfl)) (by decide) (by rw [hml]; rfl) (lenOf (by decide +kernel : parseMethodDescriptor "(I)Z" = some ⟨[.int], some .boolean⟩) rfl) rfl (hb hby at_180) rfl (W := 0) rfl (by decide) (by decide) (by decide) (by decide) (fun r219 T220 L221 X222 q223 => ?_)
            obtain ⟨rfl, N224q, e225⟩ := q223
            have N224 := Fr.app N58 N224q
            show own_W p e below _ T220 (mkF m 183 #[.val (.int p0), .val (.int p1), .val (.int p2), .val (.int p3), .val (.int p4), .val (.int (0 : Int32)), .val (.int vr), .val (.int vt), .val (.int vf), .val (.ref a3), .val (.int c0), .val (.int c1), .val (.int c2), .val (.int c3), .val (.int (4 : Int32)), .val (.int (0 : Int32)), .unset, .unset, .unset, .unset] [(.int (own_isCont c1))])
            refine own_if_eq X222 hx 218 186 (hb hby at_183) (by decide) (by decide) rfl (fun h226 => ?_) (fun h226 => ?_)
            · show own_W p e below _ T220 (mkF m 218 #[.val (.int p0), .val (.int p1), .val (.int p2), .val (.int p3), .val (.int p4), .val (.int (0 : Int32)), .val (.int vr), .val (.int vt), .val (.int vf), .val (.ref a3), .val (.int c0), .val (.int c1), .val (.int c2), .val (.int c3), .val (.int (4 : Int32)), .val (.int (0 : Int32)), .unset, .unset, .unset, .unset] [])
              refine own_iconst X222 hx 219 (0 : Int32) (by decide) (hb hby at_218) rfl ?_
              exact J189 (0 : Int32) T220 _ _ fz X222 e225 N224 Z57 f56 (⟨rfl, Or.inr ⟨rfl, fun u => own_cF c1 hc1 h226 u.1⟩⟩)
            · show own_W p e below _ T220 (mkF m 186 #[.val (.int p0), .val (.int p1), .val (.int p2), .val (.int p3), .val (.int p4), .val (.int (0 : Int32)), .val (.int vr), .val (.int vt), .val (.int vf), .val (.ref a3), .val (.int c0), .val (.int c1), .val (.int c2), .val (.int c3), .val (.int (4 : Int32)), .val (.int (0 : Int32)), .unset, .unset, .unset, .unset] [])
              refine own_iload X222 hx 188 (hb hby at_186) rfl rfl ?_
              refine own_iconst X222 hx 189 (3 : Int32) (by decide) (hb hby at_188) rfl ?_
              refine own_icmp_lt X222 hx 200 192 (hb hby at_189) (by decide) (by decide) rfl (fun h227 => ?_) (fun h227 => ?_)
              · exact absurd h227 (by decide)
              · show own_W p e below _ T220 (mkF m 192 #[.val (.int p0), .val (.int p1), .val (.int p2), .val (.int p3), .val (.int p4), .val (.int (0 : Int32)), .val (.int vr), .val (.int vt), .val (.int vf), .val (.ref a3), .val (.int c0), .val (.int c1), .val (.int c2), .val (.int c3), .val (.int (4 : Int32)), .val (.int (0 : Int32)), .unset, .unset, .unset, .unset] [])
                refine own_iload X222 hx 194 (hb hby at_192) rfl rfl ?_
                refine own_callS X222 hx hZ hown e225 (y := (⟨"com/example/gentle_indent/gentleindent/util/Utf8SequenceLengthPinLaw", "isCont", "(I)Z"⟩ : MethodName)) (argsL := [(.int c2)]) (rest := []) 197 (rm1 l Z a0 hw c2 h52 n0 Z57) (hw _ (List.mem_of_getElem? (i := 5) rfl)) (hw _ (List.mem_of_getElem? (i := 6) rfl)) (hw _ (List.mem_of_getElem? (i := 7) rfl)) (hw _ (List.mem_of_getElem? (i := 8) rfl)) (by decide) (by rw [hml]; rfl) (lenOf (by decide +kernel : parseMethodDescriptor "(I)Z" = some ⟨[.int], some .boolean⟩) rfl) rfl (hb hby at_194) rfl (W := 0) rfl (by decide) (by decide) (by decide) (by decide) (fun r228 T229 L230 X231 q232 => ?_)
                obtain ⟨rfl, N233q, e234⟩ := q232
                have N233 := Fr.app N224 N233q
                show own_W p e below _ T229 (mkF m 197 #[.val (.int p0), .val (.int p1), .val (.int p2), .val (.int p3), .val (.int p4), .val (.int (0 : Int32)), .val (.int vr), .val (.int vt), .val (.int vf), .val (.ref a3), .val (.int c0), .val (.int c1), .val (.int c2), .val (.int c3), .val (.int (4 : Int32)), .val (.int (0 : Int32)), .unset, .unset, .unset, .unset] [(.int (own_isCont c2))])
                refine own_if_eq X231 hx 218 200 (hb hby at_197) (by decide) (by decide) rfl (fun h235 => ?_) (fun h235 => ?_)
                · show own_W p e below _ T229 (mkF m 218 #[.val (.int p0), .val (.int p1), .val (.int p2), .val (.int p3), .val (.int p4), .val (.int (0 : Int32)), .val (.int vr), .val (.int vt), .val (.int vf), .val (.ref a3), .val (.int c0), .val (.int c1), .val (.int c2), .val (.int c3), .val (.int (4 : Int32)), .val (.int (0 : Int32)), .unset, .unset, .unset, .unset] [])
                  refine own_iconst X231 hx 219 (0 : Int32) (by decide) (hb hby at_218) rfl ?_
                  exact J189 (0 : Int32) T229 _ _ fz X231 e234 N233 Z57 f56 (⟨rfl, Or.inr ⟨rfl, fun u => own_cF c2 hc2 h235 u.2.1⟩⟩)
                · show own_W p e below _ T229 (mkF m 200 #[.val (.int p0), .val (.int p1), .val (.int p2), .val (.int p3), .val (.int p4), .val (.int (0 : Int32)), .val (.int vr), .val (.int vt), .val (.int vf), .val (.ref a3), .val (.int c0), .val (.int c1), .val (.int c2), .val (.int c3), .val (.int (4 : Int32)), .val (.int (0 : Int32)), .unset, .unset, .unset, .unset] [])
                  refine own_iload X231 hx 202 (hb hby at_200) rfl rfl ?_
                  refine own_iconst X231 hx 203 (4 : Int32) (by decide) (hb hby at_202) rfl ?_
                  refine own_icmp_lt X231 hx 214 206 (hb hby at_203) (by decide) (by decide) rfl (fun h236 => ?_) (fun h236 => ?_)
                  · exact absurd h236 (by decide)
                  · show own_W p e below _ T229 (mkF m 206 #[.val (.int p0), .val (.int p1), .val (.int p2), .val (.int p3), .val (.int p4), .val (.int (0 : Int32)), .val (.int vr), .val (.int vt), .val (.int vf), .val (.ref a3), .val (.int c0), .val (.int c1), .val (.int c2), .val (.int c3), .val (.int (4 : Int32)), .val (.int (0 : Int32)), .unset, .unset, .unset, .unset] [])
                    refine own_iload X231 hx 208 (hb hby at_206) rfl rfl ?_
                    refine own_callS X231 hx hZ hown e234 (y := (⟨"com/example/gentle_indent/gentleindent/util/Utf8SequenceLengthPinLaw", "isCont", "(I)Z"⟩ : MethodName)) (argsL := [(.int c3)]) (rest := []) 211 (rm1 l Z a0 hw c3 h52 n0 Z57) (hw _ (List.mem_of_getElem? (i := 5) rfl)) (hw _ (List.mem_of_getElem? (i := 6) rfl)) (hw _ (List.mem_of_getElem? (i := 7) rfl)) (hw _ (List.mem_of_getElem? (i := 8) rfl)) (by decide) (by rw [hml]; rfl) (lenOf (by decide +kernel : parseMethodDescriptor "(I)Z" = some ⟨[.int], some .boolean⟩) rfl) rfl (hb hby at_208) rfl (W := 0) rfl (by decide) (by decide) (by decide) (by decide) (fun r237 T238 L239 X240 q241 => ?_)
                    obtain ⟨rfl, N242q, e243⟩ := q241
                    have N242 := Fr.app N233 N242q
                    show own_W p e below _ T238 (mkF m 211 #[.val (.int p0), .val (.int p1), .val (.int p2), .val (.int p3), .val (.int p4), .val (.int (0 : Int32)), .val (.int vr), .val (.int vt), .val (.int vf), .val (.ref a3), .val (.int c0), .val (.int c1), .val (.int c2), .val (.int c3), .val (.int (4 : Int32)), .val (.int (0 : Int32)), .unset, .unset, .unset, .unset] [(.int (own_isCont c3))])
                    refine own_if_eq X240 hx 218 214 (hb hby at_211) (by decide) (by decide) rfl (fun h244 => ?_) (fun h244 => ?_)
                    · show own_W p e below _ T238 (mkF m 218 #[.val (.int p0), .val (.int p1), .val (.int p2), .val (.int p3), .val (.int p4), .val (.int (0 : Int32)), .val (.int vr), .val (.int vt), .val (.int vf), .val (.ref a3), .val (.int c0), .val (.int c1), .val (.int c2), .val (.int c3), .val (.int (4 : Int32)), .val (.int (0 : Int32)), .unset, .unset, .unset, .unset] [])
                      refine own_iconst X240 hx 219 (0 : Int32) (by decide) (hb hby at_218) rfl ?_
                      exact J189 (0 : Int32) T238 _ _ fz X240 e243 N242 Z57 f56 (⟨rfl, Or.inr ⟨rfl, fun u => own_cF c3 hc3 h244 u.2.2⟩⟩)
                    · show own_W p e below _ T238 (mkF m 214 #[.val (.int p0), .val (.int p1), .val (.int p2), .val (.int p3), .val (.int p4), .val (.int (0 : Int32)), .val (.int vr), .val (.int vt), .val (.int vf), .val (.ref a3), .val (.int c0), .val (.int c1), .val (.int c2), .val (.int c3), .val (.int (4 : Int32)), .val (.int (0 : Int32)), .unset, .unset, .unset, .unset] [])
                      refine own_iconst X240 hx 215 (1 : Int32) (by decide) (hb hby at_214) rfl ?_
                      refine own_goto X240 hx 219 (hb hby at_215) (by decide) (by decide) ?_
                      exact J189 (1 : Int32) T238 _ _ fz X240 e243 N242 Z57 f56 (⟨rfl, Or.inl ⟨rfl, ⟨own_cT c1 hc1 h226, own_cT c2 hc2 h235, own_cT c3 hc3 h244⟩⟩⟩)
    · show own_W p e below _ T51 (mkF m 120 #[.val (.int p0), .val (.int p1), .val (.int p2), .val (.int p3), .val (.int p4), .val (.int (0 : Int32)), .val (.int vr), .val (.int vt), .val (.int vf), .val (.ref a3), .val (.int c0), .val (.int c1), .val (.int c2), .val (.int c3), .unset, .unset, .unset, .unset, .unset, .unset] [])
      refine own_iconst X53 hx 121 (0 : Int32) (by decide) (hb hby at_120) rfl ?_
      refine own_goto X53 hx 161 (hb hby at_121) (by decide) (by decide) ?_
      refine own_istore X53 hx 163 #[.val (.int p0), .val (.int p1), .val (.int p2), .val (.int p3), .val (.int p4), .val (.int (0 : Int32)), .val (.int vr), .val (.int vt), .val (.int vf), .val (.ref a3), .val (.int c0), .val (.int c1), .val (.int c2), .val (.int c3), .val (.int (0 : Int32)), .unset, .unset, .unset, .unset, .unset] rfl (hb hby at_161) rfl rfl ?_
      refine own_iconst X53 hx 164 (0 : Int32) (by decide) (hb hby at_163) rfl ?_
      refine own_istore X53 hx 166 #[.val (.int p0), .val (.int p1), .val (.int p2), .val (.int p3), .val (.int p4), .val (.int (0 : Int32)), .val (.int vr), .val (.int vt), .val (.int vf), .val (.ref a3), .val (.int c0), .val (.int c1), .val (.int c2), .val (.int c3), .val (.int (0 : Int32)), .val (.int (0 : Int32)), .unset, .unset, .unset, .unset] rfl (hb hby at_164) rfl rfl ?_
      refine own_iload X53 hx 168 (hb hby at_166) rfl rfl ?_
      refine own_if_eq X53 hx 381 171 (hb hby at_168) (by decide) (by decide) rfl (fun h245 => ?_) (fun h245 => ?_)
      · show own_W p e below _ T51 (mkF m 381 #[.val (.int p0), .val (.int p1), .val (.int p2), .val (.int p3), .val (.int p4), .val (.int (0 : Int32)), .val (.int vr), .val (.int vt), .val (.int vf), .val (.ref a3), .val (.int c0), .val (.int c1), .val (.int c2), .val (.int c3), .val (.int (0 : Int32)), .val (.int (0 : Int32)), .unset, .unset, .unset, .unset] [])
        refine own_aload X53 hx 383 (hb hby at_381) rfl rfl ?_
        refine own_iload X53 hx 385 (hb hby at_383) rfl rfl ?_
        refine own_iload X53 hx 387 (hb hby at_385) rfl rfl ?_
        refine own_callS X53 hx hZ hown e54 (y := (⟨"com/example/gentle_indent/gentleindent/util/Utf8", "sequenceLength", "([BII)I"⟩ : MethodName)) (argsL := [(.ref a3), (.int (0 : Int32)), (.int vt)]) (rest := []) 390 (rm2_0 l Z a0 hw a3 vt fz h52 n0 Z57 (by omega) f56) (hw _ (List.mem_of_getElem? (i := 1) rfl)) (hw _ (List.mem_of_getElem? (i := 2) rfl)) (hw _ (List.mem_of_getElem? (i := 3) rfl)) (hw _ (List.mem_of_getElem? (i := 4) rfl)) (by decide) (by rw [hml]; rfl) (lenOf (by decide +kernel : parseMethodDescriptor "([BII)I" = some ⟨[(.array .byte), .int, .int], some .int⟩) rfl) rfl (hb hby at_387) rfl (W := 0) rfl (by decide) (by decide) (by decide) (by decide) (fun r246 T247 L248 X249 q250 => ?_)
        obtain ⟨rr, rfl, hrr, N251q, e252⟩ := q250
        have N251 := Fr.app N58 N251q
        rw [hf0, hf1, hf2, hf3, show vt.toInt - 0 = vr.toInt from by omega] at hrr
        show own_W p e below _ T247 (mkF m 390 #[.val (.int p0), .val (.int p1), .val (.int p2), .val (.int p3), .val (.int p4), .val (.int (0 : Int32)), .val (.int vr), .val (.int vt), .val (.int vf), .val (.ref a3), .val (.int c0), .val (.int c1), .val (.int c2), .val (.int c3), .val (.int (0 : Int32)), .val (.int (0 : Int32)), .unset, .unset, .unset, .unset] [(.int rr)])
        refine own_iload X249 hx 392 (hb hby at_390) rfl rfl ?_
        refine own_icmp_ne X249 hx 399 395 (hb hby at_392) (by decide) (by decide) rfl (fun h253 => ?_) (fun h253 => ?_)
        · exact absurd (by rw [← Int32.toInt_inj, hrr]; simp only [Int32.lt_iff_toInt_lt, own_k0, own_k1, own_k2, own_k3, own_k4, own_k128, own_k143, own_k144, own_k159, own_k160, own_k191, own_k192, own_k194, own_k223, own_k224, own_k237, own_k239, own_k240, own_k244, own_k248, own_k2048, own_k55296, own_k57343, own_k65536, own_k1114111] at h59; exact (own_F0 _ _ _ _ _ (by omega)).trans rfl) h253
        · show own_W p e below _ T247 (mkF m 395 #[.val (.int p0), .val (.int p1), .val (.int p2), .val (.int p3), .val (.int p4), .val (.int (0 : Int32)), .val (.int vr), .val (.int vt), .val (.int vf), .val (.ref a3), .val (.int c0), .val (.int c1), .val (.int c2), .val (.int c3), .val (.int (0 : Int32)), .val (.int (0 : Int32)), .unset, .unset, .unset, .unset] [])
          refine own_iconst X249 hx 396 (1 : Int32) (by decide) (hb hby at_395) rfl ?_
          refine own_goto X249 hx 400 (hb hby at_396) (by decide) (by decide) ?_
          exact own_retZ X249 hx (1 : Int32) (by decide) hret hlk (hb hby at_400) (by decide) (by decide) ⟨rfl, N251⟩
      · exact absurd h245 (by decide)
  · show own_W p e below _ T0 (mkF m 6 #[.val (.int p0), .val (.int p1), .val (.int p2), .val (.int p3), .val (.int p4), .val (.int (1 : Int32)), .unset, .unset, .unset, .unset, .unset, .unset, .unset, .unset, .unset, .unset, .unset, .unset, .unset, .unset] [])
    refine own_iload X0 hx 8 (hb hby at_6) rfl rfl ?_
    refine own_iconst X0 hx 9 (1 : Int32) (by decide) (hb hby at_8) rfl ?_
    refine own_iushr X0 hx 10 (hb hby at_9) rfl ?_
    refine own_bipush X0 hx 12 (6 : Int32) (by decide) (hb hby at_10) rfl ?_
    refine own_iload X0 hx 14 (hb hby at_12) rfl rfl ?_
    refine own_isubz X0 hx 15 (z := (5 : Int32)) (by decide) (hb hby at_14) rfl ?_
    refine own_irem X0 hx 16 (by decide) (hb hby at_15) rfl ?_
    obtain ⟨vr, e_vr⟩ : ∃ z : Int32, z = (((p4.toUInt32 >>> ((1 : Int32) &&& 31).toUInt32).toInt32) % (5 : Int32)) := ⟨_, rfl⟩
    refine own_istore X0 hx 18 #[.val (.int p0), .val (.int p1), .val (.int p2), .val (.int p3), .val (.int p4), .val (.int (1 : Int32)), .val (.int vr), .unset, .unset, .unset, .unset, .unset, .unset, .unset, .unset, .unset, .unset, .unset, .unset, .unset] e_vr (hb hby at_16) rfl rfl ?_
    have hvr := own_rm p4 (5 : Int32) vr 5 rfl (by decide) e_vr
    refine own_iload X0 hx 20 (hb hby at_18) rfl rfl ?_
    refine own_iload X0 hx 22 (hb hby at_20) rfl rfl ?_
    refine own_iadd X0 hx 23 (hb hby at_22) rfl ?_
    obtain ⟨vt, e_vt⟩ : ∃ z : Int32, z = ((1 : Int32) + vr) := ⟨_, rfl⟩
    refine own_istore X0 hx 25 #[.val (.int p0), .val (.int p1), .val (.int p2), .val (.int p3), .val (.int p4), .val (.int (1 : Int32)), .val (.int vr), .val (.int vt), .unset, .unset, .unset, .unset, .unset, .unset, .unset, .unset, .unset, .unset, .unset, .unset] e_vt (hb hby at_23) rfl rfl ?_
    have hvt := own_tt vr vt (1 : Int32) 1 rfl (by decide) (by omega) e_vt
    refine own_iload X0 hx 27 (hb hby at_25) rfl rfl ?_
    refine own_bipush X0 hx 29 (8 : Int32) (by decide) (hb hby at_27) rfl ?_
    refine own_iushr X0 hx 30 (hb hby at_29) rfl ?_
    refine own_i2b X0 hx 31 (hb hby at_30) rfl ?_
    obtain ⟨vf, e_vf⟩ : ∃ z : Int32, z = (((p4.toUInt32 >>> ((8 : Int32) &&& 31).toUInt32).toInt32).toInt8.toInt32) := ⟨_, rfl⟩
    refine own_istore X0 hx 33 #[.val (.int p0), .val (.int p1), .val (.int p2), .val (.int p3), .val (.int p4), .val (.int (1 : Int32)), .val (.int vr), .val (.int vt), .val (.int vf), .unset, .unset, .unset, .unset, .unset, .unset, .unset, .unset, .unset, .unset, .unset] e_vf (hb hby at_31) rfl rfl ?_
    refine own_iconst X0 hx 34 (5 : Int32) (by decide) (hb hby at_33) rfl ?_
    refine own_newI X0 hx hZ e0 (n := 5) (cap := 5) 36 .byte rfl rfl (hw _ (List.mem_of_getElem? (i := 0) rfl)) rfl (by decide) (by decide) (hb hby at_34) rfl (by decide) (by decide) (fun T254 h255 a256 X257 e258 g259 E260 A261 => ?_)
    have ga262 : n0 ≤ a256 := by rw [g259]; exact Z0
    have Z263 : n0 ≤ h255.size := Nat.le_trans Z0 E260.1
    refine own_astore X257 hx 38 #[.val (.int p0), .val (.int p1), .val (.int p2), .val (.int p3), .val (.int p4), .val (.int (1 : Int32)), .val (.int vr), .val (.int vt), .val (.int vf), .val (.ref a256), .unset, .unset, .unset, .unset, .unset, .unset, .unset, .unset, .unset, .unset] rfl (hb hby at_36) rfl rfl ?_
    refine own_aload X257 hx 40 (hb hby at_38) rfl rfl ?_
    refine own_iconst X257 hx 41 (0 : Int32) (by decide) (hb hby at_40) rfl ?_
    refine own_iload X257 hx 43 (hb hby at_41) rfl rfl ?_
    refine own_bastore X257 hx hZ e258 44 0 A261 rfl (by decide) (hb hby at_43) rfl (fun T264 h265 X266 e267 W268 => ?_)
    have f269 := A261.set W268
    have Z270 : n0 ≤ h265.size := Nat.le_trans Z263 (Keep.of_wr W268).1
    have N271 := Fr.snoc X266 N0 ga262
    refine own_aload X266 hx 46 (hb hby at_44) rfl rfl ?_
    refine own_iconst X266 hx 47 (4 : Int32) (by decide) (hb hby at_46) rfl ?_
    refine own_iload X266 hx 49 (hb hby at_47) rfl rfl ?_
    refine own_bastore X266 hx hZ e267 50 4 f269 rfl (by decide) (hb hby at_49) rfl (fun T272 h273 X274 e275 W276 => ?_)
    have f277 := f269.set W276
    have Z278 : n0 ≤ h273.size := Nat.le_trans Z270 (Keep.of_wr W276).1
    have N279 := Fr.snoc X274 N271 ga262
    refine own_aload X274 hx 52 (hb hby at_50) rfl rfl ?_
    refine own_iload X274 hx 54 (hb hby at_52) rfl rfl ?_
    refine own_iloadN X274 hx 55 (hb hby at_54) rfl rfl ?_
    refine own_i2b X274 hx 56 (hb hby at_55) rfl ?_
    refine own_bastore X274 hx hZ e275 57 1 f277 rfl (by decide) (hb hby at_56) rfl (fun T280 h281 X282 e283 W284 => ?_)
    have f285 := f277.set W284
    have Z286 : n0 ≤ h281.size := Nat.le_trans Z278 (Keep.of_wr W284).1
    have N287 := Fr.snoc X282 N279 ga262
    refine own_aload X282 hx 59 (hb hby at_57) rfl rfl ?_
    refine own_iload X282 hx 61 (hb hby at_59) rfl rfl ?_
    refine own_iconst X282 hx 62 (1 : Int32) (by decide) (hb hby at_61) rfl ?_
    refine own_iaddz X282 hx 63 (z := (2 : Int32)) (by decide) (hb hby at_62) rfl ?_
    refine own_iloadN X282 hx 64 (hb hby at_63) rfl rfl ?_
    refine own_i2b X282 hx 65 (hb hby at_64) rfl ?_
    refine own_bastore X282 hx hZ e283 66 2 f285 rfl (by decide) (hb hby at_65) rfl (fun T288 h289 X290 e291 W292 => ?_)
    have f293 := f285.set W292
    have Z294 : n0 ≤ h289.size := Nat.le_trans Z286 (Keep.of_wr W292).1
    have N295 := Fr.snoc X290 N287 ga262
    refine own_aload X290 hx 68 (hb hby at_66) rfl rfl ?_
    refine own_iload X290 hx 70 (hb hby at_68) rfl rfl ?_
    refine own_iconst X290 hx 71 (2 : Int32) (by decide) (hb hby at_70) rfl ?_
    refine own_iaddz X290 hx 72 (z := (3 : Int32)) (by decide) (hb hby at_71) rfl ?_
    refine own_iloadN X290 hx 73 (hb hby at_72) rfl rfl ?_
    refine own_i2b X290 hx 74 (hb hby at_73) rfl ?_
    refine own_bastore X290 hx hZ e291 75 3 f293 rfl (by decide) (hb hby at_74) rfl (fun T296 h297 X298 e299 W300 => ?_)
    have f301 := f293.set W300
    have Z302 : n0 ≤ h297.size := Nat.le_trans Z294 (Keep.of_wr W300).1
    have N303 := Fr.snoc X298 N295 ga262
    refine own_aload X298 hx 77 (hb hby at_75) rfl rfl ?_
    refine own_iload X298 hx 79 (hb hby at_77) rfl rfl ?_
    refine own_iconst X298 hx 80 (3 : Int32) (by decide) (hb hby at_79) rfl ?_
    refine own_iaddz X298 hx 81 (z := (4 : Int32)) (by decide) (hb hby at_80) rfl ?_
    refine own_iloadN X298 hx 82 (hb hby at_81) rfl rfl ?_
    refine own_i2b X298 hx 83 (hb hby at_82) rfl ?_
    refine own_bastore X298 hx hZ e299 84 4 f301 rfl (by decide) (hb hby at_83) rfl (fun T304 h305 X306 e307 W308 => ?_)
    have f309 := f301.set W308
    have Z310 : n0 ≤ h305.size := Nat.le_trans Z302 (Keep.of_wr W308).1
    have N311 := Fr.snoc X306 N303 ga262
    obtain ⟨fz, e_fz⟩ : ∃ z : Nat → Int32, z = (fun q => if q = 4 then (p3.toInt8.toInt32).toInt8.toInt32 else (fun q => if q = 3 then (p2.toInt8.toInt32).toInt8.toInt32 else (fun q => if q = 2 then (p1.toInt8.toInt32).toInt8.toInt32 else (fun q => if q = 1 then (p0.toInt8.toInt32).toInt8.toInt32 else (fun q => if q = 4 then vf.toInt8.toInt32 else (fun q => if q = 0 then vf.toInt8.toInt32 else (fun _ => 0) q) q) q) q) q) q) := ⟨_, rfl⟩
    rw [← e_fz] at f309
    have hf0 : (fz 1).toInt % 256 = (p0 &&& 255).toInt := by rw [e_fz]; exact own_bz p0
    have hf1 : (fz 2).toInt % 256 = (p1 &&& 255).toInt := by rw [e_fz]; exact own_bz p1
    have hf2 : (fz 3).toInt % 256 = (p2 &&& 255).toInt := by rw [e_fz]; exact own_bz p2
    have hf3 : (fz 4).toInt % 256 = (p3 &&& 255).toInt := by rw [e_fz]; exact own_bz p3
    refine own_iloadN X306 hx 85 (hb hby at_84) rfl rfl ?_
    refine own_sipush X306 hx 88 (255 : Int32) (by decide) (hb hby at_85) rfl ?_
    refine own_iand X306 hx 89 (hb hby at_88) rfl ?_
    obtain ⟨c0, e_c0⟩ : ∃ z : Int32, z = (p0 &&& (255 : Int32)) := ⟨_, rfl⟩
    refine own_istore X306 hx 91 #[.val (.int p0), .val (.int p1), .val (.int p2), .val (.int p3), .val (.int p4), .val (.int (1 : Int32)), .val (.int vr), .val (.int vt), .val (.int vf), .val (.ref a256), .val (.int c0), .unset, .unset, .unset, .unset, .unset, .unset, .unset, .unset, .unset] e_c0 (hb hby at_89) rfl rfl ?_
    refine own_iloadN X306 hx 92 (hb hby at_91) rfl rfl ?_
    refine own_sipush X306 hx 95 (255 : Int32) (by decide) (hb hby at_92) rfl ?_
    refine own_iand X306 hx 96 (hb hby at_95) rfl ?_
    obtain ⟨c1, e_c1⟩ : ∃ z : Int32, z = (p1 &&& (255 : Int32)) := ⟨_, rfl⟩
    refine own_istore X306 hx 98 #[.val (.int p0), .val (.int p1), .val (.int p2), .val (.int p3), .val (.int p4), .val (.int (1 : Int32)), .val (.int vr), .val (.int vt), .val (.int vf), .val (.ref a256), .val (.int c0), .val (.int c1), .unset, .unset, .unset, .unset, .unset, .unset, .unset, .unset] e_c1 (hb hby at_96) rfl rfl ?_
    refine own_iloadN X306 hx 99 (hb hby at_98) rfl rfl ?_
    refine own_sipush X306 hx 102 (255 : Int32) (by decide) (hb hby at_99) rfl ?_
    refine own_iand X306 hx 103 (hb hby at_102) rfl ?_
    obtain ⟨c2, e_c2⟩ : ∃ z : Int32, z = (p2 &&& (255 : Int32)) := ⟨_, rfl⟩
    refine own_istore X306 hx 105 #[.val (.int p0), .val (.int p1), .val (.int p2), .val (.int p3), .val (.int p4), .val (.int (1 : Int32)), .val (.int vr), .val (.int vt), .val (.int vf), .val (.ref a256), .val (.int c0), .val (.int c1), .val (.int c2), .unset, .unset, .unset, .unset, .unset, .unset, .unset] e_c2 (hb hby at_103) rfl rfl ?_
    refine own_iloadN X306 hx 106 (hb hby at_105) rfl rfl ?_
    refine own_sipush X306 hx 109 (255 : Int32) (by decide) (hb hby at_106) rfl ?_
    refine own_iand X306 hx 110 (hb hby at_109) rfl ?_
    obtain ⟨c3, e_c3⟩ : ∃ z : Int32, z = (p3 &&& (255 : Int32)) := ⟨_, rfl⟩
    refine own_istore X306 hx 112 #[.val (.int p0), .val (.int p1), .val (.int p2), .val (.int p3), .val (.int p4), .val (.int (1 : Int32)), .val (.int vr), .val (.int vt), .val (.int vf), .val (.ref a256), .val (.int c0), .val (.int c1), .val (.int c2), .val (.int c3), .unset, .unset, .unset, .unset, .unset, .unset] e_c3 (hb hby at_110) rfl rfl ?_
    have hc0 := own_by c0 p0 e_c0
    rw [← e_c0] at hf0
    have hc1 := own_by c1 p1 e_c1
    rw [← e_c1] at hf1
    have hc2 := own_by c2 p2 e_c2
    rw [← e_c2] at hf2
    have hc3 := own_by c3 p3 e_c3
    rw [← e_c3] at hf3
    refine own_iload X306 hx 114 (hb hby at_112) rfl rfl ?_
    refine own_sipush X306 hx 117 (248 : Int32) (by decide) (hb hby at_114) rfl ?_
    refine own_icmp_lt X306 hx 124 120 (hb hby at_117) (by decide) (by decide) rfl (fun h312 => ?_) (fun h312 => ?_)
    · show own_W p e below _ T304 (mkF m 124 #[.val (.int p0), .val (.int p1), .val (.int p2), .val (.int p3), .val (.int p4), .val (.int (1 : Int32)), .val (.int vr), .val (.int vt), .val (.int vf), .val (.ref a256), .val (.int c0), .val (.int c1), .val (.int c2), .val (.int c3), .unset, .unset, .unset, .unset, .unset, .unset] [])
      refine own_iload X306 hx 126 (hb hby at_124) rfl rfl ?_
      refine own_sipush X306 hx 129 (240 : Int32) (by decide) (hb hby at_126) rfl ?_
      refine own_icmp_lt X306 hx 136 132 (hb hby at_129) (by decide) (by decide) rfl (fun h313 => ?_) (fun h313 => ?_)
      · show own_W p e below _ T304 (mkF m 136 #[.val (.int p0), .val (.int p1), .val (.int p2), .val (.int p3), .val (.int p4), .val (.int (1 : Int32)), .val (.int vr), .val (.int vt), .val (.int vf), .val (.ref a256), .val (.int c0), .val (.int c1), .val (.int c2), .val (.int c3), .unset, .unset, .unset, .unset, .unset, .unset] [])
        refine own_iload X306 hx 138 (hb hby at_136) rfl rfl ?_
        refine own_sipush X306 hx 141 (224 : Int32) (by decide) (hb hby at_138) rfl ?_
        refine own_icmp_lt X306 hx 148 144 (hb hby at_141) (by decide) (by decide) rfl (fun h314 => ?_) (fun h314 => ?_)
        · show own_W p e below _ T304 (mkF m 148 #[.val (.int p0), .val (.int p1), .val (.int p2), .val (.int p3), .val (.int p4), .val (.int (1 : Int32)), .val (.int vr), .val (.int vt), .val (.int vf), .val (.ref a256), .val (.int c0), .val (.int c1), .val (.int c2), .val (.int c3), .unset, .unset, .unset, .unset, .unset, .unset] [])
          refine own_iload X306 hx 150 (hb hby at_148) rfl rfl ?_
          refine own_sipush X306 hx 153 (192 : Int32) (by decide) (hb hby at_150) rfl ?_
          refine own_icmp_lt X306 hx 160 156 (hb hby at_153) (by decide) (by decide) rfl (fun h315 => ?_) (fun h315 => ?_)
          · show own_W p e below _ T304 (mkF m 160 #[.val (.int p0), .val (.int p1), .val (.int p2), .val (.int p3), .val (.int p4), .val (.int (1 : Int32)), .val (.int vr), .val (.int vt), .val (.int vf), .val (.ref a256), .val (.int c0), .val (.int c1), .val (.int c2), .val (.int c3), .unset, .unset, .unset, .unset, .unset, .unset] [])
            refine own_iconst X306 hx 161 (0 : Int32) (by decide) (hb hby at_160) rfl ?_
            refine own_istore X306 hx 163 #[.val (.int p0), .val (.int p1), .val (.int p2), .val (.int p3), .val (.int p4), .val (.int (1 : Int32)), .val (.int vr), .val (.int vt), .val (.int vf), .val (.ref a256), .val (.int c0), .val (.int c1), .val (.int c2), .val (.int c3), .val (.int (0 : Int32)), .unset, .unset, .unset, .unset, .unset] rfl (hb hby at_161) rfl rfl ?_
            refine own_iconst X306 hx 164 (0 : Int32) (by decide) (hb hby at_163) rfl ?_
            refine own_istore X306 hx 166 #[.val (.int p0), .val (.int p1), .val (.int p2), .val (.int p3), .val (.int p4), .val (.int (1 : Int32)), .val (.int vr), .val (.int vt), .val (.int vf), .val (.ref a256), .val (.int c0), .val (.int c1), .val (.int c2), .val (.int c3), .val (.int (0 : Int32)), .val (.int (0 : Int32)), .unset, .unset, .unset, .unset] rfl (hb hby at_164) rfl rfl ?_
            refine own_iload X306 hx 168 (hb hby at_166) rfl rfl ?_
            refine own_if_eq X306 hx 381 171 (hb hby at_168) (by decide) (by decide) rfl (fun h316 => ?_) (fun h316 => ?_)
            · show own_W p e below _ T304 (mkF m 381 #[.val (.int p0), .val (.int p1), .val (.int p2), .val (.int p3), .val (.int p4), .val (.int (1 : Int32)), .val (.int vr), .val (.int vt), .val (.int vf), .val (.ref a256), .val (.int c0), .val (.int c1), .val (.int c2), .val (.int c3), .val (.int (0 : Int32)), .val (.int (0 : Int32)), .unset, .unset, .unset, .unset] [])
              refine own_aload X306 hx 383 (hb hby at_381) rfl rfl ?_
              refine own_iload X306 hx 385 (hb hby at_383) rfl rfl ?_
              refine own_iload X306 hx 387 (hb hby at_385) rfl rfl ?_
              refine own_callS X306 hx hZ hown e307 (y := (⟨"com/example/gentle_indent/gentleindent/util/Utf8", "sequenceLength", "([BII)I"⟩ : MethodName)) (argsL := [(.ref a256), (.int (1 : Int32)), (.int vt)]) (rest := []) 390 (rm2_1 l Z a0 hw a256 vt fz h305 n0 Z310 (by omega) f309) (hw _ (List.mem_of_getElem? (i := 1) rfl)) (hw _ (List.mem_of_getElem? (i := 2) rfl)) (hw _ (List.mem_of_getElem? (i := 3) rfl)) (hw _ (List.mem_of_getElem? (i := 4) rfl)) (by decide) (by rw [hml]; rfl) (lenOf (by decide +kernel : parseMethodDescriptor "([BII)I" = some ⟨[(.array .byte), .int, .int], some .int⟩) rfl) rfl (hb hby at_387) rfl (W := 0) rfl (by decide) (by decide) (by decide) (by decide) (fun r317 T318 L319 X320 q321 => ?_)
              obtain ⟨rr, rfl, hrr, N322q, e323⟩ := q321
              have N322 := Fr.app N311 N322q
              rw [hf0, hf1, hf2, hf3, show vt.toInt - 1 = vr.toInt from by omega] at hrr
              show own_W p e below _ T318 (mkF m 390 #[.val (.int p0), .val (.int p1), .val (.int p2), .val (.int p3), .val (.int p4), .val (.int (1 : Int32)), .val (.int vr), .val (.int vt), .val (.int vf), .val (.ref a256), .val (.int c0), .val (.int c1), .val (.int c2), .val (.int c3), .val (.int (0 : Int32)), .val (.int (0 : Int32)), .unset, .unset, .unset, .unset] [(.int rr)])
              refine own_iload X320 hx 392 (hb hby at_390) rfl rfl ?_
              refine own_icmp_ne X320 hx 399 395 (hb hby at_392) (by decide) (by decide) rfl (fun h324 => ?_) (fun h324 => ?_)
              · exact absurd (by rw [← Int32.toInt_inj, hrr]; simp only [Int32.lt_iff_toInt_lt, own_k0, own_k1, own_k2, own_k3, own_k4, own_k128, own_k143, own_k144, own_k159, own_k160, own_k191, own_k192, own_k194, own_k223, own_k224, own_k237, own_k239, own_k240, own_k244, own_k248, own_k2048, own_k55296, own_k57343, own_k65536, own_k1114111] at h312 h313 h314 h315; exact (own_F0 _ _ _ _ _ (by omega)).trans rfl) h324
              · show own_W p e below _ T318 (mkF m 395 #[.val (.int p0), .val (.int p1), .val (.int p2), .val (.int p3), .val (.int p4), .val (.int (1 : Int32)), .val (.int vr), .val (.int vt), .val (.int vf), .val (.ref a256), .val (.int c0), .val (.int c1), .val (.int c2), .val (.int c3), .val (.int (0 : Int32)), .val (.int (0 : Int32)), .unset, .unset, .unset, .unset] [])
                refine own_iconst X320 hx 396 (1 : Int32) (by decide) (hb hby at_395) rfl ?_
                refine own_goto X320 hx 400 (hb hby at_396) (by decide) (by decide) ?_
                exact own_retZ X320 hx (1 : Int32) (by decide) hret hlk (hb hby at_400) (by decide) (by decide) ⟨rfl, N322⟩
            · exact absurd h316 (by decide)
          · show own_W p e below _ T304 (mkF m 156 #[.val (.int p0), .val (.int p1), .val (.int p2), .val (.int p3), .val (.int p4), .val (.int (1 : Int32)), .val (.int vr), .val (.int vt), .val (.int vf), .val (.ref a256), .val (.int c0), .val (.int c1), .val (.int c2), .val (.int c3), .unset, .unset, .unset, .unset, .unset, .unset] [])
            refine own_iconst X306 hx 157 (2 : Int32) (by decide) (hb hby at_156) rfl ?_
            refine own_goto X306 hx 161 (hb hby at_157) (by decide) (by decide) ?_
            refine own_istore X306 hx 163 #[.val (.int p0), .val (.int p1), .val (.int p2), .val (.int p3), .val (.int p4), .val (.int (1 : Int32)), .val (.int vr), .val (.int vt), .val (.int vf), .val (.ref a256), .val (.int c0), .val (.int c1), .val (.int c2), .val (.int c3), .val (.int (2 : Int32)), .unset, .unset, .unset, .unset, .unset] rfl (hb hby at_161) rfl rfl ?_
            refine own_iconst X306 hx 164 (0 : Int32) (by decide) (hb hby at_163) rfl ?_
            refine own_istore X306 hx 166 #[.val (.int p0), .val (.int p1), .val (.int p2), .val (.int p3), .val (.int p4), .val (.int (1 : Int32)), .val (.int vr), .val (.int vt), .val (.int vf), .val (.ref a256), .val (.int c0), .val (.int c1), .val (.int c2), .val (.int c3), .val (.int (2 : Int32)), .val (.int (0 : Int32)), .unset, .unset, .unset, .unset] rfl (hb hby at_164) rfl rfl ?_
            refine own_iload X306 hx 168 (hb hby at_166) rfl rfl ?_
            refine own_if_eq X306 hx 381 171 (hb hby at_168) (by decide) (by decide) rfl (fun h325 => ?_) (fun h325 => ?_)
            · exact absurd h325 (by decide)
            · show own_W p e below _ T304 (mkF m 171 #[.val (.int p0), .val (.int p1), .val (.int p2), .val (.int p3), .val (.int p4), .val (.int (1 : Int32)), .val (.int vr), .val (.int vt), .val (.int vf), .val (.ref a256), .val (.int c0), .val (.int c1), .val (.int c2), .val (.int c3), .val (.int (2 : Int32)), .val (.int (0 : Int32)), .unset, .unset, .unset, .unset] [])
              refine own_iload X306 hx 173 (hb hby at_171) rfl rfl ?_
              refine own_iload X306 hx 175 (hb hby at_173) rfl rfl ?_
              refine own_icmp_lt X306 hx 381 178 (hb hby at_175) (by decide) (by decide) rfl (fun h326 => ?_) (fun h326 => ?_)
              · show own_W p e below _ T304 (mkF m 381 #[.val (.int p0), .val (.int p1), .val (.int p2), .val (.int p3), .val (.int p4), .val (.int (1 : Int32)), .val (.int vr), .val (.int vt), .val (.int vf), .val (.ref a256), .val (.int c0), .val (.int c1), .val (.int c2), .val (.int c3), .val (.int (2 : Int32)), .val (.int (0 : Int32)), .unset, .unset, .unset, .unset] [])
                refine own_aload X306 hx 383 (hb hby at_381) rfl rfl ?_
                refine own_iload X306 hx 385 (hb hby at_383) rfl rfl ?_
                refine own_iload X306 hx 387 (hb hby at_385) rfl rfl ?_
                refine own_callS X306 hx hZ hown e307 (y := (⟨"com/example/gentle_indent/gentleindent/util/Utf8", "sequenceLength", "([BII)I"⟩ : MethodName)) (argsL := [(.ref a256), (.int (1 : Int32)), (.int vt)]) (rest := []) 390 (rm2_1 l Z a0 hw a256 vt fz h305 n0 Z310 (by omega) f309) (hw _ (List.mem_of_getElem? (i := 1) rfl)) (hw _ (List.mem_of_getElem? (i := 2) rfl)) (hw _ (List.mem_of_getElem? (i := 3) rfl)) (hw _ (List.mem_of_getElem? (i := 4) rfl)) (by decide) (by rw [hml]; rfl) (lenOf (by decide +kernel : parseMethodDescriptor "([BII)I" = some ⟨[(.array .byte), .int, .int], some .int⟩) rfl) rfl (hb hby at_387) rfl (W := 0) rfl (by decide) (by decide) (by decide) (by decide) (fun r327 T328 L329 X330 q331 => ?_)
                obtain ⟨rr, rfl, hrr, N332q, e333⟩ := q331
                have N332 := Fr.app N311 N332q
                rw [hf0, hf1, hf2, hf3, show vt.toInt - 1 = vr.toInt from by omega] at hrr
                show own_W p e below _ T328 (mkF m 390 #[.val (.int p0), .val (.int p1), .val (.int p2), .val (.int p3), .val (.int p4), .val (.int (1 : Int32)), .val (.int vr), .val (.int vt), .val (.int vf), .val (.ref a256), .val (.int c0), .val (.int c1), .val (.int c2), .val (.int c3), .val (.int (2 : Int32)), .val (.int (0 : Int32)), .unset, .unset, .unset, .unset] [(.int rr)])
                refine own_iload X330 hx 392 (hb hby at_390) rfl rfl ?_
                refine own_icmp_ne X330 hx 399 395 (hb hby at_392) (by decide) (by decide) rfl (fun h334 => ?_) (fun h334 => ?_)
                · exact absurd (by rw [← Int32.toInt_inj, hrr]; simp only [Int32.lt_iff_toInt_lt, own_k0, own_k1, own_k2, own_k3, own_k4, own_k128, own_k143, own_k144, own_k159, own_k160, own_k191, own_k192, own_k194, own_k223, own_k224, own_k237, own_k239, own_k240, own_k244, own_k248, own_k2048, own_k55296, own_k57343, own_k65536, own_k1114111] at h312 h313 h314 h315 h326; exact (own_F0 _ _ _ _ _ (by omega)).trans rfl) h334
                · show own_W p e below _ T328 (mkF m 395 #[.val (.int p0), .val (.int p1), .val (.int p2), .val (.int p3), .val (.int p4), .val (.int (1 : Int32)), .val (.int vr), .val (.int vt), .val (.int vf), .val (.ref a256), .val (.int c0), .val (.int c1), .val (.int c2), .val (.int c3), .val (.int (2 : Int32)), .val (.int (0 : Int32)), .unset, .unset, .unset, .unset] [])
                  refine own_iconst X330 hx 396 (1 : Int32) (by decide) (hb hby at_395) rfl ?_
                  refine own_goto X330 hx 400 (hb hby at_396) (by decide) (by decide) ?_
                  exact own_retZ X330 hx (1 : Int32) (by decide) hret hlk (hb hby at_400) (by decide) (by decide) ⟨rfl, N332⟩
              · show own_W p e below _ T304 (mkF m 178 #[.val (.int p0), .val (.int p1), .val (.int p2), .val (.int p3), .val (.int p4), .val (.int (1 : Int32)), .val (.int vr), .val (.int vt), .val (.int vf), .val (.ref a256), .val (.int c0), .val (.int c1), .val (.int c2), .val (.int c3), .val (.int (2 : Int32)), .val (.int (0 : Int32)), .unset, .unset, .unset, .unset] [])
                have J335 : ∀ (ct : Int32) (T336 : State) (lc337 : List Loc) (h338 : Heap) (fy : Nat → Int32) (X339 : Stand p l e room_1 s m #[(.int p0), (.int p1), (.int p2), (.int p3), (.int p4)] below meth c T336 lc337 1 5) (e340 : T336.heap = h338) (N341 : Fr n0 lc337) (Z342 : n0 ≤ h338.size) (f343 : own_AI Z h338 a256 .byte 5 fy) (hj344 : fy = fz ∧ ((ct = 1 ∧ own_co c1.toInt) ∨ (ct = 0 ∧ ¬ (own_co c1.toInt)))), own_W p e below (own_K s room_1 (fun v h L => v = some (.int 1) ∧ Fr n0 L)) T336 (mkF m 219 #[.val (.int p0), .val (.int p1), .val (.int p2), .val (.int p3), .val (.int p4), .val (.int (1 : Int32)), .val (.int vr), .val (.int vt), .val (.int vf), .val (.ref a256), .val (.int c0), .val (.int c1), .val (.int c2), .val (.int c3), .val (.int (2 : Int32)), .val (.int (0 : Int32)), .unset, .unset, .unset, .unset] [(.int ct)]) := by
                  intro ct T336 lc337 h338 fy X339 e340 N341 Z342 f343 hj344
                  obtain ⟨rfl, hct⟩ := hj344
                  refine own_istore X339 hx 221 #[.val (.int p0), .val (.int p1), .val (.int p2), .val (.int p3), .val (.int p4), .val (.int (1 : Int32)), .val (.int vr), .val (.int vt), .val (.int vf), .val (.ref a256), .val (.int c0), .val (.int c1), .val (.int c2), .val (.int c3), .val (.int (2 : Int32)), .val (.int (0 : Int32)), .val (.int ct), .unset, .unset, .unset] rfl (hb hby at_219) rfl rfl ?_
                  refine own_iload X339 hx 223 (hb hby at_221) rfl rfl ?_
                  refine own_iconst X339 hx 224 (2 : Int32) (by decide) (hb hby at_223) rfl ?_
                  refine own_icmp_ne X339 hx 251 227 (hb hby at_224) (by decide) (by decide) rfl (fun h345 => ?_) (fun h345 => ?_)
                  · exact absurd h345 (by decide)
                  · show own_W p e below _ T336 (mkF m 227 #[.val (.int p0), .val (.int p1), .val (.int p2), .val (.int p3), .val (.int p4), .val (.int (1 : Int32)), .val (.int vr), .val (.int vt), .val (.int vf), .val (.ref a256), .val (.int c0), .val (.int c1), .val (.int c2), .val (.int c3), .val (.int (2 : Int32)), .val (.int (0 : Int32)), .val (.int ct), .unset, .unset, .unset] [])
                    refine own_iload X339 hx 229 (hb hby at_227) rfl rfl ?_
                    refine own_bipush X339 hx 231 (31 : Int32) (by decide) (hb hby at_229) rfl ?_
                    refine own_iand X339 hx 232 (hb hby at_231) rfl ?_
                    refine own_bipush X339 hx 234 (6 : Int32) (by decide) (hb hby at_232) rfl ?_
                    refine own_ishl X339 hx 235 (hb hby at_234) rfl ?_
                    refine own_iload X339 hx 237 (hb hby at_235) rfl rfl ?_
                    refine own_bipush X339 hx 239 (63 : Int32) (by decide) (hb hby at_237) rfl ?_
                    refine own_iand X339 hx 240 (hb hby at_239) rfl ?_
                    refine own_ior X339 hx 241 (hb hby at_240) rfl ?_
                    obtain ⟨cp, e_cp⟩ : ∃ z : Int32, z = (((c0 &&& (31 : Int32)) <<< ((6 : Int32) &&& 31)) ||| (c1 &&& (63 : Int32))) := ⟨_, rfl⟩
                    refine own_istore X339 hx 243 #[.val (.int p0), .val (.int p1), .val (.int p2), .val (.int p3), .val (.int p4), .val (.int (1 : Int32)), .val (.int vr), .val (.int vt), .val (.int vf), .val (.ref a256), .val (.int c0), .val (.int c1), .val (.int c2), .val (.int c3), .val (.int (2 : Int32)), .val (.int (0 : Int32)), .val (.int ct), .val (.int cp), .unset, .unset] e_cp (hb hby at_241) rfl rfl ?_
                    have hcp := own_cp2 c0 c1 cp e_cp
                    refine own_sipush X339 hx 246 (128 : Int32) (by decide) (hb hby at_243) rfl ?_
                    refine own_istore X339 hx 248 #[.val (.int p0), .val (.int p1), .val (.int p2), .val (.int p3), .val (.int p4), .val (.int (1 : Int32)), .val (.int vr), .val (.int vt), .val (.int vf), .val (.ref a256), .val (.int c0), .val (.int c1), .val (.int c2), .val (.int c3), .val (.int (2 : Int32)), .val (.int (0 : Int32)), .val (.int ct), .val (.int cp), .val (.int (128 : Int32)), .unset] rfl (hb hby at_246) rfl rfl ?_
                    refine own_goto X339 hx 328 (hb hby at_248) (by decide) (by decide) ?_
                    refine own_iload X339 hx 330 (hb hby at_328) rfl rfl ?_
                    have J346 : ∀ (vd : Int32) (hj347 : vd = own_vd ct cp (128 : Int32)), own_W p e below (own_K s room_1 (fun v h L => v = some (.int 1) ∧ Fr n0 L)) T336 (mkF m 366 #[.val (.int p0), .val (.int p1), .val (.int p2), .val (.int p3), .val (.int p4), .val (.int (1 : Int32)), .val (.int vr), .val (.int vt), .val (.int vf), .val (.ref a256), .val (.int c0), .val (.int c1), .val (.int c2), .val (.int c3), .val (.int (2 : Int32)), .val (.int (0 : Int32)), .val (.int ct), .val (.int cp), .val (.int (128 : Int32)), .unset] [(.int vd)]) := by
                      intro vd hj347
                      have hvd := hj347
                      refine own_istore X339 hx 368 #[.val (.int p0), .val (.int p1), .val (.int p2), .val (.int p3), .val (.int p4), .val (.int (1 : Int32)), .val (.int vr), .val (.int vt), .val (.int vf), .val (.ref a256), .val (.int c0), .val (.int c1), .val (.int c2), .val (.int c3), .val (.int (2 : Int32)), .val (.int (0 : Int32)), .val (.int ct), .val (.int cp), .val (.int (128 : Int32)), .val (.int vd)] rfl (hb hby at_366) rfl rfl ?_
                      refine own_iload X339 hx 370 (hb hby at_368) rfl rfl ?_
                      have J348 : ∀ (ex : Int32) (hj349 : ex = if vd = 0 then 0 else (2 : Int32)), own_W p e below (own_K s room_1 (fun v h L => v = some (.int 1) ∧ Fr n0 L)) T336 (mkF m 379 #[.val (.int p0), .val (.int p1), .val (.int p2), .val (.int p3), .val (.int p4), .val (.int (1 : Int32)), .val (.int vr), .val (.int vt), .val (.int vf), .val (.ref a256), .val (.int c0), .val (.int c1), .val (.int c2), .val (.int c3), .val (.int (2 : Int32)), .val (.int (0 : Int32)), .val (.int ct), .val (.int cp), .val (.int (128 : Int32)), .val (.int vd)] [(.int ex)]) := by
                        intro ex hj349
                        have hex := hj349
                        refine own_istore X339 hx 381 #[.val (.int p0), .val (.int p1), .val (.int p2), .val (.int p3), .val (.int p4), .val (.int (1 : Int32)), .val (.int vr), .val (.int vt), .val (.int vf), .val (.ref a256), .val (.int c0), .val (.int c1), .val (.int c2), .val (.int c3), .val (.int (2 : Int32)), .val (.int ex), .val (.int ct), .val (.int cp), .val (.int (128 : Int32)), .val (.int vd)] rfl (hb hby at_379) rfl rfl ?_
                        refine own_aload X339 hx 383 (hb hby at_381) rfl rfl ?_
                        refine own_iload X339 hx 385 (hb hby at_383) rfl rfl ?_
                        refine own_iload X339 hx 387 (hb hby at_385) rfl rfl ?_
                        refine own_callS X339 hx hZ hown e340 (y := (⟨"com/example/gentle_indent/gentleindent/util/Utf8", "sequenceLength", "([BII)I"⟩ : MethodName)) (argsL := [(.ref a256), (.int (1 : Int32)), (.int vt)]) (rest := []) 390 (rm2_1 l Z a0 hw a256 vt fy h338 n0 Z342 (by omega) f343) (hw _ (List.mem_of_getElem? (i := 1) rfl)) (hw _ (List.mem_of_getElem? (i := 2) rfl)) (hw _ (List.mem_of_getElem? (i := 3) rfl)) (hw _ (List.mem_of_getElem? (i := 4) rfl)) (by decide) (by rw [hml]; rfl) (lenOf (by decide +kernel : parseMethodDescriptor "([BII)I" = some ⟨[(.array .byte), .int, .int], some .int⟩) rfl) rfl (hb hby at_387) rfl (W := 0) rfl (by decide) (by decide) (by decide) (by decide) (fun r350 T351 L352 X353 q354 => ?_)
                        obtain ⟨rr, rfl, hrr, N355q, e356⟩ := q354
                        have N355 := Fr.app N341 N355q
                        rw [hf0, hf1, hf2, hf3, show vt.toInt - 1 = vr.toInt from by omega] at hrr
                        show own_W p e below _ T351 (mkF m 390 #[.val (.int p0), .val (.int p1), .val (.int p2), .val (.int p3), .val (.int p4), .val (.int (1 : Int32)), .val (.int vr), .val (.int vt), .val (.int vf), .val (.ref a256), .val (.int c0), .val (.int c1), .val (.int c2), .val (.int c3), .val (.int (2 : Int32)), .val (.int ex), .val (.int ct), .val (.int cp), .val (.int (128 : Int32)), .val (.int vd)] [(.int rr)])
                        refine own_iload X353 hx 392 (hb hby at_390) rfl rfl ?_
                        refine own_icmp_ne X353 hx 399 395 (hb hby at_392) (by decide) (by decide) rfl (fun h357 => ?_) (fun h357 => ?_)
                        · exact absurd (by simp only [Int32.lt_iff_toInt_lt, own_k0, own_k1, own_k2, own_k3, own_k4, own_k128, own_k143, own_k144, own_k159, own_k160, own_k191, own_k192, own_k194, own_k223, own_k224, own_k237, own_k239, own_k240, own_k244, own_k248, own_k2048, own_k55296, own_k57343, own_k65536, own_k1114111] at h312 h313 h314 h315 h326; have q := own_F2 c0.toInt c1.toInt c2.toInt c3.toInt vr.toInt ct cp (by omega) hc1 (by omega) hct hcp; rw [← hvd] at q; exact own_fin rr ex vd (2 : Int32) 2 _ hrr q hex rfl) h357
                        · show own_W p e below _ T351 (mkF m 395 #[.val (.int p0), .val (.int p1), .val (.int p2), .val (.int p3), .val (.int p4), .val (.int (1 : Int32)), .val (.int vr), .val (.int vt), .val (.int vf), .val (.ref a256), .val (.int c0), .val (.int c1), .val (.int c2), .val (.int c3), .val (.int (2 : Int32)), .val (.int ex), .val (.int ct), .val (.int cp), .val (.int (128 : Int32)), .val (.int vd)] [])
                          refine own_iconst X353 hx 396 (1 : Int32) (by decide) (hb hby at_395) rfl ?_
                          refine own_goto X353 hx 400 (hb hby at_396) (by decide) (by decide) ?_
                          exact own_retZ X353 hx (1 : Int32) (by decide) hret hlk (hb hby at_400) (by decide) (by decide) ⟨rfl, N355⟩
                      refine own_if_eq X339 hx 378 373 (hb hby at_370) (by decide) (by decide) rfl (fun h358 => ?_) (fun h358 => ?_)
                      · show own_W p e below _ T336 (mkF m 378 #[.val (.int p0), .val (.int p1), .val (.int p2), .val (.int p3), .val (.int p4), .val (.int (1 : Int32)), .val (.int vr), .val (.int vt), .val (.int vf), .val (.ref a256), .val (.int c0), .val (.int c1), .val (.int c2), .val (.int c3), .val (.int (2 : Int32)), .val (.int (0 : Int32)), .val (.int ct), .val (.int cp), .val (.int (128 : Int32)), .val (.int vd)] [])
                        refine own_iconst X339 hx 379 (0 : Int32) (by decide) (hb hby at_378) rfl ?_
                        exact J348 (0 : Int32) (by rw [if_pos h358])
                      · show own_W p e below _ T336 (mkF m 373 #[.val (.int p0), .val (.int p1), .val (.int p2), .val (.int p3), .val (.int p4), .val (.int (1 : Int32)), .val (.int vr), .val (.int vt), .val (.int vf), .val (.ref a256), .val (.int c0), .val (.int c1), .val (.int c2), .val (.int c3), .val (.int (2 : Int32)), .val (.int (0 : Int32)), .val (.int ct), .val (.int cp), .val (.int (128 : Int32)), .val (.int vd)] [])
                        refine own_iload X339 hx 375 (hb hby at_373) rfl rfl ?_
                        refine own_goto X339 hx 379 (hb hby at_375) (by decide) (by decide) ?_
                        exact J348 (2 : Int32) (by rw [if_neg h358])
                    refine own_if_eq X339 hx 365 333 (hb hby at_330) (by decide) (by decide) rfl (fun h359 => ?_) (fun h359 => ?_)
                    · show own_W p e below _ T336 (mkF m 365 #[.val (.int p0), .val (.int p1), .val (.int p2), .val (.int p3), .val (.int p4), .val (.int (1 : Int32)), .val (.int vr), .val (.int vt), .val (.int vf), .val (.ref a256), .val (.int c0), .val (.int c1), .val (.int c2), .val (.int c3), .val (.int (2 : Int32)), .val (.int (0 : Int32)), .val (.int ct), .val (.int cp), .val (.int (128 : Int32)), .unset] [])
                      refine own_iconst X339 hx 366 (0 : Int32) (by decide) (hb hby at_365) rfl ?_
                      exact J346 (0 : Int32) (by unfold own_vd; rw [if_pos h359])
                    · show own_W p e below _ T336 (mkF m 333 #[.val (.int p0), .val (.int p1), .val (.int p2), .val (.int p3), .val (.int p4), .val (.int (1 : Int32)), .val (.int vr), .val (.int vt), .val (.int vf), .val (.ref a256), .val (.int c0), .val (.int c1), .val (.int c2), .val (.int c3), .val (.int (2 : Int32)), .val (.int (0 : Int32)), .val (.int ct), .val (.int cp), .val (.int (128 : Int32)), .unset] [])
                      refine own_iload X339 hx 335 (hb hby at_333) rfl rfl ?_
                      refine own_iload X339 hx 337 (hb hby at_335) rfl rfl ?_
                      refine own_icmp_lt X339 hx 365 340 (hb hby at_337) (by decide) (by decide) rfl (fun h360 => ?_) (fun h360 => ?_)
                      · show own_W p e below _ T336 (mkF m 365 #[.val (.int p0), .val (.int p1), .val (.int p2), .val (.int p3), .val (.int p4), .val (.int (1 : Int32)), .val (.int vr), .val (.int vt), .val (.int vf), .val (.ref a256), .val (.int c0), .val (.int c1), .val (.int c2), .val (.int c3), .val (.int (2 : Int32)), .val (.int (0 : Int32)), .val (.int ct), .val (.int cp), .val (.int (128 : Int32)), .unset] [])
                        refine own_iconst X339 hx 366 (0 : Int32) (by decide) (hb hby at_365) rfl ?_
                        exact J346 (0 : Int32) (by unfold own_vd; rw [if_neg h359, if_pos h360])
                      · show own_W p e below _ T336 (mkF m 340 #[.val (.int p0), .val (.int p1), .val (.int p2), .val (.int p3), .val (.int p4), .val (.int (1 : Int32)), .val (.int vr), .val (.int vt), .val (.int vf), .val (.ref a256), .val (.int c0), .val (.int c1), .val (.int c2), .val (.int c3), .val (.int (2 : Int32)), .val (.int (0 : Int32)), .val (.int ct), .val (.int cp), .val (.int (128 : Int32)), .unset] [])
                        refine own_iload X339 hx 342 (hb hby at_340) rfl rfl ?_
                        refine own_ldc X339 hx hZ hown 344 (hw _ (List.mem_of_getElem? (i := 10) rfl)) (hb hby at_342) rfl ?_
                        refine own_icmp_gt X339 hx 365 347 (hb hby at_344) (by decide) (by decide) rfl (fun h361 => ?_) (fun h361 => ?_)
                        · show own_W p e below _ T336 (mkF m 365 #[.val (.int p0), .val (.int p1), .val (.int p2), .val (.int p3), .val (.int p4), .val (.int (1 : Int32)), .val (.int vr), .val (.int vt), .val (.int vf), .val (.ref a256), .val (.int c0), .val (.int c1), .val (.int c2), .val (.int c3), .val (.int (2 : Int32)), .val (.int (0 : Int32)), .val (.int ct), .val (.int cp), .val (.int (128 : Int32)), .unset] [])
                          refine own_iconst X339 hx 366 (0 : Int32) (by decide) (hb hby at_365) rfl ?_
                          exact J346 (0 : Int32) (by unfold own_vd; rw [if_neg h359, if_neg h360, if_pos h361])
                        · show own_W p e below _ T336 (mkF m 347 #[.val (.int p0), .val (.int p1), .val (.int p2), .val (.int p3), .val (.int p4), .val (.int (1 : Int32)), .val (.int vr), .val (.int vt), .val (.int vf), .val (.ref a256), .val (.int c0), .val (.int c1), .val (.int c2), .val (.int c3), .val (.int (2 : Int32)), .val (.int (0 : Int32)), .val (.int ct), .val (.int cp), .val (.int (128 : Int32)), .unset] [])
                          refine own_iload X339 hx 349 (hb hby at_347) rfl rfl ?_
                          refine own_ldc X339 hx hZ hown 351 (hw _ (List.mem_of_getElem? (i := 11) rfl)) (hb hby at_349) rfl ?_
                          refine own_icmp_lt X339 hx 361 354 (hb hby at_351) (by decide) (by decide) rfl (fun h362 => ?_) (fun h362 => ?_)
                          · show own_W p e below _ T336 (mkF m 361 #[.val (.int p0), .val (.int p1), .val (.int p2), .val (.int p3), .val (.int p4), .val (.int (1 : Int32)), .val (.int vr), .val (.int vt), .val (.int vf), .val (.ref a256), .val (.int c0), .val (.int c1), .val (.int c2), .val (.int c3), .val (.int (2 : Int32)), .val (.int (0 : Int32)), .val (.int ct), .val (.int cp), .val (.int (128 : Int32)), .unset] [])
                            refine own_iconst X339 hx 362 (1 : Int32) (by decide) (hb hby at_361) rfl ?_
                            refine own_goto X339 hx 366 (hb hby at_362) (by decide) (by decide) ?_
                            exact J346 (1 : Int32) (by unfold own_vd; rw [if_neg h359, if_neg h360, if_neg h361, if_pos h362])
                          · show own_W p e below _ T336 (mkF m 354 #[.val (.int p0), .val (.int p1), .val (.int p2), .val (.int p3), .val (.int p4), .val (.int (1 : Int32)), .val (.int vr), .val (.int vt), .val (.int vf), .val (.ref a256), .val (.int c0), .val (.int c1), .val (.int c2), .val (.int c3), .val (.int (2 : Int32)), .val (.int (0 : Int32)), .val (.int ct), .val (.int cp), .val (.int (128 : Int32)), .unset] [])
                            refine own_iload X339 hx 356 (hb hby at_354) rfl rfl ?_
                            refine own_ldc X339 hx hZ hown 358 (hw _ (List.mem_of_getElem? (i := 12) rfl)) (hb hby at_356) rfl ?_
                            refine own_icmp_le X339 hx 365 361 (hb hby at_358) (by decide) (by decide) rfl (fun h363 => ?_) (fun h363 => ?_)
                            · show own_W p e below _ T336 (mkF m 365 #[.val (.int p0), .val (.int p1), .val (.int p2), .val (.int p3), .val (.int p4), .val (.int (1 : Int32)), .val (.int vr), .val (.int vt), .val (.int vf), .val (.ref a256), .val (.int c0), .val (.int c1), .val (.int c2), .val (.int c3), .val (.int (2 : Int32)), .val (.int (0 : Int32)), .val (.int ct), .val (.int cp), .val (.int (128 : Int32)), .unset] [])
                              refine own_iconst X339 hx 366 (0 : Int32) (by decide) (hb hby at_365) rfl ?_
                              exact J346 (0 : Int32) (by unfold own_vd; rw [if_neg h359, if_neg h360, if_neg h361, if_neg h362, if_neg h363])
                            · show own_W p e below _ T336 (mkF m 361 #[.val (.int p0), .val (.int p1), .val (.int p2), .val (.int p3), .val (.int p4), .val (.int (1 : Int32)), .val (.int vr), .val (.int vt), .val (.int vf), .val (.ref a256), .val (.int c0), .val (.int c1), .val (.int c2), .val (.int c3), .val (.int (2 : Int32)), .val (.int (0 : Int32)), .val (.int ct), .val (.int cp), .val (.int (128 : Int32)), .unset] [])
                              refine own_iconst X339 hx 362 (1 : Int32) (by decide) (hb hby at_361) rfl ?_
                              refine own_goto X339 hx 366 (hb hby at_362) (by decide) (by decide) ?_
                              exact J346 (1 : Int32) (by unfold own_vd; rw [if_neg h359, if_neg h360, if_neg h361, if_neg h362, if_pos h363])
                refine own_iload X306 hx 180 (hb hby at_178) rfl rfl ?_
                refine own_callS X306 hx hZ hown e307 (y := (⟨"com/example/gentle_indent/gentleindent/util/Utf8SequenceLengthPinLaw", "isCont", "(I)Z"⟩ : MethodName)) (argsL := [(.int c1)]) (rest := []) 183 (rm1 l Z a0 hw c1 h305 n0 Z310) (hw _ (List.mem_of_getElem? (i := 5) rfl)) (hw _ (List.mem_of_getElem? (i := 6) rfl)) (hw _ (List.mem_of_getElem? (i := 7) rfl)) (hw _ (List.mem_of_getElem? (i := 8) rfl)) (by decide) (by rw [hml]; rfl) (lenOf (by decide +kernel : parseMethodDescriptor "(I)Z" = some ⟨[.int], some .boolean⟩) rfl) rfl (hb hby at_180) rfl (W := 0) rfl (by decide) (by decide) (by decide) (by decide) (fun r364 T365 L366 X367 q368 => ?_)
                obtain ⟨rfl, N369q, e370⟩ := q368
                have N369 := Fr.app N311 N369q
                show own_W p e below _ T365 (mkF m 183 #[.val (.int p0), .val (.int p1), .val (.int p2), .val (.int p3), .val (.int p4), .val (.int (1 : Int32)), .val (.int vr), .val (.int vt), .val (.int vf), .val (.ref a256), .val (.int c0), .val (.int c1), .val (.int c2), .val (.int c3), .val (.int (2 : Int32)), .val (.int (0 : Int32)), .unset, .unset, .unset, .unset] [(.int (own_isCont c1))])
                refine own_if_eq X367 hx 218 186 (hb hby at_183) (by decide) (by decide) rfl (fun h371 => ?_) (fun h371 => ?_)
                · show own_W p e below _ T365 (mkF m 218 #[.val (.int p0), .val (.int p1), .val (.int p2), .val (.int p3), .val (.int p4), .val (.int (1 : Int32)), .val (.int vr), .val (.int vt), .val (.int vf), .val (.ref a256), .val (.int c0), .val (.int c1), .val (.int c2), .val (.int c3), .val (.int (2 : Int32)), .val (.int (0 : Int32)), .unset, .unset, .unset, .unset] [])
                  refine own_iconst X367 hx 219 (0 : Int32) (by decide) (hb hby at_218) rfl ?_
                  exact J335 (0 : Int32) T365 _ _ fz X367 e370 N369 Z310 f309 (⟨rfl, Or.inr ⟨rfl, fun u => own_cF c1 hc1 h371 u⟩⟩)
                · show own_W p e below _ T365 (mkF m 186 #[.val (.int p0), .val (.int p1), .val (.int p2), .val (.int p3), .val (.int p4), .val (.int (1 : Int32)), .val (.int vr), .val (.int vt), .val (.int vf), .val (.ref a256), .val (.int c0), .val (.int c1), .val (.int c2), .val (.int c3), .val (.int (2 : Int32)), .val (.int (0 : Int32)), .unset, .unset, .unset, .unset] [])
                  refine own_iload X367 hx 188 (hb hby at_186) rfl rfl ?_
                  refine own_iconst X367 hx 189 (3 : Int32) (by decide) (hb hby at_188) rfl ?_
                  refine own_icmp_lt X367 hx 200 192 (hb hby at_189) (by decide) (by decide) rfl (fun h372 => ?_) (fun h372 => ?_)
                  · show own_W p e below _ T365 (mkF m 200 #[.val (.int p0), .val (.int p1), .val (.int p2), .val (.int p3), .val (.int p4), .val (.int (1 : Int32)), .val (.int vr), .val (.int vt), .val (.int vf), .val (.ref a256), .val (.int c0), .val (.int c1), .val (.int c2), .val (.int c3), .val (.int (2 : Int32)), .val (.int (0 : Int32)), .unset, .unset, .unset, .unset] [])
                    refine own_iload X367 hx 202 (hb hby at_200) rfl rfl ?_
                    refine own_iconst X367 hx 203 (4 : Int32) (by decide) (hb hby at_202) rfl ?_
                    refine own_icmp_lt X367 hx 214 206 (hb hby at_203) (by decide) (by decide) rfl (fun h373 => ?_) (fun h373 => ?_)
                    · show own_W p e below _ T365 (mkF m 214 #[.val (.int p0), .val (.int p1), .val (.int p2), .val (.int p3), .val (.int p4), .val (.int (1 : Int32)), .val (.int vr), .val (.int vt), .val (.int vf), .val (.ref a256), .val (.int c0), .val (.int c1), .val (.int c2), .val (.int c3), .val (.int (2 : Int32)), .val (.int (0 : Int32)), .unset, .unset, .unset, .unset] [])
                      refine own_iconst X367 hx 215 (1 : Int32) (by decide) (hb hby at_214) rfl ?_
                      refine own_goto X367 hx 219 (hb hby at_215) (by decide) (by decide) ?_
                      exact J335 (1 : Int32) T365 _ _ fz X367 e370 N369 Z310 f309 (⟨rfl, Or.inl ⟨rfl, own_cT c1 hc1 h371⟩⟩)
                    · exact absurd h373 (by decide)
                  · exact absurd h372 (by decide)
        · show own_W p e below _ T304 (mkF m 144 #[.val (.int p0), .val (.int p1), .val (.int p2), .val (.int p3), .val (.int p4), .val (.int (1 : Int32)), .val (.int vr), .val (.int vt), .val (.int vf), .val (.ref a256), .val (.int c0), .val (.int c1), .val (.int c2), .val (.int c3), .unset, .unset, .unset, .unset, .unset, .unset] [])
          refine own_iconst X306 hx 145 (3 : Int32) (by decide) (hb hby at_144) rfl ?_
          refine own_goto X306 hx 161 (hb hby at_145) (by decide) (by decide) ?_
          refine own_istore X306 hx 163 #[.val (.int p0), .val (.int p1), .val (.int p2), .val (.int p3), .val (.int p4), .val (.int (1 : Int32)), .val (.int vr), .val (.int vt), .val (.int vf), .val (.ref a256), .val (.int c0), .val (.int c1), .val (.int c2), .val (.int c3), .val (.int (3 : Int32)), .unset, .unset, .unset, .unset, .unset] rfl (hb hby at_161) rfl rfl ?_
          refine own_iconst X306 hx 164 (0 : Int32) (by decide) (hb hby at_163) rfl ?_
          refine own_istore X306 hx 166 #[.val (.int p0), .val (.int p1), .val (.int p2), .val (.int p3), .val (.int p4), .val (.int (1 : Int32)), .val (.int vr), .val (.int vt), .val (.int vf), .val (.ref a256), .val (.int c0), .val (.int c1), .val (.int c2), .val (.int c3), .val (.int (3 : Int32)), .val (.int (0 : Int32)), .unset, .unset, .unset, .unset] rfl (hb hby at_164) rfl rfl ?_
          refine own_iload X306 hx 168 (hb hby at_166) rfl rfl ?_
          refine own_if_eq X306 hx 381 171 (hb hby at_168) (by decide) (by decide) rfl (fun h374 => ?_) (fun h374 => ?_)
          · exact absurd h374 (by decide)
          · show own_W p e below _ T304 (mkF m 171 #[.val (.int p0), .val (.int p1), .val (.int p2), .val (.int p3), .val (.int p4), .val (.int (1 : Int32)), .val (.int vr), .val (.int vt), .val (.int vf), .val (.ref a256), .val (.int c0), .val (.int c1), .val (.int c2), .val (.int c3), .val (.int (3 : Int32)), .val (.int (0 : Int32)), .unset, .unset, .unset, .unset] [])
            refine own_iload X306 hx 173 (hb hby at_171) rfl rfl ?_
            refine own_iload X306 hx 175 (hb hby at_173) rfl rfl ?_
            refine own_icmp_lt X306 hx 381 178 (hb hby at_175) (by decide) (by decide) rfl (fun h375 => ?_) (fun h375 => ?_)
            · show own_W p e below _ T304 (mkF m 381 #[.val (.int p0), .val (.int p1), .val (.int p2), .val (.int p3), .val (.int p4), .val (.int (1 : Int32)), .val (.int vr), .val (.int vt), .val (.int vf), .val (.ref a256), .val (.int c0), .val (.int c1), .val (.int c2), .val (.int c3), .val (.int (3 : Int32)), .val (.int (0 : Int32)), .unset, .unset, .unset, .unset] [])
              refine own_aload X306 hx 383 (hb hby at_381) rfl rfl ?_
              refine own_iload X306 hx 385 (hb hby at_383) rfl rfl ?_
              refine own_iload X306 hx 387 (hb hby at_385) rfl rfl ?_
              refine own_callS X306 hx hZ hown e307 (y := (⟨"com/example/gentle_indent/gentleindent/util/Utf8", "sequenceLength", "([BII)I"⟩ : MethodName)) (argsL := [(.ref a256), (.int (1 : Int32)), (.int vt)]) (rest := []) 390 (rm2_1 l Z a0 hw a256 vt fz h305 n0 Z310 (by omega) f309) (hw _ (List.mem_of_getElem? (i := 1) rfl)) (hw _ (List.mem_of_getElem? (i := 2) rfl)) (hw _ (List.mem_of_getElem? (i := 3) rfl)) (hw _ (List.mem_of_getElem? (i := 4) rfl)) (by decide) (by rw [hml]; rfl) (lenOf (by decide +kernel : parseMethodDescriptor "([BII)I" = some ⟨[(.array .byte), .int, .int], some .int⟩) rfl) rfl (hb hby at_387) rfl (W := 0) rfl (by decide) (by decide) (by decide) (by decide) (fun r376 T377 L378 X379 q380 => ?_)
              obtain ⟨rr, rfl, hrr, N381q, e382⟩ := q380
              have N381 := Fr.app N311 N381q
              rw [hf0, hf1, hf2, hf3, show vt.toInt - 1 = vr.toInt from by omega] at hrr
              show own_W p e below _ T377 (mkF m 390 #[.val (.int p0), .val (.int p1), .val (.int p2), .val (.int p3), .val (.int p4), .val (.int (1 : Int32)), .val (.int vr), .val (.int vt), .val (.int vf), .val (.ref a256), .val (.int c0), .val (.int c1), .val (.int c2), .val (.int c3), .val (.int (3 : Int32)), .val (.int (0 : Int32)), .unset, .unset, .unset, .unset] [(.int rr)])
              refine own_iload X379 hx 392 (hb hby at_390) rfl rfl ?_
              refine own_icmp_ne X379 hx 399 395 (hb hby at_392) (by decide) (by decide) rfl (fun h383 => ?_) (fun h383 => ?_)
              · exact absurd (by rw [← Int32.toInt_inj, hrr]; simp only [Int32.lt_iff_toInt_lt, own_k0, own_k1, own_k2, own_k3, own_k4, own_k128, own_k143, own_k144, own_k159, own_k160, own_k191, own_k192, own_k194, own_k223, own_k224, own_k237, own_k239, own_k240, own_k244, own_k248, own_k2048, own_k55296, own_k57343, own_k65536, own_k1114111] at h312 h313 h314 h375; exact (own_F0 _ _ _ _ _ (by omega)).trans rfl) h383
              · show own_W p e below _ T377 (mkF m 395 #[.val (.int p0), .val (.int p1), .val (.int p2), .val (.int p3), .val (.int p4), .val (.int (1 : Int32)), .val (.int vr), .val (.int vt), .val (.int vf), .val (.ref a256), .val (.int c0), .val (.int c1), .val (.int c2), .val (.int c3), .val (.int (3 : Int32)), .val (.int (0 : Int32)), .unset, .unset, .unset, .unset] [])
                refine own_iconst X379 hx 396 (1 : Int32) (by decide) (hb hby at_395) rfl ?_
                refine own_goto X379 hx 400 (hb hby at_396) (by decide) (by decide) ?_
                exact own_retZ X379 hx (1 : Int32) (by decide) hret hlk (hb hby at_400) (by decide) (by decide) ⟨rfl, N381⟩
            · show own_W p e below _ T304 (mkF m 178 #[.val (.int p0), .val (.int p1), .val (.int p2), .val (.int p3), .val (.int p4), .val (.int (1 : Int32)), .val (.int vr), .val (.int vt), .val (.int vf), .val (.ref a256), .val (.int c0), .val (.int c1), .val (.int c2), .val (.int c3), .val (.int (3 : Int32)), .val (.int (0 : Int32)), .unset, .unset, .unset, .unset] [])
              have J384 : ∀ (ct : Int32) (T385 : State) (lc386 : List Loc) (h387 : Heap) (fy : Nat → Int32) (X388 : Stand p l e room_1 s m #[(.int p0), (.int p1), (.int p2), (.int p3), (.int p4)] below meth c T385 lc386 1 5) (e389 : T385.heap = h387) (N390 : Fr n0 lc386) (Z391 : n0 ≤ h387.size) (f392 : own_AI Z h387 a256 .byte 5 fy) (hj393 : fy = fz ∧ ((ct = 1 ∧ own_co c1.toInt ∧ own_co c2.toInt) ∨ (ct = 0 ∧ ¬ (own_co c1.toInt ∧ own_co c2.toInt)))), own_W p e below (own_K s room_1 (fun v h L => v = some (.int 1) ∧ Fr n0 L)) T385 (mkF m 219 #[.val (.int p0), .val (.int p1), .val (.int p2), .val (.int p3), .val (.int p4), .val (.int (1 : Int32)), .val (.int vr), .val (.int vt), .val (.int vf), .val (.ref a256), .val (.int c0), .val (.int c1), .val (.int c2), .val (.int c3), .val (.int (3 : Int32)), .val (.int (0 : Int32)), .unset, .unset, .unset, .unset] [(.int ct)]) := by
                intro ct T385 lc386 h387 fy X388 e389 N390 Z391 f392 hj393
                obtain ⟨rfl, hct⟩ := hj393
                refine own_istore X388 hx 221 #[.val (.int p0), .val (.int p1), .val (.int p2), .val (.int p3), .val (.int p4), .val (.int (1 : Int32)), .val (.int vr), .val (.int vt), .val (.int vf), .val (.ref a256), .val (.int c0), .val (.int c1), .val (.int c2), .val (.int c3), .val (.int (3 : Int32)), .val (.int (0 : Int32)), .val (.int ct), .unset, .unset, .unset] rfl (hb hby at_219) rfl rfl ?_
                refine own_iload X388 hx 223 (hb hby at_221) rfl rfl ?_
                refine own_iconst X388 hx 224 (2 : Int32) (by decide) (hb hby at_223) rfl ?_
                refine own_icmp_ne X388 hx 251 227 (hb hby at_224) (by decide) (by decide) rfl (fun h394 => ?_) (fun h394 => ?_)
                · show own_W p e below _ T385 (mkF m 251 #[.val (.int p0), .val (.int p1), .val (.int p2), .val (.int p3), .val (.int p4), .val (.int (1 : Int32)), .val (.int vr), .val (.int vt), .val (.int vf), .val (.ref a256), .val (.int c0), .val (.int c1), .val (.int c2), .val (.int c3), .val (.int (3 : Int32)), .val (.int (0 : Int32)), .val (.int ct), .unset, .unset, .unset] [])
                  refine own_iload X388 hx 253 (hb hby at_251) rfl rfl ?_
                  refine own_iconst X388 hx 254 (3 : Int32) (by decide) (hb hby at_253) rfl ?_
                  refine own_icmp_ne X388 hx 290 257 (hb hby at_254) (by decide) (by decide) rfl (fun h395 => ?_) (fun h395 => ?_)
                  · exact absurd h395 (by decide)
                  · show own_W p e below _ T385 (mkF m 257 #[.val (.int p0), .val (.int p1), .val (.int p2), .val (.int p3), .val (.int p4), .val (.int (1 : Int32)), .val (.int vr), .val (.int vt), .val (.int vf), .val (.ref a256), .val (.int c0), .val (.int c1), .val (.int c2), .val (.int c3), .val (.int (3 : Int32)), .val (.int (0 : Int32)), .val (.int ct), .unset, .unset, .unset] [])
                    refine own_iload X388 hx 259 (hb hby at_257) rfl rfl ?_
                    refine own_bipush X388 hx 261 (15 : Int32) (by decide) (hb hby at_259) rfl ?_
                    refine own_iand X388 hx 262 (hb hby at_261) rfl ?_
                    refine own_bipush X388 hx 264 (12 : Int32) (by decide) (hb hby at_262) rfl ?_
                    refine own_ishl X388 hx 265 (hb hby at_264) rfl ?_
                    refine own_iload X388 hx 267 (hb hby at_265) rfl rfl ?_
                    refine own_bipush X388 hx 269 (63 : Int32) (by decide) (hb hby at_267) rfl ?_
                    refine own_iand X388 hx 270 (hb hby at_269) rfl ?_
                    refine own_bipush X388 hx 272 (6 : Int32) (by decide) (hb hby at_270) rfl ?_
                    refine own_ishl X388 hx 273 (hb hby at_272) rfl ?_
                    refine own_ior X388 hx 274 (hb hby at_273) rfl ?_
                    refine own_iload X388 hx 276 (hb hby at_274) rfl rfl ?_
                    refine own_bipush X388 hx 278 (63 : Int32) (by decide) (hb hby at_276) rfl ?_
                    refine own_iand X388 hx 279 (hb hby at_278) rfl ?_
                    refine own_ior X388 hx 280 (hb hby at_279) rfl ?_
                    obtain ⟨cp, e_cp⟩ : ∃ z : Int32, z = ((((c0 &&& (15 : Int32)) <<< ((12 : Int32) &&& 31)) ||| ((c1 &&& (63 : Int32)) <<< ((6 : Int32) &&& 31))) ||| (c2 &&& (63 : Int32))) := ⟨_, rfl⟩
                    refine own_istore X388 hx 282 #[.val (.int p0), .val (.int p1), .val (.int p2), .val (.int p3), .val (.int p4), .val (.int (1 : Int32)), .val (.int vr), .val (.int vt), .val (.int vf), .val (.ref a256), .val (.int c0), .val (.int c1), .val (.int c2), .val (.int c3), .val (.int (3 : Int32)), .val (.int (0 : Int32)), .val (.int ct), .val (.int cp), .unset, .unset] e_cp (hb hby at_280) rfl rfl ?_
                    have hcp := own_cp3 c0 c1 c2 cp e_cp
                    refine own_sipush X388 hx 285 (2048 : Int32) (by decide) (hb hby at_282) rfl ?_
                    refine own_istore X388 hx 287 #[.val (.int p0), .val (.int p1), .val (.int p2), .val (.int p3), .val (.int p4), .val (.int (1 : Int32)), .val (.int vr), .val (.int vt), .val (.int vf), .val (.ref a256), .val (.int c0), .val (.int c1), .val (.int c2), .val (.int c3), .val (.int (3 : Int32)), .val (.int (0 : Int32)), .val (.int ct), .val (.int cp), .val (.int (2048 : Int32)), .unset] rfl (hb hby at_285) rfl rfl ?_
                    refine own_goto X388 hx 328 (hb hby at_287) (by decide) (by decide) ?_
                    refine own_iload X388 hx 330 (hb hby at_328) rfl rfl ?_
                    have J396 : ∀ (vd : Int32) (hj397 : vd = own_vd ct cp (2048 : Int32)), own_W p e below (own_K s room_1 (fun v h L => v = some (.int 1) ∧ Fr n0 L)) T385 (mkF m 366 #[.val (.int p0), .val (.int p1), .val (.int p2), .val (.int p3), .val (.int p4), .val (.int (1 : Int32)), .val (.int vr), .val (.int vt), .val (.int vf), .val (.ref a256), .val (.int c0), .val (.int c1), .val (.int c2), .val (.int c3), .val (.int (3 : Int32)), .val (.int (0 : Int32)), .val (.int ct), .val (.int cp), .val (.int (2048 : Int32)), .unset] [(.int vd)]) := by
                      intro vd hj397
                      have hvd := hj397
                      refine own_istore X388 hx 368 #[.val (.int p0), .val (.int p1), .val (.int p2), .val (.int p3), .val (.int p4), .val (.int (1 : Int32)), .val (.int vr), .val (.int vt), .val (.int vf), .val (.ref a256), .val (.int c0), .val (.int c1), .val (.int c2), .val (.int c3), .val (.int (3 : Int32)), .val (.int (0 : Int32)), .val (.int ct), .val (.int cp), .val (.int (2048 : Int32)), .val (.int vd)] rfl (hb hby at_366) rfl rfl ?_
                      refine own_iload X388 hx 370 (hb hby at_368) rfl rfl ?_
                      have J398 : ∀ (ex : Int32) (hj399 : ex = if vd = 0 then 0 else (3 : Int32)), own_W p e below (own_K s room_1 (fun v h L => v = some (.int 1) ∧ Fr n0 L)) T385 (mkF m 379 #[.val (.int p0), .val (.int p1), .val (.int p2), .val (.int p3), .val (.int p4), .val (.int (1 : Int32)), .val (.int vr), .val (.int vt), .val (.int vf), .val (.ref a256), .val (.int c0), .val (.int c1), .val (.int c2), .val (.int c3), .val (.int (3 : Int32)), .val (.int (0 : Int32)), .val (.int ct), .val (.int cp), .val (.int (2048 : Int32)), .val (.int vd)] [(.int ex)]) := by
                        intro ex hj399
                        have hex := hj399
                        refine own_istore X388 hx 381 #[.val (.int p0), .val (.int p1), .val (.int p2), .val (.int p3), .val (.int p4), .val (.int (1 : Int32)), .val (.int vr), .val (.int vt), .val (.int vf), .val (.ref a256), .val (.int c0), .val (.int c1), .val (.int c2), .val (.int c3), .val (.int (3 : Int32)), .val (.int ex), .val (.int ct), .val (.int cp), .val (.int (2048 : Int32)), .val (.int vd)] rfl (hb hby at_379) rfl rfl ?_
                        refine own_aload X388 hx 383 (hb hby at_381) rfl rfl ?_
                        refine own_iload X388 hx 385 (hb hby at_383) rfl rfl ?_
                        refine own_iload X388 hx 387 (hb hby at_385) rfl rfl ?_
                        refine own_callS X388 hx hZ hown e389 (y := (⟨"com/example/gentle_indent/gentleindent/util/Utf8", "sequenceLength", "([BII)I"⟩ : MethodName)) (argsL := [(.ref a256), (.int (1 : Int32)), (.int vt)]) (rest := []) 390 (rm2_1 l Z a0 hw a256 vt fy h387 n0 Z391 (by omega) f392) (hw _ (List.mem_of_getElem? (i := 1) rfl)) (hw _ (List.mem_of_getElem? (i := 2) rfl)) (hw _ (List.mem_of_getElem? (i := 3) rfl)) (hw _ (List.mem_of_getElem? (i := 4) rfl)) (by decide) (by rw [hml]; rfl) (lenOf (by decide +kernel : parseMethodDescriptor "([BII)I" = some ⟨[(.array .byte), .int, .int], some .int⟩) rfl) rfl (hb hby at_387) rfl (W := 0) rfl (by decide) (by decide) (by decide) (by decide) (fun r400 T401 L402 X403 q404 => ?_)
                        obtain ⟨rr, rfl, hrr, N405q, e406⟩ := q404
                        have N405 := Fr.app N390 N405q
                        rw [hf0, hf1, hf2, hf3, show vt.toInt - 1 = vr.toInt from by omega] at hrr
                        show own_W p e below _ T401 (mkF m 390 #[.val (.int p0), .val (.int p1), .val (.int p2), .val (.int p3), .val (.int p4), .val (.int (1 : Int32)), .val (.int vr), .val (.int vt), .val (.int vf), .val (.ref a256), .val (.int c0), .val (.int c1), .val (.int c2), .val (.int c3), .val (.int (3 : Int32)), .val (.int ex), .val (.int ct), .val (.int cp), .val (.int (2048 : Int32)), .val (.int vd)] [(.int rr)])
                        refine own_iload X403 hx 392 (hb hby at_390) rfl rfl ?_
                        refine own_icmp_ne X403 hx 399 395 (hb hby at_392) (by decide) (by decide) rfl (fun h407 => ?_) (fun h407 => ?_)
                        · exact absurd (by simp only [Int32.lt_iff_toInt_lt, own_k0, own_k1, own_k2, own_k3, own_k4, own_k128, own_k143, own_k144, own_k159, own_k160, own_k191, own_k192, own_k194, own_k223, own_k224, own_k237, own_k239, own_k240, own_k244, own_k248, own_k2048, own_k55296, own_k57343, own_k65536, own_k1114111] at h312 h313 h314 h375; have q := own_F3 c0.toInt c1.toInt c2.toInt c3.toInt vr.toInt ct cp (by omega) hc1 hc2 (by omega) hct hcp; rw [← hvd] at q; exact own_fin rr ex vd (3 : Int32) 3 _ hrr q hex rfl) h407
                        · show own_W p e below _ T401 (mkF m 395 #[.val (.int p0), .val (.int p1), .val (.int p2), .val (.int p3), .val (.int p4), .val (.int (1 : Int32)), .val (.int vr), .val (.int vt), .val (.int vf), .val (.ref a256), .val (.int c0), .val (.int c1), .val (.int c2), .val (.int c3), .val (.int (3 : Int32)), .val (.int ex), .val (.int ct), .val (.int cp), .val (.int (2048 : Int32)), .val (.int vd)] [])
                          refine own_iconst X403 hx 396 (1 : Int32) (by decide) (hb hby at_395) rfl ?_
                          refine own_goto X403 hx 400 (hb hby at_396) (by decide) (by decide) ?_
                          exact own_retZ X403 hx (1 : Int32) (by decide) hret hlk (hb hby at_400) (by decide) (by decide) ⟨rfl, N405⟩
                      refine own_if_eq X388 hx 378 373 (hb hby at_370) (by decide) (by decide) rfl (fun h408 => ?_) (fun h408 => ?_)
                      · show own_W p e below _ T385 (mkF m 378 #[.val (.int p0), .val (.int p1), .val (.int p2), .val (.int p3), .val (.int p4), .val (.int (1 : Int32)), .val (.int vr), .val (.int vt), .val (.int vf), .val (.ref a256), .val (.int c0), .val (.int c1), .val (.int c2), .val (.int c3), .val (.int (3 : Int32)), .val (.int (0 : Int32)), .val (.int ct), .val (.int cp), .val (.int (2048 : Int32)), .val (.int vd)] [])
                        refine own_iconst X388 hx 379 (0 : Int32) (by decide) (hb hby at_378) rfl ?_
                        exact J398 (0 : Int32) (by rw [if_pos h408])
                      · show own_W p e below _ T385 (mkF m 373 #[.val (.int p0), .val (.int p1), .val (.int p2), .val (.int p3), .val (.int p4), .val (.int (1 : Int32)), .val (.int vr), .val (.int vt), .val (.int vf), .val (.ref a256), .val (.int c0), .val (.int c1), .val (.int c2), .val (.int c3), .val (.int (3 : Int32)), .val (.int (0 : Int32)), .val (.int ct), .val (.int cp), .val (.int (2048 : Int32)), .val (.int vd)] [])
                        refine own_iload X388 hx 375 (hb hby at_373) rfl rfl ?_
                        refine own_goto X388 hx 379 (hb hby at_375) (by decide) (by decide) ?_
                        exact J398 (3 : Int32) (by rw [if_neg h408])
                    refine own_if_eq X388 hx 365 333 (hb hby at_330) (by decide) (by decide) rfl (fun h409 => ?_) (fun h409 => ?_)
                    · show own_W p e below _ T385 (mkF m 365 #[.val (.int p0), .val (.int p1), .val (.int p2), .val (.int p3), .val (.int p4), .val (.int (1 : Int32)), .val (.int vr), .val (.int vt), .val (.int vf), .val (.ref a256), .val (.int c0), .val (.int c1), .val (.int c2), .val (.int c3), .val (.int (3 : Int32)), .val (.int (0 : Int32)), .val (.int ct), .val (.int cp), .val (.int (2048 : Int32)), .unset] [])
                      refine own_iconst X388 hx 366 (0 : Int32) (by decide) (hb hby at_365) rfl ?_
                      exact J396 (0 : Int32) (by unfold own_vd; rw [if_pos h409])
                    · show own_W p e below _ T385 (mkF m 333 #[.val (.int p0), .val (.int p1), .val (.int p2), .val (.int p3), .val (.int p4), .val (.int (1 : Int32)), .val (.int vr), .val (.int vt), .val (.int vf), .val (.ref a256), .val (.int c0), .val (.int c1), .val (.int c2), .val (.int c3), .val (.int (3 : Int32)), .val (.int (0 : Int32)), .val (.int ct), .val (.int cp), .val (.int (2048 : Int32)), .unset] [])
                      refine own_iload X388 hx 335 (hb hby at_333) rfl rfl ?_
                      refine own_iload X388 hx 337 (hb hby at_335) rfl rfl ?_
                      refine own_icmp_lt X388 hx 365 340 (hb hby at_337) (by decide) (by decide) rfl (fun h410 => ?_) (fun h410 => ?_)
                      · show own_W p e below _ T385 (mkF m 365 #[.val (.int p0), .val (.int p1), .val (.int p2), .val (.int p3), .val (.int p4), .val (.int (1 : Int32)), .val (.int vr), .val (.int vt), .val (.int vf), .val (.ref a256), .val (.int c0), .val (.int c1), .val (.int c2), .val (.int c3), .val (.int (3 : Int32)), .val (.int (0 : Int32)), .val (.int ct), .val (.int cp), .val (.int (2048 : Int32)), .unset] [])
                        refine own_iconst X388 hx 366 (0 : Int32) (by decide) (hb hby at_365) rfl ?_
                        exact J396 (0 : Int32) (by unfold own_vd; rw [if_neg h409, if_pos h410])
                      · show own_W p e below _ T385 (mkF m 340 #[.val (.int p0), .val (.int p1), .val (.int p2), .val (.int p3), .val (.int p4), .val (.int (1 : Int32)), .val (.int vr), .val (.int vt), .val (.int vf), .val (.ref a256), .val (.int c0), .val (.int c1), .val (.int c2), .val (.int c3), .val (.int (3 : Int32)), .val (.int (0 : Int32)), .val (.int ct), .val (.int cp), .val (.int (2048 : Int32)), .unset] [])
                        refine own_iload X388 hx 342 (hb hby at_340) rfl rfl ?_
                        refine own_ldc X388 hx hZ hown 344 (hw _ (List.mem_of_getElem? (i := 10) rfl)) (hb hby at_342) rfl ?_
                        refine own_icmp_gt X388 hx 365 347 (hb hby at_344) (by decide) (by decide) rfl (fun h411 => ?_) (fun h411 => ?_)
                        · show own_W p e below _ T385 (mkF m 365 #[.val (.int p0), .val (.int p1), .val (.int p2), .val (.int p3), .val (.int p4), .val (.int (1 : Int32)), .val (.int vr), .val (.int vt), .val (.int vf), .val (.ref a256), .val (.int c0), .val (.int c1), .val (.int c2), .val (.int c3), .val (.int (3 : Int32)), .val (.int (0 : Int32)), .val (.int ct), .val (.int cp), .val (.int (2048 : Int32)), .unset] [])
                          refine own_iconst X388 hx 366 (0 : Int32) (by decide) (hb hby at_365) rfl ?_
                          exact J396 (0 : Int32) (by unfold own_vd; rw [if_neg h409, if_neg h410, if_pos h411])
                        · show own_W p e below _ T385 (mkF m 347 #[.val (.int p0), .val (.int p1), .val (.int p2), .val (.int p3), .val (.int p4), .val (.int (1 : Int32)), .val (.int vr), .val (.int vt), .val (.int vf), .val (.ref a256), .val (.int c0), .val (.int c1), .val (.int c2), .val (.int c3), .val (.int (3 : Int32)), .val (.int (0 : Int32)), .val (.int ct), .val (.int cp), .val (.int (2048 : Int32)), .unset] [])
                          refine own_iload X388 hx 349 (hb hby at_347) rfl rfl ?_
                          refine own_ldc X388 hx hZ hown 351 (hw _ (List.mem_of_getElem? (i := 11) rfl)) (hb hby at_349) rfl ?_
                          refine own_icmp_lt X388 hx 361 354 (hb hby at_351) (by decide) (by decide) rfl (fun h412 => ?_) (fun h412 => ?_)
                          · show own_W p e below _ T385 (mkF m 361 #[.val (.int p0), .val (.int p1), .val (.int p2), .val (.int p3), .val (.int p4), .val (.int (1 : Int32)), .val (.int vr), .val (.int vt), .val (.int vf), .val (.ref a256), .val (.int c0), .val (.int c1), .val (.int c2), .val (.int c3), .val (.int (3 : Int32)), .val (.int (0 : Int32)), .val (.int ct), .val (.int cp), .val (.int (2048 : Int32)), .unset] [])
                            refine own_iconst X388 hx 362 (1 : Int32) (by decide) (hb hby at_361) rfl ?_
                            refine own_goto X388 hx 366 (hb hby at_362) (by decide) (by decide) ?_
                            exact J396 (1 : Int32) (by unfold own_vd; rw [if_neg h409, if_neg h410, if_neg h411, if_pos h412])
                          · show own_W p e below _ T385 (mkF m 354 #[.val (.int p0), .val (.int p1), .val (.int p2), .val (.int p3), .val (.int p4), .val (.int (1 : Int32)), .val (.int vr), .val (.int vt), .val (.int vf), .val (.ref a256), .val (.int c0), .val (.int c1), .val (.int c2), .val (.int c3), .val (.int (3 : Int32)), .val (.int (0 : Int32)), .val (.int ct), .val (.int cp), .val (.int (2048 : Int32)), .unset] [])
                            refine own_iload X388 hx 356 (hb hby at_354) rfl rfl ?_
                            refine own_ldc X388 hx hZ hown 358 (hw _ (List.mem_of_getElem? (i := 12) rfl)) (hb hby at_356) rfl ?_
                            refine own_icmp_le X388 hx 365 361 (hb hby at_358) (by decide) (by decide) rfl (fun h413 => ?_) (fun h413 => ?_)
                            · show own_W p e below _ T385 (mkF m 365 #[.val (.int p0), .val (.int p1), .val (.int p2), .val (.int p3), .val (.int p4), .val (.int (1 : Int32)), .val (.int vr), .val (.int vt), .val (.int vf), .val (.ref a256), .val (.int c0), .val (.int c1), .val (.int c2), .val (.int c3), .val (.int (3 : Int32)), .val (.int (0 : Int32)), .val (.int ct), .val (.int cp), .val (.int (2048 : Int32)), .unset] [])
                              refine own_iconst X388 hx 366 (0 : Int32) (by decide) (hb hby at_365) rfl ?_
                              exact J396 (0 : Int32) (by unfold own_vd; rw [if_neg h409, if_neg h410, if_neg h411, if_neg h412, if_neg h413])
                            · show own_W p e below _ T385 (mkF m 361 #[.val (.int p0), .val (.int p1), .val (.int p2), .val (.int p3), .val (.int p4), .val (.int (1 : Int32)), .val (.int vr), .val (.int vt), .val (.int vf), .val (.ref a256), .val (.int c0), .val (.int c1), .val (.int c2), .val (.int c3), .val (.int (3 : Int32)), .val (.int (0 : Int32)), .val (.int ct), .val (.int cp), .val (.int (2048 : Int32)), .unset] [])
                              refine own_iconst X388 hx 362 (1 : Int32) (by decide) (hb hby at_361) rfl ?_
                              refine own_goto X388 hx 366 (hb hby at_362) (by decide) (by decide) ?_
                              exact J396 (1 : Int32) (by unfold own_vd; rw [if_neg h409, if_neg h410, if_neg h411, if_neg h412, if_pos h413])
                · exact absurd h394 (by decide)
              refine own_iload X306 hx 180 (hb hby at_178) rfl rfl ?_
              refine own_callS X306 hx hZ hown e307 (y := (⟨"com/example/gentle_indent/gentleindent/util/Utf8SequenceLengthPinLaw", "isCont", "(I)Z"⟩ : MethodName)) (argsL := [(.int c1)]) (rest := []) 183 (rm1 l Z a0 hw c1 h305 n0 Z310) (hw _ (List.mem_of_getElem? (i := 5) rfl)) (hw _ (List.mem_of_getElem? (i := 6) rfl)) (hw _ (List.mem_of_getElem? (i := 7) rfl)) (hw _ (List.mem_of_getElem? (i := 8) rfl)) (by decide) (by rw [hml]; rfl) (lenOf (by decide +kernel : parseMethodDescriptor "(I)Z" = some ⟨[.int], some .boolean⟩) rfl) rfl (hb hby at_180) rfl (W := 0) rfl (by decide) (by decide) (by decide) (by decide) (fun r414 T415 L416 X417 q418 => ?_)
              obtain ⟨rfl, N419q, e420⟩ := q418
              have N419 := Fr.app N311 N419q
              show own_W p e below _ T415 (mkF m 183 #[.val (.int p0), .val (.int p1), .val (.int p2), .val (.int p3), .val (.int p4), .val (.int (1 : Int32)), .val (.int vr), .val (.int vt), .val (.int vf), .val (.ref a256), .val (.int c0), .val (.int c1), .val (.int c2), .val (.int c3), .val (.int (3 : Int32)), .val (.int (0 : Int32)), .unset, .unset, .unset, .unset] [(.int (own_isCont c1))])
              refine own_if_eq X417 hx 218 186 (hb hby at_183) (by decide) (by decide) rfl (fun h421 => ?_) (fun h421 => ?_)
              · show own_W p e below _ T415 (mkF m 218 #[.val (.int p0), .val (.int p1), .val (.int p2), .val (.int p3), .val (.int p4), .val (.int (1 : Int32)), .val (.int vr), .val (.int vt), .val (.int vf), .val (.ref a256), .val (.int c0), .val (.int c1), .val (.int c2), .val (.int c3), .val (.int (3 : Int32)), .val (.int (0 : Int32)), .unset, .unset, .unset, .unset] [])
                refine own_iconst X417 hx 219 (0 : Int32) (by decide) (hb hby at_218) rfl ?_
                exact J384 (0 : Int32) T415 _ _ fz X417 e420 N419 Z310 f309 (⟨rfl, Or.inr ⟨rfl, fun u => own_cF c1 hc1 h421 u.1⟩⟩)
              · show own_W p e below _ T415 (mkF m 186 #[.val (.int p0), .val (.int p1), .val (.int p2), .val (.int p3), .val (.int p4), .val (.int (1 : Int32)), .val (.int vr), .val (.int vt), .val (.int vf), .val (.ref a256), .val (.int c0), .val (.int c1), .val (.int c2), .val (.int c3), .val (.int (3 : Int32)), .val (.int (0 : Int32)), .unset, .unset, .unset, .unset] [])
                refine own_iload X417 hx 188 (hb hby at_186) rfl rfl ?_
                refine own_iconst X417 hx 189 (3 : Int32) (by decide) (hb hby at_188) rfl ?_
                refine own_icmp_lt X417 hx 200 192 (hb hby at_189) (by decide) (by decide) rfl (fun h422 => ?_) (fun h422 => ?_)
                · exact absurd h422 (by decide)
                · show own_W p e below _ T415 (mkF m 192 #[.val (.int p0), .val (.int p1), .val (.int p2), .val (.int p3), .val (.int p4), .val (.int (1 : Int32)), .val (.int vr), .val (.int vt), .val (.int vf), .val (.ref a256), .val (.int c0), .val (.int c1), .val (.int c2), .val (.int c3), .val (.int (3 : Int32)), .val (.int (0 : Int32)), .unset, .unset, .unset, .unset] [])
                  refine own_iload X417 hx 194 (hb hby at_192) rfl rfl ?_
                  refine own_callS X417 hx hZ hown e420 (y := (⟨"com/example/gentle_indent/gentleindent/util/Utf8SequenceLengthPinLaw", "isCont", "(I)Z"⟩ : MethodName)) (argsL := [(.int c2)]) (rest := []) 197 (rm1 l Z a0 hw c2 h305 n0 Z310) (hw _ (List.mem_of_getElem? (i := 5) rfl)) (hw _ (List.mem_of_getElem? (i := 6) rfl)) (hw _ (List.mem_of_getElem? (i := 7) rfl)) (hw _ (List.mem_of_getElem? (i := 8) rfl)) (by decide) (by rw [hml]; rfl) (lenOf (by decide +kernel : parseMethodDescriptor "(I)Z" = some ⟨[.int], some .boolean⟩) rfl) rfl (hb hby at_194) rfl (W := 0) rfl (by decide) (by decide) (by decide) (by decide) (fun r423 T424 L425 X426 q427 => ?_)
                  obtain ⟨rfl, N428q, e429⟩ := q427
                  have N428 := Fr.app N419 N428q
                  show own_W p e below _ T424 (mkF m 197 #[.val (.int p0), .val (.int p1), .val (.int p2), .val (.int p3), .val (.int p4), .val (.int (1 : Int32)), .val (.int vr), .val (.int vt), .val (.int vf), .val (.ref a256), .val (.int c0), .val (.int c1), .val (.int c2), .val (.int c3), .val (.int (3 : Int32)), .val (.int (0 : Int32)), .unset, .unset, .unset, .unset] [(.int (own_isCont c2))])
                  refine own_if_eq X426 hx 218 200 (hb hby at_197) (by decide) (by decide) rfl (fun h430 => ?_) (fun h430 => ?_)
                  · show own_W p e below _ T424 (mkF m 218 #[.val (.int p0), .val (.int p1), .val (.int p2), .val (.int p3), .val (.int p4), .val (.int (1 : Int32)), .val (.int vr), .val (.int vt), .val (.int vf), .val (.ref a256), .val (.int c0), .val (.int c1), .val (.int c2), .val (.int c3), .val (.int (3 : Int32)), .val (.int (0 : Int32)), .unset, .unset, .unset, .unset] [])
                    refine own_iconst X426 hx 219 (0 : Int32) (by decide) (hb hby at_218) rfl ?_
                    exact J384 (0 : Int32) T424 _ _ fz X426 e429 N428 Z310 f309 (⟨rfl, Or.inr ⟨rfl, fun u => own_cF c2 hc2 h430 u.2⟩⟩)
                  · show own_W p e below _ T424 (mkF m 200 #[.val (.int p0), .val (.int p1), .val (.int p2), .val (.int p3), .val (.int p4), .val (.int (1 : Int32)), .val (.int vr), .val (.int vt), .val (.int vf), .val (.ref a256), .val (.int c0), .val (.int c1), .val (.int c2), .val (.int c3), .val (.int (3 : Int32)), .val (.int (0 : Int32)), .unset, .unset, .unset, .unset] [])
                    refine own_iload X426 hx 202 (hb hby at_200) rfl rfl ?_
                    refine own_iconst X426 hx 203 (4 : Int32) (by decide) (hb hby at_202) rfl ?_
                    refine own_icmp_lt X426 hx 214 206 (hb hby at_203) (by decide) (by decide) rfl (fun h431 => ?_) (fun h431 => ?_)
                    · show own_W p e below _ T424 (mkF m 214 #[.val (.int p0), .val (.int p1), .val (.int p2), .val (.int p3), .val (.int p4), .val (.int (1 : Int32)), .val (.int vr), .val (.int vt), .val (.int vf), .val (.ref a256), .val (.int c0), .val (.int c1), .val (.int c2), .val (.int c3), .val (.int (3 : Int32)), .val (.int (0 : Int32)), .unset, .unset, .unset, .unset] [])
                      refine own_iconst X426 hx 215 (1 : Int32) (by decide) (hb hby at_214) rfl ?_
                      refine own_goto X426 hx 219 (hb hby at_215) (by decide) (by decide) ?_
                      exact J384 (1 : Int32) T424 _ _ fz X426 e429 N428 Z310 f309 (⟨rfl, Or.inl ⟨rfl, ⟨own_cT c1 hc1 h421, own_cT c2 hc2 h430⟩⟩⟩)
                    · exact absurd h431 (by decide)
      · show own_W p e below _ T304 (mkF m 132 #[.val (.int p0), .val (.int p1), .val (.int p2), .val (.int p3), .val (.int p4), .val (.int (1 : Int32)), .val (.int vr), .val (.int vt), .val (.int vf), .val (.ref a256), .val (.int c0), .val (.int c1), .val (.int c2), .val (.int c3), .unset, .unset, .unset, .unset, .unset, .unset] [])
        refine own_iconst X306 hx 133 (4 : Int32) (by decide) (hb hby at_132) rfl ?_
        refine own_goto X306 hx 161 (hb hby at_133) (by decide) (by decide) ?_
        refine own_istore X306 hx 163 #[.val (.int p0), .val (.int p1), .val (.int p2), .val (.int p3), .val (.int p4), .val (.int (1 : Int32)), .val (.int vr), .val (.int vt), .val (.int vf), .val (.ref a256), .val (.int c0), .val (.int c1), .val (.int c2), .val (.int c3), .val (.int (4 : Int32)), .unset, .unset, .unset, .unset, .unset] rfl (hb hby at_161) rfl rfl ?_
        refine own_iconst X306 hx 164 (0 : Int32) (by decide) (hb hby at_163) rfl ?_
        refine own_istore X306 hx 166 #[.val (.int p0), .val (.int p1), .val (.int p2), .val (.int p3), .val (.int p4), .val (.int (1 : Int32)), .val (.int vr), .val (.int vt), .val (.int vf), .val (.ref a256), .val (.int c0), .val (.int c1), .val (.int c2), .val (.int c3), .val (.int (4 : Int32)), .val (.int (0 : Int32)), .unset, .unset, .unset, .unset] rfl (hb hby at_164) rfl rfl ?_
        refine own_iload X306 hx 168 (hb hby at_166) rfl rfl ?_
        refine own_if_eq X306 hx 381 171 (hb hby at_168) (by decide) (by decide) rfl (fun h432 => ?_) (fun h432 => ?_)
        · exact absurd h432 (by decide)
        · show own_W p e below _ T304 (mkF m 171 #[.val (.int p0), .val (.int p1), .val (.int p2), .val (.int p3), .val (.int p4), .val (.int (1 : Int32)), .val (.int vr), .val (.int vt), .val (.int vf), .val (.ref a256), .val (.int c0), .val (.int c1), .val (.int c2), .val (.int c3), .val (.int (4 : Int32)), .val (.int (0 : Int32)), .unset, .unset, .unset, .unset] [])
          refine own_iload X306 hx 173 (hb hby at_171) rfl rfl ?_
          refine own_iload X306 hx 175 (hb hby at_173) rfl rfl ?_
          refine own_icmp_lt X306 hx 381 178 (hb hby at_175) (by decide) (by decide) rfl (fun h433 => ?_) (fun h433 => ?_)
          · show own_W p e below _ T304 (mkF m 381 #[.val (.int p0), .val (.int p1), .val (.int p2), .val (.int p3), .val (.int p4), .val (.int (1 : Int32)), .val (.int vr), .val (.int vt), .val (.int vf), .val (.ref a256), .val (.int c0), .val (.int c1), .val (.int c2), .val (.int c3), .val (.int (4 : Int32)), .val (.int (0 : Int32)), .unset, .unset, .unset, .unset] [])
            refine own_aload X306 hx 383 (hb hby at_381) rfl rfl ?_
            refine own_iload X306 hx 385 (hb hby at_383) rfl rfl ?_
            refine own_iload X306 hx 387 (hb hby at_385) rfl rfl ?_
            refine own_callS X306 hx hZ hown e307 (y := (⟨"com/example/gentle_indent/gentleindent/util/Utf8", "sequenceLength", "([BII)I"⟩ : MethodName)) (argsL := [(.ref a256), (.int (1 : Int32)), (.int vt)]) (rest := []) 390 (rm2_1 l Z a0 hw a256 vt fz h305 n0 Z310 (by omega) f309) (hw _ (List.mem_of_getElem? (i := 1) rfl)) (hw _ (List.mem_of_getElem? (i := 2) rfl)) (hw _ (List.mem_of_getElem? (i := 3) rfl)) (hw _ (List.mem_of_getElem? (i := 4) rfl)) (by decide) (by rw [hml]; rfl) (lenOf (by decide +kernel : parseMethodDescriptor "([BII)I" = some ⟨[(.array .byte), .int, .int], some .int⟩) rfl) rfl (hb hby at_387) rfl (W := 0) rfl (by decide) (by decide) (by decide) (by decide) (fun r434 T435 L436 X437 q438 => ?_)
            obtain ⟨rr, rfl, hrr, N439q, e440⟩ := q438
            have N439 := Fr.app N311 N439q
            rw [hf0, hf1, hf2, hf3, show vt.toInt - 1 = vr.toInt from by omega] at hrr
            show own_W p e below _ T435 (mkF m 390 #[.val (.int p0), .val (.int p1), .val (.int p2), .val (.int p3), .val (.int p4), .val (.int (1 : Int32)), .val (.int vr), .val (.int vt), .val (.int vf), .val (.ref a256), .val (.int c0), .val (.int c1), .val (.int c2), .val (.int c3), .val (.int (4 : Int32)), .val (.int (0 : Int32)), .unset, .unset, .unset, .unset] [(.int rr)])
            refine own_iload X437 hx 392 (hb hby at_390) rfl rfl ?_
            refine own_icmp_ne X437 hx 399 395 (hb hby at_392) (by decide) (by decide) rfl (fun h441 => ?_) (fun h441 => ?_)
            · exact absurd (by rw [← Int32.toInt_inj, hrr]; simp only [Int32.lt_iff_toInt_lt, own_k0, own_k1, own_k2, own_k3, own_k4, own_k128, own_k143, own_k144, own_k159, own_k160, own_k191, own_k192, own_k194, own_k223, own_k224, own_k237, own_k239, own_k240, own_k244, own_k248, own_k2048, own_k55296, own_k57343, own_k65536, own_k1114111] at h312 h313 h433; exact (own_F0 _ _ _ _ _ (by omega)).trans rfl) h441
            · show own_W p e below _ T435 (mkF m 395 #[.val (.int p0), .val (.int p1), .val (.int p2), .val (.int p3), .val (.int p4), .val (.int (1 : Int32)), .val (.int vr), .val (.int vt), .val (.int vf), .val (.ref a256), .val (.int c0), .val (.int c1), .val (.int c2), .val (.int c3), .val (.int (4 : Int32)), .val (.int (0 : Int32)), .unset, .unset, .unset, .unset] [])
              refine own_iconst X437 hx 396 (1 : Int32) (by decide) (hb hby at_395) rfl ?_
              refine own_goto X437 hx 400 (hb hby at_396) (by decide) (by decide) ?_
              exact own_retZ X437 hx (1 : Int32) (by decide) hret hlk (hb hby at_400) (by decide) (by decide) ⟨rfl, N439⟩
          · show own_W p e below _ T304 (mkF m 178 #[.val (.int p0), .val (.int p1), .val (.int p2), .val (.int p3), .val (.int p4), .val (.int (1 : Int32)), .val (.int vr), .val (.int vt), .val (.int vf), .val (.ref a256), .val (.int c0), .val (.int c1), .val (.int c2), .val (.int c3), .val (.int (4 : Int32)), .val (.int (0 : Int32)), .unset, .unset, .unset, .unset] [])
            have J442 : ∀ (ct : Int32) (T443 : State) (lc444 : List Loc) (h445 : Heap) (fy : Nat → Int32) (X446 : Stand p l e room_1 s m #[(.int p0), (.int p1), (.int p2), (.int p3), (.int p4)] below meth c T443 lc444 1 5) (e447 : T443.heap = h445) (N448 : Fr n0 lc444) (Z449 : n0 ≤ h445.size) (f450 : own_AI Z h445 a256 .byte 5 fy) (hj451 : fy = fz ∧ ((ct = 1 ∧ own_co c1.toInt ∧ own_co c2.toInt ∧ own_co c3.toInt) ∨ (ct = 0 ∧ ¬ (own_co c1.toInt ∧ own_co c2.toInt ∧ own_co c3.toInt)))), own_W p e below (own_K s room_1 (fun v h L => v = some (.int 1) ∧ Fr n0 L)) T443 (mkF m 219 #[.val (.int p0), .val (.int p1), .val (.int p2), .val (.int p3), .val (.int p4), .val (.int (1 : Int32)), .val (.int vr), .val (.int vt), .val (.int vf), .val (.ref a256), .val (.int c0), .val (.int c1), .val (.int c2), .val (.int c3), .val (.int (4 : Int32)), .val (.int (0 : Int32)), .unset, .unset, .unset, .unset] [(.int ct)]) := by
              intro ct T443 lc444 h445 fy X446 e447 N448 Z449 f450 hj451
              obtain ⟨rfl, hct⟩ := hj451
              refine own_istore X446 hx 221 #[.val (.int p0), .val (.int p1), .val (.int p2), .val (.int p3), .val (.int p4), .val (.int (1 : Int32)), .val (.int vr), .val (.int vt), .val (.int vf), .val (.ref a256), .val (.int c0), .val (.int c1), .val (.int c2), .val (.int c3), .val (.int (4 : Int32)), .val (.int (0 : Int32)), .val (.int ct), .unset, .unset, .unset] rfl (hb hby at_219) rfl rfl ?_
              refine own_iload X446 hx 223 (hb hby at_221) rfl rfl ?_
              refine own_iconst X446 hx 224 (2 : Int32) (by decide) (hb hby at_223) rfl ?_
              refine own_icmp_ne X446 hx 251 227 (hb hby at_224) (by decide) (by decide) rfl (fun h452 => ?_) (fun h452 => ?_)
              · show own_W p e below _ T443 (mkF m 251 #[.val (.int p0), .val (.int p1), .val (.int p2), .val (.int p3), .val (.int p4), .val (.int (1 : Int32)), .val (.int vr), .val (.int vt), .val (.int vf), .val (.ref a256), .val (.int c0), .val (.int c1), .val (.int c2), .val (.int c3), .val (.int (4 : Int32)), .val (.int (0 : Int32)), .val (.int ct), .unset, .unset, .unset] [])
                refine own_iload X446 hx 253 (hb hby at_251) rfl rfl ?_
                refine own_iconst X446 hx 254 (3 : Int32) (by decide) (hb hby at_253) rfl ?_
                refine own_icmp_ne X446 hx 290 257 (hb hby at_254) (by decide) (by decide) rfl (fun h453 => ?_) (fun h453 => ?_)
                · show own_W p e below _ T443 (mkF m 290 #[.val (.int p0), .val (.int p1), .val (.int p2), .val (.int p3), .val (.int p4), .val (.int (1 : Int32)), .val (.int vr), .val (.int vt), .val (.int vf), .val (.ref a256), .val (.int c0), .val (.int c1), .val (.int c2), .val (.int c3), .val (.int (4 : Int32)), .val (.int (0 : Int32)), .val (.int ct), .unset, .unset, .unset] [])
                  refine own_iload X446 hx 292 (hb hby at_290) rfl rfl ?_
                  refine own_bipush X446 hx 294 (7 : Int32) (by decide) (hb hby at_292) rfl ?_
                  refine own_iand X446 hx 295 (hb hby at_294) rfl ?_
                  refine own_bipush X446 hx 297 (18 : Int32) (by decide) (hb hby at_295) rfl ?_
                  refine own_ishl X446 hx 298 (hb hby at_297) rfl ?_
                  refine own_iload X446 hx 300 (hb hby at_298) rfl rfl ?_
                  refine own_bipush X446 hx 302 (63 : Int32) (by decide) (hb hby at_300) rfl ?_
                  refine own_iand X446 hx 303 (hb hby at_302) rfl ?_
                  refine own_bipush X446 hx 305 (12 : Int32) (by decide) (hb hby at_303) rfl ?_
                  refine own_ishl X446 hx 306 (hb hby at_305) rfl ?_
                  refine own_ior X446 hx 307 (hb hby at_306) rfl ?_
                  refine own_iload X446 hx 309 (hb hby at_307) rfl rfl ?_
                  refine own_bipush X446 hx 311 (63 : Int32) (by decide) (hb hby at_309) rfl ?_
                  refine own_iand X446 hx 312 (hb hby at_311) rfl ?_
                  refine own_bipush X446 hx 314 (6 : Int32) (by decide) (hb hby at_312) rfl ?_
                  refine own_ishl X446 hx 315 (hb hby at_314) rfl ?_
                  refine own_ior X446 hx 316 (hb hby at_315) rfl ?_
                  refine own_iload X446 hx 318 (hb hby at_316) rfl rfl ?_
                  refine own_bipush X446 hx 320 (63 : Int32) (by decide) (hb hby at_318) rfl ?_
                  refine own_iand X446 hx 321 (hb hby at_320) rfl ?_
                  refine own_ior X446 hx 322 (hb hby at_321) rfl ?_
                  obtain ⟨cp, e_cp⟩ : ∃ z : Int32, z = (((((c0 &&& (7 : Int32)) <<< ((18 : Int32) &&& 31)) ||| ((c1 &&& (63 : Int32)) <<< ((12 : Int32) &&& 31))) ||| ((c2 &&& (63 : Int32)) <<< ((6 : Int32) &&& 31))) ||| (c3 &&& (63 : Int32))) := ⟨_, rfl⟩
                  refine own_istore X446 hx 324 #[.val (.int p0), .val (.int p1), .val (.int p2), .val (.int p3), .val (.int p4), .val (.int (1 : Int32)), .val (.int vr), .val (.int vt), .val (.int vf), .val (.ref a256), .val (.int c0), .val (.int c1), .val (.int c2), .val (.int c3), .val (.int (4 : Int32)), .val (.int (0 : Int32)), .val (.int ct), .val (.int cp), .unset, .unset] e_cp (hb hby at_322) rfl rfl ?_
                  have hcp := own_cp4 c0 c1 c2 c3 cp e_cp
                  refine own_ldc X446 hx hZ hown 326 (hw _ (List.mem_of_getElem? (i := 9) rfl)) (hb hby at_324) rfl ?_
                  refine own_istore X446 hx 328 #[.val (.int p0), .val (.int p1), .val (.int p2), .val (.int p3), .val (.int p4), .val (.int (1 : Int32)), .val (.int vr), .val (.int vt), .val (.int vf), .val (.ref a256), .val (.int c0), .val (.int c1), .val (.int c2), .val (.int c3), .val (.int (4 : Int32)), .val (.int (0 : Int32)), .val (.int ct), .val (.int cp), .val (.int (65536 : Int32)), .unset] rfl (hb hby at_326) rfl rfl ?_
                  refine own_iload X446 hx 330 (hb hby at_328) rfl rfl ?_
                  have J454 : ∀ (vd : Int32) (hj455 : vd = own_vd ct cp (65536 : Int32)), own_W p e below (own_K s room_1 (fun v h L => v = some (.int 1) ∧ Fr n0 L)) T443 (mkF m 366 #[.val (.int p0), .val (.int p1), .val (.int p2), .val (.int p3), .val (.int p4), .val (.int (1 : Int32)), .val (.int vr), .val (.int vt), .val (.int vf), .val (.ref a256), .val (.int c0), .val (.int c1), .val (.int c2), .val (.int c3), .val (.int (4 : Int32)), .val (.int (0 : Int32)), .val (.int ct), .val (.int cp), .val (.int (65536 : Int32)), .unset] [(.int vd)]) := by
                    intro vd hj455
                    have hvd := hj455
                    refine own_istore X446 hx 368 #[.val (.int p0), .val (.int p1), .val (.int p2), .val (.int p3), .val (.int p4), .val (.int (1 : Int32)), .val (.int vr), .val (.int vt), .val (.int vf), .val (.ref a256), .val (.int c0), .val (.int c1), .val (.int c2), .val (.int c3), .val (.int (4 : Int32)), .val (.int (0 : Int32)), .val (.int ct), .val (.int cp), .val (.int (65536 : Int32)), .val (.int vd)] rfl (hb hby at_366) rfl rfl ?_
                    refine own_iload X446 hx 370 (hb hby at_368) rfl rfl ?_
                    have J456 : ∀ (ex : Int32) (hj457 : ex = if vd = 0 then 0 else (4 : Int32)), own_W p e below (own_K s room_1 (fun v h L => v = some (.int 1) ∧ Fr n0 L)) T443 (mkF m 379 #[.val (.int p0), .val (.int p1), .val (.int p2), .val (.int p3), .val (.int p4), .val (.int (1 : Int32)), .val (.int vr), .val (.int vt), .val (.int vf), .val (.ref a256), .val (.int c0), .val (.int c1), .val (.int c2), .val (.int c3), .val (.int (4 : Int32)), .val (.int (0 : Int32)), .val (.int ct), .val (.int cp), .val (.int (65536 : Int32)), .val (.int vd)] [(.int ex)]) := by
                      intro ex hj457
                      have hex := hj457
                      refine own_istore X446 hx 381 #[.val (.int p0), .val (.int p1), .val (.int p2), .val (.int p3), .val (.int p4), .val (.int (1 : Int32)), .val (.int vr), .val (.int vt), .val (.int vf), .val (.ref a256), .val (.int c0), .val (.int c1), .val (.int c2), .val (.int c3), .val (.int (4 : Int32)), .val (.int ex), .val (.int ct), .val (.int cp), .val (.int (65536 : Int32)), .val (.int vd)] rfl (hb hby at_379) rfl rfl ?_
                      refine own_aload X446 hx 383 (hb hby at_381) rfl rfl ?_
                      refine own_iload X446 hx 385 (hb hby at_383) rfl rfl ?_
                      refine own_iload X446 hx 387 (hb hby at_385) rfl rfl ?_
                      refine own_callS X446 hx hZ hown e447 (y := (⟨"com/example/gentle_indent/gentleindent/util/Utf8", "sequenceLength", "([BII)I"⟩ : MethodName)) (argsL := [(.ref a256), (.int (1 : Int32)), (.int vt)]) (rest := []) 390 (rm2_1 l Z a0 hw a256 vt fy h445 n0 Z449 (by omega) f450) (hw _ (List.mem_of_getElem? (i := 1) rfl)) (hw _ (List.mem_of_getElem? (i := 2) rfl)) (hw _ (List.mem_of_getElem? (i := 3) rfl)) (hw _ (List.mem_of_getElem? (i := 4) rfl)) (by decide) (by rw [hml]; rfl) (lenOf (by decide +kernel : parseMethodDescriptor "([BII)I" = some ⟨[(.array .byte), .int, .int], some .int⟩) rfl) rfl (hb hby at_387) rfl (W := 0) rfl (by decide) (by decide) (by decide) (by decide) (fun r458 T459 L460 X461 q462 => ?_)
                      obtain ⟨rr, rfl, hrr, N463q, e464⟩ := q462
                      have N463 := Fr.app N448 N463q
                      rw [hf0, hf1, hf2, hf3, show vt.toInt - 1 = vr.toInt from by omega] at hrr
                      show own_W p e below _ T459 (mkF m 390 #[.val (.int p0), .val (.int p1), .val (.int p2), .val (.int p3), .val (.int p4), .val (.int (1 : Int32)), .val (.int vr), .val (.int vt), .val (.int vf), .val (.ref a256), .val (.int c0), .val (.int c1), .val (.int c2), .val (.int c3), .val (.int (4 : Int32)), .val (.int ex), .val (.int ct), .val (.int cp), .val (.int (65536 : Int32)), .val (.int vd)] [(.int rr)])
                      refine own_iload X461 hx 392 (hb hby at_390) rfl rfl ?_
                      refine own_icmp_ne X461 hx 399 395 (hb hby at_392) (by decide) (by decide) rfl (fun h465 => ?_) (fun h465 => ?_)
                      · exact absurd (by simp only [Int32.lt_iff_toInt_lt, own_k0, own_k1, own_k2, own_k3, own_k4, own_k128, own_k143, own_k144, own_k159, own_k160, own_k191, own_k192, own_k194, own_k223, own_k224, own_k237, own_k239, own_k240, own_k244, own_k248, own_k2048, own_k55296, own_k57343, own_k65536, own_k1114111] at h312 h313 h433; have q := own_F4 c0.toInt c1.toInt c2.toInt c3.toInt vr.toInt ct cp (by omega) hc1 hc2 hc3 (by omega) hct hcp; rw [← hvd] at q; exact own_fin rr ex vd (4 : Int32) 4 _ hrr q hex rfl) h465
                      · show own_W p e below _ T459 (mkF m 395 #[.val (.int p0), .val (.int p1), .val (.int p2), .val (.int p3), .val (.int p4), .val (.int (1 : Int32)), .val (.int vr), .val (.int vt), .val (.int vf), .val (.ref a256), .val (.int c0), .val (.int c1), .val (.int c2), .val (.int c3), .val (.int (4 : Int32)), .val (.int ex), .val (.int ct), .val (.int cp), .val (.int (65536 : Int32)), .val (.int vd)] [])
                        refine own_iconst X461 hx 396 (1 : Int32) (by decide) (hb hby at_395) rfl ?_
                        refine own_goto X461 hx 400 (hb hby at_396) (by decide) (by decide) ?_
                        exact own_retZ X461 hx (1 : Int32) (by decide) hret hlk (hb hby at_400) (by decide) (by decide) ⟨rfl, N463⟩
                    refine own_if_eq X446 hx 378 373 (hb hby at_370) (by decide) (by decide) rfl (fun h466 => ?_) (fun h466 => ?_)
                    · show own_W p e below _ T443 (mkF m 378 #[.val (.int p0), .val (.int p1), .val (.int p2), .val (.int p3), .val (.int p4), .val (.int (1 : Int32)), .val (.int vr), .val (.int vt), .val (.int vf), .val (.ref a256), .val (.int c0), .val (.int c1), .val (.int c2), .val (.int c3), .val (.int (4 : Int32)), .val (.int (0 : Int32)), .val (.int ct), .val (.int cp), .val (.int (65536 : Int32)), .val (.int vd)] [])
                      refine own_iconst X446 hx 379 (0 : Int32) (by decide) (hb hby at_378) rfl ?_
                      exact J456 (0 : Int32) (by rw [if_pos h466])
                    · show own_W p e below _ T443 (mkF m 373 #[.val (.int p0), .val (.int p1), .val (.int p2), .val (.int p3), .val (.int p4), .val (.int (1 : Int32)), .val (.int vr), .val (.int vt), .val (.int vf), .val (.ref a256), .val (.int c0), .val (.int c1), .val (.int c2), .val (.int c3), .val (.int (4 : Int32)), .val (.int (0 : Int32)), .val (.int ct), .val (.int cp), .val (.int (65536 : Int32)), .val (.int vd)] [])
                      refine own_iload X446 hx 375 (hb hby at_373) rfl rfl ?_
                      refine own_goto X446 hx 379 (hb hby at_375) (by decide) (by decide) ?_
                      exact J456 (4 : Int32) (by rw [if_neg h466])
                  refine own_if_eq X446 hx 365 333 (hb hby at_330) (by decide) (by decide) rfl (fun h467 => ?_) (fun h467 => ?_)
                  · show own_W p e below _ T443 (mkF m 365 #[.val (.int p0), .val (.int p1), .val (.int p2), .val (.int p3), .val (.int p4), .val (.int (1 : Int32)), .val (.int vr), .val (.int vt), .val (.int vf), .val (.ref a256), .val (.int c0), .val (.int c1), .val (.int c2), .val (.int c3), .val (.int (4 : Int32)), .val (.int (0 : Int32)), .val (.int ct), .val (.int cp), .val (.int (65536 : Int32)), .unset] [])
                    refine own_iconst X446 hx 366 (0 : Int32) (by decide) (hb hby at_365) rfl ?_
                    exact J454 (0 : Int32) (by unfold own_vd; rw [if_pos h467])
                  · show own_W p e below _ T443 (mkF m 333 #[.val (.int p0), .val (.int p1), .val (.int p2), .val (.int p3), .val (.int p4), .val (.int (1 : Int32)), .val (.int vr), .val (.int vt), .val (.int vf), .val (.ref a256), .val (.int c0), .val (.int c1), .val (.int c2), .val (.int c3), .val (.int (4 : Int32)), .val (.int (0 : Int32)), .val (.int ct), .val (.int cp), .val (.int (65536 : Int32)), .unset] [])
                    refine own_iload X446 hx 335 (hb hby at_333) rfl rfl ?_
                    refine own_iload X446 hx 337 (hb hby at_335) rfl rfl ?_
                    refine own_icmp_lt X446 hx 365 340 (hb hby at_337) (by decide) (by decide) rfl (fun h468 => ?_) (fun h468 => ?_)
                    · show own_W p e below _ T443 (mkF m 365 #[.val (.int p0), .val (.int p1), .val (.int p2), .val (.int p3), .val (.int p4), .val (.int (1 : Int32)), .val (.int vr), .val (.int vt), .val (.int vf), .val (.ref a256), .val (.int c0), .val (.int c1), .val (.int c2), .val (.int c3), .val (.int (4 : Int32)), .val (.int (0 : Int32)), .val (.int ct), .val (.int cp), .val (.int (65536 : Int32)), .unset] [])
                      refine own_iconst X446 hx 366 (0 : Int32) (by decide) (hb hby at_365) rfl ?_
                      exact J454 (0 : Int32) (by unfold own_vd; rw [if_neg h467, if_pos h468])
                    · show own_W p e below _ T443 (mkF m 340 #[.val (.int p0), .val (.int p1), .val (.int p2), .val (.int p3), .val (.int p4), .val (.int (1 : Int32)), .val (.int vr), .val (.int vt), .val (.int vf), .val (.ref a256), .val (.int c0), .val (.int c1), .val (.int c2), .val (.int c3), .val (.int (4 : Int32)), .val (.int (0 : Int32)), .val (.int ct), .val (.int cp), .val (.int (65536 : Int32)), .unset] [])
                      refine own_iload X446 hx 342 (hb hby at_340) rfl rfl ?_
                      refine own_ldc X446 hx hZ hown 344 (hw _ (List.mem_of_getElem? (i := 10) rfl)) (hb hby at_342) rfl ?_
                      refine own_icmp_gt X446 hx 365 347 (hb hby at_344) (by decide) (by decide) rfl (fun h469 => ?_) (fun h469 => ?_)
                      · show own_W p e below _ T443 (mkF m 365 #[.val (.int p0), .val (.int p1), .val (.int p2), .val (.int p3), .val (.int p4), .val (.int (1 : Int32)), .val (.int vr), .val (.int vt), .val (.int vf), .val (.ref a256), .val (.int c0), .val (.int c1), .val (.int c2), .val (.int c3), .val (.int (4 : Int32)), .val (.int (0 : Int32)), .val (.int ct), .val (.int cp), .val (.int (65536 : Int32)), .unset] [])
                        refine own_iconst X446 hx 366 (0 : Int32) (by decide) (hb hby at_365) rfl ?_
                        exact J454 (0 : Int32) (by unfold own_vd; rw [if_neg h467, if_neg h468, if_pos h469])
                      · show own_W p e below _ T443 (mkF m 347 #[.val (.int p0), .val (.int p1), .val (.int p2), .val (.int p3), .val (.int p4), .val (.int (1 : Int32)), .val (.int vr), .val (.int vt), .val (.int vf), .val (.ref a256), .val (.int c0), .val (.int c1), .val (.int c2), .val (.int c3), .val (.int (4 : Int32)), .val (.int (0 : Int32)), .val (.int ct), .val (.int cp), .val (.int (65536 : Int32)), .unset] [])
                        refine own_iload X446 hx 349 (hb hby at_347) rfl rfl ?_
                        refine own_ldc X446 hx hZ hown 351 (hw _ (List.mem_of_getElem? (i := 11) rfl)) (hb hby at_349) rfl ?_
                        refine own_icmp_lt X446 hx 361 354 (hb hby at_351) (by decide) (by decide) rfl (fun h470 => ?_) (fun h470 => ?_)
                        · show own_W p e below _ T443 (mkF m 361 #[.val (.int p0), .val (.int p1), .val (.int p2), .val (.int p3), .val (.int p4), .val (.int (1 : Int32)), .val (.int vr), .val (.int vt), .val (.int vf), .val (.ref a256), .val (.int c0), .val (.int c1), .val (.int c2), .val (.int c3), .val (.int (4 : Int32)), .val (.int (0 : Int32)), .val (.int ct), .val (.int cp), .val (.int (65536 : Int32)), .unset] [])
                          refine own_iconst X446 hx 362 (1 : Int32) (by decide) (hb hby at_361) rfl ?_
                          refine own_goto X446 hx 366 (hb hby at_362) (by decide) (by decide) ?_
                          exact J454 (1 : Int32) (by unfold own_vd; rw [if_neg h467, if_neg h468, if_neg h469, if_pos h470])
                        · show own_W p e below _ T443 (mkF m 354 #[.val (.int p0), .val (.int p1), .val (.int p2), .val (.int p3), .val (.int p4), .val (.int (1 : Int32)), .val (.int vr), .val (.int vt), .val (.int vf), .val (.ref a256), .val (.int c0), .val (.int c1), .val (.int c2), .val (.int c3), .val (.int (4 : Int32)), .val (.int (0 : Int32)), .val (.int ct), .val (.int cp), .val (.int (65536 : Int32)), .unset] [])
                          refine own_iload X446 hx 356 (hb hby at_354) rfl rfl ?_
                          refine own_ldc X446 hx hZ hown 358 (hw _ (List.mem_of_getElem? (i := 12) rfl)) (hb hby at_356) rfl ?_
                          refine own_icmp_le X446 hx 365 361 (hb hby at_358) (by decide) (by decide) rfl (fun h471 => ?_) (fun h471 => ?_)
                          · show own_W p e below _ T443 (mkF m 365 #[.val (.int p0), .val (.int p1), .val (.int p2), .val (.int p3), .val (.int p4), .val (.int (1 : Int32)), .val (.int vr), .val (.int vt), .val (.int vf), .val (.ref a256), .val (.int c0), .val (.int c1), .val (.int c2), .val (.int c3), .val (.int (4 : Int32)), .val (.int (0 : Int32)), .val (.int ct), .val (.int cp), .val (.int (65536 : Int32)), .unset] [])
                            refine own_iconst X446 hx 366 (0 : Int32) (by decide) (hb hby at_365) rfl ?_
                            exact J454 (0 : Int32) (by unfold own_vd; rw [if_neg h467, if_neg h468, if_neg h469, if_neg h470, if_neg h471])
                          · show own_W p e below _ T443 (mkF m 361 #[.val (.int p0), .val (.int p1), .val (.int p2), .val (.int p3), .val (.int p4), .val (.int (1 : Int32)), .val (.int vr), .val (.int vt), .val (.int vf), .val (.ref a256), .val (.int c0), .val (.int c1), .val (.int c2), .val (.int c3), .val (.int (4 : Int32)), .val (.int (0 : Int32)), .val (.int ct), .val (.int cp), .val (.int (65536 : Int32)), .unset] [])
                            refine own_iconst X446 hx 362 (1 : Int32) (by decide) (hb hby at_361) rfl ?_
                            refine own_goto X446 hx 366 (hb hby at_362) (by decide) (by decide) ?_
                            exact J454 (1 : Int32) (by unfold own_vd; rw [if_neg h467, if_neg h468, if_neg h469, if_neg h470, if_pos h471])
                · exact absurd h453 (by decide)
              · exact absurd h452 (by decide)
            refine own_iload X306 hx 180 (hb hby at_178) rfl rfl ?_
            refine own_callS X306 hx hZ hown e307 (y := (⟨"com/example/gentle_indent/gentleindent/util/Utf8SequenceLengthPinLaw", "isCont", "(I)Z"⟩ : MethodName)) (argsL := [(.int c1)]) (rest := []) 183 (rm1 l Z a0 hw c1 h305 n0 Z310) (hw _ (List.mem_of_getElem? (i := 5) rfl)) (hw _ (List.mem_of_getElem? (i := 6) rfl)) (hw _ (List.mem_of_getElem? (i := 7) rfl)) (hw _ (List.mem_of_getElem? (i := 8) rfl)) (by decide) (by rw [hml]; rfl) (lenOf (by decide +kernel : parseMethodDescriptor "(I)Z" = some ⟨[.int], some .boolean⟩) rfl) rfl (hb hby at_180) rfl (W := 0) rfl (by decide) (by decide) (by decide) (by decide) (fun r472 T473 L474 X475 q476 => ?_)
            obtain ⟨rfl, N477q, e478⟩ := q476
            have N477 := Fr.app N311 N477q
            show own_W p e below _ T473 (mkF m 183 #[.val (.int p0), .val (.int p1), .val (.int p2), .val (.int p3), .val (.int p4), .val (.int (1 : Int32)), .val (.int vr), .val (.int vt), .val (.int vf), .val (.ref a256), .val (.int c0), .val (.int c1), .val (.int c2), .val (.int c3), .val (.int (4 : Int32)), .val (.int (0 : Int32)), .unset, .unset, .unset, .unset] [(.int (own_isCont c1))])
            refine own_if_eq X475 hx 218 186 (hb hby at_183) (by decide) (by decide) rfl (fun h479 => ?_) (fun h479 => ?_)
            · show own_W p e below _ T473 (mkF m 218 #[.val (.int p0), .val (.int p1), .val (.int p2), .val (.int p3), .val (.int p4), .val (.int (1 : Int32)), .val (.int vr), .val (.int vt), .val (.int vf), .val (.ref a256), .val (.int c0), .val (.int c1), .val (.int c2), .val (.int c3), .val (.int (4 : Int32)), .val (.int (0 : Int32)), .unset, .unset, .unset, .unset] [])
              refine own_iconst X475 hx 219 (0 : Int32) (by decide) (hb hby at_218) rfl ?_
              exact J442 (0 : Int32) T473 _ _ fz X475 e478 N477 Z310 f309 (⟨rfl, Or.inr ⟨rfl, fun u => own_cF c1 hc1 h479 u.1⟩⟩)
            · show own_W p e below _ T473 (mkF m 186 #[.val (.int p0), .val (.int p1), .val (.int p2), .val (.int p3), .val (.int p4), .val (.int (1 : Int32)), .val (.int vr), .val (.int vt), .val (.int vf), .val (.ref a256), .val (.int c0), .val (.int c1), .val (.int c2), .val (.int c3), .val (.int (4 : Int32)), .val (.int (0 : Int32)), .unset, .unset, .unset, .unset] [])
              refine own_iload X475 hx 188 (hb hby at_186) rfl rfl ?_
              refine own_iconst X475 hx 189 (3 : Int32) (by decide) (hb hby at_188) rfl ?_
              refine own_icmp_lt X475 hx 200 192 (hb hby at_189) (by decide) (by decide) rfl (fun h480 => ?_) (fun h480 => ?_)
              · exact absurd h480 (by decide)
              · show own_W p e below _ T473 (mkF m 192 #[.val (.int p0), .val (.int p1), .val (.int p2), .val (.int p3), .val (.int p4), .val (.int (1 : Int32)), .val (.int vr), .val (.int vt), .val (.int vf), .val (.ref a256), .val (.int c0), .val (.int c1), .val (.int c2), .val (.int c3), .val (.int (4 : Int32)), .val (.int (0 : Int32)), .unset, .unset, .unset, .unset] [])
                refine own_iload X475 hx 194 (hb hby at_192) rfl rfl ?_
                refine own_callS X475 hx hZ hown e478 (y := (⟨"com/example/gentle_indent/gentleindent/util/Utf8SequenceLengthPinLaw", "isCont", "(I)Z"⟩ : MethodName)) (argsL := [(.int c2)]) (rest := []) 197 (rm1 l Z a0 hw c2 h305 n0 Z310) (hw _ (List.mem_of_getElem? (i := 5) rfl)) (hw _ (List.mem_of_getElem? (i := 6) rfl)) (hw _ (List.mem_of_getElem? (i := 7) rfl)) (hw _ (List.mem_of_getElem? (i := 8) rfl)) (by decide) (by rw [hml]; rfl) (lenOf (by decide +kernel : parseMethodDescriptor "(I)Z" = some ⟨[.int], some .boolean⟩) rfl) rfl (hb hby at_194) rfl (W := 0) rfl (by decide) (by decide) (by decide) (by decide) (fun r481 T482 L483 X484 q485 => ?_)
                obtain ⟨rfl, N486q, e487⟩ := q485
                have N486 := Fr.app N477 N486q
                show own_W p e below _ T482 (mkF m 197 #[.val (.int p0), .val (.int p1), .val (.int p2), .val (.int p3), .val (.int p4), .val (.int (1 : Int32)), .val (.int vr), .val (.int vt), .val (.int vf), .val (.ref a256), .val (.int c0), .val (.int c1), .val (.int c2), .val (.int c3), .val (.int (4 : Int32)), .val (.int (0 : Int32)), .unset, .unset, .unset, .unset] [(.int (own_isCont c2))])
                refine own_if_eq X484 hx 218 200 (hb hby at_197) (by decide) (by decide) rfl (fun h488 => ?_) (fun h488 => ?_)
                · show own_W p e below _ T482 (mkF m 218 #[.val (.int p0), .val (.int p1), .val (.int p2), .val (.int p3), .val (.int p4), .val (.int (1 : Int32)), .val (.int vr), .val (.int vt), .val (.int vf), .val (.ref a256), .val (.int c0), .val (.int c1), .val (.int c2), .val (.int c3), .val (.int (4 : Int32)), .val (.int (0 : Int32)), .unset, .unset, .unset, .unset] [])
                  refine own_iconst X484 hx 219 (0 : Int32) (by decide) (hb hby at_218) rfl ?_
                  exact J442 (0 : Int32) T482 _ _ fz X484 e487 N486 Z310 f309 (⟨rfl, Or.inr ⟨rfl, fun u => own_cF c2 hc2 h488 u.2.1⟩⟩)
                · show own_W p e below _ T482 (mkF m 200 #[.val (.int p0), .val (.int p1), .val (.int p2), .val (.int p3), .val (.int p4), .val (.int (1 : Int32)), .val (.int vr), .val (.int vt), .val (.int vf), .val (.ref a256), .val (.int c0), .val (.int c1), .val (.int c2), .val (.int c3), .val (.int (4 : Int32)), .val (.int (0 : Int32)), .unset, .unset, .unset, .unset] [])
                  refine own_iload X484 hx 202 (hb hby at_200) rfl rfl ?_
                  refine own_iconst X484 hx 203 (4 : Int32) (by decide) (hb hby at_202) rfl ?_
                  refine own_icmp_lt X484 hx 214 206 (hb hby at_203) (by decide) (by decide) rfl (fun h489 => ?_) (fun h489 => ?_)
                  · exact absurd h489 (by decide)
                  · show own_W p e below _ T482 (mkF m 206 #[.val (.int p0), .val (.int p1), .val (.int p2), .val (.int p3), .val (.int p4), .val (.int (1 : Int32)), .val (.int vr), .val (.int vt), .val (.int vf), .val (.ref a256), .val (.int c0), .val (.int c1), .val (.int c2), .val (.int c3), .val (.int (4 : Int32)), .val (.int (0 : Int32)), .unset, .unset, .unset, .unset] [])
                    refine own_iload X484 hx 208 (hb hby at_206) rfl rfl ?_
                    refine own_callS X484 hx hZ hown e487 (y := (⟨"com/example/gentle_indent/gentleindent/util/Utf8SequenceLengthPinLaw", "isCont", "(I)Z"⟩ : MethodName)) (argsL := [(.int c3)]) (rest := []) 211 (rm1 l Z a0 hw c3 h305 n0 Z310) (hw _ (List.mem_of_getElem? (i := 5) rfl)) (hw _ (List.mem_of_getElem? (i := 6) rfl)) (hw _ (List.mem_of_getElem? (i := 7) rfl)) (hw _ (List.mem_of_getElem? (i := 8) rfl)) (by decide) (by rw [hml]; rfl) (lenOf (by decide +kernel : parseMethodDescriptor "(I)Z" = some ⟨[.int], some .boolean⟩) rfl) rfl (hb hby at_208) rfl (W := 0) rfl (by decide) (by decide) (by decide) (by decide) (fun r490 T491 L492 X493 q494 => ?_)
                    obtain ⟨rfl, N495q, e496⟩ := q494
                    have N495 := Fr.app N486 N495q
                    show own_W p e below _ T491 (mkF m 211 #[.val (.int p0), .val (.int p1), .val (.int p2), .val (.int p3), .val (.int p4), .val (.int (1 : Int32)), .val (.int vr), .val (.int vt), .val (.int vf), .val (.ref a256), .val (.int c0), .val (.int c1), .val (.int c2), .val (.int c3), .val (.int (4 : Int32)), .val (.int (0 : Int32)), .unset, .unset, .unset, .unset] [(.int (own_isCont c3))])
                    refine own_if_eq X493 hx 218 214 (hb hby at_211) (by decide) (by decide) rfl (fun h497 => ?_) (fun h497 => ?_)
                    · show own_W p e below _ T491 (mkF m 218 #[.val (.int p0), .val (.int p1), .val (.int p2), .val (.int p3), .val (.int p4), .val (.int (1 : Int32)), .val (.int vr), .val (.int vt), .val (.int vf), .val (.ref a256), .val (.int c0), .val (.int c1), .val (.int c2), .val (.int c3), .val (.int (4 : Int32)), .val (.int (0 : Int32)), .unset, .unset, .unset, .unset] [])
                      refine own_iconst X493 hx 219 (0 : Int32) (by decide) (hb hby at_218) rfl ?_
                      exact J442 (0 : Int32) T491 _ _ fz X493 e496 N495 Z310 f309 (⟨rfl, Or.inr ⟨rfl, fun u => own_cF c3 hc3 h497 u.2.2⟩⟩)
                    · show own_W p e below _ T491 (mkF m 214 #[.val (.int p0), .val (.int p1), .val (.int p2), .val (.int p3), .val (.int p4), .val (.int (1 : Int32)), .val (.int vr), .val (.int vt), .val (.int vf), .val (.ref a256), .val (.int c0), .val (.int c1), .val (.int c2), .val (.int c3), .val (.int (4 : Int32)), .val (.int (0 : Int32)), .unset, .unset, .unset, .unset] [])
                      refine own_iconst X493 hx 215 (1 : Int32) (by decide) (hb hby at_214) rfl ?_
                      refine own_goto X493 hx 219 (hb hby at_215) (by decide) (by decide) ?_
                      exact J442 (1 : Int32) T491 _ _ fz X493 e496 N495 Z310 f309 (⟨rfl, Or.inl ⟨rfl, ⟨own_cT c1 hc1 h479, own_cT c2 hc2 h488, own_cT c3 hc3 h497⟩⟩⟩)
    · show own_W p e below _ T304 (mkF m 120 #[.val (.int p0), .val (.int p1), .val (.int p2), .val (.int p3), .val (.int p4), .val (.int (1 : Int32)), .val (.int vr), .val (.int vt), .val (.int vf), .val (.ref a256), .val (.int c0), .val (.int c1), .val (.int c2), .val (.int c3), .unset, .unset, .unset, .unset, .unset, .unset] [])
      refine own_iconst X306 hx 121 (0 : Int32) (by decide) (hb hby at_120) rfl ?_
      refine own_goto X306 hx 161 (hb hby at_121) (by decide) (by decide) ?_
      refine own_istore X306 hx 163 #[.val (.int p0), .val (.int p1), .val (.int p2), .val (.int p3), .val (.int p4), .val (.int (1 : Int32)), .val (.int vr), .val (.int vt), .val (.int vf), .val (.ref a256), .val (.int c0), .val (.int c1), .val (.int c2), .val (.int c3), .val (.int (0 : Int32)), .unset, .unset, .unset, .unset, .unset] rfl (hb hby at_161) rfl rfl ?_
      refine own_iconst X306 hx 164 (0 : Int32) (by decide) (hb hby at_163) rfl ?_
      refine own_istore X306 hx 166 #[.val (.int p0), .val (.int p1), .val (.int p2), .val (.int p3), .val (.int p4), .val (.int (1 : Int32)), .val (.int vr), .val (.int vt), .val (.int vf), .val (.ref a256), .val (.int c0), .val (.int c1), .val (.int c2), .val (.int c3), .val (.int (0 : Int32)), .val (.int (0 : Int32)), .unset, .unset, .unset, .unset] rfl (hb hby at_164) rfl rfl ?_
      refine own_iload X306 hx 168 (hb hby at_166) rfl rfl ?_
      refine own_if_eq X306 hx 381 171 (hb hby at_168) (by decide) (by decide) rfl (fun h498 => ?_) (fun h498 => ?_)
      · show own_W p e below _ T304 (mkF m 381 #[.val (.int p0), .val (.int p1), .val (.int p2), .val (.int p3), .val (.int p4), .val (.int (1 : Int32)), .val (.int vr), .val (.int vt), .val (.int vf), .val (.ref a256), .val (.int c0), .val (.int c1), .val (.int c2), .val (.int c3), .val (.int (0 : Int32)), .val (.int (0 : Int32)), .unset, .unset, .unset, .unset] [])
        refine own_aload X306 hx 383 (hb hby at_381) rfl rfl ?_
        refine own_iload X306 hx 385 (hb hby at_383) rfl rfl ?_
        refine own_iload X306 hx 387 (hb hby at_385) rfl rfl ?_
        refine own_callS X306 hx hZ hown e307 (y := (⟨"com/example/gentle_indent/gentleindent/util/Utf8", "sequenceLength", "([BII)I"⟩ : MethodName)) (argsL := [(.ref a256), (.int (1 : Int32)), (.int vt)]) (rest := []) 390 (rm2_1 l Z a0 hw a256 vt fz h305 n0 Z310 (by omega) f309) (hw _ (List.mem_of_getElem? (i := 1) rfl)) (hw _ (List.mem_of_getElem? (i := 2) rfl)) (hw _ (List.mem_of_getElem? (i := 3) rfl)) (hw _ (List.mem_of_getElem? (i := 4) rfl)) (by decide) (by rw [hml]; rfl) (lenOf (by decide +kernel : parseMethodDescriptor "([BII)I" = some ⟨[(.array .byte), .int, .int], some .int⟩) rfl) rfl (hb hby at_387) rfl (W := 0) rfl (by decide) (by decide) (by decide) (by decide) (fun r499 T500 L501 X502 q503 => ?_)
        obtain ⟨rr, rfl, hrr, N504q, e505⟩ := q503
        have N504 := Fr.app N311 N504q
        rw [hf0, hf1, hf2, hf3, show vt.toInt - 1 = vr.toInt from by omega] at hrr
        show own_W p e below _ T500 (mkF m 390 #[.val (.int p0), .val (.int p1), .val (.int p2), .val (.int p3), .val (.int p4), .val (.int (1 : Int32)), .val (.int vr), .val (.int vt), .val (.int vf), .val (.ref a256), .val (.int c0), .val (.int c1), .val (.int c2), .val (.int c3), .val (.int (0 : Int32)), .val (.int (0 : Int32)), .unset, .unset, .unset, .unset] [(.int rr)])
        refine own_iload X502 hx 392 (hb hby at_390) rfl rfl ?_
        refine own_icmp_ne X502 hx 399 395 (hb hby at_392) (by decide) (by decide) rfl (fun h506 => ?_) (fun h506 => ?_)
        · exact absurd (by rw [← Int32.toInt_inj, hrr]; simp only [Int32.lt_iff_toInt_lt, own_k0, own_k1, own_k2, own_k3, own_k4, own_k128, own_k143, own_k144, own_k159, own_k160, own_k191, own_k192, own_k194, own_k223, own_k224, own_k237, own_k239, own_k240, own_k244, own_k248, own_k2048, own_k55296, own_k57343, own_k65536, own_k1114111] at h312; exact (own_F0 _ _ _ _ _ (by omega)).trans rfl) h506
        · show own_W p e below _ T500 (mkF m 395 #[.val (.int p0), .val (.int p1), .val (.int p2), .val (.int p3), .val (.int p4), .val (.int (1 : Int32)), .val (.int vr), .val (.int vt), .val (.int vf), .val (.ref a256), .val (.int c0), .val (.int c1), .val (.int c2), .val (.int c3), .val (.int (0 : Int32)), .val (.int (0 : Int32)), .unset, .unset, .unset, .unset] [])
          refine own_iconst X502 hx 396 (1 : Int32) (by decide) (hb hby at_395) rfl ?_
          refine own_goto X502 hx 400 (hb hby at_396) (by decide) (by decide) ?_
          exact own_retZ X502 hx (1 : Int32) (by decide) hret hlk (hb hby at_400) (by decide) (by decide) ⟨rfl, N504⟩
      · exact absurd h498 (by decide)
set_option maxRecDepth 65536 in
set_option maxHeartbeats 40000000 in
theorem comes_1 {Post : Tables → Env → Array Value → State → Outcome → State → Prop} (hpost : ∀ tb e args s v u, (limb_1_1.after args s (.returned v) u = true ∧ limb_1_2.after args s (.returned v) u = true ∧ True) → FrameEnd s (.returned v) u (Jvm.fieldLocs frame_1_writes args s ++ Jvm.arrayLocs frame_1_arrays args s ++ Jvm.staticLocs frame_1_statics s) 16 128 → Post tb e args s (.returned v) u) :
    ArmFor flags0 classFile x code maxLocals ret World_1 tables_1 room_1 Calls_1 rest_1 Pre_1 Post := by
  intro l hfl _ _ p e ha hc hk s m args below hf hA hF happ hP
  obtain ⟨hcalls, hrest, hpre⟩ := hP
  obtain ⟨-, -, -, hnamed, -, -, -, hat⟩ := (Spec.applies_iff hf).mp happ
  obtain ⟨hg, hn⟩ := and_e (Cond.before_iff.mp (show (Jvm.Cond.and given_1 narrow_1).before args s = true from hpre))
  obtain ⟨g0, gr0⟩ := and_e hg
  obtain ⟨g1, gr1⟩ := and_e gr0
  obtain ⟨g2, gr2⟩ := and_e gr1
  obtain ⟨g3, gr3⟩ := and_e gr2
  obtain ⟨g4, gr4⟩ := and_e gr3
  obtain ⟨w0, w1, w2, w3, w4, rfl⟩ : ∃ w0 w1 w2 w3 w4 : Value, args = #[w0, w1, w2, w3, w4] := by
    have hs : args.size = 5 := by simpa [Cond.value, given_1] using g0
    obtain ⟨L⟩ := args
    match L, hs with
    | [w0, w1, w2, w3, w4], _ => exact ⟨w0, w1, w2, w3, w4, rfl⟩
  have hw := fun d (hd : d ∈ tables_1) => atoms_spec (ws := Jvm.Cond.code x code maxLocals ret :: tables_1) hat d (List.mem_cons_of_mem _ hd)
  obtain ⟨i0, ei0⟩ := is_v g1
  obtain rfl : w0 = (.int i0) := Option.some.inj ei0
  obtain ⟨i1, ei1⟩ := is_v g2
  obtain rfl : w1 = (.int i1) := Option.some.inj ei1
  obtain ⟨i2, ei2⟩ := is_v g3
  obtain rfl : w2 = (.int i2) := Option.some.inj ei2
  obtain ⟨i3, ei3⟩ := is_v g4
  obtain rfl : w3 = (.int i3) := Option.some.inj ei3
  obtain ⟨i4, ei4⟩ := is_v gr4
  obtain rfl : w4 = (.int i4) := Option.some.inj ei4
  obtain ⟨n, o, h1, h2, h3, _, L, rfl, ⟨rfl, N⟩, hq⟩ := rm0 l s _ hw i0 i1 i2 i3 i4 s.heap s.heap.size (Nat.le_refl _) p e ha hc hk s m _ below hf ((Spec.applies_iff_loose hf).mp happ).1 ⟨rfl, State.Warmed39.refl s, rfl⟩ trivial
  refine ⟨n, _, h1, h2, h3, hpost _ _ _ _ _ _ ⟨Cond.after_iff.mpr rfl, Cond.after_iff.mpr (eq_i res_at (Term.int_eval (1)) rfl), trivial⟩ ⟨hq.1, hq.2.1, (hq.2.2.sift fun y hy => Or.inr (N y hy)).mono (by decide) (by decide)⟩⟩
theorem main_1_1 : Claimed_1_1 := comes_1 fun _ _ _ _ _ _ h hF => ⟨h.1, hF⟩
theorem main_1_2 : Claimed_1_2 := comes_1 fun _ _ _ _ _ _ h hF => ⟨h.2.1, hF⟩
end Jvm.Pilot.@@N@@
namespace Jvm.Pilot.@@N@@
open Jvm Jvm.ClassFile Sem Op Lib Jvm.Free Jvm.Stand Jvm.Pilot.@@N@@.Jvm.D
/-! MADE BY PROGRAM (witnessworld.py) out of the Statement's table words and the real class files: 9 classes; the members and pool entries that the words name. The judged class is class 1, her method 2. -/
namespace start1
open Jvm.ClassFile
def u (s : String) : CpInfo := .utf8 (stringToUtf16 s)
/-- a pool by its gaps: so many unusable entries, then the entry; so many at the end -/
def gap : Nat → List CpInfo → List CpInfo
  | 0, r => r
  | n + 1, r => .unusable :: gap n r
def poolList (es : List (Nat × CpInfo)) (last : Nat) : List CpInfo := es.foldr (fun e r => gap e.1 (e.2 :: r)) (gap last [])
def pool (es : List (Nat × CpInfo)) (last : Nat) : Array CpInfo := ⟨poolList es last⟩
def fileOf (pool : Array CpInfo) (this : Nat) (attrs : Array Attribute := #[]) (ms : Array MethodInfo := #[]) (fl : Nat := 33) (sup : Nat := 0) (ifs : Array Nat := #[]) (fds : Array FieldInfo := #[]) : ClassFile where
  minorVersion := 0
  majorVersion := 65
  constantPool := pool
  accessFlags := fl
  thisClass := this
  superClass := sup
  interfaces := ifs
  fields := fds
  methods := ms
  attributes := attrs
def plain (name : String) (sup : Option ClassId) : Class where
  name := name
  kind := .ordinary
  loader := none
  accessFlags := 33
  super := sup
  interfaces := #[]
  cf := none
  fields := #[]
  methods := #[]
  instanceTypes := #[]
  staticTypes := #[]
  resolved := #[]
  callSites := []
  init := .initialized
  statics := none
  mirror := none

def pool0 : Array CpInfo := pool [(5, u "<init>"), (0, u "()V"), (1, .class_ 10), (1, u "java/lang/Object")] 113

def k0m0 : Method := { name := "<init>", desc := "()V", sig := { parameters := [], returnType := none }, accessFlags := 1, code := none }
/-- java/lang/Object -/
def k0 : Class := { plain "java/lang/Object" none with
  accessFlags := 33
  interfaces := #[]
  cf := some (fileOf pool0 8 #[] #[{ accessFlags := 1, nameIndex := 5, descriptorIndex := 6, attributes := #[] }] 33 0 #[] #[])
  fields := #[]
  methods := #[k0m0]
  instanceTypes := #[]
  staticTypes := #[]
  resolved := Array.replicate 124 none
  statics := none }

def pool1 : Array CpInfo := pool [(2, .class_ 4), (1, u "java/lang/Object"), (0, u "<init>"), (0, u "()V"), (0, .methodref 8 9), (0, .class_ 10), (0, .nameAndType 11 12), (0, u "com/example/gentle_indent/gentleindent/util/Utf8SequenceLengthPinLaw"), (0, u "isCont"), (0, u "(I)Z"), (0, .integer 65536), (0, .integer 1114111), (0, .integer 55296), (0, .integer 57343), (0, .methodref 18 19), (0, .class_ 20), (0, .nameAndType 21 22), (0, u "com/example/gentle_indent/gentleindent/util/Utf8"), (0, u "sequenceLength"), (0, u "([BII)I"), (3, u "law"), (0, u "(IIIII)Z")] 4

def k1m0 : Method := { name := "<init>", desc := "()V", sig := { parameters := [], returnType := none }, accessFlags := 2, code := none }
def k1c1 : Code := { maxStack := 2, maxLocals := 1, code := method_2_code, exceptionTable := #[], attributes := #[] }
def k1m1 : Method := { name := "isCont", desc := "(I)Z", sig := { parameters := [.int], returnType := some .boolean }, accessFlags := 10, code := some k1c1 }
def k1c2 : Code := { maxStack := 3, maxLocals := 20, code := code, exceptionTable := #[], attributes := #[] }
def k1m2 : Method := { name := "law", desc := "(IIIII)Z", sig := { parameters := [.int, .int, .int, .int, .int], returnType := some .boolean }, accessFlags := 9, code := some k1c2 }
/-- com/example/gentle_indent/gentleindent/util/Utf8SequenceLengthPinLaw -/
def k1 : Class := { plain "com/example/gentle_indent/gentleindent/util/Utf8SequenceLengthPinLaw" (some 0) with
  accessFlags := 49
  interfaces := #[]
  cf := some (fileOf pool1 8 #[] #[{ accessFlags := 2, nameIndex := 5, descriptorIndex := 6, attributes := #[] }, { accessFlags := 10, nameIndex := 11, descriptorIndex := 12, attributes := #[] }, { accessFlags := 9, nameIndex := 26, descriptorIndex := 27, attributes := #[] }] 49 2 #[] #[])
  fields := #[]
  methods := #[k1m0, k1m1, k1m2]
  instanceTypes := #[]
  staticTypes := #[]
  resolved := Array.replicate 32 none
  statics := none }

def pool2 : Array CpInfo := pool [(2, .class_ 4), (1, u "java/lang/Object"), (0, u "<init>"), (0, u "()V"), (0, .class_ 8), (0, u "com/example/gentle_indent/gentleindent/util/Utf8"), (0, u "LONGEST"), (0, u "I"), (4, u "sequenceLength"), (0, u "([BII)I")] 8

def k2m0 : Method := { name := "<init>", desc := "()V", sig := { parameters := [], returnType := none }, accessFlags := 2, code := none }
def k2c1 : Code := { maxStack := 3, maxLocals := 9, code := prog_84_method_2_code, exceptionTable := #[], attributes := #[] }
def k2m1 : Method := { name := "sequenceLength", desc := "([BII)I", sig := { parameters := [(.array .byte), .int, .int], returnType := some .int }, accessFlags := 9, code := some k2c1 }
/-- com/example/gentle_indent/gentleindent/util/Utf8 -/
def k2 : Class := { plain "com/example/gentle_indent/gentleindent/util/Utf8" (some 0) with
  accessFlags := 49
  interfaces := #[]
  cf := some (fileOf pool2 7 #[] #[{ accessFlags := 2, nameIndex := 5, descriptorIndex := 6, attributes := #[] }, { accessFlags := 9, nameIndex := 15, descriptorIndex := 16, attributes := #[] }] 49 2 #[] #[{ accessFlags := 24, nameIndex := 9, descriptorIndex := 10, attributes := #[] }])
  fields := #[{ name := "LONGEST", type := .int, accessFlags := 24, slot := 0, constantValue := 0 }]
  methods := #[k2m0, k2m1]
  instanceTypes := #[]
  staticTypes := #[.int]
  resolved := Array.replicate 25 none
  statics := none }

def pool3 : Array CpInfo := pool [(1, u "java/lang/Cloneable"), (0, .class_ 1), (0, u "java/lang/Object"), (0, .class_ 3)] 3

/-- java/lang/Cloneable -/
def k3 : Class := { plain "java/lang/Cloneable" (some 0) with
  accessFlags := 1537
  interfaces := #[]
  cf := some (fileOf pool3 2 #[] #[] 1537 4 #[] #[])
  fields := #[]
  methods := #[]
  instanceTypes := #[]
  staticTypes := #[]
  resolved := Array.replicate 8 none
  statics := none }

def pool4 : Array CpInfo := pool [(1, u "java/io/Serializable"), (0, .class_ 1), (0, u "java/lang/Object"), (0, .class_ 3)] 3

/-- java/io/Serializable -/
def k4 : Class := { plain "java/io/Serializable" (some 0) with
  accessFlags := 1537
  interfaces := #[]
  cf := some (fileOf pool4 2 #[] #[] 1537 4 #[] #[])
  fields := #[]
  methods := #[]
  instanceTypes := #[]
  staticTypes := #[]
  resolved := Array.replicate 8 none
  statics := none }

/-- the primitive byte -/
def k5 : Class := { plain "byte" none with kind := .primitive 'B', accessFlags := 0x411 }
/-- [B -/
def k6 : Class := { plain "[B" (some 0) with kind := .array 5 .byte, interfaces := #[3, 4], accessFlags := 1041 }

/-- the primitive int -/
def k7 : Class := { plain "int" none with kind := .primitive 'I', accessFlags := 0x411 }
/-- [I -/
def k8 : Class := { plain "[I" (some 0) with kind := .array 7 .int, interfaces := #[3, 4], accessFlags := 1041 }

def heap : Heap := #[]
def classes : Array Class := #[k0, k1, k2, k3, k4, k5, k6, k7, k8]
def interned : List (Array UInt16 × Addr) := []
def slotsUsed : Nat := 0
def theMethod : MethodId := ⟨1, 2⟩
def args0 : Array Value := #[.int 7, .int 8, .int 9, .int 1, .int 5]
def aboutOver (below : List Frame) : State where
  vm := { classes := classes, interned := interned.toArray }
  heap := heap
  slotsUsed := slotsUsed
  threads := #[{ frames := .invoking theMethod args0 :: below }]
def below0 : List Frame := [.native { method := ⟨0, 0⟩, args := #[] }]
def about1 : State := aboutOver below0
def p0 : Program := .bare "" "" ""
def e0 : Env := launch0.env 0 0 0
theorem w_frames : about1.frames = Frame.invoking theMethod args0 :: below0 := rfl
set_option maxRecDepth 65536 in
theorem w_args : argsFit about1.vm theMethod args0 = true := by decide +kernel
set_option maxRecDepth 65536 in
theorem w_heap : heapFits about1 = true := by decide +kernel
set_option maxRecDepth 65536 in
theorem w_runnable : about1.curStatus? = some .runnable := by decide +kernel
set_option maxRecDepth 65536 in
theorem w_alone : about1.alone = true := by decide +kernel
set_option maxRecDepth 65536 in
theorem w_named : about1.methodNamed? x = some theMethod := by decide +kernel
set_option maxRecDepth 65536 in
theorem w_hears : about1.hears theMethod below0 = true := by decide +kernel
set_option maxRecDepth 65536 in
theorem w_ripe : about1.ripe theMethod args0 below0 = true := by decide +kernel
theorem w_running : about1.status = .running := rfl
set_option maxRecDepth 65536 in
theorem w_room : about1.hasRoom e0.platform room_1 = true :=
  launch0.hasRoom_least _ room_1 (by decide +kernel) (by decide +kernel) (by decide +kernel) (by decide +kernel) (by decide +kernel) (by decide +kernel)
theorem allAtoms_all (ts : List Jvm.Cond) (a : Array Jvm.Value) (st : Jvm.State) : (allAtoms ts).before a st = ts.all (fun c => c.before a st) := by
  induction ts with
  | nil => rfl
  | cons c t ih =>
    show (Jvm.Cond.and c (allAtoms t)).before a st = _
    rw [Jvm.Cond.before_and, ih, List.all_cons]
def words1 : List Jvm.Cond := Jvm.Cond.code x code maxLocals ret :: tables_1
/-- a 'code' word, met by the world's own term for the bytes: nothing is compared byte by byte -/
theorem code_word {y : MethodName} {bytes : ByteArray} {mx : Nat} {rt : Option FieldType} {a : Array Value} {s : State} {m : MethodId} {meth : Method} {c : Code} (h1 : s.methodNamed? y = some m) (h2 : s.vm.method? m = some meth) (h3 : meth.code = some c) (h4 : c.code = bytes)
    (h5 : (c.maxLocals == mx && c.exceptionTable.isEmpty && decide (c.maxStack ≤ mostOperands) && decide (meth.sig.returnType = rt) && !meth.locks && decide (parseMethodDescriptor y.desc = some meth.sig)) = true) : (Jvm.Cond.code y bytes mx rt).before a s = true := by
  simp only [Bool.and_eq_true, beq_iff_eq, Bool.not_eq_true', decide_eq_true_eq] at h5
  obtain ⟨⟨⟨⟨⟨g1, g2⟩, g3⟩, g4⟩, g5⟩, g6⟩ := h5
  simp [Cond.before, Cond.holds, Cond.value, h1, h2, h3, h4, g1, g2, g3, g4, g5, g6]
def isCode : Jvm.Cond → Bool
  | .code _ _ _ _ => true
  | _ => false
theorem all_split {L : List Jvm.Cond} {P : Jvm.Cond → Bool} (h1 : L.all (fun c => isCode c || P c) = true) (h2 : ∀ c ∈ L.filter isCode, P c = true) : L.all P = true := by
  refine List.all_eq_true.mpr fun c hc => ?_
  have h := List.all_eq_true.mp h1 c hc
  rcases Bool.eq_false_or_eq_true (isCode c) with hi | hi
  · exact h2 c (List.mem_filter.mpr ⟨hc, hi⟩)
  · simpa [hi] using h
set_option maxRecDepth 65536 in
theorem w_c0 : (Jvm.Cond.code x code maxLocals ret).before args0 about1 = true := code_word (m := ⟨1, 2⟩) (meth := k1m2) (c := k1c2) (by decide +kernel) rfl rfl rfl (by decide +kernel)
set_option maxRecDepth 65536 in
theorem w_c1 : (Jvm.Cond.code ({ cls := "com/example/gentle_indent/gentleindent/util/Utf8", name := "sequenceLength", desc := "([BII)I" } : Jvm.MethodName) prog_84_method_2_code (9 : Nat) (Option.some Jvm.ClassFile.FieldType.int)).before args0 about1 = true := code_word (m := ⟨2, 1⟩) (meth := k2m1) (c := k2c1) (by decide +kernel) rfl rfl rfl (by decide +kernel)
set_option maxRecDepth 65536 in
theorem w_c2 : (Jvm.Cond.code ({ cls := "com/example/gentle_indent/gentleindent/util/Utf8SequenceLengthPinLaw", name := "isCont", desc := "(I)Z" } : Jvm.MethodName) method_2_code (1 : Nat) (Option.some Jvm.ClassFile.FieldType.boolean)).before args0 about1 = true := code_word (m := ⟨1, 1⟩) (meth := k1m1) (c := k1c1) (by decide +kernel) rfl rfl rfl (by decide +kernel)
def codes1 : List Jvm.Cond := [Jvm.Cond.code x code maxLocals ret, Jvm.Cond.code ({ cls := "com/example/gentle_indent/gentleindent/util/Utf8", name := "sequenceLength", desc := "([BII)I" } : Jvm.MethodName) prog_84_method_2_code (9 : Nat) (Option.some Jvm.ClassFile.FieldType.int), Jvm.Cond.code ({ cls := "com/example/gentle_indent/gentleindent/util/Utf8SequenceLengthPinLaw", name := "isCont", desc := "(I)Z" } : Jvm.MethodName) method_2_code (1 : Nat) (Option.some Jvm.ClassFile.FieldType.boolean)]
set_option maxRecDepth 65536 in
theorem codes_eq : words1.filter isCode = codes1 := rfl
theorem w_codes : ∀ c ∈ words1.filter isCode, c.before args0 about1 = true := by
  rw [codes_eq]
  intro c hc
  simp only [codes1, List.mem_cons, List.not_mem_nil, or_false] at hc
  rcases hc with rfl | rfl | rfl
  · exact w_c0
  · exact w_c1
  · exact w_c2
set_option maxRecDepth 65536 in
theorem w_t1 : words1.all (fun c => isCode c || c.before args0 about1) = true := by decide +kernel
theorem w_tables : (allAtoms (Jvm.Cond.code x code maxLocals ret :: tables_1)).before args0 about1 = true := by
  rw [allAtoms_all]
  show words1.all (fun c => c.before args0 about1) = true
  refine all_split ?_ w_codes
  rw [w_t1]
set_option maxRecDepth 65536 in
theorem w_case : (Jvm.Cond.and given_1 narrow_1).before args0 about1 = true := by decide +kernel
theorem w_applies : (headSpec (Jvm.Cond.code x code maxLocals ret :: tables_1) room_1).applies x e0.platform about1 = true :=
  (Spec.applies_iff w_frames).mpr ⟨w_running, w_runnable, w_alone, w_named, w_hears, w_ripe, w_room, w_tables⟩
theorem atStart : AtStart classFile x code maxLocals ret World_1 tables_1 room_1 Calls_1 rest_1 Pre_1 launch0 p0 e0 about1 theMethod args0 below0 :=
  ⟨lists_1, trivial, launch0.admits_env _ _ _, launch0.least_env, fairChoices_fair.cas, fairChoices_fair.clock, w_frames, w_args, w_heap, w_applies, trivial, trivial, w_case⟩
end start1
theorem witness_1 : WitnessClaimed_1 := ⟨start1.p0, start1.e0, start1.about1, start1.theMethod, start1.args0, start1.below0, start1.atStart⟩
end Jvm.Pilot.@@N@@
