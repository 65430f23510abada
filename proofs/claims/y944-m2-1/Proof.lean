import JvmDerived
import JvmDerived.Pilot.@@N@@Statement
import JvmDerived.Pilot.@@N@@Code
set_option linter.unusedVariables false
set_option linter.unusedSimpArgs false
namespace Jvm.RoadKit
open Sem ClassFile Op Lib Jvm.Stand Jvm.Free Jvm.LawKit
section New
variable {p : Program} {l : Launch} {e : Env} {R : Room} {s : State} {m : MethodId} {args : Array Value} {below : List Frame} {meth : Method} {c : Code} {T : State} {locs : List Loc} {cells slots : Nat}
theorem retI (X : Stand p l e R s m args below meth c T locs cells slots) (hx : p.tables.exec = Jvm.exec) {pc : Nat} {Ls : Array Slot} {z : Int32} {rest : List Value} (hret : meth.sig.returnType = some .int) (hd : decode c.code pc = .ok (.ireturn, 1)) {fs : List Frame}
    (hl : ∀ (f : JFrame) (acts : List Action), f.method = m → f.locked = none → f.entered = [] → (doReturn e (T.setTop f) acts (some (.int z))).1 = T.setFrames fs) : Steps p.tables e below (T.setTop (mkF m pc Ls (.int z :: rest))) (T.setFrames fs) := by
  have hm' : T.vm.method? m = some meth := X.method'
  have hn : narrow .int (.int z) = .int z := rfl
  show Steps p.tables e below (T.setTop { method := m, pc := pc, locals := Ls, stack := _ :: rest, locked := none }) _
  jvm_step X.here [X.here.top, hx, hd, hm', hret, hn]
  first | (intro acts; rw [hl _ acts rfl rfl rfl]) | rw [hl _ _ rfl rfl rfl]
  exact Steps.refl _
end New
end Jvm.RoadKit
namespace Jvm.Pilot.@@N@@
open Jvm Jvm.ClassFile Sem Op Lib Jvm.Free Jvm.Stand Jvm.LawKit Jvm.RoadKit Bundle Jvm.Pilot.@@N@@.Jvm.D
section OwnLayer
variable {p : Program} {l : Launch} {e : Env} {R : Room} {s : State} {m : MethodId} {args : Array Value} {below : List Frame} {meth : Method} {c : Code} {T : State} {locs : List Loc} {cells slots : Nat} {Z : State} {a0 : Array Value} {h h' : Heap} {K : State → Outcome → Prop} {Q : Option Value → Heap → List Loc → Prop} {pc : Nat} {Ls : Array Slot} {S : List Value} {own : String} {index : Nat} {y : MethodName} {bytes : ByteArray} {maxL : Nat} {ret : Option FieldType} {rm : Room} {as' : Array Value} {h0 : Heap} {ws : List Jvm.Cond}
/-- from here the body comes to its end, and K holds of it -/
def own_W (p : Program) (e : Env) (below : List Frame) (K : State → Outcome → Prop) (T : State) (f : JFrame) : Prop :=
  ∃ s₂ o, Steps p.tables e below (T.setTop f) s₂ ∧ s₂.status = .running ∧ Ended s₂ below o ∧ K s₂ o
def own_K (s : State) (R : Room) (Q : Option Value → Heap → List Loc → Prop) (s₂ : State) (o : Outcome) : Prop :=
  ∃ v L, o = .returned v ∧ Q v s₂.heap L ∧ FrameEnd s o s₂ L R.cells R.slots
/-- a body's contract -/
def own_C (l : Launch) (Z : State) (y : MethodName) (bytes : ByteArray) (maxL : Nat) (ret : Option FieldType) (ws : List Jvm.Cond) (rm : Room) (as' : Array Value) (h0 : Heap) (Q : Option Value → Heap → List Loc → Prop) : Prop :=
  MetFree l y (head1 (Jvm.Cond.code y bytes maxL ret :: ws) rm) (fun a U => a = as' ∧ Z.Warmed39 U.vm ∧ U.heap = h0) (fun _ _ _ _ _ => True) (fun _ U o U' => ∃ v L, o = .returned v ∧ Q v U'.heap L ∧ FrameEnd U o U' L rm.cells rm.slots)
theorem own_bodyF (hpl : plainFor y = true)
    (body : ∀ (p : Program) (e : Env) (s : State) (m : MethodId) (below : List Frame) (meth : Method) (c : Code) (T : State), p.tables.exec = Jvm.exec → c.code = bytes → c.maxLocals = maxL → s.vm.findClass y.cls = some m.cls → meth.name = y.name → meth.sig.returnType = ret → meth.locks = false → Z.Warmed39 s.vm →
      Stand p l e rm s m as' below meth c T [] 0 0 → T.heap = h0 → own_W p e below (own_K s rm Q) T (entryFrame m as' maxL)) : own_C l Z y bytes maxL ret ws rm as' h0 Q := by
  refine MetFree.of_bodySF hpl hisR ?_
  intro p e s m args below meth c s₁ Bd hml0 hP hK
  obtain ⟨rfl, hZ, hh⟩ := hP
  exact body p e s m below meth c s₁ Bd.exec Bd.bytes hml0 (findClass_of_methodNamed Bd.named) (name_of_methodNamed Bd.named Bd.method).1 Bd.returns (BodyLoose.notSynchronized Bd) hZ (Stand.of_body Bd) (by rw [← hh, Bd.state]; rfl)
theorem own_body (hpn : plainName y.cls = true)
    (body : ∀ (p : Program) (e : Env) (s : State) (m : MethodId) (below : List Frame) (meth : Method) (c : Code) (T : State), p.tables.exec = Jvm.exec → c.code = bytes → c.maxLocals = maxL → s.vm.findClass y.cls = some m.cls → meth.name = y.name → meth.sig.returnType = ret → meth.locks = false → Z.Warmed39 s.vm →
      Stand p l e rm s m as' below meth c T [] 0 0 → T.heap = h0 → own_W p e below (own_K s rm Q) T (entryFrame m as' maxL)) : own_C l Z y bytes maxL ret ws rm as' h0 Q := own_bodyF (plainFor_of_name hpn) body
theorem own_s {f f' : JFrame} {T' : State} (hs : ∀ t, Steps p.tables e below (T'.setTop f') t → Steps p.tables e below (T.setTop f) t) (k : own_W p e below K T' f') : own_W p e below K T f := by
  obtain ⟨s₂, o, h1, r⟩ := k; exact ⟨s₂, o, hs _ h1, r⟩
theorem own_s' {f f' : JFrame} {T' : State} (hs : Steps p.tables e below (T.setTop f) (T'.setTop f')) (k : own_W p e below K T' f') : own_W p e below K T f := by
  obtain ⟨s₂, o, h1, r⟩ := k; exact ⟨s₂, o, hs.trans h1, r⟩
theorem own_eq {f f' : JFrame} (q : f = f') (k : own_W p e below K T f') : own_W p e below K T f := q ▸ k
section Plain
theorem own_iloadN (X : Stand p l e R s m args below meth c T locs cells slots) (hx : p.tables.exec = Jvm.exec) {i : Fin 4} {v : Int32} (pc' : Nat) (hd : decode c.code pc = .ok (.iload_n i, 1)) (hp : pc + 1 = pc') (hl : Ls[i.val]? = some (.val (.int v))) (k : own_W p e below K T (mkF m pc' Ls (.int v :: S))) : own_W p e below K T (mkF m pc Ls S) := by subst hp; exact own_s (fun _ => XS.iloadN X.here hx rfl hd hl) k
theorem own_iload (X : Stand p l e R s m args below meth c T locs cells slots) (hx : p.tables.exec = Jvm.exec) {i : Nat} {v : Int32} (pc' : Nat) (hd : decode c.code pc = .ok (.iload i, 2)) (hp : pc + 2 = pc') (hl : Ls[i]? = some (.val (.int v))) (k : own_W p e below K T (mkF m pc' Ls (.int v :: S))) : own_W p e below K T (mkF m pc Ls S) := by subst hp; exact own_s (fun _ => XS.iload X.here hx rfl hd hl) k
theorem own_lloadN (X : Stand p l e R s m args below meth c T locs cells slots) (hx : p.tables.exec = Jvm.exec) {i : Fin 4} {v : Int64} (pc' : Nat) (hd : decode c.code pc = .ok (.lload_n i, 1)) (hp : pc + 1 = pc') (hl : Ls[i.val]? = some (.val (.long v))) (k : own_W p e below K T (mkF m pc' Ls (.long v :: S))) : own_W p e below K T (mkF m pc Ls S) := by subst hp; exact own_s (fun _ => XS.lloadN X.here hx rfl hd hl) k
theorem own_lload (X : Stand p l e R s m args below meth c T locs cells slots) (hx : p.tables.exec = Jvm.exec) {i : Nat} {v : Int64} (pc' : Nat) (hd : decode c.code pc = .ok (.lload i, 2)) (hp : pc + 2 = pc') (hl : Ls[i]? = some (.val (.long v))) (k : own_W p e below K T (mkF m pc' Ls (.long v :: S))) : own_W p e below K T (mkF m pc Ls S) := by subst hp; exact own_s (fun _ => XS.lload X.here hx rfl hd hl) k
theorem own_aloadN (X : Stand p l e R s m args below meth c T locs cells slots) (hx : p.tables.exec = Jvm.exec) {i : Fin 4} {v : Addr} (pc' : Nat) (hd : decode c.code pc = .ok (.aload_n i, 1)) (hp : pc + 1 = pc') (hl : Ls[i.val]? = some (.val (.ref v))) (k : own_W p e below K T (mkF m pc' Ls (.ref v :: S))) : own_W p e below K T (mkF m pc Ls S) := by subst hp; exact own_s (fun _ => XS.aloadN X.here hx rfl hd hl rfl) k
theorem own_aload (X : Stand p l e R s m args below meth c T locs cells slots) (hx : p.tables.exec = Jvm.exec) {i : Nat} {v : Addr} (pc' : Nat) (hd : decode c.code pc = .ok (.aload i, 2)) (hp : pc + 2 = pc') (hl : Ls[i]? = some (.val (.ref v))) (k : own_W p e below K T (mkF m pc' Ls (.ref v :: S))) : own_W p e below K T (mkF m pc Ls S) := by subst hp; exact own_s (fun _ => XS.aload X.here hx rfl hd hl rfl) k
theorem own_istoreN (X : Stand p l e R s m args below meth c T locs cells slots) (hx : p.tables.exec = Jvm.exec) {i : Fin 4} {x y : Int32} (pc' : Nat) (l' : Array Slot) (hy : y = x) (hd : decode c.code pc = .ok (.istore_n i, 1)) (hp : pc + 1 = pc') (hl : storeLocals Ls i.val (.int y) = some l') (k : own_W p e below K T (mkF m pc' l' S)) : own_W p e below K T (mkF m pc Ls (.int x :: S)) := by subst hp hy; exact own_s (fun _ => XS.istoreN X.here hx rfl hd rfl hl) k
theorem own_istore (X : Stand p l e R s m args below meth c T locs cells slots) (hx : p.tables.exec = Jvm.exec) {i : Nat} {x y : Int32} (pc' : Nat) (l' : Array Slot) (hy : y = x) (hd : decode c.code pc = .ok (.istore i, 2)) (hp : pc + 2 = pc') (hl : storeLocals Ls i (.int y) = some l') (k : own_W p e below K T (mkF m pc' l' S)) : own_W p e below K T (mkF m pc Ls (.int x :: S)) := by subst hp hy; exact own_s (fun _ => XS.istore X.here hx rfl hd rfl hl) k
theorem own_lstoreN (X : Stand p l e R s m args below meth c T locs cells slots) (hx : p.tables.exec = Jvm.exec) {i : Fin 4} {x y : Int64} (pc' : Nat) (l' : Array Slot) (hy : y = x) (hd : decode c.code pc = .ok (.lstore_n i, 1)) (hp : pc + 1 = pc') (hl : storeLocals Ls i.val (.long y) = some l') (k : own_W p e below K T (mkF m pc' l' S)) : own_W p e below K T (mkF m pc Ls (.long x :: S)) := by subst hp hy; exact own_s (fun _ => XS.lstoreN X.here hx rfl hd rfl hl) k
theorem own_lstore (X : Stand p l e R s m args below meth c T locs cells slots) (hx : p.tables.exec = Jvm.exec) {i : Nat} {x y : Int64} (pc' : Nat) (l' : Array Slot) (hy : y = x) (hd : decode c.code pc = .ok (.lstore i, 2)) (hp : pc + 2 = pc') (hl : storeLocals Ls i (.long y) = some l') (k : own_W p e below K T (mkF m pc' l' S)) : own_W p e below K T (mkF m pc Ls (.long x :: S)) := by subst hp hy; exact own_s (fun _ => XS.lstore X.here hx rfl hd rfl hl) k
theorem own_astoreN (X : Stand p l e R s m args below meth c T locs cells slots) (hx : p.tables.exec = Jvm.exec) {i : Fin 4} {x y : Addr} (pc' : Nat) (l' : Array Slot) (hy : y = x) (hd : decode c.code pc = .ok (.astore_n i, 1)) (hp : pc + 1 = pc') (hl : storeLocals Ls i.val (.ref y) = some l') (k : own_W p e below K T (mkF m pc' l' S)) : own_W p e below K T (mkF m pc Ls (.ref x :: S)) := by subst hp hy; exact own_s (fun _ => XS.astoreN X.here hx rfl hd rfl rfl hl) k
theorem own_astore (X : Stand p l e R s m args below meth c T locs cells slots) (hx : p.tables.exec = Jvm.exec) {i : Nat} {x y : Addr} (pc' : Nat) (l' : Array Slot) (hy : y = x) (hd : decode c.code pc = .ok (.astore i, 2)) (hp : pc + 2 = pc') (hl : storeLocals Ls i (.ref y) = some l') (k : own_W p e below K T (mkF m pc' l' S)) : own_W p e below K T (mkF m pc Ls (.ref x :: S)) := by subst hp hy; exact own_s (fun _ => XS.astore X.here hx rfl hd rfl rfl hl) k
theorem own_iinc (X : Stand p l e R s m args below meth c T locs cells slots) (hx : p.tables.exec = Jvm.exec) {i : Nat} {cst : Int} {x : Int32} (y : Int32) (pc' : Nat) (l' : Array Slot) (hy : y = x + Int32.ofInt cst) (hd : decode c.code pc = .ok (.iinc i cst, 3)) (hp : pc + 3 = pc') (hl : Ls[i]? = some (.val (.int x))) (hl' : storeLocals Ls i (.int y) = some l') (k : own_W p e below K T (mkF m pc' l' S)) : own_W p e below K T (mkF m pc Ls S) := by subst hp hy; exact own_s (fun _ => XS.iinc X.here hx rfl hd hl hl') k
theorem own_iconst (X : Stand p l e R s m args below meth c T locs cells slots) (hx : p.tables.exec = Jvm.exec) {i : Int} (pc' : Nat) (z : Int32) (hz : Int32.ofInt i = z) (hd : decode c.code pc = .ok (.iconst i, 1)) (hp : pc + 1 = pc') (k : own_W p e below K T (mkF m pc' Ls (.int z :: S))) : own_W p e below K T (mkF m pc Ls S) := by subst hp hz; exact own_s (fun _ => XS.iconst X.here hx rfl hd) k
theorem own_bipush (X : Stand p l e R s m args below meth c T locs cells slots) (hx : p.tables.exec = Jvm.exec) {i : Int} (pc' : Nat) (z : Int32) (hz : (Int8.ofInt i).toInt32 = z) (hd : decode c.code pc = .ok (.bipush i, 2)) (hp : pc + 2 = pc') (k : own_W p e below K T (mkF m pc' Ls (.int z :: S))) : own_W p e below K T (mkF m pc Ls S) := by subst hp hz; exact own_s (fun _ => XS.bipush X.here hx rfl hd) k
theorem own_sipush (X : Stand p l e R s m args below meth c T locs cells slots) (hx : p.tables.exec = Jvm.exec) {i : Int} (pc' : Nat) (z : Int32) (hz : (Int16.ofInt i).toInt32 = z) (hd : decode c.code pc = .ok (.sipush i, 3)) (hp : pc + 3 = pc') (k : own_W p e below K T (mkF m pc' Ls (.int z :: S))) : own_W p e below K T (mkF m pc Ls S) := by subst hp hz; exact own_s (fun _ => XS.sipush X.here hx rfl hd) k
theorem own_lconst (X : Stand p l e R s m args below meth c T locs cells slots) (hx : p.tables.exec = Jvm.exec) {i : Fin 2} (pc' : Nat) (z : Int64) (hz : Int64.ofNat i = z) (hd : decode c.code pc = .ok (.lconst i, 1)) (hp : pc + 1 = pc') (k : own_W p e below K T (mkF m pc' Ls (.long z :: S))) : own_W p e below K T (mkF m pc Ls S) := by subst hp hz; exact own_s (fun _ => XS.lconst X.here hx rfl hd) k
theorem own_ldc (X : Stand p l e R s m args below meth c T locs cells slots) (hx : p.tables.exec = Jvm.exec) {v : Int32} (hZ : Z.Warmed39 s.vm) (hown : s.vm.findClass own = some m.cls) (pc' : Nat) (w : (Jvm.Cond.constant own index v).before a0 Z = true) (hd : decode c.code pc = .ok (.ldc index, 2)) (hp : pc + 2 = pc') (k : own_W p e below K T (mkF m pc' Ls (.int v :: S))) : own_W p e below K T (mkF m pc Ls S) := by subst hp; exact own_s (X.ldcInt hx hown (mvT hZ w) (g := mkF m pc Ls S) rfl hd) k
theorem own_ldc2 (X : Stand p l e R s m args below meth c T locs cells slots) (hx : p.tables.exec = Jvm.exec) {v : Int64} (hZ : Z.Warmed39 s.vm) (hown : s.vm.findClass own = some m.cls) (pc' : Nat) (w : (Jvm.Cond.constantLong own index v).before a0 Z = true) (hd : decode c.code pc = .ok (.ldc2_w index, 3)) (hp : pc + 3 = pc') (k : own_W p e below K T (mkF m pc' Ls (.long v :: S))) : own_W p e below K T (mkF m pc Ls S) := by subst hp; exact own_s (X.ldc2Long hx hown (mvT hZ w) (g := mkF m pc Ls S) rfl hd) k
theorem own_goto (X : Stand p l e R s m args below meth c T locs cells slots) (hx : p.tables.exec = Jvm.exec) {o : Int} (pc' : Nat) (hd : decode c.code pc = .ok (.goto o, 3)) (ho : 0 ≤ (pc : Int) + o) (hp : ((pc : Int) + o).toNat = pc') (k : own_W p e below K T (mkF m pc' Ls S)) : own_W p e below K T (mkF m pc Ls S) := own_s (fun _ => XS.goto X.here hx (g := mkF m pc Ls S) rfl rfl hd ho hp) k
theorem own_dup (X : Stand p l e R s m args below meth c T locs cells slots) (hx : p.tables.exec = Jvm.exec) {x : Value} (pc' : Nat) (hc : x.category = 1) (hd : decode c.code pc = .ok (.dup, 1)) (hp : pc + 1 = pc') (k : own_W p e below K T (mkF m pc' Ls (x :: x :: S))) : own_W p e below K T (mkF m pc Ls (x :: S)) := by subst hp; exact own_s (fun _ => XS.dup X.here hx rfl hd rfl hc) k
theorem own_pop (X : Stand p l e R s m args below meth c T locs cells slots) (hx : p.tables.exec = Jvm.exec) {x : Value} (pc' : Nat) (hc : x.category = 1) (hd : decode c.code pc = .ok (.pop, 1)) (hp : pc + 1 = pc') (k : own_W p e below K T (mkF m pc' Ls S)) : own_W p e below K T (mkF m pc Ls (x :: S)) := by subst hp; exact own_s (fun _ => XS.pop X.here hx rfl hd rfl hc) k
theorem own_dupX1 (X : Stand p l e R s m args below meth c T locs cells slots) (hx : p.tables.exec = Jvm.exec) {x y : Value} (pc' : Nat) (hc : x.category = 1) (hc2 : y.category = 1) (hd : decode c.code pc = .ok (.dup_x1, 1)) (hp : pc + 1 = pc') (k : own_W p e below K T (mkF m pc' Ls (x :: y :: x :: S))) : own_W p e below K T (mkF m pc Ls (x :: y :: S)) := by subst hp; exact own_s (fun _ => XS.dupX1 X.here hx rfl hd rfl hc hc2) k
theorem own_dup2 (X : Stand p l e R s m args below meth c T locs cells slots) (hx : p.tables.exec = Jvm.exec) {x y : Value} (pc' : Nat) (hc : x.category = 1) (hc2 : y.category = 1) (hd : decode c.code pc = .ok (.dup2, 1)) (hp : pc + 1 = pc') (k : own_W p e below K T (mkF m pc' Ls (x :: y :: x :: y :: S))) : own_W p e below K T (mkF m pc Ls (x :: y :: S)) := by subst hp; exact own_s (fun _ => XT.dup2 X.here hx rfl hd rfl hc hc2) k
theorem own_iadd (X : Stand p l e R s m args below meth c T locs cells slots) (hx : p.tables.exec = Jvm.exec) {x y : Int32} (pc' : Nat) (hd : decode c.code pc = .ok (.iadd, 1)) (hp : pc + 1 = pc') (k : own_W p e below K T (mkF m pc' Ls (.int (x + y) :: S))) : own_W p e below K T (mkF m pc Ls (.int y :: .int x :: S)) := by subst hp; exact own_s (fun _ => XS.iadd X.here hx rfl hd rfl) k
theorem own_ladd (X : Stand p l e R s m args below meth c T locs cells slots) (hx : p.tables.exec = Jvm.exec) {x y : Int64} (pc' : Nat) (hd : decode c.code pc = .ok (.ladd, 1)) (hp : pc + 1 = pc') (k : own_W p e below K T (mkF m pc' Ls (.long (x + y) :: S))) : own_W p e below K T (mkF m pc Ls (.long y :: .long x :: S)) := by subst hp; exact own_s (fun _ => XS.ladd X.here hx rfl hd rfl) k
theorem own_isub (X : Stand p l e R s m args below meth c T locs cells slots) (hx : p.tables.exec = Jvm.exec) {x y : Int32} (pc' : Nat) (hd : decode c.code pc = .ok (.isub, 1)) (hp : pc + 1 = pc') (k : own_W p e below K T (mkF m pc' Ls (.int (x - y) :: S))) : own_W p e below K T (mkF m pc Ls (.int y :: .int x :: S)) := by subst hp; exact own_s (fun _ => XS.isub X.here hx rfl hd rfl) k
theorem own_lsub (X : Stand p l e R s m args below meth c T locs cells slots) (hx : p.tables.exec = Jvm.exec) {x y : Int64} (pc' : Nat) (hd : decode c.code pc = .ok (.lsub, 1)) (hp : pc + 1 = pc') (k : own_W p e below K T (mkF m pc' Ls (.long (x - y) :: S))) : own_W p e below K T (mkF m pc Ls (.long y :: .long x :: S)) := by subst hp; exact own_s (fun _ => XS.lsub X.here hx rfl hd rfl) k
theorem own_imul (X : Stand p l e R s m args below meth c T locs cells slots) (hx : p.tables.exec = Jvm.exec) {x y : Int32} (pc' : Nat) (hd : decode c.code pc = .ok (.imul, 1)) (hp : pc + 1 = pc') (k : own_W p e below K T (mkF m pc' Ls (.int (x * y) :: S))) : own_W p e below K T (mkF m pc Ls (.int y :: .int x :: S)) := by subst hp; exact own_s (fun _ => XS.imul X.here hx rfl hd rfl) k
theorem own_lmul (X : Stand p l e R s m args below meth c T locs cells slots) (hx : p.tables.exec = Jvm.exec) {x y : Int64} (pc' : Nat) (hd : decode c.code pc = .ok (.lmul, 1)) (hp : pc + 1 = pc') (k : own_W p e below K T (mkF m pc' Ls (.long (x * y) :: S))) : own_W p e below K T (mkF m pc Ls (.long y :: .long x :: S)) := by subst hp; exact own_s (fun _ => XS.lmul X.here hx rfl hd rfl) k
theorem own_iand (X : Stand p l e R s m args below meth c T locs cells slots) (hx : p.tables.exec = Jvm.exec) {x y : Int32} (pc' : Nat) (hd : decode c.code pc = .ok (.iand, 1)) (hp : pc + 1 = pc') (k : own_W p e below K T (mkF m pc' Ls (.int (x &&& y) :: S))) : own_W p e below K T (mkF m pc Ls (.int y :: .int x :: S)) := by subst hp; exact own_s (fun _ => XS.iand X.here hx rfl hd rfl) k
theorem own_land (X : Stand p l e R s m args below meth c T locs cells slots) (hx : p.tables.exec = Jvm.exec) {x y : Int64} (pc' : Nat) (hd : decode c.code pc = .ok (.land, 1)) (hp : pc + 1 = pc') (k : own_W p e below K T (mkF m pc' Ls (.long (x &&& y) :: S))) : own_W p e below K T (mkF m pc Ls (.long y :: .long x :: S)) := by subst hp; exact own_s (fun _ => XS.land X.here hx rfl hd rfl) k
theorem own_ior (X : Stand p l e R s m args below meth c T locs cells slots) (hx : p.tables.exec = Jvm.exec) {x y : Int32} (pc' : Nat) (hd : decode c.code pc = .ok (.ior, 1)) (hp : pc + 1 = pc') (k : own_W p e below K T (mkF m pc' Ls (.int (x ||| y) :: S))) : own_W p e below K T (mkF m pc Ls (.int y :: .int x :: S)) := by subst hp; exact own_s (fun _ => XS.ior X.here hx rfl hd rfl) k
theorem own_lor (X : Stand p l e R s m args below meth c T locs cells slots) (hx : p.tables.exec = Jvm.exec) {x y : Int64} (pc' : Nat) (hd : decode c.code pc = .ok (.lor, 1)) (hp : pc + 1 = pc') (k : own_W p e below K T (mkF m pc' Ls (.long (x ||| y) :: S))) : own_W p e below K T (mkF m pc Ls (.long y :: .long x :: S)) := by subst hp; exact own_s (fun _ => XS.lor X.here hx rfl hd rfl) k
theorem own_ixor (X : Stand p l e R s m args below meth c T locs cells slots) (hx : p.tables.exec = Jvm.exec) {x y : Int32} (pc' : Nat) (hd : decode c.code pc = .ok (.ixor, 1)) (hp : pc + 1 = pc') (k : own_W p e below K T (mkF m pc' Ls (.int (x ^^^ y) :: S))) : own_W p e below K T (mkF m pc Ls (.int y :: .int x :: S)) := by subst hp; exact own_s (fun _ => XS.ixor X.here hx rfl hd rfl) k
theorem own_lxor (X : Stand p l e R s m args below meth c T locs cells slots) (hx : p.tables.exec = Jvm.exec) {x y : Int64} (pc' : Nat) (hd : decode c.code pc = .ok (.lxor, 1)) (hp : pc + 1 = pc') (k : own_W p e below K T (mkF m pc' Ls (.long (x ^^^ y) :: S))) : own_W p e below K T (mkF m pc Ls (.long y :: .long x :: S)) := by subst hp; exact own_s (fun _ => XS.lxor X.here hx rfl hd rfl) k
theorem own_iaddz (X : Stand p l e R s m args below meth c T locs cells slots) (hx : p.tables.exec = Jvm.exec) {x y z : Int32} (pc' : Nat) (hz : x + y = z) (hd : decode c.code pc = .ok (.iadd, 1)) (hp : pc + 1 = pc') (k : own_W p e below K T (mkF m pc' Ls (.int z :: S))) : own_W p e below K T (mkF m pc Ls (.int y :: .int x :: S)) := by subst hz; exact own_iadd X hx pc' hd hp k
theorem own_laddz (X : Stand p l e R s m args below meth c T locs cells slots) (hx : p.tables.exec = Jvm.exec) {x y z : Int64} (pc' : Nat) (hz : x + y = z) (hd : decode c.code pc = .ok (.ladd, 1)) (hp : pc + 1 = pc') (k : own_W p e below K T (mkF m pc' Ls (.long z :: S))) : own_W p e below K T (mkF m pc Ls (.long y :: .long x :: S)) := by subst hz; exact own_ladd X hx pc' hd hp k
theorem own_isubz (X : Stand p l e R s m args below meth c T locs cells slots) (hx : p.tables.exec = Jvm.exec) {x y z : Int32} (pc' : Nat) (hz : x - y = z) (hd : decode c.code pc = .ok (.isub, 1)) (hp : pc + 1 = pc') (k : own_W p e below K T (mkF m pc' Ls (.int z :: S))) : own_W p e below K T (mkF m pc Ls (.int y :: .int x :: S)) := by subst hz; exact own_isub X hx pc' hd hp k
theorem own_lsubz (X : Stand p l e R s m args below meth c T locs cells slots) (hx : p.tables.exec = Jvm.exec) {x y z : Int64} (pc' : Nat) (hz : x - y = z) (hd : decode c.code pc = .ok (.lsub, 1)) (hp : pc + 1 = pc') (k : own_W p e below K T (mkF m pc' Ls (.long z :: S))) : own_W p e below K T (mkF m pc Ls (.long y :: .long x :: S)) := by subst hz; exact own_lsub X hx pc' hd hp k
theorem own_imulz (X : Stand p l e R s m args below meth c T locs cells slots) (hx : p.tables.exec = Jvm.exec) {x y z : Int32} (pc' : Nat) (hz : x * y = z) (hd : decode c.code pc = .ok (.imul, 1)) (hp : pc + 1 = pc') (k : own_W p e below K T (mkF m pc' Ls (.int z :: S))) : own_W p e below K T (mkF m pc Ls (.int y :: .int x :: S)) := by subst hz; exact own_imul X hx pc' hd hp k
theorem own_lmulz (X : Stand p l e R s m args below meth c T locs cells slots) (hx : p.tables.exec = Jvm.exec) {x y z : Int64} (pc' : Nat) (hz : x * y = z) (hd : decode c.code pc = .ok (.lmul, 1)) (hp : pc + 1 = pc') (k : own_W p e below K T (mkF m pc' Ls (.long z :: S))) : own_W p e below K T (mkF m pc Ls (.long y :: .long x :: S)) := by subst hz; exact own_lmul X hx pc' hd hp k
theorem own_iandz (X : Stand p l e R s m args below meth c T locs cells slots) (hx : p.tables.exec = Jvm.exec) {x y z : Int32} (pc' : Nat) (hz : x &&& y = z) (hd : decode c.code pc = .ok (.iand, 1)) (hp : pc + 1 = pc') (k : own_W p e below K T (mkF m pc' Ls (.int z :: S))) : own_W p e below K T (mkF m pc Ls (.int y :: .int x :: S)) := by subst hz; exact own_iand X hx pc' hd hp k
theorem own_landz (X : Stand p l e R s m args below meth c T locs cells slots) (hx : p.tables.exec = Jvm.exec) {x y z : Int64} (pc' : Nat) (hz : x &&& y = z) (hd : decode c.code pc = .ok (.land, 1)) (hp : pc + 1 = pc') (k : own_W p e below K T (mkF m pc' Ls (.long z :: S))) : own_W p e below K T (mkF m pc Ls (.long y :: .long x :: S)) := by subst hz; exact own_land X hx pc' hd hp k
theorem own_iorz (X : Stand p l e R s m args below meth c T locs cells slots) (hx : p.tables.exec = Jvm.exec) {x y z : Int32} (pc' : Nat) (hz : x ||| y = z) (hd : decode c.code pc = .ok (.ior, 1)) (hp : pc + 1 = pc') (k : own_W p e below K T (mkF m pc' Ls (.int z :: S))) : own_W p e below K T (mkF m pc Ls (.int y :: .int x :: S)) := by subst hz; exact own_ior X hx pc' hd hp k
theorem own_lorz (X : Stand p l e R s m args below meth c T locs cells slots) (hx : p.tables.exec = Jvm.exec) {x y z : Int64} (pc' : Nat) (hz : x ||| y = z) (hd : decode c.code pc = .ok (.lor, 1)) (hp : pc + 1 = pc') (k : own_W p e below K T (mkF m pc' Ls (.long z :: S))) : own_W p e below K T (mkF m pc Ls (.long y :: .long x :: S)) := by subst hz; exact own_lor X hx pc' hd hp k
theorem own_ixorz (X : Stand p l e R s m args below meth c T locs cells slots) (hx : p.tables.exec = Jvm.exec) {x y z : Int32} (pc' : Nat) (hz : x ^^^ y = z) (hd : decode c.code pc = .ok (.ixor, 1)) (hp : pc + 1 = pc') (k : own_W p e below K T (mkF m pc' Ls (.int z :: S))) : own_W p e below K T (mkF m pc Ls (.int y :: .int x :: S)) := by subst hz; exact own_ixor X hx pc' hd hp k
theorem own_lxorz (X : Stand p l e R s m args below meth c T locs cells slots) (hx : p.tables.exec = Jvm.exec) {x y z : Int64} (pc' : Nat) (hz : x ^^^ y = z) (hd : decode c.code pc = .ok (.lxor, 1)) (hp : pc + 1 = pc') (k : own_W p e below K T (mkF m pc' Ls (.long z :: S))) : own_W p e below K T (mkF m pc Ls (.long y :: .long x :: S)) := by subst hz; exact own_lxor X hx pc' hd hp k
theorem own_ishl (X : Stand p l e R s m args below meth c T locs cells slots) (hx : p.tables.exec = Jvm.exec) {x : Int32} {y : Int32} (pc' : Nat) (hd : decode c.code pc = .ok (.ishl, 1)) (hp : pc + 1 = pc') (k : own_W p e below K T (mkF m pc' Ls (.int (x <<< (y &&& 31)) :: S))) : own_W p e below K T (mkF m pc Ls (.int y :: .int x :: S)) := by subst hp; exact own_s (fun _ => XS.ishl X.here hx rfl hd rfl) k
theorem own_ishr (X : Stand p l e R s m args below meth c T locs cells slots) (hx : p.tables.exec = Jvm.exec) {x : Int32} {y : Int32} (pc' : Nat) (hd : decode c.code pc = .ok (.ishr, 1)) (hp : pc + 1 = pc') (k : own_W p e below K T (mkF m pc' Ls (.int (x >>> (y &&& 31)) :: S))) : own_W p e below K T (mkF m pc Ls (.int y :: .int x :: S)) := by subst hp; exact own_s (fun _ => XS.ishr X.here hx rfl hd rfl) k
theorem own_iushr (X : Stand p l e R s m args below meth c T locs cells slots) (hx : p.tables.exec = Jvm.exec) {x : Int32} {y : Int32} (pc' : Nat) (hd : decode c.code pc = .ok (.iushr, 1)) (hp : pc + 1 = pc') (k : own_W p e below K T (mkF m pc' Ls (.int ((x.toUInt32 >>> (y &&& 31).toUInt32).toInt32) :: S))) : own_W p e below K T (mkF m pc Ls (.int y :: .int x :: S)) := by subst hp; exact own_s (fun _ => XS.iushr X.here hx rfl hd rfl) k
theorem own_lshl (X : Stand p l e R s m args below meth c T locs cells slots) (hx : p.tables.exec = Jvm.exec) {x : Int64} {y : Int32} (pc' : Nat) (hd : decode c.code pc = .ok (.lshl, 1)) (hp : pc + 1 = pc') (k : own_W p e below K T (mkF m pc' Ls (.long (x <<< (y &&& 0x3f).toInt64) :: S))) : own_W p e below K T (mkF m pc Ls (.int y :: .long x :: S)) := by subst hp; exact own_s (fun _ => XS.lshl X.here hx rfl hd rfl) k
theorem own_lshr (X : Stand p l e R s m args below meth c T locs cells slots) (hx : p.tables.exec = Jvm.exec) {x : Int64} {y : Int32} (pc' : Nat) (hd : decode c.code pc = .ok (.lshr, 1)) (hp : pc + 1 = pc') (k : own_W p e below K T (mkF m pc' Ls (.long (x >>> (y &&& 0x3f).toInt64) :: S))) : own_W p e below K T (mkF m pc Ls (.int y :: .long x :: S)) := by subst hp; exact own_s (fun _ => XS.lshr X.here hx rfl hd rfl) k
theorem own_lushr (X : Stand p l e R s m args below meth c T locs cells slots) (hx : p.tables.exec = Jvm.exec) {x : Int64} {y : Int32} (pc' : Nat) (hd : decode c.code pc = .ok (.lushr, 1)) (hp : pc + 1 = pc') (k : own_W p e below K T (mkF m pc' Ls (.long ((x.toUInt64 >>> (y &&& 0x3f).toInt64.toUInt64).toInt64) :: S))) : own_W p e below K T (mkF m pc Ls (.int y :: .long x :: S)) := by subst hp; exact own_s (fun _ => XS.lushr X.here hx rfl hd rfl) k
theorem own_ineg (X : Stand p l e R s m args below meth c T locs cells slots) (hx : p.tables.exec = Jvm.exec) {x : Int32} (pc' : Nat) (hd : decode c.code pc = .ok (.ineg, 1)) (hp : pc + 1 = pc') (k : own_W p e below K T (mkF m pc' Ls (.int ((-x)) :: S))) : own_W p e below K T (mkF m pc Ls (.int x :: S)) := by subst hp; exact own_s (fun _ => XS.ineg X.here hx rfl hd rfl) k
theorem own_lneg (X : Stand p l e R s m args below meth c T locs cells slots) (hx : p.tables.exec = Jvm.exec) {x : Int64} (pc' : Nat) (hd : decode c.code pc = .ok (.lneg, 1)) (hp : pc + 1 = pc') (k : own_W p e below K T (mkF m pc' Ls (.long ((-x)) :: S))) : own_W p e below K T (mkF m pc Ls (.long x :: S)) := by subst hp; exact own_s (fun _ => XS.lneg X.here hx rfl hd rfl) k
theorem own_i2l (X : Stand p l e R s m args below meth c T locs cells slots) (hx : p.tables.exec = Jvm.exec) {x : Int32} (pc' : Nat) (hd : decode c.code pc = .ok (.i2l, 1)) (hp : pc + 1 = pc') (k : own_W p e below K T (mkF m pc' Ls (.long (x.toInt64) :: S))) : own_W p e below K T (mkF m pc Ls (.int x :: S)) := by subst hp; exact own_s (fun _ => XS.i2l X.here hx rfl hd rfl) k
theorem own_l2i (X : Stand p l e R s m args below meth c T locs cells slots) (hx : p.tables.exec = Jvm.exec) {x : Int64} (pc' : Nat) (hd : decode c.code pc = .ok (.l2i, 1)) (hp : pc + 1 = pc') (k : own_W p e below K T (mkF m pc' Ls (.int (x.toInt32) :: S))) : own_W p e below K T (mkF m pc Ls (.long x :: S)) := by subst hp; exact own_s (fun _ => XS.l2i X.here hx rfl hd rfl) k
theorem own_i2b (X : Stand p l e R s m args below meth c T locs cells slots) (hx : p.tables.exec = Jvm.exec) {x : Int32} (pc' : Nat) (hd : decode c.code pc = .ok (.i2b, 1)) (hp : pc + 1 = pc') (k : own_W p e below K T (mkF m pc' Ls (.int (x.toInt8.toInt32) :: S))) : own_W p e below K T (mkF m pc Ls (.int x :: S)) := by subst hp; exact own_s (fun _ => XS.i2b X.here hx rfl hd rfl) k
theorem own_i2s (X : Stand p l e R s m args below meth c T locs cells slots) (hx : p.tables.exec = Jvm.exec) {x : Int32} (pc' : Nat) (hd : decode c.code pc = .ok (.i2s, 1)) (hp : pc + 1 = pc') (k : own_W p e below K T (mkF m pc' Ls (.int (x.toInt16.toInt32) :: S))) : own_W p e below K T (mkF m pc Ls (.int x :: S)) := by subst hp; exact own_s (fun _ => XS.i2s X.here hx rfl hd rfl) k
theorem own_i2c (X : Stand p l e R s m args below meth c T locs cells slots) (hx : p.tables.exec = Jvm.exec) {x : Int32} (pc' : Nat) (hd : decode c.code pc = .ok (.i2c, 1)) (hp : pc + 1 = pc') (k : own_W p e below K T (mkF m pc' Ls (.int (x.toUInt32.toUInt16.toUInt32.toInt32) :: S))) : own_W p e below K T (mkF m pc Ls (.int x :: S)) := by subst hp; exact own_s (fun _ => XS.i2c X.here hx rfl hd rfl) k
theorem own_i2lz (X : Stand p l e R s m args below meth c T locs cells slots) (hx : p.tables.exec = Jvm.exec) {x : Int32} {z : Int64} (pc' : Nat) (hz : x.toInt64 = z) (hd : decode c.code pc = .ok (.i2l, 1)) (hp : pc + 1 = pc') (k : own_W p e below K T (mkF m pc' Ls (.long z :: S))) : own_W p e below K T (mkF m pc Ls (.int x :: S)) := by subst hz; exact own_i2l X hx pc' hd hp k
theorem own_l2iz (X : Stand p l e R s m args below meth c T locs cells slots) (hx : p.tables.exec = Jvm.exec) {x : Int64} {z : Int32} (pc' : Nat) (hz : x.toInt32 = z) (hd : decode c.code pc = .ok (.l2i, 1)) (hp : pc + 1 = pc') (k : own_W p e below K T (mkF m pc' Ls (.int z :: S))) : own_W p e below K T (mkF m pc Ls (.long x :: S)) := by subst hz; exact own_l2i X hx pc' hd hp k
theorem own_idiv (X : Stand p l e R s m args below meth c T locs cells slots) (hx : p.tables.exec = Jvm.exec) {x y : Int32} (pc' : Nat) (hy : y ≠ 0) (hd : decode c.code pc = .ok (.idiv, 1)) (hp : pc + 1 = pc') (k : own_W p e below K T (mkF m pc' Ls (.int (x / y) :: S))) : own_W p e below K T (mkF m pc Ls (.int y :: .int x :: S)) := by subst hp; exact own_s (fun _ => XS.idiv X.here hx rfl hd rfl hy) k
theorem own_irem (X : Stand p l e R s m args below meth c T locs cells slots) (hx : p.tables.exec = Jvm.exec) {x y : Int32} (pc' : Nat) (hy : y ≠ 0) (hd : decode c.code pc = .ok (.irem, 1)) (hp : pc + 1 = pc') (k : own_W p e below K T (mkF m pc' Ls (.int (x % y) :: S))) : own_W p e below K T (mkF m pc Ls (.int y :: .int x :: S)) := by subst hp; exact own_s (fun _ => iremM X hx rfl hd rfl hy) k
theorem own_ldiv (X : Stand p l e R s m args below meth c T locs cells slots) (hx : p.tables.exec = Jvm.exec) {x y : Int64} (pc' : Nat) (hy : y ≠ 0) (hd : decode c.code pc = .ok (.ldiv, 1)) (hp : pc + 1 = pc') (k : own_W p e below K T (mkF m pc' Ls (.long (x / y) :: S))) : own_W p e below K T (mkF m pc Ls (.long y :: .long x :: S)) := by subst hp; exact own_s (fun _ => XS.ldiv X.here hx rfl hd rfl hy) k
theorem own_lrem (X : Stand p l e R s m args below meth c T locs cells slots) (hx : p.tables.exec = Jvm.exec) {x y : Int64} (pc' : Nat) (hy : y ≠ 0) (hd : decode c.code pc = .ok (.lrem, 1)) (hp : pc + 1 = pc') (k : own_W p e below K T (mkF m pc' Ls (.long (x % y) :: S))) : own_W p e below K T (mkF m pc Ls (.long y :: .long x :: S)) := by subst hp; rw [← lrem_mod] at k; exact own_s (fun _ => XS.lrem X.here hx rfl hd rfl hy) k
theorem own_icmp (X : Stand p l e R s m args below meth c T locs cells slots) (hx : p.tables.exec = Jvm.exec) {cd : ClassFile.Cond} {x y : Int32} {o : Int} (pcT pcF : Nat) (P : Prop) [Decidable P] (hT : P → if_icmp.holds cd x y = true) (hF : ¬ P → if_icmp.holds cd x y = false) (hd : decode c.code pc = .ok (.if_icmp cd o, 3)) (ho : 0 ≤ (pc : Int) + o) (hp : ((pc : Int) + o).toNat = pcT) (hp' : pc + 3 = pcF)
    (kT : P → own_W p e below K T (mkF m pcT Ls S)) (kF : ¬ P → own_W p e below K T (mkF m pcF Ls S)) : own_W p e below K T (mkF m pc Ls (.int y :: .int x :: S)) := by
  subst hp'
  by_cases q : P
  · exact own_s (fun _ => XS.icmpYes X.here hx (g := mkF m pc Ls (.int y :: .int x :: S)) rfl rfl hd rfl (hT q) ho hp) (kT q)
  · exact own_s (fun _ => XS.icmpNo X.here hx (g := mkF m pc Ls (.int y :: .int x :: S)) rfl hd rfl (hF q)) (kF q)
theorem own_if (X : Stand p l e R s m args below meth c T locs cells slots) (hx : p.tables.exec = Jvm.exec) {cd : ClassFile.Cond} {x : Int32} {o : Int} (pcT pcF : Nat) (P : Prop) [Decidable P] (hT : P → if_icmp.holds cd x 0 = true) (hF : ¬ P → if_icmp.holds cd x 0 = false) (hd : decode c.code pc = .ok (.ifCond cd o, 3)) (ho : 0 ≤ (pc : Int) + o) (hp : ((pc : Int) + o).toNat = pcT) (hp' : pc + 3 = pcF)
    (kT : P → own_W p e below K T (mkF m pcT Ls S)) (kF : ¬ P → own_W p e below K T (mkF m pcF Ls S)) : own_W p e below K T (mkF m pc Ls (.int x :: S)) := by
  subst hp'
  by_cases q : P
  · exact own_s (fun _ => XS.ifYes X.here hx (g := mkF m pc Ls (.int x :: S)) rfl rfl hd rfl ((if0 cd x).trans (hT q)) ho hp) (kT q)
  · exact own_s (fun _ => XS.ifNo X.here hx (g := mkF m pc Ls (.int x :: S)) rfl hd rfl ((if0 cd x).trans (hF q))) (kF q)
theorem own_lcmp (X : Stand p l e R s m args below meth c T locs cells slots) (hx : p.tables.exec = Jvm.exec) {x y : Int64} (pc' : Nat) (hd : decode c.code pc = .ok (.lcmp, 1)) (hp : pc + 1 = pc') (k : own_W p e below K T (mkF m pc' Ls (.int (lcmpW x y) :: S))) : own_W p e below K T (mkF m pc Ls (.long y :: .long x :: S)) := by subst hp; exact own_s (fun _ => XS.lcmp X.here hx rfl hd rfl) k
theorem own_icmp_lt (X : Stand p l e R s m args below meth c T locs cells slots) (hx : p.tables.exec = Jvm.exec) {x y : Int32} {o : Int} (pcT pcF : Nat) (hd : decode c.code pc = .ok (.if_icmp .lt o, 3)) (ho : 0 ≤ (pc : Int) + o) (hp : ((pc : Int) + o).toNat = pcT) (hp' : pc + 3 = pcF) (kT : x < y → own_W p e below K T (mkF m pcT Ls S)) (kF : ¬ x < y → own_W p e below K T (mkF m pcF Ls S)) : own_W p e below K T (mkF m pc Ls (.int y :: .int x :: S)) := own_icmp X hx pcT pcF (x < y) (fun q => (tlt q).1) (fun q => (flt q).1) hd ho hp hp' kT kF
theorem own_if_lt (X : Stand p l e R s m args below meth c T locs cells slots) (hx : p.tables.exec = Jvm.exec) {x : Int32} {o : Int} (pcT pcF : Nat) (hd : decode c.code pc = .ok (.ifCond .lt o, 3)) (ho : 0 ≤ (pc : Int) + o) (hp : ((pc : Int) + o).toNat = pcT) (hp' : pc + 3 = pcF) (kT : x < 0 → own_W p e below K T (mkF m pcT Ls S)) (kF : ¬ x < 0 → own_W p e below K T (mkF m pcF Ls S)) : own_W p e below K T (mkF m pc Ls (.int x :: S)) := own_if X hx pcT pcF (x < 0) (fun q => (tlt q).1) (fun q => (flt q).1) hd ho hp hp' kT kF
theorem own_lif_lt (X : Stand p l e R s m args below meth c T locs cells slots) (hx : p.tables.exec = Jvm.exec) {x y : Int64} {o : Int} (pc1 pcT pcF : Nat) (hd1 : decode c.code pc = .ok (.lcmp, 1)) (hp1 : pc + 1 = pc1) (hd : decode c.code pc1 = .ok (.ifCond .lt o, 3)) (ho : 0 ≤ (pc1 : Int) + o) (hp : ((pc1 : Int) + o).toNat = pcT) (hp' : pc1 + 3 = pcF) (kT : x < y → own_W p e below K T (mkF m pcT Ls S)) (kF : ¬ x < y → own_W p e below K T (mkF m pcF Ls S)) : own_W p e below K T (mkF m pc Ls (.long y :: .long x :: S)) := own_lcmp X hx pc1 hd1 hp1 (own_if_lt X hx pcT pcF hd ho hp hp' (fun q => kT ((lw_lt x y).mp q)) (fun q => kF (fun r => q ((lw_lt x y).mpr r))))
theorem own_icmp_ge (X : Stand p l e R s m args below meth c T locs cells slots) (hx : p.tables.exec = Jvm.exec) {x y : Int32} {o : Int} (pcT pcF : Nat) (hd : decode c.code pc = .ok (.if_icmp .ge o, 3)) (ho : 0 ≤ (pc : Int) + o) (hp : ((pc : Int) + o).toNat = pcT) (hp' : pc + 3 = pcF) (kT : ¬ x < y → own_W p e below K T (mkF m pcT Ls S)) (kF : x < y → own_W p e below K T (mkF m pcF Ls S)) : own_W p e below K T (mkF m pc Ls (.int y :: .int x :: S)) := own_icmp X hx pcT pcF (¬ x < y) (fun q => (flt q).2.1) (fun q => (tlt (Decidable.not_not.mp q)).2.1) hd ho hp hp' kT (fun q => kF (Decidable.not_not.mp q))
theorem own_if_ge (X : Stand p l e R s m args below meth c T locs cells slots) (hx : p.tables.exec = Jvm.exec) {x : Int32} {o : Int} (pcT pcF : Nat) (hd : decode c.code pc = .ok (.ifCond .ge o, 3)) (ho : 0 ≤ (pc : Int) + o) (hp : ((pc : Int) + o).toNat = pcT) (hp' : pc + 3 = pcF) (kT : ¬ x < 0 → own_W p e below K T (mkF m pcT Ls S)) (kF : x < 0 → own_W p e below K T (mkF m pcF Ls S)) : own_W p e below K T (mkF m pc Ls (.int x :: S)) := own_if X hx pcT pcF (¬ x < 0) (fun q => (flt q).2.1) (fun q => (tlt (Decidable.not_not.mp q)).2.1) hd ho hp hp' kT (fun q => kF (Decidable.not_not.mp q))
theorem own_lif_ge (X : Stand p l e R s m args below meth c T locs cells slots) (hx : p.tables.exec = Jvm.exec) {x y : Int64} {o : Int} (pc1 pcT pcF : Nat) (hd1 : decode c.code pc = .ok (.lcmp, 1)) (hp1 : pc + 1 = pc1) (hd : decode c.code pc1 = .ok (.ifCond .ge o, 3)) (ho : 0 ≤ (pc1 : Int) + o) (hp : ((pc1 : Int) + o).toNat = pcT) (hp' : pc1 + 3 = pcF) (kT : ¬ x < y → own_W p e below K T (mkF m pcT Ls S)) (kF : x < y → own_W p e below K T (mkF m pcF Ls S)) : own_W p e below K T (mkF m pc Ls (.long y :: .long x :: S)) := own_lcmp X hx pc1 hd1 hp1 (own_if_ge X hx pcT pcF hd ho hp hp' (fun q => kT (fun r => q ((lw_lt x y).mpr r))) (fun q => kF ((lw_lt x y).mp q)))
theorem own_icmp_gt (X : Stand p l e R s m args below meth c T locs cells slots) (hx : p.tables.exec = Jvm.exec) {x y : Int32} {o : Int} (pcT pcF : Nat) (hd : decode c.code pc = .ok (.if_icmp .gt o, 3)) (ho : 0 ≤ (pc : Int) + o) (hp : ((pc : Int) + o).toNat = pcT) (hp' : pc + 3 = pcF) (kT : y < x → own_W p e below K T (mkF m pcT Ls S)) (kF : ¬ y < x → own_W p e below K T (mkF m pcF Ls S)) : own_W p e below K T (mkF m pc Ls (.int y :: .int x :: S)) := own_icmp X hx pcT pcF (y < x) (fun q => (tlt q).2.2.1) (fun q => (flt q).2.2.1) hd ho hp hp' kT kF
theorem own_if_gt (X : Stand p l e R s m args below meth c T locs cells slots) (hx : p.tables.exec = Jvm.exec) {x : Int32} {o : Int} (pcT pcF : Nat) (hd : decode c.code pc = .ok (.ifCond .gt o, 3)) (ho : 0 ≤ (pc : Int) + o) (hp : ((pc : Int) + o).toNat = pcT) (hp' : pc + 3 = pcF) (kT : 0 < x → own_W p e below K T (mkF m pcT Ls S)) (kF : ¬ 0 < x → own_W p e below K T (mkF m pcF Ls S)) : own_W p e below K T (mkF m pc Ls (.int x :: S)) := own_if X hx pcT pcF (0 < x) (fun q => (tlt q).2.2.1) (fun q => (flt q).2.2.1) hd ho hp hp' kT kF
theorem own_lif_gt (X : Stand p l e R s m args below meth c T locs cells slots) (hx : p.tables.exec = Jvm.exec) {x y : Int64} {o : Int} (pc1 pcT pcF : Nat) (hd1 : decode c.code pc = .ok (.lcmp, 1)) (hp1 : pc + 1 = pc1) (hd : decode c.code pc1 = .ok (.ifCond .gt o, 3)) (ho : 0 ≤ (pc1 : Int) + o) (hp : ((pc1 : Int) + o).toNat = pcT) (hp' : pc1 + 3 = pcF) (kT : y < x → own_W p e below K T (mkF m pcT Ls S)) (kF : ¬ y < x → own_W p e below K T (mkF m pcF Ls S)) : own_W p e below K T (mkF m pc Ls (.long y :: .long x :: S)) := own_lcmp X hx pc1 hd1 hp1 (own_if_gt X hx pcT pcF hd ho hp hp' (fun q => kT ((lw_gt x y).mp q)) (fun q => kF (fun r => q ((lw_gt x y).mpr r))))
theorem own_icmp_le (X : Stand p l e R s m args below meth c T locs cells slots) (hx : p.tables.exec = Jvm.exec) {x y : Int32} {o : Int} (pcT pcF : Nat) (hd : decode c.code pc = .ok (.if_icmp .le o, 3)) (ho : 0 ≤ (pc : Int) + o) (hp : ((pc : Int) + o).toNat = pcT) (hp' : pc + 3 = pcF) (kT : ¬ y < x → own_W p e below K T (mkF m pcT Ls S)) (kF : y < x → own_W p e below K T (mkF m pcF Ls S)) : own_W p e below K T (mkF m pc Ls (.int y :: .int x :: S)) := own_icmp X hx pcT pcF (¬ y < x) (fun q => (flt q).2.2.2) (fun q => (tlt (Decidable.not_not.mp q)).2.2.2) hd ho hp hp' kT (fun q => kF (Decidable.not_not.mp q))
theorem own_if_le (X : Stand p l e R s m args below meth c T locs cells slots) (hx : p.tables.exec = Jvm.exec) {x : Int32} {o : Int} (pcT pcF : Nat) (hd : decode c.code pc = .ok (.ifCond .le o, 3)) (ho : 0 ≤ (pc : Int) + o) (hp : ((pc : Int) + o).toNat = pcT) (hp' : pc + 3 = pcF) (kT : ¬ 0 < x → own_W p e below K T (mkF m pcT Ls S)) (kF : 0 < x → own_W p e below K T (mkF m pcF Ls S)) : own_W p e below K T (mkF m pc Ls (.int x :: S)) := own_if X hx pcT pcF (¬ 0 < x) (fun q => (flt q).2.2.2) (fun q => (tlt (Decidable.not_not.mp q)).2.2.2) hd ho hp hp' kT (fun q => kF (Decidable.not_not.mp q))
theorem own_lif_le (X : Stand p l e R s m args below meth c T locs cells slots) (hx : p.tables.exec = Jvm.exec) {x y : Int64} {o : Int} (pc1 pcT pcF : Nat) (hd1 : decode c.code pc = .ok (.lcmp, 1)) (hp1 : pc + 1 = pc1) (hd : decode c.code pc1 = .ok (.ifCond .le o, 3)) (ho : 0 ≤ (pc1 : Int) + o) (hp : ((pc1 : Int) + o).toNat = pcT) (hp' : pc1 + 3 = pcF) (kT : ¬ y < x → own_W p e below K T (mkF m pcT Ls S)) (kF : y < x → own_W p e below K T (mkF m pcF Ls S)) : own_W p e below K T (mkF m pc Ls (.long y :: .long x :: S)) := own_lcmp X hx pc1 hd1 hp1 (own_if_le X hx pcT pcF hd ho hp hp' (fun q => kT (fun r => q ((lw_gt x y).mpr r))) (fun q => kF ((lw_gt x y).mp q)))
theorem own_icmp_eq (X : Stand p l e R s m args below meth c T locs cells slots) (hx : p.tables.exec = Jvm.exec) {x y : Int32} {o : Int} (pcT pcF : Nat) (hd : decode c.code pc = .ok (.if_icmp .eq o, 3)) (ho : 0 ≤ (pc : Int) + o) (hp : ((pc : Int) + o).toNat = pcT) (hp' : pc + 3 = pcF) (kT : x = y → own_W p e below K T (mkF m pcT Ls S)) (kF : ¬ x = y → own_W p e below K T (mkF m pcF Ls S)) : own_W p e below K T (mkF m pc Ls (.int y :: .int x :: S)) := own_icmp X hx pcT pcF (x = y) (fun q => (teq q).1) (fun q => (feq q).1) hd ho hp hp' kT kF
theorem own_if_eq (X : Stand p l e R s m args below meth c T locs cells slots) (hx : p.tables.exec = Jvm.exec) {x : Int32} {o : Int} (pcT pcF : Nat) (hd : decode c.code pc = .ok (.ifCond .eq o, 3)) (ho : 0 ≤ (pc : Int) + o) (hp : ((pc : Int) + o).toNat = pcT) (hp' : pc + 3 = pcF) (kT : x = 0 → own_W p e below K T (mkF m pcT Ls S)) (kF : ¬ x = 0 → own_W p e below K T (mkF m pcF Ls S)) : own_W p e below K T (mkF m pc Ls (.int x :: S)) := own_if X hx pcT pcF (x = 0) (fun q => (teq q).1) (fun q => (feq q).1) hd ho hp hp' kT kF
theorem own_lif_eq (X : Stand p l e R s m args below meth c T locs cells slots) (hx : p.tables.exec = Jvm.exec) {x y : Int64} {o : Int} (pc1 pcT pcF : Nat) (hd1 : decode c.code pc = .ok (.lcmp, 1)) (hp1 : pc + 1 = pc1) (hd : decode c.code pc1 = .ok (.ifCond .eq o, 3)) (ho : 0 ≤ (pc1 : Int) + o) (hp : ((pc1 : Int) + o).toNat = pcT) (hp' : pc1 + 3 = pcF) (kT : x = y → own_W p e below K T (mkF m pcT Ls S)) (kF : ¬ x = y → own_W p e below K T (mkF m pcF Ls S)) : own_W p e below K T (mkF m pc Ls (.long y :: .long x :: S)) := own_lcmp X hx pc1 hd1 hp1 (own_if_eq X hx pcT pcF hd ho hp hp' (fun q => kT ((lw_eq x y).mp q)) (fun q => kF (fun r => q ((lw_eq x y).mpr r))))
theorem own_icmp_ne (X : Stand p l e R s m args below meth c T locs cells slots) (hx : p.tables.exec = Jvm.exec) {x y : Int32} {o : Int} (pcT pcF : Nat) (hd : decode c.code pc = .ok (.if_icmp .ne o, 3)) (ho : 0 ≤ (pc : Int) + o) (hp : ((pc : Int) + o).toNat = pcT) (hp' : pc + 3 = pcF) (kT : ¬ x = y → own_W p e below K T (mkF m pcT Ls S)) (kF : x = y → own_W p e below K T (mkF m pcF Ls S)) : own_W p e below K T (mkF m pc Ls (.int y :: .int x :: S)) := own_icmp X hx pcT pcF (¬ x = y) (fun q => (feq q).2) (fun q => (teq (Decidable.not_not.mp q)).2) hd ho hp hp' kT (fun q => kF (Decidable.not_not.mp q))
theorem own_if_ne (X : Stand p l e R s m args below meth c T locs cells slots) (hx : p.tables.exec = Jvm.exec) {x : Int32} {o : Int} (pcT pcF : Nat) (hd : decode c.code pc = .ok (.ifCond .ne o, 3)) (ho : 0 ≤ (pc : Int) + o) (hp : ((pc : Int) + o).toNat = pcT) (hp' : pc + 3 = pcF) (kT : ¬ x = 0 → own_W p e below K T (mkF m pcT Ls S)) (kF : x = 0 → own_W p e below K T (mkF m pcF Ls S)) : own_W p e below K T (mkF m pc Ls (.int x :: S)) := own_if X hx pcT pcF (¬ x = 0) (fun q => (feq q).2) (fun q => (teq (Decidable.not_not.mp q)).2) hd ho hp hp' kT (fun q => kF (Decidable.not_not.mp q))
theorem own_lif_ne (X : Stand p l e R s m args below meth c T locs cells slots) (hx : p.tables.exec = Jvm.exec) {x y : Int64} {o : Int} (pc1 pcT pcF : Nat) (hd1 : decode c.code pc = .ok (.lcmp, 1)) (hp1 : pc + 1 = pc1) (hd : decode c.code pc1 = .ok (.ifCond .ne o, 3)) (ho : 0 ≤ (pc1 : Int) + o) (hp : ((pc1 : Int) + o).toNat = pcT) (hp' : pc1 + 3 = pcF) (kT : ¬ x = y → own_W p e below K T (mkF m pcT Ls S)) (kF : x = y → own_W p e below K T (mkF m pcF Ls S)) : own_W p e below K T (mkF m pc Ls (.long y :: .long x :: S)) := own_lcmp X hx pc1 hd1 hp1 (own_if_ne X hx pcT pcF hd ho hp hp' (fun q => kT (fun r => q ((lw_eq x y).mpr r))) (fun q => kF ((lw_eq x y).mp q)))
end Plain
section Rets
theorem own_retI (X : Stand p l e R s m args below meth c T locs cells slots) (hx : p.tables.exec = Jvm.exec) {z : Int32} (hret : meth.sig.returnType = some .int) (hlk : meth.locks = false) (hd : decode c.code pc = .ok (.ireturn, 1)) (hc : cells ≤ R.cells) (hl : slots ≤ R.slots) (q : Q (some (.int z)) T.heap locs) : own_W p e below (own_K s R Q) T (mkF m pc Ls (.int z :: S)) := by
  obtain ⟨fs, hr, hrun, hended, hW, hsame⟩ := X.leave (v := some (.int z)) (fun h => by rw [hret] at h; cases h) hlk
  exact ⟨_, _, retI X hx hret hd hr, hrun, hended, _, _, rfl, q, ⟨_, rfl⟩, hW, hsame.mono hc hl⟩
theorem own_retZ (X : Stand p l e R s m args below meth c T locs cells slots) (hx : p.tables.exec = Jvm.exec) {z : Int32} (z' : Int32) (hz : z &&& 1 = z') (hret : meth.sig.returnType = some .boolean) (hlk : meth.locks = false) (hd : decode c.code pc = .ok (.ireturn, 1)) (hc : cells ≤ R.cells) (hl : slots ≤ R.slots) (q : Q (some (.int z')) T.heap locs) : own_W p e below (own_K s R Q) T (mkF m pc Ls (.int z :: S)) := by
  subst hz
  obtain ⟨fs, hr, hrun, hended, hW, hsame⟩ := X.leave (v := some (.int (nar .boolean z))) (fun h => by rw [hret] at h; cases h) hlk
  exact ⟨_, _, retN X hx (t := .boolean) hret (by simp) hd hr, hrun, hended, _, _, rfl, q, ⟨_, rfl⟩, hW, hsame.mono hc hl⟩
theorem own_retJ (X : Stand p l e R s m args below meth c T locs cells slots) (hx : p.tables.exec = Jvm.exec) {z : Int64} (hret : meth.sig.returnType = some .long) (hlk : meth.locks = false) (hd : decode c.code pc = .ok (.lreturn, 1)) (hc : cells ≤ R.cells) (hl : slots ≤ R.slots) (q : Q (some (.long z)) T.heap locs) : own_W p e below (own_K s R Q) T (mkF m pc Ls [.long z]) := by
  obtain ⟨fs, hr, hrun, hended, hW, hsame⟩ := X.leave (v := some (.long z)) (fun h => by rw [hret] at h; cases h) hlk
  exact ⟨_, _, X.lreturnOut hx hret hd hr, hrun, hended, _, _, rfl, q, ⟨_, rfl⟩, hW, hsame.mono hc hl⟩
theorem own_retA (X : Stand p l e R s m args below meth c T locs cells slots) (hx : p.tables.exec = Jvm.exec) {z : Addr} {t : FieldType} (hret : meth.sig.returnType = some t) (ht : t.isReference = true) (hlk : meth.locks = false) (hd : decode c.code pc = .ok (.areturn, 1)) (hc : cells ≤ R.cells) (hl : slots ≤ R.slots) (q : Q (some (.ref z)) T.heap locs) : own_W p e below (own_K s R Q) T (mkF m pc Ls [.ref z]) := by
  obtain ⟨fs, hr, hrun, hended, hW, hsame⟩ := X.leave (v := some (.ref z)) (fun h => by rw [hret] at h; cases h) hlk
  exact ⟨_, _, X.areturnOut hx rfl hret ht hd hr, hrun, hended, _, _, rfl, q, ⟨_, rfl⟩, hW, hsame.mono hc hl⟩
theorem own_retV (X : Stand p l e R s m args below meth c T locs cells slots) (hx : p.tables.exec = Jvm.exec) (hret : meth.sig.returnType = none) (hlk : meth.locks = false) (hd : decode c.code pc = .ok (.return_, 1)) (hc : cells ≤ R.cells) (hl : slots ≤ R.slots) (q : Q none T.heap locs) : own_W p e below (own_K s R Q) T (mkF m pc Ls []) := by
  obtain ⟨fs, hr, hrun, hended, hW, hsame⟩ := X.leave (v := none) (fun _ => rfl) hlk
  exact ⟨_, _, X.returnOut hx hret hd hr, hrun, hended, _, _, rfl, q, ⟨_, rfl⟩, hW, hsame.mono hc hl⟩
end Rets
section Heaps
theorem own_getF (X : Stand p l e R s m args below meth c T locs cells slots) (hx : p.tables.exec = Jvm.exec) (hZ : Z.Warmed39 s.vm) (hown : s.vm.findClass own = some m.cls) (eT : T.heap = h) {O n d : String} {a : Addr} {v : Value} (pc' : Nat) (w : (Jvm.Cond.fieldLink own index O n d).before a0 Z = true) (F : Fld Z h a O n d v) (hd : decode c.code pc = .ok (.getfield index, 3)) (hp : pc + 3 = pc')
    (k : ∀ T', Stand p l e R s m args below meth c T' locs cells slots → T'.heap = h → own_W p e below K T' (mkF m pc' Ls (v :: S))) : own_W p e below K T (mkF m pc Ls (.ref a :: S)) := by
  subst hp
  obtain ⟨T', X', e', st⟩ := getF X hx hZ hown (host := "") (Or.inl w) Via.refl eT F (g := mkF m pc Ls (.ref a :: S)) rfl rfl hd
  exact own_s st (k T' X' e')
theorem own_putF (X : Stand p l e R s m args below meth c T locs cells slots) (hx : p.tables.exec = Jvm.exec) (hZ : Z.Warmed39 s.vm) (hown : s.vm.findClass own = some m.cls) (eT : T.heap = h) {O n d C : String} {a : Addr} {v old : Value} {kk : Nat} {ty : FieldType} (pc' : Nat) (w : (Jvm.Cond.fieldLink own index O n d).before a0 Z = true) (F : Fld Z h a O n d old) (E : Exa Z h a C) (L : (Jvm.Cond.lays C O n d).before a0 Z = true ∨ ((Jvm.Cond.laysFinal C O n d).before a0 Z = true ∧ own = O ∧ meth.name = "<init>")) (wi : (Jvm.Cond.instantiable C kk).before a0 Z = true)
    (hty : parseFieldDescriptor d = some ty) (hn : narrow ty v = v) (hf : fits ty v = true) (hd : decode c.code pc = .ok (.putfield index, 3)) (hp : pc + 3 = pc')
    (k : ∀ T' h', Stand p l e R s m args below meth c T' (locs ++ [⟨a, Jvm.RoadKit.slotOf Z O n d⟩]) cells slots → T'.heap = h' → Wr h h' a (Jvm.RoadKit.slotOf Z O n d) v → own_W p e below K T' (mkF m pc' Ls S)) : own_W p e below K T (mkF m pc Ls (v :: .ref a :: S)) := by
  subst hp
  obtain ⟨T', h', X', e', W, st⟩ := putF X hx hZ hown (host := "") (Or.inl w) Via.refl eT F E L wi hty hn hf (g := mkF m pc Ls (v :: .ref a :: S)) rfl rfl hd
  exact own_s st (k T' h' X' e' W)
theorem own_putZ (X : Stand p l e R s m args below meth c T locs cells slots) (hx : p.tables.exec = Jvm.exec) (hZ : Z.Warmed39 s.vm) (hown : s.vm.findClass own = some m.cls) (eT : T.heap = h) {O n d C : String} {a : Addr} {v : Int32} {old : Value} {kk : Nat} (pc' : Nat) (w : (Jvm.Cond.fieldLink own index O n d).before a0 Z = true) (F : Fld Z h a O n d old) (E : Exa Z h a C) (L : (Jvm.Cond.lays C O n d).before a0 Z = true ∨ ((Jvm.Cond.laysFinal C O n d).before a0 Z = true ∧ own = O ∧ meth.name = "<init>")) (wi : (Jvm.Cond.instantiable C kk).before a0 Z = true)
    (hty : parseFieldDescriptor d = some .boolean) (hd : decode c.code pc = .ok (.putfield index, 3)) (hp : pc + 3 = pc')
    (k : ∀ T' h', Stand p l e R s m args below meth c T' (locs ++ [⟨a, Jvm.RoadKit.slotOf Z O n d⟩]) cells slots → T'.heap = h' → Wr h h' a (Jvm.RoadKit.slotOf Z O n d) (.int (v &&& 1)) → own_W p e below K T' (mkF m pc' Ls S)) : own_W p e below K T (mkF m pc Ls (.int v :: .ref a :: S)) := by
  subst hp
  obtain ⟨T', h', X', e', W, st⟩ := putFN X hx hZ hown w Via.refl eT F E L wi (ty := .boolean) (v' := .int (nar .boolean v)) hty rfl (fits_nar_bool _) (g := mkF m pc Ls (.int v :: .ref a :: S)) rfl rfl hd
  exact own_s st (k T' h' X' e' W)
theorem own_new (X : Stand p l e R s m args below meth c T locs cells slots) (hx : p.tables.exec = Jvm.exec) (hZ : Z.Warmed39 s.vm) (hown : s.vm.findClass own = some m.cls) (eT : T.heap = h) {C : String} {n : Nat} (pc' : Nat) (w : (Jvm.Cond.classLink own index C).before a0 Z = true) (wi : (Jvm.Cond.instantiable C n).before a0 Z = true) (wz : (Jvm.Cond.initialized C).before a0 Z = true) (hd : decode c.code pc = .ok (.new index, 3)) (hp : pc + 3 = pc') (hc : cells + 1 ≤ R.cells) (hl : slots + n ≤ R.slots)
    (k : ∀ T' h' a, Stand p l e R s m args below meth c T' locs (cells + 1) (slots + n) → T'.heap = h' → a = h.size → Ext h h' → Exa Z h' a C → (∀ {O nm d : String} {ty : FieldType}, Laid Z a0 C O nm d → parseFieldDescriptor d = some ty → Fld Z h' a O nm d (defaultValue ty)) → own_W p e below K T' (mkF m pc' Ls (.ref a :: S))) : own_W p e below K T (mkF m pc Ls S) := by
  subst hp
  obtain ⟨T', h', X', e', E, A, D, -, st⟩ := newO X hx hZ hown w wi wz eT (g := mkF m pc Ls S) rfl hd hc hl
  exact own_s st (k T' h' _ X' e' rfl E A D)
theorem own_initO (X : Stand p l e R s m args below meth c T locs cells slots) (hx : p.tables.exec = Jvm.exec) (hZ : Z.Warmed39 s.vm) (hown : s.vm.findClass own = some m.cls) (eT : T.heap = h) {a : Addr} {W : Nat} (pc' : Nat) (w1 : (Jvm.Cond.methodLink own index Lib.objectInit).before a0 Z = true) (w2 : (Jvm.Cond.instanceMethod Lib.objectInit).before a0 Z = true) (w3 : (Jvm.Cond.code Lib.objectInit ⟨#[0xb1]⟩ 1 none).before a0 Z = true) (hsize : Ls.size = c.maxLocals) (hd : decode c.code pc = .ok (.invokespecial index, 3)) (hp : pc + 3 = pc')
    (hf : 1 ≤ R.frames) (hW : (S.map fun v => v.category).sum = W) (hl : W + 12 ≤ R.locals)
    (k : ∀ T', Stand p l e R s m args below meth c T' locs cells slots → T'.heap = h → own_W p e below K T' (mkF m pc' Ls S)) : own_W p e below K T (mkF m pc Ls (.ref a :: S)) := by
  subst hp
  obtain ⟨T', X', e', st⟩ := initO X hx hZ hown w1 w2 w3 eT (g := mkF m pc Ls (.ref a :: S)) rfl hsize rfl hd hf (W := W) (by show 2 * 0 + _ ≤ _; rw [hW]; omega) hl
  exact own_s st (k T' X' e')
theorem own_callS (X : Stand p l e R s m args below meth c T locs cells slots) (hx : p.tables.exec = Jvm.exec) (hZ : Z.Warmed39 s.vm) (hown : s.vm.findClass own = some m.cls) (eT : T.heap = h) {argsL rest : List Value} {W : Nat} (pc' : Nat) (hM : own_C l Z y bytes maxL ret [] rm argsL.toArray h Q) (w1 : (Jvm.Cond.methodLink own index y).before a0 Z = true) (w2 : (Jvm.Cond.static y).before a0 Z = true) (w3 : (Jvm.Cond.initialized y.cls).before a0 Z = true) (w4 : (Jvm.Cond.code y bytes maxL ret).before a0 Z = true)
    (hy : y.cls ≠ "java/lang/invoke/MethodHandle" ∧ y.cls ≠ "java/lang/invoke/VarHandle") (hsize : Ls.size = c.maxLocals) (hlen : ∀ sig, parseMethodDescriptor y.desc = some sig → argsL.length = sig.parameters.length) (hst : S = argsL.reverse ++ rest) (hd : decode c.code pc = .ok (.invokestatic index, 3)) (hp : pc + 3 = pc')
    (hW : (rest.map fun v => v.category).sum = W) (hf : rm.frames + 1 ≤ R.frames) (hl : W + (maxL + 11) + rm.locals ≤ R.locals) (hc : cells + rm.cells ≤ R.cells) (hs : slots + rm.slots ≤ R.slots)
    (k : ∀ v T' L, Stand p l e R s m args below meth c T' (locs ++ L) (cells + rm.cells) (slots + rm.slots) → Q v T'.heap L → own_W p e below K T' (mkF m pc' Ls (v.toList ++ rest))) : own_W p e below K T (mkF m pc Ls S) := by
  subst hp hst
  obtain ⟨v, vm₁, ⟨T', L', k', n'⟩, -, X', ⟨L, hQ, l1, y1, z1⟩, st⟩ := Jvm.LawKit.callS X hx (y := y) hown (mvT hZ w1) (mvT hZ w2) (mvT hZ w3) (mvT hZ w4) hy (backOf (W := W) hM hZ w4 w3 hf hl) (g := mkF m pc Ls (argsL.reverse ++ rest)) rfl hsize (argsL := argsL) (rest := rest) hlen rfl (by show 2 * 0 + _ ≤ _; rw [hW]; omega) hd (fun _ _ => ⟨rfl, eT, hc, hs⟩)
  dsimp only [Pt.U, Pt.locs, Pt.cells, Pt.slots] at X' l1 y1 z1 st hQ
  subst l1 y1 z1
  exact own_s st (k v T' L X' hQ)
theorem own_callI (X : Stand p l e R s m args below meth c T locs cells slots) (hx : p.tables.exec = Jvm.exec) (hZ : Z.Warmed39 s.vm) (hown : s.vm.findClass own = some m.cls) (eT : T.heap = h) {a : Addr} {argsL rest : List Value} {W : Nat} (pc' : Nat) (hM : own_C l Z y bytes maxL none [] rm (.ref a :: argsL).toArray h Q) (hn : y.name = "<init>") (w1 : (Jvm.Cond.methodLink own index y).before a0 Z = true) (w2 : (Jvm.Cond.instanceMethod y).before a0 Z = true) (w3 : (Jvm.Cond.initialized y.cls).before a0 Z = true) (w4 : (Jvm.Cond.code y bytes maxL none).before a0 Z = true)
    (hy : y.cls ≠ "java/lang/invoke/MethodHandle" ∧ y.cls ≠ "java/lang/invoke/VarHandle") (hsize : Ls.size = c.maxLocals) (hlen : ∀ sig, parseMethodDescriptor y.desc = some sig → argsL.length = sig.parameters.length) (hst : S = argsL.reverse ++ .ref a :: rest) (hd : decode c.code pc = .ok (.invokespecial index, 3)) (hp : pc + 3 = pc')
    (hW : (rest.map fun v => v.category).sum = W) (hf : rm.frames + 1 ≤ R.frames) (hl : W + (maxL + 11) + rm.locals ≤ R.locals) (hc : cells + rm.cells ≤ R.cells) (hs : slots + rm.slots ≤ R.slots)
    (k : ∀ v T' L, Stand p l e R s m args below meth c T' (locs ++ L) (cells + rm.cells) (slots + rm.slots) → Q v T'.heap L → own_W p e below K T' (mkF m pc' Ls (v.toList ++ rest))) : own_W p e below K T (mkF m pc Ls S) := by
  subst hp hst
  obtain ⟨v, vm₁, ⟨T', L', k', n'⟩, -, X', ⟨L, hQ, l1, y1, z1⟩, st⟩ := X.specialBack hx (y := y) hn hown (mvT hZ w1) (mvT hZ w2) (mvT hZ w4) hy (backOf (W := W) hM hZ w4 w3 hf hl) (g := mkF m pc Ls (argsL.reverse ++ .ref a :: rest)) rfl hsize (Steps.refl _) (a := a) (argsL := argsL) (rest := rest) hlen rfl (by show 2 * 0 + _ ≤ _; rw [hW]; omega) hd (fun _ _ => ⟨rfl, eT, hc, hs⟩)
  dsimp only [Pt.U, Pt.locs, Pt.cells, Pt.slots] at X' l1 y1 z1 st hQ
  subst l1 y1 z1
  exact own_s' st (k v T' L X' hQ)
theorem own_callV (X : Stand p l e R s m args below meth c T locs cells slots) (hx : p.tables.exec = Jvm.exec) (hZ : Z.Warmed39 s.vm) (hown : s.vm.findClass own = some m.cls) (eT : T.heap = h) {a : Addr} {argsL rest : List Value} {W : Nat} (pc' : Nat) (hM : own_C l Z y bytes maxL ret [] rm (.ref a :: argsL).toArray h Q) (E : Exa Z h a y.cls) (w1 : (Jvm.Cond.methodLink own index y).before a0 Z = true) (w2 : (Jvm.Cond.declares y).before a0 Z = true) (w5 : (Jvm.Cond.selects y.cls y y).before a0 Z = true) (w6 : (Jvm.Cond.instanceMethod y).before a0 Z = true) (w3 : (Jvm.Cond.initialized y.cls).before a0 Z = true) (w4 : (Jvm.Cond.code y bytes maxL ret).before a0 Z = true)
    (hy : y.cls ≠ "java/lang/invoke/MethodHandle" ∧ y.cls ≠ "java/lang/invoke/VarHandle") (hsize : Ls.size = c.maxLocals) (hlen : ∀ sig, parseMethodDescriptor y.desc = some sig → argsL.length = sig.parameters.length) (hst : S = argsL.reverse ++ .ref a :: rest) (hd : decode c.code pc = .ok (.invokevirtual index, 3)) (hp : pc + 3 = pc')
    (hW : (rest.map fun v => v.category).sum = W) (hf : rm.frames + 1 ≤ R.frames) (hl : W + (maxL + 11) + rm.locals ≤ R.locals) (hc : cells + rm.cells ≤ R.cells) (hs : slots + rm.slots ≤ R.slots)
    (k : ∀ v T' L, Stand p l e R s m args below meth c T' (locs ++ L) (cells + rm.cells) (slots + rm.slots) → Q v T'.heap L → own_W p e below K T' (mkF m pc' Ls (v.toList ++ rest))) : own_W p e below K T (mkF m pc Ls S) := by
  subst hp hst
  obtain ⟨cq, kq, qa, qb, qc⟩ := isOf hZ eT E
  obtain ⟨v, vm₁, ⟨T', L', k', n'⟩, -, X', ⟨L, hQ, l1, y1, z1⟩, st⟩ := X.virtualBack hx (y := y) (z := y) hown (mvT hZ w1) (mvT hZ w2) (notFace_of_selects (args := #[]) (mvT hZ w5)) (mvT hZ w5) (mvT hZ w6) hy (backOf (W := W) hM hZ w4 w3 hf hl) qa qc (g := mkF m pc Ls (argsL.reverse ++ .ref a :: rest)) rfl hsize (Steps.refl _) (argsL := argsL) (rest := rest) hlen rfl (by show 2 * 0 + _ ≤ _; rw [hW]; omega) hd (fun _ _ => ⟨rfl, eT, hc, hs⟩)
  dsimp only [Pt.U, Pt.locs, Pt.cells, Pt.slots] at X' l1 y1 z1 st hQ
  subst l1 y1 z1
  exact own_s' st (k v T' L X' hQ)
/-- an array of ints (bytes, booleans): n places, place j holds f j -/
def own_AI (Z : State) (h : Heap) (a : Addr) (ty : FieldType) (n : Nat) (f : Nat → Int32) : Prop := ∃ c : Cell, Arr Z h a c ty ∧ c.slots.size = n ∧ ∀ j, j < n → c.slots[j]? = some (.int (f j))
def own_AJ (Z : State) (h : Heap) (a : Addr) (n : Nat) (f : Nat → Int64) : Prop := ∃ c : Cell, Arr Z h a c .long ∧ c.slots.size = n ∧ ∀ j, j < n → c.slots[j]? = some (.long (f j))
section Arrs
variable {a b : Addr} {n i : Nat} {ty : FieldType} {f : Nat → Int32} {fj : Nat → Int64} {j : Int32} {ws : List Addr} {v : Value} {sl : Nat}
theorem own_AI.lt (A : own_AI Z h a ty n f) : a < h.size := by obtain ⟨c, A, -⟩ := A; exact A.lt
theorem own_AJ.lt (A : own_AJ Z h a n fj) : a < h.size := by obtain ⟨c, A, -⟩ := A; exact A.lt
theorem own_AI.ext (A : own_AI Z h a ty n f) (E : Ext h h') : own_AI Z h' a ty n f := by obtain ⟨c, A, r⟩ := A; exact ⟨c, A.ext E, r⟩
theorem own_AJ.ext (A : own_AJ Z h a n fj) (E : Ext h h') : own_AJ Z h' a n fj := by obtain ⟨c, A, r⟩ := A; exact ⟨c, A.ext E, r⟩
theorem own_AI.other (A : own_AI Z h a ty n f) (W : Wr h h' b sl v) (q : a ≠ b) : own_AI Z h' a ty n f := by obtain ⟨c, A, r⟩ := A; exact ⟨c, A.other W q, r⟩
theorem own_AJ.other (A : own_AJ Z h a n fj) (W : Wr h h' b sl v) (q : a ≠ b) : own_AJ Z h' a n fj := by obtain ⟨c, A, r⟩ := A; exact ⟨c, A.other W q, r⟩
theorem own_AI.keep (A : own_AI Z h a ty n f) (K : Keep h h' ws) (q : a ∉ ws) : own_AI Z h' a ty n f := by obtain ⟨c, A, r⟩ := A; exact ⟨c, ⟨K.2.1 a c A.1 q, A.2⟩, r⟩
theorem own_AJ.keep (A : own_AJ Z h a n fj) (K : Keep h h' ws) (q : a ∉ ws) : own_AJ Z h' a n fj := by obtain ⟨c, A, r⟩ := A; exact ⟨c, ⟨K.2.1 a c A.1 q, A.2⟩, r⟩
theorem own_AI.set {x : Int32} (A : own_AI Z h a ty n f) (W : Wr h h' a i (.int x)) : own_AI Z h' a ty n (fun q => if q = i then x else f q) := by
  obtain ⟨c, A, S, H⟩ := A
  refine ⟨_, A.same W, by rw [sz_set]; exact S, fun q hq => ?_⟩
  by_cases e : q = i
  · subst e; simp [Cell.setSlot, S, hq]
  · simp only [Cell.setSlot, if_neg e]; rw [Array.getElem?_setIfInBounds_ne (Ne.symm e)]; exact H q hq
theorem own_AJ.set {x : Int64} (A : own_AJ Z h a n fj) (W : Wr h h' a i (.long x)) : own_AJ Z h' a n (fun q => if q = i then x else fj q) := by
  obtain ⟨c, A, S, H⟩ := A
  refine ⟨_, A.same W, by rw [sz_set]; exact S, fun q hq => ?_⟩
  by_cases e : q = i
  · subst e; simp [Cell.setSlot, S, hq]
  · simp only [Cell.setSlot, if_neg e]; rw [Array.getElem?_setIfInBounds_ne (Ne.symm e)]; exact H q hq
theorem own_AI.congr {g : Nat → Int32} (A : own_AI Z h a ty n f) (q : ∀ j, j < n → f j = g j) : own_AI Z h a ty n g := by obtain ⟨c, A, S, H⟩ := A; exact ⟨c, A, S, fun j hj => by rw [← q j hj]; exact H j hj⟩
theorem own_AJ.congr {g : Nat → Int64} (A : own_AJ Z h a n fj) (q : ∀ j, j < n → fj j = g j) : own_AJ Z h a n g := by obtain ⟨c, A, S, H⟩ := A; exact ⟨c, A, S, fun j hj => by rw [← q j hj]; exact H j hj⟩
theorem own_nat {j : Int32} {i : Nat} (q : j.toInt = i) : j.toNatClampNeg = i := by show j.toInt.toNat = i; rw [q]; exact Int.toNat_natCast i
theorem own_inb {j : Int32} {i n : Nat} (q : j.toInt = i) (r : i < n) {k : Nat} (e : k = n) : ¬ (j < 0 ∨ k ≤ j.toNatClampNeg) := by
  rw [own_nat q]; rintro (u | u)
  · rw [Int32.lt_iff_toInt_lt] at u; rw [q] at u; have : (0 : Int32).toInt = 0 := rfl; omega
  · omega
theorem own_iaload (X : Stand p l e R s m args below meth c T locs cells slots) (hx : p.tables.exec = Jvm.exec) (hZ : Z.Warmed39 s.vm) (eT : T.heap = h) (pc' : Nat) (i : Nat) (A : own_AI Z h a .int n f) (hj : j.toInt = i) (hi : i < n) (hd : decode c.code pc = .ok (.iaload, 1)) (hp : pc + 1 = pc') (k : own_W p e below K T (mkF m pc' Ls (.int (f i) :: S))) : own_W p e below K T (mkF m pc Ls (.int j :: .ref a :: S)) := by
  subst hp
  obtain ⟨cl, A, Sz, H⟩ := A
  exact own_s (fun t => X.iaload hx (j := j) (by rw [eT]; exact A.1) (State.isArrayOf_alike hZ.alike A.2.1) A.2.2 (own_inb hj hi Sz) (by rw [own_nat hj]; exact H i hi) (g := mkF m pc Ls (.int j :: .ref a :: S)) rfl rfl hd t) k
theorem own_baload (X : Stand p l e R s m args below meth c T locs cells slots) (hx : p.tables.exec = Jvm.exec) (hZ : Z.Warmed39 s.vm) (eT : T.heap = h) (pc' : Nat) (i : Nat) (A : own_AI Z h a .byte n f) (hj : j.toInt = i) (hi : i < n) (hd : decode c.code pc = .ok (.baload, 1)) (hp : pc + 1 = pc') (k : own_W p e below K T (mkF m pc' Ls (.int (f i) :: S))) : own_W p e below K T (mkF m pc Ls (.int j :: .ref a :: S)) := by
  subst hp
  obtain ⟨cl, A, Sz, H⟩ := A
  exact own_s (fun t => X.baloadBytes hx (j := j) (by rw [eT]; exact A.1) (State.isArrayOf_alike hZ.alike A.2.1) A.2.2 (own_inb hj hi Sz) (by rw [own_nat hj]; exact H i hi) (g := mkF m pc Ls (.int j :: .ref a :: S)) rfl rfl hd t) k
theorem own_laload (X : Stand p l e R s m args below meth c T locs cells slots) (hx : p.tables.exec = Jvm.exec) (hZ : Z.Warmed39 s.vm) (eT : T.heap = h) (pc' : Nat) (i : Nat) (A : own_AJ Z h a n fj) (hj : j.toInt = i) (hi : i < n) (hd : decode c.code pc = .ok (.laload, 1)) (hp : pc + 1 = pc') (k : own_W p e below K T (mkF m pc' Ls (.long (fj i) :: S))) : own_W p e below K T (mkF m pc Ls (.int j :: .ref a :: S)) := by
  subst hp
  obtain ⟨cl, A, Sz, H⟩ := A
  exact own_s (fun t => X.laload hx (j := j) (by rw [eT]; exact A.1) (State.isArrayOf_alike hZ.alike A.2.1) A.2.2 (own_inb hj hi Sz) (by rw [own_nat hj]; exact H i hi) (g := mkF m pc Ls (.int j :: .ref a :: S)) rfl rfl hd t) k
theorem own_iastore (X : Stand p l e R s m args below meth c T locs cells slots) (hx : p.tables.exec = Jvm.exec) (hZ : Z.Warmed39 s.vm) (eT : T.heap = h) {x : Int32} (pc' : Nat) (i : Nat) (A : own_AI Z h a .int n f) (hj : j.toInt = i) (hi : i < n) (hd : decode c.code pc = .ok (.iastore, 1)) (hp : pc + 1 = pc')
    (k : ∀ T' h', Stand p l e R s m args below meth c T' (locs ++ [⟨a, i⟩]) cells slots → T'.heap = h' → Wr h h' a i (.int x) → own_W p e below K T' (mkF m pc' Ls S)) : own_W p e below K T (mkF m pc Ls (.int x :: .int j :: .ref a :: S)) := by
  subst hp
  obtain ⟨cl, A, Sz, H⟩ := A
  obtain ⟨T', h', X', e', W, st⟩ := stI X hx hZ eT A (j := j) (own_inb hj hi Sz) (g := mkF m pc Ls (.int x :: .int j :: .ref a :: S)) rfl rfl hd
  rw [own_nat hj] at X' W
  exact own_s st (k T' h' X' e' W)
theorem own_bastore (X : Stand p l e R s m args below meth c T locs cells slots) (hx : p.tables.exec = Jvm.exec) (hZ : Z.Warmed39 s.vm) (eT : T.heap = h) {x : Int32} (pc' : Nat) (i : Nat) (A : own_AI Z h a .byte n f) (hj : j.toInt = i) (hi : i < n) (hd : decode c.code pc = .ok (.bastore, 1)) (hp : pc + 1 = pc')
    (k : ∀ T' h', Stand p l e R s m args below meth c T' (locs ++ [⟨a, i⟩]) cells slots → T'.heap = h' → Wr h h' a i (.int x.toInt8.toInt32) → own_W p e below K T' (mkF m pc' Ls S)) : own_W p e below K T (mkF m pc Ls (.int x :: .int j :: .ref a :: S)) := by
  subst hp
  obtain ⟨cl, A, Sz, H⟩ := A
  obtain ⟨T', h', X', e', W, st⟩ := stB X hx hZ eT A (j := j) (own_inb hj hi Sz) (g := mkF m pc Ls (.int x :: .int j :: .ref a :: S)) rfl rfl hd
  rw [own_nat hj] at X' W
  exact own_s st (k T' h' X' e' W)
theorem own_lastore (X : Stand p l e R s m args below meth c T locs cells slots) (hx : p.tables.exec = Jvm.exec) (hZ : Z.Warmed39 s.vm) (eT : T.heap = h) {x : Int64} (pc' : Nat) (i : Nat) (A : own_AJ Z h a n fj) (hj : j.toInt = i) (hi : i < n) (hd : decode c.code pc = .ok (.lastore, 1)) (hp : pc + 1 = pc')
    (k : ∀ T' h', Stand p l e R s m args below meth c T' (locs ++ [⟨a, i⟩]) cells slots → T'.heap = h' → Wr h h' a i (.long x) → own_W p e below K T' (mkF m pc' Ls S)) : own_W p e below K T (mkF m pc Ls (.long x :: .int j :: .ref a :: S)) := by
  subst hp
  obtain ⟨cl, A, Sz, H⟩ := A
  obtain ⟨T', h', X', e', W, st⟩ := stJ X hx hZ eT A (j := j) (own_inb hj hi Sz) (g := mkF m pc Ls (.long x :: .int j :: .ref a :: S)) rfl rfl hd
  rw [own_nat hj] at X' W
  exact own_s st (k T' h' X' e' W)
theorem own_arraylength (X : Stand p l e R s m args below meth c T locs cells slots) (hx : p.tables.exec = Jvm.exec) (hZ : Z.Warmed39 s.vm) (eT : T.heap = h) (pc' : Nat) {z : Int32} (A : own_AI Z h a ty n f) (hz : z.toInt = n) (hd : decode c.code pc = .ok (.arraylength, 1)) (hp : pc + 1 = pc') (k : own_W p e below K T (mkF m pc' Ls (.int z :: S))) : own_W p e below K T (mkF m pc Ls (.ref a :: S)) := by
  subst hp
  obtain ⟨cl, A, Sz, H⟩ := A
  have q : cl.slots.size.toInt32 = z := len_of (by rw [Sz, own_nat hz]) (fun u => by rw [Int32.lt_iff_toInt_lt, hz] at u; have : (0 : Int32).toInt = 0 := rfl; omega)
  rw [← q] at k
  exact own_s (fun t => X.arraylength hx (by rw [eT]; exact A.1) (State.isArrayOf_alike hZ.alike A.2.1) (g := mkF m pc Ls (.ref a :: S)) rfl rfl hd t) k
theorem own_arraylengthJ (X : Stand p l e R s m args below meth c T locs cells slots) (hx : p.tables.exec = Jvm.exec) (hZ : Z.Warmed39 s.vm) (eT : T.heap = h) (pc' : Nat) {z : Int32} (A : own_AJ Z h a n fj) (hz : z.toInt = n) (hd : decode c.code pc = .ok (.arraylength, 1)) (hp : pc + 1 = pc') (k : own_W p e below K T (mkF m pc' Ls (.int z :: S))) : own_W p e below K T (mkF m pc Ls (.ref a :: S)) := by
  subst hp
  obtain ⟨cl, A, Sz, H⟩ := A
  have q : cl.slots.size.toInt32 = z := len_of (by rw [Sz, own_nat hz]) (fun u => by rw [Int32.lt_iff_toInt_lt, hz] at u; have : (0 : Int32).toInt = 0 := rfl; omega)
  rw [← q] at k
  exact own_s (fun t => X.arraylength hx (by rw [eT]; exact A.1) (State.isArrayOf_alike hZ.alike A.2.1) (g := mkF m pc Ls (.ref a :: S)) rfl rfl hd t) k
theorem own_newI (X : Stand p l e R s m args below meth c T locs cells slots) (hx : p.tables.exec = Jvm.exec) (hZ : Z.Warmed39 s.vm) (eT : T.heap = h) {aty : ArrayType} {z : Int32} {n cap : Nat} (pc' : Nat) (ty : FieldType) (hty : newarray.typeOf aty = ty) (hdef : defaultValue ty = .int 0) (w : (Jvm.Cond.arrayClass ty).before a0 Z = true) (hz : z.toInt = n) (hcap : n ≤ cap) (hb : cap * 8 ≤ 536870912) (hd : decode c.code pc = .ok (.newarray aty, 2)) (hp : pc + 2 = pc') (hc : cells + 1 ≤ R.cells) (hl : slots + cap ≤ R.slots)
    (k : ∀ T' h' a, Stand p l e R s m args below meth c T' locs (cells + 1) (slots + cap) → T'.heap = h' → a = h.size → Ext h h' → own_AI Z h' a ty n (fun _ => 0) → own_W p e below K T' (mkF m pc' Ls (.ref a :: S))) : own_W p e below K T (mkF m pc Ls (.int z :: S)) := by
  subst hp hty
  obtain ⟨T', h', cA, X', e', E, A, st⟩ := newP X hx hZ w eT (g := mkF m pc Ls (.int z :: S)) rfl hd rfl (fun u => by rw [Int32.lt_iff_toInt_lt, hz] at u; have : (0 : Int32).toInt = 0 := rfl; omega) (cap := cap) (by rw [own_nat hz]; exact hcap) hb hc hl
  refine own_s st (k T' h' _ X' e' rfl E ⟨_, A, by rw [sz_new, own_nat hz], fun j hj => ?_⟩)
  simp [newA, own_nat hz, hj, hdef]
theorem own_newJ (X : Stand p l e R s m args below meth c T locs cells slots) (hx : p.tables.exec = Jvm.exec) (hZ : Z.Warmed39 s.vm) (eT : T.heap = h) {z : Int32} {n cap : Nat} (pc' : Nat) (w : (Jvm.Cond.arrayClass .long).before a0 Z = true) (hz : z.toInt = n) (hcap : n ≤ cap) (hb : cap * 8 ≤ 536870912) (hd : decode c.code pc = .ok (.newarray .long, 2)) (hp : pc + 2 = pc') (hc : cells + 1 ≤ R.cells) (hl : slots + cap ≤ R.slots)
    (k : ∀ T' h' a, Stand p l e R s m args below meth c T' locs (cells + 1) (slots + cap) → T'.heap = h' → a = h.size → Ext h h' → own_AJ Z h' a n (fun _ => 0) → own_W p e below K T' (mkF m pc' Ls (.ref a :: S))) : own_W p e below K T (mkF m pc Ls (.int z :: S)) := by
  subst hp
  obtain ⟨T', h', cA, X', e', E, A, st⟩ := newP X hx hZ (aty := .long) w eT (g := mkF m pc Ls (.int z :: S)) rfl hd rfl (fun u => by rw [Int32.lt_iff_toInt_lt, hz] at u; have : (0 : Int32).toInt = 0 := rfl; omega) (cap := cap) (by rw [own_nat hz]; exact hcap) hb hc hl
  refine own_s st (k T' h' _ X' e' rfl E ⟨_, A, by rw [sz_new, own_nat hz], fun j hj => ?_⟩)
  simp [newA, own_nat hz, hj, newarray.typeOf, defaultValue]
end Arrs
end Heaps
end OwnLayer
theorem own_toInt (x : Int32) : x.toInt = if x.toBitVec.toNat < 2147483648 then (x.toBitVec.toNat : Int) else (x.toBitVec.toNat : Int) - 4294967296 := by
  show x.toBitVec.toInt = _
  rw [BitVec.toInt_eq_toNat_cond]; split <;> split <;> omega
theorem own_toIntL (x : Int64) : x.toInt = if x.toBitVec.toNat < 9223372036854775808 then (x.toBitVec.toNat : Int) else (x.toBitVec.toNat : Int) - 18446744073709551616 := by
  show x.toBitVec.toInt = _
  rw [BitVec.toInt_eq_toNat_cond]; split <;> split <;> omega
def own_need (p0 : Int32) : Int32 := (if ((p0 &&& (255 : Int32)) >>> ((4 : Int32) &&& 31)) = (15 : Int32) then (4 : Int32) else (if ((p0 &&& (255 : Int32)) >>> ((4 : Int32) &&& 31)) = (14 : Int32) then (3 : Int32) else (if ((p0 &&& (255 : Int32)) >>> ((4 : Int32) &&& 31)) < (12 : Int32) then (1 : Int32) else (2 : Int32))))
def own_cont (p0 : Int32) : Int32 := (if (p0 &&& (192 : Int32)) = (128 : Int32) then (1 : Int32) else (0 : Int32))
def own_cut_0_1 (f : Nat → Int32) : Int32 := (0 : Int32)
def own_cut_0_2 (f : Nat → Int32) : Int32 := (0 : Int32)
def own_cut_0_3 (f : Nat → Int32) : Int32 := (0 : Int32)
def own_we_0 (f : Nat → Int32) : Int32 := (0 : Int32)
def own_cut_1_1 (f : Nat → Int32) : Int32 := (if (1 : Int32) < (own_need (f 0)) then (1 : Int32) else (0 : Int32))
def own_cut_1_2 (f : Nat → Int32) : Int32 := (0 : Int32)
def own_cut_1_3 (f : Nat → Int32) : Int32 := (0 : Int32)
def own_we_1 (f : Nat → Int32) : Int32 := (if ((f 0) &&& (255 : Int32)) < (240 : Int32) then (if ((f 0) &&& (255 : Int32)) < (224 : Int32) then (if ((f 0) &&& (255 : Int32)) < (192 : Int32) then (1 : Int32) else (0 : Int32)) else (0 : Int32)) else (0 : Int32))
def own_cut_2_1 (f : Nat → Int32) : Int32 := (if (1 : Int32) < (own_need (f 1)) then (1 : Int32) else (0 : Int32))
def own_cut_2_2 (f : Nat → Int32) : Int32 := (if (2 : Int32) < (own_need (f 0)) then (if (own_cont (f 1)) = (0 : Int32) then (0 : Int32) else (1 : Int32)) else (0 : Int32))
def own_cut_2_3 (f : Nat → Int32) : Int32 := (0 : Int32)
def own_we_2 (f : Nat → Int32) : Int32 := (if ((f 1) &&& (192 : Int32)) = (128 : Int32) then (if ((f 0) &&& (255 : Int32)) < (240 : Int32) then (if ((f 0) &&& (255 : Int32)) < (224 : Int32) then (if ((f 0) &&& (255 : Int32)) < (192 : Int32) then (2 : Int32) else (2 : Int32)) else (0 : Int32)) else (0 : Int32)) else (if ((f 1) &&& (255 : Int32)) < (240 : Int32) then (if ((f 1) &&& (255 : Int32)) < (224 : Int32) then (if ((f 1) &&& (255 : Int32)) < (192 : Int32) then (2 : Int32) else (1 : Int32)) else (1 : Int32)) else (1 : Int32)))
def own_cut_3_1 (f : Nat → Int32) : Int32 := (if (1 : Int32) < (own_need (f 2)) then (1 : Int32) else (0 : Int32))
def own_cut_3_2 (f : Nat → Int32) : Int32 := (if (2 : Int32) < (own_need (f 1)) then (if (own_cont (f 2)) = (0 : Int32) then (0 : Int32) else (1 : Int32)) else (0 : Int32))
def own_cut_3_3 (f : Nat → Int32) : Int32 := (if (3 : Int32) < (own_need (f 0)) then (if (own_cont (f 2)) = (0 : Int32) then (0 : Int32) else (if (own_cont (f 1)) = (0 : Int32) then (0 : Int32) else (1 : Int32))) else (0 : Int32))
def own_we_3 (f : Nat → Int32) : Int32 := (if ((f 2) &&& (192 : Int32)) = (128 : Int32) then (if ((f 1) &&& (192 : Int32)) = (128 : Int32) then (if ((f 0) &&& (255 : Int32)) < (240 : Int32) then (if ((f 0) &&& (255 : Int32)) < (224 : Int32) then (if ((f 0) &&& (255 : Int32)) < (192 : Int32) then (3 : Int32) else (3 : Int32)) else (3 : Int32)) else (0 : Int32)) else (if ((f 1) &&& (255 : Int32)) < (240 : Int32) then (if ((f 1) &&& (255 : Int32)) < (224 : Int32) then (if ((f 1) &&& (255 : Int32)) < (192 : Int32) then (3 : Int32) else (3 : Int32)) else (1 : Int32)) else (1 : Int32))) else (if ((f 2) &&& (255 : Int32)) < (240 : Int32) then (if ((f 2) &&& (255 : Int32)) < (224 : Int32) then (if ((f 2) &&& (255 : Int32)) < (192 : Int32) then (3 : Int32) else (2 : Int32)) else (2 : Int32)) else (2 : Int32)))
def own_cut_4_1 (f : Nat → Int32) : Int32 := (if (1 : Int32) < (own_need (f 3)) then (1 : Int32) else (0 : Int32))
def own_cut_4_2 (f : Nat → Int32) : Int32 := (if (2 : Int32) < (own_need (f 2)) then (if (own_cont (f 3)) = (0 : Int32) then (0 : Int32) else (1 : Int32)) else (0 : Int32))
def own_cut_4_3 (f : Nat → Int32) : Int32 := (if (3 : Int32) < (own_need (f 1)) then (if (own_cont (f 3)) = (0 : Int32) then (0 : Int32) else (if (own_cont (f 2)) = (0 : Int32) then (0 : Int32) else (1 : Int32))) else (0 : Int32))
def own_we_4 (f : Nat → Int32) : Int32 := (if ((f 3) &&& (192 : Int32)) = (128 : Int32) then (if ((f 2) &&& (192 : Int32)) = (128 : Int32) then (if ((f 1) &&& (192 : Int32)) = (128 : Int32) then (if ((f 0) &&& (255 : Int32)) < (240 : Int32) then (if ((f 0) &&& (255 : Int32)) < (224 : Int32) then (if ((f 0) &&& (255 : Int32)) < (192 : Int32) then (4 : Int32) else (4 : Int32)) else (4 : Int32)) else (4 : Int32)) else (if ((f 1) &&& (255 : Int32)) < (240 : Int32) then (if ((f 1) &&& (255 : Int32)) < (224 : Int32) then (if ((f 1) &&& (255 : Int32)) < (192 : Int32) then (4 : Int32) else (4 : Int32)) else (4 : Int32)) else (1 : Int32))) else (if ((f 2) &&& (255 : Int32)) < (240 : Int32) then (if ((f 2) &&& (255 : Int32)) < (224 : Int32) then (if ((f 2) &&& (255 : Int32)) < (192 : Int32) then (4 : Int32) else (4 : Int32)) else (2 : Int32)) else (2 : Int32))) else (if ((f 3) &&& (255 : Int32)) < (240 : Int32) then (if ((f 3) &&& (255 : Int32)) < (224 : Int32) then (if ((f 3) &&& (255 : Int32)) < (192 : Int32) then (4 : Int32) else (3 : Int32)) else (3 : Int32)) else (3 : Int32)))
def own_cut_5_1 (f : Nat → Int32) : Int32 := (if (1 : Int32) < (own_need (f 4)) then (1 : Int32) else (0 : Int32))
def own_cut_5_2 (f : Nat → Int32) : Int32 := (if (2 : Int32) < (own_need (f 3)) then (if (own_cont (f 4)) = (0 : Int32) then (0 : Int32) else (1 : Int32)) else (0 : Int32))
def own_cut_5_3 (f : Nat → Int32) : Int32 := (if (3 : Int32) < (own_need (f 2)) then (if (own_cont (f 4)) = (0 : Int32) then (0 : Int32) else (if (own_cont (f 3)) = (0 : Int32) then (0 : Int32) else (1 : Int32))) else (0 : Int32))
def own_we_5 (f : Nat → Int32) : Int32 := (if ((f 4) &&& (192 : Int32)) = (128 : Int32) then (if ((f 3) &&& (192 : Int32)) = (128 : Int32) then (if ((f 2) &&& (192 : Int32)) = (128 : Int32) then (if ((f 1) &&& (255 : Int32)) < (240 : Int32) then (if ((f 1) &&& (255 : Int32)) < (224 : Int32) then (if ((f 1) &&& (255 : Int32)) < (192 : Int32) then (5 : Int32) else (5 : Int32)) else (5 : Int32)) else (5 : Int32)) else (if ((f 2) &&& (255 : Int32)) < (240 : Int32) then (if ((f 2) &&& (255 : Int32)) < (224 : Int32) then (if ((f 2) &&& (255 : Int32)) < (192 : Int32) then (5 : Int32) else (5 : Int32)) else (5 : Int32)) else (2 : Int32))) else (if ((f 3) &&& (255 : Int32)) < (240 : Int32) then (if ((f 3) &&& (255 : Int32)) < (224 : Int32) then (if ((f 3) &&& (255 : Int32)) < (192 : Int32) then (5 : Int32) else (5 : Int32)) else (3 : Int32)) else (3 : Int32))) else (if ((f 4) &&& (255 : Int32)) < (240 : Int32) then (if ((f 4) &&& (255 : Int32)) < (224 : Int32) then (if ((f 4) &&& (255 : Int32)) < (192 : Int32) then (5 : Int32) else (4 : Int32)) else (4 : Int32)) else (4 : Int32)))
def own_cut_6_1 (f : Nat → Int32) : Int32 := (if (1 : Int32) < (own_need (f 5)) then (1 : Int32) else (0 : Int32))
def own_cut_6_2 (f : Nat → Int32) : Int32 := (if (2 : Int32) < (own_need (f 4)) then (if (own_cont (f 5)) = (0 : Int32) then (0 : Int32) else (1 : Int32)) else (0 : Int32))
def own_cut_6_3 (f : Nat → Int32) : Int32 := (if (3 : Int32) < (own_need (f 3)) then (if (own_cont (f 5)) = (0 : Int32) then (0 : Int32) else (if (own_cont (f 4)) = (0 : Int32) then (0 : Int32) else (1 : Int32))) else (0 : Int32))
def own_we_6 (f : Nat → Int32) : Int32 := (if ((f 5) &&& (192 : Int32)) = (128 : Int32) then (if ((f 4) &&& (192 : Int32)) = (128 : Int32) then (if ((f 3) &&& (192 : Int32)) = (128 : Int32) then (if ((f 2) &&& (255 : Int32)) < (240 : Int32) then (if ((f 2) &&& (255 : Int32)) < (224 : Int32) then (if ((f 2) &&& (255 : Int32)) < (192 : Int32) then (6 : Int32) else (6 : Int32)) else (6 : Int32)) else (6 : Int32)) else (if ((f 3) &&& (255 : Int32)) < (240 : Int32) then (if ((f 3) &&& (255 : Int32)) < (224 : Int32) then (if ((f 3) &&& (255 : Int32)) < (192 : Int32) then (6 : Int32) else (6 : Int32)) else (6 : Int32)) else (3 : Int32))) else (if ((f 4) &&& (255 : Int32)) < (240 : Int32) then (if ((f 4) &&& (255 : Int32)) < (224 : Int32) then (if ((f 4) &&& (255 : Int32)) < (192 : Int32) then (6 : Int32) else (6 : Int32)) else (4 : Int32)) else (4 : Int32))) else (if ((f 5) &&& (255 : Int32)) < (240 : Int32) then (if ((f 5) &&& (255 : Int32)) < (224 : Int32) then (if ((f 5) &&& (255 : Int32)) < (192 : Int32) then (6 : Int32) else (5 : Int32)) else (5 : Int32)) else (5 : Int32)))
theorem own_192 (x : Int32) : (x &&& 192).toInt = x.toInt % 256 / 64 * 64 := by
  have h1 : ∀ r : Fin 256, r.val &&& 192 = r.val / 64 * 64 := by decide +kernel
  have h2 := h1 ⟨x.toBitVec.toNat % 256, Nat.mod_lt _ (by decide)⟩
  simp only at h2
  have h3 : x.toBitVec.toNat &&& 192 = x.toBitVec.toNat % 256 &&& 192 := by
    rw [show x.toBitVec.toNat % 256 = x.toBitVec.toNat &&& (2 ^ 8 - 1) from (Nat.and_two_pow_sub_one_eq_mod _ 8).symm, Nat.and_assoc]
    rfl
  have h4 : (x &&& 192).toBitVec.toNat = x.toBitVec.toNat &&& 192 := rfl
  have h5 := own_toInt (x &&& 192)
  have h6 := own_toInt x
  rw [h4, h3, h2] at h5
  split at h5 <;> split at h6 <;> omega
theorem own_by (x : Int32) : (x &&& 255).toInt = x.toInt % 256 ∧ ((x &&& 255) >>> ((4 : Int32) &&& 31)).toInt = x.toInt % 256 / 16 := by
  have h1 := c_mask x 255 8 (by decide) rfl
  have h2 := c_ishr (x &&& 255) 4 4 rfl
  refine ⟨h1, ?_⟩
  rw [h2, h1]; rfl
theorem own_cls (x : Int32) : (own_need x = 4 ∧ own_cont x = 0 ∧ ¬ (x &&& 255) < 240 ∧ ¬ (x &&& 255) < 224 ∧ ¬ (x &&& 255) < 192 ∧ ¬ (x &&& 192) = 128) ∨ (own_need x = 3 ∧ own_cont x = 0 ∧ (x &&& 255) < 240 ∧ ¬ (x &&& 255) < 224 ∧ ¬ (x &&& 255) < 192 ∧ ¬ (x &&& 192) = 128) ∨ (own_need x = 2 ∧ own_cont x = 0 ∧ (x &&& 255) < 240 ∧ (x &&& 255) < 224 ∧ ¬ (x &&& 255) < 192 ∧ ¬ (x &&& 192) = 128) ∨ (own_need x = 1 ∧ own_cont x = 1 ∧ (x &&& 255) < 240 ∧ (x &&& 255) < 224 ∧ (x &&& 255) < 192 ∧ (x &&& 192) = 128) ∨ (own_need x = 1 ∧ own_cont x = 0 ∧ (x &&& 255) < 240 ∧ (x &&& 255) < 224 ∧ (x &&& 255) < 192 ∧ ¬ (x &&& 192) = 128) := by
  obtain ⟨h1, h2⟩ := own_by x
  have h3 := own_192 x
  unfold own_need own_cont
  have k0 : (0 : Int32).toInt = 0 := rfl
  have k1 : (1 : Int32).toInt = 1 := rfl
  have k2 : (2 : Int32).toInt = 2 := rfl
  have k3 : (3 : Int32).toInt = 3 := rfl
  have k4 : (4 : Int32).toInt = 4 := rfl
  have k12 : (12 : Int32).toInt = 12 := rfl
  have k14 : (14 : Int32).toInt = 14 := rfl
  have k15 : (15 : Int32).toInt = 15 := rfl
  have k128 : (128 : Int32).toInt = 128 := rfl
  have k192 : (192 : Int32).toInt = 192 := rfl
  have k224 : (224 : Int32).toInt = 224 := rfl
  have k240 : (240 : Int32).toInt = 240 := rfl
  simp only [Int32.lt_iff_toInt_lt, ← Int32.toInt_inj, k0, k1, k2, k3, k4, k12, k14, k15, k128, k192, k224, k240, h1, h2, h3]
  generalize x.toInt = X at *
  have q := (by omega : 240 ≤ X % 256 ∨ (224 ≤ X % 256 ∧ X % 256 < 240) ∨ (192 ≤ X % 256 ∧ X % 256 < 224) ∨ (128 ≤ X % 256 ∧ X % 256 < 192) ∨ X % 256 < 128)
  rcases q with q | q | q | q | q
  · left; rw [if_pos (by omega), if_neg (by omega), k4, k0]; omega
  · right; left; rw [if_neg (by omega), if_pos (by omega), if_neg (by omega), k3, k0]; omega
  · right; right; left; rw [if_neg (by omega), if_neg (by omega), if_neg (by omega), if_neg (by omega), k2, k0]; omega
  · right; right; right; left; rw [if_neg (by omega), if_neg (by omega), if_pos (by omega), if_pos (by omega), k1]; omega
  · right; right; right; right; rw [if_neg (by omega), if_neg (by omega), if_pos (by omega), if_neg (by omega), k1, k0]; omega
theorem own_p_0 (f : Nat → Int32) : own_we_0 f = if own_cut_0_1 f = 0 then (if own_cut_0_2 f = 0 then (if own_cut_0_3 f = 0 then (0 : Int32) else (-3 : Int32)) else (-2 : Int32)) else (-1 : Int32) := by
  unfold own_we_0 own_cut_0_1 own_cut_0_2 own_cut_0_3
  decide
theorem own_p_1 (f : Nat → Int32) : own_we_1 f = if own_cut_1_1 f = 0 then (if own_cut_1_2 f = 0 then (if own_cut_1_3 f = 0 then (1 : Int32) else (-2 : Int32)) else (-1 : Int32)) else (0 : Int32) := by
  unfold own_we_1 own_cut_1_1 own_cut_1_2 own_cut_1_3
  rcases own_cls (f 0) with ⟨a0, b0, c0, d0, e0, f0⟩ | ⟨a0, b0, c0, d0, e0, f0⟩ | ⟨a0, b0, c0, d0, e0, f0⟩ | ⟨a0, b0, c0, d0, e0, f0⟩ | ⟨a0, b0, c0, d0, e0, f0⟩
  · simp [a0, b0, c0, d0, e0, f0]
  · simp [a0, b0, c0, d0, e0, f0]
  · simp [a0, b0, c0, d0, e0, f0]
  · skip
    simp [a0, b0, c0, d0, e0, f0]
  · simp [a0, b0, c0, d0, e0, f0]
theorem own_p_2 (f : Nat → Int32) : own_we_2 f = if own_cut_2_1 f = 0 then (if own_cut_2_2 f = 0 then (if own_cut_2_3 f = 0 then (2 : Int32) else (-1 : Int32)) else (0 : Int32)) else (1 : Int32) := by
  unfold own_we_2 own_cut_2_1 own_cut_2_2 own_cut_2_3
  rcases own_cls (f 1) with ⟨a1, b1, c1, d1, e1, f1⟩ | ⟨a1, b1, c1, d1, e1, f1⟩ | ⟨a1, b1, c1, d1, e1, f1⟩ | ⟨a1, b1, c1, d1, e1, f1⟩ | ⟨a1, b1, c1, d1, e1, f1⟩
  · simp [a1, b1, c1, d1, e1, f1]
  · simp [a1, b1, c1, d1, e1, f1]
  · simp [a1, b1, c1, d1, e1, f1]
  · skip
    rcases own_cls (f 0) with ⟨a0, b0, c0, d0, e0, f0⟩ | ⟨a0, b0, c0, d0, e0, f0⟩ | ⟨a0, b0, c0, d0, e0, f0⟩ | ⟨a0, b0, c0, d0, e0, f0⟩ | ⟨a0, b0, c0, d0, e0, f0⟩
    · simp [a1, b1, c1, d1, e1, f1, a0, b0, c0, d0, e0, f0]
    · simp [a1, b1, c1, d1, e1, f1, a0, b0, c0, d0, e0, f0]
    · simp [a1, b1, c1, d1, e1, f1, a0, b0, c0, d0, e0, f0]
    · skip
      simp [a1, b1, c1, d1, e1, f1, a0, b0, c0, d0, e0, f0]
    · simp [a1, b1, c1, d1, e1, f1, a0, b0, c0, d0, e0, f0]
  · simp [a1, b1, c1, d1, e1, f1]
theorem own_p_3 (f : Nat → Int32) : own_we_3 f = if own_cut_3_1 f = 0 then (if own_cut_3_2 f = 0 then (if own_cut_3_3 f = 0 then (3 : Int32) else (0 : Int32)) else (1 : Int32)) else (2 : Int32) := by
  unfold own_we_3 own_cut_3_1 own_cut_3_2 own_cut_3_3
  rcases own_cls (f 2) with ⟨a2, b2, c2, d2, e2, f2⟩ | ⟨a2, b2, c2, d2, e2, f2⟩ | ⟨a2, b2, c2, d2, e2, f2⟩ | ⟨a2, b2, c2, d2, e2, f2⟩ | ⟨a2, b2, c2, d2, e2, f2⟩
  · simp [a2, b2, c2, d2, e2, f2]
  · simp [a2, b2, c2, d2, e2, f2]
  · simp [a2, b2, c2, d2, e2, f2]
  · skip
    rcases own_cls (f 1) with ⟨a1, b1, c1, d1, e1, f1⟩ | ⟨a1, b1, c1, d1, e1, f1⟩ | ⟨a1, b1, c1, d1, e1, f1⟩ | ⟨a1, b1, c1, d1, e1, f1⟩ | ⟨a1, b1, c1, d1, e1, f1⟩
    · simp [a2, b2, c2, d2, e2, f2, a1, b1, c1, d1, e1, f1]
    · simp [a2, b2, c2, d2, e2, f2, a1, b1, c1, d1, e1, f1]
    · simp [a2, b2, c2, d2, e2, f2, a1, b1, c1, d1, e1, f1]
    · skip
      rcases own_cls (f 0) with ⟨a0, b0, c0, d0, e0, f0⟩ | ⟨a0, b0, c0, d0, e0, f0⟩ | ⟨a0, b0, c0, d0, e0, f0⟩ | ⟨a0, b0, c0, d0, e0, f0⟩ | ⟨a0, b0, c0, d0, e0, f0⟩
      · simp [a2, b2, c2, d2, e2, f2, a1, b1, c1, d1, e1, f1, a0, b0, c0, d0, e0, f0]
      · simp [a2, b2, c2, d2, e2, f2, a1, b1, c1, d1, e1, f1, a0, b0, c0, d0, e0, f0]
      · simp [a2, b2, c2, d2, e2, f2, a1, b1, c1, d1, e1, f1, a0, b0, c0, d0, e0, f0]
      · skip
        simp [a2, b2, c2, d2, e2, f2, a1, b1, c1, d1, e1, f1, a0, b0, c0, d0, e0, f0]
      · simp [a2, b2, c2, d2, e2, f2, a1, b1, c1, d1, e1, f1, a0, b0, c0, d0, e0, f0]
    · simp [a2, b2, c2, d2, e2, f2, a1, b1, c1, d1, e1, f1]
  · simp [a2, b2, c2, d2, e2, f2]
theorem own_p_4 (f : Nat → Int32) : own_we_4 f = if own_cut_4_1 f = 0 then (if own_cut_4_2 f = 0 then (if own_cut_4_3 f = 0 then (4 : Int32) else (1 : Int32)) else (2 : Int32)) else (3 : Int32) := by
  unfold own_we_4 own_cut_4_1 own_cut_4_2 own_cut_4_3
  rcases own_cls (f 3) with ⟨a3, b3, c3, d3, e3, f3⟩ | ⟨a3, b3, c3, d3, e3, f3⟩ | ⟨a3, b3, c3, d3, e3, f3⟩ | ⟨a3, b3, c3, d3, e3, f3⟩ | ⟨a3, b3, c3, d3, e3, f3⟩
  · simp [a3, b3, c3, d3, e3, f3]
  · simp [a3, b3, c3, d3, e3, f3]
  · simp [a3, b3, c3, d3, e3, f3]
  · skip
    rcases own_cls (f 2) with ⟨a2, b2, c2, d2, e2, f2⟩ | ⟨a2, b2, c2, d2, e2, f2⟩ | ⟨a2, b2, c2, d2, e2, f2⟩ | ⟨a2, b2, c2, d2, e2, f2⟩ | ⟨a2, b2, c2, d2, e2, f2⟩
    · simp [a3, b3, c3, d3, e3, f3, a2, b2, c2, d2, e2, f2]
    · simp [a3, b3, c3, d3, e3, f3, a2, b2, c2, d2, e2, f2]
    · simp [a3, b3, c3, d3, e3, f3, a2, b2, c2, d2, e2, f2]
    · skip
      rcases own_cls (f 1) with ⟨a1, b1, c1, d1, e1, f1⟩ | ⟨a1, b1, c1, d1, e1, f1⟩ | ⟨a1, b1, c1, d1, e1, f1⟩ | ⟨a1, b1, c1, d1, e1, f1⟩ | ⟨a1, b1, c1, d1, e1, f1⟩
      · simp [a3, b3, c3, d3, e3, f3, a2, b2, c2, d2, e2, f2, a1, b1, c1, d1, e1, f1]
      · simp [a3, b3, c3, d3, e3, f3, a2, b2, c2, d2, e2, f2, a1, b1, c1, d1, e1, f1]
      · simp [a3, b3, c3, d3, e3, f3, a2, b2, c2, d2, e2, f2, a1, b1, c1, d1, e1, f1]
      · skip
        rcases own_cls (f 0) with ⟨a0, b0, c0, d0, e0, f0⟩ | ⟨a0, b0, c0, d0, e0, f0⟩ | ⟨a0, b0, c0, d0, e0, f0⟩ | ⟨a0, b0, c0, d0, e0, f0⟩ | ⟨a0, b0, c0, d0, e0, f0⟩
        · simp [a3, b3, c3, d3, e3, f3, a2, b2, c2, d2, e2, f2, a1, b1, c1, d1, e1, f1, a0, b0, c0, d0, e0, f0]
        · simp [a3, b3, c3, d3, e3, f3, a2, b2, c2, d2, e2, f2, a1, b1, c1, d1, e1, f1, a0, b0, c0, d0, e0, f0]
        · simp [a3, b3, c3, d3, e3, f3, a2, b2, c2, d2, e2, f2, a1, b1, c1, d1, e1, f1, a0, b0, c0, d0, e0, f0]
        · skip
          simp [a3, b3, c3, d3, e3, f3, a2, b2, c2, d2, e2, f2, a1, b1, c1, d1, e1, f1, a0, b0, c0, d0, e0, f0]
        · simp [a3, b3, c3, d3, e3, f3, a2, b2, c2, d2, e2, f2, a1, b1, c1, d1, e1, f1, a0, b0, c0, d0, e0, f0]
      · simp [a3, b3, c3, d3, e3, f3, a2, b2, c2, d2, e2, f2, a1, b1, c1, d1, e1, f1]
    · simp [a3, b3, c3, d3, e3, f3, a2, b2, c2, d2, e2, f2]
  · simp [a3, b3, c3, d3, e3, f3]
theorem own_p_5 (f : Nat → Int32) : own_we_5 f = if own_cut_5_1 f = 0 then (if own_cut_5_2 f = 0 then (if own_cut_5_3 f = 0 then (5 : Int32) else (2 : Int32)) else (3 : Int32)) else (4 : Int32) := by
  unfold own_we_5 own_cut_5_1 own_cut_5_2 own_cut_5_3
  rcases own_cls (f 4) with ⟨a4, b4, c4, d4, e4, f4⟩ | ⟨a4, b4, c4, d4, e4, f4⟩ | ⟨a4, b4, c4, d4, e4, f4⟩ | ⟨a4, b4, c4, d4, e4, f4⟩ | ⟨a4, b4, c4, d4, e4, f4⟩
  · simp [a4, b4, c4, d4, e4, f4]
  · simp [a4, b4, c4, d4, e4, f4]
  · simp [a4, b4, c4, d4, e4, f4]
  · skip
    rcases own_cls (f 3) with ⟨a3, b3, c3, d3, e3, f3⟩ | ⟨a3, b3, c3, d3, e3, f3⟩ | ⟨a3, b3, c3, d3, e3, f3⟩ | ⟨a3, b3, c3, d3, e3, f3⟩ | ⟨a3, b3, c3, d3, e3, f3⟩
    · simp [a4, b4, c4, d4, e4, f4, a3, b3, c3, d3, e3, f3]
    · simp [a4, b4, c4, d4, e4, f4, a3, b3, c3, d3, e3, f3]
    · simp [a4, b4, c4, d4, e4, f4, a3, b3, c3, d3, e3, f3]
    · skip
      rcases own_cls (f 2) with ⟨a2, b2, c2, d2, e2, f2⟩ | ⟨a2, b2, c2, d2, e2, f2⟩ | ⟨a2, b2, c2, d2, e2, f2⟩ | ⟨a2, b2, c2, d2, e2, f2⟩ | ⟨a2, b2, c2, d2, e2, f2⟩
      · simp [a4, b4, c4, d4, e4, f4, a3, b3, c3, d3, e3, f3, a2, b2, c2, d2, e2, f2]
      · simp [a4, b4, c4, d4, e4, f4, a3, b3, c3, d3, e3, f3, a2, b2, c2, d2, e2, f2]
      · simp [a4, b4, c4, d4, e4, f4, a3, b3, c3, d3, e3, f3, a2, b2, c2, d2, e2, f2]
      · skip
        rcases own_cls (f 1) with ⟨a1, b1, c1, d1, e1, f1⟩ | ⟨a1, b1, c1, d1, e1, f1⟩ | ⟨a1, b1, c1, d1, e1, f1⟩ | ⟨a1, b1, c1, d1, e1, f1⟩ | ⟨a1, b1, c1, d1, e1, f1⟩
        · simp [a4, b4, c4, d4, e4, f4, a3, b3, c3, d3, e3, f3, a2, b2, c2, d2, e2, f2, a1, b1, c1, d1, e1, f1]
        · simp [a4, b4, c4, d4, e4, f4, a3, b3, c3, d3, e3, f3, a2, b2, c2, d2, e2, f2, a1, b1, c1, d1, e1, f1]
        · simp [a4, b4, c4, d4, e4, f4, a3, b3, c3, d3, e3, f3, a2, b2, c2, d2, e2, f2, a1, b1, c1, d1, e1, f1]
        · skip
          simp [a4, b4, c4, d4, e4, f4, a3, b3, c3, d3, e3, f3, a2, b2, c2, d2, e2, f2, a1, b1, c1, d1, e1, f1]
        · simp [a4, b4, c4, d4, e4, f4, a3, b3, c3, d3, e3, f3, a2, b2, c2, d2, e2, f2, a1, b1, c1, d1, e1, f1]
      · simp [a4, b4, c4, d4, e4, f4, a3, b3, c3, d3, e3, f3, a2, b2, c2, d2, e2, f2]
    · simp [a4, b4, c4, d4, e4, f4, a3, b3, c3, d3, e3, f3]
  · simp [a4, b4, c4, d4, e4, f4]
theorem own_p_6 (f : Nat → Int32) : own_we_6 f = if own_cut_6_1 f = 0 then (if own_cut_6_2 f = 0 then (if own_cut_6_3 f = 0 then (6 : Int32) else (3 : Int32)) else (4 : Int32)) else (5 : Int32) := by
  unfold own_we_6 own_cut_6_1 own_cut_6_2 own_cut_6_3
  rcases own_cls (f 5) with ⟨a5, b5, c5, d5, e5, f5⟩ | ⟨a5, b5, c5, d5, e5, f5⟩ | ⟨a5, b5, c5, d5, e5, f5⟩ | ⟨a5, b5, c5, d5, e5, f5⟩ | ⟨a5, b5, c5, d5, e5, f5⟩
  · simp [a5, b5, c5, d5, e5, f5]
  · simp [a5, b5, c5, d5, e5, f5]
  · simp [a5, b5, c5, d5, e5, f5]
  · skip
    rcases own_cls (f 4) with ⟨a4, b4, c4, d4, e4, f4⟩ | ⟨a4, b4, c4, d4, e4, f4⟩ | ⟨a4, b4, c4, d4, e4, f4⟩ | ⟨a4, b4, c4, d4, e4, f4⟩ | ⟨a4, b4, c4, d4, e4, f4⟩
    · simp [a5, b5, c5, d5, e5, f5, a4, b4, c4, d4, e4, f4]
    · simp [a5, b5, c5, d5, e5, f5, a4, b4, c4, d4, e4, f4]
    · simp [a5, b5, c5, d5, e5, f5, a4, b4, c4, d4, e4, f4]
    · skip
      rcases own_cls (f 3) with ⟨a3, b3, c3, d3, e3, f3⟩ | ⟨a3, b3, c3, d3, e3, f3⟩ | ⟨a3, b3, c3, d3, e3, f3⟩ | ⟨a3, b3, c3, d3, e3, f3⟩ | ⟨a3, b3, c3, d3, e3, f3⟩
      · simp [a5, b5, c5, d5, e5, f5, a4, b4, c4, d4, e4, f4, a3, b3, c3, d3, e3, f3]
      · simp [a5, b5, c5, d5, e5, f5, a4, b4, c4, d4, e4, f4, a3, b3, c3, d3, e3, f3]
      · simp [a5, b5, c5, d5, e5, f5, a4, b4, c4, d4, e4, f4, a3, b3, c3, d3, e3, f3]
      · skip
        rcases own_cls (f 2) with ⟨a2, b2, c2, d2, e2, f2⟩ | ⟨a2, b2, c2, d2, e2, f2⟩ | ⟨a2, b2, c2, d2, e2, f2⟩ | ⟨a2, b2, c2, d2, e2, f2⟩ | ⟨a2, b2, c2, d2, e2, f2⟩
        · simp [a5, b5, c5, d5, e5, f5, a4, b4, c4, d4, e4, f4, a3, b3, c3, d3, e3, f3, a2, b2, c2, d2, e2, f2]
        · simp [a5, b5, c5, d5, e5, f5, a4, b4, c4, d4, e4, f4, a3, b3, c3, d3, e3, f3, a2, b2, c2, d2, e2, f2]
        · simp [a5, b5, c5, d5, e5, f5, a4, b4, c4, d4, e4, f4, a3, b3, c3, d3, e3, f3, a2, b2, c2, d2, e2, f2]
        · skip
          simp [a5, b5, c5, d5, e5, f5, a4, b4, c4, d4, e4, f4, a3, b3, c3, d3, e3, f3, a2, b2, c2, d2, e2, f2]
        · simp [a5, b5, c5, d5, e5, f5, a4, b4, c4, d4, e4, f4, a3, b3, c3, d3, e3, f3, a2, b2, c2, d2, e2, f2]
      · simp [a5, b5, c5, d5, e5, f5, a4, b4, c4, d4, e4, f4, a3, b3, c3, d3, e3, f3]
    · simp [a5, b5, c5, d5, e5, f5, a4, b4, c4, d4, e4, f4]
  · simp [a5, b5, c5, d5, e5, f5]
theorem own_to (x t : Int32) (h : t = (x &&& 2147483647) % 7) : t = 0 ∨ t = 1 ∨ t = 2 ∨ t = 3 ∨ t = 4 ∨ t = 5 ∨ t = 6 := by
  have h1 := c_mask x 2147483647 31 (by decide) rfl
  have h2 := (c_irem (x &&& 2147483647) 7 7 rfl).1
  rw [← h] at h2
  have k0 : (0 : Int32).toInt = 0 := rfl
  have k1 : (1 : Int32).toInt = 1 := rfl
  have k2 : (2 : Int32).toInt = 2 := rfl
  have k3 : (3 : Int32).toInt = 3 := rfl
  have k4 : (4 : Int32).toInt = 4 := rfl
  have k5 : (5 : Int32).toInt = 5 := rfl
  have k6 : (6 : Int32).toInt = 6 := rfl
  simp only [← Int32.toInt_inj, k0, k1, k2, k3, k4, k5, k6]
  omega
theorem d1_0 : decode method_2_code 0 = .ok (.iload_n 0, 1) := by decide +kernel
theorem d1_1 : decode method_2_code 1 = .ok (.sipush 255, 3) := by decide +kernel
theorem d1_4 : decode method_2_code 4 = .ok (.iand, 1) := by decide +kernel
theorem d1_5 : decode method_2_code 5 = .ok (.iconst 4, 1) := by decide +kernel
theorem d1_6 : decode method_2_code 6 = .ok (.ishr, 1) := by decide +kernel
theorem d1_7 : decode method_2_code 7 = .ok (.istore_n 1, 1) := by decide +kernel
theorem d1_8 : decode method_2_code 8 = .ok (.iload_n 1, 1) := by decide +kernel
theorem d1_9 : decode method_2_code 9 = .ok (.bipush 15, 2) := by decide +kernel
theorem d1_11 : decode method_2_code 11 = .ok (.if_icmp .ne 5, 3) := by decide +kernel
theorem d1_14 : decode method_2_code 14 = .ok (.iconst 4, 1) := by decide +kernel
theorem d1_15 : decode method_2_code 15 = .ok (.ireturn, 1) := by decide +kernel
theorem d1_16 : decode method_2_code 16 = .ok (.iload_n 1, 1) := by decide +kernel
theorem d1_17 : decode method_2_code 17 = .ok (.bipush 14, 2) := by decide +kernel
theorem d1_19 : decode method_2_code 19 = .ok (.if_icmp .ne 5, 3) := by decide +kernel
theorem d1_22 : decode method_2_code 22 = .ok (.iconst 3, 1) := by decide +kernel
theorem d1_23 : decode method_2_code 23 = .ok (.ireturn, 1) := by decide +kernel
theorem d1_24 : decode method_2_code 24 = .ok (.iload_n 1, 1) := by decide +kernel
theorem d1_25 : decode method_2_code 25 = .ok (.bipush 12, 2) := by decide +kernel
theorem d1_27 : decode method_2_code 27 = .ok (.if_icmp .lt 5, 3) := by decide +kernel
theorem d1_30 : decode method_2_code 30 = .ok (.iconst 2, 1) := by decide +kernel
theorem d1_31 : decode method_2_code 31 = .ok (.ireturn, 1) := by decide +kernel
theorem d1_32 : decode method_2_code 32 = .ok (.iconst 1, 1) := by decide +kernel
theorem d1_33 : decode method_2_code 33 = .ok (.ireturn, 1) := by decide +kernel
set_option maxRecDepth 65536 in
set_option maxHeartbeats 40000000 in
theorem rm1 (l : Launch) (Z : State) (a0 : Array Value) (hw : ∀ d ∈ tables_1, d.before a0 Z = true) (p0 : Int32) (h0 : Heap) (n0 : Nat) (Z0 : n0 ≤ h0.size)  :
    own_C l Z (⟨"com/example/gentle_indent/gentleindent/util/Utf8WholeEndPinLaw", "need", "(B)I"⟩ : MethodName) method_2_code 2 (some .int) [] ({ frames := 0, cells := 0, slots := 0, locals := 0 } : Room) #[(.int p0)] h0 (fun v h L => v = some (.int (own_need p0)) ∧ Fr n0 L ∧ h = h0) := by
  refine own_body (by first | (simp [plainName, overriddenIn]; done) | decide +kernel) ?_
  intro p e s m below meth c T0 hx hby hml hown hnm hret hlk hZ X0 e0
  have N0 := Fr.nil n0
  refine own_eq (f' := (mkF m 0 #[.val (.int p0), .unset] [])) (by first | (simp [entryFrame, mkF, argsToLocals, Value.category]; done) | rfl) ?_
  refine own_iloadN X0 hx 1 (hb hby d1_0) rfl rfl ?_
  refine own_sipush X0 hx 4 (255 : Int32) (by decide) (hb hby d1_1) rfl ?_
  refine own_iand X0 hx 5 (hb hby d1_4) rfl ?_
  refine own_iconst X0 hx 6 (4 : Int32) (by decide) (hb hby d1_5) rfl ?_
  refine own_ishr X0 hx 7 (hb hby d1_6) rfl ?_
  refine own_istoreN X0 hx 8 #[.val (.int p0), .val (.int ((p0 &&& (255 : Int32)) >>> ((4 : Int32) &&& 31)))] rfl (hb hby d1_7) rfl rfl ?_
  refine own_iloadN X0 hx 9 (hb hby d1_8) rfl rfl ?_
  refine own_bipush X0 hx 11 (15 : Int32) (by decide) (hb hby d1_9) rfl ?_
  refine own_icmp_ne X0 hx 16 14 (hb hby d1_11) (by decide) (by decide) rfl (fun h1 => ?_) (fun h1 => ?_)
  · show own_W p e below _ T0 (mkF m 16 #[.val (.int p0), .val (.int ((p0 &&& (255 : Int32)) >>> ((4 : Int32) &&& 31)))] [])
    refine own_iloadN X0 hx 17 (hb hby d1_16) rfl rfl ?_
    refine own_bipush X0 hx 19 (14 : Int32) (by decide) (hb hby d1_17) rfl ?_
    refine own_icmp_ne X0 hx 24 22 (hb hby d1_19) (by decide) (by decide) rfl (fun h2 => ?_) (fun h2 => ?_)
    · show own_W p e below _ T0 (mkF m 24 #[.val (.int p0), .val (.int ((p0 &&& (255 : Int32)) >>> ((4 : Int32) &&& 31)))] [])
      refine own_iloadN X0 hx 25 (hb hby d1_24) rfl rfl ?_
      refine own_bipush X0 hx 27 (12 : Int32) (by decide) (hb hby d1_25) rfl ?_
      refine own_icmp_lt X0 hx 32 30 (hb hby d1_27) (by decide) (by decide) rfl (fun h3 => ?_) (fun h3 => ?_)
      · show own_W p e below _ T0 (mkF m 32 #[.val (.int p0), .val (.int ((p0 &&& (255 : Int32)) >>> ((4 : Int32) &&& 31)))] [])
        refine own_iconst X0 hx 33 (1 : Int32) (by decide) (hb hby d1_32) rfl ?_
        exact own_retI X0 hx hret hlk (hb hby d1_33) (by decide) (by decide) ⟨by unfold own_need; rw [if_neg h1, if_neg h2, if_pos h3], N0, e0⟩
      · show own_W p e below _ T0 (mkF m 30 #[.val (.int p0), .val (.int ((p0 &&& (255 : Int32)) >>> ((4 : Int32) &&& 31)))] [])
        refine own_iconst X0 hx 31 (2 : Int32) (by decide) (hb hby d1_30) rfl ?_
        exact own_retI X0 hx hret hlk (hb hby d1_31) (by decide) (by decide) ⟨by unfold own_need; rw [if_neg h1, if_neg h2, if_neg h3], N0, e0⟩
    · show own_W p e below _ T0 (mkF m 22 #[.val (.int p0), .val (.int ((p0 &&& (255 : Int32)) >>> ((4 : Int32) &&& 31)))] [])
      refine own_iconst X0 hx 23 (3 : Int32) (by decide) (hb hby d1_22) rfl ?_
      exact own_retI X0 hx hret hlk (hb hby d1_23) (by decide) (by decide) ⟨by unfold own_need; rw [if_neg h1, if_pos h2], N0, e0⟩
  · show own_W p e below _ T0 (mkF m 14 #[.val (.int p0), .val (.int ((p0 &&& (255 : Int32)) >>> ((4 : Int32) &&& 31)))] [])
    refine own_iconst X0 hx 15 (4 : Int32) (by decide) (hb hby d1_14) rfl ?_
    exact own_retI X0 hx hret hlk (hb hby d1_15) (by decide) (by decide) ⟨by unfold own_need; rw [if_pos h1], N0, e0⟩
theorem d2_0 : decode method_3_code 0 = .ok (.iload_n 0, 1) := by decide +kernel
theorem d2_1 : decode method_3_code 1 = .ok (.sipush 192, 3) := by decide +kernel
theorem d2_4 : decode method_3_code 4 = .ok (.iand, 1) := by decide +kernel
theorem d2_5 : decode method_3_code 5 = .ok (.sipush 128, 3) := by decide +kernel
theorem d2_8 : decode method_3_code 8 = .ok (.if_icmp .ne 7, 3) := by decide +kernel
theorem d2_11 : decode method_3_code 11 = .ok (.iconst 1, 1) := by decide +kernel
theorem d2_12 : decode method_3_code 12 = .ok (.goto 4, 3) := by decide +kernel
theorem d2_15 : decode method_3_code 15 = .ok (.iconst 0, 1) := by decide +kernel
theorem d2_16 : decode method_3_code 16 = .ok (.ireturn, 1) := by decide +kernel
set_option maxRecDepth 65536 in
set_option maxHeartbeats 40000000 in
theorem rm2 (l : Launch) (Z : State) (a0 : Array Value) (hw : ∀ d ∈ tables_1, d.before a0 Z = true) (p0 : Int32) (h0 : Heap) (n0 : Nat) (Z0 : n0 ≤ h0.size)  :
    own_C l Z (⟨"com/example/gentle_indent/gentleindent/util/Utf8WholeEndPinLaw", "cont", "(B)Z"⟩ : MethodName) method_3_code 1 (some .boolean) [] ({ frames := 0, cells := 0, slots := 0, locals := 0 } : Room) #[(.int p0)] h0 (fun v h L => v = some (.int (own_cont p0)) ∧ Fr n0 L ∧ h = h0) := by
  refine own_body (by first | (simp [plainName, overriddenIn]; done) | decide +kernel) ?_
  intro p e s m below meth c T0 hx hby hml hown hnm hret hlk hZ X0 e0
  have N0 := Fr.nil n0
  refine own_eq (f' := (mkF m 0 #[.val (.int p0)] [])) (by first | (simp [entryFrame, mkF, argsToLocals, Value.category]; done) | rfl) ?_
  refine own_iloadN X0 hx 1 (hb hby d2_0) rfl rfl ?_
  refine own_sipush X0 hx 4 (192 : Int32) (by decide) (hb hby d2_1) rfl ?_
  refine own_iand X0 hx 5 (hb hby d2_4) rfl ?_
  refine own_sipush X0 hx 8 (128 : Int32) (by decide) (hb hby d2_5) rfl ?_
  refine own_icmp_ne X0 hx 15 11 (hb hby d2_8) (by decide) (by decide) rfl (fun h1 => ?_) (fun h1 => ?_)
  · show own_W p e below _ T0 (mkF m 15 #[.val (.int p0)] [])
    refine own_iconst X0 hx 16 (0 : Int32) (by decide) (hb hby d2_15) rfl ?_
    exact own_retZ X0 hx (0 : Int32) (by decide) hret hlk (hb hby d2_16) (by decide) (by decide) ⟨by unfold own_cont; rw [if_neg h1], N0, e0⟩
  · show own_W p e below _ T0 (mkF m 11 #[.val (.int p0)] [])
    refine own_iconst X0 hx 12 (1 : Int32) (by decide) (hb hby d2_11) rfl ?_
    refine own_goto X0 hx 16 (hb hby d2_12) (by decide) (by decide) ?_
    exact own_retZ X0 hx (1 : Int32) (by decide) hret hlk (hb hby d2_16) (by decide) (by decide) ⟨by unfold own_cont; rw [if_pos h1], N0, e0⟩
theorem d101_0 : decode method_4_code 0 = .ok (.iload_n 1, 1) := by decide +kernel
theorem d101_1 : decode method_4_code 1 = .ok (.iload_n 2, 1) := by decide +kernel
theorem d101_2 : decode method_4_code 2 = .ok (.isub, 1) := by decide +kernel
theorem d101_3 : decode method_4_code 3 = .ok (.istore_n 3, 1) := by decide +kernel
theorem d101_4 : decode method_4_code 4 = .ok (.iload_n 3, 1) := by decide +kernel
theorem d101_5 : decode method_4_code 5 = .ok (.ifCond .ge 5, 3) := by decide +kernel
theorem d101_8 : decode method_4_code 8 = .ok (.iconst 0, 1) := by decide +kernel
theorem d101_9 : decode method_4_code 9 = .ok (.ireturn, 1) := by decide +kernel
set_option maxRecDepth 65536 in
set_option maxHeartbeats 40000000 in
theorem rm3_0_1 (l : Launch) (Z : State) (a0 : Array Value) (hw : ∀ d ∈ tables_1, d.before a0 Z = true) (a : Addr) (f : Nat → Int32) (h0 : Heap) (n0 : Nat) (Z0 : n0 ≤ h0.size) (A_a : own_AI Z h0 a .byte 6 f) :
    own_C l Z (⟨"com/example/gentle_indent/gentleindent/util/Utf8WholeEndPinLaw", "cutAt", "([BII)Z"⟩ : MethodName) method_4_code 4 (some .boolean) [] ({ frames := 1, cells := 0, slots := 0, locals := 16 } : Room) #[(.ref a), (.int (0 : Int32)), (.int (1 : Int32))] h0 (fun v h L => v = some (.int (own_cut_0_1 f)) ∧ Fr n0 L ∧ h = h0) := by
  refine own_body (by first | (simp [plainName, overriddenIn]; done) | decide +kernel) ?_
  intro p e s m below meth c T0 hx hby hml hown hnm hret hlk hZ X0 e0
  have N0 := Fr.nil n0
  refine own_eq (f' := (mkF m 0 #[.val (.ref a), .val (.int (0 : Int32)), .val (.int (1 : Int32)), .unset] [])) (by first | (simp [entryFrame, mkF, argsToLocals, Value.category]; done) | rfl) ?_
  refine own_iloadN X0 hx 1 (hb hby d101_0) rfl rfl ?_
  refine own_iloadN X0 hx 2 (hb hby d101_1) rfl rfl ?_
  refine own_isubz X0 hx 3 (z := (-1 : Int32)) (by decide) (hb hby d101_2) rfl ?_
  refine own_istoreN X0 hx 4 #[.val (.ref a), .val (.int (0 : Int32)), .val (.int (1 : Int32)), .val (.int (-1 : Int32))] rfl (hb hby d101_3) rfl rfl ?_
  refine own_iloadN X0 hx 5 (hb hby d101_4) rfl rfl ?_
  refine own_if_ge X0 hx 10 8 (hb hby d101_5) (by decide) (by decide) rfl (fun h1 => ?_) (fun h1 => ?_)
  · exact absurd h1 (by decide)
  · show own_W p e below _ T0 (mkF m 8 #[.val (.ref a), .val (.int (0 : Int32)), .val (.int (1 : Int32)), .val (.int (-1 : Int32))] [])
    refine own_iconst X0 hx 9 (0 : Int32) (by decide) (hb hby d101_8) rfl ?_
    exact own_retZ X0 hx (0 : Int32) (by decide) hret hlk (hb hby d101_9) (by decide) (by decide) ⟨by unfold own_cut_0_1; skip; rfl, N0, e0⟩
theorem d102_0 : decode method_4_code 0 = .ok (.iload_n 1, 1) := by decide +kernel
theorem d102_1 : decode method_4_code 1 = .ok (.iload_n 2, 1) := by decide +kernel
theorem d102_2 : decode method_4_code 2 = .ok (.isub, 1) := by decide +kernel
theorem d102_3 : decode method_4_code 3 = .ok (.istore_n 3, 1) := by decide +kernel
theorem d102_4 : decode method_4_code 4 = .ok (.iload_n 3, 1) := by decide +kernel
theorem d102_5 : decode method_4_code 5 = .ok (.ifCond .ge 5, 3) := by decide +kernel
theorem d102_8 : decode method_4_code 8 = .ok (.iconst 0, 1) := by decide +kernel
theorem d102_9 : decode method_4_code 9 = .ok (.ireturn, 1) := by decide +kernel
set_option maxRecDepth 65536 in
set_option maxHeartbeats 40000000 in
theorem rm3_0_2 (l : Launch) (Z : State) (a0 : Array Value) (hw : ∀ d ∈ tables_1, d.before a0 Z = true) (a : Addr) (f : Nat → Int32) (h0 : Heap) (n0 : Nat) (Z0 : n0 ≤ h0.size) (A_a : own_AI Z h0 a .byte 6 f) :
    own_C l Z (⟨"com/example/gentle_indent/gentleindent/util/Utf8WholeEndPinLaw", "cutAt", "([BII)Z"⟩ : MethodName) method_4_code 4 (some .boolean) [] ({ frames := 1, cells := 0, slots := 0, locals := 16 } : Room) #[(.ref a), (.int (0 : Int32)), (.int (2 : Int32))] h0 (fun v h L => v = some (.int (own_cut_0_2 f)) ∧ Fr n0 L ∧ h = h0) := by
  refine own_body (by first | (simp [plainName, overriddenIn]; done) | decide +kernel) ?_
  intro p e s m below meth c T0 hx hby hml hown hnm hret hlk hZ X0 e0
  have N0 := Fr.nil n0
  refine own_eq (f' := (mkF m 0 #[.val (.ref a), .val (.int (0 : Int32)), .val (.int (2 : Int32)), .unset] [])) (by first | (simp [entryFrame, mkF, argsToLocals, Value.category]; done) | rfl) ?_
  refine own_iloadN X0 hx 1 (hb hby d102_0) rfl rfl ?_
  refine own_iloadN X0 hx 2 (hb hby d102_1) rfl rfl ?_
  refine own_isubz X0 hx 3 (z := (-2 : Int32)) (by decide) (hb hby d102_2) rfl ?_
  refine own_istoreN X0 hx 4 #[.val (.ref a), .val (.int (0 : Int32)), .val (.int (2 : Int32)), .val (.int (-2 : Int32))] rfl (hb hby d102_3) rfl rfl ?_
  refine own_iloadN X0 hx 5 (hb hby d102_4) rfl rfl ?_
  refine own_if_ge X0 hx 10 8 (hb hby d102_5) (by decide) (by decide) rfl (fun h1 => ?_) (fun h1 => ?_)
  · exact absurd h1 (by decide)
  · show own_W p e below _ T0 (mkF m 8 #[.val (.ref a), .val (.int (0 : Int32)), .val (.int (2 : Int32)), .val (.int (-2 : Int32))] [])
    refine own_iconst X0 hx 9 (0 : Int32) (by decide) (hb hby d102_8) rfl ?_
    exact own_retZ X0 hx (0 : Int32) (by decide) hret hlk (hb hby d102_9) (by decide) (by decide) ⟨by unfold own_cut_0_2; skip; rfl, N0, e0⟩
theorem d103_0 : decode method_4_code 0 = .ok (.iload_n 1, 1) := by decide +kernel
theorem d103_1 : decode method_4_code 1 = .ok (.iload_n 2, 1) := by decide +kernel
theorem d103_2 : decode method_4_code 2 = .ok (.isub, 1) := by decide +kernel
theorem d103_3 : decode method_4_code 3 = .ok (.istore_n 3, 1) := by decide +kernel
theorem d103_4 : decode method_4_code 4 = .ok (.iload_n 3, 1) := by decide +kernel
theorem d103_5 : decode method_4_code 5 = .ok (.ifCond .ge 5, 3) := by decide +kernel
theorem d103_8 : decode method_4_code 8 = .ok (.iconst 0, 1) := by decide +kernel
theorem d103_9 : decode method_4_code 9 = .ok (.ireturn, 1) := by decide +kernel
set_option maxRecDepth 65536 in
set_option maxHeartbeats 40000000 in
theorem rm3_0_3 (l : Launch) (Z : State) (a0 : Array Value) (hw : ∀ d ∈ tables_1, d.before a0 Z = true) (a : Addr) (f : Nat → Int32) (h0 : Heap) (n0 : Nat) (Z0 : n0 ≤ h0.size) (A_a : own_AI Z h0 a .byte 6 f) :
    own_C l Z (⟨"com/example/gentle_indent/gentleindent/util/Utf8WholeEndPinLaw", "cutAt", "([BII)Z"⟩ : MethodName) method_4_code 4 (some .boolean) [] ({ frames := 1, cells := 0, slots := 0, locals := 16 } : Room) #[(.ref a), (.int (0 : Int32)), (.int (3 : Int32))] h0 (fun v h L => v = some (.int (own_cut_0_3 f)) ∧ Fr n0 L ∧ h = h0) := by
  refine own_body (by first | (simp [plainName, overriddenIn]; done) | decide +kernel) ?_
  intro p e s m below meth c T0 hx hby hml hown hnm hret hlk hZ X0 e0
  have N0 := Fr.nil n0
  refine own_eq (f' := (mkF m 0 #[.val (.ref a), .val (.int (0 : Int32)), .val (.int (3 : Int32)), .unset] [])) (by first | (simp [entryFrame, mkF, argsToLocals, Value.category]; done) | rfl) ?_
  refine own_iloadN X0 hx 1 (hb hby d103_0) rfl rfl ?_
  refine own_iloadN X0 hx 2 (hb hby d103_1) rfl rfl ?_
  refine own_isubz X0 hx 3 (z := (-3 : Int32)) (by decide) (hb hby d103_2) rfl ?_
  refine own_istoreN X0 hx 4 #[.val (.ref a), .val (.int (0 : Int32)), .val (.int (3 : Int32)), .val (.int (-3 : Int32))] rfl (hb hby d103_3) rfl rfl ?_
  refine own_iloadN X0 hx 5 (hb hby d103_4) rfl rfl ?_
  refine own_if_ge X0 hx 10 8 (hb hby d103_5) (by decide) (by decide) rfl (fun h1 => ?_) (fun h1 => ?_)
  · exact absurd h1 (by decide)
  · show own_W p e below _ T0 (mkF m 8 #[.val (.ref a), .val (.int (0 : Int32)), .val (.int (3 : Int32)), .val (.int (-3 : Int32))] [])
    refine own_iconst X0 hx 9 (0 : Int32) (by decide) (hb hby d103_8) rfl ?_
    exact own_retZ X0 hx (0 : Int32) (by decide) hret hlk (hb hby d103_9) (by decide) (by decide) ⟨by unfold own_cut_0_3; skip; rfl, N0, e0⟩
theorem d200_0 : decode prog_84_method_4_code 0 = .ok (.iload_n 1, 1) := by decide +kernel
theorem d200_1 : decode prog_84_method_4_code 1 = .ok (.iconst 1, 1) := by decide +kernel
theorem d200_2 : decode prog_84_method_4_code 2 = .ok (.isub, 1) := by decide +kernel
theorem d200_3 : decode prog_84_method_4_code 3 = .ok (.istore_n 2, 1) := by decide +kernel
theorem d200_4 : decode prog_84_method_4_code 4 = .ok (.iload_n 2, 1) := by decide +kernel
theorem d200_5 : decode prog_84_method_4_code 5 = .ok (.ifCond .le 29, 3) := by decide +kernel
theorem d200_34 : decode prog_84_method_4_code 34 = .ok (.iload_n 2, 1) := by decide +kernel
theorem d200_35 : decode prog_84_method_4_code 35 = .ok (.ifCond .ge 5, 3) := by decide +kernel
theorem d200_38 : decode prog_84_method_4_code 38 = .ok (.iload_n 1, 1) := by decide +kernel
theorem d200_39 : decode prog_84_method_4_code 39 = .ok (.ireturn, 1) := by decide +kernel
set_option maxRecDepth 65536 in
set_option maxHeartbeats 40000000 in
theorem rm4_0 (l : Launch) (Z : State) (a0 : Array Value) (hw : ∀ d ∈ tables_1, d.before a0 Z = true) (a : Addr) (f : Nat → Int32) (h0 : Heap) (n0 : Nat) (Z0 : n0 ≤ h0.size) (A_a : own_AI Z h0 a .byte 6 f) :
    own_C l Z (⟨"com/example/gentle_indent/gentleindent/util/Utf8", "wholeEnd", "([BI)I"⟩ : MethodName) prog_84_method_4_code 5 (some .int) [] ({ frames := 0, cells := 0, slots := 0, locals := 0 } : Room) #[(.ref a), (.int (0 : Int32))] h0 (fun v h L => v = some (.int (own_we_0 f)) ∧ Fr n0 L ∧ h = h0) := by
  refine own_body (by first | (simp [plainName, overriddenIn]; done) | decide +kernel) ?_
  intro p e s m below meth c T0 hx hby hml hown hnm hret hlk hZ X0 e0
  have N0 := Fr.nil n0
  refine own_eq (f' := (mkF m 0 #[.val (.ref a), .val (.int (0 : Int32)), .unset, .unset, .unset] [])) (by first | (simp [entryFrame, mkF, argsToLocals, Value.category]; done) | rfl) ?_
  refine own_iloadN X0 hx 1 (hb hby d200_0) rfl rfl ?_
  refine own_iconst X0 hx 2 (1 : Int32) (by decide) (hb hby d200_1) rfl ?_
  refine own_isubz X0 hx 3 (z := (-1 : Int32)) (by decide) (hb hby d200_2) rfl ?_
  refine own_istoreN X0 hx 4 #[.val (.ref a), .val (.int (0 : Int32)), .val (.int (-1 : Int32)), .unset, .unset] rfl (hb hby d200_3) rfl rfl ?_
  refine own_iloadN X0 hx 5 (hb hby d200_4) rfl rfl ?_
  refine own_if_le X0 hx 34 8 (hb hby d200_5) (by decide) (by decide) rfl (fun h1 => ?_) (fun h1 => ?_)
  · show own_W p e below _ T0 (mkF m 34 #[.val (.ref a), .val (.int (0 : Int32)), .val (.int (-1 : Int32)), .unset, .unset] [])
    refine own_iloadN X0 hx 35 (hb hby d200_34) rfl rfl ?_
    refine own_if_ge X0 hx 40 38 (hb hby d200_35) (by decide) (by decide) rfl (fun h2 => ?_) (fun h2 => ?_)
    · exact absurd h2 (by decide)
    · show own_W p e below _ T0 (mkF m 38 #[.val (.ref a), .val (.int (0 : Int32)), .val (.int (-1 : Int32)), .unset, .unset] [])
      refine own_iloadN X0 hx 39 (hb hby d200_38) rfl rfl ?_
      exact own_retI X0 hx hret hlk (hb hby d200_39) (by decide) (by decide) ⟨by unfold own_we_0; skip; rfl, N0, e0⟩
  · exact absurd h1 (by decide)
theorem d111_0 : decode method_4_code 0 = .ok (.iload_n 1, 1) := by decide +kernel
theorem d111_1 : decode method_4_code 1 = .ok (.iload_n 2, 1) := by decide +kernel
theorem d111_2 : decode method_4_code 2 = .ok (.isub, 1) := by decide +kernel
theorem d111_3 : decode method_4_code 3 = .ok (.istore_n 3, 1) := by decide +kernel
theorem d111_4 : decode method_4_code 4 = .ok (.iload_n 3, 1) := by decide +kernel
theorem d111_5 : decode method_4_code 5 = .ok (.ifCond .ge 5, 3) := by decide +kernel
theorem d111_10 : decode method_4_code 10 = .ok (.aload_n 0, 1) := by decide +kernel
theorem d111_11 : decode method_4_code 11 = .ok (.iload_n 3, 1) := by decide +kernel
theorem d111_12 : decode method_4_code 12 = .ok (.baload, 1) := by decide +kernel
theorem d111_13 : decode method_4_code 13 = .ok (.invokestatic 7, 3) := by decide +kernel
theorem d111_16 : decode method_4_code 16 = .ok (.iload_n 2, 1) := by decide +kernel
theorem d111_17 : decode method_4_code 17 = .ok (.if_icmp .gt 5, 3) := by decide +kernel
theorem d111_20 : decode method_4_code 20 = .ok (.iconst 0, 1) := by decide +kernel
theorem d111_21 : decode method_4_code 21 = .ok (.ireturn, 1) := by decide +kernel
theorem d111_22 : decode method_4_code 22 = .ok (.iload_n 2, 1) := by decide +kernel
theorem d111_23 : decode method_4_code 23 = .ok (.iconst 2, 1) := by decide +kernel
theorem d111_24 : decode method_4_code 24 = .ok (.if_icmp .lt 16, 3) := by decide +kernel
theorem d111_40 : decode method_4_code 40 = .ok (.iload_n 2, 1) := by decide +kernel
theorem d111_41 : decode method_4_code 41 = .ok (.iconst 3, 1) := by decide +kernel
theorem d111_42 : decode method_4_code 42 = .ok (.if_icmp .lt 16, 3) := by decide +kernel
theorem d111_58 : decode method_4_code 58 = .ok (.iconst 1, 1) := by decide +kernel
theorem d111_59 : decode method_4_code 59 = .ok (.ireturn, 1) := by decide +kernel
set_option maxRecDepth 65536 in
set_option maxHeartbeats 40000000 in
theorem rm3_1_1 (l : Launch) (Z : State) (a0 : Array Value) (hw : ∀ d ∈ tables_1, d.before a0 Z = true) (a : Addr) (f : Nat → Int32) (h0 : Heap) (n0 : Nat) (Z0 : n0 ≤ h0.size) (A_a : own_AI Z h0 a .byte 6 f) :
    own_C l Z (⟨"com/example/gentle_indent/gentleindent/util/Utf8WholeEndPinLaw", "cutAt", "([BII)Z"⟩ : MethodName) method_4_code 4 (some .boolean) [] ({ frames := 1, cells := 0, slots := 0, locals := 16 } : Room) #[(.ref a), (.int (1 : Int32)), (.int (1 : Int32))] h0 (fun v h L => v = some (.int (own_cut_1_1 f)) ∧ Fr n0 L ∧ h = h0) := by
  refine own_body (by first | (simp [plainName, overriddenIn]; done) | decide +kernel) ?_
  intro p e s m below meth c T0 hx hby hml hown hnm hret hlk hZ X0 e0
  have N0 := Fr.nil n0
  refine own_eq (f' := (mkF m 0 #[.val (.ref a), .val (.int (1 : Int32)), .val (.int (1 : Int32)), .unset] [])) (by first | (simp [entryFrame, mkF, argsToLocals, Value.category]; done) | rfl) ?_
  refine own_iloadN X0 hx 1 (hb hby d111_0) rfl rfl ?_
  refine own_iloadN X0 hx 2 (hb hby d111_1) rfl rfl ?_
  refine own_isubz X0 hx 3 (z := (0 : Int32)) (by decide) (hb hby d111_2) rfl ?_
  refine own_istoreN X0 hx 4 #[.val (.ref a), .val (.int (1 : Int32)), .val (.int (1 : Int32)), .val (.int (0 : Int32))] rfl (hb hby d111_3) rfl rfl ?_
  refine own_iloadN X0 hx 5 (hb hby d111_4) rfl rfl ?_
  refine own_if_ge X0 hx 10 8 (hb hby d111_5) (by decide) (by decide) rfl (fun h1 => ?_) (fun h1 => ?_)
  · show own_W p e below _ T0 (mkF m 10 #[.val (.ref a), .val (.int (1 : Int32)), .val (.int (1 : Int32)), .val (.int (0 : Int32))] [])
    refine own_aloadN X0 hx 11 (hb hby d111_10) rfl rfl ?_
    refine own_iloadN X0 hx 12 (hb hby d111_11) rfl rfl ?_
    refine own_baload X0 hx hZ e0 13 0 A_a rfl (by decide) (hb hby d111_12) rfl ?_
    refine own_callS X0 hx hZ hown e0 (y := (⟨"com/example/gentle_indent/gentleindent/util/Utf8WholeEndPinLaw", "need", "(B)I"⟩ : MethodName)) (argsL := [(.int (f 0))]) (rest := []) 16 (rm1 l Z a0 hw (f 0) h0 n0 Z0) (hw _ (List.mem_of_getElem? (i := 6) rfl)) (hw _ (List.mem_of_getElem? (i := 7) rfl)) (hw _ (List.mem_of_getElem? (i := 4) rfl)) (hw _ (List.mem_of_getElem? (i := 8) rfl)) (by decide) (by rw [hml]; rfl) (lenOf (by decide +kernel : parseMethodDescriptor "(B)I" = some ⟨[.byte], some .int⟩) rfl) rfl (hb hby d111_13) rfl (W := 0) rfl (by decide) (by decide) (by decide) (by decide) (fun r2 T3 L4 X5 q6 => ?_)
    obtain ⟨rfl, N7q, e8⟩ := q6
    have N7 := Fr.app N0 N7q
    show own_W p e below _ T3 (mkF m 16 #[.val (.ref a), .val (.int (1 : Int32)), .val (.int (1 : Int32)), .val (.int (0 : Int32))] [(.int (own_need (f 0)))])
    refine own_iloadN X5 hx 17 (hb hby d111_16) rfl rfl ?_
    refine own_icmp_gt X5 hx 22 20 (hb hby d111_17) (by decide) (by decide) rfl (fun h9 => ?_) (fun h9 => ?_)
    · show own_W p e below _ T3 (mkF m 22 #[.val (.ref a), .val (.int (1 : Int32)), .val (.int (1 : Int32)), .val (.int (0 : Int32))] [])
      refine own_iloadN X5 hx 23 (hb hby d111_22) rfl rfl ?_
      refine own_iconst X5 hx 24 (2 : Int32) (by decide) (hb hby d111_23) rfl ?_
      refine own_icmp_lt X5 hx 40 27 (hb hby d111_24) (by decide) (by decide) rfl (fun h10 => ?_) (fun h10 => ?_)
      · show own_W p e below _ T3 (mkF m 40 #[.val (.ref a), .val (.int (1 : Int32)), .val (.int (1 : Int32)), .val (.int (0 : Int32))] [])
        refine own_iloadN X5 hx 41 (hb hby d111_40) rfl rfl ?_
        refine own_iconst X5 hx 42 (3 : Int32) (by decide) (hb hby d111_41) rfl ?_
        refine own_icmp_lt X5 hx 58 45 (hb hby d111_42) (by decide) (by decide) rfl (fun h11 => ?_) (fun h11 => ?_)
        · show own_W p e below _ T3 (mkF m 58 #[.val (.ref a), .val (.int (1 : Int32)), .val (.int (1 : Int32)), .val (.int (0 : Int32))] [])
          refine own_iconst X5 hx 59 (1 : Int32) (by decide) (hb hby d111_58) rfl ?_
          exact own_retZ X5 hx (1 : Int32) (by decide) hret hlk (hb hby d111_59) (by decide) (by decide) ⟨by unfold own_cut_1_1; rw [if_pos h9], N7, e8⟩
        · exact absurd h11 (by decide)
      · exact absurd h10 (by decide)
    · show own_W p e below _ T3 (mkF m 20 #[.val (.ref a), .val (.int (1 : Int32)), .val (.int (1 : Int32)), .val (.int (0 : Int32))] [])
      refine own_iconst X5 hx 21 (0 : Int32) (by decide) (hb hby d111_20) rfl ?_
      exact own_retZ X5 hx (0 : Int32) (by decide) hret hlk (hb hby d111_21) (by decide) (by decide) ⟨by unfold own_cut_1_1; rw [if_neg h9], N7, e8⟩
  · exact absurd h1 (by decide)
theorem d112_0 : decode method_4_code 0 = .ok (.iload_n 1, 1) := by decide +kernel
theorem d112_1 : decode method_4_code 1 = .ok (.iload_n 2, 1) := by decide +kernel
theorem d112_2 : decode method_4_code 2 = .ok (.isub, 1) := by decide +kernel
theorem d112_3 : decode method_4_code 3 = .ok (.istore_n 3, 1) := by decide +kernel
theorem d112_4 : decode method_4_code 4 = .ok (.iload_n 3, 1) := by decide +kernel
theorem d112_5 : decode method_4_code 5 = .ok (.ifCond .ge 5, 3) := by decide +kernel
theorem d112_8 : decode method_4_code 8 = .ok (.iconst 0, 1) := by decide +kernel
theorem d112_9 : decode method_4_code 9 = .ok (.ireturn, 1) := by decide +kernel
set_option maxRecDepth 65536 in
set_option maxHeartbeats 40000000 in
theorem rm3_1_2 (l : Launch) (Z : State) (a0 : Array Value) (hw : ∀ d ∈ tables_1, d.before a0 Z = true) (a : Addr) (f : Nat → Int32) (h0 : Heap) (n0 : Nat) (Z0 : n0 ≤ h0.size) (A_a : own_AI Z h0 a .byte 6 f) :
    own_C l Z (⟨"com/example/gentle_indent/gentleindent/util/Utf8WholeEndPinLaw", "cutAt", "([BII)Z"⟩ : MethodName) method_4_code 4 (some .boolean) [] ({ frames := 1, cells := 0, slots := 0, locals := 16 } : Room) #[(.ref a), (.int (1 : Int32)), (.int (2 : Int32))] h0 (fun v h L => v = some (.int (own_cut_1_2 f)) ∧ Fr n0 L ∧ h = h0) := by
  refine own_body (by first | (simp [plainName, overriddenIn]; done) | decide +kernel) ?_
  intro p e s m below meth c T0 hx hby hml hown hnm hret hlk hZ X0 e0
  have N0 := Fr.nil n0
  refine own_eq (f' := (mkF m 0 #[.val (.ref a), .val (.int (1 : Int32)), .val (.int (2 : Int32)), .unset] [])) (by first | (simp [entryFrame, mkF, argsToLocals, Value.category]; done) | rfl) ?_
  refine own_iloadN X0 hx 1 (hb hby d112_0) rfl rfl ?_
  refine own_iloadN X0 hx 2 (hb hby d112_1) rfl rfl ?_
  refine own_isubz X0 hx 3 (z := (-1 : Int32)) (by decide) (hb hby d112_2) rfl ?_
  refine own_istoreN X0 hx 4 #[.val (.ref a), .val (.int (1 : Int32)), .val (.int (2 : Int32)), .val (.int (-1 : Int32))] rfl (hb hby d112_3) rfl rfl ?_
  refine own_iloadN X0 hx 5 (hb hby d112_4) rfl rfl ?_
  refine own_if_ge X0 hx 10 8 (hb hby d112_5) (by decide) (by decide) rfl (fun h1 => ?_) (fun h1 => ?_)
  · exact absurd h1 (by decide)
  · show own_W p e below _ T0 (mkF m 8 #[.val (.ref a), .val (.int (1 : Int32)), .val (.int (2 : Int32)), .val (.int (-1 : Int32))] [])
    refine own_iconst X0 hx 9 (0 : Int32) (by decide) (hb hby d112_8) rfl ?_
    exact own_retZ X0 hx (0 : Int32) (by decide) hret hlk (hb hby d112_9) (by decide) (by decide) ⟨by unfold own_cut_1_2; skip; rfl, N0, e0⟩
theorem d113_0 : decode method_4_code 0 = .ok (.iload_n 1, 1) := by decide +kernel
theorem d113_1 : decode method_4_code 1 = .ok (.iload_n 2, 1) := by decide +kernel
theorem d113_2 : decode method_4_code 2 = .ok (.isub, 1) := by decide +kernel
theorem d113_3 : decode method_4_code 3 = .ok (.istore_n 3, 1) := by decide +kernel
theorem d113_4 : decode method_4_code 4 = .ok (.iload_n 3, 1) := by decide +kernel
theorem d113_5 : decode method_4_code 5 = .ok (.ifCond .ge 5, 3) := by decide +kernel
theorem d113_8 : decode method_4_code 8 = .ok (.iconst 0, 1) := by decide +kernel
theorem d113_9 : decode method_4_code 9 = .ok (.ireturn, 1) := by decide +kernel
set_option maxRecDepth 65536 in
set_option maxHeartbeats 40000000 in
theorem rm3_1_3 (l : Launch) (Z : State) (a0 : Array Value) (hw : ∀ d ∈ tables_1, d.before a0 Z = true) (a : Addr) (f : Nat → Int32) (h0 : Heap) (n0 : Nat) (Z0 : n0 ≤ h0.size) (A_a : own_AI Z h0 a .byte 6 f) :
    own_C l Z (⟨"com/example/gentle_indent/gentleindent/util/Utf8WholeEndPinLaw", "cutAt", "([BII)Z"⟩ : MethodName) method_4_code 4 (some .boolean) [] ({ frames := 1, cells := 0, slots := 0, locals := 16 } : Room) #[(.ref a), (.int (1 : Int32)), (.int (3 : Int32))] h0 (fun v h L => v = some (.int (own_cut_1_3 f)) ∧ Fr n0 L ∧ h = h0) := by
  refine own_body (by first | (simp [plainName, overriddenIn]; done) | decide +kernel) ?_
  intro p e s m below meth c T0 hx hby hml hown hnm hret hlk hZ X0 e0
  have N0 := Fr.nil n0
  refine own_eq (f' := (mkF m 0 #[.val (.ref a), .val (.int (1 : Int32)), .val (.int (3 : Int32)), .unset] [])) (by first | (simp [entryFrame, mkF, argsToLocals, Value.category]; done) | rfl) ?_
  refine own_iloadN X0 hx 1 (hb hby d113_0) rfl rfl ?_
  refine own_iloadN X0 hx 2 (hb hby d113_1) rfl rfl ?_
  refine own_isubz X0 hx 3 (z := (-2 : Int32)) (by decide) (hb hby d113_2) rfl ?_
  refine own_istoreN X0 hx 4 #[.val (.ref a), .val (.int (1 : Int32)), .val (.int (3 : Int32)), .val (.int (-2 : Int32))] rfl (hb hby d113_3) rfl rfl ?_
  refine own_iloadN X0 hx 5 (hb hby d113_4) rfl rfl ?_
  refine own_if_ge X0 hx 10 8 (hb hby d113_5) (by decide) (by decide) rfl (fun h1 => ?_) (fun h1 => ?_)
  · exact absurd h1 (by decide)
  · show own_W p e below _ T0 (mkF m 8 #[.val (.ref a), .val (.int (1 : Int32)), .val (.int (3 : Int32)), .val (.int (-2 : Int32))] [])
    refine own_iconst X0 hx 9 (0 : Int32) (by decide) (hb hby d113_8) rfl ?_
    exact own_retZ X0 hx (0 : Int32) (by decide) hret hlk (hb hby d113_9) (by decide) (by decide) ⟨by unfold own_cut_1_3; skip; rfl, N0, e0⟩
theorem d201_0 : decode prog_84_method_4_code 0 = .ok (.iload_n 1, 1) := by decide +kernel
theorem d201_1 : decode prog_84_method_4_code 1 = .ok (.iconst 1, 1) := by decide +kernel
theorem d201_2 : decode prog_84_method_4_code 2 = .ok (.isub, 1) := by decide +kernel
theorem d201_3 : decode prog_84_method_4_code 3 = .ok (.istore_n 2, 1) := by decide +kernel
theorem d201_4 : decode prog_84_method_4_code 4 = .ok (.iload_n 2, 1) := by decide +kernel
theorem d201_5 : decode prog_84_method_4_code 5 = .ok (.ifCond .le 29, 3) := by decide +kernel
theorem d201_34 : decode prog_84_method_4_code 34 = .ok (.iload_n 2, 1) := by decide +kernel
theorem d201_35 : decode prog_84_method_4_code 35 = .ok (.ifCond .ge 5, 3) := by decide +kernel
theorem d201_40 : decode prog_84_method_4_code 40 = .ok (.aload_n 0, 1) := by decide +kernel
theorem d201_41 : decode prog_84_method_4_code 41 = .ok (.iload_n 2, 1) := by decide +kernel
theorem d201_42 : decode prog_84_method_4_code 42 = .ok (.baload, 1) := by decide +kernel
theorem d201_43 : decode prog_84_method_4_code 43 = .ok (.sipush 255, 3) := by decide +kernel
theorem d201_46 : decode prog_84_method_4_code 46 = .ok (.iand, 1) := by decide +kernel
theorem d201_47 : decode prog_84_method_4_code 47 = .ok (.istore_n 3, 1) := by decide +kernel
theorem d201_48 : decode prog_84_method_4_code 48 = .ok (.iload_n 3, 1) := by decide +kernel
theorem d201_49 : decode prog_84_method_4_code 49 = .ok (.sipush 240, 3) := by decide +kernel
theorem d201_52 : decode prog_84_method_4_code 52 = .ok (.if_icmp .lt 7, 3) := by decide +kernel
theorem d201_55 : decode prog_84_method_4_code 55 = .ok (.iconst 4, 1) := by decide +kernel
theorem d201_56 : decode prog_84_method_4_code 56 = .ok (.goto 26, 3) := by decide +kernel
theorem d201_59 : decode prog_84_method_4_code 59 = .ok (.iload_n 3, 1) := by decide +kernel
theorem d201_60 : decode prog_84_method_4_code 60 = .ok (.sipush 224, 3) := by decide +kernel
theorem d201_63 : decode prog_84_method_4_code 63 = .ok (.if_icmp .lt 7, 3) := by decide +kernel
theorem d201_66 : decode prog_84_method_4_code 66 = .ok (.iconst 3, 1) := by decide +kernel
theorem d201_67 : decode prog_84_method_4_code 67 = .ok (.goto 15, 3) := by decide +kernel
theorem d201_70 : decode prog_84_method_4_code 70 = .ok (.iload_n 3, 1) := by decide +kernel
theorem d201_71 : decode prog_84_method_4_code 71 = .ok (.sipush 192, 3) := by decide +kernel
theorem d201_74 : decode prog_84_method_4_code 74 = .ok (.if_icmp .lt 7, 3) := by decide +kernel
theorem d201_77 : decode prog_84_method_4_code 77 = .ok (.iconst 2, 1) := by decide +kernel
theorem d201_78 : decode prog_84_method_4_code 78 = .ok (.goto 4, 3) := by decide +kernel
theorem d201_81 : decode prog_84_method_4_code 81 = .ok (.iconst 1, 1) := by decide +kernel
theorem d201_82 : decode prog_84_method_4_code 82 = .ok (.istore 4, 2) := by decide +kernel
theorem d201_84 : decode prog_84_method_4_code 84 = .ok (.iload_n 2, 1) := by decide +kernel
theorem d201_85 : decode prog_84_method_4_code 85 = .ok (.iload 4, 2) := by decide +kernel
theorem d201_87 : decode prog_84_method_4_code 87 = .ok (.iadd, 1) := by decide +kernel
theorem d201_88 : decode prog_84_method_4_code 88 = .ok (.iload_n 1, 1) := by decide +kernel
theorem d201_89 : decode prog_84_method_4_code 89 = .ok (.if_icmp .le 7, 3) := by decide +kernel
theorem d201_92 : decode prog_84_method_4_code 92 = .ok (.iload_n 2, 1) := by decide +kernel
theorem d201_93 : decode prog_84_method_4_code 93 = .ok (.goto 4, 3) := by decide +kernel
theorem d201_96 : decode prog_84_method_4_code 96 = .ok (.iload_n 1, 1) := by decide +kernel
theorem d201_97 : decode prog_84_method_4_code 97 = .ok (.ireturn, 1) := by decide +kernel
set_option maxRecDepth 65536 in
set_option maxHeartbeats 40000000 in
theorem rm4_1 (l : Launch) (Z : State) (a0 : Array Value) (hw : ∀ d ∈ tables_1, d.before a0 Z = true) (a : Addr) (f : Nat → Int32) (h0 : Heap) (n0 : Nat) (Z0 : n0 ≤ h0.size) (A_a : own_AI Z h0 a .byte 6 f) :
    own_C l Z (⟨"com/example/gentle_indent/gentleindent/util/Utf8", "wholeEnd", "([BI)I"⟩ : MethodName) prog_84_method_4_code 5 (some .int) [] ({ frames := 0, cells := 0, slots := 0, locals := 0 } : Room) #[(.ref a), (.int (1 : Int32))] h0 (fun v h L => v = some (.int (own_we_1 f)) ∧ Fr n0 L ∧ h = h0) := by
  refine own_body (by first | (simp [plainName, overriddenIn]; done) | decide +kernel) ?_
  intro p e s m below meth c T0 hx hby hml hown hnm hret hlk hZ X0 e0
  have N0 := Fr.nil n0
  refine own_eq (f' := (mkF m 0 #[.val (.ref a), .val (.int (1 : Int32)), .unset, .unset, .unset] [])) (by first | (simp [entryFrame, mkF, argsToLocals, Value.category]; done) | rfl) ?_
  refine own_iloadN X0 hx 1 (hb hby d201_0) rfl rfl ?_
  refine own_iconst X0 hx 2 (1 : Int32) (by decide) (hb hby d201_1) rfl ?_
  refine own_isubz X0 hx 3 (z := (0 : Int32)) (by decide) (hb hby d201_2) rfl ?_
  refine own_istoreN X0 hx 4 #[.val (.ref a), .val (.int (1 : Int32)), .val (.int (0 : Int32)), .unset, .unset] rfl (hb hby d201_3) rfl rfl ?_
  refine own_iloadN X0 hx 5 (hb hby d201_4) rfl rfl ?_
  refine own_if_le X0 hx 34 8 (hb hby d201_5) (by decide) (by decide) rfl (fun h1 => ?_) (fun h1 => ?_)
  · show own_W p e below _ T0 (mkF m 34 #[.val (.ref a), .val (.int (1 : Int32)), .val (.int (0 : Int32)), .unset, .unset] [])
    refine own_iloadN X0 hx 35 (hb hby d201_34) rfl rfl ?_
    refine own_if_ge X0 hx 40 38 (hb hby d201_35) (by decide) (by decide) rfl (fun h2 => ?_) (fun h2 => ?_)
    · show own_W p e below _ T0 (mkF m 40 #[.val (.ref a), .val (.int (1 : Int32)), .val (.int (0 : Int32)), .unset, .unset] [])
      refine own_aloadN X0 hx 41 (hb hby d201_40) rfl rfl ?_
      refine own_iloadN X0 hx 42 (hb hby d201_41) rfl rfl ?_
      refine own_baload X0 hx hZ e0 43 0 A_a rfl (by decide) (hb hby d201_42) rfl ?_
      refine own_sipush X0 hx 46 (255 : Int32) (by decide) (hb hby d201_43) rfl ?_
      refine own_iand X0 hx 47 (hb hby d201_46) rfl ?_
      refine own_istoreN X0 hx 48 #[.val (.ref a), .val (.int (1 : Int32)), .val (.int (0 : Int32)), .val (.int ((f 0) &&& (255 : Int32))), .unset] rfl (hb hby d201_47) rfl rfl ?_
      refine own_iloadN X0 hx 49 (hb hby d201_48) rfl rfl ?_
      refine own_sipush X0 hx 52 (240 : Int32) (by decide) (hb hby d201_49) rfl ?_
      refine own_icmp_lt X0 hx 59 55 (hb hby d201_52) (by decide) (by decide) rfl (fun h3 => ?_) (fun h3 => ?_)
      · show own_W p e below _ T0 (mkF m 59 #[.val (.ref a), .val (.int (1 : Int32)), .val (.int (0 : Int32)), .val (.int ((f 0) &&& (255 : Int32))), .unset] [])
        refine own_iloadN X0 hx 60 (hb hby d201_59) rfl rfl ?_
        refine own_sipush X0 hx 63 (224 : Int32) (by decide) (hb hby d201_60) rfl ?_
        refine own_icmp_lt X0 hx 70 66 (hb hby d201_63) (by decide) (by decide) rfl (fun h4 => ?_) (fun h4 => ?_)
        · show own_W p e below _ T0 (mkF m 70 #[.val (.ref a), .val (.int (1 : Int32)), .val (.int (0 : Int32)), .val (.int ((f 0) &&& (255 : Int32))), .unset] [])
          refine own_iloadN X0 hx 71 (hb hby d201_70) rfl rfl ?_
          refine own_sipush X0 hx 74 (192 : Int32) (by decide) (hb hby d201_71) rfl ?_
          refine own_icmp_lt X0 hx 81 77 (hb hby d201_74) (by decide) (by decide) rfl (fun h5 => ?_) (fun h5 => ?_)
          · show own_W p e below _ T0 (mkF m 81 #[.val (.ref a), .val (.int (1 : Int32)), .val (.int (0 : Int32)), .val (.int ((f 0) &&& (255 : Int32))), .unset] [])
            refine own_iconst X0 hx 82 (1 : Int32) (by decide) (hb hby d201_81) rfl ?_
            refine own_istore X0 hx 84 #[.val (.ref a), .val (.int (1 : Int32)), .val (.int (0 : Int32)), .val (.int ((f 0) &&& (255 : Int32))), .val (.int (1 : Int32))] rfl (hb hby d201_82) rfl rfl ?_
            refine own_iloadN X0 hx 85 (hb hby d201_84) rfl rfl ?_
            refine own_iload X0 hx 87 (hb hby d201_85) rfl rfl ?_
            refine own_iaddz X0 hx 88 (z := (1 : Int32)) (by decide) (hb hby d201_87) rfl ?_
            refine own_iloadN X0 hx 89 (hb hby d201_88) rfl rfl ?_
            refine own_icmp_le X0 hx 96 92 (hb hby d201_89) (by decide) (by decide) rfl (fun h6 => ?_) (fun h6 => ?_)
            · show own_W p e below _ T0 (mkF m 96 #[.val (.ref a), .val (.int (1 : Int32)), .val (.int (0 : Int32)), .val (.int ((f 0) &&& (255 : Int32))), .val (.int (1 : Int32))] [])
              refine own_iloadN X0 hx 97 (hb hby d201_96) rfl rfl ?_
              exact own_retI X0 hx hret hlk (hb hby d201_97) (by decide) (by decide) ⟨by unfold own_we_1; rw [if_pos h3, if_pos h4, if_pos h5], N0, e0⟩
            · exact absurd h6 (by decide)
          · show own_W p e below _ T0 (mkF m 77 #[.val (.ref a), .val (.int (1 : Int32)), .val (.int (0 : Int32)), .val (.int ((f 0) &&& (255 : Int32))), .unset] [])
            refine own_iconst X0 hx 78 (2 : Int32) (by decide) (hb hby d201_77) rfl ?_
            refine own_goto X0 hx 82 (hb hby d201_78) (by decide) (by decide) ?_
            refine own_istore X0 hx 84 #[.val (.ref a), .val (.int (1 : Int32)), .val (.int (0 : Int32)), .val (.int ((f 0) &&& (255 : Int32))), .val (.int (2 : Int32))] rfl (hb hby d201_82) rfl rfl ?_
            refine own_iloadN X0 hx 85 (hb hby d201_84) rfl rfl ?_
            refine own_iload X0 hx 87 (hb hby d201_85) rfl rfl ?_
            refine own_iaddz X0 hx 88 (z := (2 : Int32)) (by decide) (hb hby d201_87) rfl ?_
            refine own_iloadN X0 hx 89 (hb hby d201_88) rfl rfl ?_
            refine own_icmp_le X0 hx 96 92 (hb hby d201_89) (by decide) (by decide) rfl (fun h7 => ?_) (fun h7 => ?_)
            · exact absurd h7 (by decide)
            · show own_W p e below _ T0 (mkF m 92 #[.val (.ref a), .val (.int (1 : Int32)), .val (.int (0 : Int32)), .val (.int ((f 0) &&& (255 : Int32))), .val (.int (2 : Int32))] [])
              refine own_iloadN X0 hx 93 (hb hby d201_92) rfl rfl ?_
              refine own_goto X0 hx 97 (hb hby d201_93) (by decide) (by decide) ?_
              exact own_retI X0 hx hret hlk (hb hby d201_97) (by decide) (by decide) ⟨by unfold own_we_1; rw [if_pos h3, if_pos h4, if_neg h5], N0, e0⟩
        · show own_W p e below _ T0 (mkF m 66 #[.val (.ref a), .val (.int (1 : Int32)), .val (.int (0 : Int32)), .val (.int ((f 0) &&& (255 : Int32))), .unset] [])
          refine own_iconst X0 hx 67 (3 : Int32) (by decide) (hb hby d201_66) rfl ?_
          refine own_goto X0 hx 82 (hb hby d201_67) (by decide) (by decide) ?_
          refine own_istore X0 hx 84 #[.val (.ref a), .val (.int (1 : Int32)), .val (.int (0 : Int32)), .val (.int ((f 0) &&& (255 : Int32))), .val (.int (3 : Int32))] rfl (hb hby d201_82) rfl rfl ?_
          refine own_iloadN X0 hx 85 (hb hby d201_84) rfl rfl ?_
          refine own_iload X0 hx 87 (hb hby d201_85) rfl rfl ?_
          refine own_iaddz X0 hx 88 (z := (3 : Int32)) (by decide) (hb hby d201_87) rfl ?_
          refine own_iloadN X0 hx 89 (hb hby d201_88) rfl rfl ?_
          refine own_icmp_le X0 hx 96 92 (hb hby d201_89) (by decide) (by decide) rfl (fun h8 => ?_) (fun h8 => ?_)
          · exact absurd h8 (by decide)
          · show own_W p e below _ T0 (mkF m 92 #[.val (.ref a), .val (.int (1 : Int32)), .val (.int (0 : Int32)), .val (.int ((f 0) &&& (255 : Int32))), .val (.int (3 : Int32))] [])
            refine own_iloadN X0 hx 93 (hb hby d201_92) rfl rfl ?_
            refine own_goto X0 hx 97 (hb hby d201_93) (by decide) (by decide) ?_
            exact own_retI X0 hx hret hlk (hb hby d201_97) (by decide) (by decide) ⟨by unfold own_we_1; rw [if_pos h3, if_neg h4], N0, e0⟩
      · show own_W p e below _ T0 (mkF m 55 #[.val (.ref a), .val (.int (1 : Int32)), .val (.int (0 : Int32)), .val (.int ((f 0) &&& (255 : Int32))), .unset] [])
        refine own_iconst X0 hx 56 (4 : Int32) (by decide) (hb hby d201_55) rfl ?_
        refine own_goto X0 hx 82 (hb hby d201_56) (by decide) (by decide) ?_
        refine own_istore X0 hx 84 #[.val (.ref a), .val (.int (1 : Int32)), .val (.int (0 : Int32)), .val (.int ((f 0) &&& (255 : Int32))), .val (.int (4 : Int32))] rfl (hb hby d201_82) rfl rfl ?_
        refine own_iloadN X0 hx 85 (hb hby d201_84) rfl rfl ?_
        refine own_iload X0 hx 87 (hb hby d201_85) rfl rfl ?_
        refine own_iaddz X0 hx 88 (z := (4 : Int32)) (by decide) (hb hby d201_87) rfl ?_
        refine own_iloadN X0 hx 89 (hb hby d201_88) rfl rfl ?_
        refine own_icmp_le X0 hx 96 92 (hb hby d201_89) (by decide) (by decide) rfl (fun h9 => ?_) (fun h9 => ?_)
        · exact absurd h9 (by decide)
        · show own_W p e below _ T0 (mkF m 92 #[.val (.ref a), .val (.int (1 : Int32)), .val (.int (0 : Int32)), .val (.int ((f 0) &&& (255 : Int32))), .val (.int (4 : Int32))] [])
          refine own_iloadN X0 hx 93 (hb hby d201_92) rfl rfl ?_
          refine own_goto X0 hx 97 (hb hby d201_93) (by decide) (by decide) ?_
          exact own_retI X0 hx hret hlk (hb hby d201_97) (by decide) (by decide) ⟨by unfold own_we_1; rw [if_neg h3], N0, e0⟩
    · exact absurd h2 (by decide)
  · exact absurd h1 (by decide)
theorem d121_0 : decode method_4_code 0 = .ok (.iload_n 1, 1) := by decide +kernel
theorem d121_1 : decode method_4_code 1 = .ok (.iload_n 2, 1) := by decide +kernel
theorem d121_2 : decode method_4_code 2 = .ok (.isub, 1) := by decide +kernel
theorem d121_3 : decode method_4_code 3 = .ok (.istore_n 3, 1) := by decide +kernel
theorem d121_4 : decode method_4_code 4 = .ok (.iload_n 3, 1) := by decide +kernel
theorem d121_5 : decode method_4_code 5 = .ok (.ifCond .ge 5, 3) := by decide +kernel
theorem d121_10 : decode method_4_code 10 = .ok (.aload_n 0, 1) := by decide +kernel
theorem d121_11 : decode method_4_code 11 = .ok (.iload_n 3, 1) := by decide +kernel
theorem d121_12 : decode method_4_code 12 = .ok (.baload, 1) := by decide +kernel
theorem d121_13 : decode method_4_code 13 = .ok (.invokestatic 7, 3) := by decide +kernel
theorem d121_16 : decode method_4_code 16 = .ok (.iload_n 2, 1) := by decide +kernel
theorem d121_17 : decode method_4_code 17 = .ok (.if_icmp .gt 5, 3) := by decide +kernel
theorem d121_20 : decode method_4_code 20 = .ok (.iconst 0, 1) := by decide +kernel
theorem d121_21 : decode method_4_code 21 = .ok (.ireturn, 1) := by decide +kernel
theorem d121_22 : decode method_4_code 22 = .ok (.iload_n 2, 1) := by decide +kernel
theorem d121_23 : decode method_4_code 23 = .ok (.iconst 2, 1) := by decide +kernel
theorem d121_24 : decode method_4_code 24 = .ok (.if_icmp .lt 16, 3) := by decide +kernel
theorem d121_40 : decode method_4_code 40 = .ok (.iload_n 2, 1) := by decide +kernel
theorem d121_41 : decode method_4_code 41 = .ok (.iconst 3, 1) := by decide +kernel
theorem d121_42 : decode method_4_code 42 = .ok (.if_icmp .lt 16, 3) := by decide +kernel
theorem d121_58 : decode method_4_code 58 = .ok (.iconst 1, 1) := by decide +kernel
theorem d121_59 : decode method_4_code 59 = .ok (.ireturn, 1) := by decide +kernel
set_option maxRecDepth 65536 in
set_option maxHeartbeats 40000000 in
theorem rm3_2_1 (l : Launch) (Z : State) (a0 : Array Value) (hw : ∀ d ∈ tables_1, d.before a0 Z = true) (a : Addr) (f : Nat → Int32) (h0 : Heap) (n0 : Nat) (Z0 : n0 ≤ h0.size) (A_a : own_AI Z h0 a .byte 6 f) :
    own_C l Z (⟨"com/example/gentle_indent/gentleindent/util/Utf8WholeEndPinLaw", "cutAt", "([BII)Z"⟩ : MethodName) method_4_code 4 (some .boolean) [] ({ frames := 1, cells := 0, slots := 0, locals := 16 } : Room) #[(.ref a), (.int (2 : Int32)), (.int (1 : Int32))] h0 (fun v h L => v = some (.int (own_cut_2_1 f)) ∧ Fr n0 L ∧ h = h0) := by
  refine own_body (by first | (simp [plainName, overriddenIn]; done) | decide +kernel) ?_
  intro p e s m below meth c T0 hx hby hml hown hnm hret hlk hZ X0 e0
  have N0 := Fr.nil n0
  refine own_eq (f' := (mkF m 0 #[.val (.ref a), .val (.int (2 : Int32)), .val (.int (1 : Int32)), .unset] [])) (by first | (simp [entryFrame, mkF, argsToLocals, Value.category]; done) | rfl) ?_
  refine own_iloadN X0 hx 1 (hb hby d121_0) rfl rfl ?_
  refine own_iloadN X0 hx 2 (hb hby d121_1) rfl rfl ?_
  refine own_isubz X0 hx 3 (z := (1 : Int32)) (by decide) (hb hby d121_2) rfl ?_
  refine own_istoreN X0 hx 4 #[.val (.ref a), .val (.int (2 : Int32)), .val (.int (1 : Int32)), .val (.int (1 : Int32))] rfl (hb hby d121_3) rfl rfl ?_
  refine own_iloadN X0 hx 5 (hb hby d121_4) rfl rfl ?_
  refine own_if_ge X0 hx 10 8 (hb hby d121_5) (by decide) (by decide) rfl (fun h1 => ?_) (fun h1 => ?_)
  · show own_W p e below _ T0 (mkF m 10 #[.val (.ref a), .val (.int (2 : Int32)), .val (.int (1 : Int32)), .val (.int (1 : Int32))] [])
    refine own_aloadN X0 hx 11 (hb hby d121_10) rfl rfl ?_
    refine own_iloadN X0 hx 12 (hb hby d121_11) rfl rfl ?_
    refine own_baload X0 hx hZ e0 13 1 A_a rfl (by decide) (hb hby d121_12) rfl ?_
    refine own_callS X0 hx hZ hown e0 (y := (⟨"com/example/gentle_indent/gentleindent/util/Utf8WholeEndPinLaw", "need", "(B)I"⟩ : MethodName)) (argsL := [(.int (f 1))]) (rest := []) 16 (rm1 l Z a0 hw (f 1) h0 n0 Z0) (hw _ (List.mem_of_getElem? (i := 6) rfl)) (hw _ (List.mem_of_getElem? (i := 7) rfl)) (hw _ (List.mem_of_getElem? (i := 4) rfl)) (hw _ (List.mem_of_getElem? (i := 8) rfl)) (by decide) (by rw [hml]; rfl) (lenOf (by decide +kernel : parseMethodDescriptor "(B)I" = some ⟨[.byte], some .int⟩) rfl) rfl (hb hby d121_13) rfl (W := 0) rfl (by decide) (by decide) (by decide) (by decide) (fun r2 T3 L4 X5 q6 => ?_)
    obtain ⟨rfl, N7q, e8⟩ := q6
    have N7 := Fr.app N0 N7q
    show own_W p e below _ T3 (mkF m 16 #[.val (.ref a), .val (.int (2 : Int32)), .val (.int (1 : Int32)), .val (.int (1 : Int32))] [(.int (own_need (f 1)))])
    refine own_iloadN X5 hx 17 (hb hby d121_16) rfl rfl ?_
    refine own_icmp_gt X5 hx 22 20 (hb hby d121_17) (by decide) (by decide) rfl (fun h9 => ?_) (fun h9 => ?_)
    · show own_W p e below _ T3 (mkF m 22 #[.val (.ref a), .val (.int (2 : Int32)), .val (.int (1 : Int32)), .val (.int (1 : Int32))] [])
      refine own_iloadN X5 hx 23 (hb hby d121_22) rfl rfl ?_
      refine own_iconst X5 hx 24 (2 : Int32) (by decide) (hb hby d121_23) rfl ?_
      refine own_icmp_lt X5 hx 40 27 (hb hby d121_24) (by decide) (by decide) rfl (fun h10 => ?_) (fun h10 => ?_)
      · show own_W p e below _ T3 (mkF m 40 #[.val (.ref a), .val (.int (2 : Int32)), .val (.int (1 : Int32)), .val (.int (1 : Int32))] [])
        refine own_iloadN X5 hx 41 (hb hby d121_40) rfl rfl ?_
        refine own_iconst X5 hx 42 (3 : Int32) (by decide) (hb hby d121_41) rfl ?_
        refine own_icmp_lt X5 hx 58 45 (hb hby d121_42) (by decide) (by decide) rfl (fun h11 => ?_) (fun h11 => ?_)
        · show own_W p e below _ T3 (mkF m 58 #[.val (.ref a), .val (.int (2 : Int32)), .val (.int (1 : Int32)), .val (.int (1 : Int32))] [])
          refine own_iconst X5 hx 59 (1 : Int32) (by decide) (hb hby d121_58) rfl ?_
          exact own_retZ X5 hx (1 : Int32) (by decide) hret hlk (hb hby d121_59) (by decide) (by decide) ⟨by unfold own_cut_2_1; rw [if_pos h9], N7, e8⟩
        · exact absurd h11 (by decide)
      · exact absurd h10 (by decide)
    · show own_W p e below _ T3 (mkF m 20 #[.val (.ref a), .val (.int (2 : Int32)), .val (.int (1 : Int32)), .val (.int (1 : Int32))] [])
      refine own_iconst X5 hx 21 (0 : Int32) (by decide) (hb hby d121_20) rfl ?_
      exact own_retZ X5 hx (0 : Int32) (by decide) hret hlk (hb hby d121_21) (by decide) (by decide) ⟨by unfold own_cut_2_1; rw [if_neg h9], N7, e8⟩
  · exact absurd h1 (by decide)
theorem d122_0 : decode method_4_code 0 = .ok (.iload_n 1, 1) := by decide +kernel
theorem d122_1 : decode method_4_code 1 = .ok (.iload_n 2, 1) := by decide +kernel
theorem d122_2 : decode method_4_code 2 = .ok (.isub, 1) := by decide +kernel
theorem d122_3 : decode method_4_code 3 = .ok (.istore_n 3, 1) := by decide +kernel
theorem d122_4 : decode method_4_code 4 = .ok (.iload_n 3, 1) := by decide +kernel
theorem d122_5 : decode method_4_code 5 = .ok (.ifCond .ge 5, 3) := by decide +kernel
theorem d122_10 : decode method_4_code 10 = .ok (.aload_n 0, 1) := by decide +kernel
theorem d122_11 : decode method_4_code 11 = .ok (.iload_n 3, 1) := by decide +kernel
theorem d122_12 : decode method_4_code 12 = .ok (.baload, 1) := by decide +kernel
theorem d122_13 : decode method_4_code 13 = .ok (.invokestatic 7, 3) := by decide +kernel
theorem d122_16 : decode method_4_code 16 = .ok (.iload_n 2, 1) := by decide +kernel
theorem d122_17 : decode method_4_code 17 = .ok (.if_icmp .gt 5, 3) := by decide +kernel
theorem d122_20 : decode method_4_code 20 = .ok (.iconst 0, 1) := by decide +kernel
theorem d122_21 : decode method_4_code 21 = .ok (.ireturn, 1) := by decide +kernel
theorem d122_22 : decode method_4_code 22 = .ok (.iload_n 2, 1) := by decide +kernel
theorem d122_23 : decode method_4_code 23 = .ok (.iconst 2, 1) := by decide +kernel
theorem d122_24 : decode method_4_code 24 = .ok (.if_icmp .lt 16, 3) := by decide +kernel
theorem d122_27 : decode method_4_code 27 = .ok (.aload_n 0, 1) := by decide +kernel
theorem d122_28 : decode method_4_code 28 = .ok (.iload_n 1, 1) := by decide +kernel
theorem d122_29 : decode method_4_code 29 = .ok (.iconst 1, 1) := by decide +kernel
theorem d122_30 : decode method_4_code 30 = .ok (.isub, 1) := by decide +kernel
theorem d122_31 : decode method_4_code 31 = .ok (.baload, 1) := by decide +kernel
theorem d122_32 : decode method_4_code 32 = .ok (.invokestatic 13, 3) := by decide +kernel
theorem d122_35 : decode method_4_code 35 = .ok (.ifCond .ne 5, 3) := by decide +kernel
theorem d122_38 : decode method_4_code 38 = .ok (.iconst 0, 1) := by decide +kernel
theorem d122_39 : decode method_4_code 39 = .ok (.ireturn, 1) := by decide +kernel
theorem d122_40 : decode method_4_code 40 = .ok (.iload_n 2, 1) := by decide +kernel
theorem d122_41 : decode method_4_code 41 = .ok (.iconst 3, 1) := by decide +kernel
theorem d122_42 : decode method_4_code 42 = .ok (.if_icmp .lt 16, 3) := by decide +kernel
theorem d122_58 : decode method_4_code 58 = .ok (.iconst 1, 1) := by decide +kernel
theorem d122_59 : decode method_4_code 59 = .ok (.ireturn, 1) := by decide +kernel
set_option maxRecDepth 65536 in
set_option maxHeartbeats 40000000 in
theorem rm3_2_2 (l : Launch) (Z : State) (a0 : Array Value) (hw : ∀ d ∈ tables_1, d.before a0 Z = true) (a : Addr) (f : Nat → Int32) (h0 : Heap) (n0 : Nat) (Z0 : n0 ≤ h0.size) (A_a : own_AI Z h0 a .byte 6 f) :
    own_C l Z (⟨"com/example/gentle_indent/gentleindent/util/Utf8WholeEndPinLaw", "cutAt", "([BII)Z"⟩ : MethodName) method_4_code 4 (some .boolean) [] ({ frames := 1, cells := 0, slots := 0, locals := 16 } : Room) #[(.ref a), (.int (2 : Int32)), (.int (2 : Int32))] h0 (fun v h L => v = some (.int (own_cut_2_2 f)) ∧ Fr n0 L ∧ h = h0) := by
  refine own_body (by first | (simp [plainName, overriddenIn]; done) | decide +kernel) ?_
  intro p e s m below meth c T0 hx hby hml hown hnm hret hlk hZ X0 e0
  have N0 := Fr.nil n0
  refine own_eq (f' := (mkF m 0 #[.val (.ref a), .val (.int (2 : Int32)), .val (.int (2 : Int32)), .unset] [])) (by first | (simp [entryFrame, mkF, argsToLocals, Value.category]; done) | rfl) ?_
  refine own_iloadN X0 hx 1 (hb hby d122_0) rfl rfl ?_
  refine own_iloadN X0 hx 2 (hb hby d122_1) rfl rfl ?_
  refine own_isubz X0 hx 3 (z := (0 : Int32)) (by decide) (hb hby d122_2) rfl ?_
  refine own_istoreN X0 hx 4 #[.val (.ref a), .val (.int (2 : Int32)), .val (.int (2 : Int32)), .val (.int (0 : Int32))] rfl (hb hby d122_3) rfl rfl ?_
  refine own_iloadN X0 hx 5 (hb hby d122_4) rfl rfl ?_
  refine own_if_ge X0 hx 10 8 (hb hby d122_5) (by decide) (by decide) rfl (fun h1 => ?_) (fun h1 => ?_)
  · show own_W p e below _ T0 (mkF m 10 #[.val (.ref a), .val (.int (2 : Int32)), .val (.int (2 : Int32)), .val (.int (0 : Int32))] [])
    refine own_aloadN X0 hx 11 (hb hby d122_10) rfl rfl ?_
    refine own_iloadN X0 hx 12 (hb hby d122_11) rfl rfl ?_
    refine own_baload X0 hx hZ e0 13 0 A_a rfl (by decide) (hb hby d122_12) rfl ?_
    refine own_callS X0 hx hZ hown e0 (y := (⟨"com/example/gentle_indent/gentleindent/util/Utf8WholeEndPinLaw", "need", "(B)I"⟩ : MethodName)) (argsL := [(.int (f 0))]) (rest := []) 16 (rm1 l Z a0 hw (f 0) h0 n0 Z0) (hw _ (List.mem_of_getElem? (i := 6) rfl)) (hw _ (List.mem_of_getElem? (i := 7) rfl)) (hw _ (List.mem_of_getElem? (i := 4) rfl)) (hw _ (List.mem_of_getElem? (i := 8) rfl)) (by decide) (by rw [hml]; rfl) (lenOf (by decide +kernel : parseMethodDescriptor "(B)I" = some ⟨[.byte], some .int⟩) rfl) rfl (hb hby d122_13) rfl (W := 0) rfl (by decide) (by decide) (by decide) (by decide) (fun r2 T3 L4 X5 q6 => ?_)
    obtain ⟨rfl, N7q, e8⟩ := q6
    have N7 := Fr.app N0 N7q
    show own_W p e below _ T3 (mkF m 16 #[.val (.ref a), .val (.int (2 : Int32)), .val (.int (2 : Int32)), .val (.int (0 : Int32))] [(.int (own_need (f 0)))])
    refine own_iloadN X5 hx 17 (hb hby d122_16) rfl rfl ?_
    refine own_icmp_gt X5 hx 22 20 (hb hby d122_17) (by decide) (by decide) rfl (fun h9 => ?_) (fun h9 => ?_)
    · show own_W p e below _ T3 (mkF m 22 #[.val (.ref a), .val (.int (2 : Int32)), .val (.int (2 : Int32)), .val (.int (0 : Int32))] [])
      refine own_iloadN X5 hx 23 (hb hby d122_22) rfl rfl ?_
      refine own_iconst X5 hx 24 (2 : Int32) (by decide) (hb hby d122_23) rfl ?_
      refine own_icmp_lt X5 hx 40 27 (hb hby d122_24) (by decide) (by decide) rfl (fun h10 => ?_) (fun h10 => ?_)
      · exact absurd h10 (by decide)
      · show own_W p e below _ T3 (mkF m 27 #[.val (.ref a), .val (.int (2 : Int32)), .val (.int (2 : Int32)), .val (.int (0 : Int32))] [])
        refine own_aloadN X5 hx 28 (hb hby d122_27) rfl rfl ?_
        refine own_iloadN X5 hx 29 (hb hby d122_28) rfl rfl ?_
        refine own_iconst X5 hx 30 (1 : Int32) (by decide) (hb hby d122_29) rfl ?_
        refine own_isubz X5 hx 31 (z := (1 : Int32)) (by decide) (hb hby d122_30) rfl ?_
        refine own_baload X5 hx hZ e8 32 1 A_a rfl (by decide) (hb hby d122_31) rfl ?_
        refine own_callS X5 hx hZ hown e8 (y := (⟨"com/example/gentle_indent/gentleindent/util/Utf8WholeEndPinLaw", "cont", "(B)Z"⟩ : MethodName)) (argsL := [(.int (f 1))]) (rest := []) 35 (rm2 l Z a0 hw (f 1) h0 n0 Z0) (hw _ (List.mem_of_getElem? (i := 13) rfl)) (hw _ (List.mem_of_getElem? (i := 14) rfl)) (hw _ (List.mem_of_getElem? (i := 4) rfl)) (hw _ (List.mem_of_getElem? (i := 15) rfl)) (by decide) (by rw [hml]; rfl) (lenOf (by decide +kernel : parseMethodDescriptor "(B)Z" = some ⟨[.byte], some .boolean⟩) rfl) rfl (hb hby d122_32) rfl (W := 0) rfl (by decide) (by decide) (by decide) (by decide) (fun r11 T12 L13 X14 q15 => ?_)
        obtain ⟨rfl, N16q, e17⟩ := q15
        have N16 := Fr.app N7 N16q
        show own_W p e below _ T12 (mkF m 35 #[.val (.ref a), .val (.int (2 : Int32)), .val (.int (2 : Int32)), .val (.int (0 : Int32))] [(.int (own_cont (f 1)))])
        refine own_if_ne X14 hx 40 38 (hb hby d122_35) (by decide) (by decide) rfl (fun h18 => ?_) (fun h18 => ?_)
        · show own_W p e below _ T12 (mkF m 40 #[.val (.ref a), .val (.int (2 : Int32)), .val (.int (2 : Int32)), .val (.int (0 : Int32))] [])
          refine own_iloadN X14 hx 41 (hb hby d122_40) rfl rfl ?_
          refine own_iconst X14 hx 42 (3 : Int32) (by decide) (hb hby d122_41) rfl ?_
          refine own_icmp_lt X14 hx 58 45 (hb hby d122_42) (by decide) (by decide) rfl (fun h19 => ?_) (fun h19 => ?_)
          · show own_W p e below _ T12 (mkF m 58 #[.val (.ref a), .val (.int (2 : Int32)), .val (.int (2 : Int32)), .val (.int (0 : Int32))] [])
            refine own_iconst X14 hx 59 (1 : Int32) (by decide) (hb hby d122_58) rfl ?_
            exact own_retZ X14 hx (1 : Int32) (by decide) hret hlk (hb hby d122_59) (by decide) (by decide) ⟨by unfold own_cut_2_2; rw [if_pos h9, if_neg h18], N16, e17⟩
          · exact absurd h19 (by decide)
        · show own_W p e below _ T12 (mkF m 38 #[.val (.ref a), .val (.int (2 : Int32)), .val (.int (2 : Int32)), .val (.int (0 : Int32))] [])
          refine own_iconst X14 hx 39 (0 : Int32) (by decide) (hb hby d122_38) rfl ?_
          exact own_retZ X14 hx (0 : Int32) (by decide) hret hlk (hb hby d122_39) (by decide) (by decide) ⟨by unfold own_cut_2_2; rw [if_pos h9, if_pos h18], N16, e17⟩
    · show own_W p e below _ T3 (mkF m 20 #[.val (.ref a), .val (.int (2 : Int32)), .val (.int (2 : Int32)), .val (.int (0 : Int32))] [])
      refine own_iconst X5 hx 21 (0 : Int32) (by decide) (hb hby d122_20) rfl ?_
      exact own_retZ X5 hx (0 : Int32) (by decide) hret hlk (hb hby d122_21) (by decide) (by decide) ⟨by unfold own_cut_2_2; rw [if_neg h9], N7, e8⟩
  · exact absurd h1 (by decide)
theorem d123_0 : decode method_4_code 0 = .ok (.iload_n 1, 1) := by decide +kernel
theorem d123_1 : decode method_4_code 1 = .ok (.iload_n 2, 1) := by decide +kernel
theorem d123_2 : decode method_4_code 2 = .ok (.isub, 1) := by decide +kernel
theorem d123_3 : decode method_4_code 3 = .ok (.istore_n 3, 1) := by decide +kernel
theorem d123_4 : decode method_4_code 4 = .ok (.iload_n 3, 1) := by decide +kernel
theorem d123_5 : decode method_4_code 5 = .ok (.ifCond .ge 5, 3) := by decide +kernel
theorem d123_8 : decode method_4_code 8 = .ok (.iconst 0, 1) := by decide +kernel
theorem d123_9 : decode method_4_code 9 = .ok (.ireturn, 1) := by decide +kernel
set_option maxRecDepth 65536 in
set_option maxHeartbeats 40000000 in
theorem rm3_2_3 (l : Launch) (Z : State) (a0 : Array Value) (hw : ∀ d ∈ tables_1, d.before a0 Z = true) (a : Addr) (f : Nat → Int32) (h0 : Heap) (n0 : Nat) (Z0 : n0 ≤ h0.size) (A_a : own_AI Z h0 a .byte 6 f) :
    own_C l Z (⟨"com/example/gentle_indent/gentleindent/util/Utf8WholeEndPinLaw", "cutAt", "([BII)Z"⟩ : MethodName) method_4_code 4 (some .boolean) [] ({ frames := 1, cells := 0, slots := 0, locals := 16 } : Room) #[(.ref a), (.int (2 : Int32)), (.int (3 : Int32))] h0 (fun v h L => v = some (.int (own_cut_2_3 f)) ∧ Fr n0 L ∧ h = h0) := by
  refine own_body (by first | (simp [plainName, overriddenIn]; done) | decide +kernel) ?_
  intro p e s m below meth c T0 hx hby hml hown hnm hret hlk hZ X0 e0
  have N0 := Fr.nil n0
  refine own_eq (f' := (mkF m 0 #[.val (.ref a), .val (.int (2 : Int32)), .val (.int (3 : Int32)), .unset] [])) (by first | (simp [entryFrame, mkF, argsToLocals, Value.category]; done) | rfl) ?_
  refine own_iloadN X0 hx 1 (hb hby d123_0) rfl rfl ?_
  refine own_iloadN X0 hx 2 (hb hby d123_1) rfl rfl ?_
  refine own_isubz X0 hx 3 (z := (-1 : Int32)) (by decide) (hb hby d123_2) rfl ?_
  refine own_istoreN X0 hx 4 #[.val (.ref a), .val (.int (2 : Int32)), .val (.int (3 : Int32)), .val (.int (-1 : Int32))] rfl (hb hby d123_3) rfl rfl ?_
  refine own_iloadN X0 hx 5 (hb hby d123_4) rfl rfl ?_
  refine own_if_ge X0 hx 10 8 (hb hby d123_5) (by decide) (by decide) rfl (fun h1 => ?_) (fun h1 => ?_)
  · exact absurd h1 (by decide)
  · show own_W p e below _ T0 (mkF m 8 #[.val (.ref a), .val (.int (2 : Int32)), .val (.int (3 : Int32)), .val (.int (-1 : Int32))] [])
    refine own_iconst X0 hx 9 (0 : Int32) (by decide) (hb hby d123_8) rfl ?_
    exact own_retZ X0 hx (0 : Int32) (by decide) hret hlk (hb hby d123_9) (by decide) (by decide) ⟨by unfold own_cut_2_3; skip; rfl, N0, e0⟩
theorem d202_0 : decode prog_84_method_4_code 0 = .ok (.iload_n 1, 1) := by decide +kernel
theorem d202_1 : decode prog_84_method_4_code 1 = .ok (.iconst 1, 1) := by decide +kernel
theorem d202_2 : decode prog_84_method_4_code 2 = .ok (.isub, 1) := by decide +kernel
theorem d202_3 : decode prog_84_method_4_code 3 = .ok (.istore_n 2, 1) := by decide +kernel
theorem d202_4 : decode prog_84_method_4_code 4 = .ok (.iload_n 2, 1) := by decide +kernel
theorem d202_5 : decode prog_84_method_4_code 5 = .ok (.ifCond .le 29, 3) := by decide +kernel
theorem d202_8 : decode prog_84_method_4_code 8 = .ok (.iload_n 2, 1) := by decide +kernel
theorem d202_9 : decode prog_84_method_4_code 9 = .ok (.iload_n 1, 1) := by decide +kernel
theorem d202_10 : decode prog_84_method_4_code 10 = .ok (.iconst 4, 1) := by decide +kernel
theorem d202_11 : decode prog_84_method_4_code 11 = .ok (.isub, 1) := by decide +kernel
theorem d202_12 : decode prog_84_method_4_code 12 = .ok (.if_icmp .le 22, 3) := by decide +kernel
theorem d202_15 : decode prog_84_method_4_code 15 = .ok (.aload_n 0, 1) := by decide +kernel
theorem d202_16 : decode prog_84_method_4_code 16 = .ok (.iload_n 2, 1) := by decide +kernel
theorem d202_17 : decode prog_84_method_4_code 17 = .ok (.baload, 1) := by decide +kernel
theorem d202_18 : decode prog_84_method_4_code 18 = .ok (.sipush 192, 3) := by decide +kernel
theorem d202_21 : decode prog_84_method_4_code 21 = .ok (.iand, 1) := by decide +kernel
theorem d202_22 : decode prog_84_method_4_code 22 = .ok (.sipush 128, 3) := by decide +kernel
theorem d202_25 : decode prog_84_method_4_code 25 = .ok (.if_icmp .ne 9, 3) := by decide +kernel
theorem d202_28 : decode prog_84_method_4_code 28 = .ok (.iinc 2 (-1), 3) := by decide +kernel
theorem d202_31 : decode prog_84_method_4_code 31 = .ok (.goto (-27), 3) := by decide +kernel
theorem d202_34 : decode prog_84_method_4_code 34 = .ok (.iload_n 2, 1) := by decide +kernel
theorem d202_35 : decode prog_84_method_4_code 35 = .ok (.ifCond .ge 5, 3) := by decide +kernel
theorem d202_40 : decode prog_84_method_4_code 40 = .ok (.aload_n 0, 1) := by decide +kernel
theorem d202_41 : decode prog_84_method_4_code 41 = .ok (.iload_n 2, 1) := by decide +kernel
theorem d202_42 : decode prog_84_method_4_code 42 = .ok (.baload, 1) := by decide +kernel
theorem d202_43 : decode prog_84_method_4_code 43 = .ok (.sipush 255, 3) := by decide +kernel
theorem d202_46 : decode prog_84_method_4_code 46 = .ok (.iand, 1) := by decide +kernel
theorem d202_47 : decode prog_84_method_4_code 47 = .ok (.istore_n 3, 1) := by decide +kernel
theorem d202_48 : decode prog_84_method_4_code 48 = .ok (.iload_n 3, 1) := by decide +kernel
theorem d202_49 : decode prog_84_method_4_code 49 = .ok (.sipush 240, 3) := by decide +kernel
theorem d202_52 : decode prog_84_method_4_code 52 = .ok (.if_icmp .lt 7, 3) := by decide +kernel
theorem d202_55 : decode prog_84_method_4_code 55 = .ok (.iconst 4, 1) := by decide +kernel
theorem d202_56 : decode prog_84_method_4_code 56 = .ok (.goto 26, 3) := by decide +kernel
theorem d202_59 : decode prog_84_method_4_code 59 = .ok (.iload_n 3, 1) := by decide +kernel
theorem d202_60 : decode prog_84_method_4_code 60 = .ok (.sipush 224, 3) := by decide +kernel
theorem d202_63 : decode prog_84_method_4_code 63 = .ok (.if_icmp .lt 7, 3) := by decide +kernel
theorem d202_66 : decode prog_84_method_4_code 66 = .ok (.iconst 3, 1) := by decide +kernel
theorem d202_67 : decode prog_84_method_4_code 67 = .ok (.goto 15, 3) := by decide +kernel
theorem d202_70 : decode prog_84_method_4_code 70 = .ok (.iload_n 3, 1) := by decide +kernel
theorem d202_71 : decode prog_84_method_4_code 71 = .ok (.sipush 192, 3) := by decide +kernel
theorem d202_74 : decode prog_84_method_4_code 74 = .ok (.if_icmp .lt 7, 3) := by decide +kernel
theorem d202_77 : decode prog_84_method_4_code 77 = .ok (.iconst 2, 1) := by decide +kernel
theorem d202_78 : decode prog_84_method_4_code 78 = .ok (.goto 4, 3) := by decide +kernel
theorem d202_81 : decode prog_84_method_4_code 81 = .ok (.iconst 1, 1) := by decide +kernel
theorem d202_82 : decode prog_84_method_4_code 82 = .ok (.istore 4, 2) := by decide +kernel
theorem d202_84 : decode prog_84_method_4_code 84 = .ok (.iload_n 2, 1) := by decide +kernel
theorem d202_85 : decode prog_84_method_4_code 85 = .ok (.iload 4, 2) := by decide +kernel
theorem d202_87 : decode prog_84_method_4_code 87 = .ok (.iadd, 1) := by decide +kernel
theorem d202_88 : decode prog_84_method_4_code 88 = .ok (.iload_n 1, 1) := by decide +kernel
theorem d202_89 : decode prog_84_method_4_code 89 = .ok (.if_icmp .le 7, 3) := by decide +kernel
theorem d202_92 : decode prog_84_method_4_code 92 = .ok (.iload_n 2, 1) := by decide +kernel
theorem d202_93 : decode prog_84_method_4_code 93 = .ok (.goto 4, 3) := by decide +kernel
theorem d202_96 : decode prog_84_method_4_code 96 = .ok (.iload_n 1, 1) := by decide +kernel
theorem d202_97 : decode prog_84_method_4_code 97 = .ok (.ireturn, 1) := by decide +kernel
set_option maxRecDepth 65536 in
set_option maxHeartbeats 40000000 in
theorem rm4_2 (l : Launch) (Z : State) (a0 : Array Value) (hw : ∀ d ∈ tables_1, d.before a0 Z = true) (a : Addr) (f : Nat → Int32) (h0 : Heap) (n0 : Nat) (Z0 : n0 ≤ h0.size) (A_a : own_AI Z h0 a .byte 6 f) :
    own_C l Z (⟨"com/example/gentle_indent/gentleindent/util/Utf8", "wholeEnd", "([BI)I"⟩ : MethodName) prog_84_method_4_code 5 (some .int) [] ({ frames := 0, cells := 0, slots := 0, locals := 0 } : Room) #[(.ref a), (.int (2 : Int32))] h0 (fun v h L => v = some (.int (own_we_2 f)) ∧ Fr n0 L ∧ h = h0) := by
  refine own_body (by first | (simp [plainName, overriddenIn]; done) | decide +kernel) ?_
  intro p e s m below meth c T0 hx hby hml hown hnm hret hlk hZ X0 e0
  have N0 := Fr.nil n0
  refine own_eq (f' := (mkF m 0 #[.val (.ref a), .val (.int (2 : Int32)), .unset, .unset, .unset] [])) (by first | (simp [entryFrame, mkF, argsToLocals, Value.category]; done) | rfl) ?_
  refine own_iloadN X0 hx 1 (hb hby d202_0) rfl rfl ?_
  refine own_iconst X0 hx 2 (1 : Int32) (by decide) (hb hby d202_1) rfl ?_
  refine own_isubz X0 hx 3 (z := (1 : Int32)) (by decide) (hb hby d202_2) rfl ?_
  refine own_istoreN X0 hx 4 #[.val (.ref a), .val (.int (2 : Int32)), .val (.int (1 : Int32)), .unset, .unset] rfl (hb hby d202_3) rfl rfl ?_
  refine own_iloadN X0 hx 5 (hb hby d202_4) rfl rfl ?_
  refine own_if_le X0 hx 34 8 (hb hby d202_5) (by decide) (by decide) rfl (fun h1 => ?_) (fun h1 => ?_)
  · exact absurd h1 (by decide)
  · show own_W p e below _ T0 (mkF m 8 #[.val (.ref a), .val (.int (2 : Int32)), .val (.int (1 : Int32)), .unset, .unset] [])
    refine own_iloadN X0 hx 9 (hb hby d202_8) rfl rfl ?_
    refine own_iloadN X0 hx 10 (hb hby d202_9) rfl rfl ?_
    refine own_iconst X0 hx 11 (4 : Int32) (by decide) (hb hby d202_10) rfl ?_
    refine own_isubz X0 hx 12 (z := (-2 : Int32)) (by decide) (hb hby d202_11) rfl ?_
    refine own_icmp_le X0 hx 34 15 (hb hby d202_12) (by decide) (by decide) rfl (fun h2 => ?_) (fun h2 => ?_)
    · exact absurd h2 (by decide)
    · show own_W p e below _ T0 (mkF m 15 #[.val (.ref a), .val (.int (2 : Int32)), .val (.int (1 : Int32)), .unset, .unset] [])
      refine own_aloadN X0 hx 16 (hb hby d202_15) rfl rfl ?_
      refine own_iloadN X0 hx 17 (hb hby d202_16) rfl rfl ?_
      refine own_baload X0 hx hZ e0 18 1 A_a rfl (by decide) (hb hby d202_17) rfl ?_
      refine own_sipush X0 hx 21 (192 : Int32) (by decide) (hb hby d202_18) rfl ?_
      refine own_iand X0 hx 22 (hb hby d202_21) rfl ?_
      refine own_sipush X0 hx 25 (128 : Int32) (by decide) (hb hby d202_22) rfl ?_
      refine own_icmp_ne X0 hx 34 28 (hb hby d202_25) (by decide) (by decide) rfl (fun h3 => ?_) (fun h3 => ?_)
      · show own_W p e below _ T0 (mkF m 34 #[.val (.ref a), .val (.int (2 : Int32)), .val (.int (1 : Int32)), .unset, .unset] [])
        refine own_iloadN X0 hx 35 (hb hby d202_34) rfl rfl ?_
        refine own_if_ge X0 hx 40 38 (hb hby d202_35) (by decide) (by decide) rfl (fun h4 => ?_) (fun h4 => ?_)
        · show own_W p e below _ T0 (mkF m 40 #[.val (.ref a), .val (.int (2 : Int32)), .val (.int (1 : Int32)), .unset, .unset] [])
          refine own_aloadN X0 hx 41 (hb hby d202_40) rfl rfl ?_
          refine own_iloadN X0 hx 42 (hb hby d202_41) rfl rfl ?_
          refine own_baload X0 hx hZ e0 43 1 A_a rfl (by decide) (hb hby d202_42) rfl ?_
          refine own_sipush X0 hx 46 (255 : Int32) (by decide) (hb hby d202_43) rfl ?_
          refine own_iand X0 hx 47 (hb hby d202_46) rfl ?_
          refine own_istoreN X0 hx 48 #[.val (.ref a), .val (.int (2 : Int32)), .val (.int (1 : Int32)), .val (.int ((f 1) &&& (255 : Int32))), .unset] rfl (hb hby d202_47) rfl rfl ?_
          refine own_iloadN X0 hx 49 (hb hby d202_48) rfl rfl ?_
          refine own_sipush X0 hx 52 (240 : Int32) (by decide) (hb hby d202_49) rfl ?_
          refine own_icmp_lt X0 hx 59 55 (hb hby d202_52) (by decide) (by decide) rfl (fun h5 => ?_) (fun h5 => ?_)
          · show own_W p e below _ T0 (mkF m 59 #[.val (.ref a), .val (.int (2 : Int32)), .val (.int (1 : Int32)), .val (.int ((f 1) &&& (255 : Int32))), .unset] [])
            refine own_iloadN X0 hx 60 (hb hby d202_59) rfl rfl ?_
            refine own_sipush X0 hx 63 (224 : Int32) (by decide) (hb hby d202_60) rfl ?_
            refine own_icmp_lt X0 hx 70 66 (hb hby d202_63) (by decide) (by decide) rfl (fun h6 => ?_) (fun h6 => ?_)
            · show own_W p e below _ T0 (mkF m 70 #[.val (.ref a), .val (.int (2 : Int32)), .val (.int (1 : Int32)), .val (.int ((f 1) &&& (255 : Int32))), .unset] [])
              refine own_iloadN X0 hx 71 (hb hby d202_70) rfl rfl ?_
              refine own_sipush X0 hx 74 (192 : Int32) (by decide) (hb hby d202_71) rfl ?_
              refine own_icmp_lt X0 hx 81 77 (hb hby d202_74) (by decide) (by decide) rfl (fun h7 => ?_) (fun h7 => ?_)
              · show own_W p e below _ T0 (mkF m 81 #[.val (.ref a), .val (.int (2 : Int32)), .val (.int (1 : Int32)), .val (.int ((f 1) &&& (255 : Int32))), .unset] [])
                refine own_iconst X0 hx 82 (1 : Int32) (by decide) (hb hby d202_81) rfl ?_
                refine own_istore X0 hx 84 #[.val (.ref a), .val (.int (2 : Int32)), .val (.int (1 : Int32)), .val (.int ((f 1) &&& (255 : Int32))), .val (.int (1 : Int32))] rfl (hb hby d202_82) rfl rfl ?_
                refine own_iloadN X0 hx 85 (hb hby d202_84) rfl rfl ?_
                refine own_iload X0 hx 87 (hb hby d202_85) rfl rfl ?_
                refine own_iaddz X0 hx 88 (z := (2 : Int32)) (by decide) (hb hby d202_87) rfl ?_
                refine own_iloadN X0 hx 89 (hb hby d202_88) rfl rfl ?_
                refine own_icmp_le X0 hx 96 92 (hb hby d202_89) (by decide) (by decide) rfl (fun h8 => ?_) (fun h8 => ?_)
                · show own_W p e below _ T0 (mkF m 96 #[.val (.ref a), .val (.int (2 : Int32)), .val (.int (1 : Int32)), .val (.int ((f 1) &&& (255 : Int32))), .val (.int (1 : Int32))] [])
                  refine own_iloadN X0 hx 97 (hb hby d202_96) rfl rfl ?_
                  exact own_retI X0 hx hret hlk (hb hby d202_97) (by decide) (by decide) ⟨by unfold own_we_2; rw [if_neg h3, if_pos h5, if_pos h6, if_pos h7], N0, e0⟩
                · exact absurd h8 (by decide)
              · show own_W p e below _ T0 (mkF m 77 #[.val (.ref a), .val (.int (2 : Int32)), .val (.int (1 : Int32)), .val (.int ((f 1) &&& (255 : Int32))), .unset] [])
                refine own_iconst X0 hx 78 (2 : Int32) (by decide) (hb hby d202_77) rfl ?_
                refine own_goto X0 hx 82 (hb hby d202_78) (by decide) (by decide) ?_
                refine own_istore X0 hx 84 #[.val (.ref a), .val (.int (2 : Int32)), .val (.int (1 : Int32)), .val (.int ((f 1) &&& (255 : Int32))), .val (.int (2 : Int32))] rfl (hb hby d202_82) rfl rfl ?_
                refine own_iloadN X0 hx 85 (hb hby d202_84) rfl rfl ?_
                refine own_iload X0 hx 87 (hb hby d202_85) rfl rfl ?_
                refine own_iaddz X0 hx 88 (z := (3 : Int32)) (by decide) (hb hby d202_87) rfl ?_
                refine own_iloadN X0 hx 89 (hb hby d202_88) rfl rfl ?_
                refine own_icmp_le X0 hx 96 92 (hb hby d202_89) (by decide) (by decide) rfl (fun h9 => ?_) (fun h9 => ?_)
                · exact absurd h9 (by decide)
                · show own_W p e below _ T0 (mkF m 92 #[.val (.ref a), .val (.int (2 : Int32)), .val (.int (1 : Int32)), .val (.int ((f 1) &&& (255 : Int32))), .val (.int (2 : Int32))] [])
                  refine own_iloadN X0 hx 93 (hb hby d202_92) rfl rfl ?_
                  refine own_goto X0 hx 97 (hb hby d202_93) (by decide) (by decide) ?_
                  exact own_retI X0 hx hret hlk (hb hby d202_97) (by decide) (by decide) ⟨by unfold own_we_2; rw [if_neg h3, if_pos h5, if_pos h6, if_neg h7], N0, e0⟩
            · show own_W p e below _ T0 (mkF m 66 #[.val (.ref a), .val (.int (2 : Int32)), .val (.int (1 : Int32)), .val (.int ((f 1) &&& (255 : Int32))), .unset] [])
              refine own_iconst X0 hx 67 (3 : Int32) (by decide) (hb hby d202_66) rfl ?_
              refine own_goto X0 hx 82 (hb hby d202_67) (by decide) (by decide) ?_
              refine own_istore X0 hx 84 #[.val (.ref a), .val (.int (2 : Int32)), .val (.int (1 : Int32)), .val (.int ((f 1) &&& (255 : Int32))), .val (.int (3 : Int32))] rfl (hb hby d202_82) rfl rfl ?_
              refine own_iloadN X0 hx 85 (hb hby d202_84) rfl rfl ?_
              refine own_iload X0 hx 87 (hb hby d202_85) rfl rfl ?_
              refine own_iaddz X0 hx 88 (z := (4 : Int32)) (by decide) (hb hby d202_87) rfl ?_
              refine own_iloadN X0 hx 89 (hb hby d202_88) rfl rfl ?_
              refine own_icmp_le X0 hx 96 92 (hb hby d202_89) (by decide) (by decide) rfl (fun h10 => ?_) (fun h10 => ?_)
              · exact absurd h10 (by decide)
              · show own_W p e below _ T0 (mkF m 92 #[.val (.ref a), .val (.int (2 : Int32)), .val (.int (1 : Int32)), .val (.int ((f 1) &&& (255 : Int32))), .val (.int (3 : Int32))] [])
                refine own_iloadN X0 hx 93 (hb hby d202_92) rfl rfl ?_
                refine own_goto X0 hx 97 (hb hby d202_93) (by decide) (by decide) ?_
                exact own_retI X0 hx hret hlk (hb hby d202_97) (by decide) (by decide) ⟨by unfold own_we_2; rw [if_neg h3, if_pos h5, if_neg h6], N0, e0⟩
          · show own_W p e below _ T0 (mkF m 55 #[.val (.ref a), .val (.int (2 : Int32)), .val (.int (1 : Int32)), .val (.int ((f 1) &&& (255 : Int32))), .unset] [])
            refine own_iconst X0 hx 56 (4 : Int32) (by decide) (hb hby d202_55) rfl ?_
            refine own_goto X0 hx 82 (hb hby d202_56) (by decide) (by decide) ?_
            refine own_istore X0 hx 84 #[.val (.ref a), .val (.int (2 : Int32)), .val (.int (1 : Int32)), .val (.int ((f 1) &&& (255 : Int32))), .val (.int (4 : Int32))] rfl (hb hby d202_82) rfl rfl ?_
            refine own_iloadN X0 hx 85 (hb hby d202_84) rfl rfl ?_
            refine own_iload X0 hx 87 (hb hby d202_85) rfl rfl ?_
            refine own_iaddz X0 hx 88 (z := (5 : Int32)) (by decide) (hb hby d202_87) rfl ?_
            refine own_iloadN X0 hx 89 (hb hby d202_88) rfl rfl ?_
            refine own_icmp_le X0 hx 96 92 (hb hby d202_89) (by decide) (by decide) rfl (fun h11 => ?_) (fun h11 => ?_)
            · exact absurd h11 (by decide)
            · show own_W p e below _ T0 (mkF m 92 #[.val (.ref a), .val (.int (2 : Int32)), .val (.int (1 : Int32)), .val (.int ((f 1) &&& (255 : Int32))), .val (.int (4 : Int32))] [])
              refine own_iloadN X0 hx 93 (hb hby d202_92) rfl rfl ?_
              refine own_goto X0 hx 97 (hb hby d202_93) (by decide) (by decide) ?_
              exact own_retI X0 hx hret hlk (hb hby d202_97) (by decide) (by decide) ⟨by unfold own_we_2; rw [if_neg h3, if_neg h5], N0, e0⟩
        · exact absurd h4 (by decide)
      · show own_W p e below _ T0 (mkF m 28 #[.val (.ref a), .val (.int (2 : Int32)), .val (.int (1 : Int32)), .unset, .unset] [])
        refine own_iinc X0 hx (0 : Int32) 31 #[.val (.ref a), .val (.int (2 : Int32)), .val (.int (0 : Int32)), .unset, .unset] (by decide) (hb hby d202_28) rfl rfl rfl ?_
        refine own_goto X0 hx 4 (hb hby d202_31) (by decide) (by decide) ?_
        refine own_iloadN X0 hx 5 (hb hby d202_4) rfl rfl ?_
        refine own_if_le X0 hx 34 8 (hb hby d202_5) (by decide) (by decide) rfl (fun h12 => ?_) (fun h12 => ?_)
        · show own_W p e below _ T0 (mkF m 34 #[.val (.ref a), .val (.int (2 : Int32)), .val (.int (0 : Int32)), .unset, .unset] [])
          refine own_iloadN X0 hx 35 (hb hby d202_34) rfl rfl ?_
          refine own_if_ge X0 hx 40 38 (hb hby d202_35) (by decide) (by decide) rfl (fun h13 => ?_) (fun h13 => ?_)
          · show own_W p e below _ T0 (mkF m 40 #[.val (.ref a), .val (.int (2 : Int32)), .val (.int (0 : Int32)), .unset, .unset] [])
            refine own_aloadN X0 hx 41 (hb hby d202_40) rfl rfl ?_
            refine own_iloadN X0 hx 42 (hb hby d202_41) rfl rfl ?_
            refine own_baload X0 hx hZ e0 43 0 A_a rfl (by decide) (hb hby d202_42) rfl ?_
            refine own_sipush X0 hx 46 (255 : Int32) (by decide) (hb hby d202_43) rfl ?_
            refine own_iand X0 hx 47 (hb hby d202_46) rfl ?_
            refine own_istoreN X0 hx 48 #[.val (.ref a), .val (.int (2 : Int32)), .val (.int (0 : Int32)), .val (.int ((f 0) &&& (255 : Int32))), .unset] rfl (hb hby d202_47) rfl rfl ?_
            refine own_iloadN X0 hx 49 (hb hby d202_48) rfl rfl ?_
            refine own_sipush X0 hx 52 (240 : Int32) (by decide) (hb hby d202_49) rfl ?_
            refine own_icmp_lt X0 hx 59 55 (hb hby d202_52) (by decide) (by decide) rfl (fun h14 => ?_) (fun h14 => ?_)
            · show own_W p e below _ T0 (mkF m 59 #[.val (.ref a), .val (.int (2 : Int32)), .val (.int (0 : Int32)), .val (.int ((f 0) &&& (255 : Int32))), .unset] [])
              refine own_iloadN X0 hx 60 (hb hby d202_59) rfl rfl ?_
              refine own_sipush X0 hx 63 (224 : Int32) (by decide) (hb hby d202_60) rfl ?_
              refine own_icmp_lt X0 hx 70 66 (hb hby d202_63) (by decide) (by decide) rfl (fun h15 => ?_) (fun h15 => ?_)
              · show own_W p e below _ T0 (mkF m 70 #[.val (.ref a), .val (.int (2 : Int32)), .val (.int (0 : Int32)), .val (.int ((f 0) &&& (255 : Int32))), .unset] [])
                refine own_iloadN X0 hx 71 (hb hby d202_70) rfl rfl ?_
                refine own_sipush X0 hx 74 (192 : Int32) (by decide) (hb hby d202_71) rfl ?_
                refine own_icmp_lt X0 hx 81 77 (hb hby d202_74) (by decide) (by decide) rfl (fun h16 => ?_) (fun h16 => ?_)
                · show own_W p e below _ T0 (mkF m 81 #[.val (.ref a), .val (.int (2 : Int32)), .val (.int (0 : Int32)), .val (.int ((f 0) &&& (255 : Int32))), .unset] [])
                  refine own_iconst X0 hx 82 (1 : Int32) (by decide) (hb hby d202_81) rfl ?_
                  refine own_istore X0 hx 84 #[.val (.ref a), .val (.int (2 : Int32)), .val (.int (0 : Int32)), .val (.int ((f 0) &&& (255 : Int32))), .val (.int (1 : Int32))] rfl (hb hby d202_82) rfl rfl ?_
                  refine own_iloadN X0 hx 85 (hb hby d202_84) rfl rfl ?_
                  refine own_iload X0 hx 87 (hb hby d202_85) rfl rfl ?_
                  refine own_iaddz X0 hx 88 (z := (1 : Int32)) (by decide) (hb hby d202_87) rfl ?_
                  refine own_iloadN X0 hx 89 (hb hby d202_88) rfl rfl ?_
                  refine own_icmp_le X0 hx 96 92 (hb hby d202_89) (by decide) (by decide) rfl (fun h17 => ?_) (fun h17 => ?_)
                  · show own_W p e below _ T0 (mkF m 96 #[.val (.ref a), .val (.int (2 : Int32)), .val (.int (0 : Int32)), .val (.int ((f 0) &&& (255 : Int32))), .val (.int (1 : Int32))] [])
                    refine own_iloadN X0 hx 97 (hb hby d202_96) rfl rfl ?_
                    exact own_retI X0 hx hret hlk (hb hby d202_97) (by decide) (by decide) ⟨by unfold own_we_2; rw [if_pos h3, if_pos h14, if_pos h15, if_pos h16], N0, e0⟩
                  · exact absurd h17 (by decide)
                · show own_W p e below _ T0 (mkF m 77 #[.val (.ref a), .val (.int (2 : Int32)), .val (.int (0 : Int32)), .val (.int ((f 0) &&& (255 : Int32))), .unset] [])
                  refine own_iconst X0 hx 78 (2 : Int32) (by decide) (hb hby d202_77) rfl ?_
                  refine own_goto X0 hx 82 (hb hby d202_78) (by decide) (by decide) ?_
                  refine own_istore X0 hx 84 #[.val (.ref a), .val (.int (2 : Int32)), .val (.int (0 : Int32)), .val (.int ((f 0) &&& (255 : Int32))), .val (.int (2 : Int32))] rfl (hb hby d202_82) rfl rfl ?_
                  refine own_iloadN X0 hx 85 (hb hby d202_84) rfl rfl ?_
                  refine own_iload X0 hx 87 (hb hby d202_85) rfl rfl ?_
                  refine own_iaddz X0 hx 88 (z := (2 : Int32)) (by decide) (hb hby d202_87) rfl ?_
                  refine own_iloadN X0 hx 89 (hb hby d202_88) rfl rfl ?_
                  refine own_icmp_le X0 hx 96 92 (hb hby d202_89) (by decide) (by decide) rfl (fun h18 => ?_) (fun h18 => ?_)
                  · show own_W p e below _ T0 (mkF m 96 #[.val (.ref a), .val (.int (2 : Int32)), .val (.int (0 : Int32)), .val (.int ((f 0) &&& (255 : Int32))), .val (.int (2 : Int32))] [])
                    refine own_iloadN X0 hx 97 (hb hby d202_96) rfl rfl ?_
                    exact own_retI X0 hx hret hlk (hb hby d202_97) (by decide) (by decide) ⟨by unfold own_we_2; rw [if_pos h3, if_pos h14, if_pos h15, if_neg h16], N0, e0⟩
                  · exact absurd h18 (by decide)
              · show own_W p e below _ T0 (mkF m 66 #[.val (.ref a), .val (.int (2 : Int32)), .val (.int (0 : Int32)), .val (.int ((f 0) &&& (255 : Int32))), .unset] [])
                refine own_iconst X0 hx 67 (3 : Int32) (by decide) (hb hby d202_66) rfl ?_
                refine own_goto X0 hx 82 (hb hby d202_67) (by decide) (by decide) ?_
                refine own_istore X0 hx 84 #[.val (.ref a), .val (.int (2 : Int32)), .val (.int (0 : Int32)), .val (.int ((f 0) &&& (255 : Int32))), .val (.int (3 : Int32))] rfl (hb hby d202_82) rfl rfl ?_
                refine own_iloadN X0 hx 85 (hb hby d202_84) rfl rfl ?_
                refine own_iload X0 hx 87 (hb hby d202_85) rfl rfl ?_
                refine own_iaddz X0 hx 88 (z := (3 : Int32)) (by decide) (hb hby d202_87) rfl ?_
                refine own_iloadN X0 hx 89 (hb hby d202_88) rfl rfl ?_
                refine own_icmp_le X0 hx 96 92 (hb hby d202_89) (by decide) (by decide) rfl (fun h19 => ?_) (fun h19 => ?_)
                · exact absurd h19 (by decide)
                · show own_W p e below _ T0 (mkF m 92 #[.val (.ref a), .val (.int (2 : Int32)), .val (.int (0 : Int32)), .val (.int ((f 0) &&& (255 : Int32))), .val (.int (3 : Int32))] [])
                  refine own_iloadN X0 hx 93 (hb hby d202_92) rfl rfl ?_
                  refine own_goto X0 hx 97 (hb hby d202_93) (by decide) (by decide) ?_
                  exact own_retI X0 hx hret hlk (hb hby d202_97) (by decide) (by decide) ⟨by unfold own_we_2; rw [if_pos h3, if_pos h14, if_neg h15], N0, e0⟩
            · show own_W p e below _ T0 (mkF m 55 #[.val (.ref a), .val (.int (2 : Int32)), .val (.int (0 : Int32)), .val (.int ((f 0) &&& (255 : Int32))), .unset] [])
              refine own_iconst X0 hx 56 (4 : Int32) (by decide) (hb hby d202_55) rfl ?_
              refine own_goto X0 hx 82 (hb hby d202_56) (by decide) (by decide) ?_
              refine own_istore X0 hx 84 #[.val (.ref a), .val (.int (2 : Int32)), .val (.int (0 : Int32)), .val (.int ((f 0) &&& (255 : Int32))), .val (.int (4 : Int32))] rfl (hb hby d202_82) rfl rfl ?_
              refine own_iloadN X0 hx 85 (hb hby d202_84) rfl rfl ?_
              refine own_iload X0 hx 87 (hb hby d202_85) rfl rfl ?_
              refine own_iaddz X0 hx 88 (z := (4 : Int32)) (by decide) (hb hby d202_87) rfl ?_
              refine own_iloadN X0 hx 89 (hb hby d202_88) rfl rfl ?_
              refine own_icmp_le X0 hx 96 92 (hb hby d202_89) (by decide) (by decide) rfl (fun h20 => ?_) (fun h20 => ?_)
              · exact absurd h20 (by decide)
              · show own_W p e below _ T0 (mkF m 92 #[.val (.ref a), .val (.int (2 : Int32)), .val (.int (0 : Int32)), .val (.int ((f 0) &&& (255 : Int32))), .val (.int (4 : Int32))] [])
                refine own_iloadN X0 hx 93 (hb hby d202_92) rfl rfl ?_
                refine own_goto X0 hx 97 (hb hby d202_93) (by decide) (by decide) ?_
                exact own_retI X0 hx hret hlk (hb hby d202_97) (by decide) (by decide) ⟨by unfold own_we_2; rw [if_pos h3, if_neg h14], N0, e0⟩
          · exact absurd h13 (by decide)
        · exact absurd h12 (by decide)
theorem d131_0 : decode method_4_code 0 = .ok (.iload_n 1, 1) := by decide +kernel
theorem d131_1 : decode method_4_code 1 = .ok (.iload_n 2, 1) := by decide +kernel
theorem d131_2 : decode method_4_code 2 = .ok (.isub, 1) := by decide +kernel
theorem d131_3 : decode method_4_code 3 = .ok (.istore_n 3, 1) := by decide +kernel
theorem d131_4 : decode method_4_code 4 = .ok (.iload_n 3, 1) := by decide +kernel
theorem d131_5 : decode method_4_code 5 = .ok (.ifCond .ge 5, 3) := by decide +kernel
theorem d131_10 : decode method_4_code 10 = .ok (.aload_n 0, 1) := by decide +kernel
theorem d131_11 : decode method_4_code 11 = .ok (.iload_n 3, 1) := by decide +kernel
theorem d131_12 : decode method_4_code 12 = .ok (.baload, 1) := by decide +kernel
theorem d131_13 : decode method_4_code 13 = .ok (.invokestatic 7, 3) := by decide +kernel
theorem d131_16 : decode method_4_code 16 = .ok (.iload_n 2, 1) := by decide +kernel
theorem d131_17 : decode method_4_code 17 = .ok (.if_icmp .gt 5, 3) := by decide +kernel
theorem d131_20 : decode method_4_code 20 = .ok (.iconst 0, 1) := by decide +kernel
theorem d131_21 : decode method_4_code 21 = .ok (.ireturn, 1) := by decide +kernel
theorem d131_22 : decode method_4_code 22 = .ok (.iload_n 2, 1) := by decide +kernel
theorem d131_23 : decode method_4_code 23 = .ok (.iconst 2, 1) := by decide +kernel
theorem d131_24 : decode method_4_code 24 = .ok (.if_icmp .lt 16, 3) := by decide +kernel
theorem d131_40 : decode method_4_code 40 = .ok (.iload_n 2, 1) := by decide +kernel
theorem d131_41 : decode method_4_code 41 = .ok (.iconst 3, 1) := by decide +kernel
theorem d131_42 : decode method_4_code 42 = .ok (.if_icmp .lt 16, 3) := by decide +kernel
theorem d131_58 : decode method_4_code 58 = .ok (.iconst 1, 1) := by decide +kernel
theorem d131_59 : decode method_4_code 59 = .ok (.ireturn, 1) := by decide +kernel
set_option maxRecDepth 65536 in
set_option maxHeartbeats 40000000 in
theorem rm3_3_1 (l : Launch) (Z : State) (a0 : Array Value) (hw : ∀ d ∈ tables_1, d.before a0 Z = true) (a : Addr) (f : Nat → Int32) (h0 : Heap) (n0 : Nat) (Z0 : n0 ≤ h0.size) (A_a : own_AI Z h0 a .byte 6 f) :
    own_C l Z (⟨"com/example/gentle_indent/gentleindent/util/Utf8WholeEndPinLaw", "cutAt", "([BII)Z"⟩ : MethodName) method_4_code 4 (some .boolean) [] ({ frames := 1, cells := 0, slots := 0, locals := 16 } : Room) #[(.ref a), (.int (3 : Int32)), (.int (1 : Int32))] h0 (fun v h L => v = some (.int (own_cut_3_1 f)) ∧ Fr n0 L ∧ h = h0) := by
  refine own_body (by first | (simp [plainName, overriddenIn]; done) | decide +kernel) ?_
  intro p e s m below meth c T0 hx hby hml hown hnm hret hlk hZ X0 e0
  have N0 := Fr.nil n0
  refine own_eq (f' := (mkF m 0 #[.val (.ref a), .val (.int (3 : Int32)), .val (.int (1 : Int32)), .unset] [])) (by first | (simp [entryFrame, mkF, argsToLocals, Value.category]; done) | rfl) ?_
  refine own_iloadN X0 hx 1 (hb hby d131_0) rfl rfl ?_
  refine own_iloadN X0 hx 2 (hb hby d131_1) rfl rfl ?_
  refine own_isubz X0 hx 3 (z := (2 : Int32)) (by decide) (hb hby d131_2) rfl ?_
  refine own_istoreN X0 hx 4 #[.val (.ref a), .val (.int (3 : Int32)), .val (.int (1 : Int32)), .val (.int (2 : Int32))] rfl (hb hby d131_3) rfl rfl ?_
  refine own_iloadN X0 hx 5 (hb hby d131_4) rfl rfl ?_
  refine own_if_ge X0 hx 10 8 (hb hby d131_5) (by decide) (by decide) rfl (fun h1 => ?_) (fun h1 => ?_)
  · show own_W p e below _ T0 (mkF m 10 #[.val (.ref a), .val (.int (3 : Int32)), .val (.int (1 : Int32)), .val (.int (2 : Int32))] [])
    refine own_aloadN X0 hx 11 (hb hby d131_10) rfl rfl ?_
    refine own_iloadN X0 hx 12 (hb hby d131_11) rfl rfl ?_
    refine own_baload X0 hx hZ e0 13 2 A_a rfl (by decide) (hb hby d131_12) rfl ?_
    refine own_callS X0 hx hZ hown e0 (y := (⟨"com/example/gentle_indent/gentleindent/util/Utf8WholeEndPinLaw", "need", "(B)I"⟩ : MethodName)) (argsL := [(.int (f 2))]) (rest := []) 16 (rm1 l Z a0 hw (f 2) h0 n0 Z0) (hw _ (List.mem_of_getElem? (i := 6) rfl)) (hw _ (List.mem_of_getElem? (i := 7) rfl)) (hw _ (List.mem_of_getElem? (i := 4) rfl)) (hw _ (List.mem_of_getElem? (i := 8) rfl)) (by decide) (by rw [hml]; rfl) (lenOf (by decide +kernel : parseMethodDescriptor "(B)I" = some ⟨[.byte], some .int⟩) rfl) rfl (hb hby d131_13) rfl (W := 0) rfl (by decide) (by decide) (by decide) (by decide) (fun r2 T3 L4 X5 q6 => ?_)
    obtain ⟨rfl, N7q, e8⟩ := q6
    have N7 := Fr.app N0 N7q
    show own_W p e below _ T3 (mkF m 16 #[.val (.ref a), .val (.int (3 : Int32)), .val (.int (1 : Int32)), .val (.int (2 : Int32))] [(.int (own_need (f 2)))])
    refine own_iloadN X5 hx 17 (hb hby d131_16) rfl rfl ?_
    refine own_icmp_gt X5 hx 22 20 (hb hby d131_17) (by decide) (by decide) rfl (fun h9 => ?_) (fun h9 => ?_)
    · show own_W p e below _ T3 (mkF m 22 #[.val (.ref a), .val (.int (3 : Int32)), .val (.int (1 : Int32)), .val (.int (2 : Int32))] [])
      refine own_iloadN X5 hx 23 (hb hby d131_22) rfl rfl ?_
      refine own_iconst X5 hx 24 (2 : Int32) (by decide) (hb hby d131_23) rfl ?_
      refine own_icmp_lt X5 hx 40 27 (hb hby d131_24) (by decide) (by decide) rfl (fun h10 => ?_) (fun h10 => ?_)
      · show own_W p e below _ T3 (mkF m 40 #[.val (.ref a), .val (.int (3 : Int32)), .val (.int (1 : Int32)), .val (.int (2 : Int32))] [])
        refine own_iloadN X5 hx 41 (hb hby d131_40) rfl rfl ?_
        refine own_iconst X5 hx 42 (3 : Int32) (by decide) (hb hby d131_41) rfl ?_
        refine own_icmp_lt X5 hx 58 45 (hb hby d131_42) (by decide) (by decide) rfl (fun h11 => ?_) (fun h11 => ?_)
        · show own_W p e below _ T3 (mkF m 58 #[.val (.ref a), .val (.int (3 : Int32)), .val (.int (1 : Int32)), .val (.int (2 : Int32))] [])
          refine own_iconst X5 hx 59 (1 : Int32) (by decide) (hb hby d131_58) rfl ?_
          exact own_retZ X5 hx (1 : Int32) (by decide) hret hlk (hb hby d131_59) (by decide) (by decide) ⟨by unfold own_cut_3_1; rw [if_pos h9], N7, e8⟩
        · exact absurd h11 (by decide)
      · exact absurd h10 (by decide)
    · show own_W p e below _ T3 (mkF m 20 #[.val (.ref a), .val (.int (3 : Int32)), .val (.int (1 : Int32)), .val (.int (2 : Int32))] [])
      refine own_iconst X5 hx 21 (0 : Int32) (by decide) (hb hby d131_20) rfl ?_
      exact own_retZ X5 hx (0 : Int32) (by decide) hret hlk (hb hby d131_21) (by decide) (by decide) ⟨by unfold own_cut_3_1; rw [if_neg h9], N7, e8⟩
  · exact absurd h1 (by decide)
theorem d132_0 : decode method_4_code 0 = .ok (.iload_n 1, 1) := by decide +kernel
theorem d132_1 : decode method_4_code 1 = .ok (.iload_n 2, 1) := by decide +kernel
theorem d132_2 : decode method_4_code 2 = .ok (.isub, 1) := by decide +kernel
theorem d132_3 : decode method_4_code 3 = .ok (.istore_n 3, 1) := by decide +kernel
theorem d132_4 : decode method_4_code 4 = .ok (.iload_n 3, 1) := by decide +kernel
theorem d132_5 : decode method_4_code 5 = .ok (.ifCond .ge 5, 3) := by decide +kernel
theorem d132_10 : decode method_4_code 10 = .ok (.aload_n 0, 1) := by decide +kernel
theorem d132_11 : decode method_4_code 11 = .ok (.iload_n 3, 1) := by decide +kernel
theorem d132_12 : decode method_4_code 12 = .ok (.baload, 1) := by decide +kernel
theorem d132_13 : decode method_4_code 13 = .ok (.invokestatic 7, 3) := by decide +kernel
theorem d132_16 : decode method_4_code 16 = .ok (.iload_n 2, 1) := by decide +kernel
theorem d132_17 : decode method_4_code 17 = .ok (.if_icmp .gt 5, 3) := by decide +kernel
theorem d132_20 : decode method_4_code 20 = .ok (.iconst 0, 1) := by decide +kernel
theorem d132_21 : decode method_4_code 21 = .ok (.ireturn, 1) := by decide +kernel
theorem d132_22 : decode method_4_code 22 = .ok (.iload_n 2, 1) := by decide +kernel
theorem d132_23 : decode method_4_code 23 = .ok (.iconst 2, 1) := by decide +kernel
theorem d132_24 : decode method_4_code 24 = .ok (.if_icmp .lt 16, 3) := by decide +kernel
theorem d132_27 : decode method_4_code 27 = .ok (.aload_n 0, 1) := by decide +kernel
theorem d132_28 : decode method_4_code 28 = .ok (.iload_n 1, 1) := by decide +kernel
theorem d132_29 : decode method_4_code 29 = .ok (.iconst 1, 1) := by decide +kernel
theorem d132_30 : decode method_4_code 30 = .ok (.isub, 1) := by decide +kernel
theorem d132_31 : decode method_4_code 31 = .ok (.baload, 1) := by decide +kernel
theorem d132_32 : decode method_4_code 32 = .ok (.invokestatic 13, 3) := by decide +kernel
theorem d132_35 : decode method_4_code 35 = .ok (.ifCond .ne 5, 3) := by decide +kernel
theorem d132_38 : decode method_4_code 38 = .ok (.iconst 0, 1) := by decide +kernel
theorem d132_39 : decode method_4_code 39 = .ok (.ireturn, 1) := by decide +kernel
theorem d132_40 : decode method_4_code 40 = .ok (.iload_n 2, 1) := by decide +kernel
theorem d132_41 : decode method_4_code 41 = .ok (.iconst 3, 1) := by decide +kernel
theorem d132_42 : decode method_4_code 42 = .ok (.if_icmp .lt 16, 3) := by decide +kernel
theorem d132_58 : decode method_4_code 58 = .ok (.iconst 1, 1) := by decide +kernel
theorem d132_59 : decode method_4_code 59 = .ok (.ireturn, 1) := by decide +kernel
set_option maxRecDepth 65536 in
set_option maxHeartbeats 40000000 in
theorem rm3_3_2 (l : Launch) (Z : State) (a0 : Array Value) (hw : ∀ d ∈ tables_1, d.before a0 Z = true) (a : Addr) (f : Nat → Int32) (h0 : Heap) (n0 : Nat) (Z0 : n0 ≤ h0.size) (A_a : own_AI Z h0 a .byte 6 f) :
    own_C l Z (⟨"com/example/gentle_indent/gentleindent/util/Utf8WholeEndPinLaw", "cutAt", "([BII)Z"⟩ : MethodName) method_4_code 4 (some .boolean) [] ({ frames := 1, cells := 0, slots := 0, locals := 16 } : Room) #[(.ref a), (.int (3 : Int32)), (.int (2 : Int32))] h0 (fun v h L => v = some (.int (own_cut_3_2 f)) ∧ Fr n0 L ∧ h = h0) := by
  refine own_body (by first | (simp [plainName, overriddenIn]; done) | decide +kernel) ?_
  intro p e s m below meth c T0 hx hby hml hown hnm hret hlk hZ X0 e0
  have N0 := Fr.nil n0
  refine own_eq (f' := (mkF m 0 #[.val (.ref a), .val (.int (3 : Int32)), .val (.int (2 : Int32)), .unset] [])) (by first | (simp [entryFrame, mkF, argsToLocals, Value.category]; done) | rfl) ?_
  refine own_iloadN X0 hx 1 (hb hby d132_0) rfl rfl ?_
  refine own_iloadN X0 hx 2 (hb hby d132_1) rfl rfl ?_
  refine own_isubz X0 hx 3 (z := (1 : Int32)) (by decide) (hb hby d132_2) rfl ?_
  refine own_istoreN X0 hx 4 #[.val (.ref a), .val (.int (3 : Int32)), .val (.int (2 : Int32)), .val (.int (1 : Int32))] rfl (hb hby d132_3) rfl rfl ?_
  refine own_iloadN X0 hx 5 (hb hby d132_4) rfl rfl ?_
  refine own_if_ge X0 hx 10 8 (hb hby d132_5) (by decide) (by decide) rfl (fun h1 => ?_) (fun h1 => ?_)
  · show own_W p e below _ T0 (mkF m 10 #[.val (.ref a), .val (.int (3 : Int32)), .val (.int (2 : Int32)), .val (.int (1 : Int32))] [])
    refine own_aloadN X0 hx 11 (hb hby d132_10) rfl rfl ?_
    refine own_iloadN X0 hx 12 (hb hby d132_11) rfl rfl ?_
    refine own_baload X0 hx hZ e0 13 1 A_a rfl (by decide) (hb hby d132_12) rfl ?_
    refine own_callS X0 hx hZ hown e0 (y := (⟨"com/example/gentle_indent/gentleindent/util/Utf8WholeEndPinLaw", "need", "(B)I"⟩ : MethodName)) (argsL := [(.int (f 1))]) (rest := []) 16 (rm1 l Z a0 hw (f 1) h0 n0 Z0) (hw _ (List.mem_of_getElem? (i := 6) rfl)) (hw _ (List.mem_of_getElem? (i := 7) rfl)) (hw _ (List.mem_of_getElem? (i := 4) rfl)) (hw _ (List.mem_of_getElem? (i := 8) rfl)) (by decide) (by rw [hml]; rfl) (lenOf (by decide +kernel : parseMethodDescriptor "(B)I" = some ⟨[.byte], some .int⟩) rfl) rfl (hb hby d132_13) rfl (W := 0) rfl (by decide) (by decide) (by decide) (by decide) (fun r2 T3 L4 X5 q6 => ?_)
    obtain ⟨rfl, N7q, e8⟩ := q6
    have N7 := Fr.app N0 N7q
    show own_W p e below _ T3 (mkF m 16 #[.val (.ref a), .val (.int (3 : Int32)), .val (.int (2 : Int32)), .val (.int (1 : Int32))] [(.int (own_need (f 1)))])
    refine own_iloadN X5 hx 17 (hb hby d132_16) rfl rfl ?_
    refine own_icmp_gt X5 hx 22 20 (hb hby d132_17) (by decide) (by decide) rfl (fun h9 => ?_) (fun h9 => ?_)
    · show own_W p e below _ T3 (mkF m 22 #[.val (.ref a), .val (.int (3 : Int32)), .val (.int (2 : Int32)), .val (.int (1 : Int32))] [])
      refine own_iloadN X5 hx 23 (hb hby d132_22) rfl rfl ?_
      refine own_iconst X5 hx 24 (2 : Int32) (by decide) (hb hby d132_23) rfl ?_
      refine own_icmp_lt X5 hx 40 27 (hb hby d132_24) (by decide) (by decide) rfl (fun h10 => ?_) (fun h10 => ?_)
      · exact absurd h10 (by decide)
      · show own_W p e below _ T3 (mkF m 27 #[.val (.ref a), .val (.int (3 : Int32)), .val (.int (2 : Int32)), .val (.int (1 : Int32))] [])
        refine own_aloadN X5 hx 28 (hb hby d132_27) rfl rfl ?_
        refine own_iloadN X5 hx 29 (hb hby d132_28) rfl rfl ?_
        refine own_iconst X5 hx 30 (1 : Int32) (by decide) (hb hby d132_29) rfl ?_
        refine own_isubz X5 hx 31 (z := (2 : Int32)) (by decide) (hb hby d132_30) rfl ?_
        refine own_baload X5 hx hZ e8 32 2 A_a rfl (by decide) (hb hby d132_31) rfl ?_
        refine own_callS X5 hx hZ hown e8 (y := (⟨"com/example/gentle_indent/gentleindent/util/Utf8WholeEndPinLaw", "cont", "(B)Z"⟩ : MethodName)) (argsL := [(.int (f 2))]) (rest := []) 35 (rm2 l Z a0 hw (f 2) h0 n0 Z0) (hw _ (List.mem_of_getElem? (i := 13) rfl)) (hw _ (List.mem_of_getElem? (i := 14) rfl)) (hw _ (List.mem_of_getElem? (i := 4) rfl)) (hw _ (List.mem_of_getElem? (i := 15) rfl)) (by decide) (by rw [hml]; rfl) (lenOf (by decide +kernel : parseMethodDescriptor "(B)Z" = some ⟨[.byte], some .boolean⟩) rfl) rfl (hb hby d132_32) rfl (W := 0) rfl (by decide) (by decide) (by decide) (by decide) (fun r11 T12 L13 X14 q15 => ?_)
        obtain ⟨rfl, N16q, e17⟩ := q15
        have N16 := Fr.app N7 N16q
        show own_W p e below _ T12 (mkF m 35 #[.val (.ref a), .val (.int (3 : Int32)), .val (.int (2 : Int32)), .val (.int (1 : Int32))] [(.int (own_cont (f 2)))])
        refine own_if_ne X14 hx 40 38 (hb hby d132_35) (by decide) (by decide) rfl (fun h18 => ?_) (fun h18 => ?_)
        · show own_W p e below _ T12 (mkF m 40 #[.val (.ref a), .val (.int (3 : Int32)), .val (.int (2 : Int32)), .val (.int (1 : Int32))] [])
          refine own_iloadN X14 hx 41 (hb hby d132_40) rfl rfl ?_
          refine own_iconst X14 hx 42 (3 : Int32) (by decide) (hb hby d132_41) rfl ?_
          refine own_icmp_lt X14 hx 58 45 (hb hby d132_42) (by decide) (by decide) rfl (fun h19 => ?_) (fun h19 => ?_)
          · show own_W p e below _ T12 (mkF m 58 #[.val (.ref a), .val (.int (3 : Int32)), .val (.int (2 : Int32)), .val (.int (1 : Int32))] [])
            refine own_iconst X14 hx 59 (1 : Int32) (by decide) (hb hby d132_58) rfl ?_
            exact own_retZ X14 hx (1 : Int32) (by decide) hret hlk (hb hby d132_59) (by decide) (by decide) ⟨by unfold own_cut_3_2; rw [if_pos h9, if_neg h18], N16, e17⟩
          · exact absurd h19 (by decide)
        · show own_W p e below _ T12 (mkF m 38 #[.val (.ref a), .val (.int (3 : Int32)), .val (.int (2 : Int32)), .val (.int (1 : Int32))] [])
          refine own_iconst X14 hx 39 (0 : Int32) (by decide) (hb hby d132_38) rfl ?_
          exact own_retZ X14 hx (0 : Int32) (by decide) hret hlk (hb hby d132_39) (by decide) (by decide) ⟨by unfold own_cut_3_2; rw [if_pos h9, if_pos h18], N16, e17⟩
    · show own_W p e below _ T3 (mkF m 20 #[.val (.ref a), .val (.int (3 : Int32)), .val (.int (2 : Int32)), .val (.int (1 : Int32))] [])
      refine own_iconst X5 hx 21 (0 : Int32) (by decide) (hb hby d132_20) rfl ?_
      exact own_retZ X5 hx (0 : Int32) (by decide) hret hlk (hb hby d132_21) (by decide) (by decide) ⟨by unfold own_cut_3_2; rw [if_neg h9], N7, e8⟩
  · exact absurd h1 (by decide)
theorem d133_0 : decode method_4_code 0 = .ok (.iload_n 1, 1) := by decide +kernel
theorem d133_1 : decode method_4_code 1 = .ok (.iload_n 2, 1) := by decide +kernel
theorem d133_2 : decode method_4_code 2 = .ok (.isub, 1) := by decide +kernel
theorem d133_3 : decode method_4_code 3 = .ok (.istore_n 3, 1) := by decide +kernel
theorem d133_4 : decode method_4_code 4 = .ok (.iload_n 3, 1) := by decide +kernel
theorem d133_5 : decode method_4_code 5 = .ok (.ifCond .ge 5, 3) := by decide +kernel
theorem d133_10 : decode method_4_code 10 = .ok (.aload_n 0, 1) := by decide +kernel
theorem d133_11 : decode method_4_code 11 = .ok (.iload_n 3, 1) := by decide +kernel
theorem d133_12 : decode method_4_code 12 = .ok (.baload, 1) := by decide +kernel
theorem d133_13 : decode method_4_code 13 = .ok (.invokestatic 7, 3) := by decide +kernel
theorem d133_16 : decode method_4_code 16 = .ok (.iload_n 2, 1) := by decide +kernel
theorem d133_17 : decode method_4_code 17 = .ok (.if_icmp .gt 5, 3) := by decide +kernel
theorem d133_20 : decode method_4_code 20 = .ok (.iconst 0, 1) := by decide +kernel
theorem d133_21 : decode method_4_code 21 = .ok (.ireturn, 1) := by decide +kernel
theorem d133_22 : decode method_4_code 22 = .ok (.iload_n 2, 1) := by decide +kernel
theorem d133_23 : decode method_4_code 23 = .ok (.iconst 2, 1) := by decide +kernel
theorem d133_24 : decode method_4_code 24 = .ok (.if_icmp .lt 16, 3) := by decide +kernel
theorem d133_27 : decode method_4_code 27 = .ok (.aload_n 0, 1) := by decide +kernel
theorem d133_28 : decode method_4_code 28 = .ok (.iload_n 1, 1) := by decide +kernel
theorem d133_29 : decode method_4_code 29 = .ok (.iconst 1, 1) := by decide +kernel
theorem d133_30 : decode method_4_code 30 = .ok (.isub, 1) := by decide +kernel
theorem d133_31 : decode method_4_code 31 = .ok (.baload, 1) := by decide +kernel
theorem d133_32 : decode method_4_code 32 = .ok (.invokestatic 13, 3) := by decide +kernel
theorem d133_35 : decode method_4_code 35 = .ok (.ifCond .ne 5, 3) := by decide +kernel
theorem d133_38 : decode method_4_code 38 = .ok (.iconst 0, 1) := by decide +kernel
theorem d133_39 : decode method_4_code 39 = .ok (.ireturn, 1) := by decide +kernel
theorem d133_40 : decode method_4_code 40 = .ok (.iload_n 2, 1) := by decide +kernel
theorem d133_41 : decode method_4_code 41 = .ok (.iconst 3, 1) := by decide +kernel
theorem d133_42 : decode method_4_code 42 = .ok (.if_icmp .lt 16, 3) := by decide +kernel
theorem d133_45 : decode method_4_code 45 = .ok (.aload_n 0, 1) := by decide +kernel
theorem d133_46 : decode method_4_code 46 = .ok (.iload_n 1, 1) := by decide +kernel
theorem d133_47 : decode method_4_code 47 = .ok (.iconst 2, 1) := by decide +kernel
theorem d133_48 : decode method_4_code 48 = .ok (.isub, 1) := by decide +kernel
theorem d133_49 : decode method_4_code 49 = .ok (.baload, 1) := by decide +kernel
theorem d133_50 : decode method_4_code 50 = .ok (.invokestatic 13, 3) := by decide +kernel
theorem d133_53 : decode method_4_code 53 = .ok (.ifCond .ne 5, 3) := by decide +kernel
theorem d133_56 : decode method_4_code 56 = .ok (.iconst 0, 1) := by decide +kernel
theorem d133_57 : decode method_4_code 57 = .ok (.ireturn, 1) := by decide +kernel
theorem d133_58 : decode method_4_code 58 = .ok (.iconst 1, 1) := by decide +kernel
theorem d133_59 : decode method_4_code 59 = .ok (.ireturn, 1) := by decide +kernel
set_option maxRecDepth 65536 in
set_option maxHeartbeats 40000000 in
theorem rm3_3_3 (l : Launch) (Z : State) (a0 : Array Value) (hw : ∀ d ∈ tables_1, d.before a0 Z = true) (a : Addr) (f : Nat → Int32) (h0 : Heap) (n0 : Nat) (Z0 : n0 ≤ h0.size) (A_a : own_AI Z h0 a .byte 6 f) :
    own_C l Z (⟨"com/example/gentle_indent/gentleindent/util/Utf8WholeEndPinLaw", "cutAt", "([BII)Z"⟩ : MethodName) method_4_code 4 (some .boolean) [] ({ frames := 1, cells := 0, slots := 0, locals := 16 } : Room) #[(.ref a), (.int (3 : Int32)), (.int (3 : Int32))] h0 (fun v h L => v = some (.int (own_cut_3_3 f)) ∧ Fr n0 L ∧ h = h0) := by
  refine own_body (by first | (simp [plainName, overriddenIn]; done) | decide +kernel) ?_
  intro p e s m below meth c T0 hx hby hml hown hnm hret hlk hZ X0 e0
  have N0 := Fr.nil n0
  refine own_eq (f' := (mkF m 0 #[.val (.ref a), .val (.int (3 : Int32)), .val (.int (3 : Int32)), .unset] [])) (by first | (simp [entryFrame, mkF, argsToLocals, Value.category]; done) | rfl) ?_
  refine own_iloadN X0 hx 1 (hb hby d133_0) rfl rfl ?_
  refine own_iloadN X0 hx 2 (hb hby d133_1) rfl rfl ?_
  refine own_isubz X0 hx 3 (z := (0 : Int32)) (by decide) (hb hby d133_2) rfl ?_
  refine own_istoreN X0 hx 4 #[.val (.ref a), .val (.int (3 : Int32)), .val (.int (3 : Int32)), .val (.int (0 : Int32))] rfl (hb hby d133_3) rfl rfl ?_
  refine own_iloadN X0 hx 5 (hb hby d133_4) rfl rfl ?_
  refine own_if_ge X0 hx 10 8 (hb hby d133_5) (by decide) (by decide) rfl (fun h1 => ?_) (fun h1 => ?_)
  · show own_W p e below _ T0 (mkF m 10 #[.val (.ref a), .val (.int (3 : Int32)), .val (.int (3 : Int32)), .val (.int (0 : Int32))] [])
    refine own_aloadN X0 hx 11 (hb hby d133_10) rfl rfl ?_
    refine own_iloadN X0 hx 12 (hb hby d133_11) rfl rfl ?_
    refine own_baload X0 hx hZ e0 13 0 A_a rfl (by decide) (hb hby d133_12) rfl ?_
    refine own_callS X0 hx hZ hown e0 (y := (⟨"com/example/gentle_indent/gentleindent/util/Utf8WholeEndPinLaw", "need", "(B)I"⟩ : MethodName)) (argsL := [(.int (f 0))]) (rest := []) 16 (rm1 l Z a0 hw (f 0) h0 n0 Z0) (hw _ (List.mem_of_getElem? (i := 6) rfl)) (hw _ (List.mem_of_getElem? (i := 7) rfl)) (hw _ (List.mem_of_getElem? (i := 4) rfl)) (hw _ (List.mem_of_getElem? (i := 8) rfl)) (by decide) (by rw [hml]; rfl) (lenOf (by decide +kernel : parseMethodDescriptor "(B)I" = some ⟨[.byte], some .int⟩) rfl) rfl (hb hby d133_13) rfl (W := 0) rfl (by decide) (by decide) (by decide) (by decide) (fun r2 T3 L4 X5 q6 => ?_)
    obtain ⟨rfl, N7q, e8⟩ := q6
    have N7 := Fr.app N0 N7q
    show own_W p e below _ T3 (mkF m 16 #[.val (.ref a), .val (.int (3 : Int32)), .val (.int (3 : Int32)), .val (.int (0 : Int32))] [(.int (own_need (f 0)))])
    refine own_iloadN X5 hx 17 (hb hby d133_16) rfl rfl ?_
    refine own_icmp_gt X5 hx 22 20 (hb hby d133_17) (by decide) (by decide) rfl (fun h9 => ?_) (fun h9 => ?_)
    · show own_W p e below _ T3 (mkF m 22 #[.val (.ref a), .val (.int (3 : Int32)), .val (.int (3 : Int32)), .val (.int (0 : Int32))] [])
      refine own_iloadN X5 hx 23 (hb hby d133_22) rfl rfl ?_
      refine own_iconst X5 hx 24 (2 : Int32) (by decide) (hb hby d133_23) rfl ?_
      refine own_icmp_lt X5 hx 40 27 (hb hby d133_24) (by decide) (by decide) rfl (fun h10 => ?_) (fun h10 => ?_)
      · exact absurd h10 (by decide)
      · show own_W p e below _ T3 (mkF m 27 #[.val (.ref a), .val (.int (3 : Int32)), .val (.int (3 : Int32)), .val (.int (0 : Int32))] [])
        refine own_aloadN X5 hx 28 (hb hby d133_27) rfl rfl ?_
        refine own_iloadN X5 hx 29 (hb hby d133_28) rfl rfl ?_
        refine own_iconst X5 hx 30 (1 : Int32) (by decide) (hb hby d133_29) rfl ?_
        refine own_isubz X5 hx 31 (z := (2 : Int32)) (by decide) (hb hby d133_30) rfl ?_
        refine own_baload X5 hx hZ e8 32 2 A_a rfl (by decide) (hb hby d133_31) rfl ?_
        refine own_callS X5 hx hZ hown e8 (y := (⟨"com/example/gentle_indent/gentleindent/util/Utf8WholeEndPinLaw", "cont", "(B)Z"⟩ : MethodName)) (argsL := [(.int (f 2))]) (rest := []) 35 (rm2 l Z a0 hw (f 2) h0 n0 Z0) (hw _ (List.mem_of_getElem? (i := 13) rfl)) (hw _ (List.mem_of_getElem? (i := 14) rfl)) (hw _ (List.mem_of_getElem? (i := 4) rfl)) (hw _ (List.mem_of_getElem? (i := 15) rfl)) (by decide) (by rw [hml]; rfl) (lenOf (by decide +kernel : parseMethodDescriptor "(B)Z" = some ⟨[.byte], some .boolean⟩) rfl) rfl (hb hby d133_32) rfl (W := 0) rfl (by decide) (by decide) (by decide) (by decide) (fun r11 T12 L13 X14 q15 => ?_)
        obtain ⟨rfl, N16q, e17⟩ := q15
        have N16 := Fr.app N7 N16q
        show own_W p e below _ T12 (mkF m 35 #[.val (.ref a), .val (.int (3 : Int32)), .val (.int (3 : Int32)), .val (.int (0 : Int32))] [(.int (own_cont (f 2)))])
        refine own_if_ne X14 hx 40 38 (hb hby d133_35) (by decide) (by decide) rfl (fun h18 => ?_) (fun h18 => ?_)
        · show own_W p e below _ T12 (mkF m 40 #[.val (.ref a), .val (.int (3 : Int32)), .val (.int (3 : Int32)), .val (.int (0 : Int32))] [])
          refine own_iloadN X14 hx 41 (hb hby d133_40) rfl rfl ?_
          refine own_iconst X14 hx 42 (3 : Int32) (by decide) (hb hby d133_41) rfl ?_
          refine own_icmp_lt X14 hx 58 45 (hb hby d133_42) (by decide) (by decide) rfl (fun h19 => ?_) (fun h19 => ?_)
          · exact absurd h19 (by decide)
          · show own_W p e below _ T12 (mkF m 45 #[.val (.ref a), .val (.int (3 : Int32)), .val (.int (3 : Int32)), .val (.int (0 : Int32))] [])
            refine own_aloadN X14 hx 46 (hb hby d133_45) rfl rfl ?_
            refine own_iloadN X14 hx 47 (hb hby d133_46) rfl rfl ?_
            refine own_iconst X14 hx 48 (2 : Int32) (by decide) (hb hby d133_47) rfl ?_
            refine own_isubz X14 hx 49 (z := (1 : Int32)) (by decide) (hb hby d133_48) rfl ?_
            refine own_baload X14 hx hZ e17 50 1 A_a rfl (by decide) (hb hby d133_49) rfl ?_
            refine own_callS X14 hx hZ hown e17 (y := (⟨"com/example/gentle_indent/gentleindent/util/Utf8WholeEndPinLaw", "cont", "(B)Z"⟩ : MethodName)) (argsL := [(.int (f 1))]) (rest := []) 53 (rm2 l Z a0 hw (f 1) h0 n0 Z0) (hw _ (List.mem_of_getElem? (i := 13) rfl)) (hw _ (List.mem_of_getElem? (i := 14) rfl)) (hw _ (List.mem_of_getElem? (i := 4) rfl)) (hw _ (List.mem_of_getElem? (i := 15) rfl)) (by decide) (by rw [hml]; rfl) (lenOf (by decide +kernel : parseMethodDescriptor "(B)Z" = some ⟨[.byte], some .boolean⟩) rfl) rfl (hb hby d133_50) rfl (W := 0) rfl (by decide) (by decide) (by decide) (by decide) (fun r20 T21 L22 X23 q24 => ?_)
            obtain ⟨rfl, N25q, e26⟩ := q24
            have N25 := Fr.app N16 N25q
            show own_W p e below _ T21 (mkF m 53 #[.val (.ref a), .val (.int (3 : Int32)), .val (.int (3 : Int32)), .val (.int (0 : Int32))] [(.int (own_cont (f 1)))])
            refine own_if_ne X23 hx 58 56 (hb hby d133_53) (by decide) (by decide) rfl (fun h27 => ?_) (fun h27 => ?_)
            · show own_W p e below _ T21 (mkF m 58 #[.val (.ref a), .val (.int (3 : Int32)), .val (.int (3 : Int32)), .val (.int (0 : Int32))] [])
              refine own_iconst X23 hx 59 (1 : Int32) (by decide) (hb hby d133_58) rfl ?_
              exact own_retZ X23 hx (1 : Int32) (by decide) hret hlk (hb hby d133_59) (by decide) (by decide) ⟨by unfold own_cut_3_3; rw [if_pos h9, if_neg h18, if_neg h27], N25, e26⟩
            · show own_W p e below _ T21 (mkF m 56 #[.val (.ref a), .val (.int (3 : Int32)), .val (.int (3 : Int32)), .val (.int (0 : Int32))] [])
              refine own_iconst X23 hx 57 (0 : Int32) (by decide) (hb hby d133_56) rfl ?_
              exact own_retZ X23 hx (0 : Int32) (by decide) hret hlk (hb hby d133_57) (by decide) (by decide) ⟨by unfold own_cut_3_3; rw [if_pos h9, if_neg h18, if_pos h27], N25, e26⟩
        · show own_W p e below _ T12 (mkF m 38 #[.val (.ref a), .val (.int (3 : Int32)), .val (.int (3 : Int32)), .val (.int (0 : Int32))] [])
          refine own_iconst X14 hx 39 (0 : Int32) (by decide) (hb hby d133_38) rfl ?_
          exact own_retZ X14 hx (0 : Int32) (by decide) hret hlk (hb hby d133_39) (by decide) (by decide) ⟨by unfold own_cut_3_3; rw [if_pos h9, if_pos h18], N16, e17⟩
    · show own_W p e below _ T3 (mkF m 20 #[.val (.ref a), .val (.int (3 : Int32)), .val (.int (3 : Int32)), .val (.int (0 : Int32))] [])
      refine own_iconst X5 hx 21 (0 : Int32) (by decide) (hb hby d133_20) rfl ?_
      exact own_retZ X5 hx (0 : Int32) (by decide) hret hlk (hb hby d133_21) (by decide) (by decide) ⟨by unfold own_cut_3_3; rw [if_neg h9], N7, e8⟩
  · exact absurd h1 (by decide)
theorem d203_0 : decode prog_84_method_4_code 0 = .ok (.iload_n 1, 1) := by decide +kernel
theorem d203_1 : decode prog_84_method_4_code 1 = .ok (.iconst 1, 1) := by decide +kernel
theorem d203_2 : decode prog_84_method_4_code 2 = .ok (.isub, 1) := by decide +kernel
theorem d203_3 : decode prog_84_method_4_code 3 = .ok (.istore_n 2, 1) := by decide +kernel
theorem d203_4 : decode prog_84_method_4_code 4 = .ok (.iload_n 2, 1) := by decide +kernel
theorem d203_5 : decode prog_84_method_4_code 5 = .ok (.ifCond .le 29, 3) := by decide +kernel
theorem d203_8 : decode prog_84_method_4_code 8 = .ok (.iload_n 2, 1) := by decide +kernel
theorem d203_9 : decode prog_84_method_4_code 9 = .ok (.iload_n 1, 1) := by decide +kernel
theorem d203_10 : decode prog_84_method_4_code 10 = .ok (.iconst 4, 1) := by decide +kernel
theorem d203_11 : decode prog_84_method_4_code 11 = .ok (.isub, 1) := by decide +kernel
theorem d203_12 : decode prog_84_method_4_code 12 = .ok (.if_icmp .le 22, 3) := by decide +kernel
theorem d203_15 : decode prog_84_method_4_code 15 = .ok (.aload_n 0, 1) := by decide +kernel
theorem d203_16 : decode prog_84_method_4_code 16 = .ok (.iload_n 2, 1) := by decide +kernel
theorem d203_17 : decode prog_84_method_4_code 17 = .ok (.baload, 1) := by decide +kernel
theorem d203_18 : decode prog_84_method_4_code 18 = .ok (.sipush 192, 3) := by decide +kernel
theorem d203_21 : decode prog_84_method_4_code 21 = .ok (.iand, 1) := by decide +kernel
theorem d203_22 : decode prog_84_method_4_code 22 = .ok (.sipush 128, 3) := by decide +kernel
theorem d203_25 : decode prog_84_method_4_code 25 = .ok (.if_icmp .ne 9, 3) := by decide +kernel
theorem d203_28 : decode prog_84_method_4_code 28 = .ok (.iinc 2 (-1), 3) := by decide +kernel
theorem d203_31 : decode prog_84_method_4_code 31 = .ok (.goto (-27), 3) := by decide +kernel
theorem d203_34 : decode prog_84_method_4_code 34 = .ok (.iload_n 2, 1) := by decide +kernel
theorem d203_35 : decode prog_84_method_4_code 35 = .ok (.ifCond .ge 5, 3) := by decide +kernel
theorem d203_40 : decode prog_84_method_4_code 40 = .ok (.aload_n 0, 1) := by decide +kernel
theorem d203_41 : decode prog_84_method_4_code 41 = .ok (.iload_n 2, 1) := by decide +kernel
theorem d203_42 : decode prog_84_method_4_code 42 = .ok (.baload, 1) := by decide +kernel
theorem d203_43 : decode prog_84_method_4_code 43 = .ok (.sipush 255, 3) := by decide +kernel
theorem d203_46 : decode prog_84_method_4_code 46 = .ok (.iand, 1) := by decide +kernel
theorem d203_47 : decode prog_84_method_4_code 47 = .ok (.istore_n 3, 1) := by decide +kernel
theorem d203_48 : decode prog_84_method_4_code 48 = .ok (.iload_n 3, 1) := by decide +kernel
theorem d203_49 : decode prog_84_method_4_code 49 = .ok (.sipush 240, 3) := by decide +kernel
theorem d203_52 : decode prog_84_method_4_code 52 = .ok (.if_icmp .lt 7, 3) := by decide +kernel
theorem d203_55 : decode prog_84_method_4_code 55 = .ok (.iconst 4, 1) := by decide +kernel
theorem d203_56 : decode prog_84_method_4_code 56 = .ok (.goto 26, 3) := by decide +kernel
theorem d203_59 : decode prog_84_method_4_code 59 = .ok (.iload_n 3, 1) := by decide +kernel
theorem d203_60 : decode prog_84_method_4_code 60 = .ok (.sipush 224, 3) := by decide +kernel
theorem d203_63 : decode prog_84_method_4_code 63 = .ok (.if_icmp .lt 7, 3) := by decide +kernel
theorem d203_66 : decode prog_84_method_4_code 66 = .ok (.iconst 3, 1) := by decide +kernel
theorem d203_67 : decode prog_84_method_4_code 67 = .ok (.goto 15, 3) := by decide +kernel
theorem d203_70 : decode prog_84_method_4_code 70 = .ok (.iload_n 3, 1) := by decide +kernel
theorem d203_71 : decode prog_84_method_4_code 71 = .ok (.sipush 192, 3) := by decide +kernel
theorem d203_74 : decode prog_84_method_4_code 74 = .ok (.if_icmp .lt 7, 3) := by decide +kernel
theorem d203_77 : decode prog_84_method_4_code 77 = .ok (.iconst 2, 1) := by decide +kernel
theorem d203_78 : decode prog_84_method_4_code 78 = .ok (.goto 4, 3) := by decide +kernel
theorem d203_81 : decode prog_84_method_4_code 81 = .ok (.iconst 1, 1) := by decide +kernel
theorem d203_82 : decode prog_84_method_4_code 82 = .ok (.istore 4, 2) := by decide +kernel
theorem d203_84 : decode prog_84_method_4_code 84 = .ok (.iload_n 2, 1) := by decide +kernel
theorem d203_85 : decode prog_84_method_4_code 85 = .ok (.iload 4, 2) := by decide +kernel
theorem d203_87 : decode prog_84_method_4_code 87 = .ok (.iadd, 1) := by decide +kernel
theorem d203_88 : decode prog_84_method_4_code 88 = .ok (.iload_n 1, 1) := by decide +kernel
theorem d203_89 : decode prog_84_method_4_code 89 = .ok (.if_icmp .le 7, 3) := by decide +kernel
theorem d203_92 : decode prog_84_method_4_code 92 = .ok (.iload_n 2, 1) := by decide +kernel
theorem d203_93 : decode prog_84_method_4_code 93 = .ok (.goto 4, 3) := by decide +kernel
theorem d203_96 : decode prog_84_method_4_code 96 = .ok (.iload_n 1, 1) := by decide +kernel
theorem d203_97 : decode prog_84_method_4_code 97 = .ok (.ireturn, 1) := by decide +kernel
set_option maxRecDepth 65536 in
set_option maxHeartbeats 40000000 in
theorem rm4_3 (l : Launch) (Z : State) (a0 : Array Value) (hw : ∀ d ∈ tables_1, d.before a0 Z = true) (a : Addr) (f : Nat → Int32) (h0 : Heap) (n0 : Nat) (Z0 : n0 ≤ h0.size) (A_a : own_AI Z h0 a .byte 6 f) :
    own_C l Z (⟨"com/example/gentle_indent/gentleindent/util/Utf8", "wholeEnd", "([BI)I"⟩ : MethodName) prog_84_method_4_code 5 (some .int) [] ({ frames := 0, cells := 0, slots := 0, locals := 0 } : Room) #[(.ref a), (.int (3 : Int32))] h0 (fun v h L => v = some (.int (own_we_3 f)) ∧ Fr n0 L ∧ h = h0) := by
  refine own_body (by first | (simp [plainName, overriddenIn]; done) | decide +kernel) ?_
  intro p e s m below meth c T0 hx hby hml hown hnm hret hlk hZ X0 e0
  have N0 := Fr.nil n0
  refine own_eq (f' := (mkF m 0 #[.val (.ref a), .val (.int (3 : Int32)), .unset, .unset, .unset] [])) (by first | (simp [entryFrame, mkF, argsToLocals, Value.category]; done) | rfl) ?_
  refine own_iloadN X0 hx 1 (hb hby d203_0) rfl rfl ?_
  refine own_iconst X0 hx 2 (1 : Int32) (by decide) (hb hby d203_1) rfl ?_
  refine own_isubz X0 hx 3 (z := (2 : Int32)) (by decide) (hb hby d203_2) rfl ?_
  refine own_istoreN X0 hx 4 #[.val (.ref a), .val (.int (3 : Int32)), .val (.int (2 : Int32)), .unset, .unset] rfl (hb hby d203_3) rfl rfl ?_
  refine own_iloadN X0 hx 5 (hb hby d203_4) rfl rfl ?_
  refine own_if_le X0 hx 34 8 (hb hby d203_5) (by decide) (by decide) rfl (fun h1 => ?_) (fun h1 => ?_)
  · exact absurd h1 (by decide)
  · show own_W p e below _ T0 (mkF m 8 #[.val (.ref a), .val (.int (3 : Int32)), .val (.int (2 : Int32)), .unset, .unset] [])
    refine own_iloadN X0 hx 9 (hb hby d203_8) rfl rfl ?_
    refine own_iloadN X0 hx 10 (hb hby d203_9) rfl rfl ?_
    refine own_iconst X0 hx 11 (4 : Int32) (by decide) (hb hby d203_10) rfl ?_
    refine own_isubz X0 hx 12 (z := (-1 : Int32)) (by decide) (hb hby d203_11) rfl ?_
    refine own_icmp_le X0 hx 34 15 (hb hby d203_12) (by decide) (by decide) rfl (fun h2 => ?_) (fun h2 => ?_)
    · exact absurd h2 (by decide)
    · show own_W p e below _ T0 (mkF m 15 #[.val (.ref a), .val (.int (3 : Int32)), .val (.int (2 : Int32)), .unset, .unset] [])
      refine own_aloadN X0 hx 16 (hb hby d203_15) rfl rfl ?_
      refine own_iloadN X0 hx 17 (hb hby d203_16) rfl rfl ?_
      refine own_baload X0 hx hZ e0 18 2 A_a rfl (by decide) (hb hby d203_17) rfl ?_
      refine own_sipush X0 hx 21 (192 : Int32) (by decide) (hb hby d203_18) rfl ?_
      refine own_iand X0 hx 22 (hb hby d203_21) rfl ?_
      refine own_sipush X0 hx 25 (128 : Int32) (by decide) (hb hby d203_22) rfl ?_
      refine own_icmp_ne X0 hx 34 28 (hb hby d203_25) (by decide) (by decide) rfl (fun h3 => ?_) (fun h3 => ?_)
      · show own_W p e below _ T0 (mkF m 34 #[.val (.ref a), .val (.int (3 : Int32)), .val (.int (2 : Int32)), .unset, .unset] [])
        refine own_iloadN X0 hx 35 (hb hby d203_34) rfl rfl ?_
        refine own_if_ge X0 hx 40 38 (hb hby d203_35) (by decide) (by decide) rfl (fun h4 => ?_) (fun h4 => ?_)
        · show own_W p e below _ T0 (mkF m 40 #[.val (.ref a), .val (.int (3 : Int32)), .val (.int (2 : Int32)), .unset, .unset] [])
          refine own_aloadN X0 hx 41 (hb hby d203_40) rfl rfl ?_
          refine own_iloadN X0 hx 42 (hb hby d203_41) rfl rfl ?_
          refine own_baload X0 hx hZ e0 43 2 A_a rfl (by decide) (hb hby d203_42) rfl ?_
          refine own_sipush X0 hx 46 (255 : Int32) (by decide) (hb hby d203_43) rfl ?_
          refine own_iand X0 hx 47 (hb hby d203_46) rfl ?_
          refine own_istoreN X0 hx 48 #[.val (.ref a), .val (.int (3 : Int32)), .val (.int (2 : Int32)), .val (.int ((f 2) &&& (255 : Int32))), .unset] rfl (hb hby d203_47) rfl rfl ?_
          refine own_iloadN X0 hx 49 (hb hby d203_48) rfl rfl ?_
          refine own_sipush X0 hx 52 (240 : Int32) (by decide) (hb hby d203_49) rfl ?_
          refine own_icmp_lt X0 hx 59 55 (hb hby d203_52) (by decide) (by decide) rfl (fun h5 => ?_) (fun h5 => ?_)
          · show own_W p e below _ T0 (mkF m 59 #[.val (.ref a), .val (.int (3 : Int32)), .val (.int (2 : Int32)), .val (.int ((f 2) &&& (255 : Int32))), .unset] [])
            refine own_iloadN X0 hx 60 (hb hby d203_59) rfl rfl ?_
            refine own_sipush X0 hx 63 (224 : Int32) (by decide) (hb hby d203_60) rfl ?_
            refine own_icmp_lt X0 hx 70 66 (hb hby d203_63) (by decide) (by decide) rfl (fun h6 => ?_) (fun h6 => ?_)
            · show own_W p e below _ T0 (mkF m 70 #[.val (.ref a), .val (.int (3 : Int32)), .val (.int (2 : Int32)), .val (.int ((f 2) &&& (255 : Int32))), .unset] [])
              refine own_iloadN X0 hx 71 (hb hby d203_70) rfl rfl ?_
              refine own_sipush X0 hx 74 (192 : Int32) (by decide) (hb hby d203_71) rfl ?_
              refine own_icmp_lt X0 hx 81 77 (hb hby d203_74) (by decide) (by decide) rfl (fun h7 => ?_) (fun h7 => ?_)
              · show own_W p e below _ T0 (mkF m 81 #[.val (.ref a), .val (.int (3 : Int32)), .val (.int (2 : Int32)), .val (.int ((f 2) &&& (255 : Int32))), .unset] [])
                refine own_iconst X0 hx 82 (1 : Int32) (by decide) (hb hby d203_81) rfl ?_
                refine own_istore X0 hx 84 #[.val (.ref a), .val (.int (3 : Int32)), .val (.int (2 : Int32)), .val (.int ((f 2) &&& (255 : Int32))), .val (.int (1 : Int32))] rfl (hb hby d203_82) rfl rfl ?_
                refine own_iloadN X0 hx 85 (hb hby d203_84) rfl rfl ?_
                refine own_iload X0 hx 87 (hb hby d203_85) rfl rfl ?_
                refine own_iaddz X0 hx 88 (z := (3 : Int32)) (by decide) (hb hby d203_87) rfl ?_
                refine own_iloadN X0 hx 89 (hb hby d203_88) rfl rfl ?_
                refine own_icmp_le X0 hx 96 92 (hb hby d203_89) (by decide) (by decide) rfl (fun h8 => ?_) (fun h8 => ?_)
                · show own_W p e below _ T0 (mkF m 96 #[.val (.ref a), .val (.int (3 : Int32)), .val (.int (2 : Int32)), .val (.int ((f 2) &&& (255 : Int32))), .val (.int (1 : Int32))] [])
                  refine own_iloadN X0 hx 97 (hb hby d203_96) rfl rfl ?_
                  exact own_retI X0 hx hret hlk (hb hby d203_97) (by decide) (by decide) ⟨by unfold own_we_3; rw [if_neg h3, if_pos h5, if_pos h6, if_pos h7], N0, e0⟩
                · exact absurd h8 (by decide)
              · show own_W p e below _ T0 (mkF m 77 #[.val (.ref a), .val (.int (3 : Int32)), .val (.int (2 : Int32)), .val (.int ((f 2) &&& (255 : Int32))), .unset] [])
                refine own_iconst X0 hx 78 (2 : Int32) (by decide) (hb hby d203_77) rfl ?_
                refine own_goto X0 hx 82 (hb hby d203_78) (by decide) (by decide) ?_
                refine own_istore X0 hx 84 #[.val (.ref a), .val (.int (3 : Int32)), .val (.int (2 : Int32)), .val (.int ((f 2) &&& (255 : Int32))), .val (.int (2 : Int32))] rfl (hb hby d203_82) rfl rfl ?_
                refine own_iloadN X0 hx 85 (hb hby d203_84) rfl rfl ?_
                refine own_iload X0 hx 87 (hb hby d203_85) rfl rfl ?_
                refine own_iaddz X0 hx 88 (z := (4 : Int32)) (by decide) (hb hby d203_87) rfl ?_
                refine own_iloadN X0 hx 89 (hb hby d203_88) rfl rfl ?_
                refine own_icmp_le X0 hx 96 92 (hb hby d203_89) (by decide) (by decide) rfl (fun h9 => ?_) (fun h9 => ?_)
                · exact absurd h9 (by decide)
                · show own_W p e below _ T0 (mkF m 92 #[.val (.ref a), .val (.int (3 : Int32)), .val (.int (2 : Int32)), .val (.int ((f 2) &&& (255 : Int32))), .val (.int (2 : Int32))] [])
                  refine own_iloadN X0 hx 93 (hb hby d203_92) rfl rfl ?_
                  refine own_goto X0 hx 97 (hb hby d203_93) (by decide) (by decide) ?_
                  exact own_retI X0 hx hret hlk (hb hby d203_97) (by decide) (by decide) ⟨by unfold own_we_3; rw [if_neg h3, if_pos h5, if_pos h6, if_neg h7], N0, e0⟩
            · show own_W p e below _ T0 (mkF m 66 #[.val (.ref a), .val (.int (3 : Int32)), .val (.int (2 : Int32)), .val (.int ((f 2) &&& (255 : Int32))), .unset] [])
              refine own_iconst X0 hx 67 (3 : Int32) (by decide) (hb hby d203_66) rfl ?_
              refine own_goto X0 hx 82 (hb hby d203_67) (by decide) (by decide) ?_
              refine own_istore X0 hx 84 #[.val (.ref a), .val (.int (3 : Int32)), .val (.int (2 : Int32)), .val (.int ((f 2) &&& (255 : Int32))), .val (.int (3 : Int32))] rfl (hb hby d203_82) rfl rfl ?_
              refine own_iloadN X0 hx 85 (hb hby d203_84) rfl rfl ?_
              refine own_iload X0 hx 87 (hb hby d203_85) rfl rfl ?_
              refine own_iaddz X0 hx 88 (z := (5 : Int32)) (by decide) (hb hby d203_87) rfl ?_
              refine own_iloadN X0 hx 89 (hb hby d203_88) rfl rfl ?_
              refine own_icmp_le X0 hx 96 92 (hb hby d203_89) (by decide) (by decide) rfl (fun h10 => ?_) (fun h10 => ?_)
              · exact absurd h10 (by decide)
              · show own_W p e below _ T0 (mkF m 92 #[.val (.ref a), .val (.int (3 : Int32)), .val (.int (2 : Int32)), .val (.int ((f 2) &&& (255 : Int32))), .val (.int (3 : Int32))] [])
                refine own_iloadN X0 hx 93 (hb hby d203_92) rfl rfl ?_
                refine own_goto X0 hx 97 (hb hby d203_93) (by decide) (by decide) ?_
                exact own_retI X0 hx hret hlk (hb hby d203_97) (by decide) (by decide) ⟨by unfold own_we_3; rw [if_neg h3, if_pos h5, if_neg h6], N0, e0⟩
          · show own_W p e below _ T0 (mkF m 55 #[.val (.ref a), .val (.int (3 : Int32)), .val (.int (2 : Int32)), .val (.int ((f 2) &&& (255 : Int32))), .unset] [])
            refine own_iconst X0 hx 56 (4 : Int32) (by decide) (hb hby d203_55) rfl ?_
            refine own_goto X0 hx 82 (hb hby d203_56) (by decide) (by decide) ?_
            refine own_istore X0 hx 84 #[.val (.ref a), .val (.int (3 : Int32)), .val (.int (2 : Int32)), .val (.int ((f 2) &&& (255 : Int32))), .val (.int (4 : Int32))] rfl (hb hby d203_82) rfl rfl ?_
            refine own_iloadN X0 hx 85 (hb hby d203_84) rfl rfl ?_
            refine own_iload X0 hx 87 (hb hby d203_85) rfl rfl ?_
            refine own_iaddz X0 hx 88 (z := (6 : Int32)) (by decide) (hb hby d203_87) rfl ?_
            refine own_iloadN X0 hx 89 (hb hby d203_88) rfl rfl ?_
            refine own_icmp_le X0 hx 96 92 (hb hby d203_89) (by decide) (by decide) rfl (fun h11 => ?_) (fun h11 => ?_)
            · exact absurd h11 (by decide)
            · show own_W p e below _ T0 (mkF m 92 #[.val (.ref a), .val (.int (3 : Int32)), .val (.int (2 : Int32)), .val (.int ((f 2) &&& (255 : Int32))), .val (.int (4 : Int32))] [])
              refine own_iloadN X0 hx 93 (hb hby d203_92) rfl rfl ?_
              refine own_goto X0 hx 97 (hb hby d203_93) (by decide) (by decide) ?_
              exact own_retI X0 hx hret hlk (hb hby d203_97) (by decide) (by decide) ⟨by unfold own_we_3; rw [if_neg h3, if_neg h5], N0, e0⟩
        · exact absurd h4 (by decide)
      · show own_W p e below _ T0 (mkF m 28 #[.val (.ref a), .val (.int (3 : Int32)), .val (.int (2 : Int32)), .unset, .unset] [])
        refine own_iinc X0 hx (1 : Int32) 31 #[.val (.ref a), .val (.int (3 : Int32)), .val (.int (1 : Int32)), .unset, .unset] (by decide) (hb hby d203_28) rfl rfl rfl ?_
        refine own_goto X0 hx 4 (hb hby d203_31) (by decide) (by decide) ?_
        refine own_iloadN X0 hx 5 (hb hby d203_4) rfl rfl ?_
        refine own_if_le X0 hx 34 8 (hb hby d203_5) (by decide) (by decide) rfl (fun h12 => ?_) (fun h12 => ?_)
        · exact absurd h12 (by decide)
        · show own_W p e below _ T0 (mkF m 8 #[.val (.ref a), .val (.int (3 : Int32)), .val (.int (1 : Int32)), .unset, .unset] [])
          refine own_iloadN X0 hx 9 (hb hby d203_8) rfl rfl ?_
          refine own_iloadN X0 hx 10 (hb hby d203_9) rfl rfl ?_
          refine own_iconst X0 hx 11 (4 : Int32) (by decide) (hb hby d203_10) rfl ?_
          refine own_isubz X0 hx 12 (z := (-1 : Int32)) (by decide) (hb hby d203_11) rfl ?_
          refine own_icmp_le X0 hx 34 15 (hb hby d203_12) (by decide) (by decide) rfl (fun h13 => ?_) (fun h13 => ?_)
          · exact absurd h13 (by decide)
          · show own_W p e below _ T0 (mkF m 15 #[.val (.ref a), .val (.int (3 : Int32)), .val (.int (1 : Int32)), .unset, .unset] [])
            refine own_aloadN X0 hx 16 (hb hby d203_15) rfl rfl ?_
            refine own_iloadN X0 hx 17 (hb hby d203_16) rfl rfl ?_
            refine own_baload X0 hx hZ e0 18 1 A_a rfl (by decide) (hb hby d203_17) rfl ?_
            refine own_sipush X0 hx 21 (192 : Int32) (by decide) (hb hby d203_18) rfl ?_
            refine own_iand X0 hx 22 (hb hby d203_21) rfl ?_
            refine own_sipush X0 hx 25 (128 : Int32) (by decide) (hb hby d203_22) rfl ?_
            refine own_icmp_ne X0 hx 34 28 (hb hby d203_25) (by decide) (by decide) rfl (fun h14 => ?_) (fun h14 => ?_)
            · show own_W p e below _ T0 (mkF m 34 #[.val (.ref a), .val (.int (3 : Int32)), .val (.int (1 : Int32)), .unset, .unset] [])
              refine own_iloadN X0 hx 35 (hb hby d203_34) rfl rfl ?_
              refine own_if_ge X0 hx 40 38 (hb hby d203_35) (by decide) (by decide) rfl (fun h15 => ?_) (fun h15 => ?_)
              · show own_W p e below _ T0 (mkF m 40 #[.val (.ref a), .val (.int (3 : Int32)), .val (.int (1 : Int32)), .unset, .unset] [])
                refine own_aloadN X0 hx 41 (hb hby d203_40) rfl rfl ?_
                refine own_iloadN X0 hx 42 (hb hby d203_41) rfl rfl ?_
                refine own_baload X0 hx hZ e0 43 1 A_a rfl (by decide) (hb hby d203_42) rfl ?_
                refine own_sipush X0 hx 46 (255 : Int32) (by decide) (hb hby d203_43) rfl ?_
                refine own_iand X0 hx 47 (hb hby d203_46) rfl ?_
                refine own_istoreN X0 hx 48 #[.val (.ref a), .val (.int (3 : Int32)), .val (.int (1 : Int32)), .val (.int ((f 1) &&& (255 : Int32))), .unset] rfl (hb hby d203_47) rfl rfl ?_
                refine own_iloadN X0 hx 49 (hb hby d203_48) rfl rfl ?_
                refine own_sipush X0 hx 52 (240 : Int32) (by decide) (hb hby d203_49) rfl ?_
                refine own_icmp_lt X0 hx 59 55 (hb hby d203_52) (by decide) (by decide) rfl (fun h16 => ?_) (fun h16 => ?_)
                · show own_W p e below _ T0 (mkF m 59 #[.val (.ref a), .val (.int (3 : Int32)), .val (.int (1 : Int32)), .val (.int ((f 1) &&& (255 : Int32))), .unset] [])
                  refine own_iloadN X0 hx 60 (hb hby d203_59) rfl rfl ?_
                  refine own_sipush X0 hx 63 (224 : Int32) (by decide) (hb hby d203_60) rfl ?_
                  refine own_icmp_lt X0 hx 70 66 (hb hby d203_63) (by decide) (by decide) rfl (fun h17 => ?_) (fun h17 => ?_)
                  · show own_W p e below _ T0 (mkF m 70 #[.val (.ref a), .val (.int (3 : Int32)), .val (.int (1 : Int32)), .val (.int ((f 1) &&& (255 : Int32))), .unset] [])
                    refine own_iloadN X0 hx 71 (hb hby d203_70) rfl rfl ?_
                    refine own_sipush X0 hx 74 (192 : Int32) (by decide) (hb hby d203_71) rfl ?_
                    refine own_icmp_lt X0 hx 81 77 (hb hby d203_74) (by decide) (by decide) rfl (fun h18 => ?_) (fun h18 => ?_)
                    · show own_W p e below _ T0 (mkF m 81 #[.val (.ref a), .val (.int (3 : Int32)), .val (.int (1 : Int32)), .val (.int ((f 1) &&& (255 : Int32))), .unset] [])
                      refine own_iconst X0 hx 82 (1 : Int32) (by decide) (hb hby d203_81) rfl ?_
                      refine own_istore X0 hx 84 #[.val (.ref a), .val (.int (3 : Int32)), .val (.int (1 : Int32)), .val (.int ((f 1) &&& (255 : Int32))), .val (.int (1 : Int32))] rfl (hb hby d203_82) rfl rfl ?_
                      refine own_iloadN X0 hx 85 (hb hby d203_84) rfl rfl ?_
                      refine own_iload X0 hx 87 (hb hby d203_85) rfl rfl ?_
                      refine own_iaddz X0 hx 88 (z := (2 : Int32)) (by decide) (hb hby d203_87) rfl ?_
                      refine own_iloadN X0 hx 89 (hb hby d203_88) rfl rfl ?_
                      refine own_icmp_le X0 hx 96 92 (hb hby d203_89) (by decide) (by decide) rfl (fun h19 => ?_) (fun h19 => ?_)
                      · show own_W p e below _ T0 (mkF m 96 #[.val (.ref a), .val (.int (3 : Int32)), .val (.int (1 : Int32)), .val (.int ((f 1) &&& (255 : Int32))), .val (.int (1 : Int32))] [])
                        refine own_iloadN X0 hx 97 (hb hby d203_96) rfl rfl ?_
                        exact own_retI X0 hx hret hlk (hb hby d203_97) (by decide) (by decide) ⟨by unfold own_we_3; rw [if_pos h3, if_neg h14, if_pos h16, if_pos h17, if_pos h18], N0, e0⟩
                      · exact absurd h19 (by decide)
                    · show own_W p e below _ T0 (mkF m 77 #[.val (.ref a), .val (.int (3 : Int32)), .val (.int (1 : Int32)), .val (.int ((f 1) &&& (255 : Int32))), .unset] [])
                      refine own_iconst X0 hx 78 (2 : Int32) (by decide) (hb hby d203_77) rfl ?_
                      refine own_goto X0 hx 82 (hb hby d203_78) (by decide) (by decide) ?_
                      refine own_istore X0 hx 84 #[.val (.ref a), .val (.int (3 : Int32)), .val (.int (1 : Int32)), .val (.int ((f 1) &&& (255 : Int32))), .val (.int (2 : Int32))] rfl (hb hby d203_82) rfl rfl ?_
                      refine own_iloadN X0 hx 85 (hb hby d203_84) rfl rfl ?_
                      refine own_iload X0 hx 87 (hb hby d203_85) rfl rfl ?_
                      refine own_iaddz X0 hx 88 (z := (3 : Int32)) (by decide) (hb hby d203_87) rfl ?_
                      refine own_iloadN X0 hx 89 (hb hby d203_88) rfl rfl ?_
                      refine own_icmp_le X0 hx 96 92 (hb hby d203_89) (by decide) (by decide) rfl (fun h20 => ?_) (fun h20 => ?_)
                      · show own_W p e below _ T0 (mkF m 96 #[.val (.ref a), .val (.int (3 : Int32)), .val (.int (1 : Int32)), .val (.int ((f 1) &&& (255 : Int32))), .val (.int (2 : Int32))] [])
                        refine own_iloadN X0 hx 97 (hb hby d203_96) rfl rfl ?_
                        exact own_retI X0 hx hret hlk (hb hby d203_97) (by decide) (by decide) ⟨by unfold own_we_3; rw [if_pos h3, if_neg h14, if_pos h16, if_pos h17, if_neg h18], N0, e0⟩
                      · exact absurd h20 (by decide)
                  · show own_W p e below _ T0 (mkF m 66 #[.val (.ref a), .val (.int (3 : Int32)), .val (.int (1 : Int32)), .val (.int ((f 1) &&& (255 : Int32))), .unset] [])
                    refine own_iconst X0 hx 67 (3 : Int32) (by decide) (hb hby d203_66) rfl ?_
                    refine own_goto X0 hx 82 (hb hby d203_67) (by decide) (by decide) ?_
                    refine own_istore X0 hx 84 #[.val (.ref a), .val (.int (3 : Int32)), .val (.int (1 : Int32)), .val (.int ((f 1) &&& (255 : Int32))), .val (.int (3 : Int32))] rfl (hb hby d203_82) rfl rfl ?_
                    refine own_iloadN X0 hx 85 (hb hby d203_84) rfl rfl ?_
                    refine own_iload X0 hx 87 (hb hby d203_85) rfl rfl ?_
                    refine own_iaddz X0 hx 88 (z := (4 : Int32)) (by decide) (hb hby d203_87) rfl ?_
                    refine own_iloadN X0 hx 89 (hb hby d203_88) rfl rfl ?_
                    refine own_icmp_le X0 hx 96 92 (hb hby d203_89) (by decide) (by decide) rfl (fun h21 => ?_) (fun h21 => ?_)
                    · exact absurd h21 (by decide)
                    · show own_W p e below _ T0 (mkF m 92 #[.val (.ref a), .val (.int (3 : Int32)), .val (.int (1 : Int32)), .val (.int ((f 1) &&& (255 : Int32))), .val (.int (3 : Int32))] [])
                      refine own_iloadN X0 hx 93 (hb hby d203_92) rfl rfl ?_
                      refine own_goto X0 hx 97 (hb hby d203_93) (by decide) (by decide) ?_
                      exact own_retI X0 hx hret hlk (hb hby d203_97) (by decide) (by decide) ⟨by unfold own_we_3; rw [if_pos h3, if_neg h14, if_pos h16, if_neg h17], N0, e0⟩
                · show own_W p e below _ T0 (mkF m 55 #[.val (.ref a), .val (.int (3 : Int32)), .val (.int (1 : Int32)), .val (.int ((f 1) &&& (255 : Int32))), .unset] [])
                  refine own_iconst X0 hx 56 (4 : Int32) (by decide) (hb hby d203_55) rfl ?_
                  refine own_goto X0 hx 82 (hb hby d203_56) (by decide) (by decide) ?_
                  refine own_istore X0 hx 84 #[.val (.ref a), .val (.int (3 : Int32)), .val (.int (1 : Int32)), .val (.int ((f 1) &&& (255 : Int32))), .val (.int (4 : Int32))] rfl (hb hby d203_82) rfl rfl ?_
                  refine own_iloadN X0 hx 85 (hb hby d203_84) rfl rfl ?_
                  refine own_iload X0 hx 87 (hb hby d203_85) rfl rfl ?_
                  refine own_iaddz X0 hx 88 (z := (5 : Int32)) (by decide) (hb hby d203_87) rfl ?_
                  refine own_iloadN X0 hx 89 (hb hby d203_88) rfl rfl ?_
                  refine own_icmp_le X0 hx 96 92 (hb hby d203_89) (by decide) (by decide) rfl (fun h22 => ?_) (fun h22 => ?_)
                  · exact absurd h22 (by decide)
                  · show own_W p e below _ T0 (mkF m 92 #[.val (.ref a), .val (.int (3 : Int32)), .val (.int (1 : Int32)), .val (.int ((f 1) &&& (255 : Int32))), .val (.int (4 : Int32))] [])
                    refine own_iloadN X0 hx 93 (hb hby d203_92) rfl rfl ?_
                    refine own_goto X0 hx 97 (hb hby d203_93) (by decide) (by decide) ?_
                    exact own_retI X0 hx hret hlk (hb hby d203_97) (by decide) (by decide) ⟨by unfold own_we_3; rw [if_pos h3, if_neg h14, if_neg h16], N0, e0⟩
              · exact absurd h15 (by decide)
            · show own_W p e below _ T0 (mkF m 28 #[.val (.ref a), .val (.int (3 : Int32)), .val (.int (1 : Int32)), .unset, .unset] [])
              refine own_iinc X0 hx (0 : Int32) 31 #[.val (.ref a), .val (.int (3 : Int32)), .val (.int (0 : Int32)), .unset, .unset] (by decide) (hb hby d203_28) rfl rfl rfl ?_
              refine own_goto X0 hx 4 (hb hby d203_31) (by decide) (by decide) ?_
              refine own_iloadN X0 hx 5 (hb hby d203_4) rfl rfl ?_
              refine own_if_le X0 hx 34 8 (hb hby d203_5) (by decide) (by decide) rfl (fun h23 => ?_) (fun h23 => ?_)
              · show own_W p e below _ T0 (mkF m 34 #[.val (.ref a), .val (.int (3 : Int32)), .val (.int (0 : Int32)), .unset, .unset] [])
                refine own_iloadN X0 hx 35 (hb hby d203_34) rfl rfl ?_
                refine own_if_ge X0 hx 40 38 (hb hby d203_35) (by decide) (by decide) rfl (fun h24 => ?_) (fun h24 => ?_)
                · show own_W p e below _ T0 (mkF m 40 #[.val (.ref a), .val (.int (3 : Int32)), .val (.int (0 : Int32)), .unset, .unset] [])
                  refine own_aloadN X0 hx 41 (hb hby d203_40) rfl rfl ?_
                  refine own_iloadN X0 hx 42 (hb hby d203_41) rfl rfl ?_
                  refine own_baload X0 hx hZ e0 43 0 A_a rfl (by decide) (hb hby d203_42) rfl ?_
                  refine own_sipush X0 hx 46 (255 : Int32) (by decide) (hb hby d203_43) rfl ?_
                  refine own_iand X0 hx 47 (hb hby d203_46) rfl ?_
                  refine own_istoreN X0 hx 48 #[.val (.ref a), .val (.int (3 : Int32)), .val (.int (0 : Int32)), .val (.int ((f 0) &&& (255 : Int32))), .unset] rfl (hb hby d203_47) rfl rfl ?_
                  refine own_iloadN X0 hx 49 (hb hby d203_48) rfl rfl ?_
                  refine own_sipush X0 hx 52 (240 : Int32) (by decide) (hb hby d203_49) rfl ?_
                  refine own_icmp_lt X0 hx 59 55 (hb hby d203_52) (by decide) (by decide) rfl (fun h25 => ?_) (fun h25 => ?_)
                  · show own_W p e below _ T0 (mkF m 59 #[.val (.ref a), .val (.int (3 : Int32)), .val (.int (0 : Int32)), .val (.int ((f 0) &&& (255 : Int32))), .unset] [])
                    refine own_iloadN X0 hx 60 (hb hby d203_59) rfl rfl ?_
                    refine own_sipush X0 hx 63 (224 : Int32) (by decide) (hb hby d203_60) rfl ?_
                    refine own_icmp_lt X0 hx 70 66 (hb hby d203_63) (by decide) (by decide) rfl (fun h26 => ?_) (fun h26 => ?_)
                    · show own_W p e below _ T0 (mkF m 70 #[.val (.ref a), .val (.int (3 : Int32)), .val (.int (0 : Int32)), .val (.int ((f 0) &&& (255 : Int32))), .unset] [])
                      refine own_iloadN X0 hx 71 (hb hby d203_70) rfl rfl ?_
                      refine own_sipush X0 hx 74 (192 : Int32) (by decide) (hb hby d203_71) rfl ?_
                      refine own_icmp_lt X0 hx 81 77 (hb hby d203_74) (by decide) (by decide) rfl (fun h27 => ?_) (fun h27 => ?_)
                      · show own_W p e below _ T0 (mkF m 81 #[.val (.ref a), .val (.int (3 : Int32)), .val (.int (0 : Int32)), .val (.int ((f 0) &&& (255 : Int32))), .unset] [])
                        refine own_iconst X0 hx 82 (1 : Int32) (by decide) (hb hby d203_81) rfl ?_
                        refine own_istore X0 hx 84 #[.val (.ref a), .val (.int (3 : Int32)), .val (.int (0 : Int32)), .val (.int ((f 0) &&& (255 : Int32))), .val (.int (1 : Int32))] rfl (hb hby d203_82) rfl rfl ?_
                        refine own_iloadN X0 hx 85 (hb hby d203_84) rfl rfl ?_
                        refine own_iload X0 hx 87 (hb hby d203_85) rfl rfl ?_
                        refine own_iaddz X0 hx 88 (z := (1 : Int32)) (by decide) (hb hby d203_87) rfl ?_
                        refine own_iloadN X0 hx 89 (hb hby d203_88) rfl rfl ?_
                        refine own_icmp_le X0 hx 96 92 (hb hby d203_89) (by decide) (by decide) rfl (fun h28 => ?_) (fun h28 => ?_)
                        · show own_W p e below _ T0 (mkF m 96 #[.val (.ref a), .val (.int (3 : Int32)), .val (.int (0 : Int32)), .val (.int ((f 0) &&& (255 : Int32))), .val (.int (1 : Int32))] [])
                          refine own_iloadN X0 hx 97 (hb hby d203_96) rfl rfl ?_
                          exact own_retI X0 hx hret hlk (hb hby d203_97) (by decide) (by decide) ⟨by unfold own_we_3; rw [if_pos h3, if_pos h14, if_pos h25, if_pos h26, if_pos h27], N0, e0⟩
                        · exact absurd h28 (by decide)
                      · show own_W p e below _ T0 (mkF m 77 #[.val (.ref a), .val (.int (3 : Int32)), .val (.int (0 : Int32)), .val (.int ((f 0) &&& (255 : Int32))), .unset] [])
                        refine own_iconst X0 hx 78 (2 : Int32) (by decide) (hb hby d203_77) rfl ?_
                        refine own_goto X0 hx 82 (hb hby d203_78) (by decide) (by decide) ?_
                        refine own_istore X0 hx 84 #[.val (.ref a), .val (.int (3 : Int32)), .val (.int (0 : Int32)), .val (.int ((f 0) &&& (255 : Int32))), .val (.int (2 : Int32))] rfl (hb hby d203_82) rfl rfl ?_
                        refine own_iloadN X0 hx 85 (hb hby d203_84) rfl rfl ?_
                        refine own_iload X0 hx 87 (hb hby d203_85) rfl rfl ?_
                        refine own_iaddz X0 hx 88 (z := (2 : Int32)) (by decide) (hb hby d203_87) rfl ?_
                        refine own_iloadN X0 hx 89 (hb hby d203_88) rfl rfl ?_
                        refine own_icmp_le X0 hx 96 92 (hb hby d203_89) (by decide) (by decide) rfl (fun h29 => ?_) (fun h29 => ?_)
                        · show own_W p e below _ T0 (mkF m 96 #[.val (.ref a), .val (.int (3 : Int32)), .val (.int (0 : Int32)), .val (.int ((f 0) &&& (255 : Int32))), .val (.int (2 : Int32))] [])
                          refine own_iloadN X0 hx 97 (hb hby d203_96) rfl rfl ?_
                          exact own_retI X0 hx hret hlk (hb hby d203_97) (by decide) (by decide) ⟨by unfold own_we_3; rw [if_pos h3, if_pos h14, if_pos h25, if_pos h26, if_neg h27], N0, e0⟩
                        · exact absurd h29 (by decide)
                    · show own_W p e below _ T0 (mkF m 66 #[.val (.ref a), .val (.int (3 : Int32)), .val (.int (0 : Int32)), .val (.int ((f 0) &&& (255 : Int32))), .unset] [])
                      refine own_iconst X0 hx 67 (3 : Int32) (by decide) (hb hby d203_66) rfl ?_
                      refine own_goto X0 hx 82 (hb hby d203_67) (by decide) (by decide) ?_
                      refine own_istore X0 hx 84 #[.val (.ref a), .val (.int (3 : Int32)), .val (.int (0 : Int32)), .val (.int ((f 0) &&& (255 : Int32))), .val (.int (3 : Int32))] rfl (hb hby d203_82) rfl rfl ?_
                      refine own_iloadN X0 hx 85 (hb hby d203_84) rfl rfl ?_
                      refine own_iload X0 hx 87 (hb hby d203_85) rfl rfl ?_
                      refine own_iaddz X0 hx 88 (z := (3 : Int32)) (by decide) (hb hby d203_87) rfl ?_
                      refine own_iloadN X0 hx 89 (hb hby d203_88) rfl rfl ?_
                      refine own_icmp_le X0 hx 96 92 (hb hby d203_89) (by decide) (by decide) rfl (fun h30 => ?_) (fun h30 => ?_)
                      · show own_W p e below _ T0 (mkF m 96 #[.val (.ref a), .val (.int (3 : Int32)), .val (.int (0 : Int32)), .val (.int ((f 0) &&& (255 : Int32))), .val (.int (3 : Int32))] [])
                        refine own_iloadN X0 hx 97 (hb hby d203_96) rfl rfl ?_
                        exact own_retI X0 hx hret hlk (hb hby d203_97) (by decide) (by decide) ⟨by unfold own_we_3; rw [if_pos h3, if_pos h14, if_pos h25, if_neg h26], N0, e0⟩
                      · exact absurd h30 (by decide)
                  · show own_W p e below _ T0 (mkF m 55 #[.val (.ref a), .val (.int (3 : Int32)), .val (.int (0 : Int32)), .val (.int ((f 0) &&& (255 : Int32))), .unset] [])
                    refine own_iconst X0 hx 56 (4 : Int32) (by decide) (hb hby d203_55) rfl ?_
                    refine own_goto X0 hx 82 (hb hby d203_56) (by decide) (by decide) ?_
                    refine own_istore X0 hx 84 #[.val (.ref a), .val (.int (3 : Int32)), .val (.int (0 : Int32)), .val (.int ((f 0) &&& (255 : Int32))), .val (.int (4 : Int32))] rfl (hb hby d203_82) rfl rfl ?_
                    refine own_iloadN X0 hx 85 (hb hby d203_84) rfl rfl ?_
                    refine own_iload X0 hx 87 (hb hby d203_85) rfl rfl ?_
                    refine own_iaddz X0 hx 88 (z := (4 : Int32)) (by decide) (hb hby d203_87) rfl ?_
                    refine own_iloadN X0 hx 89 (hb hby d203_88) rfl rfl ?_
                    refine own_icmp_le X0 hx 96 92 (hb hby d203_89) (by decide) (by decide) rfl (fun h31 => ?_) (fun h31 => ?_)
                    · exact absurd h31 (by decide)
                    · show own_W p e below _ T0 (mkF m 92 #[.val (.ref a), .val (.int (3 : Int32)), .val (.int (0 : Int32)), .val (.int ((f 0) &&& (255 : Int32))), .val (.int (4 : Int32))] [])
                      refine own_iloadN X0 hx 93 (hb hby d203_92) rfl rfl ?_
                      refine own_goto X0 hx 97 (hb hby d203_93) (by decide) (by decide) ?_
                      exact own_retI X0 hx hret hlk (hb hby d203_97) (by decide) (by decide) ⟨by unfold own_we_3; rw [if_pos h3, if_pos h14, if_neg h25], N0, e0⟩
                · exact absurd h24 (by decide)
              · exact absurd h23 (by decide)
theorem d141_0 : decode method_4_code 0 = .ok (.iload_n 1, 1) := by decide +kernel
theorem d141_1 : decode method_4_code 1 = .ok (.iload_n 2, 1) := by decide +kernel
theorem d141_2 : decode method_4_code 2 = .ok (.isub, 1) := by decide +kernel
theorem d141_3 : decode method_4_code 3 = .ok (.istore_n 3, 1) := by decide +kernel
theorem d141_4 : decode method_4_code 4 = .ok (.iload_n 3, 1) := by decide +kernel
theorem d141_5 : decode method_4_code 5 = .ok (.ifCond .ge 5, 3) := by decide +kernel
theorem d141_10 : decode method_4_code 10 = .ok (.aload_n 0, 1) := by decide +kernel
theorem d141_11 : decode method_4_code 11 = .ok (.iload_n 3, 1) := by decide +kernel
theorem d141_12 : decode method_4_code 12 = .ok (.baload, 1) := by decide +kernel
theorem d141_13 : decode method_4_code 13 = .ok (.invokestatic 7, 3) := by decide +kernel
theorem d141_16 : decode method_4_code 16 = .ok (.iload_n 2, 1) := by decide +kernel
theorem d141_17 : decode method_4_code 17 = .ok (.if_icmp .gt 5, 3) := by decide +kernel
theorem d141_20 : decode method_4_code 20 = .ok (.iconst 0, 1) := by decide +kernel
theorem d141_21 : decode method_4_code 21 = .ok (.ireturn, 1) := by decide +kernel
theorem d141_22 : decode method_4_code 22 = .ok (.iload_n 2, 1) := by decide +kernel
theorem d141_23 : decode method_4_code 23 = .ok (.iconst 2, 1) := by decide +kernel
theorem d141_24 : decode method_4_code 24 = .ok (.if_icmp .lt 16, 3) := by decide +kernel
theorem d141_40 : decode method_4_code 40 = .ok (.iload_n 2, 1) := by decide +kernel
theorem d141_41 : decode method_4_code 41 = .ok (.iconst 3, 1) := by decide +kernel
theorem d141_42 : decode method_4_code 42 = .ok (.if_icmp .lt 16, 3) := by decide +kernel
theorem d141_58 : decode method_4_code 58 = .ok (.iconst 1, 1) := by decide +kernel
theorem d141_59 : decode method_4_code 59 = .ok (.ireturn, 1) := by decide +kernel
set_option maxRecDepth 65536 in
set_option maxHeartbeats 40000000 in
theorem rm3_4_1 (l : Launch) (Z : State) (a0 : Array Value) (hw : ∀ d ∈ tables_1, d.before a0 Z = true) (a : Addr) (f : Nat → Int32) (h0 : Heap) (n0 : Nat) (Z0 : n0 ≤ h0.size) (A_a : own_AI Z h0 a .byte 6 f) :
    own_C l Z (⟨"com/example/gentle_indent/gentleindent/util/Utf8WholeEndPinLaw", "cutAt", "([BII)Z"⟩ : MethodName) method_4_code 4 (some .boolean) [] ({ frames := 1, cells := 0, slots := 0, locals := 16 } : Room) #[(.ref a), (.int (4 : Int32)), (.int (1 : Int32))] h0 (fun v h L => v = some (.int (own_cut_4_1 f)) ∧ Fr n0 L ∧ h = h0) := by
  refine own_body (by first | (simp [plainName, overriddenIn]; done) | decide +kernel) ?_
  intro p e s m below meth c T0 hx hby hml hown hnm hret hlk hZ X0 e0
  have N0 := Fr.nil n0
  refine own_eq (f' := (mkF m 0 #[.val (.ref a), .val (.int (4 : Int32)), .val (.int (1 : Int32)), .unset] [])) (by first | (simp [entryFrame, mkF, argsToLocals, Value.category]; done) | rfl) ?_
  refine own_iloadN X0 hx 1 (hb hby d141_0) rfl rfl ?_
  refine own_iloadN X0 hx 2 (hb hby d141_1) rfl rfl ?_
  refine own_isubz X0 hx 3 (z := (3 : Int32)) (by decide) (hb hby d141_2) rfl ?_
  refine own_istoreN X0 hx 4 #[.val (.ref a), .val (.int (4 : Int32)), .val (.int (1 : Int32)), .val (.int (3 : Int32))] rfl (hb hby d141_3) rfl rfl ?_
  refine own_iloadN X0 hx 5 (hb hby d141_4) rfl rfl ?_
  refine own_if_ge X0 hx 10 8 (hb hby d141_5) (by decide) (by decide) rfl (fun h1 => ?_) (fun h1 => ?_)
  · show own_W p e below _ T0 (mkF m 10 #[.val (.ref a), .val (.int (4 : Int32)), .val (.int (1 : Int32)), .val (.int (3 : Int32))] [])
    refine own_aloadN X0 hx 11 (hb hby d141_10) rfl rfl ?_
    refine own_iloadN X0 hx 12 (hb hby d141_11) rfl rfl ?_
    refine own_baload X0 hx hZ e0 13 3 A_a rfl (by decide) (hb hby d141_12) rfl ?_
    refine own_callS X0 hx hZ hown e0 (y := (⟨"com/example/gentle_indent/gentleindent/util/Utf8WholeEndPinLaw", "need", "(B)I"⟩ : MethodName)) (argsL := [(.int (f 3))]) (rest := []) 16 (rm1 l Z a0 hw (f 3) h0 n0 Z0) (hw _ (List.mem_of_getElem? (i := 6) rfl)) (hw _ (List.mem_of_getElem? (i := 7) rfl)) (hw _ (List.mem_of_getElem? (i := 4) rfl)) (hw _ (List.mem_of_getElem? (i := 8) rfl)) (by decide) (by rw [hml]; rfl) (lenOf (by decide +kernel : parseMethodDescriptor "(B)I" = some ⟨[.byte], some .int⟩) rfl) rfl (hb hby d141_13) rfl (W := 0) rfl (by decide) (by decide) (by decide) (by decide) (fun r2 T3 L4 X5 q6 => ?_)
    obtain ⟨rfl, N7q, e8⟩ := q6
    have N7 := Fr.app N0 N7q
    show own_W p e below _ T3 (mkF m 16 #[.val (.ref a), .val (.int (4 : Int32)), .val (.int (1 : Int32)), .val (.int (3 : Int32))] [(.int (own_need (f 3)))])
    refine own_iloadN X5 hx 17 (hb hby d141_16) rfl rfl ?_
    refine own_icmp_gt X5 hx 22 20 (hb hby d141_17) (by decide) (by decide) rfl (fun h9 => ?_) (fun h9 => ?_)
    · show own_W p e below _ T3 (mkF m 22 #[.val (.ref a), .val (.int (4 : Int32)), .val (.int (1 : Int32)), .val (.int (3 : Int32))] [])
      refine own_iloadN X5 hx 23 (hb hby d141_22) rfl rfl ?_
      refine own_iconst X5 hx 24 (2 : Int32) (by decide) (hb hby d141_23) rfl ?_
      refine own_icmp_lt X5 hx 40 27 (hb hby d141_24) (by decide) (by decide) rfl (fun h10 => ?_) (fun h10 => ?_)
      · show own_W p e below _ T3 (mkF m 40 #[.val (.ref a), .val (.int (4 : Int32)), .val (.int (1 : Int32)), .val (.int (3 : Int32))] [])
        refine own_iloadN X5 hx 41 (hb hby d141_40) rfl rfl ?_
        refine own_iconst X5 hx 42 (3 : Int32) (by decide) (hb hby d141_41) rfl ?_
        refine own_icmp_lt X5 hx 58 45 (hb hby d141_42) (by decide) (by decide) rfl (fun h11 => ?_) (fun h11 => ?_)
        · show own_W p e below _ T3 (mkF m 58 #[.val (.ref a), .val (.int (4 : Int32)), .val (.int (1 : Int32)), .val (.int (3 : Int32))] [])
          refine own_iconst X5 hx 59 (1 : Int32) (by decide) (hb hby d141_58) rfl ?_
          exact own_retZ X5 hx (1 : Int32) (by decide) hret hlk (hb hby d141_59) (by decide) (by decide) ⟨by unfold own_cut_4_1; rw [if_pos h9], N7, e8⟩
        · exact absurd h11 (by decide)
      · exact absurd h10 (by decide)
    · show own_W p e below _ T3 (mkF m 20 #[.val (.ref a), .val (.int (4 : Int32)), .val (.int (1 : Int32)), .val (.int (3 : Int32))] [])
      refine own_iconst X5 hx 21 (0 : Int32) (by decide) (hb hby d141_20) rfl ?_
      exact own_retZ X5 hx (0 : Int32) (by decide) hret hlk (hb hby d141_21) (by decide) (by decide) ⟨by unfold own_cut_4_1; rw [if_neg h9], N7, e8⟩
  · exact absurd h1 (by decide)
theorem d142_0 : decode method_4_code 0 = .ok (.iload_n 1, 1) := by decide +kernel
theorem d142_1 : decode method_4_code 1 = .ok (.iload_n 2, 1) := by decide +kernel
theorem d142_2 : decode method_4_code 2 = .ok (.isub, 1) := by decide +kernel
theorem d142_3 : decode method_4_code 3 = .ok (.istore_n 3, 1) := by decide +kernel
theorem d142_4 : decode method_4_code 4 = .ok (.iload_n 3, 1) := by decide +kernel
theorem d142_5 : decode method_4_code 5 = .ok (.ifCond .ge 5, 3) := by decide +kernel
theorem d142_10 : decode method_4_code 10 = .ok (.aload_n 0, 1) := by decide +kernel
theorem d142_11 : decode method_4_code 11 = .ok (.iload_n 3, 1) := by decide +kernel
theorem d142_12 : decode method_4_code 12 = .ok (.baload, 1) := by decide +kernel
theorem d142_13 : decode method_4_code 13 = .ok (.invokestatic 7, 3) := by decide +kernel
theorem d142_16 : decode method_4_code 16 = .ok (.iload_n 2, 1) := by decide +kernel
theorem d142_17 : decode method_4_code 17 = .ok (.if_icmp .gt 5, 3) := by decide +kernel
theorem d142_20 : decode method_4_code 20 = .ok (.iconst 0, 1) := by decide +kernel
theorem d142_21 : decode method_4_code 21 = .ok (.ireturn, 1) := by decide +kernel
theorem d142_22 : decode method_4_code 22 = .ok (.iload_n 2, 1) := by decide +kernel
theorem d142_23 : decode method_4_code 23 = .ok (.iconst 2, 1) := by decide +kernel
theorem d142_24 : decode method_4_code 24 = .ok (.if_icmp .lt 16, 3) := by decide +kernel
theorem d142_27 : decode method_4_code 27 = .ok (.aload_n 0, 1) := by decide +kernel
theorem d142_28 : decode method_4_code 28 = .ok (.iload_n 1, 1) := by decide +kernel
theorem d142_29 : decode method_4_code 29 = .ok (.iconst 1, 1) := by decide +kernel
theorem d142_30 : decode method_4_code 30 = .ok (.isub, 1) := by decide +kernel
theorem d142_31 : decode method_4_code 31 = .ok (.baload, 1) := by decide +kernel
theorem d142_32 : decode method_4_code 32 = .ok (.invokestatic 13, 3) := by decide +kernel
theorem d142_35 : decode method_4_code 35 = .ok (.ifCond .ne 5, 3) := by decide +kernel
theorem d142_38 : decode method_4_code 38 = .ok (.iconst 0, 1) := by decide +kernel
theorem d142_39 : decode method_4_code 39 = .ok (.ireturn, 1) := by decide +kernel
theorem d142_40 : decode method_4_code 40 = .ok (.iload_n 2, 1) := by decide +kernel
theorem d142_41 : decode method_4_code 41 = .ok (.iconst 3, 1) := by decide +kernel
theorem d142_42 : decode method_4_code 42 = .ok (.if_icmp .lt 16, 3) := by decide +kernel
theorem d142_58 : decode method_4_code 58 = .ok (.iconst 1, 1) := by decide +kernel
theorem d142_59 : decode method_4_code 59 = .ok (.ireturn, 1) := by decide +kernel
set_option maxRecDepth 65536 in
set_option maxHeartbeats 40000000 in
theorem rm3_4_2 (l : Launch) (Z : State) (a0 : Array Value) (hw : ∀ d ∈ tables_1, d.before a0 Z = true) (a : Addr) (f : Nat → Int32) (h0 : Heap) (n0 : Nat) (Z0 : n0 ≤ h0.size) (A_a : own_AI Z h0 a .byte 6 f) :
    own_C l Z (⟨"com/example/gentle_indent/gentleindent/util/Utf8WholeEndPinLaw", "cutAt", "([BII)Z"⟩ : MethodName) method_4_code 4 (some .boolean) [] ({ frames := 1, cells := 0, slots := 0, locals := 16 } : Room) #[(.ref a), (.int (4 : Int32)), (.int (2 : Int32))] h0 (fun v h L => v = some (.int (own_cut_4_2 f)) ∧ Fr n0 L ∧ h = h0) := by
  refine own_body (by first | (simp [plainName, overriddenIn]; done) | decide +kernel) ?_
  intro p e s m below meth c T0 hx hby hml hown hnm hret hlk hZ X0 e0
  have N0 := Fr.nil n0
  refine own_eq (f' := (mkF m 0 #[.val (.ref a), .val (.int (4 : Int32)), .val (.int (2 : Int32)), .unset] [])) (by first | (simp [entryFrame, mkF, argsToLocals, Value.category]; done) | rfl) ?_
  refine own_iloadN X0 hx 1 (hb hby d142_0) rfl rfl ?_
  refine own_iloadN X0 hx 2 (hb hby d142_1) rfl rfl ?_
  refine own_isubz X0 hx 3 (z := (2 : Int32)) (by decide) (hb hby d142_2) rfl ?_
  refine own_istoreN X0 hx 4 #[.val (.ref a), .val (.int (4 : Int32)), .val (.int (2 : Int32)), .val (.int (2 : Int32))] rfl (hb hby d142_3) rfl rfl ?_
  refine own_iloadN X0 hx 5 (hb hby d142_4) rfl rfl ?_
  refine own_if_ge X0 hx 10 8 (hb hby d142_5) (by decide) (by decide) rfl (fun h1 => ?_) (fun h1 => ?_)
  · show own_W p e below _ T0 (mkF m 10 #[.val (.ref a), .val (.int (4 : Int32)), .val (.int (2 : Int32)), .val (.int (2 : Int32))] [])
    refine own_aloadN X0 hx 11 (hb hby d142_10) rfl rfl ?_
    refine own_iloadN X0 hx 12 (hb hby d142_11) rfl rfl ?_
    refine own_baload X0 hx hZ e0 13 2 A_a rfl (by decide) (hb hby d142_12) rfl ?_
    refine own_callS X0 hx hZ hown e0 (y := (⟨"com/example/gentle_indent/gentleindent/util/Utf8WholeEndPinLaw", "need", "(B)I"⟩ : MethodName)) (argsL := [(.int (f 2))]) (rest := []) 16 (rm1 l Z a0 hw (f 2) h0 n0 Z0) (hw _ (List.mem_of_getElem? (i := 6) rfl)) (hw _ (List.mem_of_getElem? (i := 7) rfl)) (hw _ (List.mem_of_getElem? (i := 4) rfl)) (hw _ (List.mem_of_getElem? (i := 8) rfl)) (by decide) (by rw [hml]; rfl) (lenOf (by decide +kernel : parseMethodDescriptor "(B)I" = some ⟨[.byte], some .int⟩) rfl) rfl (hb hby d142_13) rfl (W := 0) rfl (by decide) (by decide) (by decide) (by decide) (fun r2 T3 L4 X5 q6 => ?_)
    obtain ⟨rfl, N7q, e8⟩ := q6
    have N7 := Fr.app N0 N7q
    show own_W p e below _ T3 (mkF m 16 #[.val (.ref a), .val (.int (4 : Int32)), .val (.int (2 : Int32)), .val (.int (2 : Int32))] [(.int (own_need (f 2)))])
    refine own_iloadN X5 hx 17 (hb hby d142_16) rfl rfl ?_
    refine own_icmp_gt X5 hx 22 20 (hb hby d142_17) (by decide) (by decide) rfl (fun h9 => ?_) (fun h9 => ?_)
    · show own_W p e below _ T3 (mkF m 22 #[.val (.ref a), .val (.int (4 : Int32)), .val (.int (2 : Int32)), .val (.int (2 : Int32))] [])
      refine own_iloadN X5 hx 23 (hb hby d142_22) rfl rfl ?_
      refine own_iconst X5 hx 24 (2 : Int32) (by decide) (hb hby d142_23) rfl ?_
      refine own_icmp_lt X5 hx 40 27 (hb hby d142_24) (by decide) (by decide) rfl (fun h10 => ?_) (fun h10 => ?_)
      · exact absurd h10 (by decide)
      · show own_W p e below _ T3 (mkF m 27 #[.val (.ref a), .val (.int (4 : Int32)), .val (.int (2 : Int32)), .val (.int (2 : Int32))] [])
        refine own_aloadN X5 hx 28 (hb hby d142_27) rfl rfl ?_
        refine own_iloadN X5 hx 29 (hb hby d142_28) rfl rfl ?_
        refine own_iconst X5 hx 30 (1 : Int32) (by decide) (hb hby d142_29) rfl ?_
        refine own_isubz X5 hx 31 (z := (3 : Int32)) (by decide) (hb hby d142_30) rfl ?_
        refine own_baload X5 hx hZ e8 32 3 A_a rfl (by decide) (hb hby d142_31) rfl ?_
        refine own_callS X5 hx hZ hown e8 (y := (⟨"com/example/gentle_indent/gentleindent/util/Utf8WholeEndPinLaw", "cont", "(B)Z"⟩ : MethodName)) (argsL := [(.int (f 3))]) (rest := []) 35 (rm2 l Z a0 hw (f 3) h0 n0 Z0) (hw _ (List.mem_of_getElem? (i := 13) rfl)) (hw _ (List.mem_of_getElem? (i := 14) rfl)) (hw _ (List.mem_of_getElem? (i := 4) rfl)) (hw _ (List.mem_of_getElem? (i := 15) rfl)) (by decide) (by rw [hml]; rfl) (lenOf (by decide +kernel : parseMethodDescriptor "(B)Z" = some ⟨[.byte], some .boolean⟩) rfl) rfl (hb hby d142_32) rfl (W := 0) rfl (by decide) (by decide) (by decide) (by decide) (fun r11 T12 L13 X14 q15 => ?_)
        obtain ⟨rfl, N16q, e17⟩ := q15
        have N16 := Fr.app N7 N16q
        show own_W p e below _ T12 (mkF m 35 #[.val (.ref a), .val (.int (4 : Int32)), .val (.int (2 : Int32)), .val (.int (2 : Int32))] [(.int (own_cont (f 3)))])
        refine own_if_ne X14 hx 40 38 (hb hby d142_35) (by decide) (by decide) rfl (fun h18 => ?_) (fun h18 => ?_)
        · show own_W p e below _ T12 (mkF m 40 #[.val (.ref a), .val (.int (4 : Int32)), .val (.int (2 : Int32)), .val (.int (2 : Int32))] [])
          refine own_iloadN X14 hx 41 (hb hby d142_40) rfl rfl ?_
          refine own_iconst X14 hx 42 (3 : Int32) (by decide) (hb hby d142_41) rfl ?_
          refine own_icmp_lt X14 hx 58 45 (hb hby d142_42) (by decide) (by decide) rfl (fun h19 => ?_) (fun h19 => ?_)
          · show own_W p e below _ T12 (mkF m 58 #[.val (.ref a), .val (.int (4 : Int32)), .val (.int (2 : Int32)), .val (.int (2 : Int32))] [])
            refine own_iconst X14 hx 59 (1 : Int32) (by decide) (hb hby d142_58) rfl ?_
            exact own_retZ X14 hx (1 : Int32) (by decide) hret hlk (hb hby d142_59) (by decide) (by decide) ⟨by unfold own_cut_4_2; rw [if_pos h9, if_neg h18], N16, e17⟩
          · exact absurd h19 (by decide)
        · show own_W p e below _ T12 (mkF m 38 #[.val (.ref a), .val (.int (4 : Int32)), .val (.int (2 : Int32)), .val (.int (2 : Int32))] [])
          refine own_iconst X14 hx 39 (0 : Int32) (by decide) (hb hby d142_38) rfl ?_
          exact own_retZ X14 hx (0 : Int32) (by decide) hret hlk (hb hby d142_39) (by decide) (by decide) ⟨by unfold own_cut_4_2; rw [if_pos h9, if_pos h18], N16, e17⟩
    · show own_W p e below _ T3 (mkF m 20 #[.val (.ref a), .val (.int (4 : Int32)), .val (.int (2 : Int32)), .val (.int (2 : Int32))] [])
      refine own_iconst X5 hx 21 (0 : Int32) (by decide) (hb hby d142_20) rfl ?_
      exact own_retZ X5 hx (0 : Int32) (by decide) hret hlk (hb hby d142_21) (by decide) (by decide) ⟨by unfold own_cut_4_2; rw [if_neg h9], N7, e8⟩
  · exact absurd h1 (by decide)
theorem d143_0 : decode method_4_code 0 = .ok (.iload_n 1, 1) := by decide +kernel
theorem d143_1 : decode method_4_code 1 = .ok (.iload_n 2, 1) := by decide +kernel
theorem d143_2 : decode method_4_code 2 = .ok (.isub, 1) := by decide +kernel
theorem d143_3 : decode method_4_code 3 = .ok (.istore_n 3, 1) := by decide +kernel
theorem d143_4 : decode method_4_code 4 = .ok (.iload_n 3, 1) := by decide +kernel
theorem d143_5 : decode method_4_code 5 = .ok (.ifCond .ge 5, 3) := by decide +kernel
theorem d143_10 : decode method_4_code 10 = .ok (.aload_n 0, 1) := by decide +kernel
theorem d143_11 : decode method_4_code 11 = .ok (.iload_n 3, 1) := by decide +kernel
theorem d143_12 : decode method_4_code 12 = .ok (.baload, 1) := by decide +kernel
theorem d143_13 : decode method_4_code 13 = .ok (.invokestatic 7, 3) := by decide +kernel
theorem d143_16 : decode method_4_code 16 = .ok (.iload_n 2, 1) := by decide +kernel
theorem d143_17 : decode method_4_code 17 = .ok (.if_icmp .gt 5, 3) := by decide +kernel
theorem d143_20 : decode method_4_code 20 = .ok (.iconst 0, 1) := by decide +kernel
theorem d143_21 : decode method_4_code 21 = .ok (.ireturn, 1) := by decide +kernel
theorem d143_22 : decode method_4_code 22 = .ok (.iload_n 2, 1) := by decide +kernel
theorem d143_23 : decode method_4_code 23 = .ok (.iconst 2, 1) := by decide +kernel
theorem d143_24 : decode method_4_code 24 = .ok (.if_icmp .lt 16, 3) := by decide +kernel
theorem d143_27 : decode method_4_code 27 = .ok (.aload_n 0, 1) := by decide +kernel
theorem d143_28 : decode method_4_code 28 = .ok (.iload_n 1, 1) := by decide +kernel
theorem d143_29 : decode method_4_code 29 = .ok (.iconst 1, 1) := by decide +kernel
theorem d143_30 : decode method_4_code 30 = .ok (.isub, 1) := by decide +kernel
theorem d143_31 : decode method_4_code 31 = .ok (.baload, 1) := by decide +kernel
theorem d143_32 : decode method_4_code 32 = .ok (.invokestatic 13, 3) := by decide +kernel
theorem d143_35 : decode method_4_code 35 = .ok (.ifCond .ne 5, 3) := by decide +kernel
theorem d143_38 : decode method_4_code 38 = .ok (.iconst 0, 1) := by decide +kernel
theorem d143_39 : decode method_4_code 39 = .ok (.ireturn, 1) := by decide +kernel
theorem d143_40 : decode method_4_code 40 = .ok (.iload_n 2, 1) := by decide +kernel
theorem d143_41 : decode method_4_code 41 = .ok (.iconst 3, 1) := by decide +kernel
theorem d143_42 : decode method_4_code 42 = .ok (.if_icmp .lt 16, 3) := by decide +kernel
theorem d143_45 : decode method_4_code 45 = .ok (.aload_n 0, 1) := by decide +kernel
theorem d143_46 : decode method_4_code 46 = .ok (.iload_n 1, 1) := by decide +kernel
theorem d143_47 : decode method_4_code 47 = .ok (.iconst 2, 1) := by decide +kernel
theorem d143_48 : decode method_4_code 48 = .ok (.isub, 1) := by decide +kernel
theorem d143_49 : decode method_4_code 49 = .ok (.baload, 1) := by decide +kernel
theorem d143_50 : decode method_4_code 50 = .ok (.invokestatic 13, 3) := by decide +kernel
theorem d143_53 : decode method_4_code 53 = .ok (.ifCond .ne 5, 3) := by decide +kernel
theorem d143_56 : decode method_4_code 56 = .ok (.iconst 0, 1) := by decide +kernel
theorem d143_57 : decode method_4_code 57 = .ok (.ireturn, 1) := by decide +kernel
theorem d143_58 : decode method_4_code 58 = .ok (.iconst 1, 1) := by decide +kernel
theorem d143_59 : decode method_4_code 59 = .ok (.ireturn, 1) := by decide +kernel
set_option maxRecDepth 65536 in
set_option maxHeartbeats 40000000 in
theorem rm3_4_3 (l : Launch) (Z : State) (a0 : Array Value) (hw : ∀ d ∈ tables_1, d.before a0 Z = true) (a : Addr) (f : Nat → Int32) (h0 : Heap) (n0 : Nat) (Z0 : n0 ≤ h0.size) (A_a : own_AI Z h0 a .byte 6 f) :
    own_C l Z (⟨"com/example/gentle_indent/gentleindent/util/Utf8WholeEndPinLaw", "cutAt", "([BII)Z"⟩ : MethodName) method_4_code 4 (some .boolean) [] ({ frames := 1, cells := 0, slots := 0, locals := 16 } : Room) #[(.ref a), (.int (4 : Int32)), (.int (3 : Int32))] h0 (fun v h L => v = some (.int (own_cut_4_3 f)) ∧ Fr n0 L ∧ h = h0) := by
  refine own_body (by first | (simp [plainName, overriddenIn]; done) | decide +kernel) ?_
  intro p e s m below meth c T0 hx hby hml hown hnm hret hlk hZ X0 e0
  have N0 := Fr.nil n0
  refine own_eq (f' := (mkF m 0 #[.val (.ref a), .val (.int (4 : Int32)), .val (.int (3 : Int32)), .unset] [])) (by first | (simp [entryFrame, mkF, argsToLocals, Value.category]; done) | rfl) ?_
  refine own_iloadN X0 hx 1 (hb hby d143_0) rfl rfl ?_
  refine own_iloadN X0 hx 2 (hb hby d143_1) rfl rfl ?_
  refine own_isubz X0 hx 3 (z := (1 : Int32)) (by decide) (hb hby d143_2) rfl ?_
  refine own_istoreN X0 hx 4 #[.val (.ref a), .val (.int (4 : Int32)), .val (.int (3 : Int32)), .val (.int (1 : Int32))] rfl (hb hby d143_3) rfl rfl ?_
  refine own_iloadN X0 hx 5 (hb hby d143_4) rfl rfl ?_
  refine own_if_ge X0 hx 10 8 (hb hby d143_5) (by decide) (by decide) rfl (fun h1 => ?_) (fun h1 => ?_)
  · show own_W p e below _ T0 (mkF m 10 #[.val (.ref a), .val (.int (4 : Int32)), .val (.int (3 : Int32)), .val (.int (1 : Int32))] [])
    refine own_aloadN X0 hx 11 (hb hby d143_10) rfl rfl ?_
    refine own_iloadN X0 hx 12 (hb hby d143_11) rfl rfl ?_
    refine own_baload X0 hx hZ e0 13 1 A_a rfl (by decide) (hb hby d143_12) rfl ?_
    refine own_callS X0 hx hZ hown e0 (y := (⟨"com/example/gentle_indent/gentleindent/util/Utf8WholeEndPinLaw", "need", "(B)I"⟩ : MethodName)) (argsL := [(.int (f 1))]) (rest := []) 16 (rm1 l Z a0 hw (f 1) h0 n0 Z0) (hw _ (List.mem_of_getElem? (i := 6) rfl)) (hw _ (List.mem_of_getElem? (i := 7) rfl)) (hw _ (List.mem_of_getElem? (i := 4) rfl)) (hw _ (List.mem_of_getElem? (i := 8) rfl)) (by decide) (by rw [hml]; rfl) (lenOf (by decide +kernel : parseMethodDescriptor "(B)I" = some ⟨[.byte], some .int⟩) rfl) rfl (hb hby d143_13) rfl (W := 0) rfl (by decide) (by decide) (by decide) (by decide) (fun r2 T3 L4 X5 q6 => ?_)
    obtain ⟨rfl, N7q, e8⟩ := q6
    have N7 := Fr.app N0 N7q
    show own_W p e below _ T3 (mkF m 16 #[.val (.ref a), .val (.int (4 : Int32)), .val (.int (3 : Int32)), .val (.int (1 : Int32))] [(.int (own_need (f 1)))])
    refine own_iloadN X5 hx 17 (hb hby d143_16) rfl rfl ?_
    refine own_icmp_gt X5 hx 22 20 (hb hby d143_17) (by decide) (by decide) rfl (fun h9 => ?_) (fun h9 => ?_)
    · show own_W p e below _ T3 (mkF m 22 #[.val (.ref a), .val (.int (4 : Int32)), .val (.int (3 : Int32)), .val (.int (1 : Int32))] [])
      refine own_iloadN X5 hx 23 (hb hby d143_22) rfl rfl ?_
      refine own_iconst X5 hx 24 (2 : Int32) (by decide) (hb hby d143_23) rfl ?_
      refine own_icmp_lt X5 hx 40 27 (hb hby d143_24) (by decide) (by decide) rfl (fun h10 => ?_) (fun h10 => ?_)
      · exact absurd h10 (by decide)
      · show own_W p e below _ T3 (mkF m 27 #[.val (.ref a), .val (.int (4 : Int32)), .val (.int (3 : Int32)), .val (.int (1 : Int32))] [])
        refine own_aloadN X5 hx 28 (hb hby d143_27) rfl rfl ?_
        refine own_iloadN X5 hx 29 (hb hby d143_28) rfl rfl ?_
        refine own_iconst X5 hx 30 (1 : Int32) (by decide) (hb hby d143_29) rfl ?_
        refine own_isubz X5 hx 31 (z := (3 : Int32)) (by decide) (hb hby d143_30) rfl ?_
        refine own_baload X5 hx hZ e8 32 3 A_a rfl (by decide) (hb hby d143_31) rfl ?_
        refine own_callS X5 hx hZ hown e8 (y := (⟨"com/example/gentle_indent/gentleindent/util/Utf8WholeEndPinLaw", "cont", "(B)Z"⟩ : MethodName)) (argsL := [(.int (f 3))]) (rest := []) 35 (rm2 l Z a0 hw (f 3) h0 n0 Z0) (hw _ (List.mem_of_getElem? (i := 13) rfl)) (hw _ (List.mem_of_getElem? (i := 14) rfl)) (hw _ (List.mem_of_getElem? (i := 4) rfl)) (hw _ (List.mem_of_getElem? (i := 15) rfl)) (by decide) (by rw [hml]; rfl) (lenOf (by decide +kernel : parseMethodDescriptor "(B)Z" = some ⟨[.byte], some .boolean⟩) rfl) rfl (hb hby d143_32) rfl (W := 0) rfl (by decide) (by decide) (by decide) (by decide) (fun r11 T12 L13 X14 q15 => ?_)
        obtain ⟨rfl, N16q, e17⟩ := q15
        have N16 := Fr.app N7 N16q
        show own_W p e below _ T12 (mkF m 35 #[.val (.ref a), .val (.int (4 : Int32)), .val (.int (3 : Int32)), .val (.int (1 : Int32))] [(.int (own_cont (f 3)))])
        refine own_if_ne X14 hx 40 38 (hb hby d143_35) (by decide) (by decide) rfl (fun h18 => ?_) (fun h18 => ?_)
        · show own_W p e below _ T12 (mkF m 40 #[.val (.ref a), .val (.int (4 : Int32)), .val (.int (3 : Int32)), .val (.int (1 : Int32))] [])
          refine own_iloadN X14 hx 41 (hb hby d143_40) rfl rfl ?_
          refine own_iconst X14 hx 42 (3 : Int32) (by decide) (hb hby d143_41) rfl ?_
          refine own_icmp_lt X14 hx 58 45 (hb hby d143_42) (by decide) (by decide) rfl (fun h19 => ?_) (fun h19 => ?_)
          · exact absurd h19 (by decide)
          · show own_W p e below _ T12 (mkF m 45 #[.val (.ref a), .val (.int (4 : Int32)), .val (.int (3 : Int32)), .val (.int (1 : Int32))] [])
            refine own_aloadN X14 hx 46 (hb hby d143_45) rfl rfl ?_
            refine own_iloadN X14 hx 47 (hb hby d143_46) rfl rfl ?_
            refine own_iconst X14 hx 48 (2 : Int32) (by decide) (hb hby d143_47) rfl ?_
            refine own_isubz X14 hx 49 (z := (2 : Int32)) (by decide) (hb hby d143_48) rfl ?_
            refine own_baload X14 hx hZ e17 50 2 A_a rfl (by decide) (hb hby d143_49) rfl ?_
            refine own_callS X14 hx hZ hown e17 (y := (⟨"com/example/gentle_indent/gentleindent/util/Utf8WholeEndPinLaw", "cont", "(B)Z"⟩ : MethodName)) (argsL := [(.int (f 2))]) (rest := []) 53 (rm2 l Z a0 hw (f 2) h0 n0 Z0) (hw _ (List.mem_of_getElem? (i := 13) rfl)) (hw _ (List.mem_of_getElem? (i := 14) rfl)) (hw _ (List.mem_of_getElem? (i := 4) rfl)) (hw _ (List.mem_of_getElem? (i := 15) rfl)) (by decide) (by rw [hml]; rfl) (lenOf (by decide +kernel : parseMethodDescriptor "(B)Z" = some ⟨[.byte], some .boolean⟩) rfl) rfl (hb hby d143_50) rfl (W := 0) rfl (by decide) (by decide) (by decide) (by decide) (fun r20 T21 L22 X23 q24 => ?_)
            obtain ⟨rfl, N25q, e26⟩ := q24
            have N25 := Fr.app N16 N25q
            show own_W p e below _ T21 (mkF m 53 #[.val (.ref a), .val (.int (4 : Int32)), .val (.int (3 : Int32)), .val (.int (1 : Int32))] [(.int (own_cont (f 2)))])
            refine own_if_ne X23 hx 58 56 (hb hby d143_53) (by decide) (by decide) rfl (fun h27 => ?_) (fun h27 => ?_)
            · show own_W p e below _ T21 (mkF m 58 #[.val (.ref a), .val (.int (4 : Int32)), .val (.int (3 : Int32)), .val (.int (1 : Int32))] [])
              refine own_iconst X23 hx 59 (1 : Int32) (by decide) (hb hby d143_58) rfl ?_
              exact own_retZ X23 hx (1 : Int32) (by decide) hret hlk (hb hby d143_59) (by decide) (by decide) ⟨by unfold own_cut_4_3; rw [if_pos h9, if_neg h18, if_neg h27], N25, e26⟩
            · show own_W p e below _ T21 (mkF m 56 #[.val (.ref a), .val (.int (4 : Int32)), .val (.int (3 : Int32)), .val (.int (1 : Int32))] [])
              refine own_iconst X23 hx 57 (0 : Int32) (by decide) (hb hby d143_56) rfl ?_
              exact own_retZ X23 hx (0 : Int32) (by decide) hret hlk (hb hby d143_57) (by decide) (by decide) ⟨by unfold own_cut_4_3; rw [if_pos h9, if_neg h18, if_pos h27], N25, e26⟩
        · show own_W p e below _ T12 (mkF m 38 #[.val (.ref a), .val (.int (4 : Int32)), .val (.int (3 : Int32)), .val (.int (1 : Int32))] [])
          refine own_iconst X14 hx 39 (0 : Int32) (by decide) (hb hby d143_38) rfl ?_
          exact own_retZ X14 hx (0 : Int32) (by decide) hret hlk (hb hby d143_39) (by decide) (by decide) ⟨by unfold own_cut_4_3; rw [if_pos h9, if_pos h18], N16, e17⟩
    · show own_W p e below _ T3 (mkF m 20 #[.val (.ref a), .val (.int (4 : Int32)), .val (.int (3 : Int32)), .val (.int (1 : Int32))] [])
      refine own_iconst X5 hx 21 (0 : Int32) (by decide) (hb hby d143_20) rfl ?_
      exact own_retZ X5 hx (0 : Int32) (by decide) hret hlk (hb hby d143_21) (by decide) (by decide) ⟨by unfold own_cut_4_3; rw [if_neg h9], N7, e8⟩
  · exact absurd h1 (by decide)
theorem d204_0 : decode prog_84_method_4_code 0 = .ok (.iload_n 1, 1) := by decide +kernel
theorem d204_1 : decode prog_84_method_4_code 1 = .ok (.iconst 1, 1) := by decide +kernel
theorem d204_2 : decode prog_84_method_4_code 2 = .ok (.isub, 1) := by decide +kernel
theorem d204_3 : decode prog_84_method_4_code 3 = .ok (.istore_n 2, 1) := by decide +kernel
theorem d204_4 : decode prog_84_method_4_code 4 = .ok (.iload_n 2, 1) := by decide +kernel
theorem d204_5 : decode prog_84_method_4_code 5 = .ok (.ifCond .le 29, 3) := by decide +kernel
theorem d204_8 : decode prog_84_method_4_code 8 = .ok (.iload_n 2, 1) := by decide +kernel
theorem d204_9 : decode prog_84_method_4_code 9 = .ok (.iload_n 1, 1) := by decide +kernel
theorem d204_10 : decode prog_84_method_4_code 10 = .ok (.iconst 4, 1) := by decide +kernel
theorem d204_11 : decode prog_84_method_4_code 11 = .ok (.isub, 1) := by decide +kernel
theorem d204_12 : decode prog_84_method_4_code 12 = .ok (.if_icmp .le 22, 3) := by decide +kernel
theorem d204_15 : decode prog_84_method_4_code 15 = .ok (.aload_n 0, 1) := by decide +kernel
theorem d204_16 : decode prog_84_method_4_code 16 = .ok (.iload_n 2, 1) := by decide +kernel
theorem d204_17 : decode prog_84_method_4_code 17 = .ok (.baload, 1) := by decide +kernel
theorem d204_18 : decode prog_84_method_4_code 18 = .ok (.sipush 192, 3) := by decide +kernel
theorem d204_21 : decode prog_84_method_4_code 21 = .ok (.iand, 1) := by decide +kernel
theorem d204_22 : decode prog_84_method_4_code 22 = .ok (.sipush 128, 3) := by decide +kernel
theorem d204_25 : decode prog_84_method_4_code 25 = .ok (.if_icmp .ne 9, 3) := by decide +kernel
theorem d204_28 : decode prog_84_method_4_code 28 = .ok (.iinc 2 (-1), 3) := by decide +kernel
theorem d204_31 : decode prog_84_method_4_code 31 = .ok (.goto (-27), 3) := by decide +kernel
theorem d204_34 : decode prog_84_method_4_code 34 = .ok (.iload_n 2, 1) := by decide +kernel
theorem d204_35 : decode prog_84_method_4_code 35 = .ok (.ifCond .ge 5, 3) := by decide +kernel
theorem d204_40 : decode prog_84_method_4_code 40 = .ok (.aload_n 0, 1) := by decide +kernel
theorem d204_41 : decode prog_84_method_4_code 41 = .ok (.iload_n 2, 1) := by decide +kernel
theorem d204_42 : decode prog_84_method_4_code 42 = .ok (.baload, 1) := by decide +kernel
theorem d204_43 : decode prog_84_method_4_code 43 = .ok (.sipush 255, 3) := by decide +kernel
theorem d204_46 : decode prog_84_method_4_code 46 = .ok (.iand, 1) := by decide +kernel
theorem d204_47 : decode prog_84_method_4_code 47 = .ok (.istore_n 3, 1) := by decide +kernel
theorem d204_48 : decode prog_84_method_4_code 48 = .ok (.iload_n 3, 1) := by decide +kernel
theorem d204_49 : decode prog_84_method_4_code 49 = .ok (.sipush 240, 3) := by decide +kernel
theorem d204_52 : decode prog_84_method_4_code 52 = .ok (.if_icmp .lt 7, 3) := by decide +kernel
theorem d204_55 : decode prog_84_method_4_code 55 = .ok (.iconst 4, 1) := by decide +kernel
theorem d204_56 : decode prog_84_method_4_code 56 = .ok (.goto 26, 3) := by decide +kernel
theorem d204_59 : decode prog_84_method_4_code 59 = .ok (.iload_n 3, 1) := by decide +kernel
theorem d204_60 : decode prog_84_method_4_code 60 = .ok (.sipush 224, 3) := by decide +kernel
theorem d204_63 : decode prog_84_method_4_code 63 = .ok (.if_icmp .lt 7, 3) := by decide +kernel
theorem d204_66 : decode prog_84_method_4_code 66 = .ok (.iconst 3, 1) := by decide +kernel
theorem d204_67 : decode prog_84_method_4_code 67 = .ok (.goto 15, 3) := by decide +kernel
theorem d204_70 : decode prog_84_method_4_code 70 = .ok (.iload_n 3, 1) := by decide +kernel
theorem d204_71 : decode prog_84_method_4_code 71 = .ok (.sipush 192, 3) := by decide +kernel
theorem d204_74 : decode prog_84_method_4_code 74 = .ok (.if_icmp .lt 7, 3) := by decide +kernel
theorem d204_77 : decode prog_84_method_4_code 77 = .ok (.iconst 2, 1) := by decide +kernel
theorem d204_78 : decode prog_84_method_4_code 78 = .ok (.goto 4, 3) := by decide +kernel
theorem d204_81 : decode prog_84_method_4_code 81 = .ok (.iconst 1, 1) := by decide +kernel
theorem d204_82 : decode prog_84_method_4_code 82 = .ok (.istore 4, 2) := by decide +kernel
theorem d204_84 : decode prog_84_method_4_code 84 = .ok (.iload_n 2, 1) := by decide +kernel
theorem d204_85 : decode prog_84_method_4_code 85 = .ok (.iload 4, 2) := by decide +kernel
theorem d204_87 : decode prog_84_method_4_code 87 = .ok (.iadd, 1) := by decide +kernel
theorem d204_88 : decode prog_84_method_4_code 88 = .ok (.iload_n 1, 1) := by decide +kernel
theorem d204_89 : decode prog_84_method_4_code 89 = .ok (.if_icmp .le 7, 3) := by decide +kernel
theorem d204_92 : decode prog_84_method_4_code 92 = .ok (.iload_n 2, 1) := by decide +kernel
theorem d204_93 : decode prog_84_method_4_code 93 = .ok (.goto 4, 3) := by decide +kernel
theorem d204_96 : decode prog_84_method_4_code 96 = .ok (.iload_n 1, 1) := by decide +kernel
theorem d204_97 : decode prog_84_method_4_code 97 = .ok (.ireturn, 1) := by decide +kernel
set_option maxRecDepth 65536 in
set_option maxHeartbeats 40000000 in
theorem rm4_4 (l : Launch) (Z : State) (a0 : Array Value) (hw : ∀ d ∈ tables_1, d.before a0 Z = true) (a : Addr) (f : Nat → Int32) (h0 : Heap) (n0 : Nat) (Z0 : n0 ≤ h0.size) (A_a : own_AI Z h0 a .byte 6 f) :
    own_C l Z (⟨"com/example/gentle_indent/gentleindent/util/Utf8", "wholeEnd", "([BI)I"⟩ : MethodName) prog_84_method_4_code 5 (some .int) [] ({ frames := 0, cells := 0, slots := 0, locals := 0 } : Room) #[(.ref a), (.int (4 : Int32))] h0 (fun v h L => v = some (.int (own_we_4 f)) ∧ Fr n0 L ∧ h = h0) := by
  refine own_body (by first | (simp [plainName, overriddenIn]; done) | decide +kernel) ?_
  intro p e s m below meth c T0 hx hby hml hown hnm hret hlk hZ X0 e0
  have N0 := Fr.nil n0
  refine own_eq (f' := (mkF m 0 #[.val (.ref a), .val (.int (4 : Int32)), .unset, .unset, .unset] [])) (by first | (simp [entryFrame, mkF, argsToLocals, Value.category]; done) | rfl) ?_
  refine own_iloadN X0 hx 1 (hb hby d204_0) rfl rfl ?_
  refine own_iconst X0 hx 2 (1 : Int32) (by decide) (hb hby d204_1) rfl ?_
  refine own_isubz X0 hx 3 (z := (3 : Int32)) (by decide) (hb hby d204_2) rfl ?_
  refine own_istoreN X0 hx 4 #[.val (.ref a), .val (.int (4 : Int32)), .val (.int (3 : Int32)), .unset, .unset] rfl (hb hby d204_3) rfl rfl ?_
  refine own_iloadN X0 hx 5 (hb hby d204_4) rfl rfl ?_
  refine own_if_le X0 hx 34 8 (hb hby d204_5) (by decide) (by decide) rfl (fun h1 => ?_) (fun h1 => ?_)
  · exact absurd h1 (by decide)
  · show own_W p e below _ T0 (mkF m 8 #[.val (.ref a), .val (.int (4 : Int32)), .val (.int (3 : Int32)), .unset, .unset] [])
    refine own_iloadN X0 hx 9 (hb hby d204_8) rfl rfl ?_
    refine own_iloadN X0 hx 10 (hb hby d204_9) rfl rfl ?_
    refine own_iconst X0 hx 11 (4 : Int32) (by decide) (hb hby d204_10) rfl ?_
    refine own_isubz X0 hx 12 (z := (0 : Int32)) (by decide) (hb hby d204_11) rfl ?_
    refine own_icmp_le X0 hx 34 15 (hb hby d204_12) (by decide) (by decide) rfl (fun h2 => ?_) (fun h2 => ?_)
    · exact absurd h2 (by decide)
    · show own_W p e below _ T0 (mkF m 15 #[.val (.ref a), .val (.int (4 : Int32)), .val (.int (3 : Int32)), .unset, .unset] [])
      refine own_aloadN X0 hx 16 (hb hby d204_15) rfl rfl ?_
      refine own_iloadN X0 hx 17 (hb hby d204_16) rfl rfl ?_
      refine own_baload X0 hx hZ e0 18 3 A_a rfl (by decide) (hb hby d204_17) rfl ?_
      refine own_sipush X0 hx 21 (192 : Int32) (by decide) (hb hby d204_18) rfl ?_
      refine own_iand X0 hx 22 (hb hby d204_21) rfl ?_
      refine own_sipush X0 hx 25 (128 : Int32) (by decide) (hb hby d204_22) rfl ?_
      refine own_icmp_ne X0 hx 34 28 (hb hby d204_25) (by decide) (by decide) rfl (fun h3 => ?_) (fun h3 => ?_)
      · show own_W p e below _ T0 (mkF m 34 #[.val (.ref a), .val (.int (4 : Int32)), .val (.int (3 : Int32)), .unset, .unset] [])
        refine own_iloadN X0 hx 35 (hb hby d204_34) rfl rfl ?_
        refine own_if_ge X0 hx 40 38 (hb hby d204_35) (by decide) (by decide) rfl (fun h4 => ?_) (fun h4 => ?_)
        · show own_W p e below _ T0 (mkF m 40 #[.val (.ref a), .val (.int (4 : Int32)), .val (.int (3 : Int32)), .unset, .unset] [])
          refine own_aloadN X0 hx 41 (hb hby d204_40) rfl rfl ?_
          refine own_iloadN X0 hx 42 (hb hby d204_41) rfl rfl ?_
          refine own_baload X0 hx hZ e0 43 3 A_a rfl (by decide) (hb hby d204_42) rfl ?_
          refine own_sipush X0 hx 46 (255 : Int32) (by decide) (hb hby d204_43) rfl ?_
          refine own_iand X0 hx 47 (hb hby d204_46) rfl ?_
          refine own_istoreN X0 hx 48 #[.val (.ref a), .val (.int (4 : Int32)), .val (.int (3 : Int32)), .val (.int ((f 3) &&& (255 : Int32))), .unset] rfl (hb hby d204_47) rfl rfl ?_
          refine own_iloadN X0 hx 49 (hb hby d204_48) rfl rfl ?_
          refine own_sipush X0 hx 52 (240 : Int32) (by decide) (hb hby d204_49) rfl ?_
          refine own_icmp_lt X0 hx 59 55 (hb hby d204_52) (by decide) (by decide) rfl (fun h5 => ?_) (fun h5 => ?_)
          · show own_W p e below _ T0 (mkF m 59 #[.val (.ref a), .val (.int (4 : Int32)), .val (.int (3 : Int32)), .val (.int ((f 3) &&& (255 : Int32))), .unset] [])
            refine own_iloadN X0 hx 60 (hb hby d204_59) rfl rfl ?_
            refine own_sipush X0 hx 63 (224 : Int32) (by decide) (hb hby d204_60) rfl ?_
            refine own_icmp_lt X0 hx 70 66 (hb hby d204_63) (by decide) (by decide) rfl (fun h6 => ?_) (fun h6 => ?_)
            · show own_W p e below _ T0 (mkF m 70 #[.val (.ref a), .val (.int (4 : Int32)), .val (.int (3 : Int32)), .val (.int ((f 3) &&& (255 : Int32))), .unset] [])
              refine own_iloadN X0 hx 71 (hb hby d204_70) rfl rfl ?_
              refine own_sipush X0 hx 74 (192 : Int32) (by decide) (hb hby d204_71) rfl ?_
              refine own_icmp_lt X0 hx 81 77 (hb hby d204_74) (by decide) (by decide) rfl (fun h7 => ?_) (fun h7 => ?_)
              · show own_W p e below _ T0 (mkF m 81 #[.val (.ref a), .val (.int (4 : Int32)), .val (.int (3 : Int32)), .val (.int ((f 3) &&& (255 : Int32))), .unset] [])
                refine own_iconst X0 hx 82 (1 : Int32) (by decide) (hb hby d204_81) rfl ?_
                refine own_istore X0 hx 84 #[.val (.ref a), .val (.int (4 : Int32)), .val (.int (3 : Int32)), .val (.int ((f 3) &&& (255 : Int32))), .val (.int (1 : Int32))] rfl (hb hby d204_82) rfl rfl ?_
                refine own_iloadN X0 hx 85 (hb hby d204_84) rfl rfl ?_
                refine own_iload X0 hx 87 (hb hby d204_85) rfl rfl ?_
                refine own_iaddz X0 hx 88 (z := (4 : Int32)) (by decide) (hb hby d204_87) rfl ?_
                refine own_iloadN X0 hx 89 (hb hby d204_88) rfl rfl ?_
                refine own_icmp_le X0 hx 96 92 (hb hby d204_89) (by decide) (by decide) rfl (fun h8 => ?_) (fun h8 => ?_)
                · show own_W p e below _ T0 (mkF m 96 #[.val (.ref a), .val (.int (4 : Int32)), .val (.int (3 : Int32)), .val (.int ((f 3) &&& (255 : Int32))), .val (.int (1 : Int32))] [])
                  refine own_iloadN X0 hx 97 (hb hby d204_96) rfl rfl ?_
                  exact own_retI X0 hx hret hlk (hb hby d204_97) (by decide) (by decide) ⟨by unfold own_we_4; rw [if_neg h3, if_pos h5, if_pos h6, if_pos h7], N0, e0⟩
                · exact absurd h8 (by decide)
              · show own_W p e below _ T0 (mkF m 77 #[.val (.ref a), .val (.int (4 : Int32)), .val (.int (3 : Int32)), .val (.int ((f 3) &&& (255 : Int32))), .unset] [])
                refine own_iconst X0 hx 78 (2 : Int32) (by decide) (hb hby d204_77) rfl ?_
                refine own_goto X0 hx 82 (hb hby d204_78) (by decide) (by decide) ?_
                refine own_istore X0 hx 84 #[.val (.ref a), .val (.int (4 : Int32)), .val (.int (3 : Int32)), .val (.int ((f 3) &&& (255 : Int32))), .val (.int (2 : Int32))] rfl (hb hby d204_82) rfl rfl ?_
                refine own_iloadN X0 hx 85 (hb hby d204_84) rfl rfl ?_
                refine own_iload X0 hx 87 (hb hby d204_85) rfl rfl ?_
                refine own_iaddz X0 hx 88 (z := (5 : Int32)) (by decide) (hb hby d204_87) rfl ?_
                refine own_iloadN X0 hx 89 (hb hby d204_88) rfl rfl ?_
                refine own_icmp_le X0 hx 96 92 (hb hby d204_89) (by decide) (by decide) rfl (fun h9 => ?_) (fun h9 => ?_)
                · exact absurd h9 (by decide)
                · show own_W p e below _ T0 (mkF m 92 #[.val (.ref a), .val (.int (4 : Int32)), .val (.int (3 : Int32)), .val (.int ((f 3) &&& (255 : Int32))), .val (.int (2 : Int32))] [])
                  refine own_iloadN X0 hx 93 (hb hby d204_92) rfl rfl ?_
                  refine own_goto X0 hx 97 (hb hby d204_93) (by decide) (by decide) ?_
                  exact own_retI X0 hx hret hlk (hb hby d204_97) (by decide) (by decide) ⟨by unfold own_we_4; rw [if_neg h3, if_pos h5, if_pos h6, if_neg h7], N0, e0⟩
            · show own_W p e below _ T0 (mkF m 66 #[.val (.ref a), .val (.int (4 : Int32)), .val (.int (3 : Int32)), .val (.int ((f 3) &&& (255 : Int32))), .unset] [])
              refine own_iconst X0 hx 67 (3 : Int32) (by decide) (hb hby d204_66) rfl ?_
              refine own_goto X0 hx 82 (hb hby d204_67) (by decide) (by decide) ?_
              refine own_istore X0 hx 84 #[.val (.ref a), .val (.int (4 : Int32)), .val (.int (3 : Int32)), .val (.int ((f 3) &&& (255 : Int32))), .val (.int (3 : Int32))] rfl (hb hby d204_82) rfl rfl ?_
              refine own_iloadN X0 hx 85 (hb hby d204_84) rfl rfl ?_
              refine own_iload X0 hx 87 (hb hby d204_85) rfl rfl ?_
              refine own_iaddz X0 hx 88 (z := (6 : Int32)) (by decide) (hb hby d204_87) rfl ?_
              refine own_iloadN X0 hx 89 (hb hby d204_88) rfl rfl ?_
              refine own_icmp_le X0 hx 96 92 (hb hby d204_89) (by decide) (by decide) rfl (fun h10 => ?_) (fun h10 => ?_)
              · exact absurd h10 (by decide)
              · show own_W p e below _ T0 (mkF m 92 #[.val (.ref a), .val (.int (4 : Int32)), .val (.int (3 : Int32)), .val (.int ((f 3) &&& (255 : Int32))), .val (.int (3 : Int32))] [])
                refine own_iloadN X0 hx 93 (hb hby d204_92) rfl rfl ?_
                refine own_goto X0 hx 97 (hb hby d204_93) (by decide) (by decide) ?_
                exact own_retI X0 hx hret hlk (hb hby d204_97) (by decide) (by decide) ⟨by unfold own_we_4; rw [if_neg h3, if_pos h5, if_neg h6], N0, e0⟩
          · show own_W p e below _ T0 (mkF m 55 #[.val (.ref a), .val (.int (4 : Int32)), .val (.int (3 : Int32)), .val (.int ((f 3) &&& (255 : Int32))), .unset] [])
            refine own_iconst X0 hx 56 (4 : Int32) (by decide) (hb hby d204_55) rfl ?_
            refine own_goto X0 hx 82 (hb hby d204_56) (by decide) (by decide) ?_
            refine own_istore X0 hx 84 #[.val (.ref a), .val (.int (4 : Int32)), .val (.int (3 : Int32)), .val (.int ((f 3) &&& (255 : Int32))), .val (.int (4 : Int32))] rfl (hb hby d204_82) rfl rfl ?_
            refine own_iloadN X0 hx 85 (hb hby d204_84) rfl rfl ?_
            refine own_iload X0 hx 87 (hb hby d204_85) rfl rfl ?_
            refine own_iaddz X0 hx 88 (z := (7 : Int32)) (by decide) (hb hby d204_87) rfl ?_
            refine own_iloadN X0 hx 89 (hb hby d204_88) rfl rfl ?_
            refine own_icmp_le X0 hx 96 92 (hb hby d204_89) (by decide) (by decide) rfl (fun h11 => ?_) (fun h11 => ?_)
            · exact absurd h11 (by decide)
            · show own_W p e below _ T0 (mkF m 92 #[.val (.ref a), .val (.int (4 : Int32)), .val (.int (3 : Int32)), .val (.int ((f 3) &&& (255 : Int32))), .val (.int (4 : Int32))] [])
              refine own_iloadN X0 hx 93 (hb hby d204_92) rfl rfl ?_
              refine own_goto X0 hx 97 (hb hby d204_93) (by decide) (by decide) ?_
              exact own_retI X0 hx hret hlk (hb hby d204_97) (by decide) (by decide) ⟨by unfold own_we_4; rw [if_neg h3, if_neg h5], N0, e0⟩
        · exact absurd h4 (by decide)
      · show own_W p e below _ T0 (mkF m 28 #[.val (.ref a), .val (.int (4 : Int32)), .val (.int (3 : Int32)), .unset, .unset] [])
        refine own_iinc X0 hx (2 : Int32) 31 #[.val (.ref a), .val (.int (4 : Int32)), .val (.int (2 : Int32)), .unset, .unset] (by decide) (hb hby d204_28) rfl rfl rfl ?_
        refine own_goto X0 hx 4 (hb hby d204_31) (by decide) (by decide) ?_
        refine own_iloadN X0 hx 5 (hb hby d204_4) rfl rfl ?_
        refine own_if_le X0 hx 34 8 (hb hby d204_5) (by decide) (by decide) rfl (fun h12 => ?_) (fun h12 => ?_)
        · exact absurd h12 (by decide)
        · show own_W p e below _ T0 (mkF m 8 #[.val (.ref a), .val (.int (4 : Int32)), .val (.int (2 : Int32)), .unset, .unset] [])
          refine own_iloadN X0 hx 9 (hb hby d204_8) rfl rfl ?_
          refine own_iloadN X0 hx 10 (hb hby d204_9) rfl rfl ?_
          refine own_iconst X0 hx 11 (4 : Int32) (by decide) (hb hby d204_10) rfl ?_
          refine own_isubz X0 hx 12 (z := (0 : Int32)) (by decide) (hb hby d204_11) rfl ?_
          refine own_icmp_le X0 hx 34 15 (hb hby d204_12) (by decide) (by decide) rfl (fun h13 => ?_) (fun h13 => ?_)
          · exact absurd h13 (by decide)
          · show own_W p e below _ T0 (mkF m 15 #[.val (.ref a), .val (.int (4 : Int32)), .val (.int (2 : Int32)), .unset, .unset] [])
            refine own_aloadN X0 hx 16 (hb hby d204_15) rfl rfl ?_
            refine own_iloadN X0 hx 17 (hb hby d204_16) rfl rfl ?_
            refine own_baload X0 hx hZ e0 18 2 A_a rfl (by decide) (hb hby d204_17) rfl ?_
            refine own_sipush X0 hx 21 (192 : Int32) (by decide) (hb hby d204_18) rfl ?_
            refine own_iand X0 hx 22 (hb hby d204_21) rfl ?_
            refine own_sipush X0 hx 25 (128 : Int32) (by decide) (hb hby d204_22) rfl ?_
            refine own_icmp_ne X0 hx 34 28 (hb hby d204_25) (by decide) (by decide) rfl (fun h14 => ?_) (fun h14 => ?_)
            · show own_W p e below _ T0 (mkF m 34 #[.val (.ref a), .val (.int (4 : Int32)), .val (.int (2 : Int32)), .unset, .unset] [])
              refine own_iloadN X0 hx 35 (hb hby d204_34) rfl rfl ?_
              refine own_if_ge X0 hx 40 38 (hb hby d204_35) (by decide) (by decide) rfl (fun h15 => ?_) (fun h15 => ?_)
              · show own_W p e below _ T0 (mkF m 40 #[.val (.ref a), .val (.int (4 : Int32)), .val (.int (2 : Int32)), .unset, .unset] [])
                refine own_aloadN X0 hx 41 (hb hby d204_40) rfl rfl ?_
                refine own_iloadN X0 hx 42 (hb hby d204_41) rfl rfl ?_
                refine own_baload X0 hx hZ e0 43 2 A_a rfl (by decide) (hb hby d204_42) rfl ?_
                refine own_sipush X0 hx 46 (255 : Int32) (by decide) (hb hby d204_43) rfl ?_
                refine own_iand X0 hx 47 (hb hby d204_46) rfl ?_
                refine own_istoreN X0 hx 48 #[.val (.ref a), .val (.int (4 : Int32)), .val (.int (2 : Int32)), .val (.int ((f 2) &&& (255 : Int32))), .unset] rfl (hb hby d204_47) rfl rfl ?_
                refine own_iloadN X0 hx 49 (hb hby d204_48) rfl rfl ?_
                refine own_sipush X0 hx 52 (240 : Int32) (by decide) (hb hby d204_49) rfl ?_
                refine own_icmp_lt X0 hx 59 55 (hb hby d204_52) (by decide) (by decide) rfl (fun h16 => ?_) (fun h16 => ?_)
                · show own_W p e below _ T0 (mkF m 59 #[.val (.ref a), .val (.int (4 : Int32)), .val (.int (2 : Int32)), .val (.int ((f 2) &&& (255 : Int32))), .unset] [])
                  refine own_iloadN X0 hx 60 (hb hby d204_59) rfl rfl ?_
                  refine own_sipush X0 hx 63 (224 : Int32) (by decide) (hb hby d204_60) rfl ?_
                  refine own_icmp_lt X0 hx 70 66 (hb hby d204_63) (by decide) (by decide) rfl (fun h17 => ?_) (fun h17 => ?_)
                  · show own_W p e below _ T0 (mkF m 70 #[.val (.ref a), .val (.int (4 : Int32)), .val (.int (2 : Int32)), .val (.int ((f 2) &&& (255 : Int32))), .unset] [])
                    refine own_iloadN X0 hx 71 (hb hby d204_70) rfl rfl ?_
                    refine own_sipush X0 hx 74 (192 : Int32) (by decide) (hb hby d204_71) rfl ?_
                    refine own_icmp_lt X0 hx 81 77 (hb hby d204_74) (by decide) (by decide) rfl (fun h18 => ?_) (fun h18 => ?_)
                    · show own_W p e below _ T0 (mkF m 81 #[.val (.ref a), .val (.int (4 : Int32)), .val (.int (2 : Int32)), .val (.int ((f 2) &&& (255 : Int32))), .unset] [])
                      refine own_iconst X0 hx 82 (1 : Int32) (by decide) (hb hby d204_81) rfl ?_
                      refine own_istore X0 hx 84 #[.val (.ref a), .val (.int (4 : Int32)), .val (.int (2 : Int32)), .val (.int ((f 2) &&& (255 : Int32))), .val (.int (1 : Int32))] rfl (hb hby d204_82) rfl rfl ?_
                      refine own_iloadN X0 hx 85 (hb hby d204_84) rfl rfl ?_
                      refine own_iload X0 hx 87 (hb hby d204_85) rfl rfl ?_
                      refine own_iaddz X0 hx 88 (z := (3 : Int32)) (by decide) (hb hby d204_87) rfl ?_
                      refine own_iloadN X0 hx 89 (hb hby d204_88) rfl rfl ?_
                      refine own_icmp_le X0 hx 96 92 (hb hby d204_89) (by decide) (by decide) rfl (fun h19 => ?_) (fun h19 => ?_)
                      · show own_W p e below _ T0 (mkF m 96 #[.val (.ref a), .val (.int (4 : Int32)), .val (.int (2 : Int32)), .val (.int ((f 2) &&& (255 : Int32))), .val (.int (1 : Int32))] [])
                        refine own_iloadN X0 hx 97 (hb hby d204_96) rfl rfl ?_
                        exact own_retI X0 hx hret hlk (hb hby d204_97) (by decide) (by decide) ⟨by unfold own_we_4; rw [if_pos h3, if_neg h14, if_pos h16, if_pos h17, if_pos h18], N0, e0⟩
                      · exact absurd h19 (by decide)
                    · show own_W p e below _ T0 (mkF m 77 #[.val (.ref a), .val (.int (4 : Int32)), .val (.int (2 : Int32)), .val (.int ((f 2) &&& (255 : Int32))), .unset] [])
                      refine own_iconst X0 hx 78 (2 : Int32) (by decide) (hb hby d204_77) rfl ?_
                      refine own_goto X0 hx 82 (hb hby d204_78) (by decide) (by decide) ?_
                      refine own_istore X0 hx 84 #[.val (.ref a), .val (.int (4 : Int32)), .val (.int (2 : Int32)), .val (.int ((f 2) &&& (255 : Int32))), .val (.int (2 : Int32))] rfl (hb hby d204_82) rfl rfl ?_
                      refine own_iloadN X0 hx 85 (hb hby d204_84) rfl rfl ?_
                      refine own_iload X0 hx 87 (hb hby d204_85) rfl rfl ?_
                      refine own_iaddz X0 hx 88 (z := (4 : Int32)) (by decide) (hb hby d204_87) rfl ?_
                      refine own_iloadN X0 hx 89 (hb hby d204_88) rfl rfl ?_
                      refine own_icmp_le X0 hx 96 92 (hb hby d204_89) (by decide) (by decide) rfl (fun h20 => ?_) (fun h20 => ?_)
                      · show own_W p e below _ T0 (mkF m 96 #[.val (.ref a), .val (.int (4 : Int32)), .val (.int (2 : Int32)), .val (.int ((f 2) &&& (255 : Int32))), .val (.int (2 : Int32))] [])
                        refine own_iloadN X0 hx 97 (hb hby d204_96) rfl rfl ?_
                        exact own_retI X0 hx hret hlk (hb hby d204_97) (by decide) (by decide) ⟨by unfold own_we_4; rw [if_pos h3, if_neg h14, if_pos h16, if_pos h17, if_neg h18], N0, e0⟩
                      · exact absurd h20 (by decide)
                  · show own_W p e below _ T0 (mkF m 66 #[.val (.ref a), .val (.int (4 : Int32)), .val (.int (2 : Int32)), .val (.int ((f 2) &&& (255 : Int32))), .unset] [])
                    refine own_iconst X0 hx 67 (3 : Int32) (by decide) (hb hby d204_66) rfl ?_
                    refine own_goto X0 hx 82 (hb hby d204_67) (by decide) (by decide) ?_
                    refine own_istore X0 hx 84 #[.val (.ref a), .val (.int (4 : Int32)), .val (.int (2 : Int32)), .val (.int ((f 2) &&& (255 : Int32))), .val (.int (3 : Int32))] rfl (hb hby d204_82) rfl rfl ?_
                    refine own_iloadN X0 hx 85 (hb hby d204_84) rfl rfl ?_
                    refine own_iload X0 hx 87 (hb hby d204_85) rfl rfl ?_
                    refine own_iaddz X0 hx 88 (z := (5 : Int32)) (by decide) (hb hby d204_87) rfl ?_
                    refine own_iloadN X0 hx 89 (hb hby d204_88) rfl rfl ?_
                    refine own_icmp_le X0 hx 96 92 (hb hby d204_89) (by decide) (by decide) rfl (fun h21 => ?_) (fun h21 => ?_)
                    · exact absurd h21 (by decide)
                    · show own_W p e below _ T0 (mkF m 92 #[.val (.ref a), .val (.int (4 : Int32)), .val (.int (2 : Int32)), .val (.int ((f 2) &&& (255 : Int32))), .val (.int (3 : Int32))] [])
                      refine own_iloadN X0 hx 93 (hb hby d204_92) rfl rfl ?_
                      refine own_goto X0 hx 97 (hb hby d204_93) (by decide) (by decide) ?_
                      exact own_retI X0 hx hret hlk (hb hby d204_97) (by decide) (by decide) ⟨by unfold own_we_4; rw [if_pos h3, if_neg h14, if_pos h16, if_neg h17], N0, e0⟩
                · show own_W p e below _ T0 (mkF m 55 #[.val (.ref a), .val (.int (4 : Int32)), .val (.int (2 : Int32)), .val (.int ((f 2) &&& (255 : Int32))), .unset] [])
                  refine own_iconst X0 hx 56 (4 : Int32) (by decide) (hb hby d204_55) rfl ?_
                  refine own_goto X0 hx 82 (hb hby d204_56) (by decide) (by decide) ?_
                  refine own_istore X0 hx 84 #[.val (.ref a), .val (.int (4 : Int32)), .val (.int (2 : Int32)), .val (.int ((f 2) &&& (255 : Int32))), .val (.int (4 : Int32))] rfl (hb hby d204_82) rfl rfl ?_
                  refine own_iloadN X0 hx 85 (hb hby d204_84) rfl rfl ?_
                  refine own_iload X0 hx 87 (hb hby d204_85) rfl rfl ?_
                  refine own_iaddz X0 hx 88 (z := (6 : Int32)) (by decide) (hb hby d204_87) rfl ?_
                  refine own_iloadN X0 hx 89 (hb hby d204_88) rfl rfl ?_
                  refine own_icmp_le X0 hx 96 92 (hb hby d204_89) (by decide) (by decide) rfl (fun h22 => ?_) (fun h22 => ?_)
                  · exact absurd h22 (by decide)
                  · show own_W p e below _ T0 (mkF m 92 #[.val (.ref a), .val (.int (4 : Int32)), .val (.int (2 : Int32)), .val (.int ((f 2) &&& (255 : Int32))), .val (.int (4 : Int32))] [])
                    refine own_iloadN X0 hx 93 (hb hby d204_92) rfl rfl ?_
                    refine own_goto X0 hx 97 (hb hby d204_93) (by decide) (by decide) ?_
                    exact own_retI X0 hx hret hlk (hb hby d204_97) (by decide) (by decide) ⟨by unfold own_we_4; rw [if_pos h3, if_neg h14, if_neg h16], N0, e0⟩
              · exact absurd h15 (by decide)
            · show own_W p e below _ T0 (mkF m 28 #[.val (.ref a), .val (.int (4 : Int32)), .val (.int (2 : Int32)), .unset, .unset] [])
              refine own_iinc X0 hx (1 : Int32) 31 #[.val (.ref a), .val (.int (4 : Int32)), .val (.int (1 : Int32)), .unset, .unset] (by decide) (hb hby d204_28) rfl rfl rfl ?_
              refine own_goto X0 hx 4 (hb hby d204_31) (by decide) (by decide) ?_
              refine own_iloadN X0 hx 5 (hb hby d204_4) rfl rfl ?_
              refine own_if_le X0 hx 34 8 (hb hby d204_5) (by decide) (by decide) rfl (fun h23 => ?_) (fun h23 => ?_)
              · exact absurd h23 (by decide)
              · show own_W p e below _ T0 (mkF m 8 #[.val (.ref a), .val (.int (4 : Int32)), .val (.int (1 : Int32)), .unset, .unset] [])
                refine own_iloadN X0 hx 9 (hb hby d204_8) rfl rfl ?_
                refine own_iloadN X0 hx 10 (hb hby d204_9) rfl rfl ?_
                refine own_iconst X0 hx 11 (4 : Int32) (by decide) (hb hby d204_10) rfl ?_
                refine own_isubz X0 hx 12 (z := (0 : Int32)) (by decide) (hb hby d204_11) rfl ?_
                refine own_icmp_le X0 hx 34 15 (hb hby d204_12) (by decide) (by decide) rfl (fun h24 => ?_) (fun h24 => ?_)
                · exact absurd h24 (by decide)
                · show own_W p e below _ T0 (mkF m 15 #[.val (.ref a), .val (.int (4 : Int32)), .val (.int (1 : Int32)), .unset, .unset] [])
                  refine own_aloadN X0 hx 16 (hb hby d204_15) rfl rfl ?_
                  refine own_iloadN X0 hx 17 (hb hby d204_16) rfl rfl ?_
                  refine own_baload X0 hx hZ e0 18 1 A_a rfl (by decide) (hb hby d204_17) rfl ?_
                  refine own_sipush X0 hx 21 (192 : Int32) (by decide) (hb hby d204_18) rfl ?_
                  refine own_iand X0 hx 22 (hb hby d204_21) rfl ?_
                  refine own_sipush X0 hx 25 (128 : Int32) (by decide) (hb hby d204_22) rfl ?_
                  refine own_icmp_ne X0 hx 34 28 (hb hby d204_25) (by decide) (by decide) rfl (fun h25 => ?_) (fun h25 => ?_)
                  · show own_W p e below _ T0 (mkF m 34 #[.val (.ref a), .val (.int (4 : Int32)), .val (.int (1 : Int32)), .unset, .unset] [])
                    refine own_iloadN X0 hx 35 (hb hby d204_34) rfl rfl ?_
                    refine own_if_ge X0 hx 40 38 (hb hby d204_35) (by decide) (by decide) rfl (fun h26 => ?_) (fun h26 => ?_)
                    · show own_W p e below _ T0 (mkF m 40 #[.val (.ref a), .val (.int (4 : Int32)), .val (.int (1 : Int32)), .unset, .unset] [])
                      refine own_aloadN X0 hx 41 (hb hby d204_40) rfl rfl ?_
                      refine own_iloadN X0 hx 42 (hb hby d204_41) rfl rfl ?_
                      refine own_baload X0 hx hZ e0 43 1 A_a rfl (by decide) (hb hby d204_42) rfl ?_
                      refine own_sipush X0 hx 46 (255 : Int32) (by decide) (hb hby d204_43) rfl ?_
                      refine own_iand X0 hx 47 (hb hby d204_46) rfl ?_
                      refine own_istoreN X0 hx 48 #[.val (.ref a), .val (.int (4 : Int32)), .val (.int (1 : Int32)), .val (.int ((f 1) &&& (255 : Int32))), .unset] rfl (hb hby d204_47) rfl rfl ?_
                      refine own_iloadN X0 hx 49 (hb hby d204_48) rfl rfl ?_
                      refine own_sipush X0 hx 52 (240 : Int32) (by decide) (hb hby d204_49) rfl ?_
                      refine own_icmp_lt X0 hx 59 55 (hb hby d204_52) (by decide) (by decide) rfl (fun h27 => ?_) (fun h27 => ?_)
                      · show own_W p e below _ T0 (mkF m 59 #[.val (.ref a), .val (.int (4 : Int32)), .val (.int (1 : Int32)), .val (.int ((f 1) &&& (255 : Int32))), .unset] [])
                        refine own_iloadN X0 hx 60 (hb hby d204_59) rfl rfl ?_
                        refine own_sipush X0 hx 63 (224 : Int32) (by decide) (hb hby d204_60) rfl ?_
                        refine own_icmp_lt X0 hx 70 66 (hb hby d204_63) (by decide) (by decide) rfl (fun h28 => ?_) (fun h28 => ?_)
                        · show own_W p e below _ T0 (mkF m 70 #[.val (.ref a), .val (.int (4 : Int32)), .val (.int (1 : Int32)), .val (.int ((f 1) &&& (255 : Int32))), .unset] [])
                          refine own_iloadN X0 hx 71 (hb hby d204_70) rfl rfl ?_
                          refine own_sipush X0 hx 74 (192 : Int32) (by decide) (hb hby d204_71) rfl ?_
                          refine own_icmp_lt X0 hx 81 77 (hb hby d204_74) (by decide) (by decide) rfl (fun h29 => ?_) (fun h29 => ?_)
                          · show own_W p e below _ T0 (mkF m 81 #[.val (.ref a), .val (.int (4 : Int32)), .val (.int (1 : Int32)), .val (.int ((f 1) &&& (255 : Int32))), .unset] [])
                            refine own_iconst X0 hx 82 (1 : Int32) (by decide) (hb hby d204_81) rfl ?_
                            refine own_istore X0 hx 84 #[.val (.ref a), .val (.int (4 : Int32)), .val (.int (1 : Int32)), .val (.int ((f 1) &&& (255 : Int32))), .val (.int (1 : Int32))] rfl (hb hby d204_82) rfl rfl ?_
                            refine own_iloadN X0 hx 85 (hb hby d204_84) rfl rfl ?_
                            refine own_iload X0 hx 87 (hb hby d204_85) rfl rfl ?_
                            refine own_iaddz X0 hx 88 (z := (2 : Int32)) (by decide) (hb hby d204_87) rfl ?_
                            refine own_iloadN X0 hx 89 (hb hby d204_88) rfl rfl ?_
                            refine own_icmp_le X0 hx 96 92 (hb hby d204_89) (by decide) (by decide) rfl (fun h30 => ?_) (fun h30 => ?_)
                            · show own_W p e below _ T0 (mkF m 96 #[.val (.ref a), .val (.int (4 : Int32)), .val (.int (1 : Int32)), .val (.int ((f 1) &&& (255 : Int32))), .val (.int (1 : Int32))] [])
                              refine own_iloadN X0 hx 97 (hb hby d204_96) rfl rfl ?_
                              exact own_retI X0 hx hret hlk (hb hby d204_97) (by decide) (by decide) ⟨by unfold own_we_4; rw [if_pos h3, if_pos h14, if_neg h25, if_pos h27, if_pos h28, if_pos h29], N0, e0⟩
                            · exact absurd h30 (by decide)
                          · show own_W p e below _ T0 (mkF m 77 #[.val (.ref a), .val (.int (4 : Int32)), .val (.int (1 : Int32)), .val (.int ((f 1) &&& (255 : Int32))), .unset] [])
                            refine own_iconst X0 hx 78 (2 : Int32) (by decide) (hb hby d204_77) rfl ?_
                            refine own_goto X0 hx 82 (hb hby d204_78) (by decide) (by decide) ?_
                            refine own_istore X0 hx 84 #[.val (.ref a), .val (.int (4 : Int32)), .val (.int (1 : Int32)), .val (.int ((f 1) &&& (255 : Int32))), .val (.int (2 : Int32))] rfl (hb hby d204_82) rfl rfl ?_
                            refine own_iloadN X0 hx 85 (hb hby d204_84) rfl rfl ?_
                            refine own_iload X0 hx 87 (hb hby d204_85) rfl rfl ?_
                            refine own_iaddz X0 hx 88 (z := (3 : Int32)) (by decide) (hb hby d204_87) rfl ?_
                            refine own_iloadN X0 hx 89 (hb hby d204_88) rfl rfl ?_
                            refine own_icmp_le X0 hx 96 92 (hb hby d204_89) (by decide) (by decide) rfl (fun h31 => ?_) (fun h31 => ?_)
                            · show own_W p e below _ T0 (mkF m 96 #[.val (.ref a), .val (.int (4 : Int32)), .val (.int (1 : Int32)), .val (.int ((f 1) &&& (255 : Int32))), .val (.int (2 : Int32))] [])
                              refine own_iloadN X0 hx 97 (hb hby d204_96) rfl rfl ?_
                              exact own_retI X0 hx hret hlk (hb hby d204_97) (by decide) (by decide) ⟨by unfold own_we_4; rw [if_pos h3, if_pos h14, if_neg h25, if_pos h27, if_pos h28, if_neg h29], N0, e0⟩
                            · exact absurd h31 (by decide)
                        · show own_W p e below _ T0 (mkF m 66 #[.val (.ref a), .val (.int (4 : Int32)), .val (.int (1 : Int32)), .val (.int ((f 1) &&& (255 : Int32))), .unset] [])
                          refine own_iconst X0 hx 67 (3 : Int32) (by decide) (hb hby d204_66) rfl ?_
                          refine own_goto X0 hx 82 (hb hby d204_67) (by decide) (by decide) ?_
                          refine own_istore X0 hx 84 #[.val (.ref a), .val (.int (4 : Int32)), .val (.int (1 : Int32)), .val (.int ((f 1) &&& (255 : Int32))), .val (.int (3 : Int32))] rfl (hb hby d204_82) rfl rfl ?_
                          refine own_iloadN X0 hx 85 (hb hby d204_84) rfl rfl ?_
                          refine own_iload X0 hx 87 (hb hby d204_85) rfl rfl ?_
                          refine own_iaddz X0 hx 88 (z := (4 : Int32)) (by decide) (hb hby d204_87) rfl ?_
                          refine own_iloadN X0 hx 89 (hb hby d204_88) rfl rfl ?_
                          refine own_icmp_le X0 hx 96 92 (hb hby d204_89) (by decide) (by decide) rfl (fun h32 => ?_) (fun h32 => ?_)
                          · show own_W p e below _ T0 (mkF m 96 #[.val (.ref a), .val (.int (4 : Int32)), .val (.int (1 : Int32)), .val (.int ((f 1) &&& (255 : Int32))), .val (.int (3 : Int32))] [])
                            refine own_iloadN X0 hx 97 (hb hby d204_96) rfl rfl ?_
                            exact own_retI X0 hx hret hlk (hb hby d204_97) (by decide) (by decide) ⟨by unfold own_we_4; rw [if_pos h3, if_pos h14, if_neg h25, if_pos h27, if_neg h28], N0, e0⟩
                          · exact absurd h32 (by decide)
                      · show own_W p e below _ T0 (mkF m 55 #[.val (.ref a), .val (.int (4 : Int32)), .val (.int (1 : Int32)), .val (.int ((f 1) &&& (255 : Int32))), .unset] [])
                        refine own_iconst X0 hx 56 (4 : Int32) (by decide) (hb hby d204_55) rfl ?_
                        refine own_goto X0 hx 82 (hb hby d204_56) (by decide) (by decide) ?_
                        refine own_istore X0 hx 84 #[.val (.ref a), .val (.int (4 : Int32)), .val (.int (1 : Int32)), .val (.int ((f 1) &&& (255 : Int32))), .val (.int (4 : Int32))] rfl (hb hby d204_82) rfl rfl ?_
                        refine own_iloadN X0 hx 85 (hb hby d204_84) rfl rfl ?_
                        refine own_iload X0 hx 87 (hb hby d204_85) rfl rfl ?_
                        refine own_iaddz X0 hx 88 (z := (5 : Int32)) (by decide) (hb hby d204_87) rfl ?_
                        refine own_iloadN X0 hx 89 (hb hby d204_88) rfl rfl ?_
                        refine own_icmp_le X0 hx 96 92 (hb hby d204_89) (by decide) (by decide) rfl (fun h33 => ?_) (fun h33 => ?_)
                        · exact absurd h33 (by decide)
                        · show own_W p e below _ T0 (mkF m 92 #[.val (.ref a), .val (.int (4 : Int32)), .val (.int (1 : Int32)), .val (.int ((f 1) &&& (255 : Int32))), .val (.int (4 : Int32))] [])
                          refine own_iloadN X0 hx 93 (hb hby d204_92) rfl rfl ?_
                          refine own_goto X0 hx 97 (hb hby d204_93) (by decide) (by decide) ?_
                          exact own_retI X0 hx hret hlk (hb hby d204_97) (by decide) (by decide) ⟨by unfold own_we_4; rw [if_pos h3, if_pos h14, if_neg h25, if_neg h27], N0, e0⟩
                    · exact absurd h26 (by decide)
                  · show own_W p e below _ T0 (mkF m 28 #[.val (.ref a), .val (.int (4 : Int32)), .val (.int (1 : Int32)), .unset, .unset] [])
                    refine own_iinc X0 hx (0 : Int32) 31 #[.val (.ref a), .val (.int (4 : Int32)), .val (.int (0 : Int32)), .unset, .unset] (by decide) (hb hby d204_28) rfl rfl rfl ?_
                    refine own_goto X0 hx 4 (hb hby d204_31) (by decide) (by decide) ?_
                    refine own_iloadN X0 hx 5 (hb hby d204_4) rfl rfl ?_
                    refine own_if_le X0 hx 34 8 (hb hby d204_5) (by decide) (by decide) rfl (fun h34 => ?_) (fun h34 => ?_)
                    · show own_W p e below _ T0 (mkF m 34 #[.val (.ref a), .val (.int (4 : Int32)), .val (.int (0 : Int32)), .unset, .unset] [])
                      refine own_iloadN X0 hx 35 (hb hby d204_34) rfl rfl ?_
                      refine own_if_ge X0 hx 40 38 (hb hby d204_35) (by decide) (by decide) rfl (fun h35 => ?_) (fun h35 => ?_)
                      · show own_W p e below _ T0 (mkF m 40 #[.val (.ref a), .val (.int (4 : Int32)), .val (.int (0 : Int32)), .unset, .unset] [])
                        refine own_aloadN X0 hx 41 (hb hby d204_40) rfl rfl ?_
                        refine own_iloadN X0 hx 42 (hb hby d204_41) rfl rfl ?_
                        refine own_baload X0 hx hZ e0 43 0 A_a rfl (by decide) (hb hby d204_42) rfl ?_
                        refine own_sipush X0 hx 46 (255 : Int32) (by decide) (hb hby d204_43) rfl ?_
                        refine own_iand X0 hx 47 (hb hby d204_46) rfl ?_
                        refine own_istoreN X0 hx 48 #[.val (.ref a), .val (.int (4 : Int32)), .val (.int (0 : Int32)), .val (.int ((f 0) &&& (255 : Int32))), .unset] rfl (hb hby d204_47) rfl rfl ?_
                        refine own_iloadN X0 hx 49 (hb hby d204_48) rfl rfl ?_
                        refine own_sipush X0 hx 52 (240 : Int32) (by decide) (hb hby d204_49) rfl ?_
                        refine own_icmp_lt X0 hx 59 55 (hb hby d204_52) (by decide) (by decide) rfl (fun h36 => ?_) (fun h36 => ?_)
                        · show own_W p e below _ T0 (mkF m 59 #[.val (.ref a), .val (.int (4 : Int32)), .val (.int (0 : Int32)), .val (.int ((f 0) &&& (255 : Int32))), .unset] [])
                          refine own_iloadN X0 hx 60 (hb hby d204_59) rfl rfl ?_
                          refine own_sipush X0 hx 63 (224 : Int32) (by decide) (hb hby d204_60) rfl ?_
                          refine own_icmp_lt X0 hx 70 66 (hb hby d204_63) (by decide) (by decide) rfl (fun h37 => ?_) (fun h37 => ?_)
                          · show own_W p e below _ T0 (mkF m 70 #[.val (.ref a), .val (.int (4 : Int32)), .val (.int (0 : Int32)), .val (.int ((f 0) &&& (255 : Int32))), .unset] [])
                            refine own_iloadN X0 hx 71 (hb hby d204_70) rfl rfl ?_
                            refine own_sipush X0 hx 74 (192 : Int32) (by decide) (hb hby d204_71) rfl ?_
                            refine own_icmp_lt X0 hx 81 77 (hb hby d204_74) (by decide) (by decide) rfl (fun h38 => ?_) (fun h38 => ?_)
                            · show own_W p e below _ T0 (mkF m 81 #[.val (.ref a), .val (.int (4 : Int32)), .val (.int (0 : Int32)), .val (.int ((f 0) &&& (255 : Int32))), .unset] [])
                              refine own_iconst X0 hx 82 (1 : Int32) (by decide) (hb hby d204_81) rfl ?_
                              refine own_istore X0 hx 84 #[.val (.ref a), .val (.int (4 : Int32)), .val (.int (0 : Int32)), .val (.int ((f 0) &&& (255 : Int32))), .val (.int (1 : Int32))] rfl (hb hby d204_82) rfl rfl ?_
                              refine own_iloadN X0 hx 85 (hb hby d204_84) rfl rfl ?_
                              refine own_iload X0 hx 87 (hb hby d204_85) rfl rfl ?_
                              refine own_iaddz X0 hx 88 (z := (1 : Int32)) (by decide) (hb hby d204_87) rfl ?_
                              refine own_iloadN X0 hx 89 (hb hby d204_88) rfl rfl ?_
                              refine own_icmp_le X0 hx 96 92 (hb hby d204_89) (by decide) (by decide) rfl (fun h39 => ?_) (fun h39 => ?_)
                              · show own_W p e below _ T0 (mkF m 96 #[.val (.ref a), .val (.int (4 : Int32)), .val (.int (0 : Int32)), .val (.int ((f 0) &&& (255 : Int32))), .val (.int (1 : Int32))] [])
                                refine own_iloadN X0 hx 97 (hb hby d204_96) rfl rfl ?_
                                exact own_retI X0 hx hret hlk (hb hby d204_97) (by decide) (by decide) ⟨by unfold own_we_4; rw [if_pos h3, if_pos h14, if_pos h25, if_pos h36, if_pos h37, if_pos h38], N0, e0⟩
                              · exact absurd h39 (by decide)
                            · show own_W p e below _ T0 (mkF m 77 #[.val (.ref a), .val (.int (4 : Int32)), .val (.int (0 : Int32)), .val (.int ((f 0) &&& (255 : Int32))), .unset] [])
                              refine own_iconst X0 hx 78 (2 : Int32) (by decide) (hb hby d204_77) rfl ?_
                              refine own_goto X0 hx 82 (hb hby d204_78) (by decide) (by decide) ?_
                              refine own_istore X0 hx 84 #[.val (.ref a), .val (.int (4 : Int32)), .val (.int (0 : Int32)), .val (.int ((f 0) &&& (255 : Int32))), .val (.int (2 : Int32))] rfl (hb hby d204_82) rfl rfl ?_
                              refine own_iloadN X0 hx 85 (hb hby d204_84) rfl rfl ?_
                              refine own_iload X0 hx 87 (hb hby d204_85) rfl rfl ?_
                              refine own_iaddz X0 hx 88 (z := (2 : Int32)) (by decide) (hb hby d204_87) rfl ?_
                              refine own_iloadN X0 hx 89 (hb hby d204_88) rfl rfl ?_
                              refine own_icmp_le X0 hx 96 92 (hb hby d204_89) (by decide) (by decide) rfl (fun h40 => ?_) (fun h40 => ?_)
                              · show own_W p e below _ T0 (mkF m 96 #[.val (.ref a), .val (.int (4 : Int32)), .val (.int (0 : Int32)), .val (.int ((f 0) &&& (255 : Int32))), .val (.int (2 : Int32))] [])
                                refine own_iloadN X0 hx 97 (hb hby d204_96) rfl rfl ?_
                                exact own_retI X0 hx hret hlk (hb hby d204_97) (by decide) (by decide) ⟨by unfold own_we_4; rw [if_pos h3, if_pos h14, if_pos h25, if_pos h36, if_pos h37, if_neg h38], N0, e0⟩
                              · exact absurd h40 (by decide)
                          · show own_W p e below _ T0 (mkF m 66 #[.val (.ref a), .val (.int (4 : Int32)), .val (.int (0 : Int32)), .val (.int ((f 0) &&& (255 : Int32))), .unset] [])
                            refine own_iconst X0 hx 67 (3 : Int32) (by decide) (hb hby d204_66) rfl ?_
                            refine own_goto X0 hx 82 (hb hby d204_67) (by decide) (by decide) ?_
                            refine own_istore X0 hx 84 #[.val (.ref a), .val (.int (4 : Int32)), .val (.int (0 : Int32)), .val (.int ((f 0) &&& (255 : Int32))), .val (.int (3 : Int32))] rfl (hb hby d204_82) rfl rfl ?_
                            refine own_iloadN X0 hx 85 (hb hby d204_84) rfl rfl ?_
                            refine own_iload X0 hx 87 (hb hby d204_85) rfl rfl ?_
                            refine own_iaddz X0 hx 88 (z := (3 : Int32)) (by decide) (hb hby d204_87) rfl ?_
                            refine own_iloadN X0 hx 89 (hb hby d204_88) rfl rfl ?_
                            refine own_icmp_le X0 hx 96 92 (hb hby d204_89) (by decide) (by decide) rfl (fun h41 => ?_) (fun h41 => ?_)
                            · show own_W p e below _ T0 (mkF m 96 #[.val (.ref a), .val (.int (4 : Int32)), .val (.int (0 : Int32)), .val (.int ((f 0) &&& (255 : Int32))), .val (.int (3 : Int32))] [])
                              refine own_iloadN X0 hx 97 (hb hby d204_96) rfl rfl ?_
                              exact own_retI X0 hx hret hlk (hb hby d204_97) (by decide) (by decide) ⟨by unfold own_we_4; rw [if_pos h3, if_pos h14, if_pos h25, if_pos h36, if_neg h37], N0, e0⟩
                            · exact absurd h41 (by decide)
                        · show own_W p e below _ T0 (mkF m 55 #[.val (.ref a), .val (.int (4 : Int32)), .val (.int (0 : Int32)), .val (.int ((f 0) &&& (255 : Int32))), .unset] [])
                          refine own_iconst X0 hx 56 (4 : Int32) (by decide) (hb hby d204_55) rfl ?_
                          refine own_goto X0 hx 82 (hb hby d204_56) (by decide) (by decide) ?_
                          refine own_istore X0 hx 84 #[.val (.ref a), .val (.int (4 : Int32)), .val (.int (0 : Int32)), .val (.int ((f 0) &&& (255 : Int32))), .val (.int (4 : Int32))] rfl (hb hby d204_82) rfl rfl ?_
                          refine own_iloadN X0 hx 85 (hb hby d204_84) rfl rfl ?_
                          refine own_iload X0 hx 87 (hb hby d204_85) rfl rfl ?_
                          refine own_iaddz X0 hx 88 (z := (4 : Int32)) (by decide) (hb hby d204_87) rfl ?_
                          refine own_iloadN X0 hx 89 (hb hby d204_88) rfl rfl ?_
                          refine own_icmp_le X0 hx 96 92 (hb hby d204_89) (by decide) (by decide) rfl (fun h42 => ?_) (fun h42 => ?_)
                          · show own_W p e below _ T0 (mkF m 96 #[.val (.ref a), .val (.int (4 : Int32)), .val (.int (0 : Int32)), .val (.int ((f 0) &&& (255 : Int32))), .val (.int (4 : Int32))] [])
                            refine own_iloadN X0 hx 97 (hb hby d204_96) rfl rfl ?_
                            exact own_retI X0 hx hret hlk (hb hby d204_97) (by decide) (by decide) ⟨by unfold own_we_4; rw [if_pos h3, if_pos h14, if_pos h25, if_neg h36], N0, e0⟩
                          · exact absurd h42 (by decide)
                      · exact absurd h35 (by decide)
                    · exact absurd h34 (by decide)
theorem d151_0 : decode method_4_code 0 = .ok (.iload_n 1, 1) := by decide +kernel
theorem d151_1 : decode method_4_code 1 = .ok (.iload_n 2, 1) := by decide +kernel
theorem d151_2 : decode method_4_code 2 = .ok (.isub, 1) := by decide +kernel
theorem d151_3 : decode method_4_code 3 = .ok (.istore_n 3, 1) := by decide +kernel
theorem d151_4 : decode method_4_code 4 = .ok (.iload_n 3, 1) := by decide +kernel
theorem d151_5 : decode method_4_code 5 = .ok (.ifCond .ge 5, 3) := by decide +kernel
theorem d151_10 : decode method_4_code 10 = .ok (.aload_n 0, 1) := by decide +kernel
theorem d151_11 : decode method_4_code 11 = .ok (.iload_n 3, 1) := by decide +kernel
theorem d151_12 : decode method_4_code 12 = .ok (.baload, 1) := by decide +kernel
theorem d151_13 : decode method_4_code 13 = .ok (.invokestatic 7, 3) := by decide +kernel
theorem d151_16 : decode method_4_code 16 = .ok (.iload_n 2, 1) := by decide +kernel
theorem d151_17 : decode method_4_code 17 = .ok (.if_icmp .gt 5, 3) := by decide +kernel
theorem d151_20 : decode method_4_code 20 = .ok (.iconst 0, 1) := by decide +kernel
theorem d151_21 : decode method_4_code 21 = .ok (.ireturn, 1) := by decide +kernel
theorem d151_22 : decode method_4_code 22 = .ok (.iload_n 2, 1) := by decide +kernel
theorem d151_23 : decode method_4_code 23 = .ok (.iconst 2, 1) := by decide +kernel
theorem d151_24 : decode method_4_code 24 = .ok (.if_icmp .lt 16, 3) := by decide +kernel
theorem d151_40 : decode method_4_code 40 = .ok (.iload_n 2, 1) := by decide +kernel
theorem d151_41 : decode method_4_code 41 = .ok (.iconst 3, 1) := by decide +kernel
theorem d151_42 : decode method_4_code 42 = .ok (.if_icmp .lt 16, 3) := by decide +kernel
theorem d151_58 : decode method_4_code 58 = .ok (.iconst 1, 1) := by decide +kernel
theorem d151_59 : decode method_4_code 59 = .ok (.ireturn, 1) := by decide +kernel
set_option maxRecDepth 65536 in
set_option maxHeartbeats 40000000 in
theorem rm3_5_1 (l : Launch) (Z : State) (a0 : Array Value) (hw : ∀ d ∈ tables_1, d.before a0 Z = true) (a : Addr) (f : Nat → Int32) (h0 : Heap) (n0 : Nat) (Z0 : n0 ≤ h0.size) (A_a : own_AI Z h0 a .byte 6 f) :
    own_C l Z (⟨"com/example/gentle_indent/gentleindent/util/Utf8WholeEndPinLaw", "cutAt", "([BII)Z"⟩ : MethodName) method_4_code 4 (some .boolean) [] ({ frames := 1, cells := 0, slots := 0, locals := 16 } : Room) #[(.ref a), (.int (5 : Int32)), (.int (1 : Int32))] h0 (fun v h L => v = some (.int (own_cut_5_1 f)) ∧ Fr n0 L ∧ h = h0) := by
  refine own_body (by first | (simp [plainName, overriddenIn]; done) | decide +kernel) ?_
  intro p e s m below meth c T0 hx hby hml hown hnm hret hlk hZ X0 e0
  have N0 := Fr.nil n0
  refine own_eq (f' := (mkF m 0 #[.val (.ref a), .val (.int (5 : Int32)), .val (.int (1 : Int32)), .unset] [])) (by first | (simp [entryFrame, mkF, argsToLocals, Value.category]; done) | rfl) ?_
  refine own_iloadN X0 hx 1 (hb hby d151_0) rfl rfl ?_
  refine own_iloadN X0 hx 2 (hb hby d151_1) rfl rfl ?_
  refine own_isubz X0 hx 3 (z := (4 : Int32)) (by decide) (hb hby d151_2) rfl ?_
  refine own_istoreN X0 hx 4 #[.val (.ref a), .val (.int (5 : Int32)), .val (.int (1 : Int32)), .val (.int (4 : Int32))] rfl (hb hby d151_3) rfl rfl ?_
  refine own_iloadN X0 hx 5 (hb hby d151_4) rfl rfl ?_
  refine own_if_ge X0 hx 10 8 (hb hby d151_5) (by decide) (by decide) rfl (fun h1 => ?_) (fun h1 => ?_)
  · show own_W p e below _ T0 (mkF m 10 #[.val (.ref a), .val (.int (5 : Int32)), .val (.int (1 : Int32)), .val (.int (4 : Int32))] [])
    refine own_aloadN X0 hx 11 (hb hby d151_10) rfl rfl ?_
    refine own_iloadN X0 hx 12 (hb hby d151_11) rfl rfl ?_
    refine own_baload X0 hx hZ e0 13 4 A_a rfl (by decide) (hb hby d151_12) rfl ?_
    refine own_callS X0 hx hZ hown e0 (y := (⟨"com/example/gentle_indent/gentleindent/util/Utf8WholeEndPinLaw", "need", "(B)I"⟩ : MethodName)) (argsL := [(.int (f 4))]) (rest := []) 16 (rm1 l Z a0 hw (f 4) h0 n0 Z0) (hw _ (List.mem_of_getElem? (i := 6) rfl)) (hw _ (List.mem_of_getElem? (i := 7) rfl)) (hw _ (List.mem_of_getElem? (i := 4) rfl)) (hw _ (List.mem_of_getElem? (i := 8) rfl)) (by decide) (by rw [hml]; rfl) (lenOf (by decide +kernel : parseMethodDescriptor "(B)I" = some ⟨[.byte], some .int⟩) rfl) rfl (hb hby d151_13) rfl (W := 0) rfl (by decide) (by decide) (by decide) (by decide) (fun r2 T3 L4 X5 q6 => ?_)
    obtain ⟨rfl, N7q, e8⟩ := q6
    have N7 := Fr.app N0 N7q
    show own_W p e below _ T3 (mkF m 16 #[.val (.ref a), .val (.int (5 : Int32)), .val (.int (1 : Int32)), .val (.int (4 : Int32))] [(.int (own_need (f 4)))])
    refine own_iloadN X5 hx 17 (hb hby d151_16) rfl rfl ?_
    refine own_icmp_gt X5 hx 22 20 (hb hby d151_17) (by decide) (by decide) rfl (fun h9 => ?_) (fun h9 => ?_)
    · show own_W p e below _ T3 (mkF m 22 #[.val (.ref a), .val (.int (5 : Int32)), .val (.int (1 : Int32)), .val (.int (4 : Int32))] [])
      refine own_iloadN X5 hx 23 (hb hby d151_22) rfl rfl ?_
      refine own_iconst X5 hx 24 (2 : Int32) (by decide) (hb hby d151_23) rfl ?_
      refine own_icmp_lt X5 hx 40 27 (hb hby d151_24) (by decide) (by decide) rfl (fun h10 => ?_) (fun h10 => ?_)
      · show own_W p e below _ T3 (mkF m 40 #[.val (.ref a), .val (.int (5 : Int32)), .val (.int (1 : Int32)), .val (.int (4 : Int32))] [])
        refine own_iloadN X5 hx 41 (hb hby d151_40) rfl rfl ?_
        refine own_iconst X5 hx 42 (3 : Int32) (by decide) (hb hby d151_41) rfl ?_
        refine own_icmp_lt X5 hx 58 45 (hb hby d151_42) (by decide) (by decide) rfl (fun h11 => ?_) (fun h11 => ?_)
        · show own_W p e below _ T3 (mkF m 58 #[.val (.ref a), .val (.int (5 : Int32)), .val (.int (1 : Int32)), .val (.int (4 : Int32))] [])
          refine own_iconst X5 hx 59 (1 : Int32) (by decide) (hb hby d151_58) rfl ?_
          exact own_retZ X5 hx (1 : Int32) (by decide) hret hlk (hb hby d151_59) (by decide) (by decide) ⟨by unfold own_cut_5_1; rw [if_pos h9], N7, e8⟩
        · exact absurd h11 (by decide)
      · exact absurd h10 (by decide)
    · show own_W p e below _ T3 (mkF m 20 #[.val (.ref a), .val (.int (5 : Int32)), .val (.int (1 : Int32)), .val (.int (4 : Int32))] [])
      refine own_iconst X5 hx 21 (0 : Int32) (by decide) (hb hby d151_20) rfl ?_
      exact own_retZ X5 hx (0 : Int32) (by decide) hret hlk (hb hby d151_21) (by decide) (by decide) ⟨by unfold own_cut_5_1; rw [if_neg h9], N7, e8⟩
  · exact absurd h1 (by decide)
theorem d152_0 : decode method_4_code 0 = .ok (.iload_n 1, 1) := by decide +kernel
theorem d152_1 : decode method_4_code 1 = .ok (.iload_n 2, 1) := by decide +kernel
theorem d152_2 : decode method_4_code 2 = .ok (.isub, 1) := by decide +kernel
theorem d152_3 : decode method_4_code 3 = .ok (.istore_n 3, 1) := by decide +kernel
theorem d152_4 : decode method_4_code 4 = .ok (.iload_n 3, 1) := by decide +kernel
theorem d152_5 : decode method_4_code 5 = .ok (.ifCond .ge 5, 3) := by decide +kernel
theorem d152_10 : decode method_4_code 10 = .ok (.aload_n 0, 1) := by decide +kernel
theorem d152_11 : decode method_4_code 11 = .ok (.iload_n 3, 1) := by decide +kernel
theorem d152_12 : decode method_4_code 12 = .ok (.baload, 1) := by decide +kernel
theorem d152_13 : decode method_4_code 13 = .ok (.invokestatic 7, 3) := by decide +kernel
theorem d152_16 : decode method_4_code 16 = .ok (.iload_n 2, 1) := by decide +kernel
theorem d152_17 : decode method_4_code 17 = .ok (.if_icmp .gt 5, 3) := by decide +kernel
theorem d152_20 : decode method_4_code 20 = .ok (.iconst 0, 1) := by decide +kernel
theorem d152_21 : decode method_4_code 21 = .ok (.ireturn, 1) := by decide +kernel
theorem d152_22 : decode method_4_code 22 = .ok (.iload_n 2, 1) := by decide +kernel
theorem d152_23 : decode method_4_code 23 = .ok (.iconst 2, 1) := by decide +kernel
theorem d152_24 : decode method_4_code 24 = .ok (.if_icmp .lt 16, 3) := by decide +kernel
theorem d152_27 : decode method_4_code 27 = .ok (.aload_n 0, 1) := by decide +kernel
theorem d152_28 : decode method_4_code 28 = .ok (.iload_n 1, 1) := by decide +kernel
theorem d152_29 : decode method_4_code 29 = .ok (.iconst 1, 1) := by decide +kernel
theorem d152_30 : decode method_4_code 30 = .ok (.isub, 1) := by decide +kernel
theorem d152_31 : decode method_4_code 31 = .ok (.baload, 1) := by decide +kernel
theorem d152_32 : decode method_4_code 32 = .ok (.invokestatic 13, 3) := by decide +kernel
theorem d152_35 : decode method_4_code 35 = .ok (.ifCond .ne 5, 3) := by decide +kernel
theorem d152_38 : decode method_4_code 38 = .ok (.iconst 0, 1) := by decide +kernel
theorem d152_39 : decode method_4_code 39 = .ok (.ireturn, 1) := by decide +kernel
theorem d152_40 : decode method_4_code 40 = .ok (.iload_n 2, 1) := by decide +kernel
theorem d152_41 : decode method_4_code 41 = .ok (.iconst 3, 1) := by decide +kernel
theorem d152_42 : decode method_4_code 42 = .ok (.if_icmp .lt 16, 3) := by decide +kernel
theorem d152_58 : decode method_4_code 58 = .ok (.iconst 1, 1) := by decide +kernel
theorem d152_59 : decode method_4_code 59 = .ok (.ireturn, 1) := by decide +kernel
set_option maxRecDepth 65536 in
set_option maxHeartbeats 40000000 in
theorem rm3_5_2 (l : Launch) (Z : State) (a0 : Array Value) (hw : ∀ d ∈ tables_1, d.before a0 Z = true) (a : Addr) (f : Nat → Int32) (h0 : Heap) (n0 : Nat) (Z0 : n0 ≤ h0.size) (A_a : own_AI Z h0 a .byte 6 f) :
    own_C l Z (⟨"com/example/gentle_indent/gentleindent/util/Utf8WholeEndPinLaw", "cutAt", "([BII)Z"⟩ : MethodName) method_4_code 4 (some .boolean) [] ({ frames := 1, cells := 0, slots := 0, locals := 16 } : Room) #[(.ref a), (.int (5 : Int32)), (.int (2 : Int32))] h0 (fun v h L => v = some (.int (own_cut_5_2 f)) ∧ Fr n0 L ∧ h = h0) := by
  refine own_body (by first | (simp [plainName, overriddenIn]; done) | decide +kernel) ?_
  intro p e s m below meth c T0 hx hby hml hown hnm hret hlk hZ X0 e0
  have N0 := Fr.nil n0
  refine own_eq (f' := (mkF m 0 #[.val (.ref a), .val (.int (5 : Int32)), .val (.int (2 : Int32)), .unset] [])) (by first | (simp [entryFrame, mkF, argsToLocals, Value.category]; done) | rfl) ?_
  refine own_iloadN X0 hx 1 (hb hby d152_0) rfl rfl ?_
  refine own_iloadN X0 hx 2 (hb hby d152_1) rfl rfl ?_
  refine own_isubz X0 hx 3 (z := (3 : Int32)) (by decide) (hb hby d152_2) rfl ?_
  refine own_istoreN X0 hx 4 #[.val (.ref a), .val (.int (5 : Int32)), .val (.int (2 : Int32)), .val (.int (3 : Int32))] rfl (hb hby d152_3) rfl rfl ?_
  refine own_iloadN X0 hx 5 (hb hby d152_4) rfl rfl ?_
  refine own_if_ge X0 hx 10 8 (hb hby d152_5) (by decide) (by decide) rfl (fun h1 => ?_) (fun h1 => ?_)
  · show own_W p e below _ T0 (mkF m 10 #[.val (.ref a), .val (.int (5 : Int32)), .val (.int (2 : Int32)), .val (.int (3 : Int32))] [])
    refine own_aloadN X0 hx 11 (hb hby d152_10) rfl rfl ?_
    refine own_iloadN X0 hx 12 (hb hby d152_11) rfl rfl ?_
    refine own_baload X0 hx hZ e0 13 3 A_a rfl (by decide) (hb hby d152_12) rfl ?_
    refine own_callS X0 hx hZ hown e0 (y := (⟨"com/example/gentle_indent/gentleindent/util/Utf8WholeEndPinLaw", "need", "(B)I"⟩ : MethodName)) (argsL := [(.int (f 3))]) (rest := []) 16 (rm1 l Z a0 hw (f 3) h0 n0 Z0) (hw _ (List.mem_of_getElem? (i := 6) rfl)) (hw _ (List.mem_of_getElem? (i := 7) rfl)) (hw _ (List.mem_of_getElem? (i := 4) rfl)) (hw _ (List.mem_of_getElem? (i := 8) rfl)) (by decide) (by rw [hml]; rfl) (lenOf (by decide +kernel : parseMethodDescriptor "(B)I" = some ⟨[.byte], some .int⟩) rfl) rfl (hb hby d152_13) rfl (W := 0) rfl (by decide) (by decide) (by decide) (by decide) (fun r2 T3 L4 X5 q6 => ?_)
    obtain ⟨rfl, N7q, e8⟩ := q6
    have N7 := Fr.app N0 N7q
    show own_W p e below _ T3 (mkF m 16 #[.val (.ref a), .val (.int (5 : Int32)), .val (.int (2 : Int32)), .val (.int (3 : Int32))] [(.int (own_need (f 3)))])
    refine own_iloadN X5 hx 17 (hb hby d152_16) rfl rfl ?_
    refine own_icmp_gt X5 hx 22 20 (hb hby d152_17) (by decide) (by decide) rfl (fun h9 => ?_) (fun h9 => ?_)
    · show own_W p e below _ T3 (mkF m 22 #[.val (.ref a), .val (.int (5 : Int32)), .val (.int (2 : Int32)), .val (.int (3 : Int32))] [])
      refine own_iloadN X5 hx 23 (hb hby d152_22) rfl rfl ?_
      refine own_iconst X5 hx 24 (2 : Int32) (by decide) (hb hby d152_23) rfl ?_
      refine own_icmp_lt X5 hx 40 27 (hb hby d152_24) (by decide) (by decide) rfl (fun h10 => ?_) (fun h10 => ?_)
      · exact absurd h10 (by decide)
      · show own_W p e below _ T3 (mkF m 27 #[.val (.ref a), .val (.int (5 : Int32)), .val (.int (2 : Int32)), .val (.int (3 : Int32))] [])
        refine own_aloadN X5 hx 28 (hb hby d152_27) rfl rfl ?_
        refine own_iloadN X5 hx 29 (hb hby d152_28) rfl rfl ?_
        refine own_iconst X5 hx 30 (1 : Int32) (by decide) (hb hby d152_29) rfl ?_
        refine own_isubz X5 hx 31 (z := (4 : Int32)) (by decide) (hb hby d152_30) rfl ?_
        refine own_baload X5 hx hZ e8 32 4 A_a rfl (by decide) (hb hby d152_31) rfl ?_
        refine own_callS X5 hx hZ hown e8 (y := (⟨"com/example/gentle_indent/gentleindent/util/Utf8WholeEndPinLaw", "cont", "(B)Z"⟩ : MethodName)) (argsL := [(.int (f 4))]) (rest := []) 35 (rm2 l Z a0 hw (f 4) h0 n0 Z0) (hw _ (List.mem_of_getElem? (i := 13) rfl)) (hw _ (List.mem_of_getElem? (i := 14) rfl)) (hw _ (List.mem_of_getElem? (i := 4) rfl)) (hw _ (List.mem_of_getElem? (i := 15) rfl)) (by decide) (by rw [hml]; rfl) (lenOf (by decide +kernel : parseMethodDescriptor "(B)Z" = some ⟨[.byte], some .boolean⟩) rfl) rfl (hb hby d152_32) rfl (W := 0) rfl (by decide) (by decide) (by decide) (by decide) (fun r11 T12 L13 X14 q15 => ?_)
        obtain ⟨rfl, N16q, e17⟩ := q15
        have N16 := Fr.app N7 N16q
        show own_W p e below _ T12 (mkF m 35 #[.val (.ref a), .val (.int (5 : Int32)), .val (.int (2 : Int32)), .val (.int (3 : Int32))] [(.int (own_cont (f 4)))])
        refine own_if_ne X14 hx 40 38 (hb hby d152_35) (by decide) (by decide) rfl (fun h18 => ?_) (fun h18 => ?_)
        · show own_W p e below _ T12 (mkF m 40 #[.val (.ref a), .val (.int (5 : Int32)), .val (.int (2 : Int32)), .val (.int (3 : Int32))] [])
          refine own_iloadN X14 hx 41 (hb hby d152_40) rfl rfl ?_
          refine own_iconst X14 hx 42 (3 : Int32) (by decide) (hb hby d152_41) rfl ?_
          refine own_icmp_lt X14 hx 58 45 (hb hby d152_42) (by decide) (by decide) rfl (fun h19 => ?_) (fun h19 => ?_)
          · show own_W p e below _ T12 (mkF m 58 #[.val (.ref a), .val (.int (5 : Int32)), .val (.int (2 : Int32)), .val (.int (3 : Int32))] [])
            refine own_iconst X14 hx 59 (1 : Int32) (by decide) (hb hby d152_58) rfl ?_
            exact own_retZ X14 hx (1 : Int32) (by decide) hret hlk (hb hby d152_59) (by decide) (by decide) ⟨by unfold own_cut_5_2; rw [if_pos h9, if_neg h18], N16, e17⟩
          · exact absurd h19 (by decide)
        · show own_W p e below _ T12 (mkF m 38 #[.val (.ref a), .val (.int (5 : Int32)), .val (.int (2 : Int32)), .val (.int (3 : Int32))] [])
          refine own_iconst X14 hx 39 (0 : Int32) (by decide) (hb hby d152_38) rfl ?_
          exact own_retZ X14 hx (0 : Int32) (by decide) hret hlk (hb hby d152_39) (by decide) (by decide) ⟨by unfold own_cut_5_2; rw [if_pos h9, if_pos h18], N16, e17⟩
    · show own_W p e below _ T3 (mkF m 20 #[.val (.ref a), .val (.int (5 : Int32)), .val (.int (2 : Int32)), .val (.int (3 : Int32))] [])
      refine own_iconst X5 hx 21 (0 : Int32) (by decide) (hb hby d152_20) rfl ?_
      exact own_retZ X5 hx (0 : Int32) (by decide) hret hlk (hb hby d152_21) (by decide) (by decide) ⟨by unfold own_cut_5_2; rw [if_neg h9], N7, e8⟩
  · exact absurd h1 (by decide)
theorem d153_0 : decode method_4_code 0 = .ok (.iload_n 1, 1) := by decide +kernel
theorem d153_1 : decode method_4_code 1 = .ok (.iload_n 2, 1) := by decide +kernel
theorem d153_2 : decode method_4_code 2 = .ok (.isub, 1) := by decide +kernel
theorem d153_3 : decode method_4_code 3 = .ok (.istore_n 3, 1) := by decide +kernel
theorem d153_4 : decode method_4_code 4 = .ok (.iload_n 3, 1) := by decide +kernel
theorem d153_5 : decode method_4_code 5 = .ok (.ifCond .ge 5, 3) := by decide +kernel
theorem d153_10 : decode method_4_code 10 = .ok (.aload_n 0, 1) := by decide +kernel
theorem d153_11 : decode method_4_code 11 = .ok (.iload_n 3, 1) := by decide +kernel
theorem d153_12 : decode method_4_code 12 = .ok (.baload, 1) := by decide +kernel
theorem d153_13 : decode method_4_code 13 = .ok (.invokestatic 7, 3) := by decide +kernel
theorem d153_16 : decode method_4_code 16 = .ok (.iload_n 2, 1) := by decide +kernel
theorem d153_17 : decode method_4_code 17 = .ok (.if_icmp .gt 5, 3) := by decide +kernel
theorem d153_20 : decode method_4_code 20 = .ok (.iconst 0, 1) := by decide +kernel
theorem d153_21 : decode method_4_code 21 = .ok (.ireturn, 1) := by decide +kernel
theorem d153_22 : decode method_4_code 22 = .ok (.iload_n 2, 1) := by decide +kernel
theorem d153_23 : decode method_4_code 23 = .ok (.iconst 2, 1) := by decide +kernel
theorem d153_24 : decode method_4_code 24 = .ok (.if_icmp .lt 16, 3) := by decide +kernel
theorem d153_27 : decode method_4_code 27 = .ok (.aload_n 0, 1) := by decide +kernel
theorem d153_28 : decode method_4_code 28 = .ok (.iload_n 1, 1) := by decide +kernel
theorem d153_29 : decode method_4_code 29 = .ok (.iconst 1, 1) := by decide +kernel
theorem d153_30 : decode method_4_code 30 = .ok (.isub, 1) := by decide +kernel
theorem d153_31 : decode method_4_code 31 = .ok (.baload, 1) := by decide +kernel
theorem d153_32 : decode method_4_code 32 = .ok (.invokestatic 13, 3) := by decide +kernel
theorem d153_35 : decode method_4_code 35 = .ok (.ifCond .ne 5, 3) := by decide +kernel
theorem d153_38 : decode method_4_code 38 = .ok (.iconst 0, 1) := by decide +kernel
theorem d153_39 : decode method_4_code 39 = .ok (.ireturn, 1) := by decide +kernel
theorem d153_40 : decode method_4_code 40 = .ok (.iload_n 2, 1) := by decide +kernel
theorem d153_41 : decode method_4_code 41 = .ok (.iconst 3, 1) := by decide +kernel
theorem d153_42 : decode method_4_code 42 = .ok (.if_icmp .lt 16, 3) := by decide +kernel
theorem d153_45 : decode method_4_code 45 = .ok (.aload_n 0, 1) := by decide +kernel
theorem d153_46 : decode method_4_code 46 = .ok (.iload_n 1, 1) := by decide +kernel
theorem d153_47 : decode method_4_code 47 = .ok (.iconst 2, 1) := by decide +kernel
theorem d153_48 : decode method_4_code 48 = .ok (.isub, 1) := by decide +kernel
theorem d153_49 : decode method_4_code 49 = .ok (.baload, 1) := by decide +kernel
theorem d153_50 : decode method_4_code 50 = .ok (.invokestatic 13, 3) := by decide +kernel
theorem d153_53 : decode method_4_code 53 = .ok (.ifCond .ne 5, 3) := by decide +kernel
theorem d153_56 : decode method_4_code 56 = .ok (.iconst 0, 1) := by decide +kernel
theorem d153_57 : decode method_4_code 57 = .ok (.ireturn, 1) := by decide +kernel
theorem d153_58 : decode method_4_code 58 = .ok (.iconst 1, 1) := by decide +kernel
theorem d153_59 : decode method_4_code 59 = .ok (.ireturn, 1) := by decide +kernel
set_option maxRecDepth 65536 in
set_option maxHeartbeats 40000000 in
theorem rm3_5_3 (l : Launch) (Z : State) (a0 : Array Value) (hw : ∀ d ∈ tables_1, d.before a0 Z = true) (a : Addr) (f : Nat → Int32) (h0 : Heap) (n0 : Nat) (Z0 : n0 ≤ h0.size) (A_a : own_AI Z h0 a .byte 6 f) :
    own_C l Z (⟨"com/example/gentle_indent/gentleindent/util/Utf8WholeEndPinLaw", "cutAt", "([BII)Z"⟩ : MethodName) method_4_code 4 (some .boolean) [] ({ frames := 1, cells := 0, slots := 0, locals := 16 } : Room) #[(.ref a), (.int (5 : Int32)), (.int (3 : Int32))] h0 (fun v h L => v = some (.int (own_cut_5_3 f)) ∧ Fr n0 L ∧ h = h0) := by
  refine own_body (by first | (simp [plainName, overriddenIn]; done) | decide +kernel) ?_
  intro p e s m below meth c T0 hx hby hml hown hnm hret hlk hZ X0 e0
  have N0 := Fr.nil n0
  refine own_eq (f' := (mkF m 0 #[.val (.ref a), .val (.int (5 : Int32)), .val (.int (3 : Int32)), .unset] [])) (by first | (simp [entryFrame, mkF, argsToLocals, Value.category]; done) | rfl) ?_
  refine own_iloadN X0 hx 1 (hb hby d153_0) rfl rfl ?_
  refine own_iloadN X0 hx 2 (hb hby d153_1) rfl rfl ?_
  refine own_isubz X0 hx 3 (z := (2 : Int32)) (by decide) (hb hby d153_2) rfl ?_
  refine own_istoreN X0 hx 4 #[.val (.ref a), .val (.int (5 : Int32)), .val (.int (3 : Int32)), .val (.int (2 : Int32))] rfl (hb hby d153_3) rfl rfl ?_
  refine own_iloadN X0 hx 5 (hb hby d153_4) rfl rfl ?_
  refine own_if_ge X0 hx 10 8 (hb hby d153_5) (by decide) (by decide) rfl (fun h1 => ?_) (fun h1 => ?_)
  · show own_W p e below _ T0 (mkF m 10 #[.val (.ref a), .val (.int (5 : Int32)), .val (.int (3 : Int32)), .val (.int (2 : Int32))] [])
    refine own_aloadN X0 hx 11 (hb hby d153_10) rfl rfl ?_
    refine own_iloadN X0 hx 12 (hb hby d153_11) rfl rfl ?_
    refine own_baload X0 hx hZ e0 13 2 A_a rfl (by decide) (hb hby d153_12) rfl ?_
    refine own_callS X0 hx hZ hown e0 (y := (⟨"com/example/gentle_indent/gentleindent/util/Utf8WholeEndPinLaw", "need", "(B)I"⟩ : MethodName)) (argsL := [(.int (f 2))]) (rest := []) 16 (rm1 l Z a0 hw (f 2) h0 n0 Z0) (hw _ (List.mem_of_getElem? (i := 6) rfl)) (hw _ (List.mem_of_getElem? (i := 7) rfl)) (hw _ (List.mem_of_getElem? (i := 4) rfl)) (hw _ (List.mem_of_getElem? (i := 8) rfl)) (by decide) (by rw [hml]; rfl) (lenOf (by decide +kernel : parseMethodDescriptor "(B)I" = some ⟨[.byte], some .int⟩) rfl) rfl (hb hby d153_13) rfl (W := 0) rfl (by decide) (by decide) (by decide) (by decide) (fun r2 T3 L4 X5 q6 => ?_)
    obtain ⟨rfl, N7q, e8⟩ := q6
    have N7 := Fr.app N0 N7q
    show own_W p e below _ T3 (mkF m 16 #[.val (.ref a), .val (.int (5 : Int32)), .val (.int (3 : Int32)), .val (.int (2 : Int32))] [(.int (own_need (f 2)))])
    refine own_iloadN X5 hx 17 (hb hby d153_16) rfl rfl ?_
    refine own_icmp_gt X5 hx 22 20 (hb hby d153_17) (by decide) (by decide) rfl (fun h9 => ?_) (fun h9 => ?_)
    · show own_W p e below _ T3 (mkF m 22 #[.val (.ref a), .val (.int (5 : Int32)), .val (.int (3 : Int32)), .val (.int (2 : Int32))] [])
      refine own_iloadN X5 hx 23 (hb hby d153_22) rfl rfl ?_
      refine own_iconst X5 hx 24 (2 : Int32) (by decide) (hb hby d153_23) rfl ?_
      refine own_icmp_lt X5 hx 40 27 (hb hby d153_24) (by decide) (by decide) rfl (fun h10 => ?_) (fun h10 => ?_)
      · exact absurd h10 (by decide)
      · show own_W p e below _ T3 (mkF m 27 #[.val (.ref a), .val (.int (5 : Int32)), .val (.int (3 : Int32)), .val (.int (2 : Int32))] [])
        refine own_aloadN X5 hx 28 (hb hby d153_27) rfl rfl ?_
        refine own_iloadN X5 hx 29 (hb hby d153_28) rfl rfl ?_
        refine own_iconst X5 hx 30 (1 : Int32) (by decide) (hb hby d153_29) rfl ?_
        refine own_isubz X5 hx 31 (z := (4 : Int32)) (by decide) (hb hby d153_30) rfl ?_
        refine own_baload X5 hx hZ e8 32 4 A_a rfl (by decide) (hb hby d153_31) rfl ?_
        refine own_callS X5 hx hZ hown e8 (y := (⟨"com/example/gentle_indent/gentleindent/util/Utf8WholeEndPinLaw", "cont", "(B)Z"⟩ : MethodName)) (argsL := [(.int (f 4))]) (rest := []) 35 (rm2 l Z a0 hw (f 4) h0 n0 Z0) (hw _ (List.mem_of_getElem? (i := 13) rfl)) (hw _ (List.mem_of_getElem? (i := 14) rfl)) (hw _ (List.mem_of_getElem? (i := 4) rfl)) (hw _ (List.mem_of_getElem? (i := 15) rfl)) (by decide) (by rw [hml]; rfl) (lenOf (by decide +kernel : parseMethodDescriptor "(B)Z" = some ⟨[.byte], some .boolean⟩) rfl) rfl (hb hby d153_32) rfl (W := 0) rfl (by decide) (by decide) (by decide) (by decide) (fun r11 T12 L13 X14 q15 => ?_)
        obtain ⟨rfl, N16q, e17⟩ := q15
        have N16 := Fr.app N7 N16q
        show own_W p e below _ T12 (mkF m 35 #[.val (.ref a), .val (.int (5 : Int32)), .val (.int (3 : Int32)), .val (.int (2 : Int32))] [(.int (own_cont (f 4)))])
        refine own_if_ne X14 hx 40 38 (hb hby d153_35) (by decide) (by decide) rfl (fun h18 => ?_) (fun h18 => ?_)
        · show own_W p e below _ T12 (mkF m 40 #[.val (.ref a), .val (.int (5 : Int32)), .val (.int (3 : Int32)), .val (.int (2 : Int32))] [])
          refine own_iloadN X14 hx 41 (hb hby d153_40) rfl rfl ?_
          refine own_iconst X14 hx 42 (3 : Int32) (by decide) (hb hby d153_41) rfl ?_
          refine own_icmp_lt X14 hx 58 45 (hb hby d153_42) (by decide) (by decide) rfl (fun h19 => ?_) (fun h19 => ?_)
          · exact absurd h19 (by decide)
          · show own_W p e below _ T12 (mkF m 45 #[.val (.ref a), .val (.int (5 : Int32)), .val (.int (3 : Int32)), .val (.int (2 : Int32))] [])
            refine own_aloadN X14 hx 46 (hb hby d153_45) rfl rfl ?_
            refine own_iloadN X14 hx 47 (hb hby d153_46) rfl rfl ?_
            refine own_iconst X14 hx 48 (2 : Int32) (by decide) (hb hby d153_47) rfl ?_
            refine own_isubz X14 hx 49 (z := (3 : Int32)) (by decide) (hb hby d153_48) rfl ?_
            refine own_baload X14 hx hZ e17 50 3 A_a rfl (by decide) (hb hby d153_49) rfl ?_
            refine own_callS X14 hx hZ hown e17 (y := (⟨"com/example/gentle_indent/gentleindent/util/Utf8WholeEndPinLaw", "cont", "(B)Z"⟩ : MethodName)) (argsL := [(.int (f 3))]) (rest := []) 53 (rm2 l Z a0 hw (f 3) h0 n0 Z0) (hw _ (List.mem_of_getElem? (i := 13) rfl)) (hw _ (List.mem_of_getElem? (i := 14) rfl)) (hw _ (List.mem_of_getElem? (i := 4) rfl)) (hw _ (List.mem_of_getElem? (i := 15) rfl)) (by decide) (by rw [hml]; rfl) (lenOf (by decide +kernel : parseMethodDescriptor "(B)Z" = some ⟨[.byte], some .boolean⟩) rfl) rfl (hb hby d153_50) rfl (W := 0) rfl (by decide) (by decide) (by decide) (by decide) (fun r20 T21 L22 X23 q24 => ?_)
            obtain ⟨rfl, N25q, e26⟩ := q24
            have N25 := Fr.app N16 N25q
            show own_W p e below _ T21 (mkF m 53 #[.val (.ref a), .val (.int (5 : Int32)), .val (.int (3 : Int32)), .val (.int (2 : Int32))] [(.int (own_cont (f 3)))])
            refine own_if_ne X23 hx 58 56 (hb hby d153_53) (by decide) (by decide) rfl (fun h27 => ?_) (fun h27 => ?_)
            · show own_W p e below _ T21 (mkF m 58 #[.val (.ref a), .val (.int (5 : Int32)), .val (.int (3 : Int32)), .val (.int (2 : Int32))] [])
              refine own_iconst X23 hx 59 (1 : Int32) (by decide) (hb hby d153_58) rfl ?_
              exact own_retZ X23 hx (1 : Int32) (by decide) hret hlk (hb hby d153_59) (by decide) (by decide) ⟨by unfold own_cut_5_3; rw [if_pos h9, if_neg h18, if_neg h27], N25, e26⟩
            · show own_W p e below _ T21 (mkF m 56 #[.val (.ref a), .val (.int (5 : Int32)), .val (.int (3 : Int32)), .val (.int (2 : Int32))] [])
              refine own_iconst X23 hx 57 (0 : Int32) (by decide) (hb hby d153_56) rfl ?_
              exact own_retZ X23 hx (0 : Int32) (by decide) hret hlk (hb hby d153_57) (by decide) (by decide) ⟨by unfold own_cut_5_3; rw [if_pos h9, if_neg h18, if_pos h27], N25, e26⟩
        · show own_W p e below _ T12 (mkF m 38 #[.val (.ref a), .val (.int (5 : Int32)), .val (.int (3 : Int32)), .val (.int (2 : Int32))] [])
          refine own_iconst X14 hx 39 (0 : Int32) (by decide) (hb hby d153_38) rfl ?_
          exact own_retZ X14 hx (0 : Int32) (by decide) hret hlk (hb hby d153_39) (by decide) (by decide) ⟨by unfold own_cut_5_3; rw [if_pos h9, if_pos h18], N16, e17⟩
    · show own_W p e below _ T3 (mkF m 20 #[.val (.ref a), .val (.int (5 : Int32)), .val (.int (3 : Int32)), .val (.int (2 : Int32))] [])
      refine own_iconst X5 hx 21 (0 : Int32) (by decide) (hb hby d153_20) rfl ?_
      exact own_retZ X5 hx (0 : Int32) (by decide) hret hlk (hb hby d153_21) (by decide) (by decide) ⟨by unfold own_cut_5_3; rw [if_neg h9], N7, e8⟩
  · exact absurd h1 (by decide)
theorem d205_0 : decode prog_84_method_4_code 0 = .ok (.iload_n 1, 1) := by decide +kernel
theorem d205_1 : decode prog_84_method_4_code 1 = .ok (.iconst 1, 1) := by decide +kernel
theorem d205_2 : decode prog_84_method_4_code 2 = .ok (.isub, 1) := by decide +kernel
theorem d205_3 : decode prog_84_method_4_code 3 = .ok (.istore_n 2, 1) := by decide +kernel
theorem d205_4 : decode prog_84_method_4_code 4 = .ok (.iload_n 2, 1) := by decide +kernel
theorem d205_5 : decode prog_84_method_4_code 5 = .ok (.ifCond .le 29, 3) := by decide +kernel
theorem d205_8 : decode prog_84_method_4_code 8 = .ok (.iload_n 2, 1) := by decide +kernel
theorem d205_9 : decode prog_84_method_4_code 9 = .ok (.iload_n 1, 1) := by decide +kernel
theorem d205_10 : decode prog_84_method_4_code 10 = .ok (.iconst 4, 1) := by decide +kernel
theorem d205_11 : decode prog_84_method_4_code 11 = .ok (.isub, 1) := by decide +kernel
theorem d205_12 : decode prog_84_method_4_code 12 = .ok (.if_icmp .le 22, 3) := by decide +kernel
theorem d205_15 : decode prog_84_method_4_code 15 = .ok (.aload_n 0, 1) := by decide +kernel
theorem d205_16 : decode prog_84_method_4_code 16 = .ok (.iload_n 2, 1) := by decide +kernel
theorem d205_17 : decode prog_84_method_4_code 17 = .ok (.baload, 1) := by decide +kernel
theorem d205_18 : decode prog_84_method_4_code 18 = .ok (.sipush 192, 3) := by decide +kernel
theorem d205_21 : decode prog_84_method_4_code 21 = .ok (.iand, 1) := by decide +kernel
theorem d205_22 : decode prog_84_method_4_code 22 = .ok (.sipush 128, 3) := by decide +kernel
theorem d205_25 : decode prog_84_method_4_code 25 = .ok (.if_icmp .ne 9, 3) := by decide +kernel
theorem d205_28 : decode prog_84_method_4_code 28 = .ok (.iinc 2 (-1), 3) := by decide +kernel
theorem d205_31 : decode prog_84_method_4_code 31 = .ok (.goto (-27), 3) := by decide +kernel
theorem d205_34 : decode prog_84_method_4_code 34 = .ok (.iload_n 2, 1) := by decide +kernel
theorem d205_35 : decode prog_84_method_4_code 35 = .ok (.ifCond .ge 5, 3) := by decide +kernel
theorem d205_40 : decode prog_84_method_4_code 40 = .ok (.aload_n 0, 1) := by decide +kernel
theorem d205_41 : decode prog_84_method_4_code 41 = .ok (.iload_n 2, 1) := by decide +kernel
theorem d205_42 : decode prog_84_method_4_code 42 = .ok (.baload, 1) := by decide +kernel
theorem d205_43 : decode prog_84_method_4_code 43 = .ok (.sipush 255, 3) := by decide +kernel
theorem d205_46 : decode prog_84_method_4_code 46 = .ok (.iand, 1) := by decide +kernel
theorem d205_47 : decode prog_84_method_4_code 47 = .ok (.istore_n 3, 1) := by decide +kernel
theorem d205_48 : decode prog_84_method_4_code 48 = .ok (.iload_n 3, 1) := by decide +kernel
theorem d205_49 : decode prog_84_method_4_code 49 = .ok (.sipush 240, 3) := by decide +kernel
theorem d205_52 : decode prog_84_method_4_code 52 = .ok (.if_icmp .lt 7, 3) := by decide +kernel
theorem d205_55 : decode prog_84_method_4_code 55 = .ok (.iconst 4, 1) := by decide +kernel
theorem d205_56 : decode prog_84_method_4_code 56 = .ok (.goto 26, 3) := by decide +kernel
theorem d205_59 : decode prog_84_method_4_code 59 = .ok (.iload_n 3, 1) := by decide +kernel
theorem d205_60 : decode prog_84_method_4_code 60 = .ok (.sipush 224, 3) := by decide +kernel
theorem d205_63 : decode prog_84_method_4_code 63 = .ok (.if_icmp .lt 7, 3) := by decide +kernel
theorem d205_66 : decode prog_84_method_4_code 66 = .ok (.iconst 3, 1) := by decide +kernel
theorem d205_67 : decode prog_84_method_4_code 67 = .ok (.goto 15, 3) := by decide +kernel
theorem d205_70 : decode prog_84_method_4_code 70 = .ok (.iload_n 3, 1) := by decide +kernel
theorem d205_71 : decode prog_84_method_4_code 71 = .ok (.sipush 192, 3) := by decide +kernel
theorem d205_74 : decode prog_84_method_4_code 74 = .ok (.if_icmp .lt 7, 3) := by decide +kernel
theorem d205_77 : decode prog_84_method_4_code 77 = .ok (.iconst 2, 1) := by decide +kernel
theorem d205_78 : decode prog_84_method_4_code 78 = .ok (.goto 4, 3) := by decide +kernel
theorem d205_81 : decode prog_84_method_4_code 81 = .ok (.iconst 1, 1) := by decide +kernel
theorem d205_82 : decode prog_84_method_4_code 82 = .ok (.istore 4, 2) := by decide +kernel
theorem d205_84 : decode prog_84_method_4_code 84 = .ok (.iload_n 2, 1) := by decide +kernel
theorem d205_85 : decode prog_84_method_4_code 85 = .ok (.iload 4, 2) := by decide +kernel
theorem d205_87 : decode prog_84_method_4_code 87 = .ok (.iadd, 1) := by decide +kernel
theorem d205_88 : decode prog_84_method_4_code 88 = .ok (.iload_n 1, 1) := by decide +kernel
theorem d205_89 : decode prog_84_method_4_code 89 = .ok (.if_icmp .le 7, 3) := by decide +kernel
theorem d205_92 : decode prog_84_method_4_code 92 = .ok (.iload_n 2, 1) := by decide +kernel
theorem d205_93 : decode prog_84_method_4_code 93 = .ok (.goto 4, 3) := by decide +kernel
theorem d205_96 : decode prog_84_method_4_code 96 = .ok (.iload_n 1, 1) := by decide +kernel
theorem d205_97 : decode prog_84_method_4_code 97 = .ok (.ireturn, 1) := by decide +kernel
set_option maxRecDepth 65536 in
set_option maxHeartbeats 40000000 in
theorem rm4_5 (l : Launch) (Z : State) (a0 : Array Value) (hw : ∀ d ∈ tables_1, d.before a0 Z = true) (a : Addr) (f : Nat → Int32) (h0 : Heap) (n0 : Nat) (Z0 : n0 ≤ h0.size) (A_a : own_AI Z h0 a .byte 6 f) :
    own_C l Z (⟨"com/example/gentle_indent/gentleindent/util/Utf8", "wholeEnd", "([BI)I"⟩ : MethodName) prog_84_method_4_code 5 (some .int) [] ({ frames := 0, cells := 0, slots := 0, locals := 0 } : Room) #[(.ref a), (.int (5 : Int32))] h0 (fun v h L => v = some (.int (own_we_5 f)) ∧ Fr n0 L ∧ h = h0) := by
  refine own_body (by first | (simp [plainName, overriddenIn]; done) | decide +kernel) ?_
  intro p e s m below meth c T0 hx hby hml hown hnm hret hlk hZ X0 e0
  have N0 := Fr.nil n0
  refine own_eq (f' := (mkF m 0 #[.val (.ref a), .val (.int (5 : Int32)), .unset, .unset, .unset] [])) (by first | (simp [entryFrame, mkF, argsToLocals, Value.category]; done) | rfl) ?_
  refine own_iloadN X0 hx 1 (hb hby d205_0) rfl rfl ?_
  refine own_iconst X0 hx 2 (1 : Int32) (by decide) (hb hby d205_1) rfl ?_
  refine own_isubz X0 hx 3 (z := (4 : Int32)) (by decide) (hb hby d205_2) rfl ?_
  refine own_istoreN X0 hx 4 #[.val (.ref a), .val (.int (5 : Int32)), .val (.int (4 : Int32)), .unset, .unset] rfl (hb hby d205_3) rfl rfl ?_
  refine own_iloadN X0 hx 5 (hb hby d205_4) rfl rfl ?_
  refine own_if_le X0 hx 34 8 (hb hby d205_5) (by decide) (by decide) rfl (fun h1 => ?_) (fun h1 => ?_)
  · exact absurd h1 (by decide)
  · show own_W p e below _ T0 (mkF m 8 #[.val (.ref a), .val (.int (5 : Int32)), .val (.int (4 : Int32)), .unset, .unset] [])
    refine own_iloadN X0 hx 9 (hb hby d205_8) rfl rfl ?_
    refine own_iloadN X0 hx 10 (hb hby d205_9) rfl rfl ?_
    refine own_iconst X0 hx 11 (4 : Int32) (by decide) (hb hby d205_10) rfl ?_
    refine own_isubz X0 hx 12 (z := (1 : Int32)) (by decide) (hb hby d205_11) rfl ?_
    refine own_icmp_le X0 hx 34 15 (hb hby d205_12) (by decide) (by decide) rfl (fun h2 => ?_) (fun h2 => ?_)
    · exact absurd h2 (by decide)
    · show own_W p e below _ T0 (mkF m 15 #[.val (.ref a), .val (.int (5 : Int32)), .val (.int (4 : Int32)), .unset, .unset] [])
      refine own_aloadN X0 hx 16 (hb hby d205_15) rfl rfl ?_
      refine own_iloadN X0 hx 17 (hb hby d205_16) rfl rfl ?_
      refine own_baload X0 hx hZ e0 18 4 A_a rfl (by decide) (hb hby d205_17) rfl ?_
      refine own_sipush X0 hx 21 (192 : Int32) (by decide) (hb hby d205_18) rfl ?_
      refine own_iand X0 hx 22 (hb hby d205_21) rfl ?_
      refine own_sipush X0 hx 25 (128 : Int32) (by decide) (hb hby d205_22) rfl ?_
      refine own_icmp_ne X0 hx 34 28 (hb hby d205_25) (by decide) (by decide) rfl (fun h3 => ?_) (fun h3 => ?_)
      · show own_W p e below _ T0 (mkF m 34 #[.val (.ref a), .val (.int (5 : Int32)), .val (.int (4 : Int32)), .unset, .unset] [])
        refine own_iloadN X0 hx 35 (hb hby d205_34) rfl rfl ?_
        refine own_if_ge X0 hx 40 38 (hb hby d205_35) (by decide) (by decide) rfl (fun h4 => ?_) (fun h4 => ?_)
        · show own_W p e below _ T0 (mkF m 40 #[.val (.ref a), .val (.int (5 : Int32)), .val (.int (4 : Int32)), .unset, .unset] [])
          refine own_aloadN X0 hx 41 (hb hby d205_40) rfl rfl ?_
          refine own_iloadN X0 hx 42 (hb hby d205_41) rfl rfl ?_
          refine own_baload X0 hx hZ e0 43 4 A_a rfl (by decide) (hb hby d205_42) rfl ?_
          refine own_sipush X0 hx 46 (255 : Int32) (by decide) (hb hby d205_43) rfl ?_
          refine own_iand X0 hx 47 (hb hby d205_46) rfl ?_
          refine own_istoreN X0 hx 48 #[.val (.ref a), .val (.int (5 : Int32)), .val (.int (4 : Int32)), .val (.int ((f 4) &&& (255 : Int32))), .unset] rfl (hb hby d205_47) rfl rfl ?_
          refine own_iloadN X0 hx 49 (hb hby d205_48) rfl rfl ?_
          refine own_sipush X0 hx 52 (240 : Int32) (by decide) (hb hby d205_49) rfl ?_
          refine own_icmp_lt X0 hx 59 55 (hb hby d205_52) (by decide) (by decide) rfl (fun h5 => ?_) (fun h5 => ?_)
          · show own_W p e below _ T0 (mkF m 59 #[.val (.ref a), .val (.int (5 : Int32)), .val (.int (4 : Int32)), .val (.int ((f 4) &&& (255 : Int32))), .unset] [])
            refine own_iloadN X0 hx 60 (hb hby d205_59) rfl rfl ?_
            refine own_sipush X0 hx 63 (224 : Int32) (by decide) (hb hby d205_60) rfl ?_
            refine own_icmp_lt X0 hx 70 66 (hb hby d205_63) (by decide) (by decide) rfl (fun h6 => ?_) (fun h6 => ?_)
            · show own_W p e below _ T0 (mkF m 70 #[.val (.ref a), .val (.int (5 : Int32)), .val (.int (4 : Int32)), .val (.int ((f 4) &&& (255 : Int32))), .unset] [])
              refine own_iloadN X0 hx 71 (hb hby d205_70) rfl rfl ?_
              refine own_sipush X0 hx 74 (192 : Int32) (by decide) (hb hby d205_71) rfl ?_
              refine own_icmp_lt X0 hx 81 77 (hb hby d205_74) (by decide) (by decide) rfl (fun h7 => ?_) (fun h7 => ?_)
              · show own_W p e below _ T0 (mkF m 81 #[.val (.ref a), .val (.int (5 : Int32)), .val (.int (4 : Int32)), .val (.int ((f 4) &&& (255 : Int32))), .unset] [])
                refine own_iconst X0 hx 82 (1 : Int32) (by decide) (hb hby d205_81) rfl ?_
                refine own_istore X0 hx 84 #[.val (.ref a), .val (.int (5 : Int32)), .val (.int (4 : Int32)), .val (.int ((f 4) &&& (255 : Int32))), .val (.int (1 : Int32))] rfl (hb hby d205_82) rfl rfl ?_
                refine own_iloadN X0 hx 85 (hb hby d205_84) rfl rfl ?_
                refine own_iload X0 hx 87 (hb hby d205_85) rfl rfl ?_
                refine own_iaddz X0 hx 88 (z := (5 : Int32)) (by decide) (hb hby d205_87) rfl ?_
                refine own_iloadN X0 hx 89 (hb hby d205_88) rfl rfl ?_
                refine own_icmp_le X0 hx 96 92 (hb hby d205_89) (by decide) (by decide) rfl (fun h8 => ?_) (fun h8 => ?_)
                · show own_W p e below _ T0 (mkF m 96 #[.val (.ref a), .val (.int (5 : Int32)), .val (.int (4 : Int32)), .val (.int ((f 4) &&& (255 : Int32))), .val (.int (1 : Int32))] [])
                  refine own_iloadN X0 hx 97 (hb hby d205_96) rfl rfl ?_
                  exact own_retI X0 hx hret hlk (hb hby d205_97) (by decide) (by decide) ⟨by unfold own_we_5; rw [if_neg h3, if_pos h5, if_pos h6, if_pos h7], N0, e0⟩
                · exact absurd h8 (by decide)
              · show own_W p e below _ T0 (mkF m 77 #[.val (.ref a), .val (.int (5 : Int32)), .val (.int (4 : Int32)), .val (.int ((f 4) &&& (255 : Int32))), .unset] [])
                refine own_iconst X0 hx 78 (2 : Int32) (by decide) (hb hby d205_77) rfl ?_
                refine own_goto X0 hx 82 (hb hby d205_78) (by decide) (by decide) ?_
                refine own_istore X0 hx 84 #[.val (.ref a), .val (.int (5 : Int32)), .val (.int (4 : Int32)), .val (.int ((f 4) &&& (255 : Int32))), .val (.int (2 : Int32))] rfl (hb hby d205_82) rfl rfl ?_
                refine own_iloadN X0 hx 85 (hb hby d205_84) rfl rfl ?_
                refine own_iload X0 hx 87 (hb hby d205_85) rfl rfl ?_
                refine own_iaddz X0 hx 88 (z := (6 : Int32)) (by decide) (hb hby d205_87) rfl ?_
                refine own_iloadN X0 hx 89 (hb hby d205_88) rfl rfl ?_
                refine own_icmp_le X0 hx 96 92 (hb hby d205_89) (by decide) (by decide) rfl (fun h9 => ?_) (fun h9 => ?_)
                · exact absurd h9 (by decide)
                · show own_W p e below _ T0 (mkF m 92 #[.val (.ref a), .val (.int (5 : Int32)), .val (.int (4 : Int32)), .val (.int ((f 4) &&& (255 : Int32))), .val (.int (2 : Int32))] [])
                  refine own_iloadN X0 hx 93 (hb hby d205_92) rfl rfl ?_
                  refine own_goto X0 hx 97 (hb hby d205_93) (by decide) (by decide) ?_
                  exact own_retI X0 hx hret hlk (hb hby d205_97) (by decide) (by decide) ⟨by unfold own_we_5; rw [if_neg h3, if_pos h5, if_pos h6, if_neg h7], N0, e0⟩
            · show own_W p e below _ T0 (mkF m 66 #[.val (.ref a), .val (.int (5 : Int32)), .val (.int (4 : Int32)), .val (.int ((f 4) &&& (255 : Int32))), .unset] [])
              refine own_iconst X0 hx 67 (3 : Int32) (by decide) (hb hby d205_66) rfl ?_
              refine own_goto X0 hx 82 (hb hby d205_67) (by decide) (by decide) ?_
              refine own_istore X0 hx 84 #[.val (.ref a), .val (.int (5 : Int32)), .val (.int (4 : Int32)), .val (.int ((f 4) &&& (255 : Int32))), .val (.int (3 : Int32))] rfl (hb hby d205_82) rfl rfl ?_
              refine own_iloadN X0 hx 85 (hb hby d205_84) rfl rfl ?_
              refine own_iload X0 hx 87 (hb hby d205_85) rfl rfl ?_
              refine own_iaddz X0 hx 88 (z := (7 : Int32)) (by decide) (hb hby d205_87) rfl ?_
              refine own_iloadN X0 hx 89 (hb hby d205_88) rfl rfl ?_
              refine own_icmp_le X0 hx 96 92 (hb hby d205_89) (by decide) (by decide) rfl (fun h10 => ?_) (fun h10 => ?_)
              · exact absurd h10 (by decide)
              · show own_W p e below _ T0 (mkF m 92 #[.val (.ref a), .val (.int (5 : Int32)), .val (.int (4 : Int32)), .val (.int ((f 4) &&& (255 : Int32))), .val (.int (3 : Int32))] [])
                refine own_iloadN X0 hx 93 (hb hby d205_92) rfl rfl ?_
                refine own_goto X0 hx 97 (hb hby d205_93) (by decide) (by decide) ?_
                exact own_retI X0 hx hret hlk (hb hby d205_97) (by decide) (by decide) ⟨by unfold own_we_5; rw [if_neg h3, if_pos h5, if_neg h6], N0, e0⟩
          · show own_W p e below _ T0 (mkF m 55 #[.val (.ref a), .val (.int (5 : Int32)), .val (.int (4 : Int32)), .val (.int ((f 4) &&& (255 : Int32))), .unset] [])
            refine own_iconst X0 hx 56 (4 : Int32) (by decide) (hb hby d205_55) rfl ?_
            refine own_goto X0 hx 82 (hb hby d205_56) (by decide) (by decide) ?_
            refine own_istore X0 hx 84 #[.val (.ref a), .val (.int (5 : Int32)), .val (.int (4 : Int32)), .val (.int ((f 4) &&& (255 : Int32))), .val (.int (4 : Int32))] rfl (hb hby d205_82) rfl rfl ?_
            refine own_iloadN X0 hx 85 (hb hby d205_84) rfl rfl ?_
            refine own_iload X0 hx 87 (hb hby d205_85) rfl rfl ?_
            refine own_iaddz X0 hx 88 (z := (8 : Int32)) (by decide) (hb hby d205_87) rfl ?_
            refine own_iloadN X0 hx 89 (hb hby d205_88) rfl rfl ?_
            refine own_icmp_le X0 hx 96 92 (hb hby d205_89) (by decide) (by decide) rfl (fun h11 => ?_) (fun h11 => ?_)
            · exact absurd h11 (by decide)
            · show own_W p e below _ T0 (mkF m 92 #[.val (.ref a), .val (.int (5 : Int32)), .val (.int (4 : Int32)), .val (.int ((f 4) &&& (255 : Int32))), .val (.int (4 : Int32))] [])
              refine own_iloadN X0 hx 93 (hb hby d205_92) rfl rfl ?_
              refine own_goto X0 hx 97 (hb hby d205_93) (by decide) (by decide) ?_
              exact own_retI X0 hx hret hlk (hb hby d205_97) (by decide) (by decide) ⟨by unfold own_we_5; rw [if_neg h3, if_neg h5], N0, e0⟩
        · exact absurd h4 (by decide)
      · show own_W p e below _ T0 (mkF m 28 #[.val (.ref a), .val (.int (5 : Int32)), .val (.int (4 : Int32)), .unset, .unset] [])
        refine own_iinc X0 hx (3 : Int32) 31 #[.val (.ref a), .val (.int (5 : Int32)), .val (.int (3 : Int32)), .unset, .unset] (by decide) (hb hby d205_28) rfl rfl rfl ?_
        refine own_goto X0 hx 4 (hb hby d205_31) (by decide) (by decide) ?_
        refine own_iloadN X0 hx 5 (hb hby d205_4) rfl rfl ?_
        refine own_if_le X0 hx 34 8 (hb hby d205_5) (by decide) (by decide) rfl (fun h12 => ?_) (fun h12 => ?_)
        · exact absurd h12 (by decide)
        · show own_W p e below _ T0 (mkF m 8 #[.val (.ref a), .val (.int (5 : Int32)), .val (.int (3 : Int32)), .unset, .unset] [])
          refine own_iloadN X0 hx 9 (hb hby d205_8) rfl rfl ?_
          refine own_iloadN X0 hx 10 (hb hby d205_9) rfl rfl ?_
          refine own_iconst X0 hx 11 (4 : Int32) (by decide) (hb hby d205_10) rfl ?_
          refine own_isubz X0 hx 12 (z := (1 : Int32)) (by decide) (hb hby d205_11) rfl ?_
          refine own_icmp_le X0 hx 34 15 (hb hby d205_12) (by decide) (by decide) rfl (fun h13 => ?_) (fun h13 => ?_)
          · exact absurd h13 (by decide)
          · show own_W p e below _ T0 (mkF m 15 #[.val (.ref a), .val (.int (5 : Int32)), .val (.int (3 : Int32)), .unset, .unset] [])
            refine own_aloadN X0 hx 16 (hb hby d205_15) rfl rfl ?_
            refine own_iloadN X0 hx 17 (hb hby d205_16) rfl rfl ?_
            refine own_baload X0 hx hZ e0 18 3 A_a rfl (by decide) (hb hby d205_17) rfl ?_
            refine own_sipush X0 hx 21 (192 : Int32) (by decide) (hb hby d205_18) rfl ?_
            refine own_iand X0 hx 22 (hb hby d205_21) rfl ?_
            refine own_sipush X0 hx 25 (128 : Int32) (by decide) (hb hby d205_22) rfl ?_
            refine own_icmp_ne X0 hx 34 28 (hb hby d205_25) (by decide) (by decide) rfl (fun h14 => ?_) (fun h14 => ?_)
            · show own_W p e below _ T0 (mkF m 34 #[.val (.ref a), .val (.int (5 : Int32)), .val (.int (3 : Int32)), .unset, .unset] [])
              refine own_iloadN X0 hx 35 (hb hby d205_34) rfl rfl ?_
              refine own_if_ge X0 hx 40 38 (hb hby d205_35) (by decide) (by decide) rfl (fun h15 => ?_) (fun h15 => ?_)
              · show own_W p e below _ T0 (mkF m 40 #[.val (.ref a), .val (.int (5 : Int32)), .val (.int (3 : Int32)), .unset, .unset] [])
                refine own_aloadN X0 hx 41 (hb hby d205_40) rfl rfl ?_
                refine own_iloadN X0 hx 42 (hb hby d205_41) rfl rfl ?_
                refine own_baload X0 hx hZ e0 43 3 A_a rfl (by decide) (hb hby d205_42) rfl ?_
                refine own_sipush X0 hx 46 (255 : Int32) (by decide) (hb hby d205_43) rfl ?_
                refine own_iand X0 hx 47 (hb hby d205_46) rfl ?_
                refine own_istoreN X0 hx 48 #[.val (.ref a), .val (.int (5 : Int32)), .val (.int (3 : Int32)), .val (.int ((f 3) &&& (255 : Int32))), .unset] rfl (hb hby d205_47) rfl rfl ?_
                refine own_iloadN X0 hx 49 (hb hby d205_48) rfl rfl ?_
                refine own_sipush X0 hx 52 (240 : Int32) (by decide) (hb hby d205_49) rfl ?_
                refine own_icmp_lt X0 hx 59 55 (hb hby d205_52) (by decide) (by decide) rfl (fun h16 => ?_) (fun h16 => ?_)
                · show own_W p e below _ T0 (mkF m 59 #[.val (.ref a), .val (.int (5 : Int32)), .val (.int (3 : Int32)), .val (.int ((f 3) &&& (255 : Int32))), .unset] [])
                  refine own_iloadN X0 hx 60 (hb hby d205_59) rfl rfl ?_
                  refine own_sipush X0 hx 63 (224 : Int32) (by decide) (hb hby d205_60) rfl ?_
                  refine own_icmp_lt X0 hx 70 66 (hb hby d205_63) (by decide) (by decide) rfl (fun h17 => ?_) (fun h17 => ?_)
                  · show own_W p e below _ T0 (mkF m 70 #[.val (.ref a), .val (.int (5 : Int32)), .val (.int (3 : Int32)), .val (.int ((f 3) &&& (255 : Int32))), .unset] [])
                    refine own_iloadN X0 hx 71 (hb hby d205_70) rfl rfl ?_
                    refine own_sipush X0 hx 74 (192 : Int32) (by decide) (hb hby d205_71) rfl ?_
                    refine own_icmp_lt X0 hx 81 77 (hb hby d205_74) (by decide) (by decide) rfl (fun h18 => ?_) (fun h18 => ?_)
                    · show own_W p e below _ T0 (mkF m 81 #[.val (.ref a), .val (.int (5 : Int32)), .val (.int (3 : Int32)), .val (.int ((f 3) &&& (255 : Int32))), .unset] [])
                      refine own_iconst X0 hx 82 (1 : Int32) (by decide) (hb hby d205_81) rfl ?_
                      refine own_istore X0 hx 84 #[.val (.ref a), .val (.int (5 : Int32)), .val (.int (3 : Int32)), .val (.int ((f 3) &&& (255 : Int32))), .val (.int (1 : Int32))] rfl (hb hby d205_82) rfl rfl ?_
                      refine own_iloadN X0 hx 85 (hb hby d205_84) rfl rfl ?_
                      refine own_iload X0 hx 87 (hb hby d205_85) rfl rfl ?_
                      refine own_iaddz X0 hx 88 (z := (4 : Int32)) (by decide) (hb hby d205_87) rfl ?_
                      refine own_iloadN X0 hx 89 (hb hby d205_88) rfl rfl ?_
                      refine own_icmp_le X0 hx 96 92 (hb hby d205_89) (by decide) (by decide) rfl (fun h19 => ?_) (fun h19 => ?_)
                      · show own_W p e below _ T0 (mkF m 96 #[.val (.ref a), .val (.int (5 : Int32)), .val (.int (3 : Int32)), .val (.int ((f 3) &&& (255 : Int32))), .val (.int (1 : Int32))] [])
                        refine own_iloadN X0 hx 97 (hb hby d205_96) rfl rfl ?_
                        exact own_retI X0 hx hret hlk (hb hby d205_97) (by decide) (by decide) ⟨by unfold own_we_5; rw [if_pos h3, if_neg h14, if_pos h16, if_pos h17, if_pos h18], N0, e0⟩
                      · exact absurd h19 (by decide)
                    · show own_W p e below _ T0 (mkF m 77 #[.val (.ref a), .val (.int (5 : Int32)), .val (.int (3 : Int32)), .val (.int ((f 3) &&& (255 : Int32))), .unset] [])
                      refine own_iconst X0 hx 78 (2 : Int32) (by decide) (hb hby d205_77) rfl ?_
                      refine own_goto X0 hx 82 (hb hby d205_78) (by decide) (by decide) ?_
                      refine own_istore X0 hx 84 #[.val (.ref a), .val (.int (5 : Int32)), .val (.int (3 : Int32)), .val (.int ((f 3) &&& (255 : Int32))), .val (.int (2 : Int32))] rfl (hb hby d205_82) rfl rfl ?_
                      refine own_iloadN X0 hx 85 (hb hby d205_84) rfl rfl ?_
                      refine own_iload X0 hx 87 (hb hby d205_85) rfl rfl ?_
                      refine own_iaddz X0 hx 88 (z := (5 : Int32)) (by decide) (hb hby d205_87) rfl ?_
                      refine own_iloadN X0 hx 89 (hb hby d205_88) rfl rfl ?_
                      refine own_icmp_le X0 hx 96 92 (hb hby d205_89) (by decide) (by decide) rfl (fun h20 => ?_) (fun h20 => ?_)
                      · show own_W p e below _ T0 (mkF m 96 #[.val (.ref a), .val (.int (5 : Int32)), .val (.int (3 : Int32)), .val (.int ((f 3) &&& (255 : Int32))), .val (.int (2 : Int32))] [])
                        refine own_iloadN X0 hx 97 (hb hby d205_96) rfl rfl ?_
                        exact own_retI X0 hx hret hlk (hb hby d205_97) (by decide) (by decide) ⟨by unfold own_we_5; rw [if_pos h3, if_neg h14, if_pos h16, if_pos h17, if_neg h18], N0, e0⟩
                      · exact absurd h20 (by decide)
                  · show own_W p e below _ T0 (mkF m 66 #[.val (.ref a), .val (.int (5 : Int32)), .val (.int (3 : Int32)), .val (.int ((f 3) &&& (255 : Int32))), .unset] [])
                    refine own_iconst X0 hx 67 (3 : Int32) (by decide) (hb hby d205_66) rfl ?_
                    refine own_goto X0 hx 82 (hb hby d205_67) (by decide) (by decide) ?_
                    refine own_istore X0 hx 84 #[.val (.ref a), .val (.int (5 : Int32)), .val (.int (3 : Int32)), .val (.int ((f 3) &&& (255 : Int32))), .val (.int (3 : Int32))] rfl (hb hby d205_82) rfl rfl ?_
                    refine own_iloadN X0 hx 85 (hb hby d205_84) rfl rfl ?_
                    refine own_iload X0 hx 87 (hb hby d205_85) rfl rfl ?_
                    refine own_iaddz X0 hx 88 (z := (6 : Int32)) (by decide) (hb hby d205_87) rfl ?_
                    refine own_iloadN X0 hx 89 (hb hby d205_88) rfl rfl ?_
                    refine own_icmp_le X0 hx 96 92 (hb hby d205_89) (by decide) (by decide) rfl (fun h21 => ?_) (fun h21 => ?_)
                    · exact absurd h21 (by decide)
                    · show own_W p e below _ T0 (mkF m 92 #[.val (.ref a), .val (.int (5 : Int32)), .val (.int (3 : Int32)), .val (.int ((f 3) &&& (255 : Int32))), .val (.int (3 : Int32))] [])
                      refine own_iloadN X0 hx 93 (hb hby d205_92) rfl rfl ?_
                      refine own_goto X0 hx 97 (hb hby d205_93) (by decide) (by decide) ?_
                      exact own_retI X0 hx hret hlk (hb hby d205_97) (by decide) (by decide) ⟨by unfold own_we_5; rw [if_pos h3, if_neg h14, if_pos h16, if_neg h17], N0, e0⟩
                · show own_W p e below _ T0 (mkF m 55 #[.val (.ref a), .val (.int (5 : Int32)), .val (.int (3 : Int32)), .val (.int ((f 3) &&& (255 : Int32))), .unset] [])
                  refine own_iconst X0 hx 56 (4 : Int32) (by decide) (hb hby d205_55) rfl ?_
                  refine own_goto X0 hx 82 (hb hby d205_56) (by decide) (by decide) ?_
                  refine own_istore X0 hx 84 #[.val (.ref a), .val (.int (5 : Int32)), .val (.int (3 : Int32)), .val (.int ((f 3) &&& (255 : Int32))), .val (.int (4 : Int32))] rfl (hb hby d205_82) rfl rfl ?_
                  refine own_iloadN X0 hx 85 (hb hby d205_84) rfl rfl ?_
                  refine own_iload X0 hx 87 (hb hby d205_85) rfl rfl ?_
                  refine own_iaddz X0 hx 88 (z := (7 : Int32)) (by decide) (hb hby d205_87) rfl ?_
                  refine own_iloadN X0 hx 89 (hb hby d205_88) rfl rfl ?_
                  refine own_icmp_le X0 hx 96 92 (hb hby d205_89) (by decide) (by decide) rfl (fun h22 => ?_) (fun h22 => ?_)
                  · exact absurd h22 (by decide)
                  · show own_W p e below _ T0 (mkF m 92 #[.val (.ref a), .val (.int (5 : Int32)), .val (.int (3 : Int32)), .val (.int ((f 3) &&& (255 : Int32))), .val (.int (4 : Int32))] [])
                    refine own_iloadN X0 hx 93 (hb hby d205_92) rfl rfl ?_
                    refine own_goto X0 hx 97 (hb hby d205_93) (by decide) (by decide) ?_
                    exact own_retI X0 hx hret hlk (hb hby d205_97) (by decide) (by decide) ⟨by unfold own_we_5; rw [if_pos h3, if_neg h14, if_neg h16], N0, e0⟩
              · exact absurd h15 (by decide)
            · show own_W p e below _ T0 (mkF m 28 #[.val (.ref a), .val (.int (5 : Int32)), .val (.int (3 : Int32)), .unset, .unset] [])
              refine own_iinc X0 hx (2 : Int32) 31 #[.val (.ref a), .val (.int (5 : Int32)), .val (.int (2 : Int32)), .unset, .unset] (by decide) (hb hby d205_28) rfl rfl rfl ?_
              refine own_goto X0 hx 4 (hb hby d205_31) (by decide) (by decide) ?_
              refine own_iloadN X0 hx 5 (hb hby d205_4) rfl rfl ?_
              refine own_if_le X0 hx 34 8 (hb hby d205_5) (by decide) (by decide) rfl (fun h23 => ?_) (fun h23 => ?_)
              · exact absurd h23 (by decide)
              · show own_W p e below _ T0 (mkF m 8 #[.val (.ref a), .val (.int (5 : Int32)), .val (.int (2 : Int32)), .unset, .unset] [])
                refine own_iloadN X0 hx 9 (hb hby d205_8) rfl rfl ?_
                refine own_iloadN X0 hx 10 (hb hby d205_9) rfl rfl ?_
                refine own_iconst X0 hx 11 (4 : Int32) (by decide) (hb hby d205_10) rfl ?_
                refine own_isubz X0 hx 12 (z := (1 : Int32)) (by decide) (hb hby d205_11) rfl ?_
                refine own_icmp_le X0 hx 34 15 (hb hby d205_12) (by decide) (by decide) rfl (fun h24 => ?_) (fun h24 => ?_)
                · exact absurd h24 (by decide)
                · show own_W p e below _ T0 (mkF m 15 #[.val (.ref a), .val (.int (5 : Int32)), .val (.int (2 : Int32)), .unset, .unset] [])
                  refine own_aloadN X0 hx 16 (hb hby d205_15) rfl rfl ?_
                  refine own_iloadN X0 hx 17 (hb hby d205_16) rfl rfl ?_
                  refine own_baload X0 hx hZ e0 18 2 A_a rfl (by decide) (hb hby d205_17) rfl ?_
                  refine own_sipush X0 hx 21 (192 : Int32) (by decide) (hb hby d205_18) rfl ?_
                  refine own_iand X0 hx 22 (hb hby d205_21) rfl ?_
                  refine own_sipush X0 hx 25 (128 : Int32) (by decide) (hb hby d205_22) rfl ?_
                  refine own_icmp_ne X0 hx 34 28 (hb hby d205_25) (by decide) (by decide) rfl (fun h25 => ?_) (fun h25 => ?_)
                  · show own_W p e below _ T0 (mkF m 34 #[.val (.ref a), .val (.int (5 : Int32)), .val (.int (2 : Int32)), .unset, .unset] [])
                    refine own_iloadN X0 hx 35 (hb hby d205_34) rfl rfl ?_
                    refine own_if_ge X0 hx 40 38 (hb hby d205_35) (by decide) (by decide) rfl (fun h26 => ?_) (fun h26 => ?_)
                    · show own_W p e below _ T0 (mkF m 40 #[.val (.ref a), .val (.int (5 : Int32)), .val (.int (2 : Int32)), .unset, .unset] [])
                      refine own_aloadN X0 hx 41 (hb hby d205_40) rfl rfl ?_
                      refine own_iloadN X0 hx 42 (hb hby d205_41) rfl rfl ?_
                      refine own_baload X0 hx hZ e0 43 2 A_a rfl (by decide) (hb hby d205_42) rfl ?_
                      refine own_sipush X0 hx 46 (255 : Int32) (by decide) (hb hby d205_43) rfl ?_
                      refine own_iand X0 hx 47 (hb hby d205_46) rfl ?_
                      refine own_istoreN X0 hx 48 #[.val (.ref a), .val (.int (5 : Int32)), .val (.int (2 : Int32)), .val (.int ((f 2) &&& (255 : Int32))), .unset] rfl (hb hby d205_47) rfl rfl ?_
                      refine own_iloadN X0 hx 49 (hb hby d205_48) rfl rfl ?_
                      refine own_sipush X0 hx 52 (240 : Int32) (by decide) (hb hby d205_49) rfl ?_
                      refine own_icmp_lt X0 hx 59 55 (hb hby d205_52) (by decide) (by decide) rfl (fun h27 => ?_) (fun h27 => ?_)
                      · show own_W p e below _ T0 (mkF m 59 #[.val (.ref a), .val (.int (5 : Int32)), .val (.int (2 : Int32)), .val (.int ((f 2) &&& (255 : Int32))), .unset] [])
                        refine own_iloadN X0 hx 60 (hb hby d205_59) rfl rfl ?_
                        refine own_sipush X0 hx 63 (224 : Int32) (by decide) (hb hby d205_60) rfl ?_
                        refine own_icmp_lt X0 hx 70 66 (hb hby d205_63) (by decide) (by decide) rfl (fun h28 => ?_) (fun h28 => ?_)
                        · show own_W p e below _ T0 (mkF m 70 #[.val (.ref a), .val (.int (5 : Int32)), .val (.int (2 : Int32)), .val (.int ((f 2) &&& (255 : Int32))), .unset] [])
                          refine own_iloadN X0 hx 71 (hb hby d205_70) rfl rfl ?_
                          refine own_sipush X0 hx 74 (192 : Int32) (by decide) (hb hby d205_71) rfl ?_
                          refine own_icmp_lt X0 hx 81 77 (hb hby d205_74) (by decide) (by decide) rfl (fun h29 => ?_) (fun h29 => ?_)
                          · show own_W p e below _ T0 (mkF m 81 #[.val (.ref a), .val (.int (5 : Int32)), .val (.int (2 : Int32)), .val (.int ((f 2) &&& (255 : Int32))), .unset] [])
                            refine own_iconst X0 hx 82 (1 : Int32) (by decide) (hb hby d205_81) rfl ?_
                            refine own_istore X0 hx 84 #[.val (.ref a), .val (.int (5 : Int32)), .val (.int (2 : Int32)), .val (.int ((f 2) &&& (255 : Int32))), .val (.int (1 : Int32))] rfl (hb hby d205_82) rfl rfl ?_
                            refine own_iloadN X0 hx 85 (hb hby d205_84) rfl rfl ?_
                            refine own_iload X0 hx 87 (hb hby d205_85) rfl rfl ?_
                            refine own_iaddz X0 hx 88 (z := (3 : Int32)) (by decide) (hb hby d205_87) rfl ?_
                            refine own_iloadN X0 hx 89 (hb hby d205_88) rfl rfl ?_
                            refine own_icmp_le X0 hx 96 92 (hb hby d205_89) (by decide) (by decide) rfl (fun h30 => ?_) (fun h30 => ?_)
                            · show own_W p e below _ T0 (mkF m 96 #[.val (.ref a), .val (.int (5 : Int32)), .val (.int (2 : Int32)), .val (.int ((f 2) &&& (255 : Int32))), .val (.int (1 : Int32))] [])
                              refine own_iloadN X0 hx 97 (hb hby d205_96) rfl rfl ?_
                              exact own_retI X0 hx hret hlk (hb hby d205_97) (by decide) (by decide) ⟨by unfold own_we_5; rw [if_pos h3, if_pos h14, if_neg h25, if_pos h27, if_pos h28, if_pos h29], N0, e0⟩
                            · exact absurd h30 (by decide)
                          · show own_W p e below _ T0 (mkF m 77 #[.val (.ref a), .val (.int (5 : Int32)), .val (.int (2 : Int32)), .val (.int ((f 2) &&& (255 : Int32))), .unset] [])
                            refine own_iconst X0 hx 78 (2 : Int32) (by decide) (hb hby d205_77) rfl ?_
                            refine own_goto X0 hx 82 (hb hby d205_78) (by decide) (by decide) ?_
                            refine own_istore X0 hx 84 #[.val (.ref a), .val (.int (5 : Int32)), .val (.int (2 : Int32)), .val (.int ((f 2) &&& (255 : Int32))), .val (.int (2 : Int32))] rfl (hb hby d205_82) rfl rfl ?_
                            refine own_iloadN X0 hx 85 (hb hby d205_84) rfl rfl ?_
                            refine own_iload X0 hx 87 (hb hby d205_85) rfl rfl ?_
                            refine own_iaddz X0 hx 88 (z := (4 : Int32)) (by decide) (hb hby d205_87) rfl ?_
                            refine own_iloadN X0 hx 89 (hb hby d205_88) rfl rfl ?_
                            refine own_icmp_le X0 hx 96 92 (hb hby d205_89) (by decide) (by decide) rfl (fun h31 => ?_) (fun h31 => ?_)
                            · show own_W p e below _ T0 (mkF m 96 #[.val (.ref a), .val (.int (5 : Int32)), .val (.int (2 : Int32)), .val (.int ((f 2) &&& (255 : Int32))), .val (.int (2 : Int32))] [])
                              refine own_iloadN X0 hx 97 (hb hby d205_96) rfl rfl ?_
                              exact own_retI X0 hx hret hlk (hb hby d205_97) (by decide) (by decide) ⟨by unfold own_we_5; rw [if_pos h3, if_pos h14, if_neg h25, if_pos h27, if_pos h28, if_neg h29], N0, e0⟩
                            · exact absurd h31 (by decide)
                        · show own_W p e below _ T0 (mkF m 66 #[.val (.ref a), .val (.int (5 : Int32)), .val (.int (2 : Int32)), .val (.int ((f 2) &&& (255 : Int32))), .unset] [])
                          refine own_iconst X0 hx 67 (3 : Int32) (by decide) (hb hby d205_66) rfl ?_
                          refine own_goto X0 hx 82 (hb hby d205_67) (by decide) (by decide) ?_
                          refine own_istore X0 hx 84 #[.val (.ref a), .val (.int (5 : Int32)), .val (.int (2 : Int32)), .val (.int ((f 2) &&& (255 : Int32))), .val (.int (3 : Int32))] rfl (hb hby d205_82) rfl rfl ?_
                          refine own_iloadN X0 hx 85 (hb hby d205_84) rfl rfl ?_
                          refine own_iload X0 hx 87 (hb hby d205_85) rfl rfl ?_
                          refine own_iaddz X0 hx 88 (z := (5 : Int32)) (by decide) (hb hby d205_87) rfl ?_
                          refine own_iloadN X0 hx 89 (hb hby d205_88) rfl rfl ?_
                          refine own_icmp_le X0 hx 96 92 (hb hby d205_89) (by decide) (by decide) rfl (fun h32 => ?_) (fun h32 => ?_)
                          · show own_W p e below _ T0 (mkF m 96 #[.val (.ref a), .val (.int (5 : Int32)), .val (.int (2 : Int32)), .val (.int ((f 2) &&& (255 : Int32))), .val (.int (3 : Int32))] [])
                            refine own_iloadN X0 hx 97 (hb hby d205_96) rfl rfl ?_
                            exact own_retI X0 hx hret hlk (hb hby d205_97) (by decide) (by decide) ⟨by unfold own_we_5; rw [if_pos h3, if_pos h14, if_neg h25, if_pos h27, if_neg h28], N0, e0⟩
                          · exact absurd h32 (by decide)
                      · show own_W p e below _ T0 (mkF m 55 #[.val (.ref a), .val (.int (5 : Int32)), .val (.int (2 : Int32)), .val (.int ((f 2) &&& (255 : Int32))), .unset] [])
                        refine own_iconst X0 hx 56 (4 : Int32) (by decide) (hb hby d205_55) rfl ?_
                        refine own_goto X0 hx 82 (hb hby d205_56) (by decide) (by decide) ?_
                        refine own_istore X0 hx 84 #[.val (.ref a), .val (.int (5 : Int32)), .val (.int (2 : Int32)), .val (.int ((f 2) &&& (255 : Int32))), .val (.int (4 : Int32))] rfl (hb hby d205_82) rfl rfl ?_
                        refine own_iloadN X0 hx 85 (hb hby d205_84) rfl rfl ?_
                        refine own_iload X0 hx 87 (hb hby d205_85) rfl rfl ?_
                        refine own_iaddz X0 hx 88 (z := (6 : Int32)) (by decide) (hb hby d205_87) rfl ?_
                        refine own_iloadN X0 hx 89 (hb hby d205_88) rfl rfl ?_
                        refine own_icmp_le X0 hx 96 92 (hb hby d205_89) (by decide) (by decide) rfl (fun h33 => ?_) (fun h33 => ?_)
                        · exact absurd h33 (by decide)
                        · show own_W p e below _ T0 (mkF m 92 #[.val (.ref a), .val (.int (5 : Int32)), .val (.int (2 : Int32)), .val (.int ((f 2) &&& (255 : Int32))), .val (.int (4 : Int32))] [])
                          refine own_iloadN X0 hx 93 (hb hby d205_92) rfl rfl ?_
                          refine own_goto X0 hx 97 (hb hby d205_93) (by decide) (by decide) ?_
                          exact own_retI X0 hx hret hlk (hb hby d205_97) (by decide) (by decide) ⟨by unfold own_we_5; rw [if_pos h3, if_pos h14, if_neg h25, if_neg h27], N0, e0⟩
                    · exact absurd h26 (by decide)
                  · show own_W p e below _ T0 (mkF m 28 #[.val (.ref a), .val (.int (5 : Int32)), .val (.int (2 : Int32)), .unset, .unset] [])
                    refine own_iinc X0 hx (1 : Int32) 31 #[.val (.ref a), .val (.int (5 : Int32)), .val (.int (1 : Int32)), .unset, .unset] (by decide) (hb hby d205_28) rfl rfl rfl ?_
                    refine own_goto X0 hx 4 (hb hby d205_31) (by decide) (by decide) ?_
                    refine own_iloadN X0 hx 5 (hb hby d205_4) rfl rfl ?_
                    refine own_if_le X0 hx 34 8 (hb hby d205_5) (by decide) (by decide) rfl (fun h34 => ?_) (fun h34 => ?_)
                    · exact absurd h34 (by decide)
                    · show own_W p e below _ T0 (mkF m 8 #[.val (.ref a), .val (.int (5 : Int32)), .val (.int (1 : Int32)), .unset, .unset] [])
                      refine own_iloadN X0 hx 9 (hb hby d205_8) rfl rfl ?_
                      refine own_iloadN X0 hx 10 (hb hby d205_9) rfl rfl ?_
                      refine own_iconst X0 hx 11 (4 : Int32) (by decide) (hb hby d205_10) rfl ?_
                      refine own_isubz X0 hx 12 (z := (1 : Int32)) (by decide) (hb hby d205_11) rfl ?_
                      refine own_icmp_le X0 hx 34 15 (hb hby d205_12) (by decide) (by decide) rfl (fun h35 => ?_) (fun h35 => ?_)
                      · show own_W p e below _ T0 (mkF m 34 #[.val (.ref a), .val (.int (5 : Int32)), .val (.int (1 : Int32)), .unset, .unset] [])
                        refine own_iloadN X0 hx 35 (hb hby d205_34) rfl rfl ?_
                        refine own_if_ge X0 hx 40 38 (hb hby d205_35) (by decide) (by decide) rfl (fun h36 => ?_) (fun h36 => ?_)
                        · show own_W p e below _ T0 (mkF m 40 #[.val (.ref a), .val (.int (5 : Int32)), .val (.int (1 : Int32)), .unset, .unset] [])
                          refine own_aloadN X0 hx 41 (hb hby d205_40) rfl rfl ?_
                          refine own_iloadN X0 hx 42 (hb hby d205_41) rfl rfl ?_
                          refine own_baload X0 hx hZ e0 43 1 A_a rfl (by decide) (hb hby d205_42) rfl ?_
                          refine own_sipush X0 hx 46 (255 : Int32) (by decide) (hb hby d205_43) rfl ?_
                          refine own_iand X0 hx 47 (hb hby d205_46) rfl ?_
                          refine own_istoreN X0 hx 48 #[.val (.ref a), .val (.int (5 : Int32)), .val (.int (1 : Int32)), .val (.int ((f 1) &&& (255 : Int32))), .unset] rfl (hb hby d205_47) rfl rfl ?_
                          refine own_iloadN X0 hx 49 (hb hby d205_48) rfl rfl ?_
                          refine own_sipush X0 hx 52 (240 : Int32) (by decide) (hb hby d205_49) rfl ?_
                          refine own_icmp_lt X0 hx 59 55 (hb hby d205_52) (by decide) (by decide) rfl (fun h37 => ?_) (fun h37 => ?_)
                          · show own_W p e below _ T0 (mkF m 59 #[.val (.ref a), .val (.int (5 : Int32)), .val (.int (1 : Int32)), .val (.int ((f 1) &&& (255 : Int32))), .unset] [])
                            refine own_iloadN X0 hx 60 (hb hby d205_59) rfl rfl ?_
                            refine own_sipush X0 hx 63 (224 : Int32) (by decide) (hb hby d205_60) rfl ?_
                            refine own_icmp_lt X0 hx 70 66 (hb hby d205_63) (by decide) (by decide) rfl (fun h38 => ?_) (fun h38 => ?_)
                            · show own_W p e below _ T0 (mkF m 70 #[.val (.ref a), .val (.int (5 : Int32)), .val (.int (1 : Int32)), .val (.int ((f 1) &&& (255 : Int32))), .unset] [])
                              refine own_iloadN X0 hx 71 (hb hby d205_70) rfl rfl ?_
                              refine own_sipush X0 hx 74 (192 : Int32) (by decide) (hb hby d205_71) rfl ?_
                              refine own_icmp_lt X0 hx 81 77 (hb hby d205_74) (by decide) (by decide) rfl (fun h39 => ?_) (fun h39 => ?_)
                              · show own_W p e below _ T0 (mkF m 81 #[.val (.ref a), .val (.int (5 : Int32)), .val (.int (1 : Int32)), .val (.int ((f 1) &&& (255 : Int32))), .unset] [])
                                refine own_iconst X0 hx 82 (1 : Int32) (by decide) (hb hby d205_81) rfl ?_
                                refine own_istore X0 hx 84 #[.val (.ref a), .val (.int (5 : Int32)), .val (.int (1 : Int32)), .val (.int ((f 1) &&& (255 : Int32))), .val (.int (1 : Int32))] rfl (hb hby d205_82) rfl rfl ?_
                                refine own_iloadN X0 hx 85 (hb hby d205_84) rfl rfl ?_
                                refine own_iload X0 hx 87 (hb hby d205_85) rfl rfl ?_
                                refine own_iaddz X0 hx 88 (z := (2 : Int32)) (by decide) (hb hby d205_87) rfl ?_
                                refine own_iloadN X0 hx 89 (hb hby d205_88) rfl rfl ?_
                                refine own_icmp_le X0 hx 96 92 (hb hby d205_89) (by decide) (by decide) rfl (fun h40 => ?_) (fun h40 => ?_)
                                · show own_W p e below _ T0 (mkF m 96 #[.val (.ref a), .val (.int (5 : Int32)), .val (.int (1 : Int32)), .val (.int ((f 1) &&& (255 : Int32))), .val (.int (1 : Int32))] [])
                                  refine own_iloadN X0 hx 97 (hb hby d205_96) rfl rfl ?_
                                  exact own_retI X0 hx hret hlk (hb hby d205_97) (by decide) (by decide) ⟨by unfold own_we_5; rw [if_pos h3, if_pos h14, if_pos h25, if_pos h37, if_pos h38, if_pos h39], N0, e0⟩
                                · exact absurd h40 (by decide)
                              · show own_W p e below _ T0 (mkF m 77 #[.val (.ref a), .val (.int (5 : Int32)), .val (.int (1 : Int32)), .val (.int ((f 1) &&& (255 : Int32))), .unset] [])
                                refine own_iconst X0 hx 78 (2 : Int32) (by decide) (hb hby d205_77) rfl ?_
                                refine own_goto X0 hx 82 (hb hby d205_78) (by decide) (by decide) ?_
                                refine own_istore X0 hx 84 #[.val (.ref a), .val (.int (5 : Int32)), .val (.int (1 : Int32)), .val (.int ((f 1) &&& (255 : Int32))), .val (.int (2 : Int32))] rfl (hb hby d205_82) rfl rfl ?_
                                refine own_iloadN X0 hx 85 (hb hby d205_84) rfl rfl ?_
                                refine own_iload X0 hx 87 (hb hby d205_85) rfl rfl ?_
                                refine own_iaddz X0 hx 88 (z := (3 : Int32)) (by decide) (hb hby d205_87) rfl ?_
                                refine own_iloadN X0 hx 89 (hb hby d205_88) rfl rfl ?_
                                refine own_icmp_le X0 hx 96 92 (hb hby d205_89) (by decide) (by decide) rfl (fun h41 => ?_) (fun h41 => ?_)
                                · show own_W p e below _ T0 (mkF m 96 #[.val (.ref a), .val (.int (5 : Int32)), .val (.int (1 : Int32)), .val (.int ((f 1) &&& (255 : Int32))), .val (.int (2 : Int32))] [])
                                  refine own_iloadN X0 hx 97 (hb hby d205_96) rfl rfl ?_
                                  exact own_retI X0 hx hret hlk (hb hby d205_97) (by decide) (by decide) ⟨by unfold own_we_5; rw [if_pos h3, if_pos h14, if_pos h25, if_pos h37, if_pos h38, if_neg h39], N0, e0⟩
                                · exact absurd h41 (by decide)
                            · show own_W p e below _ T0 (mkF m 66 #[.val (.ref a), .val (.int (5 : Int32)), .val (.int (1 : Int32)), .val (.int ((f 1) &&& (255 : Int32))), .unset] [])
                              refine own_iconst X0 hx 67 (3 : Int32) (by decide) (hb hby d205_66) rfl ?_
                              refine own_goto X0 hx 82 (hb hby d205_67) (by decide) (by decide) ?_
                              refine own_istore X0 hx 84 #[.val (.ref a), .val (.int (5 : Int32)), .val (.int (1 : Int32)), .val (.int ((f 1) &&& (255 : Int32))), .val (.int (3 : Int32))] rfl (hb hby d205_82) rfl rfl ?_
                              refine own_iloadN X0 hx 85 (hb hby d205_84) rfl rfl ?_
                              refine own_iload X0 hx 87 (hb hby d205_85) rfl rfl ?_
                              refine own_iaddz X0 hx 88 (z := (4 : Int32)) (by decide) (hb hby d205_87) rfl ?_
                              refine own_iloadN X0 hx 89 (hb hby d205_88) rfl rfl ?_
                              refine own_icmp_le X0 hx 96 92 (hb hby d205_89) (by decide) (by decide) rfl (fun h42 => ?_) (fun h42 => ?_)
                              · show own_W p e below _ T0 (mkF m 96 #[.val (.ref a), .val (.int (5 : Int32)), .val (.int (1 : Int32)), .val (.int ((f 1) &&& (255 : Int32))), .val (.int (3 : Int32))] [])
                                refine own_iloadN X0 hx 97 (hb hby d205_96) rfl rfl ?_
                                exact own_retI X0 hx hret hlk (hb hby d205_97) (by decide) (by decide) ⟨by unfold own_we_5; rw [if_pos h3, if_pos h14, if_pos h25, if_pos h37, if_neg h38], N0, e0⟩
                              · exact absurd h42 (by decide)
                          · show own_W p e below _ T0 (mkF m 55 #[.val (.ref a), .val (.int (5 : Int32)), .val (.int (1 : Int32)), .val (.int ((f 1) &&& (255 : Int32))), .unset] [])
                            refine own_iconst X0 hx 56 (4 : Int32) (by decide) (hb hby d205_55) rfl ?_
                            refine own_goto X0 hx 82 (hb hby d205_56) (by decide) (by decide) ?_
                            refine own_istore X0 hx 84 #[.val (.ref a), .val (.int (5 : Int32)), .val (.int (1 : Int32)), .val (.int ((f 1) &&& (255 : Int32))), .val (.int (4 : Int32))] rfl (hb hby d205_82) rfl rfl ?_
                            refine own_iloadN X0 hx 85 (hb hby d205_84) rfl rfl ?_
                            refine own_iload X0 hx 87 (hb hby d205_85) rfl rfl ?_
                            refine own_iaddz X0 hx 88 (z := (5 : Int32)) (by decide) (hb hby d205_87) rfl ?_
                            refine own_iloadN X0 hx 89 (hb hby d205_88) rfl rfl ?_
                            refine own_icmp_le X0 hx 96 92 (hb hby d205_89) (by decide) (by decide) rfl (fun h43 => ?_) (fun h43 => ?_)
                            · show own_W p e below _ T0 (mkF m 96 #[.val (.ref a), .val (.int (5 : Int32)), .val (.int (1 : Int32)), .val (.int ((f 1) &&& (255 : Int32))), .val (.int (4 : Int32))] [])
                              refine own_iloadN X0 hx 97 (hb hby d205_96) rfl rfl ?_
                              exact own_retI X0 hx hret hlk (hb hby d205_97) (by decide) (by decide) ⟨by unfold own_we_5; rw [if_pos h3, if_pos h14, if_pos h25, if_neg h37], N0, e0⟩
                            · exact absurd h43 (by decide)
                        · exact absurd h36 (by decide)
                      · exact absurd h35 (by decide)
theorem d161_0 : decode method_4_code 0 = .ok (.iload_n 1, 1) := by decide +kernel
theorem d161_1 : decode method_4_code 1 = .ok (.iload_n 2, 1) := by decide +kernel
theorem d161_2 : decode method_4_code 2 = .ok (.isub, 1) := by decide +kernel
theorem d161_3 : decode method_4_code 3 = .ok (.istore_n 3, 1) := by decide +kernel
theorem d161_4 : decode method_4_code 4 = .ok (.iload_n 3, 1) := by decide +kernel
theorem d161_5 : decode method_4_code 5 = .ok (.ifCond .ge 5, 3) := by decide +kernel
theorem d161_10 : decode method_4_code 10 = .ok (.aload_n 0, 1) := by decide +kernel
theorem d161_11 : decode method_4_code 11 = .ok (.iload_n 3, 1) := by decide +kernel
theorem d161_12 : decode method_4_code 12 = .ok (.baload, 1) := by decide +kernel
theorem d161_13 : decode method_4_code 13 = .ok (.invokestatic 7, 3) := by decide +kernel
theorem d161_16 : decode method_4_code 16 = .ok (.iload_n 2, 1) := by decide +kernel
theorem d161_17 : decode method_4_code 17 = .ok (.if_icmp .gt 5, 3) := by decide +kernel
theorem d161_20 : decode method_4_code 20 = .ok (.iconst 0, 1) := by decide +kernel
theorem d161_21 : decode method_4_code 21 = .ok (.ireturn, 1) := by decide +kernel
theorem d161_22 : decode method_4_code 22 = .ok (.iload_n 2, 1) := by decide +kernel
theorem d161_23 : decode method_4_code 23 = .ok (.iconst 2, 1) := by decide +kernel
theorem d161_24 : decode method_4_code 24 = .ok (.if_icmp .lt 16, 3) := by decide +kernel
theorem d161_40 : decode method_4_code 40 = .ok (.iload_n 2, 1) := by decide +kernel
theorem d161_41 : decode method_4_code 41 = .ok (.iconst 3, 1) := by decide +kernel
theorem d161_42 : decode method_4_code 42 = .ok (.if_icmp .lt 16, 3) := by decide +kernel
theorem d161_58 : decode method_4_code 58 = .ok (.iconst 1, 1) := by decide +kernel
theorem d161_59 : decode method_4_code 59 = .ok (.ireturn, 1) := by decide +kernel
set_option maxRecDepth 65536 in
set_option maxHeartbeats 40000000 in
theorem rm3_6_1 (l : Launch) (Z : State) (a0 : Array Value) (hw : ∀ d ∈ tables_1, d.before a0 Z = true) (a : Addr) (f : Nat → Int32) (h0 : Heap) (n0 : Nat) (Z0 : n0 ≤ h0.size) (A_a : own_AI Z h0 a .byte 6 f) :
    own_C l Z (⟨"com/example/gentle_indent/gentleindent/util/Utf8WholeEndPinLaw", "cutAt", "([BII)Z"⟩ : MethodName) method_4_code 4 (some .boolean) [] ({ frames := 1, cells := 0, slots := 0, locals := 16 } : Room) #[(.ref a), (.int (6 : Int32)), (.int (1 : Int32))] h0 (fun v h L => v = some (.int (own_cut_6_1 f)) ∧ Fr n0 L ∧ h = h0) := by
  refine own_body (by first | (simp [plainName, overriddenIn]; done) | decide +kernel) ?_
  intro p e s m below meth c T0 hx hby hml hown hnm hret hlk hZ X0 e0
  have N0 := Fr.nil n0
  refine own_eq (f' := (mkF m 0 #[.val (.ref a), .val (.int (6 : Int32)), .val (.int (1 : Int32)), .unset] [])) (by first | (simp [entryFrame, mkF, argsToLocals, Value.category]; done) | rfl) ?_
  refine own_iloadN X0 hx 1 (hb hby d161_0) rfl rfl ?_
  refine own_iloadN X0 hx 2 (hb hby d161_1) rfl rfl ?_
  refine own_isubz X0 hx 3 (z := (5 : Int32)) (by decide) (hb hby d161_2) rfl ?_
  refine own_istoreN X0 hx 4 #[.val (.ref a), .val (.int (6 : Int32)), .val (.int (1 : Int32)), .val (.int (5 : Int32))] rfl (hb hby d161_3) rfl rfl ?_
  refine own_iloadN X0 hx 5 (hb hby d161_4) rfl rfl ?_
  refine own_if_ge X0 hx 10 8 (hb hby d161_5) (by decide) (by decide) rfl (fun h1 => ?_) (fun h1 => ?_)
  · show own_W p e below _ T0 (mkF m 10 #[.val (.ref a), .val (.int (6 : Int32)), .val (.int (1 : Int32)), .val (.int (5 : Int32))] [])
    refine own_aloadN X0 hx 11 (hb hby d161_10) rfl rfl ?_
    refine own_iloadN X0 hx 12 (hb hby d161_11) rfl rfl ?_
    refine own_baload X0 hx hZ e0 13 5 A_a rfl (by decide) (hb hby d161_12) rfl ?_
    refine own_callS X0 hx hZ hown e0 (y := (⟨"com/example/gentle_indent/gentleindent/util/Utf8WholeEndPinLaw", "need", "(B)I"⟩ : MethodName)) (argsL := [(.int (f 5))]) (rest := []) 16 (rm1 l Z a0 hw (f 5) h0 n0 Z0) (hw _ (List.mem_of_getElem? (i := 6) rfl)) (hw _ (List.mem_of_getElem? (i := 7) rfl)) (hw _ (List.mem_of_getElem? (i := 4) rfl)) (hw _ (List.mem_of_getElem? (i := 8) rfl)) (by decide) (by rw [hml]; rfl) (lenOf (by decide +kernel : parseMethodDescriptor "(B)I" = some ⟨[.byte], some .int⟩) rfl) rfl (hb hby d161_13) rfl (W := 0) rfl (by decide) (by decide) (by decide) (by decide) (fun r2 T3 L4 X5 q6 => ?_)
    obtain ⟨rfl, N7q, e8⟩ := q6
    have N7 := Fr.app N0 N7q
    show own_W p e below _ T3 (mkF m 16 #[.val (.ref a), .val (.int (6 : Int32)), .val (.int (1 : Int32)), .val (.int (5 : Int32))] [(.int (own_need (f 5)))])
    refine own_iloadN X5 hx 17 (hb hby d161_16) rfl rfl ?_
    refine own_icmp_gt X5 hx 22 20 (hb hby d161_17) (by decide) (by decide) rfl (fun h9 => ?_) (fun h9 => ?_)
    · show own_W p e below _ T3 (mkF m 22 #[.val (.ref a), .val (.int (6 : Int32)), .val (.int (1 : Int32)), .val (.int (5 : Int32))] [])
      refine own_iloadN X5 hx 23 (hb hby d161_22) rfl rfl ?_
      refine own_iconst X5 hx 24 (2 : Int32) (by decide) (hb hby d161_23) rfl ?_
      refine own_icmp_lt X5 hx 40 27 (hb hby d161_24) (by decide) (by decide) rfl (fun h10 => ?_) (fun h10 => ?_)
      · show own_W p e below _ T3 (mkF m 40 #[.val (.ref a), .val (.int (6 : Int32)), .val (.int (1 : Int32)), .val (.int (5 : Int32))] [])
        refine own_iloadN X5 hx 41 (hb hby d161_40) rfl rfl ?_
        refine own_iconst X5 hx 42 (3 : Int32) (by decide) (hb hby d161_41) rfl ?_
        refine own_icmp_lt X5 hx 58 45 (hb hby d161_42) (by decide) (by decide) rfl (fun h11 => ?_) (fun h11 => ?_)
        · show own_W p e below _ T3 (mkF m 58 #[.val (.ref a), .val (.int (6 : Int32)), .val (.int (1 : Int32)), .val (.int (5 : Int32))] [])
          refine own_iconst X5 hx 59 (1 : Int32) (by decide) (hb hby d161_58) rfl ?_
          exact own_retZ X5 hx (1 : Int32) (by decide) hret hlk (hb hby d161_59) (by decide) (by decide) ⟨by unfold own_cut_6_1; rw [if_pos h9], N7, e8⟩
        · exact absurd h11 (by decide)
      · exact absurd h10 (by decide)
    · show own_W p e below _ T3 (mkF m 20 #[.val (.ref a), .val (.int (6 : Int32)), .val (.int (1 : Int32)), .val (.int (5 : Int32))] [])
      refine own_iconst X5 hx 21 (0 : Int32) (by decide) (hb hby d161_20) rfl ?_
      exact own_retZ X5 hx (0 : Int32) (by decide) hret hlk (hb hby d161_21) (by decide) (by decide) ⟨by unfold own_cut_6_1; rw [if_neg h9], N7, e8⟩
  · exact absurd h1 (by decide)
theorem d162_0 : decode method_4_code 0 = .ok (.iload_n 1, 1) := by decide +kernel
theorem d162_1 : decode method_4_code 1 = .ok (.iload_n 2, 1) := by decide +kernel
theorem d162_2 : decode method_4_code 2 = .ok (.isub, 1) := by decide +kernel
theorem d162_3 : decode method_4_code 3 = .ok (.istore_n 3, 1) := by decide +kernel
theorem d162_4 : decode method_4_code 4 = .ok (.iload_n 3, 1) := by decide +kernel
theorem d162_5 : decode method_4_code 5 = .ok (.ifCond .ge 5, 3) := by decide +kernel
theorem d162_10 : decode method_4_code 10 = .ok (.aload_n 0, 1) := by decide +kernel
theorem d162_11 : decode method_4_code 11 = .ok (.iload_n 3, 1) := by decide +kernel
theorem d162_12 : decode method_4_code 12 = .ok (.baload, 1) := by decide +kernel
theorem d162_13 : decode method_4_code 13 = .ok (.invokestatic 7, 3) := by decide +kernel
theorem d162_16 : decode method_4_code 16 = .ok (.iload_n 2, 1) := by decide +kernel
theorem d162_17 : decode method_4_code 17 = .ok (.if_icmp .gt 5, 3) := by decide +kernel
theorem d162_20 : decode method_4_code 20 = .ok (.iconst 0, 1) := by decide +kernel
theorem d162_21 : decode method_4_code 21 = .ok (.ireturn, 1) := by decide +kernel
theorem d162_22 : decode method_4_code 22 = .ok (.iload_n 2, 1) := by decide +kernel
theorem d162_23 : decode method_4_code 23 = .ok (.iconst 2, 1) := by decide +kernel
theorem d162_24 : decode method_4_code 24 = .ok (.if_icmp .lt 16, 3) := by decide +kernel
theorem d162_27 : decode method_4_code 27 = .ok (.aload_n 0, 1) := by decide +kernel
theorem d162_28 : decode method_4_code 28 = .ok (.iload_n 1, 1) := by decide +kernel
theorem d162_29 : decode method_4_code 29 = .ok (.iconst 1, 1) := by decide +kernel
theorem d162_30 : decode method_4_code 30 = .ok (.isub, 1) := by decide +kernel
theorem d162_31 : decode method_4_code 31 = .ok (.baload, 1) := by decide +kernel
theorem d162_32 : decode method_4_code 32 = .ok (.invokestatic 13, 3) := by decide +kernel
theorem d162_35 : decode method_4_code 35 = .ok (.ifCond .ne 5, 3) := by decide +kernel
theorem d162_38 : decode method_4_code 38 = .ok (.iconst 0, 1) := by decide +kernel
theorem d162_39 : decode method_4_code 39 = .ok (.ireturn, 1) := by decide +kernel
theorem d162_40 : decode method_4_code 40 = .ok (.iload_n 2, 1) := by decide +kernel
theorem d162_41 : decode method_4_code 41 = .ok (.iconst 3, 1) := by decide +kernel
theorem d162_42 : decode method_4_code 42 = .ok (.if_icmp .lt 16, 3) := by decide +kernel
theorem d162_58 : decode method_4_code 58 = .ok (.iconst 1, 1) := by decide +kernel
theorem d162_59 : decode method_4_code 59 = .ok (.ireturn, 1) := by decide +kernel
set_option maxRecDepth 65536 in
set_option maxHeartbeats 40000000 in
theorem rm3_6_2 (l : Launch) (Z : State) (a0 : Array Value) (hw : ∀ d ∈ tables_1, d.before a0 Z = true) (a : Addr) (f : Nat → Int32) (h0 : Heap) (n0 : Nat) (Z0 : n0 ≤ h0.size) (A_a : own_AI Z h0 a .byte 6 f) :
    own_C l Z (⟨"com/example/gentle_indent/gentleindent/util/Utf8WholeEndPinLaw", "cutAt", "([BII)Z"⟩ : MethodName) method_4_code 4 (some .boolean) [] ({ frames := 1, cells := 0, slots := 0, locals := 16 } : Room) #[(.ref a), (.int (6 : Int32)), (.int (2 : Int32))] h0 (fun v h L => v = some (.int (own_cut_6_2 f)) ∧ Fr n0 L ∧ h = h0) := by
  refine own_body (by first | (simp [plainName, overriddenIn]; done) | decide +kernel) ?_
  intro p e s m below meth c T0 hx hby hml hown hnm hret hlk hZ X0 e0
  have N0 := Fr.nil n0
  refine own_eq (f' := (mkF m 0 #[.val (.ref a), .val (.int (6 : Int32)), .val (.int (2 : Int32)), .unset] [])) (by first | (simp [entryFrame, mkF, argsToLocals, Value.category]; done) | rfl) ?_
  refine own_iloadN X0 hx 1 (hb hby d162_0) rfl rfl ?_
  refine own_iloadN X0 hx 2 (hb hby d162_1) rfl rfl ?_
  refine own_isubz X0 hx 3 (z := (4 : Int32)) (by decide) (hb hby d162_2) rfl ?_
  refine own_istoreN X0 hx 4 #[.val (.ref a), .val (.int (6 : Int32)), .val (.int (2 : Int32)), .val (.int (4 : Int32))] rfl (hb hby d162_3) rfl rfl ?_
  refine own_iloadN X0 hx 5 (hb hby d162_4) rfl rfl ?_
  refine own_if_ge X0 hx 10 8 (hb hby d162_5) (by decide) (by decide) rfl (fun h1 => ?_) (fun h1 => ?_)
  · show own_W p e below _ T0 (mkF m 10 #[.val (.ref a), .val (.int (6 : Int32)), .val (.int (2 : Int32)), .val (.int (4 : Int32))] [])
    refine own_aloadN X0 hx 11 (hb hby d162_10) rfl rfl ?_
    refine own_iloadN X0 hx 12 (hb hby d162_11) rfl rfl ?_
    refine own_baload X0 hx hZ e0 13 4 A_a rfl (by decide) (hb hby d162_12) rfl ?_
    refine own_callS X0 hx hZ hown e0 (y := (⟨"com/example/gentle_indent/gentleindent/util/Utf8WholeEndPinLaw", "need", "(B)I"⟩ : MethodName)) (argsL := [(.int (f 4))]) (rest := []) 16 (rm1 l Z a0 hw (f 4) h0 n0 Z0) (hw _ (List.mem_of_getElem? (i := 6) rfl)) (hw _ (List.mem_of_getElem? (i := 7) rfl)) (hw _ (List.mem_of_getElem? (i := 4) rfl)) (hw _ (List.mem_of_getElem? (i := 8) rfl)) (by decide) (by rw [hml]; rfl) (lenOf (by decide +kernel : parseMethodDescriptor "(B)I" = some ⟨[.byte], some .int⟩) rfl) rfl (hb hby d162_13) rfl (W := 0) rfl (by decide) (by decide) (by decide) (by decide) (fun r2 T3 L4 X5 q6 => ?_)
    obtain ⟨rfl, N7q, e8⟩ := q6
    have N7 := Fr.app N0 N7q
    show own_W p e below _ T3 (mkF m 16 #[.val (.ref a), .val (.int (6 : Int32)), .val (.int (2 : Int32)), .val (.int (4 : Int32))] [(.int (own_need (f 4)))])
    refine own_iloadN X5 hx 17 (hb hby d162_16) rfl rfl ?_
    refine own_icmp_gt X5 hx 22 20 (hb hby d162_17) (by decide) (by decide) rfl (fun h9 => ?_) (fun h9 => ?_)
    · show own_W p e below _ T3 (mkF m 22 #[.val (.ref a), .val (.int (6 : Int32)), .val (.int (2 : Int32)), .val (.int (4 : Int32))] [])
      refine own_iloadN X5 hx 23 (hb hby d162_22) rfl rfl ?_
      refine own_iconst X5 hx 24 (2 : Int32) (by decide) (hb hby d162_23) rfl ?_
      refine own_icmp_lt X5 hx 40 27 (hb hby d162_24) (by decide) (by decide) rfl (fun h10 => ?_) (fun h10 => ?_)
      · exact absurd h10 (by decide)
      · show own_W p e below _ T3 (mkF m 27 #[.val (.ref a), .val (.int (6 : Int32)), .val (.int (2 : Int32)), .val (.int (4 : Int32))] [])
        refine own_aloadN X5 hx 28 (hb hby d162_27) rfl rfl ?_
        refine own_iloadN X5 hx 29 (hb hby d162_28) rfl rfl ?_
        refine own_iconst X5 hx 30 (1 : Int32) (by decide) (hb hby d162_29) rfl ?_
        refine own_isubz X5 hx 31 (z := (5 : Int32)) (by decide) (hb hby d162_30) rfl ?_
        refine own_baload X5 hx hZ e8 32 5 A_a rfl (by decide) (hb hby d162_31) rfl ?_
        refine own_callS X5 hx hZ hown e8 (y := (⟨"com/example/gentle_indent/gentleindent/util/Utf8WholeEndPinLaw", "cont", "(B)Z"⟩ : MethodName)) (argsL := [(.int (f 5))]) (rest := []) 35 (rm2 l Z a0 hw (f 5) h0 n0 Z0) (hw _ (List.mem_of_getElem? (i := 13) rfl)) (hw _ (List.mem_of_getElem? (i := 14) rfl)) (hw _ (List.mem_of_getElem? (i := 4) rfl)) (hw _ (List.mem_of_getElem? (i := 15) rfl)) (by decide) (by rw [hml]; rfl) (lenOf (by decide +kernel : parseMethodDescriptor "(B)Z" = some ⟨[.byte], some .boolean⟩) rfl) rfl (hb hby d162_32) rfl (W := 0) rfl (by decide) (by decide) (by decide) (by decide) (fun r11 T12 L13 X14 q15 => ?_)
        obtain ⟨rfl, N16q, e17⟩ := q15
        have N16 := Fr.app N7 N16q
        show own_W p e below _ T12 (mkF m 35 #[.val (.ref a), .val (.int (6 : Int32)), .val (.int (2 : Int32)), .val (.int (4 : Int32))] [(.int (own_cont (f 5)))])
        refine own_if_ne X14 hx 40 38 (hb hby d162_35) (by decide) (by decide) rfl (fun h18 => ?_) (fun h18 => ?_)
        · show own_W p e below _ T12 (mkF m 40 #[.val (.ref a), .val (.int (6 : Int32)), .val (.int (2 : Int32)), .val (.int (4 : Int32))] [])
          refine own_iloadN X14 hx 41 (hb hby d162_40) rfl rfl ?_
          refine own_iconst X14 hx 42 (3 : Int32) (by decide) (hb hby d162_41) rfl ?_
          refine own_icmp_lt X14 hx 58 45 (hb hby d162_42) (by decide) (by decide) rfl (fun h19 => ?_) (fun h19 => ?_)
          · show own_W p e below _ T12 (mkF m 58 #[.val (.ref a), .val (.int (6 : Int32)), .val (.int (2 : Int32)), .val (.int (4 : Int32))] [])
            refine own_iconst X14 hx 59 (1 : Int32) (by decide) (hb hby d162_58) rfl ?_
            exact own_retZ X14 hx (1 : Int32) (by decide) hret hlk (hb hby d162_59) (by decide) (by decide) ⟨by unfold own_cut_6_2; rw [if_pos h9, if_neg h18], N16, e17⟩
          · exact absurd h19 (by decide)
        · show own_W p e below _ T12 (mkF m 38 #[.val (.ref a), .val (.int (6 : Int32)), .val (.int (2 : Int32)), .val (.int (4 : Int32))] [])
          refine own_iconst X14 hx 39 (0 : Int32) (by decide) (hb hby d162_38) rfl ?_
          exact own_retZ X14 hx (0 : Int32) (by decide) hret hlk (hb hby d162_39) (by decide) (by decide) ⟨by unfold own_cut_6_2; rw [if_pos h9, if_pos h18], N16, e17⟩
    · show own_W p e below _ T3 (mkF m 20 #[.val (.ref a), .val (.int (6 : Int32)), .val (.int (2 : Int32)), .val (.int (4 : Int32))] [])
      refine own_iconst X5 hx 21 (0 : Int32) (by decide) (hb hby d162_20) rfl ?_
      exact own_retZ X5 hx (0 : Int32) (by decide) hret hlk (hb hby d162_21) (by decide) (by decide) ⟨by unfold own_cut_6_2; rw [if_neg h9], N7, e8⟩
  · exact absurd h1 (by decide)
theorem d163_0 : decode method_4_code 0 = .ok (.iload_n 1, 1) := by decide +kernel
theorem d163_1 : decode method_4_code 1 = .ok (.iload_n 2, 1) := by decide +kernel
theorem d163_2 : decode method_4_code 2 = .ok (.isub, 1) := by decide +kernel
theorem d163_3 : decode method_4_code 3 = .ok (.istore_n 3, 1) := by decide +kernel
theorem d163_4 : decode method_4_code 4 = .ok (.iload_n 3, 1) := by decide +kernel
theorem d163_5 : decode method_4_code 5 = .ok (.ifCond .ge 5, 3) := by decide +kernel
theorem d163_10 : decode method_4_code 10 = .ok (.aload_n 0, 1) := by decide +kernel
theorem d163_11 : decode method_4_code 11 = .ok (.iload_n 3, 1) := by decide +kernel
theorem d163_12 : decode method_4_code 12 = .ok (.baload, 1) := by decide +kernel
theorem d163_13 : decode method_4_code 13 = .ok (.invokestatic 7, 3) := by decide +kernel
theorem d163_16 : decode method_4_code 16 = .ok (.iload_n 2, 1) := by decide +kernel
theorem d163_17 : decode method_4_code 17 = .ok (.if_icmp .gt 5, 3) := by decide +kernel
theorem d163_20 : decode method_4_code 20 = .ok (.iconst 0, 1) := by decide +kernel
theorem d163_21 : decode method_4_code 21 = .ok (.ireturn, 1) := by decide +kernel
theorem d163_22 : decode method_4_code 22 = .ok (.iload_n 2, 1) := by decide +kernel
theorem d163_23 : decode method_4_code 23 = .ok (.iconst 2, 1) := by decide +kernel
theorem d163_24 : decode method_4_code 24 = .ok (.if_icmp .lt 16, 3) := by decide +kernel
theorem d163_27 : decode method_4_code 27 = .ok (.aload_n 0, 1) := by decide +kernel
theorem d163_28 : decode method_4_code 28 = .ok (.iload_n 1, 1) := by decide +kernel
theorem d163_29 : decode method_4_code 29 = .ok (.iconst 1, 1) := by decide +kernel
theorem d163_30 : decode method_4_code 30 = .ok (.isub, 1) := by decide +kernel
theorem d163_31 : decode method_4_code 31 = .ok (.baload, 1) := by decide +kernel
theorem d163_32 : decode method_4_code 32 = .ok (.invokestatic 13, 3) := by decide +kernel
theorem d163_35 : decode method_4_code 35 = .ok (.ifCond .ne 5, 3) := by decide +kernel
theorem d163_38 : decode method_4_code 38 = .ok (.iconst 0, 1) := by decide +kernel
theorem d163_39 : decode method_4_code 39 = .ok (.ireturn, 1) := by decide +kernel
theorem d163_40 : decode method_4_code 40 = .ok (.iload_n 2, 1) := by decide +kernel
theorem d163_41 : decode method_4_code 41 = .ok (.iconst 3, 1) := by decide +kernel
theorem d163_42 : decode method_4_code 42 = .ok (.if_icmp .lt 16, 3) := by decide +kernel
theorem d163_45 : decode method_4_code 45 = .ok (.aload_n 0, 1) := by decide +kernel
theorem d163_46 : decode method_4_code 46 = .ok (.iload_n 1, 1) := by decide +kernel
theorem d163_47 : decode method_4_code 47 = .ok (.iconst 2, 1) := by decide +kernel
theorem d163_48 : decode method_4_code 48 = .ok (.isub, 1) := by decide +kernel
theorem d163_49 : decode method_4_code 49 = .ok (.baload, 1) := by decide +kernel
theorem d163_50 : decode method_4_code 50 = .ok (.invokestatic 13, 3) := by decide +kernel
theorem d163_53 : decode method_4_code 53 = .ok (.ifCond .ne 5, 3) := by decide +kernel
theorem d163_56 : decode method_4_code 56 = .ok (.iconst 0, 1) := by decide +kernel
theorem d163_57 : decode method_4_code 57 = .ok (.ireturn, 1) := by decide +kernel
theorem d163_58 : decode method_4_code 58 = .ok (.iconst 1, 1) := by decide +kernel
theorem d163_59 : decode method_4_code 59 = .ok (.ireturn, 1) := by decide +kernel
set_option maxRecDepth 65536 in
set_option maxHeartbeats 40000000 in
theorem rm3_6_3 (l : Launch) (Z : State) (a0 : Array Value) (hw : ∀ d ∈ tables_1, d.before a0 Z = true) (a : Addr) (f : Nat → Int32) (h0 : Heap) (n0 : Nat) (Z0 : n0 ≤ h0.size) (A_a : own_AI Z h0 a .byte 6 f) :
    own_C l Z (⟨"com/example/gentle_indent/gentleindent/util/Utf8WholeEndPinLaw", "cutAt", "([BII)Z"⟩ : MethodName) method_4_code 4 (some .boolean) [] ({ frames := 1, cells := 0, slots := 0, locals := 16 } : Room) #[(.ref a), (.int (6 : Int32)), (.int (3 : Int32))] h0 (fun v h L => v = some (.int (own_cut_6_3 f)) ∧ Fr n0 L ∧ h = h0) := by
  refine own_body (by first | (simp [plainName, overriddenIn]; done) | decide +kernel) ?_
  intro p e s m below meth c T0 hx hby hml hown hnm hret hlk hZ X0 e0
  have N0 := Fr.nil n0
  refine own_eq (f' := (mkF m 0 #[.val (.ref a), .val (.int (6 : Int32)), .val (.int (3 : Int32)), .unset] [])) (by first | (simp [entryFrame, mkF, argsToLocals, Value.category]; done) | rfl) ?_
  refine own_iloadN X0 hx 1 (hb hby d163_0) rfl rfl ?_
  refine own_iloadN X0 hx 2 (hb hby d163_1) rfl rfl ?_
  refine own_isubz X0 hx 3 (z := (3 : Int32)) (by decide) (hb hby d163_2) rfl ?_
  refine own_istoreN X0 hx 4 #[.val (.ref a), .val (.int (6 : Int32)), .val (.int (3 : Int32)), .val (.int (3 : Int32))] rfl (hb hby d163_3) rfl rfl ?_
  refine own_iloadN X0 hx 5 (hb hby d163_4) rfl rfl ?_
  refine own_if_ge X0 hx 10 8 (hb hby d163_5) (by decide) (by decide) rfl (fun h1 => ?_) (fun h1 => ?_)
  · show own_W p e below _ T0 (mkF m 10 #[.val (.ref a), .val (.int (6 : Int32)), .val (.int (3 : Int32)), .val (.int (3 : Int32))] [])
    refine own_aloadN X0 hx 11 (hb hby d163_10) rfl rfl ?_
    refine own_iloadN X0 hx 12 (hb hby d163_11) rfl rfl ?_
    refine own_baload X0 hx hZ e0 13 3 A_a rfl (by decide) (hb hby d163_12) rfl ?_
    refine own_callS X0 hx hZ hown e0 (y := (⟨"com/example/gentle_indent/gentleindent/util/Utf8WholeEndPinLaw", "need", "(B)I"⟩ : MethodName)) (argsL := [(.int (f 3))]) (rest := []) 16 (rm1 l Z a0 hw (f 3) h0 n0 Z0) (hw _ (List.mem_of_getElem? (i := 6) rfl)) (hw _ (List.mem_of_getElem? (i := 7) rfl)) (hw _ (List.mem_of_getElem? (i := 4) rfl)) (hw _ (List.mem_of_getElem? (i := 8) rfl)) (by decide) (by rw [hml]; rfl) (lenOf (by decide +kernel : parseMethodDescriptor "(B)I" = some ⟨[.byte], some .int⟩) rfl) rfl (hb hby d163_13) rfl (W := 0) rfl (by decide) (by decide) (by decide) (by decide) (fun r2 T3 L4 X5 q6 => ?_)
    obtain ⟨rfl, N7q, e8⟩ := q6
    have N7 := Fr.app N0 N7q
    show own_W p e below _ T3 (mkF m 16 #[.val (.ref a), .val (.int (6 : Int32)), .val (.int (3 : Int32)), .val (.int (3 : Int32))] [(.int (own_need (f 3)))])
    refine own_iloadN X5 hx 17 (hb hby d163_16) rfl rfl ?_
    refine own_icmp_gt X5 hx 22 20 (hb hby d163_17) (by decide) (by decide) rfl (fun h9 => ?_) (fun h9 => ?_)
    · show own_W p e below _ T3 (mkF m 22 #[.val (.ref a), .val (.int (6 : Int32)), .val (.int (3 : Int32)), .val (.int (3 : Int32))] [])
      refine own_iloadN X5 hx 23 (hb hby d163_22) rfl rfl ?_
      refine own_iconst X5 hx 24 (2 : Int32) (by decide) (hb hby d163_23) rfl ?_
      refine own_icmp_lt X5 hx 40 27 (hb hby d163_24) (by decide) (by decide) rfl (fun h10 => ?_) (fun h10 => ?_)
      · exact absurd h10 (by decide)
      · show own_W p e below _ T3 (mkF m 27 #[.val (.ref a), .val (.int (6 : Int32)), .val (.int (3 : Int32)), .val (.int (3 : Int32))] [])
        refine own_aloadN X5 hx 28 (hb hby d163_27) rfl rfl ?_
        refine own_iloadN X5 hx 29 (hb hby d163_28) rfl rfl ?_
        refine own_iconst X5 hx 30 (1 : Int32) (by decide) (hb hby d163_29) rfl ?_
        refine own_isubz X5 hx 31 (z := (5 : Int32)) (by decide) (hb hby d163_30) rfl ?_
        refine own_baload X5 hx hZ e8 32 5 A_a rfl (by decide) (hb hby d163_31) rfl ?_
        refine own_callS X5 hx hZ hown e8 (y := (⟨"com/example/gentle_indent/gentleindent/util/Utf8WholeEndPinLaw", "cont", "(B)Z"⟩ : MethodName)) (argsL := [(.int (f 5))]) (rest := []) 35 (rm2 l Z a0 hw (f 5) h0 n0 Z0) (hw _ (List.mem_of_getElem? (i := 13) rfl)) (hw _ (List.mem_of_getElem? (i := 14) rfl)) (hw _ (List.mem_of_getElem? (i := 4) rfl)) (hw _ (List.mem_of_getElem? (i := 15) rfl)) (by decide) (by rw [hml]; rfl) (lenOf (by decide +kernel : parseMethodDescriptor "(B)Z" = some ⟨[.byte], some .boolean⟩) rfl) rfl (hb hby d163_32) rfl (W := 0) rfl (by decide) (by decide) (by decide) (by decide) (fun r11 T12 L13 X14 q15 => ?_)
        obtain ⟨rfl, N16q, e17⟩ := q15
        have N16 := Fr.app N7 N16q
        show own_W p e below _ T12 (mkF m 35 #[.val (.ref a), .val (.int (6 : Int32)), .val (.int (3 : Int32)), .val (.int (3 : Int32))] [(.int (own_cont (f 5)))])
        refine own_if_ne X14 hx 40 38 (hb hby d163_35) (by decide) (by decide) rfl (fun h18 => ?_) (fun h18 => ?_)
        · show own_W p e below _ T12 (mkF m 40 #[.val (.ref a), .val (.int (6 : Int32)), .val (.int (3 : Int32)), .val (.int (3 : Int32))] [])
          refine own_iloadN X14 hx 41 (hb hby d163_40) rfl rfl ?_
          refine own_iconst X14 hx 42 (3 : Int32) (by decide) (hb hby d163_41) rfl ?_
          refine own_icmp_lt X14 hx 58 45 (hb hby d163_42) (by decide) (by decide) rfl (fun h19 => ?_) (fun h19 => ?_)
          · exact absurd h19 (by decide)
          · show own_W p e below _ T12 (mkF m 45 #[.val (.ref a), .val (.int (6 : Int32)), .val (.int (3 : Int32)), .val (.int (3 : Int32))] [])
            refine own_aloadN X14 hx 46 (hb hby d163_45) rfl rfl ?_
            refine own_iloadN X14 hx 47 (hb hby d163_46) rfl rfl ?_
            refine own_iconst X14 hx 48 (2 : Int32) (by decide) (hb hby d163_47) rfl ?_
            refine own_isubz X14 hx 49 (z := (4 : Int32)) (by decide) (hb hby d163_48) rfl ?_
            refine own_baload X14 hx hZ e17 50 4 A_a rfl (by decide) (hb hby d163_49) rfl ?_
            refine own_callS X14 hx hZ hown e17 (y := (⟨"com/example/gentle_indent/gentleindent/util/Utf8WholeEndPinLaw", "cont", "(B)Z"⟩ : MethodName)) (argsL := [(.int (f 4))]) (rest := []) 53 (rm2 l Z a0 hw (f 4) h0 n0 Z0) (hw _ (List.mem_of_getElem? (i := 13) rfl)) (hw _ (List.mem_of_getElem? (i := 14) rfl)) (hw _ (List.mem_of_getElem? (i := 4) rfl)) (hw _ (List.mem_of_getElem? (i := 15) rfl)) (by decide) (by rw [hml]; rfl) (lenOf (by decide +kernel : parseMethodDescriptor "(B)Z" = some ⟨[.byte], some .boolean⟩) rfl) rfl (hb hby d163_50) rfl (W := 0) rfl (by decide) (by decide) (by decide) (by decide) (fun r20 T21 L22 X23 q24 => ?_)
            obtain ⟨rfl, N25q, e26⟩ := q24
            have N25 := Fr.app N16 N25q
            show own_W p e below _ T21 (mkF m 53 #[.val (.ref a), .val (.int (6 : Int32)), .val (.int (3 : Int32)), .val (.int (3 : Int32))] [(.int (own_cont (f 4)))])
            refine own_if_ne X23 hx 58 56 (hb hby d163_53) (by decide) (by decide) rfl (fun h27 => ?_) (fun h27 => ?_)
            · show own_W p e below _ T21 (mkF m 58 #[.val (.ref a), .val (.int (6 : Int32)), .val (.int (3 : Int32)), .val (.int (3 : Int32))] [])
              refine own_iconst X23 hx 59 (1 : Int32) (by decide) (hb hby d163_58) rfl ?_
              exact own_retZ X23 hx (1 : Int32) (by decide) hret hlk (hb hby d163_59) (by decide) (by decide) ⟨by unfold own_cut_6_3; rw [if_pos h9, if_neg h18, if_neg h27], N25, e26⟩
            · show own_W p e below _ T21 (mkF m 56 #[.val (.ref a), .val (.int (6 : Int32)), .val (.int (3 : Int32)), .val (.int (3 : Int32))] [])
              refine own_iconst X23 hx 57 (0 : Int32) (by decide) (hb hby d163_56) rfl ?_
              exact own_retZ X23 hx (0 : Int32) (by decide) hret hlk (hb hby d163_57) (by decide) (by decide) ⟨by unfold own_cut_6_3; rw [if_pos h9, if_neg h18, if_pos h27], N25, e26⟩
        · show own_W p e below _ T12 (mkF m 38 #[.val (.ref a), .val (.int (6 : Int32)), .val (.int (3 : Int32)), .val (.int (3 : Int32))] [])
          refine own_iconst X14 hx 39 (0 : Int32) (by decide) (hb hby d163_38) rfl ?_
          exact own_retZ X14 hx (0 : Int32) (by decide) hret hlk (hb hby d163_39) (by decide) (by decide) ⟨by unfold own_cut_6_3; rw [if_pos h9, if_pos h18], N16, e17⟩
    · show own_W p e below _ T3 (mkF m 20 #[.val (.ref a), .val (.int (6 : Int32)), .val (.int (3 : Int32)), .val (.int (3 : Int32))] [])
      refine own_iconst X5 hx 21 (0 : Int32) (by decide) (hb hby d163_20) rfl ?_
      exact own_retZ X5 hx (0 : Int32) (by decide) hret hlk (hb hby d163_21) (by decide) (by decide) ⟨by unfold own_cut_6_3; rw [if_neg h9], N7, e8⟩
  · exact absurd h1 (by decide)
theorem d206_0 : decode prog_84_method_4_code 0 = .ok (.iload_n 1, 1) := by decide +kernel
theorem d206_1 : decode prog_84_method_4_code 1 = .ok (.iconst 1, 1) := by decide +kernel
theorem d206_2 : decode prog_84_method_4_code 2 = .ok (.isub, 1) := by decide +kernel
theorem d206_3 : decode prog_84_method_4_code 3 = .ok (.istore_n 2, 1) := by decide +kernel
theorem d206_4 : decode prog_84_method_4_code 4 = .ok (.iload_n 2, 1) := by decide +kernel
theorem d206_5 : decode prog_84_method_4_code 5 = .ok (.ifCond .le 29, 3) := by decide +kernel
theorem d206_8 : decode prog_84_method_4_code 8 = .ok (.iload_n 2, 1) := by decide +kernel
theorem d206_9 : decode prog_84_method_4_code 9 = .ok (.iload_n 1, 1) := by decide +kernel
theorem d206_10 : decode prog_84_method_4_code 10 = .ok (.iconst 4, 1) := by decide +kernel
theorem d206_11 : decode prog_84_method_4_code 11 = .ok (.isub, 1) := by decide +kernel
theorem d206_12 : decode prog_84_method_4_code 12 = .ok (.if_icmp .le 22, 3) := by decide +kernel
theorem d206_15 : decode prog_84_method_4_code 15 = .ok (.aload_n 0, 1) := by decide +kernel
theorem d206_16 : decode prog_84_method_4_code 16 = .ok (.iload_n 2, 1) := by decide +kernel
theorem d206_17 : decode prog_84_method_4_code 17 = .ok (.baload, 1) := by decide +kernel
theorem d206_18 : decode prog_84_method_4_code 18 = .ok (.sipush 192, 3) := by decide +kernel
theorem d206_21 : decode prog_84_method_4_code 21 = .ok (.iand, 1) := by decide +kernel
theorem d206_22 : decode prog_84_method_4_code 22 = .ok (.sipush 128, 3) := by decide +kernel
theorem d206_25 : decode prog_84_method_4_code 25 = .ok (.if_icmp .ne 9, 3) := by decide +kernel
theorem d206_28 : decode prog_84_method_4_code 28 = .ok (.iinc 2 (-1), 3) := by decide +kernel
theorem d206_31 : decode prog_84_method_4_code 31 = .ok (.goto (-27), 3) := by decide +kernel
theorem d206_34 : decode prog_84_method_4_code 34 = .ok (.iload_n 2, 1) := by decide +kernel
theorem d206_35 : decode prog_84_method_4_code 35 = .ok (.ifCond .ge 5, 3) := by decide +kernel
theorem d206_40 : decode prog_84_method_4_code 40 = .ok (.aload_n 0, 1) := by decide +kernel
theorem d206_41 : decode prog_84_method_4_code 41 = .ok (.iload_n 2, 1) := by decide +kernel
theorem d206_42 : decode prog_84_method_4_code 42 = .ok (.baload, 1) := by decide +kernel
theorem d206_43 : decode prog_84_method_4_code 43 = .ok (.sipush 255, 3) := by decide +kernel
theorem d206_46 : decode prog_84_method_4_code 46 = .ok (.iand, 1) := by decide +kernel
theorem d206_47 : decode prog_84_method_4_code 47 = .ok (.istore_n 3, 1) := by decide +kernel
theorem d206_48 : decode prog_84_method_4_code 48 = .ok (.iload_n 3, 1) := by decide +kernel
theorem d206_49 : decode prog_84_method_4_code 49 = .ok (.sipush 240, 3) := by decide +kernel
theorem d206_52 : decode prog_84_method_4_code 52 = .ok (.if_icmp .lt 7, 3) := by decide +kernel
theorem d206_55 : decode prog_84_method_4_code 55 = .ok (.iconst 4, 1) := by decide +kernel
theorem d206_56 : decode prog_84_method_4_code 56 = .ok (.goto 26, 3) := by decide +kernel
theorem d206_59 : decode prog_84_method_4_code 59 = .ok (.iload_n 3, 1) := by decide +kernel
theorem d206_60 : decode prog_84_method_4_code 60 = .ok (.sipush 224, 3) := by decide +kernel
theorem d206_63 : decode prog_84_method_4_code 63 = .ok (.if_icmp .lt 7, 3) := by decide +kernel
theorem d206_66 : decode prog_84_method_4_code 66 = .ok (.iconst 3, 1) := by decide +kernel
theorem d206_67 : decode prog_84_method_4_code 67 = .ok (.goto 15, 3) := by decide +kernel
theorem d206_70 : decode prog_84_method_4_code 70 = .ok (.iload_n 3, 1) := by decide +kernel
theorem d206_71 : decode prog_84_method_4_code 71 = .ok (.sipush 192, 3) := by decide +kernel
theorem d206_74 : decode prog_84_method_4_code 74 = .ok (.if_icmp .lt 7, 3) := by decide +kernel
theorem d206_77 : decode prog_84_method_4_code 77 = .ok (.iconst 2, 1) := by decide +kernel
theorem d206_78 : decode prog_84_method_4_code 78 = .ok (.goto 4, 3) := by decide +kernel
theorem d206_81 : decode prog_84_method_4_code 81 = .ok (.iconst 1, 1) := by decide +kernel
theorem d206_82 : decode prog_84_method_4_code 82 = .ok (.istore 4, 2) := by decide +kernel
theorem d206_84 : decode prog_84_method_4_code 84 = .ok (.iload_n 2, 1) := by decide +kernel
theorem d206_85 : decode prog_84_method_4_code 85 = .ok (.iload 4, 2) := by decide +kernel
theorem d206_87 : decode prog_84_method_4_code 87 = .ok (.iadd, 1) := by decide +kernel
theorem d206_88 : decode prog_84_method_4_code 88 = .ok (.iload_n 1, 1) := by decide +kernel
theorem d206_89 : decode prog_84_method_4_code 89 = .ok (.if_icmp .le 7, 3) := by decide +kernel
theorem d206_92 : decode prog_84_method_4_code 92 = .ok (.iload_n 2, 1) := by decide +kernel
theorem d206_93 : decode prog_84_method_4_code 93 = .ok (.goto 4, 3) := by decide +kernel
theorem d206_96 : decode prog_84_method_4_code 96 = .ok (.iload_n 1, 1) := by decide +kernel
theorem d206_97 : decode prog_84_method_4_code 97 = .ok (.ireturn, 1) := by decide +kernel
set_option maxRecDepth 65536 in
set_option maxHeartbeats 40000000 in
theorem rm4_6 (l : Launch) (Z : State) (a0 : Array Value) (hw : ∀ d ∈ tables_1, d.before a0 Z = true) (a : Addr) (f : Nat → Int32) (h0 : Heap) (n0 : Nat) (Z0 : n0 ≤ h0.size) (A_a : own_AI Z h0 a .byte 6 f) :
    own_C l Z (⟨"com/example/gentle_indent/gentleindent/util/Utf8", "wholeEnd", "([BI)I"⟩ : MethodName) prog_84_method_4_code 5 (some .int) [] ({ frames := 0, cells := 0, slots := 0, locals := 0 } : Room) #[(.ref a), (.int (6 : Int32))] h0 (fun v h L => v = some (.int (own_we_6 f)) ∧ Fr n0 L ∧ h = h0) := by
  refine own_body (by first | (simp [plainName, overriddenIn]; done) | decide +kernel) ?_
  intro p e s m below meth c T0 hx hby hml hown hnm hret hlk hZ X0 e0
  have N0 := Fr.nil n0
  refine own_eq (f' := (mkF m 0 #[.val (.ref a), .val (.int (6 : Int32)), .unset, .unset, .unset] [])) (by first | (simp [entryFrame, mkF, argsToLocals, Value.category]; done) | rfl) ?_
  refine own_iloadN X0 hx 1 (hb hby d206_0) rfl rfl ?_
  refine own_iconst X0 hx 2 (1 : Int32) (by decide) (hb hby d206_1) rfl ?_
  refine own_isubz X0 hx 3 (z := (5 : Int32)) (by decide) (hb hby d206_2) rfl ?_
  refine own_istoreN X0 hx 4 #[.val (.ref a), .val (.int (6 : Int32)), .val (.int (5 : Int32)), .unset, .unset] rfl (hb hby d206_3) rfl rfl ?_
  refine own_iloadN X0 hx 5 (hb hby d206_4) rfl rfl ?_
  refine own_if_le X0 hx 34 8 (hb hby d206_5) (by decide) (by decide) rfl (fun h1 => ?_) (fun h1 => ?_)
  · exact absurd h1 (by decide)
  · show own_W p e below _ T0 (mkF m 8 #[.val (.ref a), .val (.int (6 : Int32)), .val (.int (5 : Int32)), .unset, .unset] [])
    refine own_iloadN X0 hx 9 (hb hby d206_8) rfl rfl ?_
    refine own_iloadN X0 hx 10 (hb hby d206_9) rfl rfl ?_
    refine own_iconst X0 hx 11 (4 : Int32) (by decide) (hb hby d206_10) rfl ?_
    refine own_isubz X0 hx 12 (z := (2 : Int32)) (by decide) (hb hby d206_11) rfl ?_
    refine own_icmp_le X0 hx 34 15 (hb hby d206_12) (by decide) (by decide) rfl (fun h2 => ?_) (fun h2 => ?_)
    · exact absurd h2 (by decide)
    · show own_W p e below _ T0 (mkF m 15 #[.val (.ref a), .val (.int (6 : Int32)), .val (.int (5 : Int32)), .unset, .unset] [])
      refine own_aloadN X0 hx 16 (hb hby d206_15) rfl rfl ?_
      refine own_iloadN X0 hx 17 (hb hby d206_16) rfl rfl ?_
      refine own_baload X0 hx hZ e0 18 5 A_a rfl (by decide) (hb hby d206_17) rfl ?_
      refine own_sipush X0 hx 21 (192 : Int32) (by decide) (hb hby d206_18) rfl ?_
      refine own_iand X0 hx 22 (hb hby d206_21) rfl ?_
      refine own_sipush X0 hx 25 (128 : Int32) (by decide) (hb hby d206_22) rfl ?_
      refine own_icmp_ne X0 hx 34 28 (hb hby d206_25) (by decide) (by decide) rfl (fun h3 => ?_) (fun h3 => ?_)
      · show own_W p e below _ T0 (mkF m 34 #[.val (.ref a), .val (.int (6 : Int32)), .val (.int (5 : Int32)), .unset, .unset] [])
        refine own_iloadN X0 hx 35 (hb hby d206_34) rfl rfl ?_
        refine own_if_ge X0 hx 40 38 (hb hby d206_35) (by decide) (by decide) rfl (fun h4 => ?_) (fun h4 => ?_)
        · show own_W p e below _ T0 (mkF m 40 #[.val (.ref a), .val (.int (6 : Int32)), .val (.int (5 : Int32)), .unset, .unset] [])
          refine own_aloadN X0 hx 41 (hb hby d206_40) rfl rfl ?_
          refine own_iloadN X0 hx 42 (hb hby d206_41) rfl rfl ?_
          refine own_baload X0 hx hZ e0 43 5 A_a rfl (by decide) (hb hby d206_42) rfl ?_
          refine own_sipush X0 hx 46 (255 : Int32) (by decide) (hb hby d206_43) rfl ?_
          refine own_iand X0 hx 47 (hb hby d206_46) rfl ?_
          refine own_istoreN X0 hx 48 #[.val (.ref a), .val (.int (6 : Int32)), .val (.int (5 : Int32)), .val (.int ((f 5) &&& (255 : Int32))), .unset] rfl (hb hby d206_47) rfl rfl ?_
          refine own_iloadN X0 hx 49 (hb hby d206_48) rfl rfl ?_
          refine own_sipush X0 hx 52 (240 : Int32) (by decide) (hb hby d206_49) rfl ?_
          refine own_icmp_lt X0 hx 59 55 (hb hby d206_52) (by decide) (by decide) rfl (fun h5 => ?_) (fun h5 => ?_)
          · show own_W p e below _ T0 (mkF m 59 #[.val (.ref a), .val (.int (6 : Int32)), .val (.int (5 : Int32)), .val (.int ((f 5) &&& (255 : Int32))), .unset] [])
            refine own_iloadN X0 hx 60 (hb hby d206_59) rfl rfl ?_
            refine own_sipush X0 hx 63 (224 : Int32) (by decide) (hb hby d206_60) rfl ?_
            refine own_icmp_lt X0 hx 70 66 (hb hby d206_63) (by decide) (by decide) rfl (fun h6 => ?_) (fun h6 => ?_)
            · show own_W p e below _ T0 (mkF m 70 #[.val (.ref a), .val (.int (6 : Int32)), .val (.int (5 : Int32)), .val (.int ((f 5) &&& (255 : Int32))), .unset] [])
              refine own_iloadN X0 hx 71 (hb hby d206_70) rfl rfl ?_
              refine own_sipush X0 hx 74 (192 : Int32) (by decide) (hb hby d206_71) rfl ?_
              refine own_icmp_lt X0 hx 81 77 (hb hby d206_74) (by decide) (by decide) rfl (fun h7 => ?_) (fun h7 => ?_)
              · show own_W p e below _ T0 (mkF m 81 #[.val (.ref a), .val (.int (6 : Int32)), .val (.int (5 : Int32)), .val (.int ((f 5) &&& (255 : Int32))), .unset] [])
                refine own_iconst X0 hx 82 (1 : Int32) (by decide) (hb hby d206_81) rfl ?_
                refine own_istore X0 hx 84 #[.val (.ref a), .val (.int (6 : Int32)), .val (.int (5 : Int32)), .val (.int ((f 5) &&& (255 : Int32))), .val (.int (1 : Int32))] rfl (hb hby d206_82) rfl rfl ?_
                refine own_iloadN X0 hx 85 (hb hby d206_84) rfl rfl ?_
                refine own_iload X0 hx 87 (hb hby d206_85) rfl rfl ?_
                refine own_iaddz X0 hx 88 (z := (6 : Int32)) (by decide) (hb hby d206_87) rfl ?_
                refine own_iloadN X0 hx 89 (hb hby d206_88) rfl rfl ?_
                refine own_icmp_le X0 hx 96 92 (hb hby d206_89) (by decide) (by decide) rfl (fun h8 => ?_) (fun h8 => ?_)
                · show own_W p e below _ T0 (mkF m 96 #[.val (.ref a), .val (.int (6 : Int32)), .val (.int (5 : Int32)), .val (.int ((f 5) &&& (255 : Int32))), .val (.int (1 : Int32))] [])
                  refine own_iloadN X0 hx 97 (hb hby d206_96) rfl rfl ?_
                  exact own_retI X0 hx hret hlk (hb hby d206_97) (by decide) (by decide) ⟨by unfold own_we_6; rw [if_neg h3, if_pos h5, if_pos h6, if_pos h7], N0, e0⟩
                · exact absurd h8 (by decide)
              · show own_W p e below _ T0 (mkF m 77 #[.val (.ref a), .val (.int (6 : Int32)), .val (.int (5 : Int32)), .val (.int ((f 5) &&& (255 : Int32))), .unset] [])
                refine own_iconst X0 hx 78 (2 : Int32) (by decide) (hb hby d206_77) rfl ?_
                refine own_goto X0 hx 82 (hb hby d206_78) (by decide) (by decide) ?_
                refine own_istore X0 hx 84 #[.val (.ref a), .val (.int (6 : Int32)), .val (.int (5 : Int32)), .val (.int ((f 5) &&& (255 : Int32))), .val (.int (2 : Int32))] rfl (hb hby d206_82) rfl rfl ?_
                refine own_iloadN X0 hx 85 (hb hby d206_84) rfl rfl ?_
                refine own_iload X0 hx 87 (hb hby d206_85) rfl rfl ?_
                refine own_iaddz X0 hx 88 (z := (7 : Int32)) (by decide) (hb hby d206_87) rfl ?_
                refine own_iloadN X0 hx 89 (hb hby d206_88) rfl rfl ?_
                refine own_icmp_le X0 hx 96 92 (hb hby d206_89) (by decide) (by decide) rfl (fun h9 => ?_) (fun h9 => ?_)
                · exact absurd h9 (by decide)
                · show own_W p e below _ T0 (mkF m 92 #[.val (.ref a), .val (.int (6 : Int32)), .val (.int (5 : Int32)), .val (.int ((f 5) &&& (255 : Int32))), .val (.int (2 : Int32))] [])
                  refine own_iloadN X0 hx 93 (hb hby d206_92) rfl rfl ?_
                  refine own_goto X0 hx 97 (hb hby d206_93) (by decide) (by decide) ?_
                  exact own_retI X0 hx hret hlk (hb hby d206_97) (by decide) (by decide) ⟨by unfold own_we_6; rw [if_neg h3, if_pos h5, if_pos h6, if_neg h7], N0, e0⟩
            · show own_W p e below _ T0 (mkF m 66 #[.val (.ref a), .val (.int (6 : Int32)), .val (.int (5 : Int32)), .val (.int ((f 5) &&& (255 : Int32))), .unset] [])
              refine own_iconst X0 hx 67 (3 : Int32) (by decide) (hb hby d206_66) rfl ?_
              refine own_goto X0 hx 82 (hb hby d206_67) (by decide) (by decide) ?_
              refine own_istore X0 hx 84 #[.val (.ref a), .val (.int (6 : Int32)), .val (.int (5 : Int32)), .val (.int ((f 5) &&& (255 : Int32))), .val (.int (3 : Int32))] rfl (hb hby d206_82) rfl rfl ?_
              refine own_iloadN X0 hx 85 (hb hby d206_84) rfl rfl ?_
              refine own_iload X0 hx 87 (hb hby d206_85) rfl rfl ?_
              refine own_iaddz X0 hx 88 (z := (8 : Int32)) (by decide) (hb hby d206_87) rfl ?_
              refine own_iloadN X0 hx 89 (hb hby d206_88) rfl rfl ?_
              refine own_icmp_le X0 hx 96 92 (hb hby d206_89) (by decide) (by decide) rfl (fun h10 => ?_) (fun h10 => ?_)
              · exact absurd h10 (by decide)
              · show own_W p e below _ T0 (mkF m 92 #[.val (.ref a), .val (.int (6 : Int32)), .val (.int (5 : Int32)), .val (.int ((f 5) &&& (255 : Int32))), .val (.int (3 : Int32))] [])
                refine own_iloadN X0 hx 93 (hb hby d206_92) rfl rfl ?_
                refine own_goto X0 hx 97 (hb hby d206_93) (by decide) (by decide) ?_
                exact own_retI X0 hx hret hlk (hb hby d206_97) (by decide) (by decide) ⟨by unfold own_we_6; rw [if_neg h3, if_pos h5, if_neg h6], N0, e0⟩
          · show own_W p e below _ T0 (mkF m 55 #[.val (.ref a), .val (.int (6 : Int32)), .val (.int (5 : Int32)), .val (.int ((f 5) &&& (255 : Int32))), .unset] [])
            refine own_iconst X0 hx 56 (4 : Int32) (by decide) (hb hby d206_55) rfl ?_
            refine own_goto X0 hx 82 (hb hby d206_56) (by decide) (by decide) ?_
            refine own_istore X0 hx 84 #[.val (.ref a), .val (.int (6 : Int32)), .val (.int (5 : Int32)), .val (.int ((f 5) &&& (255 : Int32))), .val (.int (4 : Int32))] rfl (hb hby d206_82) rfl rfl ?_
            refine own_iloadN X0 hx 85 (hb hby d206_84) rfl rfl ?_
            refine own_iload X0 hx 87 (hb hby d206_85) rfl rfl ?_
            refine own_iaddz X0 hx 88 (z := (9 : Int32)) (by decide) (hb hby d206_87) rfl ?_
            refine own_iloadN X0 hx 89 (hb hby d206_88) rfl rfl ?_
            refine own_icmp_le X0 hx 96 92 (hb hby d206_89) (by decide) (by decide) rfl (fun h11 => ?_) (fun h11 => ?_)
            · exact absurd h11 (by decide)
            · show own_W p e below _ T0 (mkF m 92 #[.val (.ref a), .val (.int (6 : Int32)), .val (.int (5 : Int32)), .val (.int ((f 5) &&& (255 : Int32))), .val (.int (4 : Int32))] [])
              refine own_iloadN X0 hx 93 (hb hby d206_92) rfl rfl ?_
              refine own_goto X0 hx 97 (hb hby d206_93) (by decide) (by decide) ?_
              exact own_retI X0 hx hret hlk (hb hby d206_97) (by decide) (by decide) ⟨by unfold own_we_6; rw [if_neg h3, if_neg h5], N0, e0⟩
        · exact absurd h4 (by decide)
      · show own_W p e below _ T0 (mkF m 28 #[.val (.ref a), .val (.int (6 : Int32)), .val (.int (5 : Int32)), .unset, .unset] [])
        refine own_iinc X0 hx (4 : Int32) 31 #[.val (.ref a), .val (.int (6 : Int32)), .val (.int (4 : Int32)), .unset, .unset] (by decide) (hb hby d206_28) rfl rfl rfl ?_
        refine own_goto X0 hx 4 (hb hby d206_31) (by decide) (by decide) ?_
        refine own_iloadN X0 hx 5 (hb hby d206_4) rfl rfl ?_
        refine own_if_le X0 hx 34 8 (hb hby d206_5) (by decide) (by decide) rfl (fun h12 => ?_) (fun h12 => ?_)
        · exact absurd h12 (by decide)
        · show own_W p e below _ T0 (mkF m 8 #[.val (.ref a), .val (.int (6 : Int32)), .val (.int (4 : Int32)), .unset, .unset] [])
          refine own_iloadN X0 hx 9 (hb hby d206_8) rfl rfl ?_
          refine own_iloadN X0 hx 10 (hb hby d206_9) rfl rfl ?_
          refine own_iconst X0 hx 11 (4 : Int32) (by decide) (hb hby d206_10) rfl ?_
          refine own_isubz X0 hx 12 (z := (2 : Int32)) (by decide) (hb hby d206_11) rfl ?_
          refine own_icmp_le X0 hx 34 15 (hb hby d206_12) (by decide) (by decide) rfl (fun h13 => ?_) (fun h13 => ?_)
          · exact absurd h13 (by decide)
          · show own_W p e below _ T0 (mkF m 15 #[.val (.ref a), .val (.int (6 : Int32)), .val (.int (4 : Int32)), .unset, .unset] [])
            refine own_aloadN X0 hx 16 (hb hby d206_15) rfl rfl ?_
            refine own_iloadN X0 hx 17 (hb hby d206_16) rfl rfl ?_
            refine own_baload X0 hx hZ e0 18 4 A_a rfl (by decide) (hb hby d206_17) rfl ?_
            refine own_sipush X0 hx 21 (192 : Int32) (by decide) (hb hby d206_18) rfl ?_
            refine own_iand X0 hx 22 (hb hby d206_21) rfl ?_
            refine own_sipush X0 hx 25 (128 : Int32) (by decide) (hb hby d206_22) rfl ?_
            refine own_icmp_ne X0 hx 34 28 (hb hby d206_25) (by decide) (by decide) rfl (fun h14 => ?_) (fun h14 => ?_)
            · show own_W p e below _ T0 (mkF m 34 #[.val (.ref a), .val (.int (6 : Int32)), .val (.int (4 : Int32)), .unset, .unset] [])
              refine own_iloadN X0 hx 35 (hb hby d206_34) rfl rfl ?_
              refine own_if_ge X0 hx 40 38 (hb hby d206_35) (by decide) (by decide) rfl (fun h15 => ?_) (fun h15 => ?_)
              · show own_W p e below _ T0 (mkF m 40 #[.val (.ref a), .val (.int (6 : Int32)), .val (.int (4 : Int32)), .unset, .unset] [])
                refine own_aloadN X0 hx 41 (hb hby d206_40) rfl rfl ?_
                refine own_iloadN X0 hx 42 (hb hby d206_41) rfl rfl ?_
                refine own_baload X0 hx hZ e0 43 4 A_a rfl (by decide) (hb hby d206_42) rfl ?_
                refine own_sipush X0 hx 46 (255 : Int32) (by decide) (hb hby d206_43) rfl ?_
                refine own_iand X0 hx 47 (hb hby d206_46) rfl ?_
                refine own_istoreN X0 hx 48 #[.val (.ref a), .val (.int (6 : Int32)), .val (.int (4 : Int32)), .val (.int ((f 4) &&& (255 : Int32))), .unset] rfl (hb hby d206_47) rfl rfl ?_
                refine own_iloadN X0 hx 49 (hb hby d206_48) rfl rfl ?_
                refine own_sipush X0 hx 52 (240 : Int32) (by decide) (hb hby d206_49) rfl ?_
                refine own_icmp_lt X0 hx 59 55 (hb hby d206_52) (by decide) (by decide) rfl (fun h16 => ?_) (fun h16 => ?_)
                · show own_W p e below _ T0 (mkF m 59 #[.val (.ref a), .val (.int (6 : Int32)), .val (.int (4 : Int32)), .val (.int ((f 4) &&& (255 : Int32))), .unset] [])
                  refine own_iloadN X0 hx 60 (hb hby d206_59) rfl rfl ?_
                  refine own_sipush X0 hx 63 (224 : Int32) (by decide) (hb hby d206_60) rfl ?_
                  refine own_icmp_lt X0 hx 70 66 (hb hby d206_63) (by decide) (by decide) rfl (fun h17 => ?_) (fun h17 => ?_)
                  · show own_W p e below _ T0 (mkF m 70 #[.val (.ref a), .val (.int (6 : Int32)), .val (.int (4 : Int32)), .val (.int ((f 4) &&& (255 : Int32))), .unset] [])
                    refine own_iloadN X0 hx 71 (hb hby d206_70) rfl rfl ?_
                    refine own_sipush X0 hx 74 (192 : Int32) (by decide) (hb hby d206_71) rfl ?_
                    refine own_icmp_lt X0 hx 81 77 (hb hby d206_74) (by decide) (by decide) rfl (fun h18 => ?_) (fun h18 => ?_)
                    · show own_W p e below _ T0 (mkF m 81 #[.val (.ref a), .val (.int (6 : Int32)), .val (.int (4 : Int32)), .val (.int ((f 4) &&& (255 : Int32))), .unset] [])
                      refine own_iconst X0 hx 82 (1 : Int32) (by decide) (hb hby d206_81) rfl ?_
                      refine own_istore X0 hx 84 #[.val (.ref a), .val (.int (6 : Int32)), .val (.int (4 : Int32)), .val (.int ((f 4) &&& (255 : Int32))), .val (.int (1 : Int32))] rfl (hb hby d206_82) rfl rfl ?_
                      refine own_iloadN X0 hx 85 (hb hby d206_84) rfl rfl ?_
                      refine own_iload X0 hx 87 (hb hby d206_85) rfl rfl ?_
                      refine own_iaddz X0 hx 88 (z := (5 : Int32)) (by decide) (hb hby d206_87) rfl ?_
                      refine own_iloadN X0 hx 89 (hb hby d206_88) rfl rfl ?_
                      refine own_icmp_le X0 hx 96 92 (hb hby d206_89) (by decide) (by decide) rfl (fun h19 => ?_) (fun h19 => ?_)
                      · show own_W p e below _ T0 (mkF m 96 #[.val (.ref a), .val (.int (6 : Int32)), .val (.int (4 : Int32)), .val (.int ((f 4) &&& (255 : Int32))), .val (.int (1 : Int32))] [])
                        refine own_iloadN X0 hx 97 (hb hby d206_96) rfl rfl ?_
                        exact own_retI X0 hx hret hlk (hb hby d206_97) (by decide) (by decide) ⟨by unfold own_we_6; rw [if_pos h3, if_neg h14, if_pos h16, if_pos h17, if_pos h18], N0, e0⟩
                      · exact absurd h19 (by decide)
                    · show own_W p e below _ T0 (mkF m 77 #[.val (.ref a), .val (.int (6 : Int32)), .val (.int (4 : Int32)), .val (.int ((f 4) &&& (255 : Int32))), .unset] [])
                      refine own_iconst X0 hx 78 (2 : Int32) (by decide) (hb hby d206_77) rfl ?_
                      refine own_goto X0 hx 82 (hb hby d206_78) (by decide) (by decide) ?_
                      refine own_istore X0 hx 84 #[.val (.ref a), .val (.int (6 : Int32)), .val (.int (4 : Int32)), .val (.int ((f 4) &&& (255 : Int32))), .val (.int (2 : Int32))] rfl (hb hby d206_82) rfl rfl ?_
                      refine own_iloadN X0 hx 85 (hb hby d206_84) rfl rfl ?_
                      refine own_iload X0 hx 87 (hb hby d206_85) rfl rfl ?_
                      refine own_iaddz X0 hx 88 (z := (6 : Int32)) (by decide) (hb hby d206_87) rfl ?_
                      refine own_iloadN X0 hx 89 (hb hby d206_88) rfl rfl ?_
                      refine own_icmp_le X0 hx 96 92 (hb hby d206_89) (by decide) (by decide) rfl (fun h20 => ?_) (fun h20 => ?_)
                      · show own_W p e below _ T0 (mkF m 96 #[.val (.ref a), .val (.int (6 : Int32)), .val (.int (4 : Int32)), .val (.int ((f 4) &&& (255 : Int32))), .val (.int (2 : Int32))] [])
                        refine own_iloadN X0 hx 97 (hb hby d206_96) rfl rfl ?_
                        exact own_retI X0 hx hret hlk (hb hby d206_97) (by decide) (by decide) ⟨by unfold own_we_6; rw [if_pos h3, if_neg h14, if_pos h16, if_pos h17, if_neg h18], N0, e0⟩
                      · exact absurd h20 (by decide)
                  · show own_W p e below _ T0 (mkF m 66 #[.val (.ref a), .val (.int (6 : Int32)), .val (.int (4 : Int32)), .val (.int ((f 4) &&& (255 : Int32))), .unset] [])
                    refine own_iconst X0 hx 67 (3 : Int32) (by decide) (hb hby d206_66) rfl ?_
                    refine own_goto X0 hx 82 (hb hby d206_67) (by decide) (by decide) ?_
                    refine own_istore X0 hx 84 #[.val (.ref a), .val (.int (6 : Int32)), .val (.int (4 : Int32)), .val (.int ((f 4) &&& (255 : Int32))), .val (.int (3 : Int32))] rfl (hb hby d206_82) rfl rfl ?_
                    refine own_iloadN X0 hx 85 (hb hby d206_84) rfl rfl ?_
                    refine own_iload X0 hx 87 (hb hby d206_85) rfl rfl ?_
                    refine own_iaddz X0 hx 88 (z := (7 : Int32)) (by decide) (hb hby d206_87) rfl ?_
                    refine own_iloadN X0 hx 89 (hb hby d206_88) rfl rfl ?_
                    refine own_icmp_le X0 hx 96 92 (hb hby d206_89) (by decide) (by decide) rfl (fun h21 => ?_) (fun h21 => ?_)
                    · exact absurd h21 (by decide)
                    · show own_W p e below _ T0 (mkF m 92 #[.val (.ref a), .val (.int (6 : Int32)), .val (.int (4 : Int32)), .val (.int ((f 4) &&& (255 : Int32))), .val (.int (3 : Int32))] [])
                      refine own_iloadN X0 hx 93 (hb hby d206_92) rfl rfl ?_
                      refine own_goto X0 hx 97 (hb hby d206_93) (by decide) (by decide) ?_
                      exact own_retI X0 hx hret hlk (hb hby d206_97) (by decide) (by decide) ⟨by unfold own_we_6; rw [if_pos h3, if_neg h14, if_pos h16, if_neg h17], N0, e0⟩
                · show own_W p e below _ T0 (mkF m 55 #[.val (.ref a), .val (.int (6 : Int32)), .val (.int (4 : Int32)), .val (.int ((f 4) &&& (255 : Int32))), .unset] [])
                  refine own_iconst X0 hx 56 (4 : Int32) (by decide) (hb hby d206_55) rfl ?_
                  refine own_goto X0 hx 82 (hb hby d206_56) (by decide) (by decide) ?_
                  refine own_istore X0 hx 84 #[.val (.ref a), .val (.int (6 : Int32)), .val (.int (4 : Int32)), .val (.int ((f 4) &&& (255 : Int32))), .val (.int (4 : Int32))] rfl (hb hby d206_82) rfl rfl ?_
                  refine own_iloadN X0 hx 85 (hb hby d206_84) rfl rfl ?_
                  refine own_iload X0 hx 87 (hb hby d206_85) rfl rfl ?_
                  refine own_iaddz X0 hx 88 (z := (8 : Int32)) (by decide) (hb hby d206_87) rfl ?_
                  refine own_iloadN X0 hx 89 (hb hby d206_88) rfl rfl ?_
                  refine own_icmp_le X0 hx 96 92 (hb hby d206_89) (by decide) (by decide) rfl (fun h22 => ?_) (fun h22 => ?_)
                  · exact absurd h22 (by decide)
                  · show own_W p e below _ T0 (mkF m 92 #[.val (.ref a), .val (.int (6 : Int32)), .val (.int (4 : Int32)), .val (.int ((f 4) &&& (255 : Int32))), .val (.int (4 : Int32))] [])
                    refine own_iloadN X0 hx 93 (hb hby d206_92) rfl rfl ?_
                    refine own_goto X0 hx 97 (hb hby d206_93) (by decide) (by decide) ?_
                    exact own_retI X0 hx hret hlk (hb hby d206_97) (by decide) (by decide) ⟨by unfold own_we_6; rw [if_pos h3, if_neg h14, if_neg h16], N0, e0⟩
              · exact absurd h15 (by decide)
            · show own_W p e below _ T0 (mkF m 28 #[.val (.ref a), .val (.int (6 : Int32)), .val (.int (4 : Int32)), .unset, .unset] [])
              refine own_iinc X0 hx (3 : Int32) 31 #[.val (.ref a), .val (.int (6 : Int32)), .val (.int (3 : Int32)), .unset, .unset] (by decide) (hb hby d206_28) rfl rfl rfl ?_
              refine own_goto X0 hx 4 (hb hby d206_31) (by decide) (by decide) ?_
              refine own_iloadN X0 hx 5 (hb hby d206_4) rfl rfl ?_
              refine own_if_le X0 hx 34 8 (hb hby d206_5) (by decide) (by decide) rfl (fun h23 => ?_) (fun h23 => ?_)
              · exact absurd h23 (by decide)
              · show own_W p e below _ T0 (mkF m 8 #[.val (.ref a), .val (.int (6 : Int32)), .val (.int (3 : Int32)), .unset, .unset] [])
                refine own_iloadN X0 hx 9 (hb hby d206_8) rfl rfl ?_
                refine own_iloadN X0 hx 10 (hb hby d206_9) rfl rfl ?_
                refine own_iconst X0 hx 11 (4 : Int32) (by decide) (hb hby d206_10) rfl ?_
                refine own_isubz X0 hx 12 (z := (2 : Int32)) (by decide) (hb hby d206_11) rfl ?_
                refine own_icmp_le X0 hx 34 15 (hb hby d206_12) (by decide) (by decide) rfl (fun h24 => ?_) (fun h24 => ?_)
                · exact absurd h24 (by decide)
                · show own_W p e below _ T0 (mkF m 15 #[.val (.ref a), .val (.int (6 : Int32)), .val (.int (3 : Int32)), .unset, .unset] [])
                  refine own_aloadN X0 hx 16 (hb hby d206_15) rfl rfl ?_
                  refine own_iloadN X0 hx 17 (hb hby d206_16) rfl rfl ?_
                  refine own_baload X0 hx hZ e0 18 3 A_a rfl (by decide) (hb hby d206_17) rfl ?_
                  refine own_sipush X0 hx 21 (192 : Int32) (by decide) (hb hby d206_18) rfl ?_
                  refine own_iand X0 hx 22 (hb hby d206_21) rfl ?_
                  refine own_sipush X0 hx 25 (128 : Int32) (by decide) (hb hby d206_22) rfl ?_
                  refine own_icmp_ne X0 hx 34 28 (hb hby d206_25) (by decide) (by decide) rfl (fun h25 => ?_) (fun h25 => ?_)
                  · show own_W p e below _ T0 (mkF m 34 #[.val (.ref a), .val (.int (6 : Int32)), .val (.int (3 : Int32)), .unset, .unset] [])
                    refine own_iloadN X0 hx 35 (hb hby d206_34) rfl rfl ?_
                    refine own_if_ge X0 hx 40 38 (hb hby d206_35) (by decide) (by decide) rfl (fun h26 => ?_) (fun h26 => ?_)
                    · show own_W p e below _ T0 (mkF m 40 #[.val (.ref a), .val (.int (6 : Int32)), .val (.int (3 : Int32)), .unset, .unset] [])
                      refine own_aloadN X0 hx 41 (hb hby d206_40) rfl rfl ?_
                      refine own_iloadN X0 hx 42 (hb hby d206_41) rfl rfl ?_
                      refine own_baload X0 hx hZ e0 43 3 A_a rfl (by decide) (hb hby d206_42) rfl ?_
                      refine own_sipush X0 hx 46 (255 : Int32) (by decide) (hb hby d206_43) rfl ?_
                      refine own_iand X0 hx 47 (hb hby d206_46) rfl ?_
                      refine own_istoreN X0 hx 48 #[.val (.ref a), .val (.int (6 : Int32)), .val (.int (3 : Int32)), .val (.int ((f 3) &&& (255 : Int32))), .unset] rfl (hb hby d206_47) rfl rfl ?_
                      refine own_iloadN X0 hx 49 (hb hby d206_48) rfl rfl ?_
                      refine own_sipush X0 hx 52 (240 : Int32) (by decide) (hb hby d206_49) rfl ?_
                      refine own_icmp_lt X0 hx 59 55 (hb hby d206_52) (by decide) (by decide) rfl (fun h27 => ?_) (fun h27 => ?_)
                      · show own_W p e below _ T0 (mkF m 59 #[.val (.ref a), .val (.int (6 : Int32)), .val (.int (3 : Int32)), .val (.int ((f 3) &&& (255 : Int32))), .unset] [])
                        refine own_iloadN X0 hx 60 (hb hby d206_59) rfl rfl ?_
                        refine own_sipush X0 hx 63 (224 : Int32) (by decide) (hb hby d206_60) rfl ?_
                        refine own_icmp_lt X0 hx 70 66 (hb hby d206_63) (by decide) (by decide) rfl (fun h28 => ?_) (fun h28 => ?_)
                        · show own_W p e below _ T0 (mkF m 70 #[.val (.ref a), .val (.int (6 : Int32)), .val (.int (3 : Int32)), .val (.int ((f 3) &&& (255 : Int32))), .unset] [])
                          refine own_iloadN X0 hx 71 (hb hby d206_70) rfl rfl ?_
                          refine own_sipush X0 hx 74 (192 : Int32) (by decide) (hb hby d206_71) rfl ?_
                          refine own_icmp_lt X0 hx 81 77 (hb hby d206_74) (by decide) (by decide) rfl (fun h29 => ?_) (fun h29 => ?_)
                          · show own_W p e below _ T0 (mkF m 81 #[.val (.ref a), .val (.int (6 : Int32)), .val (.int (3 : Int32)), .val (.int ((f 3) &&& (255 : Int32))), .unset] [])
                            refine own_iconst X0 hx 82 (1 : Int32) (by decide) (hb hby d206_81) rfl ?_
                            refine own_istore X0 hx 84 #[.val (.ref a), .val (.int (6 : Int32)), .val (.int (3 : Int32)), .val (.int ((f 3) &&& (255 : Int32))), .val (.int (1 : Int32))] rfl (hb hby d206_82) rfl rfl ?_
                            refine own_iloadN X0 hx 85 (hb hby d206_84) rfl rfl ?_
                            refine own_iload X0 hx 87 (hb hby d206_85) rfl rfl ?_
                            refine own_iaddz X0 hx 88 (z := (4 : Int32)) (by decide) (hb hby d206_87) rfl ?_
                            refine own_iloadN X0 hx 89 (hb hby d206_88) rfl rfl ?_
                            refine own_icmp_le X0 hx 96 92 (hb hby d206_89) (by decide) (by decide) rfl (fun h30 => ?_) (fun h30 => ?_)
                            · show own_W p e below _ T0 (mkF m 96 #[.val (.ref a), .val (.int (6 : Int32)), .val (.int (3 : Int32)), .val (.int ((f 3) &&& (255 : Int32))), .val (.int (1 : Int32))] [])
                              refine own_iloadN X0 hx 97 (hb hby d206_96) rfl rfl ?_
                              exact own_retI X0 hx hret hlk (hb hby d206_97) (by decide) (by decide) ⟨by unfold own_we_6; rw [if_pos h3, if_pos h14, if_neg h25, if_pos h27, if_pos h28, if_pos h29], N0, e0⟩
                            · exact absurd h30 (by decide)
                          · show own_W p e below _ T0 (mkF m 77 #[.val (.ref a), .val (.int (6 : Int32)), .val (.int (3 : Int32)), .val (.int ((f 3) &&& (255 : Int32))), .unset] [])
                            refine own_iconst X0 hx 78 (2 : Int32) (by decide) (hb hby d206_77) rfl ?_
                            refine own_goto X0 hx 82 (hb hby d206_78) (by decide) (by decide) ?_
                            refine own_istore X0 hx 84 #[.val (.ref a), .val (.int (6 : Int32)), .val (.int (3 : Int32)), .val (.int ((f 3) &&& (255 : Int32))), .val (.int (2 : Int32))] rfl (hb hby d206_82) rfl rfl ?_
                            refine own_iloadN X0 hx 85 (hb hby d206_84) rfl rfl ?_
                            refine own_iload X0 hx 87 (hb hby d206_85) rfl rfl ?_
                            refine own_iaddz X0 hx 88 (z := (5 : Int32)) (by decide) (hb hby d206_87) rfl ?_
                            refine own_iloadN X0 hx 89 (hb hby d206_88) rfl rfl ?_
                            refine own_icmp_le X0 hx 96 92 (hb hby d206_89) (by decide) (by decide) rfl (fun h31 => ?_) (fun h31 => ?_)
                            · show own_W p e below _ T0 (mkF m 96 #[.val (.ref a), .val (.int (6 : Int32)), .val (.int (3 : Int32)), .val (.int ((f 3) &&& (255 : Int32))), .val (.int (2 : Int32))] [])
                              refine own_iloadN X0 hx 97 (hb hby d206_96) rfl rfl ?_
                              exact own_retI X0 hx hret hlk (hb hby d206_97) (by decide) (by decide) ⟨by unfold own_we_6; rw [if_pos h3, if_pos h14, if_neg h25, if_pos h27, if_pos h28, if_neg h29], N0, e0⟩
                            · exact absurd h31 (by decide)
                        · show own_W p e below _ T0 (mkF m 66 #[.val (.ref a), .val (.int (6 : Int32)), .val (.int (3 : Int32)), .val (.int ((f 3) &&& (255 : Int32))), .unset] [])
                          refine own_iconst X0 hx 67 (3 : Int32) (by decide) (hb hby d206_66) rfl ?_
                          refine own_goto X0 hx 82 (hb hby d206_67) (by decide) (by decide) ?_
                          refine own_istore X0 hx 84 #[.val (.ref a), .val (.int (6 : Int32)), .val (.int (3 : Int32)), .val (.int ((f 3) &&& (255 : Int32))), .val (.int (3 : Int32))] rfl (hb hby d206_82) rfl rfl ?_
                          refine own_iloadN X0 hx 85 (hb hby d206_84) rfl rfl ?_
                          refine own_iload X0 hx 87 (hb hby d206_85) rfl rfl ?_
                          refine own_iaddz X0 hx 88 (z := (6 : Int32)) (by decide) (hb hby d206_87) rfl ?_
                          refine own_iloadN X0 hx 89 (hb hby d206_88) rfl rfl ?_
                          refine own_icmp_le X0 hx 96 92 (hb hby d206_89) (by decide) (by decide) rfl (fun h32 => ?_) (fun h32 => ?_)
                          · show own_W p e below _ T0 (mkF m 96 #[.val (.ref a), .val (.int (6 : Int32)), .val (.int (3 : Int32)), .val (.int ((f 3) &&& (255 : Int32))), .val (.int (3 : Int32))] [])
                            refine own_iloadN X0 hx 97 (hb hby d206_96) rfl rfl ?_
                            exact own_retI X0 hx hret hlk (hb hby d206_97) (by decide) (by decide) ⟨by unfold own_we_6; rw [if_pos h3, if_pos h14, if_neg h25, if_pos h27, if_neg h28], N0, e0⟩
                          · exact absurd h32 (by decide)
                      · show own_W p e below _ T0 (mkF m 55 #[.val (.ref a), .val (.int (6 : Int32)), .val (.int (3 : Int32)), .val (.int ((f 3) &&& (255 : Int32))), .unset] [])
                        refine own_iconst X0 hx 56 (4 : Int32) (by decide) (hb hby d206_55) rfl ?_
                        refine own_goto X0 hx 82 (hb hby d206_56) (by decide) (by decide) ?_
                        refine own_istore X0 hx 84 #[.val (.ref a), .val (.int (6 : Int32)), .val (.int (3 : Int32)), .val (.int ((f 3) &&& (255 : Int32))), .val (.int (4 : Int32))] rfl (hb hby d206_82) rfl rfl ?_
                        refine own_iloadN X0 hx 85 (hb hby d206_84) rfl rfl ?_
                        refine own_iload X0 hx 87 (hb hby d206_85) rfl rfl ?_
                        refine own_iaddz X0 hx 88 (z := (7 : Int32)) (by decide) (hb hby d206_87) rfl ?_
                        refine own_iloadN X0 hx 89 (hb hby d206_88) rfl rfl ?_
                        refine own_icmp_le X0 hx 96 92 (hb hby d206_89) (by decide) (by decide) rfl (fun h33 => ?_) (fun h33 => ?_)
                        · exact absurd h33 (by decide)
                        · show own_W p e below _ T0 (mkF m 92 #[.val (.ref a), .val (.int (6 : Int32)), .val (.int (3 : Int32)), .val (.int ((f 3) &&& (255 : Int32))), .val (.int (4 : Int32))] [])
                          refine own_iloadN X0 hx 93 (hb hby d206_92) rfl rfl ?_
                          refine own_goto X0 hx 97 (hb hby d206_93) (by decide) (by decide) ?_
                          exact own_retI X0 hx hret hlk (hb hby d206_97) (by decide) (by decide) ⟨by unfold own_we_6; rw [if_pos h3, if_pos h14, if_neg h25, if_neg h27], N0, e0⟩
                    · exact absurd h26 (by decide)
                  · show own_W p e below _ T0 (mkF m 28 #[.val (.ref a), .val (.int (6 : Int32)), .val (.int (3 : Int32)), .unset, .unset] [])
                    refine own_iinc X0 hx (2 : Int32) 31 #[.val (.ref a), .val (.int (6 : Int32)), .val (.int (2 : Int32)), .unset, .unset] (by decide) (hb hby d206_28) rfl rfl rfl ?_
                    refine own_goto X0 hx 4 (hb hby d206_31) (by decide) (by decide) ?_
                    refine own_iloadN X0 hx 5 (hb hby d206_4) rfl rfl ?_
                    refine own_if_le X0 hx 34 8 (hb hby d206_5) (by decide) (by decide) rfl (fun h34 => ?_) (fun h34 => ?_)
                    · exact absurd h34 (by decide)
                    · show own_W p e below _ T0 (mkF m 8 #[.val (.ref a), .val (.int (6 : Int32)), .val (.int (2 : Int32)), .unset, .unset] [])
                      refine own_iloadN X0 hx 9 (hb hby d206_8) rfl rfl ?_
                      refine own_iloadN X0 hx 10 (hb hby d206_9) rfl rfl ?_
                      refine own_iconst X0 hx 11 (4 : Int32) (by decide) (hb hby d206_10) rfl ?_
                      refine own_isubz X0 hx 12 (z := (2 : Int32)) (by decide) (hb hby d206_11) rfl ?_
                      refine own_icmp_le X0 hx 34 15 (hb hby d206_12) (by decide) (by decide) rfl (fun h35 => ?_) (fun h35 => ?_)
                      · show own_W p e below _ T0 (mkF m 34 #[.val (.ref a), .val (.int (6 : Int32)), .val (.int (2 : Int32)), .unset, .unset] [])
                        refine own_iloadN X0 hx 35 (hb hby d206_34) rfl rfl ?_
                        refine own_if_ge X0 hx 40 38 (hb hby d206_35) (by decide) (by decide) rfl (fun h36 => ?_) (fun h36 => ?_)
                        · show own_W p e below _ T0 (mkF m 40 #[.val (.ref a), .val (.int (6 : Int32)), .val (.int (2 : Int32)), .unset, .unset] [])
                          refine own_aloadN X0 hx 41 (hb hby d206_40) rfl rfl ?_
                          refine own_iloadN X0 hx 42 (hb hby d206_41) rfl rfl ?_
                          refine own_baload X0 hx hZ e0 43 2 A_a rfl (by decide) (hb hby d206_42) rfl ?_
                          refine own_sipush X0 hx 46 (255 : Int32) (by decide) (hb hby d206_43) rfl ?_
                          refine own_iand X0 hx 47 (hb hby d206_46) rfl ?_
                          refine own_istoreN X0 hx 48 #[.val (.ref a), .val (.int (6 : Int32)), .val (.int (2 : Int32)), .val (.int ((f 2) &&& (255 : Int32))), .unset] rfl (hb hby d206_47) rfl rfl ?_
                          refine own_iloadN X0 hx 49 (hb hby d206_48) rfl rfl ?_
                          refine own_sipush X0 hx 52 (240 : Int32) (by decide) (hb hby d206_49) rfl ?_
                          refine own_icmp_lt X0 hx 59 55 (hb hby d206_52) (by decide) (by decide) rfl (fun h37 => ?_) (fun h37 => ?_)
                          · show own_W p e below _ T0 (mkF m 59 #[.val (.ref a), .val (.int (6 : Int32)), .val (.int (2 : Int32)), .val (.int ((f 2) &&& (255 : Int32))), .unset] [])
                            refine own_iloadN X0 hx 60 (hb hby d206_59) rfl rfl ?_
                            refine own_sipush X0 hx 63 (224 : Int32) (by decide) (hb hby d206_60) rfl ?_
                            refine own_icmp_lt X0 hx 70 66 (hb hby d206_63) (by decide) (by decide) rfl (fun h38 => ?_) (fun h38 => ?_)
                            · show own_W p e below _ T0 (mkF m 70 #[.val (.ref a), .val (.int (6 : Int32)), .val (.int (2 : Int32)), .val (.int ((f 2) &&& (255 : Int32))), .unset] [])
                              refine own_iloadN X0 hx 71 (hb hby d206_70) rfl rfl ?_
                              refine own_sipush X0 hx 74 (192 : Int32) (by decide) (hb hby d206_71) rfl ?_
                              refine own_icmp_lt X0 hx 81 77 (hb hby d206_74) (by decide) (by decide) rfl (fun h39 => ?_) (fun h39 => ?_)
                              · show own_W p e below _ T0 (mkF m 81 #[.val (.ref a), .val (.int (6 : Int32)), .val (.int (2 : Int32)), .val (.int ((f 2) &&& (255 : Int32))), .unset] [])
                                refine own_iconst X0 hx 82 (1 : Int32) (by decide) (hb hby d206_81) rfl ?_
                                refine own_istore X0 hx 84 #[.val (.ref a), .val (.int (6 : Int32)), .val (.int (2 : Int32)), .val (.int ((f 2) &&& (255 : Int32))), .val (.int (1 : Int32))] rfl (hb hby d206_82) rfl rfl ?_
                                refine own_iloadN X0 hx 85 (hb hby d206_84) rfl rfl ?_
                                refine own_iload X0 hx 87 (hb hby d206_85) rfl rfl ?_
                                refine own_iaddz X0 hx 88 (z := (3 : Int32)) (by decide) (hb hby d206_87) rfl ?_
                                refine own_iloadN X0 hx 89 (hb hby d206_88) rfl rfl ?_
                                refine own_icmp_le X0 hx 96 92 (hb hby d206_89) (by decide) (by decide) rfl (fun h40 => ?_) (fun h40 => ?_)
                                · show own_W p e below _ T0 (mkF m 96 #[.val (.ref a), .val (.int (6 : Int32)), .val (.int (2 : Int32)), .val (.int ((f 2) &&& (255 : Int32))), .val (.int (1 : Int32))] [])
                                  refine own_iloadN X0 hx 97 (hb hby d206_96) rfl rfl ?_
                                  exact own_retI X0 hx hret hlk (hb hby d206_97) (by decide) (by decide) ⟨by unfold own_we_6; rw [if_pos h3, if_pos h14, if_pos h25, if_pos h37, if_pos h38, if_pos h39], N0, e0⟩
                                · exact absurd h40 (by decide)
                              · show own_W p e below _ T0 (mkF m 77 #[.val (.ref a), .val (.int (6 : Int32)), .val (.int (2 : Int32)), .val (.int ((f 2) &&& (255 : Int32))), .unset] [])
                                refine own_iconst X0 hx 78 (2 : Int32) (by decide) (hb hby d206_77) rfl ?_
                                refine own_goto X0 hx 82 (hb hby d206_78) (by decide) (by decide) ?_
                                refine own_istore X0 hx 84 #[.val (.ref a), .val (.int (6 : Int32)), .val (.int (2 : Int32)), .val (.int ((f 2) &&& (255 : Int32))), .val (.int (2 : Int32))] rfl (hb hby d206_82) rfl rfl ?_
                                refine own_iloadN X0 hx 85 (hb hby d206_84) rfl rfl ?_
                                refine own_iload X0 hx 87 (hb hby d206_85) rfl rfl ?_
                                refine own_iaddz X0 hx 88 (z := (4 : Int32)) (by decide) (hb hby d206_87) rfl ?_
                                refine own_iloadN X0 hx 89 (hb hby d206_88) rfl rfl ?_
                                refine own_icmp_le X0 hx 96 92 (hb hby d206_89) (by decide) (by decide) rfl (fun h41 => ?_) (fun h41 => ?_)
                                · show own_W p e below _ T0 (mkF m 96 #[.val (.ref a), .val (.int (6 : Int32)), .val (.int (2 : Int32)), .val (.int ((f 2) &&& (255 : Int32))), .val (.int (2 : Int32))] [])
                                  refine own_iloadN X0 hx 97 (hb hby d206_96) rfl rfl ?_
                                  exact own_retI X0 hx hret hlk (hb hby d206_97) (by decide) (by decide) ⟨by unfold own_we_6; rw [if_pos h3, if_pos h14, if_pos h25, if_pos h37, if_pos h38, if_neg h39], N0, e0⟩
                                · exact absurd h41 (by decide)
                            · show own_W p e below _ T0 (mkF m 66 #[.val (.ref a), .val (.int (6 : Int32)), .val (.int (2 : Int32)), .val (.int ((f 2) &&& (255 : Int32))), .unset] [])
                              refine own_iconst X0 hx 67 (3 : Int32) (by decide) (hb hby d206_66) rfl ?_
                              refine own_goto X0 hx 82 (hb hby d206_67) (by decide) (by decide) ?_
                              refine own_istore X0 hx 84 #[.val (.ref a), .val (.int (6 : Int32)), .val (.int (2 : Int32)), .val (.int ((f 2) &&& (255 : Int32))), .val (.int (3 : Int32))] rfl (hb hby d206_82) rfl rfl ?_
                              refine own_iloadN X0 hx 85 (hb hby d206_84) rfl rfl ?_
                              refine own_iload X0 hx 87 (hb hby d206_85) rfl rfl ?_
                              refine own_iaddz X0 hx 88 (z := (5 : Int32)) (by decide) (hb hby d206_87) rfl ?_
                              refine own_iloadN X0 hx 89 (hb hby d206_88) rfl rfl ?_
                              refine own_icmp_le X0 hx 96 92 (hb hby d206_89) (by decide) (by decide) rfl (fun h42 => ?_) (fun h42 => ?_)
                              · show own_W p e below _ T0 (mkF m 96 #[.val (.ref a), .val (.int (6 : Int32)), .val (.int (2 : Int32)), .val (.int ((f 2) &&& (255 : Int32))), .val (.int (3 : Int32))] [])
                                refine own_iloadN X0 hx 97 (hb hby d206_96) rfl rfl ?_
                                exact own_retI X0 hx hret hlk (hb hby d206_97) (by decide) (by decide) ⟨by unfold own_we_6; rw [if_pos h3, if_pos h14, if_pos h25, if_pos h37, if_neg h38], N0, e0⟩
                              · exact absurd h42 (by decide)
                          · show own_W p e below _ T0 (mkF m 55 #[.val (.ref a), .val (.int (6 : Int32)), .val (.int (2 : Int32)), .val (.int ((f 2) &&& (255 : Int32))), .unset] [])
                            refine own_iconst X0 hx 56 (4 : Int32) (by decide) (hb hby d206_55) rfl ?_
                            refine own_goto X0 hx 82 (hb hby d206_56) (by decide) (by decide) ?_
                            refine own_istore X0 hx 84 #[.val (.ref a), .val (.int (6 : Int32)), .val (.int (2 : Int32)), .val (.int ((f 2) &&& (255 : Int32))), .val (.int (4 : Int32))] rfl (hb hby d206_82) rfl rfl ?_
                            refine own_iloadN X0 hx 85 (hb hby d206_84) rfl rfl ?_
                            refine own_iload X0 hx 87 (hb hby d206_85) rfl rfl ?_
                            refine own_iaddz X0 hx 88 (z := (6 : Int32)) (by decide) (hb hby d206_87) rfl ?_
                            refine own_iloadN X0 hx 89 (hb hby d206_88) rfl rfl ?_
                            refine own_icmp_le X0 hx 96 92 (hb hby d206_89) (by decide) (by decide) rfl (fun h43 => ?_) (fun h43 => ?_)
                            · show own_W p e below _ T0 (mkF m 96 #[.val (.ref a), .val (.int (6 : Int32)), .val (.int (2 : Int32)), .val (.int ((f 2) &&& (255 : Int32))), .val (.int (4 : Int32))] [])
                              refine own_iloadN X0 hx 97 (hb hby d206_96) rfl rfl ?_
                              exact own_retI X0 hx hret hlk (hb hby d206_97) (by decide) (by decide) ⟨by unfold own_we_6; rw [if_pos h3, if_pos h14, if_pos h25, if_neg h37], N0, e0⟩
                            · exact absurd h43 (by decide)
                        · exact absurd h36 (by decide)
                      · exact absurd h35 (by decide)
set_option maxRecDepth 65536 in
set_option maxHeartbeats 40000000 in
theorem rm0 (l : Launch) (Z : State) (a0 : Array Value) (hw : ∀ d ∈ tables_1, d.before a0 Z = true) (p0 p1 p2 : Int32) (h0 : Heap) (n0 : Nat) (Z0 : n0 ≤ h0.size)  :
    own_C l Z x code maxLocals ret tables_1 room_1 #[(.int p0), (.int p1), (.int p2)] h0 (fun v h L => v = some (.int 1) ∧ Fr n0 L) := by
  refine own_body (by first | (simp [plainName, overriddenIn]; done) | decide +kernel) ?_
  intro p e s m below meth c T0 hx hby hml hown hnm hret hlk hZ X0 e0
  have N0 := Fr.nil n0
  refine own_eq (f' := (mkF m 0 #[.val (.int p0), .val (.int p1), .val (.int p2), .unset, .unset, .unset] [])) (by first | (simp [entryFrame, mkF, argsToLocals, Value.category, maxLocals]; done) | rfl) ?_
  refine own_bipush X0 hx 2 (6 : Int32) (by decide) (hb hby at_0) rfl ?_
  refine own_newI X0 hx hZ e0 (n := 6) (cap := 6) 4 .byte rfl rfl (hw _ (List.mem_of_getElem? (i := 0) rfl)) rfl (by decide) (by decide) (hb hby at_2) rfl (by decide) (by decide) (fun T1 h2 a3 X4 e5 g6 E7 A8 => ?_)
  have ga9 : n0 ≤ a3 := by rw [g6]; exact Z0
  have Z10 : n0 ≤ h2.size := Nat.le_trans Z0 E7.1
  refine own_astoreN X4 hx 5 #[.val (.int p0), .val (.int p1), .val (.int p2), .val (.ref a3), .unset, .unset] rfl (hb hby at_4) rfl rfl ?_
  refine own_aloadN X4 hx 6 (hb hby at_5) rfl rfl ?_
  refine own_iconst X4 hx 7 (0 : Int32) (by decide) (hb hby at_6) rfl ?_
  refine own_iloadN X4 hx 8 (hb hby at_7) rfl rfl ?_
  refine own_i2b X4 hx 9 (hb hby at_8) rfl ?_
  refine own_bastore X4 hx hZ e5 10 0 A8 rfl (by decide) (hb hby at_9) rfl (fun T11 h12 X13 e14 W15 => ?_)
  have f16 := A8.set W15
  have Z17 : n0 ≤ h12.size := Nat.le_trans Z10 (Keep.of_wr W15).1
  have N18 := Fr.snoc X13 N0 ga9
  refine own_aloadN X13 hx 11 (hb hby at_10) rfl rfl ?_
  refine own_iconst X13 hx 12 (1 : Int32) (by decide) (hb hby at_11) rfl ?_
  refine own_iloadN X13 hx 13 (hb hby at_12) rfl rfl ?_
  refine own_bipush X13 hx 15 (8 : Int32) (by decide) (hb hby at_13) rfl ?_
  refine own_ishr X13 hx 16 (hb hby at_15) rfl ?_
  refine own_i2b X13 hx 17 (hb hby at_16) rfl ?_
  refine own_bastore X13 hx hZ e14 18 1 f16 rfl (by decide) (hb hby at_17) rfl (fun T19 h20 X21 e22 W23 => ?_)
  have f24 := f16.set W23
  have Z25 : n0 ≤ h20.size := Nat.le_trans Z17 (Keep.of_wr W23).1
  have N26 := Fr.snoc X21 N18 ga9
  refine own_aloadN X21 hx 19 (hb hby at_18) rfl rfl ?_
  refine own_iconst X21 hx 20 (2 : Int32) (by decide) (hb hby at_19) rfl ?_
  refine own_iloadN X21 hx 21 (hb hby at_20) rfl rfl ?_
  refine own_bipush X21 hx 23 (16 : Int32) (by decide) (hb hby at_21) rfl ?_
  refine own_ishr X21 hx 24 (hb hby at_23) rfl ?_
  refine own_i2b X21 hx 25 (hb hby at_24) rfl ?_
  refine own_bastore X21 hx hZ e22 26 2 f24 rfl (by decide) (hb hby at_25) rfl (fun T27 h28 X29 e30 W31 => ?_)
  have f32 := f24.set W31
  have Z33 : n0 ≤ h28.size := Nat.le_trans Z25 (Keep.of_wr W31).1
  have N34 := Fr.snoc X29 N26 ga9
  refine own_aloadN X29 hx 27 (hb hby at_26) rfl rfl ?_
  refine own_iconst X29 hx 28 (3 : Int32) (by decide) (hb hby at_27) rfl ?_
  refine own_iloadN X29 hx 29 (hb hby at_28) rfl rfl ?_
  refine own_bipush X29 hx 31 (24 : Int32) (by decide) (hb hby at_29) rfl ?_
  refine own_iushr X29 hx 32 (hb hby at_31) rfl ?_
  refine own_i2b X29 hx 33 (hb hby at_32) rfl ?_
  refine own_bastore X29 hx hZ e30 34 3 f32 rfl (by decide) (hb hby at_33) rfl (fun T35 h36 X37 e38 W39 => ?_)
  have f40 := f32.set W39
  have Z41 : n0 ≤ h36.size := Nat.le_trans Z33 (Keep.of_wr W39).1
  have N42 := Fr.snoc X37 N34 ga9
  refine own_aloadN X37 hx 35 (hb hby at_34) rfl rfl ?_
  refine own_iconst X37 hx 36 (4 : Int32) (by decide) (hb hby at_35) rfl ?_
  refine own_iloadN X37 hx 37 (hb hby at_36) rfl rfl ?_
  refine own_i2b X37 hx 38 (hb hby at_37) rfl ?_
  refine own_bastore X37 hx hZ e38 39 4 f40 rfl (by decide) (hb hby at_38) rfl (fun T43 h44 X45 e46 W47 => ?_)
  have f48 := f40.set W47
  have Z49 : n0 ≤ h44.size := Nat.le_trans Z41 (Keep.of_wr W47).1
  have N50 := Fr.snoc X45 N42 ga9
  refine own_aloadN X45 hx 40 (hb hby at_39) rfl rfl ?_
  refine own_iconst X45 hx 41 (5 : Int32) (by decide) (hb hby at_40) rfl ?_
  refine own_iloadN X45 hx 42 (hb hby at_41) rfl rfl ?_
  refine own_bipush X45 hx 44 (8 : Int32) (by decide) (hb hby at_42) rfl ?_
  refine own_ishr X45 hx 45 (hb hby at_44) rfl ?_
  refine own_i2b X45 hx 46 (hb hby at_45) rfl ?_
  refine own_bastore X45 hx hZ e46 47 5 f48 rfl (by decide) (hb hby at_46) rfl (fun T51 h52 X53 e54 W55 => ?_)
  have f56 := f48.set W55
  have Z57 : n0 ≤ h52.size := Nat.le_trans Z49 (Keep.of_wr W55).1
  have N58 := Fr.snoc X53 N50 ga9
  obtain ⟨fz, e_fz⟩ : ∃ z : Nat → Int32, z = (fun q => if q = 5 then ((p1 >>> ((8 : Int32) &&& 31)).toInt8.toInt32).toInt8.toInt32 else (fun q => if q = 4 then (p1.toInt8.toInt32).toInt8.toInt32 else (fun q => if q = 3 then (((p0.toUInt32 >>> ((24 : Int32) &&& 31).toUInt32).toInt32).toInt8.toInt32).toInt8.toInt32 else (fun q => if q = 2 then ((p0 >>> ((16 : Int32) &&& 31)).toInt8.toInt32).toInt8.toInt32 else (fun q => if q = 1 then ((p0 >>> ((8 : Int32) &&& 31)).toInt8.toInt32).toInt8.toInt32 else (fun q => if q = 0 then (p0.toInt8.toInt32).toInt8.toInt32 else (fun _ => 0) q) q) q) q) q) q) := ⟨_, rfl⟩
  rw [← e_fz] at f56
  refine own_iloadN X53 hx 48 (hb hby at_47) rfl rfl ?_
  refine own_ldc X53 hx hZ hown 50 (hw _ (List.mem_of_getElem? (i := 1) rfl)) (hb hby at_48) rfl ?_
  refine own_iand X53 hx 51 (hb hby at_50) rfl ?_
  refine own_bipush X53 hx 53 (7 : Int32) (by decide) (hb hby at_51) rfl ?_
  refine own_irem X53 hx 54 (by decide) (hb hby at_53) rfl ?_
  obtain ⟨vt, e_vt⟩ : ∃ z : Int32, z = ((p2 &&& (2147483647 : Int32)) % (7 : Int32)) := ⟨_, rfl⟩
  refine own_istore X53 hx 56 #[.val (.int p0), .val (.int p1), .val (.int p2), .val (.ref a3), .val (.int vt), .unset] e_vt (hb hby at_54) rfl rfl ?_
  rcases own_to p2 vt e_vt with rfl | rfl | rfl | rfl | rfl | rfl | rfl
  · show own_W p e below _ T51 (mkF m 56 #[.val (.int p0), .val (.int p1), .val (.int p2), .val (.ref a3), .val (.int (0 : Int32)), .unset] [])
    refine own_iload X53 hx 58 (hb hby at_56) rfl rfl ?_
    refine own_istore X53 hx 60 #[.val (.int p0), .val (.int p1), .val (.int p2), .val (.ref a3), .val (.int (0 : Int32)), .val (.int (0 : Int32))] rfl (hb hby at_58) rfl rfl ?_
    refine own_aloadN X53 hx 61 (hb hby at_60) rfl rfl ?_
    refine own_iload X53 hx 63 (hb hby at_61) rfl rfl ?_
    refine own_iconst X53 hx 64 (1 : Int32) (by decide) (hb hby at_63) rfl ?_
    refine own_callS X53 hx hZ hown e54 (y := (⟨"com/example/gentle_indent/gentleindent/util/Utf8WholeEndPinLaw", "cutAt", "([BII)Z"⟩ : MethodName)) (argsL := [(.ref a3), (.int (0 : Int32)), (.int (1 : Int32))]) (rest := []) 67 (rm3_0_1 l Z a0 hw a3 fz h52 n0 Z57 f56) (hw _ (List.mem_of_getElem? (i := 2) rfl)) (hw _ (List.mem_of_getElem? (i := 3) rfl)) (hw _ (List.mem_of_getElem? (i := 4) rfl)) (hw _ (List.mem_of_getElem? (i := 5) rfl)) (by decide) (by rw [hml]; rfl) (lenOf (by decide +kernel : parseMethodDescriptor "([BII)Z" = some ⟨[(.array .byte), .int, .int], some .boolean⟩) rfl) rfl (hb hby at_64) rfl (W := 0) rfl (by decide) (by decide) (by decide) (by decide) (fun r59 T60 L61 X62 q63 => ?_)
    obtain ⟨rfl, N64q, e65⟩ := q63
    have N64 := Fr.app N58 N64q
    show own_W p e below _ T60 (mkF m 67 #[.val (.int p0), .val (.int p1), .val (.int p2), .val (.ref a3), .val (.int (0 : Int32)), .val (.int (0 : Int32))] [(.int (own_cut_0_1 fz))])
    refine own_if_eq X62 hx 79 70 (hb hby at_67) (by decide) (by decide) rfl (fun h66 => ?_) (fun h66 => ?_)
    · show own_W p e below _ T60 (mkF m 79 #[.val (.int p0), .val (.int p1), .val (.int p2), .val (.ref a3), .val (.int (0 : Int32)), .val (.int (0 : Int32))] [])
      refine own_aloadN X62 hx 80 (hb hby at_79) rfl rfl ?_
      refine own_iload X62 hx 82 (hb hby at_80) rfl rfl ?_
      refine own_iconst X62 hx 83 (2 : Int32) (by decide) (hb hby at_82) rfl ?_
      refine own_callS X62 hx hZ hown e65 (y := (⟨"com/example/gentle_indent/gentleindent/util/Utf8WholeEndPinLaw", "cutAt", "([BII)Z"⟩ : MethodName)) (argsL := [(.ref a3), (.int (0 : Int32)), (.int (2 : Int32))]) (rest := []) 86 (rm3_0_2 l Z a0 hw a3 fz h52 n0 Z57 f56) (hw _ (List.mem_of_getElem? (i := 2) rfl)) (hw _ (List.mem_of_getElem? (i := 3) rfl)) (hw _ (List.mem_of_getElem? (i := 4) rfl)) (hw _ (List.mem_of_getElem? (i := 5) rfl)) (by decide) (by rw [hml]; rfl) (lenOf (by decide +kernel : parseMethodDescriptor "([BII)Z" = some ⟨[(.array .byte), .int, .int], some .boolean⟩) rfl) rfl (hb hby at_83) rfl (W := 0) rfl (by decide) (by decide) (by decide) (by decide) (fun r67 T68 L69 X70 q71 => ?_)
      obtain ⟨rfl, N72q, e73⟩ := q71
      have N72 := Fr.app N64 N72q
      show own_W p e below _ T68 (mkF m 86 #[.val (.int p0), .val (.int p1), .val (.int p2), .val (.ref a3), .val (.int (0 : Int32)), .val (.int (0 : Int32))] [(.int (own_cut_0_2 fz))])
      refine own_if_eq X70 hx 98 89 (hb hby at_86) (by decide) (by decide) rfl (fun h74 => ?_) (fun h74 => ?_)
      · show own_W p e below _ T68 (mkF m 98 #[.val (.int p0), .val (.int p1), .val (.int p2), .val (.ref a3), .val (.int (0 : Int32)), .val (.int (0 : Int32))] [])
        refine own_aloadN X70 hx 99 (hb hby at_98) rfl rfl ?_
        refine own_iload X70 hx 101 (hb hby at_99) rfl rfl ?_
        refine own_iconst X70 hx 102 (3 : Int32) (by decide) (hb hby at_101) rfl ?_
        refine own_callS X70 hx hZ hown e73 (y := (⟨"com/example/gentle_indent/gentleindent/util/Utf8WholeEndPinLaw", "cutAt", "([BII)Z"⟩ : MethodName)) (argsL := [(.ref a3), (.int (0 : Int32)), (.int (3 : Int32))]) (rest := []) 105 (rm3_0_3 l Z a0 hw a3 fz h52 n0 Z57 f56) (hw _ (List.mem_of_getElem? (i := 2) rfl)) (hw _ (List.mem_of_getElem? (i := 3) rfl)) (hw _ (List.mem_of_getElem? (i := 4) rfl)) (hw _ (List.mem_of_getElem? (i := 5) rfl)) (by decide) (by rw [hml]; rfl) (lenOf (by decide +kernel : parseMethodDescriptor "([BII)Z" = some ⟨[(.array .byte), .int, .int], some .boolean⟩) rfl) rfl (hb hby at_102) rfl (W := 0) rfl (by decide) (by decide) (by decide) (by decide) (fun r75 T76 L77 X78 q79 => ?_)
        obtain ⟨rfl, N80q, e81⟩ := q79
        have N80 := Fr.app N72 N80q
        show own_W p e below _ T76 (mkF m 105 #[.val (.int p0), .val (.int p1), .val (.int p2), .val (.ref a3), .val (.int (0 : Int32)), .val (.int (0 : Int32))] [(.int (own_cut_0_3 fz))])
        refine own_if_eq X78 hx 114 108 (hb hby at_105) (by decide) (by decide) rfl (fun h82 => ?_) (fun h82 => ?_)
        · show own_W p e below _ T76 (mkF m 114 #[.val (.int p0), .val (.int p1), .val (.int p2), .val (.ref a3), .val (.int (0 : Int32)), .val (.int (0 : Int32))] [])
          refine own_aloadN X78 hx 115 (hb hby at_114) rfl rfl ?_
          refine own_iload X78 hx 117 (hb hby at_115) rfl rfl ?_
          refine own_callS X78 hx hZ hown e81 (y := (⟨"com/example/gentle_indent/gentleindent/util/Utf8", "wholeEnd", "([BI)I"⟩ : MethodName)) (argsL := [(.ref a3), (.int (0 : Int32))]) (rest := []) 120 (rm4_0 l Z a0 hw a3 fz h52 n0 Z57 f56) (hw _ (List.mem_of_getElem? (i := 9) rfl)) (hw _ (List.mem_of_getElem? (i := 10) rfl)) (hw _ (List.mem_of_getElem? (i := 11) rfl)) (hw _ (List.mem_of_getElem? (i := 12) rfl)) (by decide) (by rw [hml]; rfl) (lenOf (by decide +kernel : parseMethodDescriptor "([BI)I" = some ⟨[(.array .byte), .int], some .int⟩) rfl) rfl (hb hby at_117) rfl (W := 0) rfl (by decide) (by decide) (by decide) (by decide) (fun r83 T84 L85 X86 q87 => ?_)
          obtain ⟨rfl, N88q, e89⟩ := q87
          have N88 := Fr.app N80 N88q
          show own_W p e below _ T84 (mkF m 120 #[.val (.int p0), .val (.int p1), .val (.int p2), .val (.ref a3), .val (.int (0 : Int32)), .val (.int (0 : Int32))] [(.int (own_we_0 fz))])
          refine own_iload X86 hx 122 (hb hby at_120) rfl rfl ?_
          refine own_icmp_ne X86 hx 129 125 (hb hby at_122) (by decide) (by decide) rfl (fun h90 => ?_) (fun h90 => ?_)
          · exact absurd (by rw [own_p_0]; rw [if_pos h66, if_pos h74, if_pos h82]) h90
          · show own_W p e below _ T84 (mkF m 125 #[.val (.int p0), .val (.int p1), .val (.int p2), .val (.ref a3), .val (.int (0 : Int32)), .val (.int (0 : Int32))] [])
            refine own_iconst X86 hx 126 (1 : Int32) (by decide) (hb hby at_125) rfl ?_
            refine own_goto X86 hx 130 (hb hby at_126) (by decide) (by decide) ?_
            exact own_retZ X86 hx (1 : Int32) (by decide) hret hlk (hb hby at_130) (by decide) (by decide) ⟨rfl, N88⟩
        · show own_W p e below _ T76 (mkF m 108 #[.val (.int p0), .val (.int p1), .val (.int p2), .val (.ref a3), .val (.int (0 : Int32)), .val (.int (0 : Int32))] [])
          refine own_iload X78 hx 110 (hb hby at_108) rfl rfl ?_
          refine own_iconst X78 hx 111 (3 : Int32) (by decide) (hb hby at_110) rfl ?_
          refine own_isubz X78 hx 112 (z := (-3 : Int32)) (by decide) (hb hby at_111) rfl ?_
          refine own_istore X78 hx 114 #[.val (.int p0), .val (.int p1), .val (.int p2), .val (.ref a3), .val (.int (0 : Int32)), .val (.int (-3 : Int32))] rfl (hb hby at_112) rfl rfl ?_
          refine own_aloadN X78 hx 115 (hb hby at_114) rfl rfl ?_
          refine own_iload X78 hx 117 (hb hby at_115) rfl rfl ?_
          refine own_callS X78 hx hZ hown e81 (y := (⟨"com/example/gentle_indent/gentleindent/util/Utf8", "wholeEnd", "([BI)I"⟩ : MethodName)) (argsL := [(.ref a3), (.int (0 : Int32))]) (rest := []) 120 (rm4_0 l Z a0 hw a3 fz h52 n0 Z57 f56) (hw _ (List.mem_of_getElem? (i := 9) rfl)) (hw _ (List.mem_of_getElem? (i := 10) rfl)) (hw _ (List.mem_of_getElem? (i := 11) rfl)) (hw _ (List.mem_of_getElem? (i := 12) rfl)) (by decide) (by rw [hml]; rfl) (lenOf (by decide +kernel : parseMethodDescriptor "([BI)I" = some ⟨[(.array .byte), .int], some .int⟩) rfl) rfl (hb hby at_117) rfl (W := 0) rfl (by decide) (by decide) (by decide) (by decide) (fun r91 T92 L93 X94 q95 => ?_)
          obtain ⟨rfl, N96q, e97⟩ := q95
          have N96 := Fr.app N80 N96q
          show own_W p e below _ T92 (mkF m 120 #[.val (.int p0), .val (.int p1), .val (.int p2), .val (.ref a3), .val (.int (0 : Int32)), .val (.int (-3 : Int32))] [(.int (own_we_0 fz))])
          refine own_iload X94 hx 122 (hb hby at_120) rfl rfl ?_
          refine own_icmp_ne X94 hx 129 125 (hb hby at_122) (by decide) (by decide) rfl (fun h98 => ?_) (fun h98 => ?_)
          · exact absurd (by rw [own_p_0]; rw [if_pos h66, if_pos h74, if_neg h82]) h98
          · show own_W p e below _ T92 (mkF m 125 #[.val (.int p0), .val (.int p1), .val (.int p2), .val (.ref a3), .val (.int (0 : Int32)), .val (.int (-3 : Int32))] [])
            refine own_iconst X94 hx 126 (1 : Int32) (by decide) (hb hby at_125) rfl ?_
            refine own_goto X94 hx 130 (hb hby at_126) (by decide) (by decide) ?_
            exact own_retZ X94 hx (1 : Int32) (by decide) hret hlk (hb hby at_130) (by decide) (by decide) ⟨rfl, N96⟩
      · show own_W p e below _ T68 (mkF m 89 #[.val (.int p0), .val (.int p1), .val (.int p2), .val (.ref a3), .val (.int (0 : Int32)), .val (.int (0 : Int32))] [])
        refine own_iload X70 hx 91 (hb hby at_89) rfl rfl ?_
        refine own_iconst X70 hx 92 (2 : Int32) (by decide) (hb hby at_91) rfl ?_
        refine own_isubz X70 hx 93 (z := (-2 : Int32)) (by decide) (hb hby at_92) rfl ?_
        refine own_istore X70 hx 95 #[.val (.int p0), .val (.int p1), .val (.int p2), .val (.ref a3), .val (.int (0 : Int32)), .val (.int (-2 : Int32))] rfl (hb hby at_93) rfl rfl ?_
        refine own_goto X70 hx 114 (hb hby at_95) (by decide) (by decide) ?_
        refine own_aloadN X70 hx 115 (hb hby at_114) rfl rfl ?_
        refine own_iload X70 hx 117 (hb hby at_115) rfl rfl ?_
        refine own_callS X70 hx hZ hown e73 (y := (⟨"com/example/gentle_indent/gentleindent/util/Utf8", "wholeEnd", "([BI)I"⟩ : MethodName)) (argsL := [(.ref a3), (.int (0 : Int32))]) (rest := []) 120 (rm4_0 l Z a0 hw a3 fz h52 n0 Z57 f56) (hw _ (List.mem_of_getElem? (i := 9) rfl)) (hw _ (List.mem_of_getElem? (i := 10) rfl)) (hw _ (List.mem_of_getElem? (i := 11) rfl)) (hw _ (List.mem_of_getElem? (i := 12) rfl)) (by decide) (by rw [hml]; rfl) (lenOf (by decide +kernel : parseMethodDescriptor "([BI)I" = some ⟨[(.array .byte), .int], some .int⟩) rfl) rfl (hb hby at_117) rfl (W := 0) rfl (by decide) (by decide) (by decide) (by decide) (fun r99 T100 L101 X102 q103 => ?_)
        obtain ⟨rfl, N104q, e105⟩ := q103
        have N104 := Fr.app N72 N104q
        show own_W p e below _ T100 (mkF m 120 #[.val (.int p0), .val (.int p1), .val (.int p2), .val (.ref a3), .val (.int (0 : Int32)), .val (.int (-2 : Int32))] [(.int (own_we_0 fz))])
        refine own_iload X102 hx 122 (hb hby at_120) rfl rfl ?_
        refine own_icmp_ne X102 hx 129 125 (hb hby at_122) (by decide) (by decide) rfl (fun h106 => ?_) (fun h106 => ?_)
        · exact absurd (by rw [own_p_0]; rw [if_pos h66, if_neg h74]) h106
        · show own_W p e below _ T100 (mkF m 125 #[.val (.int p0), .val (.int p1), .val (.int p2), .val (.ref a3), .val (.int (0 : Int32)), .val (.int (-2 : Int32))] [])
          refine own_iconst X102 hx 126 (1 : Int32) (by decide) (hb hby at_125) rfl ?_
          refine own_goto X102 hx 130 (hb hby at_126) (by decide) (by decide) ?_
          exact own_retZ X102 hx (1 : Int32) (by decide) hret hlk (hb hby at_130) (by decide) (by decide) ⟨rfl, N104⟩
    · show own_W p e below _ T60 (mkF m 70 #[.val (.int p0), .val (.int p1), .val (.int p2), .val (.ref a3), .val (.int (0 : Int32)), .val (.int (0 : Int32))] [])
      refine own_iload X62 hx 72 (hb hby at_70) rfl rfl ?_
      refine own_iconst X62 hx 73 (1 : Int32) (by decide) (hb hby at_72) rfl ?_
      refine own_isubz X62 hx 74 (z := (-1 : Int32)) (by decide) (hb hby at_73) rfl ?_
      refine own_istore X62 hx 76 #[.val (.int p0), .val (.int p1), .val (.int p2), .val (.ref a3), .val (.int (0 : Int32)), .val (.int (-1 : Int32))] rfl (hb hby at_74) rfl rfl ?_
      refine own_goto X62 hx 114 (hb hby at_76) (by decide) (by decide) ?_
      refine own_aloadN X62 hx 115 (hb hby at_114) rfl rfl ?_
      refine own_iload X62 hx 117 (hb hby at_115) rfl rfl ?_
      refine own_callS X62 hx hZ hown e65 (y := (⟨"com/example/gentle_indent/gentleindent/util/Utf8", "wholeEnd", "([BI)I"⟩ : MethodName)) (argsL := [(.ref a3), (.int (0 : Int32))]) (rest := []) 120 (rm4_0 l Z a0 hw a3 fz h52 n0 Z57 f56) (hw _ (List.mem_of_getElem? (i := 9) rfl)) (hw _ (List.mem_of_getElem? (i := 10) rfl)) (hw _ (List.mem_of_getElem? (i := 11) rfl)) (hw _ (List.mem_of_getElem? (i := 12) rfl)) (by decide) (by rw [hml]; rfl) (lenOf (by decide +kernel : parseMethodDescriptor "([BI)I" = some ⟨[(.array .byte), .int], some .int⟩) rfl) rfl (hb hby at_117) rfl (W := 0) rfl (by decide) (by decide) (by decide) (by decide) (fun r107 T108 L109 X110 q111 => ?_)
      obtain ⟨rfl, N112q, e113⟩ := q111
      have N112 := Fr.app N64 N112q
      show own_W p e below _ T108 (mkF m 120 #[.val (.int p0), .val (.int p1), .val (.int p2), .val (.ref a3), .val (.int (0 : Int32)), .val (.int (-1 : Int32))] [(.int (own_we_0 fz))])
      refine own_iload X110 hx 122 (hb hby at_120) rfl rfl ?_
      refine own_icmp_ne X110 hx 129 125 (hb hby at_122) (by decide) (by decide) rfl (fun h114 => ?_) (fun h114 => ?_)
      · exact absurd (by rw [own_p_0]; rw [if_neg h66]) h114
      · show own_W p e below _ T108 (mkF m 125 #[.val (.int p0), .val (.int p1), .val (.int p2), .val (.ref a3), .val (.int (0 : Int32)), .val (.int (-1 : Int32))] [])
        refine own_iconst X110 hx 126 (1 : Int32) (by decide) (hb hby at_125) rfl ?_
        refine own_goto X110 hx 130 (hb hby at_126) (by decide) (by decide) ?_
        exact own_retZ X110 hx (1 : Int32) (by decide) hret hlk (hb hby at_130) (by decide) (by decide) ⟨rfl, N112⟩
  · show own_W p e below _ T51 (mkF m 56 #[.val (.int p0), .val (.int p1), .val (.int p2), .val (.ref a3), .val (.int (1 : Int32)), .unset] [])
    refine own_iload X53 hx 58 (hb hby at_56) rfl rfl ?_
    refine own_istore X53 hx 60 #[.val (.int p0), .val (.int p1), .val (.int p2), .val (.ref a3), .val (.int (1 : Int32)), .val (.int (1 : Int32))] rfl (hb hby at_58) rfl rfl ?_
    refine own_aloadN X53 hx 61 (hb hby at_60) rfl rfl ?_
    refine own_iload X53 hx 63 (hb hby at_61) rfl rfl ?_
    refine own_iconst X53 hx 64 (1 : Int32) (by decide) (hb hby at_63) rfl ?_
    refine own_callS X53 hx hZ hown e54 (y := (⟨"com/example/gentle_indent/gentleindent/util/Utf8WholeEndPinLaw", "cutAt", "([BII)Z"⟩ : MethodName)) (argsL := [(.ref a3), (.int (1 : Int32)), (.int (1 : Int32))]) (rest := []) 67 (rm3_1_1 l Z a0 hw a3 fz h52 n0 Z57 f56) (hw _ (List.mem_of_getElem? (i := 2) rfl)) (hw _ (List.mem_of_getElem? (i := 3) rfl)) (hw _ (List.mem_of_getElem? (i := 4) rfl)) (hw _ (List.mem_of_getElem? (i := 5) rfl)) (by decide) (by rw [hml]; rfl) (lenOf (by decide +kernel : parseMethodDescriptor "([BII)Z" = some ⟨[(.array .byte), .int, .int], some .boolean⟩) rfl) rfl (hb hby at_64) rfl (W := 0) rfl (by decide) (by decide) (by decide) (by decide) (fun r115 T116 L117 X118 q119 => ?_)
    obtain ⟨rfl, N120q, e121⟩ := q119
    have N120 := Fr.app N58 N120q
    show own_W p e below _ T116 (mkF m 67 #[.val (.int p0), .val (.int p1), .val (.int p2), .val (.ref a3), .val (.int (1 : Int32)), .val (.int (1 : Int32))] [(.int (own_cut_1_1 fz))])
    refine own_if_eq X118 hx 79 70 (hb hby at_67) (by decide) (by decide) rfl (fun h122 => ?_) (fun h122 => ?_)
    · show own_W p e below _ T116 (mkF m 79 #[.val (.int p0), .val (.int p1), .val (.int p2), .val (.ref a3), .val (.int (1 : Int32)), .val (.int (1 : Int32))] [])
      refine own_aloadN X118 hx 80 (hb hby at_79) rfl rfl ?_
      refine own_iload X118 hx 82 (hb hby at_80) rfl rfl ?_
      refine own_iconst X118 hx 83 (2 : Int32) (by decide) (hb hby at_82) rfl ?_
      refine own_callS X118 hx hZ hown e121 (y := (⟨"com/example/gentle_indent/gentleindent/util/Utf8WholeEndPinLaw", "cutAt", "([BII)Z"⟩ : MethodName)) (argsL := [(.ref a3), (.int (1 : Int32)), (.int (2 : Int32))]) (rest := []) 86 (rm3_1_2 l Z a0 hw a3 fz h52 n0 Z57 f56) (hw _ (List.mem_of_getElem? (i := 2) rfl)) (hw _ (List.mem_of_getElem? (i := 3) rfl)) (hw _ (List.mem_of_getElem? (i := 4) rfl)) (hw _ (List.mem_of_getElem? (i := 5) rfl)) (by decide) (by rw [hml]; rfl) (lenOf (by decide +kernel : parseMethodDescriptor "([BII)Z" = some ⟨[(.array .byte), .int, .int], some .boolean⟩) rfl) rfl (hb hby at_83) rfl (W := 0) rfl (by decide) (by decide) (by decide) (by decide) (fun r123 T124 L125 X126 q127 => ?_)
      obtain ⟨rfl, N128q, e129⟩ := q127
      have N128 := Fr.app N120 N128q
      show own_W p e below _ T124 (mkF m 86 #[.val (.int p0), .val (.int p1), .val (.int p2), .val (.ref a3), .val (.int (1 : Int32)), .val (.int (1 : Int32))] [(.int (own_cut_1_2 fz))])
      refine own_if_eq X126 hx 98 89 (hb hby at_86) (by decide) (by decide) rfl (fun h130 => ?_) (fun h130 => ?_)
      · show own_W p e below _ T124 (mkF m 98 #[.val (.int p0), .val (.int p1), .val (.int p2), .val (.ref a3), .val (.int (1 : Int32)), .val (.int (1 : Int32))] [])
        refine own_aloadN X126 hx 99 (hb hby at_98) rfl rfl ?_
        refine own_iload X126 hx 101 (hb hby at_99) rfl rfl ?_
        refine own_iconst X126 hx 102 (3 : Int32) (by decide) (hb hby at_101) rfl ?_
        refine own_callS X126 hx hZ hown e129 (y := (⟨"com/example/gentle_indent/gentleindent/util/Utf8WholeEndPinLaw", "cutAt", "([BII)Z"⟩ : MethodName)) (argsL := [(.ref a3), (.int (1 : Int32)), (.int (3 : Int32))]) (rest := []) 105 (rm3_1_3 l Z a0 hw a3 fz h52 n0 Z57 f56) (hw _ (List.mem_of_getElem? (i := 2) rfl)) (hw _ (List.mem_of_getElem? (i := 3) rfl)) (hw _ (List.mem_of_getElem? (i := 4) rfl)) (hw _ (List.mem_of_getElem? (i := 5) rfl)) (by decide) (by rw [hml]; rfl) (lenOf (by decide +kernel : parseMethodDescriptor "([BII)Z" = some ⟨[(.array .byte), .int, .int], some .boolean⟩) rfl) rfl (hb hby at_102) rfl (W := 0) rfl (by decide) (by decide) (by decide) (by decide) (fun r131 T132 L133 X134 q135 => ?_)
        obtain ⟨rfl, N136q, e137⟩ := q135
        have N136 := Fr.app N128 N136q
        show own_W p e below _ T132 (mkF m 105 #[.val (.int p0), .val (.int p1), .val (.int p2), .val (.ref a3), .val (.int (1 : Int32)), .val (.int (1 : Int32))] [(.int (own_cut_1_3 fz))])
        refine own_if_eq X134 hx 114 108 (hb hby at_105) (by decide) (by decide) rfl (fun h138 => ?_) (fun h138 => ?_)
        · show own_W p e below _ T132 (mkF m 114 #[.val (.int p0), .val (.int p1), .val (.int p2), .val (.ref a3), .val (.int (1 : Int32)), .val (.int (1 : Int32))] [])
          refine own_aloadN X134 hx 115 (hb hby at_114) rfl rfl ?_
          refine own_iload X134 hx 117 (hb hby at_115) rfl rfl ?_
          refine own_callS X134 hx hZ hown e137 (y := (⟨"com/example/gentle_indent/gentleindent/util/Utf8", "wholeEnd", "([BI)I"⟩ : MethodName)) (argsL := [(.ref a3), (.int (1 : Int32))]) (rest := []) 120 (rm4_1 l Z a0 hw a3 fz h52 n0 Z57 f56) (hw _ (List.mem_of_getElem? (i := 9) rfl)) (hw _ (List.mem_of_getElem? (i := 10) rfl)) (hw _ (List.mem_of_getElem? (i := 11) rfl)) (hw _ (List.mem_of_getElem? (i := 12) rfl)) (by decide) (by rw [hml]; rfl) (lenOf (by decide +kernel : parseMethodDescriptor "([BI)I" = some ⟨[(.array .byte), .int], some .int⟩) rfl) rfl (hb hby at_117) rfl (W := 0) rfl (by decide) (by decide) (by decide) (by decide) (fun r139 T140 L141 X142 q143 => ?_)
          obtain ⟨rfl, N144q, e145⟩ := q143
          have N144 := Fr.app N136 N144q
          show own_W p e below _ T140 (mkF m 120 #[.val (.int p0), .val (.int p1), .val (.int p2), .val (.ref a3), .val (.int (1 : Int32)), .val (.int (1 : Int32))] [(.int (own_we_1 fz))])
          refine own_iload X142 hx 122 (hb hby at_120) rfl rfl ?_
          refine own_icmp_ne X142 hx 129 125 (hb hby at_122) (by decide) (by decide) rfl (fun h146 => ?_) (fun h146 => ?_)
          · exact absurd (by rw [own_p_1]; rw [if_pos h122, if_pos h130, if_pos h138]) h146
          · show own_W p e below _ T140 (mkF m 125 #[.val (.int p0), .val (.int p1), .val (.int p2), .val (.ref a3), .val (.int (1 : Int32)), .val (.int (1 : Int32))] [])
            refine own_iconst X142 hx 126 (1 : Int32) (by decide) (hb hby at_125) rfl ?_
            refine own_goto X142 hx 130 (hb hby at_126) (by decide) (by decide) ?_
            exact own_retZ X142 hx (1 : Int32) (by decide) hret hlk (hb hby at_130) (by decide) (by decide) ⟨rfl, N144⟩
        · show own_W p e below _ T132 (mkF m 108 #[.val (.int p0), .val (.int p1), .val (.int p2), .val (.ref a3), .val (.int (1 : Int32)), .val (.int (1 : Int32))] [])
          refine own_iload X134 hx 110 (hb hby at_108) rfl rfl ?_
          refine own_iconst X134 hx 111 (3 : Int32) (by decide) (hb hby at_110) rfl ?_
          refine own_isubz X134 hx 112 (z := (-2 : Int32)) (by decide) (hb hby at_111) rfl ?_
          refine own_istore X134 hx 114 #[.val (.int p0), .val (.int p1), .val (.int p2), .val (.ref a3), .val (.int (1 : Int32)), .val (.int (-2 : Int32))] rfl (hb hby at_112) rfl rfl ?_
          refine own_aloadN X134 hx 115 (hb hby at_114) rfl rfl ?_
          refine own_iload X134 hx 117 (hb hby at_115) rfl rfl ?_
          refine own_callS X134 hx hZ hown e137 (y := (⟨"com/example/gentle_indent/gentleindent/util/Utf8", "wholeEnd", "([BI)I"⟩ : MethodName)) (argsL := [(.ref a3), (.int (1 : Int32))]) (rest := []) 120 (rm4_1 l Z a0 hw a3 fz h52 n0 Z57 f56) (hw _ (List.mem_of_getElem? (i := 9) rfl)) (hw _ (List.mem_of_getElem? (i := 10) rfl)) (hw _ (List.mem_of_getElem? (i := 11) rfl)) (hw _ (List.mem_of_getElem? (i := 12) rfl)) (by decide) (by rw [hml]; rfl) (lenOf (by decide +kernel : parseMethodDescriptor "([BI)I" = some ⟨[(.array .byte), .int], some .int⟩) rfl) rfl (hb hby at_117) rfl (W := 0) rfl (by decide) (by decide) (by decide) (by decide) (fun r147 T148 L149 X150 q151 => ?_)
          obtain ⟨rfl, N152q, e153⟩ := q151
          have N152 := Fr.app N136 N152q
          show own_W p e below _ T148 (mkF m 120 #[.val (.int p0), .val (.int p1), .val (.int p2), .val (.ref a3), .val (.int (1 : Int32)), .val (.int (-2 : Int32))] [(.int (own_we_1 fz))])
          refine own_iload X150 hx 122 (hb hby at_120) rfl rfl ?_
          refine own_icmp_ne X150 hx 129 125 (hb hby at_122) (by decide) (by decide) rfl (fun h154 => ?_) (fun h154 => ?_)
          · exact absurd (by rw [own_p_1]; rw [if_pos h122, if_pos h130, if_neg h138]) h154
          · show own_W p e below _ T148 (mkF m 125 #[.val (.int p0), .val (.int p1), .val (.int p2), .val (.ref a3), .val (.int (1 : Int32)), .val (.int (-2 : Int32))] [])
            refine own_iconst X150 hx 126 (1 : Int32) (by decide) (hb hby at_125) rfl ?_
            refine own_goto X150 hx 130 (hb hby at_126) (by decide) (by decide) ?_
            exact own_retZ X150 hx (1 : Int32) (by decide) hret hlk (hb hby at_130) (by decide) (by decide) ⟨rfl, N152⟩
      · show own_W p e below _ T124 (mkF m 89 #[.val (.int p0), .val (.int p1), .val (.int p2), .val (.ref a3), .val (.int (1 : Int32)), .val (.int (1 : Int32))] [])
        refine own_iload X126 hx 91 (hb hby at_89) rfl rfl ?_
        refine own_iconst X126 hx 92 (2 : Int32) (by decide) (hb hby at_91) rfl ?_
        refine own_isubz X126 hx 93 (z := (-1 : Int32)) (by decide) (hb hby at_92) rfl ?_
        refine own_istore X126 hx 95 #[.val (.int p0), .val (.int p1), .val (.int p2), .val (.ref a3), .val (.int (1 : Int32)), .val (.int (-1 : Int32))] rfl (hb hby at_93) rfl rfl ?_
        refine own_goto X126 hx 114 (hb hby at_95) (by decide) (by decide) ?_
        refine own_aloadN X126 hx 115 (hb hby at_114) rfl rfl ?_
        refine own_iload X126 hx 117 (hb hby at_115) rfl rfl ?_
        refine own_callS X126 hx hZ hown e129 (y := (⟨"com/example/gentle_indent/gentleindent/util/Utf8", "wholeEnd", "([BI)I"⟩ : MethodName)) (argsL := [(.ref a3), (.int (1 : Int32))]) (rest := []) 120 (rm4_1 l Z a0 hw a3 fz h52 n0 Z57 f56) (hw _ (List.mem_of_getElem? (i := 9) rfl)) (hw _ (List.mem_of_getElem? (i := 10) rfl)) (hw _ (List.mem_of_getElem? (i := 11) rfl)) (hw _ (List.mem_of_getElem? (i := 12) rfl)) (by decide) (by rw [hml]; rfl) (lenOf (by decide +kernel : parseMethodDescriptor "([BI)I" = some ⟨[(.array .byte), .int], some .int⟩) rfl) rfl (hb hby at_117) rfl (W := 0) rfl (by decide) (by decide) (by decide) (by decide) (fun r155 T156 L157 X158 q159 => ?_)
        obtain ⟨rfl, N160q, e161⟩ := q159
        have N160 := Fr.app N128 N160q
        show own_W p e below _ T156 (mkF m 120 #[.val (.int p0), .val (.int p1), .val (.int p2), .val (.ref a3), .val (.int (1 : Int32)), .val (.int (-1 : Int32))] [(.int (own_we_1 fz))])
        refine own_iload X158 hx 122 (hb hby at_120) rfl rfl ?_
        refine own_icmp_ne X158 hx 129 125 (hb hby at_122) (by decide) (by decide) rfl (fun h162 => ?_) (fun h162 => ?_)
        · exact absurd (by rw [own_p_1]; rw [if_pos h122, if_neg h130]) h162
        · show own_W p e below _ T156 (mkF m 125 #[.val (.int p0), .val (.int p1), .val (.int p2), .val (.ref a3), .val (.int (1 : Int32)), .val (.int (-1 : Int32))] [])
          refine own_iconst X158 hx 126 (1 : Int32) (by decide) (hb hby at_125) rfl ?_
          refine own_goto X158 hx 130 (hb hby at_126) (by decide) (by decide) ?_
          exact own_retZ X158 hx (1 : Int32) (by decide) hret hlk (hb hby at_130) (by decide) (by decide) ⟨rfl, N160⟩
    · show own_W p e below _ T116 (mkF m 70 #[.val (.int p0), .val (.int p1), .val (.int p2), .val (.ref a3), .val (.int (1 : Int32)), .val (.int (1 : Int32))] [])
      refine own_iload X118 hx 72 (hb hby at_70) rfl rfl ?_
      refine own_iconst X118 hx 73 (1 : Int32) (by decide) (hb hby at_72) rfl ?_
      refine own_isubz X118 hx 74 (z := (0 : Int32)) (by decide) (hb hby at_73) rfl ?_
      refine own_istore X118 hx 76 #[.val (.int p0), .val (.int p1), .val (.int p2), .val (.ref a3), .val (.int (1 : Int32)), .val (.int (0 : Int32))] rfl (hb hby at_74) rfl rfl ?_
      refine own_goto X118 hx 114 (hb hby at_76) (by decide) (by decide) ?_
      refine own_aloadN X118 hx 115 (hb hby at_114) rfl rfl ?_
      refine own_iload X118 hx 117 (hb hby at_115) rfl rfl ?_
      refine own_callS X118 hx hZ hown e121 (y := (⟨"com/example/gentle_indent/gentleindent/util/Utf8", "wholeEnd", "([BI)I"⟩ : MethodName)) (argsL := [(.ref a3), (.int (1 : Int32))]) (rest := []) 120 (rm4_1 l Z a0 hw a3 fz h52 n0 Z57 f56) (hw _ (List.mem_of_getElem? (i := 9) rfl)) (hw _ (List.mem_of_getElem? (i := 10) rfl)) (hw _ (List.mem_of_getElem? (i := 11) rfl)) (hw _ (List.mem_of_getElem? (i := 12) rfl)) (by decide) (by rw [hml]; rfl) (lenOf (by decide +kernel : parseMethodDescriptor "([BI)I" = some ⟨[(.array .byte), .int], some .int⟩) rfl) rfl (hb hby at_117) rfl (W := 0) rfl (by decide) (by decide) (by decide) (by decide) (fun r163 T164 L165 X166 q167 => ?_)
      obtain ⟨rfl, N168q, e169⟩ := q167
      have N168 := Fr.app N120 N168q
      show own_W p e below _ T164 (mkF m 120 #[.val (.int p0), .val (.int p1), .val (.int p2), .val (.ref a3), .val (.int (1 : Int32)), .val (.int (0 : Int32))] [(.int (own_we_1 fz))])
      refine own_iload X166 hx 122 (hb hby at_120) rfl rfl ?_
      refine own_icmp_ne X166 hx 129 125 (hb hby at_122) (by decide) (by decide) rfl (fun h170 => ?_) (fun h170 => ?_)
      · exact absurd (by rw [own_p_1]; rw [if_neg h122]) h170
      · show own_W p e below _ T164 (mkF m 125 #[.val (.int p0), .val (.int p1), .val (.int p2), .val (.ref a3), .val (.int (1 : Int32)), .val (.int (0 : Int32))] [])
        refine own_iconst X166 hx 126 (1 : Int32) (by decide) (hb hby at_125) rfl ?_
        refine own_goto X166 hx 130 (hb hby at_126) (by decide) (by decide) ?_
        exact own_retZ X166 hx (1 : Int32) (by decide) hret hlk (hb hby at_130) (by decide) (by decide) ⟨rfl, N168⟩
  · show own_W p e below _ T51 (mkF m 56 #[.val (.int p0), .val (.int p1), .val (.int p2), .val (.ref a3), .val (.int (2 : Int32)), .unset] [])
    refine own_iload X53 hx 58 (hb hby at_56) rfl rfl ?_
    refine own_istore X53 hx 60 #[.val (.int p0), .val (.int p1), .val (.int p2), .val (.ref a3), .val (.int (2 : Int32)), .val (.int (2 : Int32))] rfl (hb hby at_58) rfl rfl ?_
    refine own_aloadN X53 hx 61 (hb hby at_60) rfl rfl ?_
    refine own_iload X53 hx 63 (hb hby at_61) rfl rfl ?_
    refine own_iconst X53 hx 64 (1 : Int32) (by decide) (hb hby at_63) rfl ?_
    refine own_callS X53 hx hZ hown e54 (y := (⟨"com/example/gentle_indent/gentleindent/util/Utf8WholeEndPinLaw", "cutAt", "([BII)Z"⟩ : MethodName)) (argsL := [(.ref a3), (.int (2 : Int32)), (.int (1 : Int32))]) (rest := []) 67 (rm3_2_1 l Z a0 hw a3 fz h52 n0 Z57 f56) (hw _ (List.mem_of_getElem? (i := 2) rfl)) (hw _ (List.mem_of_getElem? (i := 3) rfl)) (hw _ (List.mem_of_getElem? (i := 4) rfl)) (hw _ (List.mem_of_getElem? (i := 5) rfl)) (by decide) (by rw [hml]; rfl) (lenOf (by decide +kernel : parseMethodDescriptor "([BII)Z" = some ⟨[(.array .byte), .int, .int], some .boolean⟩) rfl) rfl (hb hby at_64) rfl (W := 0) rfl (by decide) (by decide) (by decide) (by decide) (fun r171 T172 L173 X174 q175 => ?_)
    obtain ⟨rfl, N176q, e177⟩ := q175
    have N176 := Fr.app N58 N176q
    show own_W p e below _ T172 (mkF m 67 #[.val (.int p0), .val (.int p1), .val (.int p2), .val (.ref a3), .val (.int (2 : Int32)), .val (.int (2 : Int32))] [(.int (own_cut_2_1 fz))])
    refine own_if_eq X174 hx 79 70 (hb hby at_67) (by decide) (by decide) rfl (fun h178 => ?_) (fun h178 => ?_)
    · show own_W p e below _ T172 (mkF m 79 #[.val (.int p0), .val (.int p1), .val (.int p2), .val (.ref a3), .val (.int (2 : Int32)), .val (.int (2 : Int32))] [])
      refine own_aloadN X174 hx 80 (hb hby at_79) rfl rfl ?_
      refine own_iload X174 hx 82 (hb hby at_80) rfl rfl ?_
      refine own_iconst X174 hx 83 (2 : Int32) (by decide) (hb hby at_82) rfl ?_
      refine own_callS X174 hx hZ hown e177 (y := (⟨"com/example/gentle_indent/gentleindent/util/Utf8WholeEndPinLaw", "cutAt", "([BII)Z"⟩ : MethodName)) (argsL := [(.ref a3), (.int (2 : Int32)), (.int (2 : Int32))]) (rest := []) 86 (rm3_2_2 l Z a0 hw a3 fz h52 n0 Z57 f56) (hw _ (List.mem_of_getElem? (i := 2) rfl)) (hw _ (List.mem_of_getElem? (i := 3) rfl)) (hw _ (List.mem_of_getElem? (i := 4) rfl)) (hw _ (List.mem_of_getElem? (i := 5) rfl)) (by decide) (by rw [hml]; rfl) (lenOf (by decide +kernel : parseMethodDescriptor "([BII)Z" = some ⟨[(.array .byte), .int, .int], some .boolean⟩) rfl) rfl (hb hby at_83) rfl (W := 0) rfl (by decide) (by decide) (by decide) (by decide) (fun r179 T180 L181 X182 q183 => ?_)
      obtain ⟨rfl, N184q, e185⟩ := q183
      have N184 := Fr.app N176 N184q
      show own_W p e below _ T180 (mkF m 86 #[.val (.int p0), .val (.int p1), .val (.int p2), .val (.ref a3), .val (.int (2 : Int32)), .val (.int (2 : Int32))] [(.int (own_cut_2_2 fz))])
      refine own_if_eq X182 hx 98 89 (hb hby at_86) (by decide) (by decide) rfl (fun h186 => ?_) (fun h186 => ?_)
      · show own_W p e below _ T180 (mkF m 98 #[.val (.int p0), .val (.int p1), .val (.int p2), .val (.ref a3), .val (.int (2 : Int32)), .val (.int (2 : Int32))] [])
        refine own_aloadN X182 hx 99 (hb hby at_98) rfl rfl ?_
        refine own_iload X182 hx 101 (hb hby at_99) rfl rfl ?_
        refine own_iconst X182 hx 102 (3 : Int32) (by decide) (hb hby at_101) rfl ?_
        refine own_callS X182 hx hZ hown e185 (y := (⟨"com/example/gentle_indent/gentleindent/util/Utf8WholeEndPinLaw", "cutAt", "([BII)Z"⟩ : MethodName)) (argsL := [(.ref a3), (.int (2 : Int32)), (.int (3 : Int32))]) (rest := []) 105 (rm3_2_3 l Z a0 hw a3 fz h52 n0 Z57 f56) (hw _ (List.mem_of_getElem? (i := 2) rfl)) (hw _ (List.mem_of_getElem? (i := 3) rfl)) (hw _ (List.mem_of_getElem? (i := 4) rfl)) (hw _ (List.mem_of_getElem? (i := 5) rfl)) (by decide) (by rw [hml]; rfl) (lenOf (by decide +kernel : parseMethodDescriptor "([BII)Z" = some ⟨[(.array .byte), .int, .int], some .boolean⟩) rfl) rfl (hb hby at_102) rfl (W := 0) rfl (by decide) (by decide) (by decide) (by decide) (fun r187 T188 L189 X190 q191 => ?_)
        obtain ⟨rfl, N192q, e193⟩ := q191
        have N192 := Fr.app N184 N192q
        show own_W p e below _ T188 (mkF m 105 #[.val (.int p0), .val (.int p1), .val (.int p2), .val (.ref a3), .val (.int (2 : Int32)), .val (.int (2 : Int32))] [(.int (own_cut_2_3 fz))])
        refine own_if_eq X190 hx 114 108 (hb hby at_105) (by decide) (by decide) rfl (fun h194 => ?_) (fun h194 => ?_)
        · show own_W p e below _ T188 (mkF m 114 #[.val (.int p0), .val (.int p1), .val (.int p2), .val (.ref a3), .val (.int (2 : Int32)), .val (.int (2 : Int32))] [])
          refine own_aloadN X190 hx 115 (hb hby at_114) rfl rfl ?_
          refine own_iload X190 hx 117 (hb hby at_115) rfl rfl ?_
          refine own_callS X190 hx hZ hown e193 (y := (⟨"com/example/gentle_indent/gentleindent/util/Utf8", "wholeEnd", "([BI)I"⟩ : MethodName)) (argsL := [(.ref a3), (.int (2 : Int32))]) (rest := []) 120 (rm4_2 l Z a0 hw a3 fz h52 n0 Z57 f56) (hw _ (List.mem_of_getElem? (i := 9) rfl)) (hw _ (List.mem_of_getElem? (i := 10) rfl)) (hw _ (List.mem_of_getElem? (i := 11) rfl)) (hw _ (List.mem_of_getElem? (i := 12) rfl)) (by decide) (by rw [hml]; rfl) (lenOf (by decide +kernel : parseMethodDescriptor "([BI)I" = some ⟨[(.array .byte), .int], some .int⟩) rfl) rfl (hb hby at_117) rfl (W := 0) rfl (by decide) (by decide) (by decide) (by decide) (fun r195 T196 L197 X198 q199 => ?_)
          obtain ⟨rfl, N200q, e201⟩ := q199
          have N200 := Fr.app N192 N200q
          show own_W p e below _ T196 (mkF m 120 #[.val (.int p0), .val (.int p1), .val (.int p2), .val (.ref a3), .val (.int (2 : Int32)), .val (.int (2 : Int32))] [(.int (own_we_2 fz))])
          refine own_iload X198 hx 122 (hb hby at_120) rfl rfl ?_
          refine own_icmp_ne X198 hx 129 125 (hb hby at_122) (by decide) (by decide) rfl (fun h202 => ?_) (fun h202 => ?_)
          · exact absurd (by rw [own_p_2]; rw [if_pos h178, if_pos h186, if_pos h194]) h202
          · show own_W p e below _ T196 (mkF m 125 #[.val (.int p0), .val (.int p1), .val (.int p2), .val (.ref a3), .val (.int (2 : Int32)), .val (.int (2 : Int32))] [])
            refine own_iconst X198 hx 126 (1 : Int32) (by decide) (hb hby at_125) rfl ?_
            refine own_goto X198 hx 130 (hb hby at_126) (by decide) (by decide) ?_
            exact own_retZ X198 hx (1 : Int32) (by decide) hret hlk (hb hby at_130) (by decide) (by decide) ⟨rfl, N200⟩
        · show own_W p e below _ T188 (mkF m 108 #[.val (.int p0), .val (.int p1), .val (.int p2), .val (.ref a3), .val (.int (2 : Int32)), .val (.int (2 : Int32))] [])
          refine own_iload X190 hx 110 (hb hby at_108) rfl rfl ?_
          refine own_iconst X190 hx 111 (3 : Int32) (by decide) (hb hby at_110) rfl ?_
          refine own_isubz X190 hx 112 (z := (-1 : Int32)) (by decide) (hb hby at_111) rfl ?_
          refine own_istore X190 hx 114 #[.val (.int p0), .val (.int p1), .val (.int p2), .val (.ref a3), .val (.int (2 : Int32)), .val (.int (-1 : Int32))] rfl (hb hby at_112) rfl rfl ?_
          refine own_aloadN X190 hx 115 (hb hby at_114) rfl rfl ?_
          refine own_iload X190 hx 117 (hb hby at_115) rfl rfl ?_
          refine own_callS X190 hx hZ hown e193 (y := (⟨"com/example/gentle_indent/gentleindent/util/Utf8", "wholeEnd", "([BI)I"⟩ : MethodName)) (argsL := [(.ref a3), (.int (2 : Int32))]) (rest := []) 120 (rm4_2 l Z a0 hw a3 fz h52 n0 Z57 f56) (hw _ (List.mem_of_getElem? (i := 9) rfl)) (hw _ (List.mem_of_getElem? (i := 10) rfl)) (hw _ (List.mem_of_getElem? (i := 11) rfl)) (hw _ (List.mem_of_getElem? (i := 12) rfl)) (by decide) (by rw [hml]; rfl) (lenOf (by decide +kernel : parseMethodDescriptor "([BI)I" = some ⟨[(.array .byte), .int], some .int⟩) rfl) rfl (hb hby at_117) rfl (W := 0) rfl (by decide) (by decide) (by decide) (by decide) (fun r203 T204 L205 X206 q207 => ?_)
          obtain ⟨rfl, N208q, e209⟩ := q207
          have N208 := Fr.app N192 N208q
          show own_W p e below _ T204 (mkF m 120 #[.val (.int p0), .val (.int p1), .val (.int p2), .val (.ref a3), .val (.int (2 : Int32)), .val (.int (-1 : Int32))] [(.int (own_we_2 fz))])
          refine own_iload X206 hx 122 (hb hby at_120) rfl rfl ?_
          refine own_icmp_ne X206 hx 129 125 (hb hby at_122) (by decide) (by decide) rfl (fun h210 => ?_) (fun h210 => ?_)
          · exact absurd (by rw [own_p_2]; rw [if_pos h178, if_pos h186, if_neg h194]) h210
          · show own_W p e below _ T204 (mkF m 125 #[.val (.int p0), .val (.int p1), .val (.int p2), .val (.ref a3), .val (.int (2 : Int32)), .val (.int (-1 : Int32))] [])
            refine own_iconst X206 hx 126 (1 : Int32) (by decide) (hb hby at_125) rfl ?_
            refine own_goto X206 hx 130 (hb hby at_126) (by decide) (by decide) ?_
            exact own_retZ X206 hx (1 : Int32) (by decide) hret hlk (hb hby at_130) (by decide) (by decide) ⟨rfl, N208⟩
      · show own_W p e below _ T180 (mkF m 89 #[.val (.int p0), .val (.int p1), .val (.int p2), .val (.ref a3), .val (.int (2 : Int32)), .val (.int (2 : Int32))] [])
        refine own_iload X182 hx 91 (hb hby at_89) rfl rfl ?_
        refine own_iconst X182 hx 92 (2 : Int32) (by decide) (hb hby at_91) rfl ?_
        refine own_isubz X182 hx 93 (z := (0 : Int32)) (by decide) (hb hby at_92) rfl ?_
        refine own_istore X182 hx 95 #[.val (.int p0), .val (.int p1), .val (.int p2), .val (.ref a3), .val (.int (2 : Int32)), .val (.int (0 : Int32))] rfl (hb hby at_93) rfl rfl ?_
        refine own_goto X182 hx 114 (hb hby at_95) (by decide) (by decide) ?_
        refine own_aloadN X182 hx 115 (hb hby at_114) rfl rfl ?_
        refine own_iload X182 hx 117 (hb hby at_115) rfl rfl ?_
        refine own_callS X182 hx hZ hown e185 (y := (⟨"com/example/gentle_indent/gentleindent/util/Utf8", "wholeEnd", "([BI)I"⟩ : MethodName)) (argsL := [(.ref a3), (.int (2 : Int32))]) (rest := []) 120 (rm4_2 l Z a0 hw a3 fz h52 n0 Z57 f56) (hw _ (List.mem_of_getElem? (i := 9) rfl)) (hw _ (List.mem_of_getElem? (i := 10) rfl)) (hw _ (List.mem_of_getElem? (i := 11) rfl)) (hw _ (List.mem_of_getElem? (i := 12) rfl)) (by decide) (by rw [hml]; rfl) (lenOf (by decide +kernel : parseMethodDescriptor "([BI)I" = some ⟨[(.array .byte), .int], some .int⟩) rfl) rfl (hb hby at_117) rfl (W := 0) rfl (by decide) (by decide) (by decide) (by decide) (fun r211 T212 L213 X214 q215 => ?_)
        obtain ⟨rfl, N216q, e217⟩ := q215
        have N216 := Fr.app N184 N216q
        show own_W p e below _ T212 (mkF m 120 #[.val (.int p0), .val (.int p1), .val (.int p2), .val (.ref a3), .val (.int (2 : Int32)), .val (.int (0 : Int32))] [(.int (own_we_2 fz))])
        refine own_iload X214 hx 122 (hb hby at_120) rfl rfl ?_
        refine own_icmp_ne X214 hx 129 125 (hb hby at_122) (by decide) (by decide) rfl (fun h218 => ?_) (fun h218 => ?_)
        · exact absurd (by rw [own_p_2]; rw [if_pos h178, if_neg h186]) h218
        · show own_W p e below _ T212 (mkF m 125 #[.val (.int p0), .val (.int p1), .val (.int p2), .val (.ref a3), .val (.int (2 : Int32)), .val (.int (0 : Int32))] [])
          refine own_iconst X214 hx 126 (1 : Int32) (by decide) (hb hby at_125) rfl ?_
          refine own_goto X214 hx 130 (hb hby at_126) (by decide) (by decide) ?_
          exact own_retZ X214 hx (1 : Int32) (by decide) hret hlk (hb hby at_130) (by decide) (by decide) ⟨rfl, N216⟩
    · show own_W p e below _ T172 (mkF m 70 #[.val (.int p0), .val (.int p1), .val (.int p2), .val (.ref a3), .val (.int (2 : Int32)), .val (.int (2 : Int32))] [])
      refine own_iload X174 hx 72 (hb hby at_70) rfl rfl ?_
      refine own_iconst X174 hx 73 (1 : Int32) (by decide) (hb hby at_72) rfl ?_
      refine own_isubz X174 hx 74 (z := (1 : Int32)) (by decide) (hb hby at_73) rfl ?_
      refine own_istore X174 hx 76 #[.val (.int p0), .val (.int p1), .val (.int p2), .val (.ref a3), .val (.int (2 : Int32)), .val (.int (1 : Int32))] rfl (hb hby at_74) rfl rfl ?_
      refine own_goto X174 hx 114 (hb hby at_76) (by decide) (by decide) ?_
      refine own_aloadN X174 hx 115 (hb hby at_114) rfl rfl ?_
      refine own_iload X174 hx 117 (hb hby at_115) rfl rfl ?_
      refine own_callS X174 hx hZ hown e177 (y := (⟨"com/example/gentle_indent/gentleindent/util/Utf8", "wholeEnd", "([BI)I"⟩ : MethodName)) (argsL := [(.ref a3), (.int (2 : Int32))]) (rest := []) 120 (rm4_2 l Z a0 hw a3 fz h52 n0 Z57 f56) (hw _ (List.mem_of_getElem? (i := 9) rfl)) (hw _ (List.mem_of_getElem? (i := 10) rfl)) (hw _ (List.mem_of_getElem? (i := 11) rfl)) (hw _ (List.mem_of_getElem? (i := 12) rfl)) (by decide) (by rw [hml]; rfl) (lenOf (by decide +kernel : parseMethodDescriptor "([BI)I" = some ⟨[(.array .byte), .int], some .int⟩) rfl) rfl (hb hby at_117) rfl (W := 0) rfl (by decide) (by decide) (by decide) (by decide) (fun r219 T220 L221 X222 q223 => ?_)
      obtain ⟨rfl, N224q, e225⟩ := q223
      have N224 := Fr.app N176 N224q
      show own_W p e below _ T220 (mkF m 120 #[.val (.int p0), .val (.int p1), .val (.int p2), .val (.ref a3), .val (.int (2 : Int32)), .val (.int (1 : Int32))] [(.int (own_we_2 fz))])
      refine own_iload X222 hx 122 (hb hby at_120) rfl rfl ?_
      refine own_icmp_ne X222 hx 129 125 (hb hby at_122) (by decide) (by decide) rfl (fun h226 => ?_) (fun h226 => ?_)
      · exact absurd (by rw [own_p_2]; rw [if_neg h178]) h226
      · show own_W p e below _ T220 (mkF m 125 #[.val (.int p0), .val (.int p1), .val (.int p2), .val (.ref a3), .val (.int (2 : Int32)), .val (.int (1 : Int32))] [])
        refine own_iconst X222 hx 126 (1 : Int32) (by decide) (hb hby at_125) rfl ?_
        refine own_goto X222 hx 130 (hb hby at_126) (by decide) (by decide) ?_
        exact own_retZ X222 hx (1 : Int32) (by decide) hret hlk (hb hby at_130) (by decide) (by decide) ⟨rfl, N224⟩
  · show own_W p e below _ T51 (mkF m 56 #[.val (.int p0), .val (.int p1), .val (.int p2), .val (.ref a3), .val (.int (3 : Int32)), .unset] [])
    refine own_iload X53 hx 58 (hb hby at_56) rfl rfl ?_
    refine own_istore X53 hx 60 #[.val (.int p0), .val (.int p1), .val (.int p2), .val (.ref a3), .val (.int (3 : Int32)), .val (.int (3 : Int32))] rfl (hb hby at_58) rfl rfl ?_
    refine own_aloadN X53 hx 61 (hb hby at_60) rfl rfl ?_
    refine own_iload X53 hx 63 (hb hby at_61) rfl rfl ?_
    refine own_iconst X53 hx 64 (1 : Int32) (by decide) (hb hby at_63) rfl ?_
    refine own_callS X53 hx hZ hown e54 (y := (⟨"com/example/gentle_indent/gentleindent/util/Utf8WholeEndPinLaw", "cutAt", "([BII)Z"⟩ : MethodName)) (argsL := [(.ref a3), (.int (3 : Int32)), (.int (1 : Int32))]) (rest := []) 67 (rm3_3_1 l Z a0 hw a3 fz h52 n0 Z57 f56) (hw _ (List.mem_of_getElem? (i := 2) rfl)) (hw _ (List.mem_of_getElem? (i := 3) rfl)) (hw _ (List.mem_of_getElem? (i := 4) rfl)) (hw _ (List.mem_of_getElem? (i := 5) rfl)) (by decide) (by rw [hml]; rfl) (lenOf (by decide +kernel : parseMethodDescriptor "([BII)Z" = some ⟨[(.array .byte), .int, .int], some .boolean⟩) rfl) rfl (hb hby at_64) rfl (W := 0) rfl (by decide) (by decide) (by decide) (by decide) (fun r227 T228 L229 X230 q231 => ?_)
    obtain ⟨rfl, N232q, e233⟩ := q231
    have N232 := Fr.app N58 N232q
    show own_W p e below _ T228 (mkF m 67 #[.val (.int p0), .val (.int p1), .val (.int p2), .val (.ref a3), .val (.int (3 : Int32)), .val (.int (3 : Int32))] [(.int (own_cut_3_1 fz))])
    refine own_if_eq X230 hx 79 70 (hb hby at_67) (by decide) (by decide) rfl (fun h234 => ?_) (fun h234 => ?_)
    · show own_W p e below _ T228 (mkF m 79 #[.val (.int p0), .val (.int p1), .val (.int p2), .val (.ref a3), .val (.int (3 : Int32)), .val (.int (3 : Int32))] [])
      refine own_aloadN X230 hx 80 (hb hby at_79) rfl rfl ?_
      refine own_iload X230 hx 82 (hb hby at_80) rfl rfl ?_
      refine own_iconst X230 hx 83 (2 : Int32) (by decide) (hb hby at_82) rfl ?_
      refine own_callS X230 hx hZ hown e233 (y := (⟨"com/example/gentle_indent/gentleindent/util/Utf8WholeEndPinLaw", "cutAt", "([BII)Z"⟩ : MethodName)) (argsL := [(.ref a3), (.int (3 : Int32)), (.int (2 : Int32))]) (rest := []) 86 (rm3_3_2 l Z a0 hw a3 fz h52 n0 Z57 f56) (hw _ (List.mem_of_getElem? (i := 2) rfl)) (hw _ (List.mem_of_getElem? (i := 3) rfl)) (hw _ (List.mem_of_getElem? (i := 4) rfl)) (hw _ (List.mem_of_getElem? (i := 5) rfl)) (by decide) (by rw [hml]; rfl) (lenOf (by decide +kernel : parseMethodDescriptor "([BII)Z" = some ⟨[(.array .byte), .int, .int], some .boolean⟩) rfl) rfl (hb hby at_83) rfl (W := 0) rfl (by decide) (by decide) (by decide) (by decide) (fun r235 T236 L237 X238 q239 => ?_)
      obtain ⟨rfl, N240q, e241⟩ := q239
      have N240 := Fr.app N232 N240q
      show own_W p e below _ T236 (mkF m 86 #[.val (.int p0), .val (.int p1), .val (.int p2), .val (.ref a3), .val (.int (3 : Int32)), .val (.int (3 : Int32))] [(.int (own_cut_3_2 fz))])
      refine own_if_eq X238 hx 98 89 (hb hby at_86) (by decide) (by decide) rfl (fun h242 => ?_) (fun h242 => ?_)
      · show own_W p e below _ T236 (mkF m 98 #[.val (.int p0), .val (.int p1), .val (.int p2), .val (.ref a3), .val (.int (3 : Int32)), .val (.int (3 : Int32))] [])
        refine own_aloadN X238 hx 99 (hb hby at_98) rfl rfl ?_
        refine own_iload X238 hx 101 (hb hby at_99) rfl rfl ?_
        refine own_iconst X238 hx 102 (3 : Int32) (by decide) (hb hby at_101) rfl ?_
        refine own_callS X238 hx hZ hown e241 (y := (⟨"com/example/gentle_indent/gentleindent/util/Utf8WholeEndPinLaw", "cutAt", "([BII)Z"⟩ : MethodName)) (argsL := [(.ref a3), (.int (3 : Int32)), (.int (3 : Int32))]) (rest := []) 105 (rm3_3_3 l Z a0 hw a3 fz h52 n0 Z57 f56) (hw _ (List.mem_of_getElem? (i := 2) rfl)) (hw _ (List.mem_of_getElem? (i := 3) rfl)) (hw _ (List.mem_of_getElem? (i := 4) rfl)) (hw _ (List.mem_of_getElem? (i := 5) rfl)) (by decide) (by rw [hml]; rfl) (lenOf (by decide +kernel : parseMethodDescriptor "([BII)Z" = some ⟨[(.array .byte), .int, .int], some .boolean⟩) rfl) rfl (hb hby at_102) rfl (W := 0) rfl (by decide) (by decide) (by decide) (by decide) (fun r243 T244 L245 X246 q247 => ?_)
        obtain ⟨rfl, N248q, e249⟩ := q247
        have N248 := Fr.app N240 N248q
        show own_W p e below _ T244 (mkF m 105 #[.val (.int p0), .val (.int p1), .val (.int p2), .val (.ref a3), .val (.int (3 : Int32)), .val (.int (3 : Int32))] [(.int (own_cut_3_3 fz))])
        refine own_if_eq X246 hx 114 108 (hb hby at_105) (by decide) (by decide) rfl (fun h250 => ?_) (fun h250 => ?_)
        · show own_W p e below _ T244 (mkF m 114 #[.val (.int p0), .val (.int p1), .val (.int p2), .val (.ref a3), .val (.int (3 : Int32)), .val (.int (3 : Int32))] [])
          refine own_aloadN X246 hx 115 (hb hby at_114) rfl rfl ?_
          refine own_iload X246 hx 117 (hb hby at_115) rfl rfl ?_
          refine own_callS X246 hx hZ hown e249 (y := (⟨"com/example/gentle_indent/gentleindent/util/Utf8", "wholeEnd", "([BI)I"⟩ : MethodName)) (argsL := [(.ref a3), (.int (3 : Int32))]) (rest := []) 120 (rm4_3 l Z a0 hw a3 fz h52 n0 Z57 f56) (hw _ (List.mem_of_getElem? (i := 9) rfl)) (hw _ (List.mem_of_getElem? (i := 10) rfl)) (hw _ (List.mem_of_getElem? (i := 11) rfl)) (hw _ (List.mem_of_getElem? (i := 12) rfl)) (by decide) (by rw [hml]; rfl) (lenOf (by decide +kernel : parseMethodDescriptor "([BI)I" = some ⟨[(.array .byte), .int], some .int⟩) rfl) rfl (hb hby at_117) rfl (W := 0) rfl (by decide) (by decide) (by decide) (by decide) (fun r251 T252 L253 X254 q255 => ?_)
          obtain ⟨rfl, N256q, e257⟩ := q255
          have N256 := Fr.app N248 N256q
          show own_W p e below _ T252 (mkF m 120 #[.val (.int p0), .val (.int p1), .val (.int p2), .val (.ref a3), .val (.int (3 : Int32)), .val (.int (3 : Int32))] [(.int (own_we_3 fz))])
          refine own_iload X254 hx 122 (hb hby at_120) rfl rfl ?_
          refine own_icmp_ne X254 hx 129 125 (hb hby at_122) (by decide) (by decide) rfl (fun h258 => ?_) (fun h258 => ?_)
          · exact absurd (by rw [own_p_3]; rw [if_pos h234, if_pos h242, if_pos h250]) h258
          · show own_W p e below _ T252 (mkF m 125 #[.val (.int p0), .val (.int p1), .val (.int p2), .val (.ref a3), .val (.int (3 : Int32)), .val (.int (3 : Int32))] [])
            refine own_iconst X254 hx 126 (1 : Int32) (by decide) (hb hby at_125) rfl ?_
            refine own_goto X254 hx 130 (hb hby at_126) (by decide) (by decide) ?_
            exact own_retZ X254 hx (1 : Int32) (by decide) hret hlk (hb hby at_130) (by decide) (by decide) ⟨rfl, N256⟩
        · show own_W p e below _ T244 (mkF m 108 #[.val (.int p0), .val (.int p1), .val (.int p2), .val (.ref a3), .val (.int (3 : Int32)), .val (.int (3 : Int32))] [])
          refine own_iload X246 hx 110 (hb hby at_108) rfl rfl ?_
          refine own_iconst X246 hx 111 (3 : Int32) (by decide) (hb hby at_110) rfl ?_
          refine own_isubz X246 hx 112 (z := (0 : Int32)) (by decide) (hb hby at_111) rfl ?_
          refine own_istore X246 hx 114 #[.val (.int p0), .val (.int p1), .val (.int p2), .val (.ref a3), .val (.int (3 : Int32)), .val (.int (0 : Int32))] rfl (hb hby at_112) rfl rfl ?_
          refine own_aloadN X246 hx 115 (hb hby at_114) rfl rfl ?_
          refine own_iload X246 hx 117 (hb hby at_115) rfl rfl ?_
          refine own_callS X246 hx hZ hown e249 (y := (⟨"com/example/gentle_indent/gentleindent/util/Utf8", "wholeEnd", "([BI)I"⟩ : MethodName)) (argsL := [(.ref a3), (.int (3 : Int32))]) (rest := []) 120 (rm4_3 l Z a0 hw a3 fz h52 n0 Z57 f56) (hw _ (List.mem_of_getElem? (i := 9) rfl)) (hw _ (List.mem_of_getElem? (i := 10) rfl)) (hw _ (List.mem_of_getElem? (i := 11) rfl)) (hw _ (List.mem_of_getElem? (i := 12) rfl)) (by decide) (by rw [hml]; rfl) (lenOf (by decide +kernel : parseMethodDescriptor "([BI)I" = some ⟨[(.array .byte), .int], some .int⟩) rfl) rfl (hb hby at_117) rfl (W := 0) rfl (by decide) (by decide) (by decide) (by decide) (fun r259 T260 L261 X262 q263 => ?_)
          obtain ⟨rfl, N264q, e265⟩ := q263
          have N264 := Fr.app N248 N264q
          show own_W p e below _ T260 (mkF m 120 #[.val (.int p0), .val (.int p1), .val (.int p2), .val (.ref a3), .val (.int (3 : Int32)), .val (.int (0 : Int32))] [(.int (own_we_3 fz))])
          refine own_iload X262 hx 122 (hb hby at_120) rfl rfl ?_
          refine own_icmp_ne X262 hx 129 125 (hb hby at_122) (by decide) (by decide) rfl (fun h266 => ?_) (fun h266 => ?_)
          · exact absurd (by rw [own_p_3]; rw [if_pos h234, if_pos h242, if_neg h250]) h266
          · show own_W p e below _ T260 (mkF m 125 #[.val (.int p0), .val (.int p1), .val (.int p2), .val (.ref a3), .val (.int (3 : Int32)), .val (.int (0 : Int32))] [])
            refine own_iconst X262 hx 126 (1 : Int32) (by decide) (hb hby at_125) rfl ?_
            refine own_goto X262 hx 130 (hb hby at_126) (by decide) (by decide) ?_
            exact own_retZ X262 hx (1 : Int32) (by decide) hret hlk (hb hby at_130) (by decide) (by decide) ⟨rfl, N264⟩
      · show own_W p e below _ T236 (mkF m 89 #[.val (.int p0), .val (.int p1), .val (.int p2), .val (.ref a3), .val (.int (3 : Int32)), .val (.int (3 : Int32))] [])
        refine own_iload X238 hx 91 (hb hby at_89) rfl rfl ?_
        refine own_iconst X238 hx 92 (2 : Int32) (by decide) (hb hby at_91) rfl ?_
        refine own_isubz X238 hx 93 (z := (1 : Int32)) (by decide) (hb hby at_92) rfl ?_
        refine own_istore X238 hx 95 #[.val (.int p0), .val (.int p1), .val (.int p2), .val (.ref a3), .val (.int (3 : Int32)), .val (.int (1 : Int32))] rfl (hb hby at_93) rfl rfl ?_
        refine own_goto X238 hx 114 (hb hby at_95) (by decide) (by decide) ?_
        refine own_aloadN X238 hx 115 (hb hby at_114) rfl rfl ?_
        refine own_iload X238 hx 117 (hb hby at_115) rfl rfl ?_
        refine own_callS X238 hx hZ hown e241 (y := (⟨"com/example/gentle_indent/gentleindent/util/Utf8", "wholeEnd", "([BI)I"⟩ : MethodName)) (argsL := [(.ref a3), (.int (3 : Int32))]) (rest := []) 120 (rm4_3 l Z a0 hw a3 fz h52 n0 Z57 f56) (hw _ (List.mem_of_getElem? (i := 9) rfl)) (hw _ (List.mem_of_getElem? (i := 10) rfl)) (hw _ (List.mem_of_getElem? (i := 11) rfl)) (hw _ (List.mem_of_getElem? (i := 12) rfl)) (by decide) (by rw [hml]; rfl) (lenOf (by decide +kernel : parseMethodDescriptor "([BI)I" = some ⟨[(.array .byte), .int], some .int⟩) rfl) rfl (hb hby at_117) rfl (W := 0) rfl (by decide) (by decide) (by decide) (by decide) (fun r267 T268 L269 X270 q271 => ?_)
        obtain ⟨rfl, N272q, e273⟩ := q271
        have N272 := Fr.app N240 N272q
        show own_W p e below _ T268 (mkF m 120 #[.val (.int p0), .val (.int p1), .val (.int p2), .val (.ref a3), .val (.int (3 : Int32)), .val (.int (1 : Int32))] [(.int (own_we_3 fz))])
        refine own_iload X270 hx 122 (hb hby at_120) rfl rfl ?_
        refine own_icmp_ne X270 hx 129 125 (hb hby at_122) (by decide) (by decide) rfl (fun h274 => ?_) (fun h274 => ?_)
        · exact absurd (by rw [own_p_3]; rw [if_pos h234, if_neg h242]) h274
        · show own_W p e below _ T268 (mkF m 125 #[.val (.int p0), .val (.int p1), .val (.int p2), .val (.ref a3), .val (.int (3 : Int32)), .val (.int (1 : Int32))] [])
          refine own_iconst X270 hx 126 (1 : Int32) (by decide) (hb hby at_125) rfl ?_
          refine own_goto X270 hx 130 (hb hby at_126) (by decide) (by decide) ?_
          exact own_retZ X270 hx (1 : Int32) (by decide) hret hlk (hb hby at_130) (by decide) (by decide) ⟨rfl, N272⟩
    · show own_W p e below _ T228 (mkF m 70 #[.val (.int p0), .val (.int p1), .val (.int p2), .val (.ref a3), .val (.int (3 : Int32)), .val (.int (3 : Int32))] [])
      refine own_iload X230 hx 72 (hb hby at_70) rfl rfl ?_
      refine own_iconst X230 hx 73 (1 : Int32) (by decide) (hb hby at_72) rfl ?_
      refine own_isubz X230 hx 74 (z := (2 : Int32)) (by decide) (hb hby at_73) rfl ?_
      refine own_istore X230 hx 76 #[.val (.int p0), .val (.int p1), .val (.int p2), .val (.ref a3), .val (.int (3 : Int32)), .val (.int (2 : Int32))] rfl (hb hby at_74) rfl rfl ?_
      refine own_goto X230 hx 114 (hb hby at_76) (by decide) (by decide) ?_
      refine own_aloadN X230 hx 115 (hb hby at_114) rfl rfl ?_
      refine own_iload X230 hx 117 (hb hby at_115) rfl rfl ?_
      refine own_callS X230 hx hZ hown e233 (y := (⟨"com/example/gentle_indent/gentleindent/util/Utf8", "wholeEnd", "([BI)I"⟩ : MethodName)) (argsL := [(.ref a3), (.int (3 : Int32))]) (rest := []) 120 (rm4_3 l Z a0 hw a3 fz h52 n0 Z57 f56) (hw _ (List.mem_of_getElem? (i := 9) rfl)) (hw _ (List.mem_of_getElem? (i := 10) rfl)) (hw _ (List.mem_of_getElem? (i := 11) rfl)) (hw _ (List.mem_of_getElem? (i := 12) rfl)) (by decide) (by rw [hml]; rfl) (lenOf (by decide +kernel : parseMethodDescriptor "([BI)I" = some ⟨[(.array .byte), .int], some .int⟩) rfl) rfl (hb hby at_117) rfl (W := 0) rfl (by decide) (by decide) (by decide) (by decide) (fun r275 T276 L277 X278 q279 => ?_)
      obtain ⟨rfl, N280q, e281⟩ := q279
      have N280 := Fr.app N232 N280q
      show own_W p e below _ T276 (mkF m 120 #[.val (.int p0), .val (.int p1), .val (.int p2), .val (.ref a3), .val (.int (3 : Int32)), .val (.int (2 : Int32))] [(.int (own_we_3 fz))])
      refine own_iload X278 hx 122 (hb hby at_120) rfl rfl ?_
      refine own_icmp_ne X278 hx 129 125 (hb hby at_122) (by decide) (by decide) rfl (fun h282 => ?_) (fun h282 => ?_)
      · exact absurd (by rw [own_p_3]; rw [if_neg h234]) h282
      · show own_W p e below _ T276 (mkF m 125 #[.val (.int p0), .val (.int p1), .val (.int p2), .val (.ref a3), .val (.int (3 : Int32)), .val (.int (2 : Int32))] [])
        refine own_iconst X278 hx 126 (1 : Int32) (by decide) (hb hby at_125) rfl ?_
        refine own_goto X278 hx 130 (hb hby at_126) (by decide) (by decide) ?_
        exact own_retZ X278 hx (1 : Int32) (by decide) hret hlk (hb hby at_130) (by decide) (by decide) ⟨rfl, N280⟩
  · show own_W p e below _ T51 (mkF m 56 #[.val (.int p0), .val (.int p1), .val (.int p2), .val (.ref a3), .val (.int (4 : Int32)), .unset] [])
    refine own_iload X53 hx 58 (hb hby at_56) rfl rfl ?_
    refine own_istore X53 hx 60 #[.val (.int p0), .val (.int p1), .val (.int p2), .val (.ref a3), .val (.int (4 : Int32)), .val (.int (4 : Int32))] rfl (hb hby at_58) rfl rfl ?_
    refine own_aloadN X53 hx 61 (hb hby at_60) rfl rfl ?_
    refine own_iload X53 hx 63 (hb hby at_61) rfl rfl ?_
    refine own_iconst X53 hx 64 (1 : Int32) (by decide) (hb hby at_63) rfl ?_
    refine own_callS X53 hx hZ hown e54 (y := (⟨"com/example/gentle_indent/gentleindent/util/Utf8WholeEndPinLaw", "cutAt", "([BII)Z"⟩ : MethodName)) (argsL := [(.ref a3), (.int (4 : Int32)), (.int (1 : Int32))]) (rest := []) 67 (rm3_4_1 l Z a0 hw a3 fz h52 n0 Z57 f56) (hw _ (List.mem_of_getElem? (i := 2) rfl)) (hw _ (List.mem_of_getElem? (i := 3) rfl)) (hw _ (List.mem_of_getElem? (i := 4) rfl)) (hw _ (List.mem_of_getElem? (i := 5) rfl)) (by decide) (by rw [hml]; rfl) (lenOf (by decide +kernel : parseMethodDescriptor "([BII)Z" = some ⟨[(.array .byte), .int, .int], some .boolean⟩) rfl) rfl (hb hby at_64) rfl (W := 0) rfl (by decide) (by decide) (by decide) (by decide) (fun r283 T284 L285 X286 q287 => ?_)
    obtain ⟨rfl, N288q, e289⟩ := q287
    have N288 := Fr.app N58 N288q
    show own_W p e below _ T284 (mkF m 67 #[.val (.int p0), .val (.int p1), .val (.int p2), .val (.ref a3), .val (.int (4 : Int32)), .val (.int (4 : Int32))] [(.int (own_cut_4_1 fz))])
    refine own_if_eq X286 hx 79 70 (hb hby at_67) (by decide) (by decide) rfl (fun h290 => ?_) (fun h290 => ?_)
    · show own_W p e below _ T284 (mkF m 79 #[.val (.int p0), .val (.int p1), .val (.int p2), .val (.ref a3), .val (.int (4 : Int32)), .val (.int (4 : Int32))] [])
      refine own_aloadN X286 hx 80 (hb hby at_79) rfl rfl ?_
      refine own_iload X286 hx 82 (hb hby at_80) rfl rfl ?_
      refine own_iconst X286 hx 83 (2 : Int32) (by decide) (hb hby at_82) rfl ?_
      refine own_callS X286 hx hZ hown e289 (y := (⟨"com/example/gentle_indent/gentleindent/util/Utf8WholeEndPinLaw", "cutAt", "([BII)Z"⟩ : MethodName)) (argsL := [(.ref a3), (.int (4 : Int32)), (.int (2 : Int32))]) (rest := []) 86 (rm3_4_2 l Z a0 hw a3 fz h52 n0 Z57 f56) (hw _ (List.mem_of_getElem? (i := 2) rfl)) (hw _ (List.mem_of_getElem? (i := 3) rfl)) (hw _ (List.mem_of_getElem? (i := 4) rfl)) (hw _ (List.mem_of_getElem? (i := 5) rfl)) (by decide) (by rw [hml]; rfl) (lenOf (by decide +kernel : parseMethodDescriptor "([BII)Z" = some ⟨[(.array .byte), .int, .int], some .boolean⟩) rfl) rfl (hb hby at_83) rfl (W := 0) rfl (by decide) (by decide) (by decide) (by decide) (fun r291 T292 L293 X294 q295 => ?_)
      obtain ⟨rfl, N296q, e297⟩ := q295
      have N296 := Fr.app N288 N296q
      show own_W p e below _ T292 (mkF m 86 #[.val (.int p0), .val (.int p1), .val (.int p2), .val (.ref a3), .val (.int (4 : Int32)), .val (.int (4 : Int32))] [(.int (own_cut_4_2 fz))])
      refine own_if_eq X294 hx 98 89 (hb hby at_86) (by decide) (by decide) rfl (fun h298 => ?_) (fun h298 => ?_)
      · show own_W p e below _ T292 (mkF m 98 #[.val (.int p0), .val (.int p1), .val (.int p2), .val (.ref a3), .val (.int (4 : Int32)), .val (.int (4 : Int32))] [])
        refine own_aloadN X294 hx 99 (hb hby at_98) rfl rfl ?_
        refine own_iload X294 hx 101 (hb hby at_99) rfl rfl ?_
        refine own_iconst X294 hx 102 (3 : Int32) (by decide) (hb hby at_101) rfl ?_
        refine own_callS X294 hx hZ hown e297 (y := (⟨"com/example/gentle_indent/gentleindent/util/Utf8WholeEndPinLaw", "cutAt", "([BII)Z"⟩ : MethodName)) (argsL := [(.ref a3), (.int (4 : Int32)), (.int (3 : Int32))]) (rest := []) 105 (rm3_4_3 l Z a0 hw a3 fz h52 n0 Z57 f56) (hw _ (List.mem_of_getElem? (i := 2) rfl)) (hw _ (List.mem_of_getElem? (i := 3) rfl)) (hw _ (List.mem_of_getElem? (i := 4) rfl)) (hw _ (List.mem_of_getElem? (i := 5) rfl)) (by decide) (by rw [hml]; rfl) (lenOf (by decide +kernel : parseMethodDescriptor "([BII)Z" = some ⟨[(.array .byte), .int, .int], some .boolean⟩) rfl) rfl (hb hby at_102) rfl (W := 0) rfl (by decide) (by decide) (by decide) (by decide) (fun r299 T300 L301 X302 q303 => ?_)
        obtain ⟨rfl, N304q, e305⟩ := q303
        have N304 := Fr.app N296 N304q
        show own_W p e below _ T300 (mkF m 105 #[.val (.int p0), .val (.int p1), .val (.int p2), .val (.ref a3), .val (.int (4 : Int32)), .val (.int (4 : Int32))] [(.int (own_cut_4_3 fz))])
        refine own_if_eq X302 hx 114 108 (hb hby at_105) (by decide) (by decide) rfl (fun h306 => ?_) (fun h306 => ?_)
        · show own_W p e below _ T300 (mkF m 114 #[.val (.int p0), .val (.int p1), .val (.int p2), .val (.ref a3), .val (.int (4 : Int32)), .val (.int (4 : Int32))] [])
          refine own_aloadN X302 hx 115 (hb hby at_114) rfl rfl ?_
          refine own_iload X302 hx 117 (hb hby at_115) rfl rfl ?_
          refine own_callS X302 hx hZ hown e305 (y := (⟨"com/example/gentle_indent/gentleindent/util/Utf8", "wholeEnd", "([BI)I"⟩ : MethodName)) (argsL := [(.ref a3), (.int (4 : Int32))]) (rest := []) 120 (rm4_4 l Z a0 hw a3 fz h52 n0 Z57 f56) (hw _ (List.mem_of_getElem? (i := 9) rfl)) (hw _ (List.mem_of_getElem? (i := 10) rfl)) (hw _ (List.mem_of_getElem? (i := 11) rfl)) (hw _ (List.mem_of_getElem? (i := 12) rfl)) (by decide) (by rw [hml]; rfl) (lenOf (by decide +kernel : parseMethodDescriptor "([BI)I" = some ⟨[(.array .byte), .int], some .int⟩) rfl) rfl (hb hby at_117) rfl (W := 0) rfl (by decide) (by decide) (by decide) (by decide) (fun r307 T308 L309 X310 q311 => ?_)
          obtain ⟨rfl, N312q, e313⟩ := q311
          have N312 := Fr.app N304 N312q
          show own_W p e below _ T308 (mkF m 120 #[.val (.int p0), .val (.int p1), .val (.int p2), .val (.ref a3), .val (.int (4 : Int32)), .val (.int (4 : Int32))] [(.int (own_we_4 fz))])
          refine own_iload X310 hx 122 (hb hby at_120) rfl rfl ?_
          refine own_icmp_ne X310 hx 129 125 (hb hby at_122) (by decide) (by decide) rfl (fun h314 => ?_) (fun h314 => ?_)
          · exact absurd (by rw [own_p_4]; rw [if_pos h290, if_pos h298, if_pos h306]) h314
          · show own_W p e below _ T308 (mkF m 125 #[.val (.int p0), .val (.int p1), .val (.int p2), .val (.ref a3), .val (.int (4 : Int32)), .val (.int (4 : Int32))] [])
            refine own_iconst X310 hx 126 (1 : Int32) (by decide) (hb hby at_125) rfl ?_
            refine own_goto X310 hx 130 (hb hby at_126) (by decide) (by decide) ?_
            exact own_retZ X310 hx (1 : Int32) (by decide) hret hlk (hb hby at_130) (by decide) (by decide) ⟨rfl, N312⟩
        · show own_W p e below _ T300 (mkF m 108 #[.val (.int p0), .val (.int p1), .val (.int p2), .val (.ref a3), .val (.int (4 : Int32)), .val (.int (4 : Int32))] [])
          refine own_iload X302 hx 110 (hb hby at_108) rfl rfl ?_
          refine own_iconst X302 hx 111 (3 : Int32) (by decide) (hb hby at_110) rfl ?_
          refine own_isubz X302 hx 112 (z := (1 : Int32)) (by decide) (hb hby at_111) rfl ?_
          refine own_istore X302 hx 114 #[.val (.int p0), .val (.int p1), .val (.int p2), .val (.ref a3), .val (.int (4 : Int32)), .val (.int (1 : Int32))] rfl (hb hby at_112) rfl rfl ?_
          refine own_aloadN X302 hx 115 (hb hby at_114) rfl rfl ?_
          refine own_iload X302 hx 117 (hb hby at_115) rfl rfl ?_
          refine own_callS X302 hx hZ hown e305 (y := (⟨"com/example/gentle_indent/gentleindent/util/Utf8", "wholeEnd", "([BI)I"⟩ : MethodName)) (argsL := [(.ref a3), (.int (4 : Int32))]) (rest := []) 120 (rm4_4 l Z a0 hw a3 fz h52 n0 Z57 f56) (hw _ (List.mem_of_getElem? (i := 9) rfl)) (hw _ (List.mem_of_getElem? (i := 10) rfl)) (hw _ (List.mem_of_getElem? (i := 11) rfl)) (hw _ (List.mem_of_getElem? (i := 12) rfl)) (by decide) (by rw [hml]; rfl) (lenOf (by decide +kernel : parseMethodDescriptor "([BI)I" = some ⟨[(.array .byte), .int], some .int⟩) rfl) rfl (hb hby at_117) rfl (W := 0) rfl (by decide) (by decide) (by decide) (by decide) (fun r315 T316 L317 X318 q319 => ?_)
          obtain ⟨rfl, N320q, e321⟩ := q319
          have N320 := Fr.app N304 N320q
          show own_W p e below _ T316 (mkF m 120 #[.val (.int p0), .val (.int p1), .val (.int p2), .val (.ref a3), .val (.int (4 : Int32)), .val (.int (1 : Int32))] [(.int (own_we_4 fz))])
          refine own_iload X318 hx 122 (hb hby at_120) rfl rfl ?_
          refine own_icmp_ne X318 hx 129 125 (hb hby at_122) (by decide) (by decide) rfl (fun h322 => ?_) (fun h322 => ?_)
          · exact absurd (by rw [own_p_4]; rw [if_pos h290, if_pos h298, if_neg h306]) h322
          · show own_W p e below _ T316 (mkF m 125 #[.val (.int p0), .val (.int p1), .val (.int p2), .val (.ref a3), .val (.int (4 : Int32)), .val (.int (1 : Int32))] [])
            refine own_iconst X318 hx 126 (1 : Int32) (by decide) (hb hby at_125) rfl ?_
            refine own_goto X318 hx 130 (hb hby at_126) (by decide) (by decide) ?_
            exact own_retZ X318 hx (1 : Int32) (by decide) hret hlk (hb hby at_130) (by decide) (by decide) ⟨rfl, N320⟩
      · show own_W p e below _ T292 (mkF m 89 #[.val (.int p0), .val (.int p1), .val (.int p2), .val (.ref a3), .val (.int (4 : Int32)), .val (.int (4 : Int32))] [])
        refine own_iload X294 hx 91 (hb hby at_89) rfl rfl ?_
        refine own_iconst X294 hx 92 (2 : Int32) (by decide) (hb hby at_91) rfl ?_
        refine own_isubz X294 hx 93 (z := (2 : Int32)) (by decide) (hb hby at_92) rfl ?_
        refine own_istore X294 hx 95 #[.val (.int p0), .val (.int p1), .val (.int p2), .val (.ref a3), .val (.int (4 : Int32)), .val (.int (2 : Int32))] rfl (hb hby at_93) rfl rfl ?_
        refine own_goto X294 hx 114 (hb hby at_95) (by decide) (by decide) ?_
        refine own_aloadN X294 hx 115 (hb hby at_114) rfl rfl ?_
        refine own_iload X294 hx 117 (hb hby at_115) rfl rfl ?_
        refine own_callS X294 hx hZ hown e297 (y := (⟨"com/example/gentle_indent/gentleindent/util/Utf8", "wholeEnd", "([BI)I"⟩ : MethodName)) (argsL := [(.ref a3), (.int (4 : Int32))]) (rest := []) 120 (rm4_4 l Z a0 hw a3 fz h52 n0 Z57 f56) (hw _ (List.mem_of_getElem? (i := 9) rfl)) (hw _ (List.mem_of_getElem? (i := 10) rfl)) (hw _ (List.mem_of_getElem? (i := 11) rfl)) (hw _ (List.mem_of_getElem? (i := 12) rfl)) (by decide) (by rw [hml]; rfl) (lenOf (by decide +kernel : parseMethodDescriptor "([BI)I" = some ⟨[(.array .byte), .int], some .int⟩) rfl) rfl (hb hby at_117) rfl (W := 0) rfl (by decide) (by decide) (by decide) (by decide) (fun r323 T324 L325 X326 q327 => ?_)
        obtain ⟨rfl, N328q, e329⟩ := q327
        have N328 := Fr.app N296 N328q
        show own_W p e below _ T324 (mkF m 120 #[.val (.int p0), .val (.int p1), .val (.int p2), .val (.ref a3), .val (.int (4 : Int32)), .val (.int (2 : Int32))] [(.int (own_we_4 fz))])
        refine own_iload X326 hx 122 (hb hby at_120) rfl rfl ?_
        refine own_icmp_ne X326 hx 129 125 (hb hby at_122) (by decide) (by decide) rfl (fun h330 => ?_) (fun h330 => ?_)
        · exact absurd (by rw [own_p_4]; rw [if_pos h290, if_neg h298]) h330
        · show own_W p e below _ T324 (mkF m 125 #[.val (.int p0), .val (.int p1), .val (.int p2), .val (.ref a3), .val (.int (4 : Int32)), .val (.int (2 : Int32))] [])
          refine own_iconst X326 hx 126 (1 : Int32) (by decide) (hb hby at_125) rfl ?_
          refine own_goto X326 hx 130 (hb hby at_126) (by decide) (by decide) ?_
          exact own_retZ X326 hx (1 : Int32) (by decide) hret hlk (hb hby at_130) (by decide) (by decide) ⟨rfl, N328⟩
    · show own_W p e below _ T284 (mkF m 70 #[.val (.int p0), .val (.int p1), .val (.int p2), .val (.ref a3), .val (.int (4 : Int32)), .val (.int (4 : Int32))] [])
      refine own_iload X286 hx 72 (hb hby at_70) rfl rfl ?_
      refine own_iconst X286 hx 73 (1 : Int32) (by decide) (hb hby at_72) rfl ?_
      refine own_isubz X286 hx 74 (z := (3 : Int32)) (by decide) (hb hby at_73) rfl ?_
      refine own_istore X286 hx 76 #[.val (.int p0), .val (.int p1), .val (.int p2), .val (.ref a3), .val (.int (4 : Int32)), .val (.int (3 : Int32))] rfl (hb hby at_74) rfl rfl ?_
      refine own_goto X286 hx 114 (hb hby at_76) (by decide) (by decide) ?_
      refine own_aloadN X286 hx 115 (hb hby at_114) rfl rfl ?_
      refine own_iload X286 hx 117 (hb hby at_115) rfl rfl ?_
      refine own_callS X286 hx hZ hown e289 (y := (⟨"com/example/gentle_indent/gentleindent/util/Utf8", "wholeEnd", "([BI)I"⟩ : MethodName)) (argsL := [(.ref a3), (.int (4 : Int32))]) (rest := []) 120 (rm4_4 l Z a0 hw a3 fz h52 n0 Z57 f56) (hw _ (List.mem_of_getElem? (i := 9) rfl)) (hw _ (List.mem_of_getElem? (i := 10) rfl)) (hw _ (List.mem_of_getElem? (i := 11) rfl)) (hw _ (List.mem_of_getElem? (i := 12) rfl)) (by decide) (by rw [hml]; rfl) (lenOf (by decide +kernel : parseMethodDescriptor "([BI)I" = some ⟨[(.array .byte), .int], some .int⟩) rfl) rfl (hb hby at_117) rfl (W := 0) rfl (by decide) (by decide) (by decide) (by decide) (fun r331 T332 L333 X334 q335 => ?_)
      obtain ⟨rfl, N336q, e337⟩ := q335
      have N336 := Fr.app N288 N336q
      show own_W p e below _ T332 (mkF m 120 #[.val (.int p0), .val (.int p1), .val (.int p2), .val (.ref a3), .val (.int (4 : Int32)), .val (.int (3 : Int32))] [(.int (own_we_4 fz))])
      refine own_iload X334 hx 122 (hb hby at_120) rfl rfl ?_
      refine own_icmp_ne X334 hx 129 125 (hb hby at_122) (by decide) (by decide) rfl (fun h338 => ?_) (fun h338 => ?_)
      · exact absurd (by rw [own_p_4]; rw [if_neg h290]) h338
      · show own_W p e below _ T332 (mkF m 125 #[.val (.int p0), .val (.int p1), .val (.int p2), .val (.ref a3), .val (.int (4 : Int32)), .val (.int (3 : Int32))] [])
        refine own_iconst X334 hx 126 (1 : Int32) (by decide) (hb hby at_125) rfl ?_
        refine own_goto X334 hx 130 (hb hby at_126) (by decide) (by decide) ?_
        exact own_retZ X334 hx (1 : Int32) (by decide) hret hlk (hb hby at_130) (by decide) (by decide) ⟨rfl, N336⟩
  · show own_W p e below _ T51 (mkF m 56 #[.val (.int p0), .val (.int p1), .val (.int p2), .val (.ref a3), .val (.int (5 : Int32)), .unset] [])
    refine own_iload X53 hx 58 (hb hby at_56) rfl rfl ?_
    refine own_istore X53 hx 60 #[.val (.int p0), .val (.int p1), .val (.int p2), .val (.ref a3), .val (.int (5 : Int32)), .val (.int (5 : Int32))] rfl (hb hby at_58) rfl rfl ?_
    refine own_aloadN X53 hx 61 (hb hby at_60) rfl rfl ?_
    refine own_iload X53 hx 63 (hb hby at_61) rfl rfl ?_
    refine own_iconst X53 hx 64 (1 : Int32) (by decide) (hb hby at_63) rfl ?_
    refine own_callS X53 hx hZ hown e54 (y := (⟨"com/example/gentle_indent/gentleindent/util/Utf8WholeEndPinLaw", "cutAt", "([BII)Z"⟩ : MethodName)) (argsL := [(.ref a3), (.int (5 : Int32)), (.int (1 : Int32))]) (rest := []) 67 (rm3_5_1 l Z a0 hw a3 fz h52 n0 Z57 f56) (hw _ (List.mem_of_getElem? (i := 2) rfl)) (hw _ (List.mem_of_getElem? (i := 3) rfl)) (hw _ (List.mem_of_getElem? (i := 4) rfl)) (hw _ (List.mem_of_getElem? (i := 5) rfl)) (by decide) (by rw [hml]; rfl) (lenOf (by decide +kernel : parseMethodDescriptor "([BII)Z" = some ⟨[(.array .byte), .int, .int], some .boolean⟩) rfl) rfl (hb hby at_64) rfl (W := 0) rfl (by decide) (by decide) (by decide) (by decide) (fun r339 T340 L341 X342 q343 => ?_)
    obtain ⟨rfl, N344q, e345⟩ := q343
    have N344 := Fr.app N58 N344q
    show own_W p e below _ T340 (mkF m 67 #[.val (.int p0), .val (.int p1), .val (.int p2), .val (.ref a3), .val (.int (5 : Int32)), .val (.int (5 : Int32))] [(.int (own_cut_5_1 fz))])
    refine own_if_eq X342 hx 79 70 (hb hby at_67) (by decide) (by decide) rfl (fun h346 => ?_) (fun h346 => ?_)
    · show own_W p e below _ T340 (mkF m 79 #[.val (.int p0), .val (.int p1), .val (.int p2), .val (.ref a3), .val (.int (5 : Int32)), .val (.int (5 : Int32))] [])
      refine own_aloadN X342 hx 80 (hb hby at_79) rfl rfl ?_
      refine own_iload X342 hx 82 (hb hby at_80) rfl rfl ?_
      refine own_iconst X342 hx 83 (2 : Int32) (by decide) (hb hby at_82) rfl ?_
      refine own_callS X342 hx hZ hown e345 (y := (⟨"com/example/gentle_indent/gentleindent/util/Utf8WholeEndPinLaw", "cutAt", "([BII)Z"⟩ : MethodName)) (argsL := [(.ref a3), (.int (5 : Int32)), (.int (2 : Int32))]) (rest := []) 86 (rm3_5_2 l Z a0 hw a3 fz h52 n0 Z57 f56) (hw _ (List.mem_of_getElem? (i := 2) rfl)) (hw _ (List.mem_of_getElem? (i := 3) rfl)) (hw _ (List.mem_of_getElem? (i := 4) rfl)) (hw _ (List.mem_of_getElem? (i := 5) rfl)) (by decide) (by rw [hml]; rfl) (lenOf (by decide +kernel : parseMethodDescriptor "([BII)Z" = some ⟨[(.array .byte), .int, .int], some .boolean⟩) rfl) rfl (hb hby at_83) rfl (W := 0) rfl (by decide) (by decide) (by decide) (by decide) (fun r347 T348 L349 X350 q351 => ?_)
      obtain ⟨rfl, N352q, e353⟩ := q351
      have N352 := Fr.app N344 N352q
      show own_W p e below _ T348 (mkF m 86 #[.val (.int p0), .val (.int p1), .val (.int p2), .val (.ref a3), .val (.int (5 : Int32)), .val (.int (5 : Int32))] [(.int (own_cut_5_2 fz))])
      refine own_if_eq X350 hx 98 89 (hb hby at_86) (by decide) (by decide) rfl (fun h354 => ?_) (fun h354 => ?_)
      · show own_W p e below _ T348 (mkF m 98 #[.val (.int p0), .val (.int p1), .val (.int p2), .val (.ref a3), .val (.int (5 : Int32)), .val (.int (5 : Int32))] [])
        refine own_aloadN X350 hx 99 (hb hby at_98) rfl rfl ?_
        refine own_iload X350 hx 101 (hb hby at_99) rfl rfl ?_
        refine own_iconst X350 hx 102 (3 : Int32) (by decide) (hb hby at_101) rfl ?_
        refine own_callS X350 hx hZ hown e353 (y := (⟨"com/example/gentle_indent/gentleindent/util/Utf8WholeEndPinLaw", "cutAt", "([BII)Z"⟩ : MethodName)) (argsL := [(.ref a3), (.int (5 : Int32)), (.int (3 : Int32))]) (rest := []) 105 (rm3_5_3 l Z a0 hw a3 fz h52 n0 Z57 f56) (hw _ (List.mem_of_getElem? (i := 2) rfl)) (hw _ (List.mem_of_getElem? (i := 3) rfl)) (hw _ (List.mem_of_getElem? (i := 4) rfl)) (hw _ (List.mem_of_getElem? (i := 5) rfl)) (by decide) (by rw [hml]; rfl) (lenOf (by decide +kernel : parseMethodDescriptor "([BII)Z" = some ⟨[(.array .byte), .int, .int], some .boolean⟩) rfl) rfl (hb hby at_102) rfl (W := 0) rfl (by decide) (by decide) (by decide) (by decide) (fun r355 T356 L357 X358 q359 => ?_)
        obtain ⟨rfl, N360q, e361⟩ := q359
        have N360 := Fr.app N352 N360q
        show own_W p e below _ T356 (mkF m 105 #[.val (.int p0), .val (.int p1), .val (.int p2), .val (.ref a3), .val (.int (5 : Int32)), .val (.int (5 : Int32))] [(.int (own_cut_5_3 fz))])
        refine own_if_eq X358 hx 114 108 (hb hby at_105) (by decide) (by decide) rfl (fun h362 => ?_) (fun h362 => ?_)
        · show own_W p e below _ T356 (mkF m 114 #[.val (.int p0), .val (.int p1), .val (.int p2), .val (.ref a3), .val (.int (5 : Int32)), .val (.int (5 : Int32))] [])
          refine own_aloadN X358 hx 115 (hb hby at_114) rfl rfl ?_
          refine own_iload X358 hx 117 (hb hby at_115) rfl rfl ?_
          refine own_callS X358 hx hZ hown e361 (y := (⟨"com/example/gentle_indent/gentleindent/util/Utf8", "wholeEnd", "([BI)I"⟩ : MethodName)) (argsL := [(.ref a3), (.int (5 : Int32))]) (rest := []) 120 (rm4_5 l Z a0 hw a3 fz h52 n0 Z57 f56) (hw _ (List.mem_of_getElem? (i := 9) rfl)) (hw _ (List.mem_of_getElem? (i := 10) rfl)) (hw _ (List.mem_of_getElem? (i := 11) rfl)) (hw _ (List.mem_of_getElem? (i := 12) rfl)) (by decide) (by rw [hml]; rfl) (lenOf (by decide +kernel : parseMethodDescriptor "([BI)I" = some ⟨[(.array .byte), .int], some .int⟩) rfl) rfl (hb hby at_117) rfl (W := 0) rfl (by decide) (by decide) (by decide) (by decide) (fun r363 T364 L365 X366 q367 => ?_)
          obtain ⟨rfl, N368q, e369⟩ := q367
          have N368 := Fr.app N360 N368q
          show own_W p e below _ T364 (mkF m 120 #[.val (.int p0), .val (.int p1), .val (.int p2), .val (.ref a3), .val (.int (5 : Int32)), .val (.int (5 : Int32))] [(.int (own_we_5 fz))])
          refine own_iload X366 hx 122 (hb hby at_120) rfl rfl ?_
          refine own_icmp_ne X366 hx 129 125 (hb hby at_122) (by decide) (by decide) rfl (fun h370 => ?_) (fun h370 => ?_)
          · exact absurd (by rw [own_p_5]; rw [if_pos h346, if_pos h354, if_pos h362]) h370
          · show own_W p e below _ T364 (mkF m 125 #[.val (.int p0), .val (.int p1), .val (.int p2), .val (.ref a3), .val (.int (5 : Int32)), .val (.int (5 : Int32))] [])
            refine own_iconst X366 hx 126 (1 : Int32) (by decide) (hb hby at_125) rfl ?_
            refine own_goto X366 hx 130 (hb hby at_126) (by decide) (by decide) ?_
            exact own_retZ X366 hx (1 : Int32) (by decide) hret hlk (hb hby at_130) (by decide) (by decide) ⟨rfl, N368⟩
        · show own_W p e below _ T356 (mkF m 108 #[.val (.int p0), .val (.int p1), .val (.int p2), .val (.ref a3), .val (.int (5 : Int32)), .val (.int (5 : Int32))] [])
          refine own_iload X358 hx 110 (hb hby at_108) rfl rfl ?_
          refine own_iconst X358 hx 111 (3 : Int32) (by decide) (hb hby at_110) rfl ?_
          refine own_isubz X358 hx 112 (z := (2 : Int32)) (by decide) (hb hby at_111) rfl ?_
          refine own_istore X358 hx 114 #[.val (.int p0), .val (.int p1), .val (.int p2), .val (.ref a3), .val (.int (5 : Int32)), .val (.int (2 : Int32))] rfl (hb hby at_112) rfl rfl ?_
          refine own_aloadN X358 hx 115 (hb hby at_114) rfl rfl ?_
          refine own_iload X358 hx 117 (hb hby at_115) rfl rfl ?_
          refine own_callS X358 hx hZ hown e361 (y := (⟨"com/example/gentle_indent/gentleindent/util/Utf8", "wholeEnd", "([BI)I"⟩ : MethodName)) (argsL := [(.ref a3), (.int (5 : Int32))]) (rest := []) 120 (rm4_5 l Z a0 hw a3 fz h52 n0 Z57 f56) (hw _ (List.mem_of_getElem? (i := 9) rfl)) (hw _ (List.mem_of_getElem? (i := 10) rfl)) (hw _ (List.mem_of_getElem? (i := 11) rfl)) (hw _ (List.mem_of_getElem? (i := 12) rfl)) (by decide) (by rw [hml]; rfl) (lenOf (by decide +kernel : parseMethodDescriptor "([BI)I" = some ⟨[(.array .byte), .int], some .int⟩) rfl) rfl (hb hby at_117) rfl (W := 0) rfl (by decide) (by decide) (by decide) (by decide) (fun r371 T372 L373 X374 q375 => ?_)
          obtain ⟨rfl, N376q, e377⟩ := q375
          have N376 := Fr.app N360 N376q
          show own_W p e below _ T372 (mkF m 120 #[.val (.int p0), .val (.int p1), .val (.int p2), .val (.ref a3), .val (.int (5 : Int32)), .val (.int (2 : Int32))] [(.int (own_we_5 fz))])
          refine own_iload X374 hx 122 (hb hby at_120) rfl rfl ?_
          refine own_icmp_ne X374 hx 129 125 (hb hby at_122) (by decide) (by decide) rfl (fun h378 => ?_) (fun h378 => ?_)
          · exact absurd (by rw [own_p_5]; rw [if_pos h346, if_pos h354, if_neg h362]) h378
          · show own_W p e below _ T372 (mkF m 125 #[.val (.int p0), .val (.int p1), .val (.int p2), .val (.ref a3), .val (.int (5 : Int32)), .val (.int (2 : Int32))] [])
            refine own_iconst X374 hx 126 (1 : Int32) (by decide) (hb hby at_125) rfl ?_
            refine own_goto X374 hx 130 (hb hby at_126) (by decide) (by decide) ?_
            exact own_retZ X374 hx (1 : Int32) (by decide) hret hlk (hb hby at_130) (by decide) (by decide) ⟨rfl, N376⟩
      · show own_W p e below _ T348 (mkF m 89 #[.val (.int p0), .val (.int p1), .val (.int p2), .val (.ref a3), .val (.int (5 : Int32)), .val (.int (5 : Int32))] [])
        refine own_iload X350 hx 91 (hb hby at_89) rfl rfl ?_
        refine own_iconst X350 hx 92 (2 : Int32) (by decide) (hb hby at_91) rfl ?_
        refine own_isubz X350 hx 93 (z := (3 : Int32)) (by decide) (hb hby at_92) rfl ?_
        refine own_istore X350 hx 95 #[.val (.int p0), .val (.int p1), .val (.int p2), .val (.ref a3), .val (.int (5 : Int32)), .val (.int (3 : Int32))] rfl (hb hby at_93) rfl rfl ?_
        refine own_goto X350 hx 114 (hb hby at_95) (by decide) (by decide) ?_
        refine own_aloadN X350 hx 115 (hb hby at_114) rfl rfl ?_
        refine own_iload X350 hx 117 (hb hby at_115) rfl rfl ?_
        refine own_callS X350 hx hZ hown e353 (y := (⟨"com/example/gentle_indent/gentleindent/util/Utf8", "wholeEnd", "([BI)I"⟩ : MethodName)) (argsL := [(.ref a3), (.int (5 : Int32))]) (rest := []) 120 (rm4_5 l Z a0 hw a3 fz h52 n0 Z57 f56) (hw _ (List.mem_of_getElem? (i := 9) rfl)) (hw _ (List.mem_of_getElem? (i := 10) rfl)) (hw _ (List.mem_of_getElem? (i := 11) rfl)) (hw _ (List.mem_of_getElem? (i := 12) rfl)) (by decide) (by rw [hml]; rfl) (lenOf (by decide +kernel : parseMethodDescriptor "([BI)I" = some ⟨[(.array .byte), .int], some .int⟩) rfl) rfl (hb hby at_117) rfl (W := 0) rfl (by decide) (by decide) (by decide) (by decide) (fun r379 T380 L381 X382 q383 => ?_)
        obtain ⟨rfl, N384q, e385⟩ := q383
        have N384 := Fr.app N352 N384q
        show own_W p e below _ T380 (mkF m 120 #[.val (.int p0), .val (.int p1), .val (.int p2), .val (.ref a3), .val (.int (5 : Int32)), .val (.int (3 : Int32))] [(.int (own_we_5 fz))])
        refine own_iload X382 hx 122 (hb hby at_120) rfl rfl ?_
        refine own_icmp_ne X382 hx 129 125 (hb hby at_122) (by decide) (by decide) rfl (fun h386 => ?_) (fun h386 => ?_)
        · exact absurd (by rw [own_p_5]; rw [if_pos h346, if_neg h354]) h386
        · show own_W p e below _ T380 (mkF m 125 #[.val (.int p0), .val (.int p1), .val (.int p2), .val (.ref a3), .val (.int (5 : Int32)), .val (.int (3 : Int32))] [])
          refine own_iconst X382 hx 126 (1 : Int32) (by decide) (hb hby at_125) rfl ?_
          refine own_goto X382 hx 130 (hb hby at_126) (by decide) (by decide) ?_
          exact own_retZ X382 hx (1 : Int32) (by decide) hret hlk (hb hby at_130) (by decide) (by decide) ⟨rfl, N384⟩
    · show own_W p e below _ T340 (mkF m 70 #[.val (.int p0), .val (.int p1), .val (.int p2), .val (.ref a3), .val (.int (5 : Int32)), .val (.int (5 : Int32))] [])
      refine own_iload X342 hx 72 (hb hby at_70) rfl rfl ?_
      refine own_iconst X342 hx 73 (1 : Int32) (by decide) (hb hby at_72) rfl ?_
      refine own_isubz X342 hx 74 (z := (4 : Int32)) (by decide) (hb hby at_73) rfl ?_
      refine own_istore X342 hx 76 #[.val (.int p0), .val (.int p1), .val (.int p2), .val (.ref a3), .val (.int (5 : Int32)), .val (.int (4 : Int32))] rfl (hb hby at_74) rfl rfl ?_
      refine own_goto X342 hx 114 (hb hby at_76) (by decide) (by decide) ?_
      refine own_aloadN X342 hx 115 (hb hby at_114) rfl rfl ?_
      refine own_iload X342 hx 117 (hb hby at_115) rfl rfl ?_
      refine own_callS X342 hx hZ hown e345 (y := (⟨"com/example/gentle_indent/gentleindent/util/Utf8", "wholeEnd", "([BI)I"⟩ : MethodName)) (argsL := [(.ref a3), (.int (5 : Int32))]) (rest := []) 120 (rm4_5 l Z a0 hw a3 fz h52 n0 Z57 f56) (hw _ (List.mem_of_getElem? (i := 9) rfl)) (hw _ (List.mem_of_getElem? (i := 10) rfl)) (hw _ (List.mem_of_getElem? (i := 11) rfl)) (hw _ (List.mem_of_getElem? (i := 12) rfl)) (by decide) (by rw [hml]; rfl) (lenOf (by decide +kernel : parseMethodDescriptor "([BI)I" = some ⟨[(.array .byte), .int], some .int⟩) rfl) rfl (hb hby at_117) rfl (W := 0) rfl (by decide) (by decide) (by decide) (by decide) (fun r387 T388 L389 X390 q391 => ?_)
      obtain ⟨rfl, N392q, e393⟩ := q391
      have N392 := Fr.app N344 N392q
      show own_W p e below _ T388 (mkF m 120 #[.val (.int p0), .val (.int p1), .val (.int p2), .val (.ref a3), .val (.int (5 : Int32)), .val (.int (4 : Int32))] [(.int (own_we_5 fz))])
      refine own_iload X390 hx 122 (hb hby at_120) rfl rfl ?_
      refine own_icmp_ne X390 hx 129 125 (hb hby at_122) (by decide) (by decide) rfl (fun h394 => ?_) (fun h394 => ?_)
      · exact absurd (by rw [own_p_5]; rw [if_neg h346]) h394
      · show own_W p e below _ T388 (mkF m 125 #[.val (.int p0), .val (.int p1), .val (.int p2), .val (.ref a3), .val (.int (5 : Int32)), .val (.int (4 : Int32))] [])
        refine own_iconst X390 hx 126 (1 : Int32) (by decide) (hb hby at_125) rfl ?_
        refine own_goto X390 hx 130 (hb hby at_126) (by decide) (by decide) ?_
        exact own_retZ X390 hx (1 : Int32) (by decide) hret hlk (hb hby at_130) (by decide) (by decide) ⟨rfl, N392⟩
  · show own_W p e below _ T51 (mkF m 56 #[.val (.int p0), .val (.int p1), .val (.int p2), .val (.ref a3), .val (.int (6 : Int32)), .unset] [])
    refine own_iload X53 hx 58 (hb hby at_56) rfl rfl ?_
    refine own_istore X53 hx 60 #[.val (.int p0), .val (.int p1), .val (.int p2), .val (.ref a3), .val (.int (6 : Int32)), .val (.int (6 : Int32))] rfl (hb hby at_58) rfl rfl ?_
    refine own_aloadN X53 hx 61 (hb hby at_60) rfl rfl ?_
    refine own_iload X53 hx 63 (hb hby at_61) rfl rfl ?_
    refine own_iconst X53 hx 64 (1 : Int32) (by decide) (hb hby at_63) rfl ?_
    refine own_callS X53 hx hZ hown e54 (y := (⟨"com/example/gentle_indent/gentleindent/util/Utf8WholeEndPinLaw", "cutAt", "([BII)Z"⟩ : MethodName)) (argsL := [(.ref a3), (.int (6 : Int32)), (.int (1 : Int32))]) (rest := []) 67 (rm3_6_1 l Z a0 hw a3 fz h52 n0 Z57 f56) (hw _ (List.mem_of_getElem? (i := 2) rfl)) (hw _ (List.mem_of_getElem? (i := 3) rfl)) (hw _ (List.mem_of_getElem? (i := 4) rfl)) (hw _ (List.mem_of_getElem? (i := 5) rfl)) (by decide) (by rw [hml]; rfl) (lenOf (by decide +kernel : parseMethodDescriptor "([BII)Z" = some ⟨[(.array .byte), .int, .int], some .boolean⟩) rfl) rfl (hb hby at_64) rfl (W := 0) rfl (by decide) (by decide) (by decide) (by decide) (fun r395 T396 L397 X398 q399 => ?_)
    obtain ⟨rfl, N400q, e401⟩ := q399
    have N400 := Fr.app N58 N400q
    show own_W p e below _ T396 (mkF m 67 #[.val (.int p0), .val (.int p1), .val (.int p2), .val (.ref a3), .val (.int (6 : Int32)), .val (.int (6 : Int32))] [(.int (own_cut_6_1 fz))])
    refine own_if_eq X398 hx 79 70 (hb hby at_67) (by decide) (by decide) rfl (fun h402 => ?_) (fun h402 => ?_)
    · show own_W p e below _ T396 (mkF m 79 #[.val (.int p0), .val (.int p1), .val (.int p2), .val (.ref a3), .val (.int (6 : Int32)), .val (.int (6 : Int32))] [])
      refine own_aloadN X398 hx 80 (hb hby at_79) rfl rfl ?_
      refine own_iload X398 hx 82 (hb hby at_80) rfl rfl ?_
      refine own_iconst X398 hx 83 (2 : Int32) (by decide) (hb hby at_82) rfl ?_
      refine own_callS X398 hx hZ hown e401 (y := (⟨"com/example/gentle_indent/gentleindent/util/Utf8WholeEndPinLaw", "cutAt", "([BII)Z"⟩ : MethodName)) (argsL := [(.ref a3), (.int (6 : Int32)), (.int (2 : Int32))]) (rest := []) 86 (rm3_6_2 l Z a0 hw a3 fz h52 n0 Z57 f56) (hw _ (List.mem_of_getElem? (i := 2) rfl)) (hw _ (List.mem_of_getElem? (i := 3) rfl)) (hw _ (List.mem_of_getElem? (i := 4) rfl)) (hw _ (List.mem_of_getElem? (i := 5) rfl)) (by decide) (by rw [hml]; rfl) (lenOf (by decide +kernel : parseMethodDescriptor "([BII)Z" = some ⟨[(.array .byte), .int, .int], some .boolean⟩) rfl) rfl (hb hby at_83) rfl (W := 0) rfl (by decide) (by decide) (by decide) (by decide) (fun r403 T404 L405 X406 q407 => ?_)
      obtain ⟨rfl, N408q, e409⟩ := q407
      have N408 := Fr.app N400 N408q
      show own_W p e below _ T404 (mkF m 86 #[.val (.int p0), .val (.int p1), .val (.int p2), .val (.ref a3), .val (.int (6 : Int32)), .val (.int (6 : Int32))] [(.int (own_cut_6_2 fz))])
      refine own_if_eq X406 hx 98 89 (hb hby at_86) (by decide) (by decide) rfl (fun h410 => ?_) (fun h410 => ?_)
      · show own_W p e below _ T404 (mkF m 98 #[.val (.int p0), .val (.int p1), .val (.int p2), .val (.ref a3), .val (.int (6 : Int32)), .val (.int (6 : Int32))] [])
        refine own_aloadN X406 hx 99 (hb hby at_98) rfl rfl ?_
        refine own_iload X406 hx 101 (hb hby at_99) rfl rfl ?_
        refine own_iconst X406 hx 102 (3 : Int32) (by decide) (hb hby at_101) rfl ?_
        refine own_callS X406 hx hZ hown e409 (y := (⟨"com/example/gentle_indent/gentleindent/util/Utf8WholeEndPinLaw", "cutAt", "([BII)Z"⟩ : MethodName)) (argsL := [(.ref a3), (.int (6 : Int32)), (.int (3 : Int32))]) (rest := []) 105 (rm3_6_3 l Z a0 hw a3 fz h52 n0 Z57 f56) (hw _ (List.mem_of_getElem? (i := 2) rfl)) (hw _ (List.mem_of_getElem? (i := 3) rfl)) (hw _ (List.mem_of_getElem? (i := 4) rfl)) (hw _ (List.mem_of_getElem? (i := 5) rfl)) (by decide) (by rw [hml]; rfl) (lenOf (by decide +kernel : parseMethodDescriptor "([BII)Z" = some ⟨[(.array .byte), .int, .int], some .boolean⟩) rfl) rfl (hb hby at_102) rfl (W := 0) rfl (by decide) (by decide) (by decide) (by decide) (fun r411 T412 L413 X414 q415 => ?_)
        obtain ⟨rfl, N416q, e417⟩ := q415
        have N416 := Fr.app N408 N416q
        show own_W p e below _ T412 (mkF m 105 #[.val (.int p0), .val (.int p1), .val (.int p2), .val (.ref a3), .val (.int (6 : Int32)), .val (.int (6 : Int32))] [(.int (own_cut_6_3 fz))])
        refine own_if_eq X414 hx 114 108 (hb hby at_105) (by decide) (by decide) rfl (fun h418 => ?_) (fun h418 => ?_)
        · show own_W p e below _ T412 (mkF m 114 #[.val (.int p0), .val (.int p1), .val (.int p2), .val (.ref a3), .val (.int (6 : Int32)), .val (.int (6 : Int32))] [])
          refine own_aloadN X414 hx 115 (hb hby at_114) rfl rfl ?_
          refine own_iload X414 hx 117 (hb hby at_115) rfl rfl ?_
          refine own_callS X414 hx hZ hown e417 (y := (⟨"com/example/gentle_indent/gentleindent/util/Utf8", "wholeEnd", "([BI)I"⟩ : MethodName)) (argsL := [(.ref a3), (.int (6 : Int32))]) (rest := []) 120 (rm4_6 l Z a0 hw a3 fz h52 n0 Z57 f56) (hw _ (List.mem_of_getElem? (i := 9) rfl)) (hw _ (List.mem_of_getElem? (i := 10) rfl)) (hw _ (List.mem_of_getElem? (i := 11) rfl)) (hw _ (List.mem_of_getElem? (i := 12) rfl)) (by decide) (by rw [hml]; rfl) (lenOf (by decide +kernel : parseMethodDescriptor "([BI)I" = some ⟨[(.array .byte), .int], some .int⟩) rfl) rfl (hb hby at_117) rfl (W := 0) rfl (by decide) (by decide) (by decide) (by decide) (fun r419 T420 L421 X422 q423 => ?_)
          obtain ⟨rfl, N424q, e425⟩ := q423
          have N424 := Fr.app N416 N424q
          show own_W p e below _ T420 (mkF m 120 #[.val (.int p0), .val (.int p1), .val (.int p2), .val (.ref a3), .val (.int (6 : Int32)), .val (.int (6 : Int32))] [(.int (own_we_6 fz))])
          refine own_iload X422 hx 122 (hb hby at_120) rfl rfl ?_
          refine own_icmp_ne X422 hx 129 125 (hb hby at_122) (by decide) (by decide) rfl (fun h426 => ?_) (fun h426 => ?_)
          · exact absurd (by rw [own_p_6]; rw [if_pos h402, if_pos h410, if_pos h418]) h426
          · show own_W p e below _ T420 (mkF m 125 #[.val (.int p0), .val (.int p1), .val (.int p2), .val (.ref a3), .val (.int (6 : Int32)), .val (.int (6 : Int32))] [])
            refine own_iconst X422 hx 126 (1 : Int32) (by decide) (hb hby at_125) rfl ?_
            refine own_goto X422 hx 130 (hb hby at_126) (by decide) (by decide) ?_
            exact own_retZ X422 hx (1 : Int32) (by decide) hret hlk (hb hby at_130) (by decide) (by decide) ⟨rfl, N424⟩
        · show own_W p e below _ T412 (mkF m 108 #[.val (.int p0), .val (.int p1), .val (.int p2), .val (.ref a3), .val (.int (6 : Int32)), .val (.int (6 : Int32))] [])
          refine own_iload X414 hx 110 (hb hby at_108) rfl rfl ?_
          refine own_iconst X414 hx 111 (3 : Int32) (by decide) (hb hby at_110) rfl ?_
          refine own_isubz X414 hx 112 (z := (3 : Int32)) (by decide) (hb hby at_111) rfl ?_
          refine own_istore X414 hx 114 #[.val (.int p0), .val (.int p1), .val (.int p2), .val (.ref a3), .val (.int (6 : Int32)), .val (.int (3 : Int32))] rfl (hb hby at_112) rfl rfl ?_
          refine own_aloadN X414 hx 115 (hb hby at_114) rfl rfl ?_
          refine own_iload X414 hx 117 (hb hby at_115) rfl rfl ?_
          refine own_callS X414 hx hZ hown e417 (y := (⟨"com/example/gentle_indent/gentleindent/util/Utf8", "wholeEnd", "([BI)I"⟩ : MethodName)) (argsL := [(.ref a3), (.int (6 : Int32))]) (rest := []) 120 (rm4_6 l Z a0 hw a3 fz h52 n0 Z57 f56) (hw _ (List.mem_of_getElem? (i := 9) rfl)) (hw _ (List.mem_of_getElem? (i := 10) rfl)) (hw _ (List.mem_of_getElem? (i := 11) rfl)) (hw _ (List.mem_of_getElem? (i := 12) rfl)) (by decide) (by rw [hml]; rfl) (lenOf (by decide +kernel : parseMethodDescriptor "([BI)I" = some ⟨[(.array .byte), .int], some .int⟩) rfl) rfl (hb hby at_117) rfl (W := 0) rfl (by decide) (by decide) (by decide) (by decide) (fun r427 T428 L429 X430 q431 => ?_)
          obtain ⟨rfl, N432q, e433⟩ := q431
          have N432 := Fr.app N416 N432q
          show own_W p e below _ T428 (mkF m 120 #[.val (.int p0), .val (.int p1), .val (.int p2), .val (.ref a3), .val (.int (6 : Int32)), .val (.int (3 : Int32))] [(.int (own_we_6 fz))])
          refine own_iload X430 hx 122 (hb hby at_120) rfl rfl ?_
          refine own_icmp_ne X430 hx 129 125 (hb hby at_122) (by decide) (by decide) rfl (fun h434 => ?_) (fun h434 => ?_)
          · exact absurd (by rw [own_p_6]; rw [if_pos h402, if_pos h410, if_neg h418]) h434
          · show own_W p e below _ T428 (mkF m 125 #[.val (.int p0), .val (.int p1), .val (.int p2), .val (.ref a3), .val (.int (6 : Int32)), .val (.int (3 : Int32))] [])
            refine own_iconst X430 hx 126 (1 : Int32) (by decide) (hb hby at_125) rfl ?_
            refine own_goto X430 hx 130 (hb hby at_126) (by decide) (by decide) ?_
            exact own_retZ X430 hx (1 : Int32) (by decide) hret hlk (hb hby at_130) (by decide) (by decide) ⟨rfl, N432⟩
      · show own_W p e below _ T404 (mkF m 89 #[.val (.int p0), .val (.int p1), .val (.int p2), .val (.ref a3), .val (.int (6 : Int32)), .val (.int (6 : Int32))] [])
        refine own_iload X406 hx 91 (hb hby at_89) rfl rfl ?_
        refine own_iconst X406 hx 92 (2 : Int32) (by decide) (hb hby at_91) rfl ?_
        refine own_isubz X406 hx 93 (z := (4 : Int32)) (by decide) (hb hby at_92) rfl ?_
        refine own_istore X406 hx 95 #[.val (.int p0), .val (.int p1), .val (.int p2), .val (.ref a3), .val (.int (6 : Int32)), .val (.int (4 : Int32))] rfl (hb hby at_93) rfl rfl ?_
        refine own_goto X406 hx 114 (hb hby at_95) (by decide) (by decide) ?_
        refine own_aloadN X406 hx 115 (hb hby at_114) rfl rfl ?_
        refine own_iload X406 hx 117 (hb hby at_115) rfl rfl ?_
        refine own_callS X406 hx hZ hown e409 (y := (⟨"com/example/gentle_indent/gentleindent/util/Utf8", "wholeEnd", "([BI)I"⟩ : MethodName)) (argsL := [(.ref a3), (.int (6 : Int32))]) (rest := []) 120 (rm4_6 l Z a0 hw a3 fz h52 n0 Z57 f56) (hw _ (List.mem_of_getElem? (i := 9) rfl)) (hw _ (List.mem_of_getElem? (i := 10) rfl)) (hw _ (List.mem_of_getElem? (i := 11) rfl)) (hw _ (List.mem_of_getElem? (i := 12) rfl)) (by decide) (by rw [hml]; rfl) (lenOf (by decide +kernel : parseMethodDescriptor "([BI)I" = some ⟨[(.array .byte), .int], some .int⟩) rfl) rfl (hb hby at_117) rfl (W := 0) rfl (by decide) (by decide) (by decide) (by decide) (fun r435 T436 L437 X438 q439 => ?_)
        obtain ⟨rfl, N440q, e441⟩ := q439
        have N440 := Fr.app N408 N440q
        show own_W p e below _ T436 (mkF m 120 #[.val (.int p0), .val (.int p1), .val (.int p2), .val (.ref a3), .val (.int (6 : Int32)), .val (.int (4 : Int32))] [(.int (own_we_6 fz))])
        refine own_iload X438 hx 122 (hb hby at_120) rfl rfl ?_
        refine own_icmp_ne X438 hx 129 125 (hb hby at_122) (by decide) (by decide) rfl (fun h442 => ?_) (fun h442 => ?_)
        · exact absurd (by rw [own_p_6]; rw [if_pos h402, if_neg h410]) h442
        · show own_W p e below _ T436 (mkF m 125 #[.val (.int p0), .val (.int p1), .val (.int p2), .val (.ref a3), .val (.int (6 : Int32)), .val (.int (4 : Int32))] [])
          refine own_iconst X438 hx 126 (1 : Int32) (by decide) (hb hby at_125) rfl ?_
          refine own_goto X438 hx 130 (hb hby at_126) (by decide) (by decide) ?_
          exact own_retZ X438 hx (1 : Int32) (by decide) hret hlk (hb hby at_130) (by decide) (by decide) ⟨rfl, N440⟩
    · show own_W p e below _ T396 (mkF m 70 #[.val (.int p0), .val (.int p1), .val (.int p2), .val (.ref a3), .val (.int (6 : Int32)), .val (.int (6 : Int32))] [])
      refine own_iload X398 hx 72 (hb hby at_70) rfl rfl ?_
      refine own_iconst X398 hx 73 (1 : Int32) (by decide) (hb hby at_72) rfl ?_
      refine own_isubz X398 hx 74 (z := (5 : Int32)) (by decide) (hb hby at_73) rfl ?_
      refine own_istore X398 hx 76 #[.val (.int p0), .val (.int p1), .val (.int p2), .val (.ref a3), .val (.int (6 : Int32)), .val (.int (5 : Int32))] rfl (hb hby at_74) rfl rfl ?_
      refine own_goto X398 hx 114 (hb hby at_76) (by decide) (by decide) ?_
      refine own_aloadN X398 hx 115 (hb hby at_114) rfl rfl ?_
      refine own_iload X398 hx 117 (hb hby at_115) rfl rfl ?_
      refine own_callS X398 hx hZ hown e401 (y := (⟨"com/example/gentle_indent/gentleindent/util/Utf8", "wholeEnd", "([BI)I"⟩ : MethodName)) (argsL := [(.ref a3), (.int (6 : Int32))]) (rest := []) 120 (rm4_6 l Z a0 hw a3 fz h52 n0 Z57 f56) (hw _ (List.mem_of_getElem? (i := 9) rfl)) (hw _ (List.mem_of_getElem? (i := 10) rfl)) (hw _ (List.mem_of_getElem? (i := 11) rfl)) (hw _ (List.mem_of_getElem? (i := 12) rfl)) (by decide) (by rw [hml]; rfl) (lenOf (by decide +kernel : parseMethodDescriptor "([BI)I" = some ⟨[(.array .byte), .int], some .int⟩) rfl) rfl (hb hby at_117) rfl (W := 0) rfl (by decide) (by decide) (by decide) (by decide) (fun r443 T444 L445 X446 q447 => ?_)
      obtain ⟨rfl, N448q, e449⟩ := q447
      have N448 := Fr.app N400 N448q
      show own_W p e below _ T444 (mkF m 120 #[.val (.int p0), .val (.int p1), .val (.int p2), .val (.ref a3), .val (.int (6 : Int32)), .val (.int (5 : Int32))] [(.int (own_we_6 fz))])
      refine own_iload X446 hx 122 (hb hby at_120) rfl rfl ?_
      refine own_icmp_ne X446 hx 129 125 (hb hby at_122) (by decide) (by decide) rfl (fun h450 => ?_) (fun h450 => ?_)
      · exact absurd (by rw [own_p_6]; rw [if_neg h402]) h450
      · show own_W p e below _ T444 (mkF m 125 #[.val (.int p0), .val (.int p1), .val (.int p2), .val (.ref a3), .val (.int (6 : Int32)), .val (.int (5 : Int32))] [])
        refine own_iconst X446 hx 126 (1 : Int32) (by decide) (hb hby at_125) rfl ?_
        refine own_goto X446 hx 130 (hb hby at_126) (by decide) (by decide) ?_
        exact own_retZ X446 hx (1 : Int32) (by decide) hret hlk (hb hby at_130) (by decide) (by decide) ⟨rfl, N448⟩
set_option maxRecDepth 65536 in
set_option maxHeartbeats 40000000 in
theorem comes_1 {Post : Tables → Env → Array Value → State → Outcome → State → Prop} (hpost : ∀ tb e args s v u, (limb_1_1.after args s (.returned v) u = true ∧ limb_1_2.after args s (.returned v) u = true ∧ True) → FrameEnd s (.returned v) u (Jvm.fieldLocs frame_1_writes args s ++ Jvm.arrayLocs frame_1_arrays args s ++ Jvm.staticLocs frame_1_statics s) 16 128 → Post tb e args s (.returned v) u) :
    ArmFor flags0 classFile x code maxLocals ret World_1 tables_1 room_1 Calls_1 rest_1 Pre_1 Post := by
  intro l hfl _ _ p e ha hc hk s m args below hf hA hF happ hP
  obtain ⟨hcalls, hrest, hpre⟩ := hP
  obtain ⟨-, -, -, hnamed, -, -, -, hat⟩ := (Spec.applies_iff hf).mp happ
  obtain ⟨hg, hn⟩ := and_e (Cond.before_iff.mp (show (Jvm.Cond.and given_1 narrow_1).before args s = true from hpre))
  obtain ⟨g0, gr0⟩ := and_e hg
  obtain ⟨g1, gr1⟩ := and_e gr0
  obtain ⟨g2, gr2⟩ := and_e gr1
  obtain ⟨w0, w1, w2, rfl⟩ : ∃ w0 w1 w2 : Value, args = #[w0, w1, w2] := by
    have hs : args.size = 3 := by simpa [Cond.value, given_1] using g0
    obtain ⟨L⟩ := args
    match L, hs with
    | [w0, w1, w2], _ => exact ⟨w0, w1, w2, rfl⟩
  have hw := fun d (hd : d ∈ tables_1) => atoms_spec (ws := Jvm.Cond.code x code maxLocals ret :: tables_1) hat d (List.mem_cons_of_mem _ hd)
  obtain ⟨i0, ei0⟩ := is_v g1
  obtain rfl : w0 = (.int i0) := Option.some.inj ei0
  obtain ⟨i1, ei1⟩ := is_v g2
  obtain rfl : w1 = (.int i1) := Option.some.inj ei1
  obtain ⟨i2, ei2⟩ := is_v gr2
  obtain rfl : w2 = (.int i2) := Option.some.inj ei2
  obtain ⟨n, o, h1, h2, h3, _, L, rfl, ⟨rfl, N⟩, hq⟩ := rm0 l s _ hw i0 i1 i2 s.heap s.heap.size (Nat.le_refl _) p e ha hc hk s m _ below hf ((Spec.applies_iff_loose hf).mp happ).1 ⟨rfl, State.Warmed39.refl s, rfl⟩ trivial
  refine ⟨n, _, h1, h2, h3, hpost _ _ _ _ _ _ ⟨Cond.after_iff.mpr rfl, Cond.after_iff.mpr (eq_i res_at (Term.int_eval (1)) rfl), trivial⟩ ⟨hq.1, hq.2.1, (hq.2.2.sift fun y hy => Or.inr (N y hy)).mono (by decide) (by decide)⟩⟩
theorem main_1_1 : Claimed_1_1 := comes_1 fun _ _ _ _ _ _ h hF => ⟨h.1, hF⟩
theorem main_1_2 : Claimed_1_2 := comes_1 fun _ _ _ _ _ _ h hF => ⟨h.2.1, hF⟩
end Jvm.Pilot.@@N@@
namespace Jvm.Pilot.@@N@@
open Jvm Jvm.ClassFile Sem Op Lib Jvm.Free Jvm.Stand Jvm.Pilot.@@N@@.Jvm.D
/-! MADE BY PROGRAM (witnessworld.py) out of the Statement's table words and the real class files: 9 classes; the members and pool entries that the words name. The judged class is class 1, her method 4. -/
namespace start1
open Jvm.ClassFile
def u (s : String) : CpInfo := .utf8 (stringToUtf16 s)
/-- a pool by its gaps: so many unusable entries, then the entry; so many at the end -/
def gap : Nat → List CpInfo → List CpInfo
  | 0, r => r
  | n + 1, r => .unusable :: gap n r
def poolList (es : List (Nat × CpInfo)) (last : Nat) : List CpInfo := es.foldr (fun e r => gap e.1 (e.2 :: r)) (gap last [])
def pool (es : List (Nat × CpInfo)) (last : Nat) : Array CpInfo := ⟨poolList es last⟩
def fileOf (pool : Array CpInfo) (this : Nat) (attrs : Array Attribute := #[]) (ms : Array MethodInfo := #[]) (fl : Nat := 33) (sup : Nat := 0) (ifs : Array Nat := #[]) (fds : Array FieldInfo := #[]) : ClassFile where
  minorVersion := 0
  majorVersion := 65
  constantPool := pool
  accessFlags := fl
  thisClass := this
  superClass := sup
  interfaces := ifs
  fields := fds
  methods := ms
  attributes := attrs
def plain (name : String) (sup : Option ClassId) : Class where
  name := name
  kind := .ordinary
  loader := none
  accessFlags := 33
  super := sup
  interfaces := #[]
  cf := none
  fields := #[]
  methods := #[]
  instanceTypes := #[]
  staticTypes := #[]
  resolved := #[]
  callSites := []
  init := .initialized
  statics := none
  mirror := none

def pool0 : Array CpInfo := pool [(5, u "<init>"), (0, u "()V"), (1, .class_ 10), (1, u "java/lang/Object")] 113

def k0m0 : Method := { name := "<init>", desc := "()V", sig := { parameters := [], returnType := none }, accessFlags := 1, code := none }
/-- java/lang/Object -/
def k0 : Class := { plain "java/lang/Object" none with
  accessFlags := 33
  interfaces := #[]
  cf := some (fileOf pool0 8 #[] #[{ accessFlags := 1, nameIndex := 5, descriptorIndex := 6, attributes := #[] }] 33 0 #[] #[])
  fields := #[]
  methods := #[k0m0]
  instanceTypes := #[]
  staticTypes := #[]
  resolved := Array.replicate 124 none
  statics := none }

def pool1 : Array CpInfo := pool [(2, .class_ 4), (1, u "java/lang/Object"), (0, u "<init>"), (0, u "()V"), (0, .methodref 8 9), (0, .class_ 10), (0, .nameAndType 11 12), (0, u "com/example/gentle_indent/gentleindent/util/Utf8WholeEndPinLaw"), (0, u "need"), (0, u "(B)I"), (0, .methodref 8 14), (0, .nameAndType 15 16), (0, u "cont"), (0, u "(B)Z"), (0, .integer 2147483647), (0, .methodref 8 19), (0, .nameAndType 20 21), (0, u "cutAt"), (0, u "([BII)Z"), (0, .methodref 23 24), (0, .class_ 25), (0, .nameAndType 26 27), (0, u "com/example/gentle_indent/gentleindent/util/Utf8"), (0, u "wholeEnd"), (0, u "([BI)I"), (3, u "law"), (0, u "(III)Z")] 4

def k1m0 : Method := { name := "<init>", desc := "()V", sig := { parameters := [], returnType := none }, accessFlags := 2, code := none }
def k1c1 : Code := { maxStack := 2, maxLocals := 2, code := method_2_code, exceptionTable := #[], attributes := #[] }
def k1m1 : Method := { name := "need", desc := "(B)I", sig := { parameters := [.byte], returnType := some .int }, accessFlags := 10, code := some k1c1 }
def k1c2 : Code := { maxStack := 2, maxLocals := 1, code := method_3_code, exceptionTable := #[], attributes := #[] }
def k1m2 : Method := { name := "cont", desc := "(B)Z", sig := { parameters := [.byte], returnType := some .boolean }, accessFlags := 10, code := some k1c2 }
def k1c3 : Code := { maxStack := 3, maxLocals := 4, code := method_4_code, exceptionTable := #[], attributes := #[] }
def k1m3 : Method := { name := "cutAt", desc := "([BII)Z", sig := { parameters := [(.array .byte), .int, .int], returnType := some .boolean }, accessFlags := 10, code := some k1c3 }
def k1c4 : Code := { maxStack := 4, maxLocals := 6, code := code, exceptionTable := #[], attributes := #[] }
def k1m4 : Method := { name := "law", desc := "(III)Z", sig := { parameters := [.int, .int, .int], returnType := some .boolean }, accessFlags := 9, code := some k1c4 }
/-- com/example/gentle_indent/gentleindent/util/Utf8WholeEndPinLaw -/
def k1 : Class := { plain "com/example/gentle_indent/gentleindent/util/Utf8WholeEndPinLaw" (some 0) with
  accessFlags := 49
  interfaces := #[]
  cf := some (fileOf pool1 8 #[] #[{ accessFlags := 2, nameIndex := 5, descriptorIndex := 6, attributes := #[] }, { accessFlags := 10, nameIndex := 11, descriptorIndex := 12, attributes := #[] }, { accessFlags := 10, nameIndex := 15, descriptorIndex := 16, attributes := #[] }, { accessFlags := 10, nameIndex := 20, descriptorIndex := 21, attributes := #[] }, { accessFlags := 9, nameIndex := 31, descriptorIndex := 32, attributes := #[] }] 49 2 #[] #[])
  fields := #[]
  methods := #[k1m0, k1m1, k1m2, k1m3, k1m4]
  instanceTypes := #[]
  staticTypes := #[]
  resolved := Array.replicate 37 none
  statics := none }

def pool2 : Array CpInfo := pool [(2, .class_ 4), (1, u "java/lang/Object"), (0, u "<init>"), (0, u "()V"), (0, .class_ 8), (0, u "com/example/gentle_indent/gentleindent/util/Utf8"), (0, u "LONGEST"), (0, u "I"), (10, u "wholeEnd"), (0, u "([BI)I")] 2

def k2m0 : Method := { name := "<init>", desc := "()V", sig := { parameters := [], returnType := none }, accessFlags := 2, code := none }
def k2c1 : Code := { maxStack := 3, maxLocals := 5, code := prog_84_method_4_code, exceptionTable := #[], attributes := #[] }
def k2m1 : Method := { name := "wholeEnd", desc := "([BI)I", sig := { parameters := [(.array .byte), .int], returnType := some .int }, accessFlags := 9, code := some k2c1 }
/-- com/example/gentle_indent/gentleindent/util/Utf8 -/
def k2 : Class := { plain "com/example/gentle_indent/gentleindent/util/Utf8" (some 0) with
  accessFlags := 49
  interfaces := #[]
  cf := some (fileOf pool2 7 #[] #[{ accessFlags := 2, nameIndex := 5, descriptorIndex := 6, attributes := #[] }, { accessFlags := 9, nameIndex := 21, descriptorIndex := 22, attributes := #[] }] 49 2 #[] #[{ accessFlags := 24, nameIndex := 9, descriptorIndex := 10, attributes := #[] }])
  fields := #[{ name := "LONGEST", type := .int, accessFlags := 24, slot := 0, constantValue := 0 }]
  methods := #[k2m0, k2m1]
  instanceTypes := #[]
  staticTypes := #[.int]
  resolved := Array.replicate 25 none
  statics := none }

def pool3 : Array CpInfo := pool [(1, u "java/lang/Cloneable"), (0, .class_ 1), (0, u "java/lang/Object"), (0, .class_ 3)] 3

/-- java/lang/Cloneable -/
def k3 : Class := { plain "java/lang/Cloneable" (some 0) with
  accessFlags := 1537
  interfaces := #[]
  cf := some (fileOf pool3 2 #[] #[] 1537 4 #[] #[])
  fields := #[]
  methods := #[]
  instanceTypes := #[]
  staticTypes := #[]
  resolved := Array.replicate 8 none
  statics := none }

def pool4 : Array CpInfo := pool [(1, u "java/io/Serializable"), (0, .class_ 1), (0, u "java/lang/Object"), (0, .class_ 3)] 3

/-- java/io/Serializable -/
def k4 : Class := { plain "java/io/Serializable" (some 0) with
  accessFlags := 1537
  interfaces := #[]
  cf := some (fileOf pool4 2 #[] #[] 1537 4 #[] #[])
  fields := #[]
  methods := #[]
  instanceTypes := #[]
  staticTypes := #[]
  resolved := Array.replicate 8 none
  statics := none }

/-- the primitive byte -/
def k5 : Class := { plain "byte" none with kind := .primitive 'B', accessFlags := 0x411 }
/-- [B -/
def k6 : Class := { plain "[B" (some 0) with kind := .array 5 .byte, interfaces := #[3, 4], accessFlags := 1041 }

/-- the primitive int -/
def k7 : Class := { plain "int" none with kind := .primitive 'I', accessFlags := 0x411 }
/-- [I -/
def k8 : Class := { plain "[I" (some 0) with kind := .array 7 .int, interfaces := #[3, 4], accessFlags := 1041 }

def heap : Heap := #[]
def classes : Array Class := #[k0, k1, k2, k3, k4, k5, k6, k7, k8]
def interned : List (Array UInt16 × Addr) := []
def slotsUsed : Nat := 0
def theMethod : MethodId := ⟨1, 4⟩
def args0 : Array Value := #[.int 7, .int 8, .int 9]
def aboutOver (below : List Frame) : State where
  vm := { classes := classes, interned := interned.toArray }
  heap := heap
  slotsUsed := slotsUsed
  threads := #[{ frames := .invoking theMethod args0 :: below }]
def below0 : List Frame := [.native { method := ⟨0, 0⟩, args := #[] }]
def about1 : State := aboutOver below0
def p0 : Program := .bare "" "" ""
def e0 : Env := launch0.env 0 0 0
theorem w_frames : about1.frames = Frame.invoking theMethod args0 :: below0 := rfl
set_option maxRecDepth 65536 in
theorem w_args : argsFit about1.vm theMethod args0 = true := by decide +kernel
set_option maxRecDepth 65536 in
theorem w_heap : heapFits about1 = true := by decide +kernel
set_option maxRecDepth 65536 in
theorem w_runnable : about1.curStatus? = some .runnable := by decide +kernel
set_option maxRecDepth 65536 in
theorem w_alone : about1.alone = true := by decide +kernel
set_option maxRecDepth 65536 in
theorem w_named : about1.methodNamed? x = some theMethod := by decide +kernel
set_option maxRecDepth 65536 in
theorem w_hears : about1.hears theMethod below0 = true := by decide +kernel
set_option maxRecDepth 65536 in
theorem w_ripe : about1.ripe theMethod args0 below0 = true := by decide +kernel
theorem w_running : about1.status = .running := rfl
set_option maxRecDepth 65536 in
theorem w_room : about1.hasRoom e0.platform room_1 = true :=
  launch0.hasRoom_least _ room_1 (by decide +kernel) (by decide +kernel) (by decide +kernel) (by decide +kernel) (by decide +kernel) (by decide +kernel)
theorem allAtoms_all (ts : List Jvm.Cond) (a : Array Jvm.Value) (st : Jvm.State) : (allAtoms ts).before a st = ts.all (fun c => c.before a st) := by
  induction ts with
  | nil => rfl
  | cons c t ih =>
    show (Jvm.Cond.and c (allAtoms t)).before a st = _
    rw [Jvm.Cond.before_and, ih, List.all_cons]
def words1 : List Jvm.Cond := Jvm.Cond.code x code maxLocals ret :: tables_1
/-- a 'code' word, met by the world's own term for the bytes: nothing is compared byte by byte -/
theorem code_word {y : MethodName} {bytes : ByteArray} {mx : Nat} {rt : Option FieldType} {a : Array Value} {s : State} {m : MethodId} {meth : Method} {c : Code} (h1 : s.methodNamed? y = some m) (h2 : s.vm.method? m = some meth) (h3 : meth.code = some c) (h4 : c.code = bytes)
    (h5 : (c.maxLocals == mx && c.exceptionTable.isEmpty && decide (c.maxStack ≤ mostOperands) && decide (meth.sig.returnType = rt) && !meth.locks && decide (parseMethodDescriptor y.desc = some meth.sig)) = true) : (Jvm.Cond.code y bytes mx rt).before a s = true := by
  simp only [Bool.and_eq_true, beq_iff_eq, Bool.not_eq_true', decide_eq_true_eq] at h5
  obtain ⟨⟨⟨⟨⟨g1, g2⟩, g3⟩, g4⟩, g5⟩, g6⟩ := h5
  simp [Cond.before, Cond.holds, Cond.value, h1, h2, h3, h4, g1, g2, g3, g4, g5, g6]
def isCode : Jvm.Cond → Bool
  | .code _ _ _ _ => true
  | _ => false
theorem all_split {L : List Jvm.Cond} {P : Jvm.Cond → Bool} (h1 : L.all (fun c => isCode c || P c) = true) (h2 : ∀ c ∈ L.filter isCode, P c = true) : L.all P = true := by
  refine List.all_eq_true.mpr fun c hc => ?_
  have h := List.all_eq_true.mp h1 c hc
  rcases Bool.eq_false_or_eq_true (isCode c) with hi | hi
  · exact h2 c (List.mem_filter.mpr ⟨hc, hi⟩)
  · simpa [hi] using h
set_option maxRecDepth 65536 in
theorem w_c0 : (Jvm.Cond.code x code maxLocals ret).before args0 about1 = true := code_word (m := ⟨1, 4⟩) (meth := k1m4) (c := k1c4) (by decide +kernel) rfl rfl rfl (by decide +kernel)
set_option maxRecDepth 65536 in
theorem w_c1 : (Jvm.Cond.code ({ cls := "com/example/gentle_indent/gentleindent/util/Utf8WholeEndPinLaw", name := "cutAt", desc := "([BII)Z" } : Jvm.MethodName) method_4_code (4 : Nat) (Option.some Jvm.ClassFile.FieldType.boolean)).before args0 about1 = true := code_word (m := ⟨1, 3⟩) (meth := k1m3) (c := k1c3) (by decide +kernel) rfl rfl rfl (by decide +kernel)
set_option maxRecDepth 65536 in
theorem w_c2 : (Jvm.Cond.code ({ cls := "com/example/gentle_indent/gentleindent/util/Utf8WholeEndPinLaw", name := "need", desc := "(B)I" } : Jvm.MethodName) method_2_code (2 : Nat) (Option.some Jvm.ClassFile.FieldType.int)).before args0 about1 = true := code_word (m := ⟨1, 1⟩) (meth := k1m1) (c := k1c1) (by decide +kernel) rfl rfl rfl (by decide +kernel)
set_option maxRecDepth 65536 in
theorem w_c3 : (Jvm.Cond.code ({ cls := "com/example/gentle_indent/gentleindent/util/Utf8", name := "wholeEnd", desc := "([BI)I" } : Jvm.MethodName) prog_84_method_4_code (5 : Nat) (Option.some Jvm.ClassFile.FieldType.int)).before args0 about1 = true := code_word (m := ⟨2, 1⟩) (meth := k2m1) (c := k2c1) (by decide +kernel) rfl rfl rfl (by decide +kernel)
set_option maxRecDepth 65536 in
theorem w_c4 : (Jvm.Cond.code ({ cls := "com/example/gentle_indent/gentleindent/util/Utf8WholeEndPinLaw", name := "cont", desc := "(B)Z" } : Jvm.MethodName) method_3_code (1 : Nat) (Option.some Jvm.ClassFile.FieldType.boolean)).before args0 about1 = true := code_word (m := ⟨1, 2⟩) (meth := k1m2) (c := k1c2) (by decide +kernel) rfl rfl rfl (by decide +kernel)
def codes1 : List Jvm.Cond := [Jvm.Cond.code x code maxLocals ret, Jvm.Cond.code ({ cls := "com/example/gentle_indent/gentleindent/util/Utf8WholeEndPinLaw", name := "cutAt", desc := "([BII)Z" } : Jvm.MethodName) method_4_code (4 : Nat) (Option.some Jvm.ClassFile.FieldType.boolean), Jvm.Cond.code ({ cls := "com/example/gentle_indent/gentleindent/util/Utf8WholeEndPinLaw", name := "need", desc := "(B)I" } : Jvm.MethodName) method_2_code (2 : Nat) (Option.some Jvm.ClassFile.FieldType.int), Jvm.Cond.code ({ cls := "com/example/gentle_indent/gentleindent/util/Utf8", name := "wholeEnd", desc := "([BI)I" } : Jvm.MethodName) prog_84_method_4_code (5 : Nat) (Option.some Jvm.ClassFile.FieldType.int), Jvm.Cond.code ({ cls := "com/example/gentle_indent/gentleindent/util/Utf8WholeEndPinLaw", name := "cont", desc := "(B)Z" } : Jvm.MethodName) method_3_code (1 : Nat) (Option.some Jvm.ClassFile.FieldType.boolean)]
set_option maxRecDepth 65536 in
theorem codes_eq : words1.filter isCode = codes1 := rfl
theorem w_codes : ∀ c ∈ words1.filter isCode, c.before args0 about1 = true := by
  rw [codes_eq]
  intro c hc
  simp only [codes1, List.mem_cons, List.not_mem_nil, or_false] at hc
  rcases hc with rfl | rfl | rfl | rfl | rfl
  · exact w_c0
  · exact w_c1
  · exact w_c2
  · exact w_c3
  · exact w_c4
set_option maxRecDepth 65536 in
theorem w_t1 : words1.all (fun c => isCode c || c.before args0 about1) = true := by decide +kernel
theorem w_tables : (allAtoms (Jvm.Cond.code x code maxLocals ret :: tables_1)).before args0 about1 = true := by
  rw [allAtoms_all]
  show words1.all (fun c => c.before args0 about1) = true
  refine all_split ?_ w_codes
  rw [w_t1]
set_option maxRecDepth 65536 in
theorem w_case : (Jvm.Cond.and given_1 narrow_1).before args0 about1 = true := by decide +kernel
theorem w_applies : (headSpec (Jvm.Cond.code x code maxLocals ret :: tables_1) room_1).applies x e0.platform about1 = true :=
  (Spec.applies_iff w_frames).mpr ⟨w_running, w_runnable, w_alone, w_named, w_hears, w_ripe, w_room, w_tables⟩
theorem atStart : AtStart classFile x code maxLocals ret World_1 tables_1 room_1 Calls_1 rest_1 Pre_1 launch0 p0 e0 about1 theMethod args0 below0 :=
  ⟨lists_1, trivial, launch0.admits_env _ _ _, launch0.least_env, fairChoices_fair.cas, fairChoices_fair.clock, w_frames, w_args, w_heap, w_applies, trivial, trivial, w_case⟩
end start1
theorem witness_1 : WitnessClaimed_1 := ⟨start1.p0, start1.e0, start1.about1, start1.theMethod, start1.args0, start1.below0, start1.atStart⟩
end Jvm.Pilot.@@N@@
