import JvmDerived
import JvmDerived.Pilot.@@N@@Statement
import JvmDerived.Pilot.@@N@@Code
set_option linter.unusedVariables false
set_option linter.unusedSimpArgs false
namespace Jvm.RoadKit
open Sem ClassFile Op Lib Jvm.Stand Jvm.Free Jvm.LawKit
section New
variable {p : Program} {l : Launch} {e : Env} {R : Room} {s : State} {m : MethodId} {args : Array Value} {below : List Frame} {meth : Method} {c : Code} {T : State} {locs : List Loc} {cells slots : Nat}
theorem retI (X : Stand p l e R s m args below meth c T locs cells slots) (hx : p.tables.exec = Jvm.exec) {pc : Nat} {Ls : Array Slot} {z : Int32} {rest : List Value} (hret : meth.sig.returnType = some .int) (hd : decode c.code pc = .ok (.ireturn, 1)) {fs : List Frame}
    (hl : ∀ (f : JFrame) (acts : List Action), f.method = m → f.locked = none → f.entered = [] → (doReturn e (T.setTop f) acts (some (.int z))).1 = T.setFrames fs) : Steps p.tables e below (T.setTop (mkF m pc Ls (.int z :: rest))) (T.setFrames fs) := by
  have hm' : T.vm.method? m = some meth := X.method'
  have hn : narrow .int (.int z) = .int z := rfl
  show Steps p.tables e below (T.setTop { method := m, pc := pc, locals := Ls, stack := _ :: rest, locked := none }) _
  jvm_step X.here [X.here.top, hx, hd, hm', hret, hn]
  first | (intro acts; rw [hl _ acts rfl rfl rfl]) | rw [hl _ _ rfl rfl rfl]
  exact Steps.refl _
end New
end Jvm.RoadKit
namespace Jvm.Pilot.@@N@@
open Jvm Jvm.ClassFile Sem Op Lib Jvm.Free Jvm.Stand Jvm.LawKit Jvm.RoadKit Bundle Jvm.Pilot.@@N@@.Jvm.D
section OwnLayer
variable {p : Program} {l : Launch} {e : Env} {R : Room} {s : State} {m : MethodId} {args : Array Value} {below : List Frame} {meth : Method} {c : Code} {T : State} {locs : List Loc} {cells slots : Nat} {Z : State} {a0 : Array Value} {h h' : Heap} {K : State → Outcome → Prop} {Q : Option Value → Heap → List Loc → Prop} {pc : Nat} {Ls : Array Slot} {S : List Value} {own : String} {index : Nat} {y : MethodName} {bytes : ByteArray} {maxL : Nat} {ret : Option FieldType} {rm : Room} {as' : Array Value} {h0 : Heap} {ws : List Jvm.Cond}
/-- from here the body comes to its end, and K holds of it -/
def own_W (p : Program) (e : Env) (below : List Frame) (K : State → Outcome → Prop) (T : State) (f : JFrame) : Prop :=
  ∃ s₂ o, Steps p.tables e below (T.setTop f) s₂ ∧ s₂.status = .running ∧ Ended s₂ below o ∧ K s₂ o
def own_K (s : State) (R : Room) (Q : Option Value → Heap → List Loc → Prop) (s₂ : State) (o : Outcome) : Prop :=
  ∃ v L, o = .returned v ∧ Q v s₂.heap L ∧ FrameEnd s o s₂ L R.cells R.slots
/-- a body's contract -/
def own_C (l : Launch) (Z : State) (y : MethodName) (bytes : ByteArray) (maxL : Nat) (ret : Option FieldType) (ws : List Jvm.Cond) (rm : Room) (as' : Array Value) (h0 : Heap) (Q : Option Value → Heap → List Loc → Prop) : Prop :=
  MetFree l y (head1 (Jvm.Cond.code y bytes maxL ret :: ws) rm) (fun a U => a = as' ∧ Z.Warmed39 U.vm ∧ U.heap = h0) (fun _ _ _ _ _ => True) (fun _ U o U' => ∃ v L, o = .returned v ∧ Q v U'.heap L ∧ FrameEnd U o U' L rm.cells rm.slots)
theorem own_bodyF (hpl : plainFor y = true)
    (body : ∀ (p : Program) (e : Env) (s : State) (m : MethodId) (below : List Frame) (meth : Method) (c : Code) (T : State), p.tables.exec = Jvm.exec → c.code = bytes → c.maxLocals = maxL → s.vm.findClass y.cls = some m.cls → meth.name = y.name → meth.sig.returnType = ret → meth.locks = false → Z.Warmed39 s.vm →
      Stand p l e rm s m as' below meth c T [] 0 0 → T.heap = h0 → own_W p e below (own_K s rm Q) T (entryFrame m as' maxL)) : own_C l Z y bytes maxL ret ws rm as' h0 Q := by
  refine MetFree.of_bodySF hpl hisR ?_
  intro p e s m args below meth c s₁ Bd hml0 hP hK
  obtain ⟨rfl, hZ, hh⟩ := hP
  exact body p e s m below meth c s₁ Bd.exec Bd.bytes hml0 (findClass_of_methodNamed Bd.named) (name_of_methodNamed Bd.named Bd.method).1 Bd.returns (BodyLoose.notSynchronized Bd) hZ (Stand.of_body Bd) (by rw [← hh, Bd.state]; rfl)
theorem own_body (hpn : plainName y.cls = true)
    (body : ∀ (p : Program) (e : Env) (s : State) (m : MethodId) (below : List Frame) (meth : Method) (c : Code) (T : State), p.tables.exec = Jvm.exec → c.code = bytes → c.maxLocals = maxL → s.vm.findClass y.cls = some m.cls → meth.name = y.name → meth.sig.returnType = ret → meth.locks = false → Z.Warmed39 s.vm →
      Stand p l e rm s m as' below meth c T [] 0 0 → T.heap = h0 → own_W p e below (own_K s rm Q) T (entryFrame m as' maxL)) : own_C l Z y bytes maxL ret ws rm as' h0 Q := own_bodyF (plainFor_of_name hpn) body
theorem own_s {f f' : JFrame} {T' : State} (hs : ∀ t, Steps p.tables e below (T'.setTop f') t → Steps p.tables e below (T.setTop f) t) (k : own_W p e below K T' f') : own_W p e below K T f := by
  obtain ⟨s₂, o, h1, r⟩ := k; exact ⟨s₂, o, hs _ h1, r⟩
theorem own_s' {f f' : JFrame} {T' : State} (hs : Steps p.tables e below (T.setTop f) (T'.setTop f')) (k : own_W p e below K T' f') : own_W p e below K T f := by
  obtain ⟨s₂, o, h1, r⟩ := k; exact ⟨s₂, o, hs.trans h1, r⟩
theorem own_eq {f f' : JFrame} (q : f = f') (k : own_W p e below K T f') : own_W p e below K T f := q ▸ k
section Plain
theorem own_iloadN (X : Stand p l e R s m args below meth c T locs cells slots) (hx : p.tables.exec = Jvm.exec) {i : Fin 4} {v : Int32} (pc' : Nat) (hd : decode c.code pc = .ok (.iload_n i, 1)) (hp : pc + 1 = pc') (hl : Ls[i.val]? = some (.val (.int v))) (k : own_W p e below K T (mkF m pc' Ls (.int v :: S))) : own_W p e below K T (mkF m pc Ls S) := by subst hp; exact own_s (fun _ => XS.iloadN X.here hx rfl hd hl) k
theorem own_iload (X : Stand p l e R s m args below meth c T locs cells slots) (hx : p.tables.exec = Jvm.exec) {i : Nat} {v : Int32} (pc' : Nat) (hd : decode c.code pc = .ok (.iload i, 2)) (hp : pc + 2 = pc') (hl : Ls[i]? = some (.val (.int v))) (k : own_W p e below K T (mkF m pc' Ls (.int v :: S))) : own_W p e below K T (mkF m pc Ls S) := by subst hp; exact own_s (fun _ => XS.iload X.here hx rfl hd hl) k
theorem own_lloadN (X : Stand p l e R s m args below meth c T locs cells slots) (hx : p.tables.exec = Jvm.exec) {i : Fin 4} {v : Int64} (pc' : Nat) (hd : decode c.code pc = .ok (.lload_n i, 1)) (hp : pc + 1 = pc') (hl : Ls[i.val]? = some (.val (.long v))) (k : own_W p e below K T (mkF m pc' Ls (.long v :: S))) : own_W p e below K T (mkF m pc Ls S) := by subst hp; exact own_s (fun _ => XS.lloadN X.here hx rfl hd hl) k
theorem own_lload (X : Stand p l e R s m args below meth c T locs cells slots) (hx : p.tables.exec = Jvm.exec) {i : Nat} {v : Int64} (pc' : Nat) (hd : decode c.code pc = .ok (.lload i, 2)) (hp : pc + 2 = pc') (hl : Ls[i]? = some (.val (.long v))) (k : own_W p e below K T (mkF m pc' Ls (.long v :: S))) : own_W p e below K T (mkF m pc Ls S) := by subst hp; exact own_s (fun _ => XS.lload X.here hx rfl hd hl) k
theorem own_aloadN (X : Stand p l e R s m args below meth c T locs cells slots) (hx : p.tables.exec = Jvm.exec) {i : Fin 4} {v : Addr} (pc' : Nat) (hd : decode c.code pc = .ok (.aload_n i, 1)) (hp : pc + 1 = pc') (hl : Ls[i.val]? = some (.val (.ref v))) (k : own_W p e below K T (mkF m pc' Ls (.ref v :: S))) : own_W p e below K T (mkF m pc Ls S) := by subst hp; exact own_s (fun _ => XS.aloadN X.here hx rfl hd hl rfl) k
theorem own_aload (X : Stand p l e R s m args below meth c T locs cells slots) (hx : p.tables.exec = Jvm.exec) {i : Nat} {v : Addr} (pc' : Nat) (hd : decode c.code pc = .ok (.aload i, 2)) (hp : pc + 2 = pc') (hl : Ls[i]? = some (.val (.ref v))) (k : own_W p e below K T (mkF m pc' Ls (.ref v :: S))) : own_W p e below K T (mkF m pc Ls S) := by subst hp; exact own_s (fun _ => XS.aload X.here hx rfl hd hl rfl) k
theorem own_istoreN (X : Stand p l e R s m args below meth c T locs cells slots) (hx : p.tables.exec = Jvm.exec) {i : Fin 4} {x y : Int32} (pc' : Nat) (l' : Array Slot) (hy : y = x) (hd : decode c.code pc = .ok (.istore_n i, 1)) (hp : pc + 1 = pc') (hl : storeLocals Ls i.val (.int y) = some l') (k : own_W p e below K T (mkF m pc' l' S)) : own_W p e below K T (mkF m pc Ls (.int x :: S)) := by subst hp hy; exact own_s (fun _ => XS.istoreN X.here hx rfl hd rfl hl) k
theorem own_istore (X : Stand p l e R s m args below meth c T locs cells slots) (hx : p.tables.exec = Jvm.exec) {i : Nat} {x y : Int32} (pc' : Nat) (l' : Array Slot) (hy : y = x) (hd : decode c.code pc = .ok (.istore i, 2)) (hp : pc + 2 = pc') (hl : storeLocals Ls i (.int y) = some l') (k : own_W p e below K T (mkF m pc' l' S)) : own_W p e below K T (mkF m pc Ls (.int x :: S)) := by subst hp hy; exact own_s (fun _ => XS.istore X.here hx rfl hd rfl hl) k
theorem own_lstoreN (X : Stand p l e R s m args below meth c T locs cells slots) (hx : p.tables.exec = Jvm.exec) {i : Fin 4} {x y : Int64} (pc' : Nat) (l' : Array Slot) (hy : y = x) (hd : decode c.code pc = .ok (.lstore_n i, 1)) (hp : pc + 1 = pc') (hl : storeLocals Ls i.val (.long y) = some l') (k : own_W p e below K T (mkF m pc' l' S)) : own_W p e below K T (mkF m pc Ls (.long x :: S)) := by subst hp hy; exact own_s (fun _ => XS.lstoreN X.here hx rfl hd rfl hl) k
theorem own_lstore (X : Stand p l e R s m args below meth c T locs cells slots) (hx : p.tables.exec = Jvm.exec) {i : Nat} {x y : Int64} (pc' : Nat) (l' : Array Slot) (hy : y = x) (hd : decode c.code pc = .ok (.lstore i, 2)) (hp : pc + 2 = pc') (hl : storeLocals Ls i (.long y) = some l') (k : own_W p e below K T (mkF m pc' l' S)) : own_W p e below K T (mkF m pc Ls (.long x :: S)) := by subst hp hy; exact own_s (fun _ => XS.lstore X.here hx rfl hd rfl hl) k
theorem own_astoreN (X : Stand p l e R s m args below meth c T locs cells slots) (hx : p.tables.exec = Jvm.exec) {i : Fin 4} {x y : Addr} (pc' : Nat) (l' : Array Slot) (hy : y = x) (hd : decode c.code pc = .ok (.astore_n i, 1)) (hp : pc + 1 = pc') (hl : storeLocals Ls i.val (.ref y) = some l') (k : own_W p e below K T (mkF m pc' l' S)) : own_W p e below K T (mkF m pc Ls (.ref x :: S)) := by subst hp hy; exact own_s (fun _ => XS.astoreN X.here hx rfl hd rfl rfl hl) k
theorem own_astore (X : Stand p l e R s m args below meth c T locs cells slots) (hx : p.tables.exec = Jvm.exec) {i : Nat} {x y : Addr} (pc' : Nat) (l' : Array Slot) (hy : y = x) (hd : decode c.code pc = .ok (.astore i, 2)) (hp : pc + 2 = pc') (hl : storeLocals Ls i (.ref y) = some l') (k : own_W p e below K T (mkF m pc' l' S)) : own_W p e below K T (mkF m pc Ls (.ref x :: S)) := by subst hp hy; exact own_s (fun _ => XS.astore X.here hx rfl hd rfl rfl hl) k
theorem own_iinc (X : Stand p l e R s m args below meth c T locs cells slots) (hx : p.tables.exec = Jvm.exec) {i : Nat} {cst : Int} {x : Int32} (y : Int32) (pc' : Nat) (l' : Array Slot) (hy : y = x + Int32.ofInt cst) (hd : decode c.code pc = .ok (.iinc i cst, 3)) (hp : pc + 3 = pc') (hl : Ls[i]? = some (.val (.int x))) (hl' : storeLocals Ls i (.int y) = some l') (k : own_W p e below K T (mkF m pc' l' S)) : own_W p e below K T (mkF m pc Ls S) := by subst hp hy; exact own_s (fun _ => XS.iinc X.here hx rfl hd hl hl') k
theorem own_iconst (X : Stand p l e R s m args below meth c T locs cells slots) (hx : p.tables.exec = Jvm.exec) {i : Int} (pc' : Nat) (z : Int32) (hz : Int32.ofInt i = z) (hd : decode c.code pc = .ok (.iconst i, 1)) (hp : pc + 1 = pc') (k : own_W p e below K T (mkF m pc' Ls (.int z :: S))) : own_W p e below K T (mkF m pc Ls S) := by subst hp hz; exact own_s (fun _ => XS.iconst X.here hx rfl hd) k
theorem own_bipush (X : Stand p l e R s m args below meth c T locs cells slots) (hx : p.tables.exec = Jvm.exec) {i : Int} (pc' : Nat) (z : Int32) (hz : (Int8.ofInt i).toInt32 = z) (hd : decode c.code pc = .ok (.bipush i, 2)) (hp : pc + 2 = pc') (k : own_W p e below K T (mkF m pc' Ls (.int z :: S))) : own_W p e below K T (mkF m pc Ls S) := by subst hp hz; exact own_s (fun _ => XS.bipush X.here hx rfl hd) k
theorem own_sipush (X : Stand p l e R s m args below meth c T locs cells slots) (hx : p.tables.exec = Jvm.exec) {i : Int} (pc' : Nat) (z : Int32) (hz : (Int16.ofInt i).toInt32 = z) (hd : decode c.code pc = .ok (.sipush i, 3)) (hp : pc + 3 = pc') (k : own_W p e below K T (mkF m pc' Ls (.int z :: S))) : own_W p e below K T (mkF m pc Ls S) := by subst hp hz; exact own_s (fun _ => XS.sipush X.here hx rfl hd) k
theorem own_lconst (X : Stand p l e R s m args below meth c T locs cells slots) (hx : p.tables.exec = Jvm.exec) {i : Fin 2} (pc' : Nat) (z : Int64) (hz : Int64.ofNat i = z) (hd : decode c.code pc = .ok (.lconst i, 1)) (hp : pc + 1 = pc') (k : own_W p e below K T (mkF m pc' Ls (.long z :: S))) : own_W p e below K T (mkF m pc Ls S) := by subst hp hz; exact own_s (fun _ => XS.lconst X.here hx rfl hd) k
theorem own_ldc (X : Stand p l e R s m args below meth c T locs cells slots) (hx : p.tables.exec = Jvm.exec) {v : Int32} (hZ : Z.Warmed39 s.vm) (hown : s.vm.findClass own = some m.cls) (pc' : Nat) (w : (Jvm.Cond.constant own index v).before a0 Z = true) (hd : decode c.code pc = .ok (.ldc index, 2)) (hp : pc + 2 = pc') (k : own_W p e below K T (mkF m pc' Ls (.int v :: S))) : own_W p e below K T (mkF m pc Ls S) := by subst hp; exact own_s (X.ldcInt hx hown (mvT hZ w) (g := mkF m pc Ls S) rfl hd) k
theorem own_ldc2 (X : Stand p l e R s m args below meth c T locs cells slots) (hx : p.tables.exec = Jvm.exec) {v : Int64} (hZ : Z.Warmed39 s.vm) (hown : s.vm.findClass own = some m.cls) (pc' : Nat) (w : (Jvm.Cond.constantLong own index v).before a0 Z = true) (hd : decode c.code pc = .ok (.ldc2_w index, 3)) (hp : pc + 3 = pc') (k : own_W p e below K T (mkF m pc' Ls (.long v :: S))) : own_W p e below K T (mkF m pc Ls S) := by subst hp; exact own_s (X.ldc2Long hx hown (mvT hZ w) (g := mkF m pc Ls S) rfl hd) k
theorem own_goto (X : Stand p l e R s m args below meth c T locs cells slots) (hx : p.tables.exec = Jvm.exec) {o : Int} (pc' : Nat) (hd : decode c.code pc = .ok (.goto o, 3)) (ho : 0 ≤ (pc : Int) + o) (hp : ((pc : Int) + o).toNat = pc') (k : own_W p e below K T (mkF m pc' Ls S)) : own_W p e below K T (mkF m pc Ls S) := own_s (fun _ => XS.goto X.here hx (g := mkF m pc Ls S) rfl rfl hd ho hp) k
theorem own_dup (X : Stand p l e R s m args below meth c T locs cells slots) (hx : p.tables.exec = Jvm.exec) {x : Value} (pc' : Nat) (hc : x.category = 1) (hd : decode c.code pc = .ok (.dup, 1)) (hp : pc + 1 = pc') (k : own_W p e below K T (mkF m pc' Ls (x :: x :: S))) : own_W p e below K T (mkF m pc Ls (x :: S)) := by subst hp; exact own_s (fun _ => XS.dup X.here hx rfl hd rfl hc) k
theorem own_pop (X : Stand p l e R s m args below meth c T locs cells slots) (hx : p.tables.exec = Jvm.exec) {x : Value} (pc' : Nat) (hc : x.category = 1) (hd : decode c.code pc = .ok (.pop, 1)) (hp : pc + 1 = pc') (k : own_W p e below K T (mkF m pc' Ls S)) : own_W p e below K T (mkF m pc Ls (x :: S)) := by subst hp; exact own_s (fun _ => XS.pop X.here hx rfl hd rfl hc) k
theorem own_dupX1 (X : Stand p l e R s m args below meth c T locs cells slots) (hx : p.tables.exec = Jvm.exec) {x y : Value} (pc' : Nat) (hc : x.category = 1) (hc2 : y.category = 1) (hd : decode c.code pc = .ok (.dup_x1, 1)) (hp : pc + 1 = pc') (k : own_W p e below K T (mkF m pc' Ls (x :: y :: x :: S))) : own_W p e below K T (mkF m pc Ls (x :: y :: S)) := by subst hp; exact own_s (fun _ => XS.dupX1 X.here hx rfl hd rfl hc hc2) k
theorem own_dup2 (X : Stand p l e R s m args below meth c T locs cells slots) (hx : p.tables.exec = Jvm.exec) {x y : Value} (pc' : Nat) (hc : x.category = 1) (hc2 : y.category = 1) (hd : decode c.code pc = .ok (.dup2, 1)) (hp : pc + 1 = pc') (k : own_W p e below K T (mkF m pc' Ls (x :: y :: x :: y :: S))) : own_W p e below K T (mkF m pc Ls (x :: y :: S)) := by subst hp; exact own_s (fun _ => XT.dup2 X.here hx rfl hd rfl hc hc2) k
theorem own_iadd (X : Stand p l e R s m args below meth c T locs cells slots) (hx : p.tables.exec = Jvm.exec) {x y : Int32} (pc' : Nat) (hd : decode c.code pc = .ok (.iadd, 1)) (hp : pc + 1 = pc') (k : own_W p e below K T (mkF m pc' Ls (.int (x + y) :: S))) : own_W p e below K T (mkF m pc Ls (.int y :: .int x :: S)) := by subst hp; exact own_s (fun _ => XS.iadd X.here hx rfl hd rfl) k
theorem own_ladd (X : Stand p l e R s m args below meth c T locs cells slots) (hx : p.tables.exec = Jvm.exec) {x y : Int64} (pc' : Nat) (hd : decode c.code pc = .ok (.ladd, 1)) (hp : pc + 1 = pc') (k : own_W p e below K T (mkF m pc' Ls (.long (x + y) :: S))) : own_W p e below K T (mkF m pc Ls (.long y :: .long x :: S)) := by subst hp; exact own_s (fun _ => XS.ladd X.here hx rfl hd rfl) k
theorem own_isub (X : Stand p l e R s m args below meth c T locs cells slots) (hx : p.tables.exec = Jvm.exec) {x y : Int32} (pc' : Nat) (hd : decode c.code pc = .ok (.isub, 1)) (hp : pc + 1 = pc') (k : own_W p e below K T (mkF m pc' Ls (.int (x - y) :: S))) : own_W p e below K T (mkF m pc Ls (.int y :: .int x :: S)) := by subst hp; exact own_s (fun _ => XS.isub X.here hx rfl hd rfl) k
theorem own_lsub (X : Stand p l e R s m args below meth c T locs cells slots) (hx : p.tables.exec = Jvm.exec) {x y : Int64} (pc' : Nat) (hd : decode c.code pc = .ok (.lsub, 1)) (hp : pc + 1 = pc') (k : own_W p e below K T (mkF m pc' Ls (.long (x - y) :: S))) : own_W p e below K T (mkF m pc Ls (.long y :: .long x :: S)) := by subst hp; exact own_s (fun _ => XS.lsub X.here hx rfl hd rfl) k
theorem own_imul (X : Stand p l e R s m args below meth c T locs cells slots) (hx : p.tables.exec = Jvm.exec) {x y : Int32} (pc' : Nat) (hd : decode c.code pc = .ok (.imul, 1)) (hp : pc + 1 = pc') (k : own_W p e below K T (mkF m pc' Ls (.int (x * y) :: S))) : own_W p e below K T (mkF m pc Ls (.int y :: .int x :: S)) := by subst hp; exact own_s (fun _ => XS.imul X.here hx rfl hd rfl) k
theorem own_lmul (X : Stand p l e R s m args below meth c T locs cells slots) (hx : p.tables.exec = Jvm.exec) {x y : Int64} (pc' : Nat) (hd : decode c.code pc = .ok (.lmul, 1)) (hp : pc + 1 = pc') (k : own_W p e below K T (mkF m pc' Ls (.long (x * y) :: S))) : own_W p e below K T (mkF m pc Ls (.long y :: .long x :: S)) := by subst hp; exact own_s (fun _ => XS.lmul X.here hx rfl hd rfl) k
theorem own_iand (X : Stand p l e R s m args below meth c T locs cells slots) (hx : p.tables.exec = Jvm.exec) {x y : Int32} (pc' : Nat) (hd : decode c.code pc = .ok (.iand, 1)) (hp : pc + 1 = pc') (k : own_W p e below K T (mkF m pc' Ls (.int (x &&& y) :: S))) : own_W p e below K T (mkF m pc Ls (.int y :: .int x :: S)) := by subst hp; exact own_s (fun _ => XS.iand X.here hx rfl hd rfl) k
theorem own_land (X : Stand p l e R s m args below meth c T locs cells slots) (hx : p.tables.exec = Jvm.exec) {x y : Int64} (pc' : Nat) (hd : decode c.code pc = .ok (.land, 1)) (hp : pc + 1 = pc') (k : own_W p e below K T (mkF m pc' Ls (.long (x &&& y) :: S))) : own_W p e below K T (mkF m pc Ls (.long y :: .long x :: S)) := by subst hp; exact own_s (fun _ => XS.land X.here hx rfl hd rfl) k
theorem own_ior (X : Stand p l e R s m args below meth c T locs cells slots) (hx : p.tables.exec = Jvm.exec) {x y : Int32} (pc' : Nat) (hd : decode c.code pc = .ok (.ior, 1)) (hp : pc + 1 = pc') (k : own_W p e below K T (mkF m pc' Ls (.int (x ||| y) :: S))) : own_W p e below K T (mkF m pc Ls (.int y :: .int x :: S)) := by subst hp; exact own_s (fun _ => XS.ior X.here hx rfl hd rfl) k
theorem own_lor (X : Stand p l e R s m args below meth c T locs cells slots) (hx : p.tables.exec = Jvm.exec) {x y : Int64} (pc' : Nat) (hd : decode c.code pc = .ok (.lor, 1)) (hp : pc + 1 = pc') (k : own_W p e below K T (mkF m pc' Ls (.long (x ||| y) :: S))) : own_W p e below K T (mkF m pc Ls (.long y :: .long x :: S)) := by subst hp; exact own_s (fun _ => XS.lor X.here hx rfl hd rfl) k
theorem own_ixor (X : Stand p l e R s m args below meth c T locs cells slots) (hx : p.tables.exec = Jvm.exec) {x y : Int32} (pc' : Nat) (hd : decode c.code pc = .ok (.ixor, 1)) (hp : pc + 1 = pc') (k : own_W p e below K T (mkF m pc' Ls (.int (x ^^^ y) :: S))) : own_W p e below K T (mkF m pc Ls (.int y :: .int x :: S)) := by subst hp; exact own_s (fun _ => XS.ixor X.here hx rfl hd rfl) k
theorem own_lxor (X : Stand p l e R s m args below meth c T locs cells slots) (hx : p.tables.exec = Jvm.exec) {x y : Int64} (pc' : Nat) (hd : decode c.code pc = .ok (.lxor, 1)) (hp : pc + 1 = pc') (k : own_W p e below K T (mkF m pc' Ls (.long (x ^^^ y) :: S))) : own_W p e below K T (mkF m pc Ls (.long y :: .long x :: S)) := by subst hp; exact own_s (fun _ => XS.lxor X.here hx rfl hd rfl) k
theorem own_iaddz (X : Stand p l e R s m args below meth c T locs cells slots) (hx : p.tables.exec = Jvm.exec) {x y z : Int32} (pc' : Nat) (hz : x + y = z) (hd : decode c.code pc = .ok (.iadd, 1)) (hp : pc + 1 = pc') (k : own_W p e below K T (mkF m pc' Ls (.int z :: S))) : own_W p e below K T (mkF m pc Ls (.int y :: .int x :: S)) := by subst hz; exact own_iadd X hx pc' hd hp k
theorem own_laddz (X : Stand p l e R s m args below meth c T locs cells slots) (hx : p.tables.exec = Jvm.exec) {x y z : Int64} (pc' : Nat) (hz : x + y = z) (hd : decode c.code pc = .ok (.ladd, 1)) (hp : pc + 1 = pc') (k : own_W p e below K T (mkF m pc' Ls (.long z :: S))) : own_W p e below K T (mkF m pc Ls (.long y :: .long x :: S)) := by subst hz; exact own_ladd X hx pc' hd hp k
theorem own_isubz (X : Stand p l e R s m args below meth c T locs cells slots) (hx : p.tables.exec = Jvm.exec) {x y z : Int32} (pc' : Nat) (hz : x - y = z) (hd : decode c.code pc = .ok (.isub, 1)) (hp : pc + 1 = pc') (k : own_W p e below K T (mkF m pc' Ls (.int z :: S))) : own_W p e below K T (mkF m pc Ls (.int y :: .int x :: S)) := by subst hz; exact own_isub X hx pc' hd hp k
theorem own_lsubz (X : Stand p l e R s m args below meth c T locs cells slots) (hx : p.tables.exec = Jvm.exec) {x y z : Int64} (pc' : Nat) (hz : x - y = z) (hd : decode c.code pc = .ok (.lsub, 1)) (hp : pc + 1 = pc') (k : own_W p e below K T (mkF m pc' Ls (.long z :: S))) : own_W p e below K T (mkF m pc Ls (.long y :: .long x :: S)) := by subst hz; exact own_lsub X hx pc' hd hp k
theorem own_imulz (X : Stand p l e R s m args below meth c T locs cells slots) (hx : p.tables.exec = Jvm.exec) {x y z : Int32} (pc' : Nat) (hz : x * y = z) (hd : decode c.code pc = .ok (.imul, 1)) (hp : pc + 1 = pc') (k : own_W p e below K T (mkF m pc' Ls (.int z :: S))) : own_W p e below K T (mkF m pc Ls (.int y :: .int x :: S)) := by subst hz; exact own_imul X hx pc' hd hp k
theorem own_lmulz (X : Stand p l e R s m args below meth c T locs cells slots) (hx : p.tables.exec = Jvm.exec) {x y z : Int64} (pc' : Nat) (hz : x * y = z) (hd : decode c.code pc = .ok (.lmul, 1)) (hp : pc + 1 = pc') (k : own_W p e below K T (mkF m pc' Ls (.long z :: S))) : own_W p e below K T (mkF m pc Ls (.long y :: .long x :: S)) := by subst hz; exact own_lmul X hx pc' hd hp k
theorem own_iandz (X : Stand p l e R s m args below meth c T locs cells slots) (hx : p.tables.exec = Jvm.exec) {x y z : Int32} (pc' : Nat) (hz : x &&& y = z) (hd : decode c.code pc = .ok (.iand, 1)) (hp : pc + 1 = pc') (k : own_W p e below K T (mkF m pc' Ls (.int z :: S))) : own_W p e below K T (mkF m pc Ls (.int y :: .int x :: S)) := by subst hz; exact own_iand X hx pc' hd hp k
theorem own_landz (X : Stand p l e R s m args below meth c T locs cells slots) (hx : p.tables.exec = Jvm.exec) {x y z : Int64} (pc' : Nat) (hz : x &&& y = z) (hd : decode c.code pc = .ok (.land, 1)) (hp : pc + 1 = pc') (k : own_W p e below K T (mkF m pc' Ls (.long z :: S))) : own_W p e below K T (mkF m pc Ls (.long y :: .long x :: S)) := by subst hz; exact own_land X hx pc' hd hp k
theorem own_iorz (X : Stand p l e R s m args below meth c T locs cells slots) (hx : p.tables.exec = Jvm.exec) {x y z : Int32} (pc' : Nat) (hz : x ||| y = z) (hd : decode c.code pc = .ok (.ior, 1)) (hp : pc + 1 = pc') (k : own_W p e below K T (mkF m pc' Ls (.int z :: S))) : own_W p e below K T (mkF m pc Ls (.int y :: .int x :: S)) := by subst hz; exact own_ior X hx pc' hd hp k
theorem own_lorz (X : Stand p l e R s m args below meth c T locs cells slots) (hx : p.tables.exec = Jvm.exec) {x y z : Int64} (pc' : Nat) (hz : x ||| y = z) (hd : decode c.code pc = .ok (.lor, 1)) (hp : pc + 1 = pc') (k : own_W p e below K T (mkF m pc' Ls (.long z :: S))) : own_W p e below K T (mkF m pc Ls (.long y :: .long x :: S)) := by subst hz; exact own_lor X hx pc' hd hp k
theorem own_ixorz (X : Stand p l e R s m args below meth c T locs cells slots) (hx : p.tables.exec = Jvm.exec) {x y z : Int32} (pc' : Nat) (hz : x ^^^ y = z) (hd : decode c.code pc = .ok (.ixor, 1)) (hp : pc + 1 = pc') (k : own_W p e below K T (mkF m pc' Ls (.int z :: S))) : own_W p e below K T (mkF m pc Ls (.int y :: .int x :: S)) := by subst hz; exact own_ixor X hx pc' hd hp k
theorem own_lxorz (X : Stand p l e R s m args below meth c T locs cells slots) (hx : p.tables.exec = Jvm.exec) {x y z : Int64} (pc' : Nat) (hz : x ^^^ y = z) (hd : decode c.code pc = .ok (.lxor, 1)) (hp : pc + 1 = pc') (k : own_W p e below K T (mkF m pc' Ls (.long z :: S))) : own_W p e below K T (mkF m pc Ls (.long y :: .long x :: S)) := by subst hz; exact own_lxor X hx pc' hd hp k
theorem own_ishl (X : Stand p l e R s m args below meth c T locs cells slots) (hx : p.tables.exec = Jvm.exec) {x : Int32} {y : Int32} (pc' : Nat) (hd : decode c.code pc = .ok (.ishl, 1)) (hp : pc + 1 = pc') (k : own_W p e below K T (mkF m pc' Ls (.int (x <<< (y &&& 31)) :: S))) : own_W p e below K T (mkF m pc Ls (.int y :: .int x :: S)) := by subst hp; exact own_s (fun _ => XS.ishl X.here hx rfl hd rfl) k
theorem own_ishr (X : Stand p l e R s m args below meth c T locs cells slots) (hx : p.tables.exec = Jvm.exec) {x : Int32} {y : Int32} (pc' : Nat) (hd : decode c.code pc = .ok (.ishr, 1)) (hp : pc + 1 = pc') (k : own_W p e below K T (mkF m pc' Ls (.int (x >>> (y &&& 31)) :: S))) : own_W p e below K T (mkF m pc Ls (.int y :: .int x :: S)) := by subst hp; exact own_s (fun _ => XS.ishr X.here hx rfl hd rfl) k
theorem own_iushr (X : Stand p l e R s m args below meth c T locs cells slots) (hx : p.tables.exec = Jvm.exec) {x : Int32} {y : Int32} (pc' : Nat) (hd : decode c.code pc = .ok (.iushr, 1)) (hp : pc + 1 = pc') (k : own_W p e below K T (mkF m pc' Ls (.int ((x.toUInt32 >>> (y &&& 31).toUInt32).toInt32) :: S))) : own_W p e below K T (mkF m pc Ls (.int y :: .int x :: S)) := by subst hp; exact own_s (fun _ => XS.iushr X.here hx rfl hd rfl) k
theorem own_lshl (X : Stand p l e R s m args below meth c T locs cells slots) (hx : p.tables.exec = Jvm.exec) {x : Int64} {y : Int32} (pc' : Nat) (hd : decode c.code pc = .ok (.lshl, 1)) (hp : pc + 1 = pc') (k : own_W p e below K T (mkF m pc' Ls (.long (x <<< (y &&& 0x3f).toInt64) :: S))) : own_W p e below K T (mkF m pc Ls (.int y :: .long x :: S)) := by subst hp; exact own_s (fun _ => XS.lshl X.here hx rfl hd rfl) k
theorem own_lshr (X : Stand p l e R s m args below meth c T locs cells slots) (hx : p.tables.exec = Jvm.exec) {x : Int64} {y : Int32} (pc' : Nat) (hd : decode c.code pc = .ok (.lshr, 1)) (hp : pc + 1 = pc') (k : own_W p e below K T (mkF m pc' Ls (.long (x >>> (y &&& 0x3f).toInt64) :: S))) : own_W p e below K T (mkF m pc Ls (.int y :: .long x :: S)) := by subst hp; exact own_s (fun _ => XS.lshr X.here hx rfl hd rfl) k
theorem own_lushr (X : Stand p l e R s m args below meth c T locs cells slots) (hx : p.tables.exec = Jvm.exec) {x : Int64} {y : Int32} (pc' : Nat) (hd : decode c.code pc = .ok (.lushr, 1)) (hp : pc + 1 = pc') (k : own_W p e below K T (mkF m pc' Ls (.long ((x.toUInt64 >>> (y &&& 0x3f).toInt64.toUInt64).toInt64) :: S))) : own_W p e below K T (mkF m pc Ls (.int y :: .long x :: S)) := by subst hp; exact own_s (fun _ => XS.lushr X.here hx rfl hd rfl) k
theorem own_ineg (X : Stand p l e R s m args below meth c T locs cells slots) (hx : p.tables.exec = Jvm.exec) {x : Int32} (pc' : Nat) (hd : decode c.code pc = .ok (.ineg, 1)) (hp : pc + 1 = pc') (k : own_W p e below K T (mkF m pc' Ls (.int ((-x)) :: S))) : own_W p e below K T (mkF m pc Ls (.int x :: S)) := by subst hp; exact own_s (fun _ => XS.ineg X.here hx rfl hd rfl) k
theorem own_lneg (X : Stand p l e R s m args below meth c T locs cells slots) (hx : p.tables.exec = Jvm.exec) {x : Int64} (pc' : Nat) (hd : decode c.code pc = .ok (.lneg, 1)) (hp : pc + 1 = pc') (k : own_W p e below K T (mkF m pc' Ls (.long ((-x)) :: S))) : own_W p e below K T (mkF m pc Ls (.long x :: S)) := by subst hp; exact own_s (fun _ => XS.lneg X.here hx rfl hd rfl) k
theorem own_i2l (X : Stand p l e R s m args below meth c T locs cells slots) (hx : p.tables.exec = Jvm.exec) {x : Int32} (pc' : Nat) (hd : decode c.code pc = .ok (.i2l, 1)) (hp : pc + 1 = pc') (k : own_W p e below K T (mkF m pc' Ls (.long (x.toInt64) :: S))) : own_W p e below K T (mkF m pc Ls (.int x :: S)) := by subst hp; exact own_s (fun _ => XS.i2l X.here hx rfl hd rfl) k
theorem own_l2i (X : Stand p l e R s m args below meth c T locs cells slots) (hx : p.tables.exec = Jvm.exec) {x : Int64} (pc' : Nat) (hd : decode c.code pc = .ok (.l2i, 1)) (hp : pc + 1 = pc') (k : own_W p e below K T (mkF m pc' Ls (.int (x.toInt32) :: S))) : own_W p e below K T (mkF m pc Ls (.long x :: S)) := by subst hp; exact own_s (fun _ => XS.l2i X.here hx rfl hd rfl) k
theorem own_i2b (X : Stand p l e R s m args below meth c T locs cells slots) (hx : p.tables.exec = Jvm.exec) {x : Int32} (pc' : Nat) (hd : decode c.code pc = .ok (.i2b, 1)) (hp : pc + 1 = pc') (k : own_W p e below K T (mkF m pc' Ls (.int (x.toInt8.toInt32) :: S))) : own_W p e below K T (mkF m pc Ls (.int x :: S)) := by subst hp; exact own_s (fun _ => XS.i2b X.here hx rfl hd rfl) k
theorem own_i2s (X : Stand p l e R s m args below meth c T locs cells slots) (hx : p.tables.exec = Jvm.exec) {x : Int32} (pc' : Nat) (hd : decode c.code pc = .ok (.i2s, 1)) (hp : pc + 1 = pc') (k : own_W p e below K T (mkF m pc' Ls (.int (x.toInt16.toInt32) :: S))) : own_W p e below K T (mkF m pc Ls (.int x :: S)) := by subst hp; exact own_s (fun _ => XS.i2s X.here hx rfl hd rfl) k
theorem own_i2c (X : Stand p l e R s m args below meth c T locs cells slots) (hx : p.tables.exec = Jvm.exec) {x : Int32} (pc' : Nat) (hd : decode c.code pc = .ok (.i2c, 1)) (hp : pc + 1 = pc') (k : own_W p e below K T (mkF m pc' Ls (.int (x.toUInt32.toUInt16.toUInt32.toInt32) :: S))) : own_W p e below K T (mkF m pc Ls (.int x :: S)) := by subst hp; exact own_s (fun _ => XS.i2c X.here hx rfl hd rfl) k
theorem own_i2lz (X : Stand p l e R s m args below meth c T locs cells slots) (hx : p.tables.exec = Jvm.exec) {x : Int32} {z : Int64} (pc' : Nat) (hz : x.toInt64 = z) (hd : decode c.code pc = .ok (.i2l, 1)) (hp : pc + 1 = pc') (k : own_W p e below K T (mkF m pc' Ls (.long z :: S))) : own_W p e below K T (mkF m pc Ls (.int x :: S)) := by subst hz; exact own_i2l X hx pc' hd hp k
theorem own_l2iz (X : Stand p l e R s m args below meth c T locs cells slots) (hx : p.tables.exec = Jvm.exec) {x : Int64} {z : Int32} (pc' : Nat) (hz : x.toInt32 = z) (hd : decode c.code pc = .ok (.l2i, 1)) (hp : pc + 1 = pc') (k : own_W p e below K T (mkF m pc' Ls (.int z :: S))) : own_W p e below K T (mkF m pc Ls (.long x :: S)) := by subst hz; exact own_l2i X hx pc' hd hp k
theorem own_idiv (X : Stand p l e R s m args below meth c T locs cells slots) (hx : p.tables.exec = Jvm.exec) {x y : Int32} (pc' : Nat) (hy : y ≠ 0) (hd : decode c.code pc = .ok (.idiv, 1)) (hp : pc + 1 = pc') (k : own_W p e below K T (mkF m pc' Ls (.int (x / y) :: S))) : own_W p e below K T (mkF m pc Ls (.int y :: .int x :: S)) := by subst hp; exact own_s (fun _ => XS.idiv X.here hx rfl hd rfl hy) k
theorem own_irem (X : Stand p l e R s m args below meth c T locs cells slots) (hx : p.tables.exec = Jvm.exec) {x y : Int32} (pc' : Nat) (hy : y ≠ 0) (hd : decode c.code pc = .ok (.irem, 1)) (hp : pc + 1 = pc') (k : own_W p e below K T (mkF m pc' Ls (.int (x % y) :: S))) : own_W p e below K T (mkF m pc Ls (.int y :: .int x :: S)) := by subst hp; exact own_s (fun _ => iremM X hx rfl hd rfl hy) k
theorem own_ldiv (X : Stand p l e R s m args below meth c T locs cells slots) (hx : p.tables.exec = Jvm.exec) {x y : Int64} (pc' : Nat) (hy : y ≠ 0) (hd : decode c.code pc = .ok (.ldiv, 1)) (hp : pc + 1 = pc') (k : own_W p e below K T (mkF m pc' Ls (.long (x / y) :: S))) : own_W p e below K T (mkF m pc Ls (.long y :: .long x :: S)) := by subst hp; exact own_s (fun _ => XS.ldiv X.here hx rfl hd rfl hy) k
theorem own_lrem (X : Stand p l e R s m args below meth c T locs cells slots) (hx : p.tables.exec = Jvm.exec) {x y : Int64} (pc' : Nat) (hy : y ≠ 0) (hd : decode c.code pc = .ok (.lrem, 1)) (hp : pc + 1 = pc') (k : own_W p e below K T (mkF m pc' Ls (.long (x % y) :: S))) : own_W p e below K T (mkF m pc Ls (.long y :: .long x :: S)) := by subst hp; rw [← lrem_mod] at k; exact own_s (fun _ => XS.lrem X.here hx rfl hd rfl hy) k
theorem own_icmp (X : Stand p l e R s m args below meth c T locs cells slots) (hx : p.tables.exec = Jvm.exec) {cd : ClassFile.Cond} {x y : Int32} {o : Int} (pcT pcF : Nat) (P : Prop) [Decidable P] (hT : P → if_icmp.holds cd x y = true) (hF : ¬ P → if_icmp.holds cd x y = false) (hd : decode c.code pc = .ok (.if_icmp cd o, 3)) (ho : 0 ≤ (pc : Int) + o) (hp : ((pc : Int) + o).toNat = pcT) (hp' : pc + 3 = pcF)
    (kT : P → own_W p e below K T (mkF m pcT Ls S)) (kF : ¬ P → own_W p e below K T (mkF m pcF Ls S)) : own_W p e below K T (mkF m pc Ls (.int y :: .int x :: S)) := by
  subst hp'
  by_cases q : P
  · exact own_s (fun _ => XS.icmpYes X.here hx (g := mkF m pc Ls (.int y :: .int x :: S)) rfl rfl hd rfl (hT q) ho hp) (kT q)
  · exact own_s (fun _ => XS.icmpNo X.here hx (g := mkF m pc Ls (.int y :: .int x :: S)) rfl hd rfl (hF q)) (kF q)
theorem own_if (X : Stand p l e R s m args below meth c T locs cells slots) (hx : p.tables.exec = Jvm.exec) {cd : ClassFile.Cond} {x : Int32} {o : Int} (pcT pcF : Nat) (P : Prop) [Decidable P] (hT : P → if_icmp.holds cd x 0 = true) (hF : ¬ P → if_icmp.holds cd x 0 = false) (hd : decode c.code pc = .ok (.ifCond cd o, 3)) (ho : 0 ≤ (pc : Int) + o) (hp : ((pc : Int) + o).toNat = pcT) (hp' : pc + 3 = pcF)
    (kT : P → own_W p e below K T (mkF m pcT Ls S)) (kF : ¬ P → own_W p e below K T (mkF m pcF Ls S)) : own_W p e below K T (mkF m pc Ls (.int x :: S)) := by
  subst hp'
  by_cases q : P
  · exact own_s (fun _ => XS.ifYes X.here hx (g := mkF m pc Ls (.int x :: S)) rfl rfl hd rfl ((if0 cd x).trans (hT q)) ho hp) (kT q)
  · exact own_s (fun _ => XS.ifNo X.here hx (g := mkF m pc Ls (.int x :: S)) rfl hd rfl ((if0 cd x).trans (hF q))) (kF q)
theorem own_lcmp (X : Stand p l e R s m args below meth c T locs cells slots) (hx : p.tables.exec = Jvm.exec) {x y : Int64} (pc' : Nat) (hd : decode c.code pc = .ok (.lcmp, 1)) (hp : pc + 1 = pc') (k : own_W p e below K T (mkF m pc' Ls (.int (lcmpW x y) :: S))) : own_W p e below K T (mkF m pc Ls (.long y :: .long x :: S)) := by subst hp; exact own_s (fun _ => XS.lcmp X.here hx rfl hd rfl) k
theorem own_icmp_lt (X : Stand p l e R s m args below meth c T locs cells slots) (hx : p.tables.exec = Jvm.exec) {x y : Int32} {o : Int} (pcT pcF : Nat) (hd : decode c.code pc = .ok (.if_icmp .lt o, 3)) (ho : 0 ≤ (pc : Int) + o) (hp : ((pc : Int) + o).toNat = pcT) (hp' : pc + 3 = pcF) (kT : x < y → own_W p e below K T (mkF m pcT Ls S)) (kF : ¬ x < y → own_W p e below K T (mkF m pcF Ls S)) : own_W p e below K T (mkF m pc Ls (.int y :: .int x :: S)) := own_icmp X hx pcT pcF (x < y) (fun q => (tlt q).1) (fun q => (flt q).1) hd ho hp hp' kT kF
theorem own_if_lt (X : Stand p l e R s m args below meth c T locs cells slots) (hx : p.tables.exec = Jvm.exec) {x : Int32} {o : Int} (pcT pcF : Nat) (hd : decode c.code pc = .ok (.ifCond .lt o, 3)) (ho : 0 ≤ (pc : Int) + o) (hp : ((pc : Int) + o).toNat = pcT) (hp' : pc + 3 = pcF) (kT : x < 0 → own_W p e below K T (mkF m pcT Ls S)) (kF : ¬ x < 0 → own_W p e below K T (mkF m pcF Ls S)) : own_W p e below K T (mkF m pc Ls (.int x :: S)) := own_if X hx pcT pcF (x < 0) (fun q => (tlt q).1) (fun q => (flt q).1) hd ho hp hp' kT kF
theorem own_lif_lt (X : Stand p l e R s m args below meth c T locs cells slots) (hx : p.tables.exec = Jvm.exec) {x y : Int64} {o : Int} (pc1 pcT pcF : Nat) (hd1 : decode c.code pc = .ok (.lcmp, 1)) (hp1 : pc + 1 = pc1) (hd : decode c.code pc1 = .ok (.ifCond .lt o, 3)) (ho : 0 ≤ (pc1 : Int) + o) (hp : ((pc1 : Int) + o).toNat = pcT) (hp' : pc1 + 3 = pcF) (kT : x < y → own_W p e below K T (mkF m pcT Ls S)) (kF : ¬ x < y → own_W p e below K T (mkF m pcF Ls S)) : own_W p e below K T (mkF m pc Ls (.long y :: .long x :: S)) := own_lcmp X hx pc1 hd1 hp1 (own_if_lt X hx pcT pcF hd ho hp hp' (fun q => kT ((lw_lt x y).mp q)) (fun q => kF (fun r => q ((lw_lt x y).mpr r))))
theorem own_icmp_ge (X : Stand p l e R s m args below meth c T locs cells slots) (hx : p.tables.exec = Jvm.exec) {x y : Int32} {o : Int} (pcT pcF : Nat) (hd : decode c.code pc = .ok (.if_icmp .ge o, 3)) (ho : 0 ≤ (pc : Int) + o) (hp : ((pc : Int) + o).toNat = pcT) (hp' : pc + 3 = pcF) (kT : ¬ x < y → own_W p e below K T (mkF m pcT Ls S)) (kF : x < y → own_W p e below K T (mkF m pcF Ls S)) : own_W p e below K T (mkF m pc Ls (.int y :: .int x :: S)) := own_icmp X hx pcT pcF (¬ x < y) (fun q => (flt q).2.1) (fun q => (tlt (Decidable.not_not.mp q)).2.1) hd ho hp hp' kT (fun q => kF (Decidable.not_not.mp q))
theorem own_if_ge (X : Stand p l e R s m args below meth c T locs cells slots) (hx : p.tables.exec = Jvm.exec) {x : Int32} {o : Int} (pcT pcF : Nat) (hd : decode c.code pc = .ok (.ifCond .ge o, 3)) (ho : 0 ≤ (pc : Int) + o) (hp : ((pc : Int) + o).toNat = pcT) (hp' : pc + 3 = pcF) (kT : ¬ x < 0 → own_W p e below K T (mkF m pcT Ls S)) (kF : x < 0 → own_W p e below K T (mkF m pcF Ls S)) : own_W p e below K T (mkF m pc Ls (.int x :: S)) := own_if X hx pcT pcF (¬ x < 0) (fun q => (flt q).2.1) (fun q => (tlt (Decidable.not_not.mp q)).2.1) hd ho hp hp' kT (fun q => kF (Decidable.not_not.mp q))
theorem own_lif_ge (X : Stand p l e R s m args below meth c T locs cells slots) (hx : p.tables.exec = Jvm.exec) {x y : Int64} {o : Int} (pc1 pcT pcF : Nat) (hd1 : decode c.code pc = .ok (.lcmp, 1)) (hp1 : pc + 1 = pc1) (hd : decode c.code pc1 = .ok (.ifCond .ge o, 3)) (ho : 0 ≤ (pc1 : Int) + o) (hp : ((pc1 : Int) + o).toNat = pcT) (hp' : pc1 + 3 = pcF) (kT : ¬ x < y → own_W p e below K T (mkF m pcT Ls S)) (kF : x < y → own_W p e below K T (mkF m pcF Ls S)) : own_W p e below K T (mkF m pc Ls (.long y :: .long x :: S)) := own_lcmp X hx pc1 hd1 hp1 (own_if_ge X hx pcT pcF hd ho hp hp' (fun q => kT (fun r => q ((lw_lt x y).mpr r))) (fun q => kF ((lw_lt x y).mp q)))
theorem own_icmp_gt (X : Stand p l e R s m args below meth c T locs cells slots) (hx : p.tables.exec = Jvm.exec) {x y : Int32} {o : Int} (pcT pcF : Nat) (hd : decode c.code pc = .ok (.if_icmp .gt o, 3)) (ho : 0 ≤ (pc : Int) + o) (hp : ((pc : Int) + o).toNat = pcT) (hp' : pc + 3 = pcF) (kT : y < x → own_W p e below K T (mkF m pcT Ls S)) (kF : ¬ y < x → own_W p e below K T (mkF m pcF Ls S)) : own_W p e below K T (mkF m pc Ls (.int y :: .int x :: S)) := own_icmp X hx pcT pcF (y < x) (fun q => (tlt q).2.2.1) (fun q => (flt q).2.2.1) hd ho hp hp' kT kF
theorem own_if_gt (X : Stand p l e R s m args below meth c T locs cells slots) (hx : p.tables.exec = Jvm.exec) {x : Int32} {o : Int} (pcT pcF : Nat) (hd : decode c.code pc = .ok (.ifCond .gt o, 3)) (ho : 0 ≤ (pc : Int) + o) (hp : ((pc : Int) + o).toNat = pcT) (hp' : pc + 3 = pcF) (kT : 0 < x → own_W p e below K T (mkF m pcT Ls S)) (kF : ¬ 0 < x → own_W p e below K T (mkF m pcF Ls S)) : own_W p e below K T (mkF m pc Ls (.int x :: S)) := own_if X hx pcT pcF (0 < x) (fun q => (tlt q).2.2.1) (fun q => (flt q).2.2.1) hd ho hp hp' kT kF
theorem own_lif_gt (X : Stand p l e R s m args below meth c T locs cells slots) (hx : p.tables.exec = Jvm.exec) {x y : Int64} {o : Int} (pc1 pcT pcF : Nat) (hd1 : decode c.code pc = .ok (.lcmp, 1)) (hp1 : pc + 1 = pc1) (hd : decode c.code pc1 = .ok (.ifCond .gt o, 3)) (ho : 0 ≤ (pc1 : Int) + o) (hp : ((pc1 : Int) + o).toNat = pcT) (hp' : pc1 + 3 = pcF) (kT : y < x → own_W p e below K T (mkF m pcT Ls S)) (kF : ¬ y < x → own_W p e below K T (mkF m pcF Ls S)) : own_W p e below K T (mkF m pc Ls (.long y :: .long x :: S)) := own_lcmp X hx pc1 hd1 hp1 (own_if_gt X hx pcT pcF hd ho hp hp' (fun q => kT ((lw_gt x y).mp q)) (fun q => kF (fun r => q ((lw_gt x y).mpr r))))
theorem own_icmp_le (X : Stand p l e R s m args below meth c T locs cells slots) (hx : p.tables.exec = Jvm.exec) {x y : Int32} {o : Int} (pcT pcF : Nat) (hd : decode c.code pc = .ok (.if_icmp .le o, 3)) (ho : 0 ≤ (pc : Int) + o) (hp : ((pc : Int) + o).toNat = pcT) (hp' : pc + 3 = pcF) (kT : ¬ y < x → own_W p e below K T (mkF m pcT Ls S)) (kF : y < x → own_W p e below K T (mkF m pcF Ls S)) : own_W p e below K T (mkF m pc Ls (.int y :: .int x :: S)) := own_icmp X hx pcT pcF (¬ y < x) (fun q => (flt q).2.2.2) (fun q => (tlt (Decidable.not_not.mp q)).2.2.2) hd ho hp hp' kT (fun q => kF (Decidable.not_not.mp q))
theorem own_if_le (X : Stand p l e R s m args below meth c T locs cells slots) (hx : p.tables.exec = Jvm.exec) {x : Int32} {o : Int} (pcT pcF : Nat) (hd : decode c.code pc = .ok (.ifCond .le o, 3)) (ho : 0 ≤ (pc : Int) + o) (hp : ((pc : Int) + o).toNat = pcT) (hp' : pc + 3 = pcF) (kT : ¬ 0 < x → own_W p e below K T (mkF m pcT Ls S)) (kF : 0 < x → own_W p e below K T (mkF m pcF Ls S)) : own_W p e below K T (mkF m pc Ls (.int x :: S)) := own_if X hx pcT pcF (¬ 0 < x) (fun q => (flt q).2.2.2) (fun q => (tlt (Decidable.not_not.mp q)).2.2.2) hd ho hp hp' kT (fun q => kF (Decidable.not_not.mp q))
theorem own_lif_le (X : Stand p l e R s m args below meth c T locs cells slots) (hx : p.tables.exec = Jvm.exec) {x y : Int64} {o : Int} (pc1 pcT pcF : Nat) (hd1 : decode c.code pc = .ok (.lcmp, 1)) (hp1 : pc + 1 = pc1) (hd : decode c.code pc1 = .ok (.ifCond .le o, 3)) (ho : 0 ≤ (pc1 : Int) + o) (hp : ((pc1 : Int) + o).toNat = pcT) (hp' : pc1 + 3 = pcF) (kT : ¬ y < x → own_W p e below K T (mkF m pcT Ls S)) (kF : y < x → own_W p e below K T (mkF m pcF Ls S)) : own_W p e below K T (mkF m pc Ls (.long y :: .long x :: S)) := own_lcmp X hx pc1 hd1 hp1 (own_if_le X hx pcT pcF hd ho hp hp' (fun q => kT (fun r => q ((lw_gt x y).mpr r))) (fun q => kF ((lw_gt x y).mp q)))
theorem own_icmp_eq (X : Stand p l e R s m args below meth c T locs cells slots) (hx : p.tables.exec = Jvm.exec) {x y : Int32} {o : Int} (pcT pcF : Nat) (hd : decode c.code pc = .ok (.if_icmp .eq o, 3)) (ho : 0 ≤ (pc : Int) + o) (hp : ((pc : Int) + o).toNat = pcT) (hp' : pc + 3 = pcF) (kT : x = y → own_W p e below K T (mkF m pcT Ls S)) (kF : ¬ x = y → own_W p e below K T (mkF m pcF Ls S)) : own_W p e below K T (mkF m pc Ls (.int y :: .int x :: S)) := own_icmp X hx pcT pcF (x = y) (fun q => (teq q).1) (fun q => (feq q).1) hd ho hp hp' kT kF
theorem own_if_eq (X : Stand p l e R s m args below meth c T locs cells slots) (hx : p.tables.exec = Jvm.exec) {x : Int32} {o : Int} (pcT pcF : Nat) (hd : decode c.code pc = .ok (.ifCond .eq o, 3)) (ho : 0 ≤ (pc : Int) + o) (hp : ((pc : Int) + o).toNat = pcT) (hp' : pc + 3 = pcF) (kT : x = 0 → own_W p e below K T (mkF m pcT Ls S)) (kF : ¬ x = 0 → own_W p e below K T (mkF m pcF Ls S)) : own_W p e below K T (mkF m pc Ls (.int x :: S)) := own_if X hx pcT pcF (x = 0) (fun q => (teq q).1) (fun q => (feq q).1) hd ho hp hp' kT kF
theorem own_lif_eq (X : Stand p l e R s m args below meth c T locs cells slots) (hx : p.tables.exec = Jvm.exec) {x y : Int64} {o : Int} (pc1 pcT pcF : Nat) (hd1 : decode c.code pc = .ok (.lcmp, 1)) (hp1 : pc + 1 = pc1) (hd : decode c.code pc1 = .ok (.ifCond .eq o, 3)) (ho : 0 ≤ (pc1 : Int) + o) (hp : ((pc1 : Int) + o).toNat = pcT) (hp' : pc1 + 3 = pcF) (kT : x = y → own_W p e below K T (mkF m pcT Ls S)) (kF : ¬ x = y → own_W p e below K T (mkF m pcF Ls S)) : own_W p e below K T (mkF m pc Ls (.long y :: .long x :: S)) := own_lcmp X hx pc1 hd1 hp1 (own_if_eq X hx pcT pcF hd ho hp hp' (fun q => kT ((lw_eq x y).mp q)) (fun q => kF (fun r => q ((lw_eq x y).mpr r))))
theorem own_icmp_ne (X : Stand p l e R s m args below meth c T locs cells slots) (hx : p.tables.exec = Jvm.exec) {x y : Int32} {o : Int} (pcT pcF : Nat) (hd : decode c.code pc = .ok (.if_icmp .ne o, 3)) (ho : 0 ≤ (pc : Int) + o) (hp : ((pc : Int) + o).toNat = pcT) (hp' : pc + 3 = pcF) (kT : ¬ x = y → own_W p e below K T (mkF m pcT Ls S)) (kF : x = y → own_W p e below K T (mkF m pcF Ls S)) : own_W p e below K T (mkF m pc Ls (.int y :: .int x :: S)) := own_icmp X hx pcT pcF (¬ x = y) (fun q => (feq q).2) (fun q => (teq (Decidable.not_not.mp q)).2) hd ho hp hp' kT (fun q => kF (Decidable.not_not.mp q))
theorem own_if_ne (X : Stand p l e R s m args below meth c T locs cells slots) (hx : p.tables.exec = Jvm.exec) {x : Int32} {o : Int} (pcT pcF : Nat) (hd : decode c.code pc = .ok (.ifCond .ne o, 3)) (ho : 0 ≤ (pc : Int) + o) (hp : ((pc : Int) + o).toNat = pcT) (hp' : pc + 3 = pcF) (kT : ¬ x = 0 → own_W p e below K T (mkF m pcT Ls S)) (kF : x = 0 → own_W p e below K T (mkF m pcF Ls S)) : own_W p e below K T (mkF m pc Ls (.int x :: S)) := own_if X hx pcT pcF (¬ x = 0) (fun q => (feq q).2) (fun q => (teq (Decidable.not_not.mp q)).2) hd ho hp hp' kT (fun q => kF (Decidable.not_not.mp q))
theorem own_lif_ne (X : Stand p l e R s m args below meth c T locs cells slots) (hx : p.tables.exec = Jvm.exec) {x y : Int64} {o : Int} (pc1 pcT pcF : Nat) (hd1 : decode c.code pc = .ok (.lcmp, 1)) (hp1 : pc + 1 = pc1) (hd : decode c.code pc1 = .ok (.ifCond .ne o, 3)) (ho : 0 ≤ (pc1 : Int) + o) (hp : ((pc1 : Int) + o).toNat = pcT) (hp' : pc1 + 3 = pcF) (kT : ¬ x = y → own_W p e below K T (mkF m pcT Ls S)) (kF : x = y → own_W p e below K T (mkF m pcF Ls S)) : own_W p e below K T (mkF m pc Ls (.long y :: .long x :: S)) := own_lcmp X hx pc1 hd1 hp1 (own_if_ne X hx pcT pcF hd ho hp hp' (fun q => kT (fun r => q ((lw_eq x y).mpr r))) (fun q => kF ((lw_eq x y).mp q)))
end Plain
section Rets
theorem own_retI (X : Stand p l e R s m args below meth c T locs cells slots) (hx : p.tables.exec = Jvm.exec) {z : Int32} (hret : meth.sig.returnType = some .int) (hlk : meth.locks = false) (hd : decode c.code pc = .ok (.ireturn, 1)) (hc : cells ≤ R.cells) (hl : slots ≤ R.slots) (q : Q (some (.int z)) T.heap locs) : own_W p e below (own_K s R Q) T (mkF m pc Ls (.int z :: S)) := by
  obtain ⟨fs, hr, hrun, hended, hW, hsame⟩ := X.leave (v := some (.int z)) (fun h => by rw [hret] at h; cases h) hlk
  exact ⟨_, _, retI X hx hret hd hr, hrun, hended, _, _, rfl, q, ⟨_, rfl⟩, hW, hsame.mono hc hl⟩
theorem own_retZ (X : Stand p l e R s m args below meth c T locs cells slots) (hx : p.tables.exec = Jvm.exec) {z : Int32} (z' : Int32) (hz : z &&& 1 = z') (hret : meth.sig.returnType = some .boolean) (hlk : meth.locks = false) (hd : decode c.code pc = .ok (.ireturn, 1)) (hc : cells ≤ R.cells) (hl : slots ≤ R.slots) (q : Q (some (.int z')) T.heap locs) : own_W p e below (own_K s R Q) T (mkF m pc Ls (.int z :: S)) := by
  subst hz
  obtain ⟨fs, hr, hrun, hended, hW, hsame⟩ := X.leave (v := some (.int (nar .boolean z))) (fun h => by rw [hret] at h; cases h) hlk
  exact ⟨_, _, retN X hx (t := .boolean) hret (by simp) hd hr, hrun, hended, _, _, rfl, q, ⟨_, rfl⟩, hW, hsame.mono hc hl⟩
theorem own_retJ (X : Stand p l e R s m args below meth c T locs cells slots) (hx : p.tables.exec = Jvm.exec) {z : Int64} (hret : meth.sig.returnType = some .long) (hlk : meth.locks = false) (hd : decode c.code pc = .ok (.lreturn, 1)) (hc : cells ≤ R.cells) (hl : slots ≤ R.slots) (q : Q (some (.long z)) T.heap locs) : own_W p e below (own_K s R Q) T (mkF m pc Ls [.long z]) := by
  obtain ⟨fs, hr, hrun, hended, hW, hsame⟩ := X.leave (v := some (.long z)) (fun h => by rw [hret] at h; cases h) hlk
  exact ⟨_, _, X.lreturnOut hx hret hd hr, hrun, hended, _, _, rfl, q, ⟨_, rfl⟩, hW, hsame.mono hc hl⟩
theorem own_retA (X : Stand p l e R s m args below meth c T locs cells slots) (hx : p.tables.exec = Jvm.exec) {z : Addr} {t : FieldType} (hret : meth.sig.returnType = some t) (ht : t.isReference = true) (hlk : meth.locks = false) (hd : decode c.code pc = .ok (.areturn, 1)) (hc : cells ≤ R.cells) (hl : slots ≤ R.slots) (q : Q (some (.ref z)) T.heap locs) : own_W p e below (own_K s R Q) T (mkF m pc Ls [.ref z]) := by
  obtain ⟨fs, hr, hrun, hended, hW, hsame⟩ := X.leave (v := some (.ref z)) (fun h => by rw [hret] at h; cases h) hlk
  exact ⟨_, _, X.areturnOut hx rfl hret ht hd hr, hrun, hended, _, _, rfl, q, ⟨_, rfl⟩, hW, hsame.mono hc hl⟩
theorem own_retV (X : Stand p l e R s m args below meth c T locs cells slots) (hx : p.tables.exec = Jvm.exec) (hret : meth.sig.returnType = none) (hlk : meth.locks = false) (hd : decode c.code pc = .ok (.return_, 1)) (hc : cells ≤ R.cells) (hl : slots ≤ R.slots) (q : Q none T.heap locs) : own_W p e below (own_K s R Q) T (mkF m pc Ls []) := by
  obtain ⟨fs, hr, hrun, hended, hW, hsame⟩ := X.leave (v := none) (fun _ => rfl) hlk
  exact ⟨_, _, X.returnOut hx hret hd hr, hrun, hended, _, _, rfl, q, ⟨_, rfl⟩, hW, hsame.mono hc hl⟩
end Rets
section Heaps
theorem own_getF (X : Stand p l e R s m args below meth c T locs cells slots) (hx : p.tables.exec = Jvm.exec) (hZ : Z.Warmed39 s.vm) (hown : s.vm.findClass own = some m.cls) (eT : T.heap = h) {O n d : String} {a : Addr} {v : Value} (pc' : Nat) (w : (Jvm.Cond.fieldLink own index O n d).before a0 Z = true) (F : Fld Z h a O n d v) (hd : decode c.code pc = .ok (.getfield index, 3)) (hp : pc + 3 = pc')
    (k : ∀ T', Stand p l e R s m args below meth c T' locs cells slots → T'.heap = h → own_W p e below K T' (mkF m pc' Ls (v :: S))) : own_W p e below K T (mkF m pc Ls (.ref a :: S)) := by
  subst hp
  obtain ⟨T', X', e', st⟩ := getF X hx hZ hown (host := "") (Or.inl w) Via.refl eT F (g := mkF m pc Ls (.ref a :: S)) rfl rfl hd
  exact own_s st (k T' X' e')
theorem own_putF (X : Stand p l e R s m args below meth c T locs cells slots) (hx : p.tables.exec = Jvm.exec) (hZ : Z.Warmed39 s.vm) (hown : s.vm.findClass own = some m.cls) (eT : T.heap = h) {O n d C : String} {a : Addr} {v old : Value} {kk : Nat} {ty : FieldType} (pc' : Nat) (w : (Jvm.Cond.fieldLink own index O n d).before a0 Z = true) (F : Fld Z h a O n d old) (E : Exa Z h a C) (L : (Jvm.Cond.lays C O n d).before a0 Z = true ∨ ((Jvm.Cond.laysFinal C O n d).before a0 Z = true ∧ own = O ∧ meth.name = "<init>")) (wi : (Jvm.Cond.instantiable C kk).before a0 Z = true)
    (hty : parseFieldDescriptor d = some ty) (hn : narrow ty v = v) (hf : fits ty v = true) (hd : decode c.code pc = .ok (.putfield index, 3)) (hp : pc + 3 = pc')
    (k : ∀ T' h', Stand p l e R s m args below meth c T' (locs ++ [⟨a, Jvm.RoadKit.slotOf Z O n d⟩]) cells slots → T'.heap = h' → Wr h h' a (Jvm.RoadKit.slotOf Z O n d) v → own_W p e below K T' (mkF m pc' Ls S)) : own_W p e below K T (mkF m pc Ls (v :: .ref a :: S)) := by
  subst hp
  obtain ⟨T', h', X', e', W, st⟩ := putF X hx hZ hown (host := "") (Or.inl w) Via.refl eT F E L wi hty hn hf (g := mkF m pc Ls (v :: .ref a :: S)) rfl rfl hd
  exact own_s st (k T' h' X' e' W)
theorem own_putZ (X : Stand p l e R s m args below meth c T locs cells slots) (hx : p.tables.exec = Jvm.exec) (hZ : Z.Warmed39 s.vm) (hown : s.vm.findClass own = some m.cls) (eT : T.heap = h) {O n d C : String} {a : Addr} {v : Int32} {old : Value} {kk : Nat} (pc' : Nat) (w : (Jvm.Cond.fieldLink own index O n d).before a0 Z = true) (F : Fld Z h a O n d old) (E : Exa Z h a C) (L : (Jvm.Cond.lays C O n d).before a0 Z = true ∨ ((Jvm.Cond.laysFinal C O n d).before a0 Z = true ∧ own = O ∧ meth.name = "<init>")) (wi : (Jvm.Cond.instantiable C kk).before a0 Z = true)
    (hty : parseFieldDescriptor d = some .boolean) (hd : decode c.code pc = .ok (.putfield index, 3)) (hp : pc + 3 = pc')
    (k : ∀ T' h', Stand p l e R s m args below meth c T' (locs ++ [⟨a, Jvm.RoadKit.slotOf Z O n d⟩]) cells slots → T'.heap = h' → Wr h h' a (Jvm.RoadKit.slotOf Z O n d) (.int (v &&& 1)) → own_W p e below K T' (mkF m pc' Ls S)) : own_W p e below K T (mkF m pc Ls (.int v :: .ref a :: S)) := by
  subst hp
  obtain ⟨T', h', X', e', W, st⟩ := putFN X hx hZ hown w Via.refl eT F E L wi (ty := .boolean) (v' := .int (nar .boolean v)) hty rfl (fits_nar_bool _) (g := mkF m pc Ls (.int v :: .ref a :: S)) rfl rfl hd
  exact own_s st (k T' h' X' e' W)
theorem own_new (X : Stand p l e R s m args below meth c T locs cells slots) (hx : p.tables.exec = Jvm.exec) (hZ : Z.Warmed39 s.vm) (hown : s.vm.findClass own = some m.cls) (eT : T.heap = h) {C : String} {n : Nat} (pc' : Nat) (w : (Jvm.Cond.classLink own index C).before a0 Z = true) (wi : (Jvm.Cond.instantiable C n).before a0 Z = true) (wz : (Jvm.Cond.initialized C).before a0 Z = true) (hd : decode c.code pc = .ok (.new index, 3)) (hp : pc + 3 = pc') (hc : cells + 1 ≤ R.cells) (hl : slots + n ≤ R.slots)
    (k : ∀ T' h' a, Stand p l e R s m args below meth c T' locs (cells + 1) (slots + n) → T'.heap = h' → a = h.size → Ext h h' → Exa Z h' a C → (∀ {O nm d : String} {ty : FieldType}, Laid Z a0 C O nm d → parseFieldDescriptor d = some ty → Fld Z h' a O nm d (defaultValue ty)) → own_W p e below K T' (mkF m pc' Ls (.ref a :: S))) : own_W p e below K T (mkF m pc Ls S) := by
  subst hp
  obtain ⟨T', h', X', e', E, A, D, -, st⟩ := newO X hx hZ hown w wi wz eT (g := mkF m pc Ls S) rfl hd hc hl
  exact own_s st (k T' h' _ X' e' rfl E A D)
theorem own_initO (X : Stand p l e R s m args below meth c T locs cells slots) (hx : p.tables.exec = Jvm.exec) (hZ : Z.Warmed39 s.vm) (hown : s.vm.findClass own = some m.cls) (eT : T.heap = h) {a : Addr} {W : Nat} (pc' : Nat) (w1 : (Jvm.Cond.methodLink own index Lib.objectInit).before a0 Z = true) (w2 : (Jvm.Cond.instanceMethod Lib.objectInit).before a0 Z = true) (w3 : (Jvm.Cond.code Lib.objectInit ⟨#[0xb1]⟩ 1 none).before a0 Z = true) (hsize : Ls.size = c.maxLocals) (hd : decode c.code pc = .ok (.invokespecial index, 3)) (hp : pc + 3 = pc')
    (hf : 1 ≤ R.frames) (hW : (S.map fun v => v.category).sum = W) (hl : W + 12 ≤ R.locals)
    (k : ∀ T', Stand p l e R s m args below meth c T' locs cells slots → T'.heap = h → own_W p e below K T' (mkF m pc' Ls S)) : own_W p e below K T (mkF m pc Ls (.ref a :: S)) := by
  subst hp
  obtain ⟨T', X', e', st⟩ := initO X hx hZ hown w1 w2 w3 eT (g := mkF m pc Ls (.ref a :: S)) rfl hsize rfl hd hf (W := W) (by show 2 * 0 + _ ≤ _; rw [hW]; omega) hl
  exact own_s st (k T' X' e')
theorem own_callS (X : Stand p l e R s m args below meth c T locs cells slots) (hx : p.tables.exec = Jvm.exec) (hZ : Z.Warmed39 s.vm) (hown : s.vm.findClass own = some m.cls) (eT : T.heap = h) {argsL rest : List Value} {W : Nat} (pc' : Nat) (hM : own_C l Z y bytes maxL ret [] rm argsL.toArray h Q) (w1 : (Jvm.Cond.methodLink own index y).before a0 Z = true) (w2 : (Jvm.Cond.static y).before a0 Z = true) (w3 : (Jvm.Cond.initialized y.cls).before a0 Z = true) (w4 : (Jvm.Cond.code y bytes maxL ret).before a0 Z = true)
    (hy : y.cls ≠ "java/lang/invoke/MethodHandle" ∧ y.cls ≠ "java/lang/invoke/VarHandle") (hsize : Ls.size = c.maxLocals) (hlen : ∀ sig, parseMethodDescriptor y.desc = some sig → argsL.length = sig.parameters.length) (hst : S = argsL.reverse ++ rest) (hd : decode c.code pc = .ok (.invokestatic index, 3)) (hp : pc + 3 = pc')
    (hW : (rest.map fun v => v.category).sum = W) (hf : rm.frames + 1 ≤ R.frames) (hl : W + (maxL + 11) + rm.locals ≤ R.locals) (hc : cells + rm.cells ≤ R.cells) (hs : slots + rm.slots ≤ R.slots)
    (k : ∀ v T' L, Stand p l e R s m args below meth c T' (locs ++ L) (cells + rm.cells) (slots + rm.slots) → Q v T'.heap L → own_W p e below K T' (mkF m pc' Ls (v.toList ++ rest))) : own_W p e below K T (mkF m pc Ls S) := by
  subst hp hst
  obtain ⟨v, vm₁, ⟨T', L', k', n'⟩, -, X', ⟨L, hQ, l1, y1, z1⟩, st⟩ := Jvm.LawKit.callS X hx (y := y) hown (mvT hZ w1) (mvT hZ w2) (mvT hZ w3) (mvT hZ w4) hy (backOf (W := W) hM hZ w4 w3 hf hl) (g := mkF m pc Ls (argsL.reverse ++ rest)) rfl hsize (argsL := argsL) (rest := rest) hlen rfl (by show 2 * 0 + _ ≤ _; rw [hW]; omega) hd (fun _ _ => ⟨rfl, eT, hc, hs⟩)
  dsimp only [Pt.U, Pt.locs, Pt.cells, Pt.slots] at X' l1 y1 z1 st hQ
  subst l1 y1 z1
  exact own_s st (k v T' L X' hQ)
theorem own_callI (X : Stand p l e R s m args below meth c T locs cells slots) (hx : p.tables.exec = Jvm.exec) (hZ : Z.Warmed39 s.vm) (hown : s.vm.findClass own = some m.cls) (eT : T.heap = h) {a : Addr} {argsL rest : List Value} {W : Nat} (pc' : Nat) (hM : own_C l Z y bytes maxL none [] rm (.ref a :: argsL).toArray h Q) (hn : y.name = "<init>") (w1 : (Jvm.Cond.methodLink own index y).before a0 Z = true) (w2 : (Jvm.Cond.instanceMethod y).before a0 Z = true) (w3 : (Jvm.Cond.initialized y.cls).before a0 Z = true) (w4 : (Jvm.Cond.code y bytes maxL none).before a0 Z = true)
    (hy : y.cls ≠ "java/lang/invoke/MethodHandle" ∧ y.cls ≠ "java/lang/invoke/VarHandle") (hsize : Ls.size = c.maxLocals) (hlen : ∀ sig, parseMethodDescriptor y.desc = some sig → argsL.length = sig.parameters.length) (hst : S = argsL.reverse ++ .ref a :: rest) (hd : decode c.code pc = .ok (.invokespecial index, 3)) (hp : pc + 3 = pc')
    (hW : (rest.map fun v => v.category).sum = W) (hf : rm.frames + 1 ≤ R.frames) (hl : W + (maxL + 11) + rm.locals ≤ R.locals) (hc : cells + rm.cells ≤ R.cells) (hs : slots + rm.slots ≤ R.slots)
    (k : ∀ v T' L, Stand p l e R s m args below meth c T' (locs ++ L) (cells + rm.cells) (slots + rm.slots) → Q v T'.heap L → own_W p e below K T' (mkF m pc' Ls (v.toList ++ rest))) : own_W p e below K T (mkF m pc Ls S) := by
  subst hp hst
  obtain ⟨v, vm₁, ⟨T', L', k', n'⟩, -, X', ⟨L, hQ, l1, y1, z1⟩, st⟩ := X.specialBack hx (y := y) hn hown (mvT hZ w1) (mvT hZ w2) (mvT hZ w4) hy (backOf (W := W) hM hZ w4 w3 hf hl) (g := mkF m pc Ls (argsL.reverse ++ .ref a :: rest)) rfl hsize (Steps.refl _) (a := a) (argsL := argsL) (rest := rest) hlen rfl (by show 2 * 0 + _ ≤ _; rw [hW]; omega) hd (fun _ _ => ⟨rfl, eT, hc, hs⟩)
  dsimp only [Pt.U, Pt.locs, Pt.cells, Pt.slots] at X' l1 y1 z1 st hQ
  subst l1 y1 z1
  exact own_s' st (k v T' L X' hQ)
theorem own_callV (X : Stand p l e R s m args below meth c T locs cells slots) (hx : p.tables.exec = Jvm.exec) (hZ : Z.Warmed39 s.vm) (hown : s.vm.findClass own = some m.cls) (eT : T.heap = h) {a : Addr} {argsL rest : List Value} {W : Nat} (pc' : Nat) (hM : own_C l Z y bytes maxL ret [] rm (.ref a :: argsL).toArray h Q) (E : Exa Z h a y.cls) (w1 : (Jvm.Cond.methodLink own index y).before a0 Z = true) (w2 : (Jvm.Cond.declares y).before a0 Z = true) (w5 : (Jvm.Cond.selects y.cls y y).before a0 Z = true) (w6 : (Jvm.Cond.instanceMethod y).before a0 Z = true) (w3 : (Jvm.Cond.initialized y.cls).before a0 Z = true) (w4 : (Jvm.Cond.code y bytes maxL ret).before a0 Z = true)
    (hy : y.cls ≠ "java/lang/invoke/MethodHandle" ∧ y.cls ≠ "java/lang/invoke/VarHandle") (hsize : Ls.size = c.maxLocals) (hlen : ∀ sig, parseMethodDescriptor y.desc = some sig → argsL.length = sig.parameters.length) (hst : S = argsL.reverse ++ .ref a :: rest) (hd : decode c.code pc = .ok (.invokevirtual index, 3)) (hp : pc + 3 = pc')
    (hW : (rest.map fun v => v.category).sum = W) (hf : rm.frames + 1 ≤ R.frames) (hl : W + (maxL + 11) + rm.locals ≤ R.locals) (hc : cells + rm.cells ≤ R.cells) (hs : slots + rm.slots ≤ R.slots)
    (k : ∀ v T' L, Stand p l e R s m args below meth c T' (locs ++ L) (cells + rm.cells) (slots + rm.slots) → Q v T'.heap L → own_W p e below K T' (mkF m pc' Ls (v.toList ++ rest))) : own_W p e below K T (mkF m pc Ls S) := by
  subst hp hst
  obtain ⟨cq, kq, qa, qb, qc⟩ := isOf hZ eT E
  obtain ⟨v, vm₁, ⟨T', L', k', n'⟩, -, X', ⟨L, hQ, l1, y1, z1⟩, st⟩ := X.virtualBack hx (y := y) (z := y) hown (mvT hZ w1) (mvT hZ w2) (notFace_of_selects (args := #[]) (mvT hZ w5)) (mvT hZ w5) (mvT hZ w6) hy (backOf (W := W) hM hZ w4 w3 hf hl) qa qc (g := mkF m pc Ls (argsL.reverse ++ .ref a :: rest)) rfl hsize (Steps.refl _) (argsL := argsL) (rest := rest) hlen rfl (by show 2 * 0 + _ ≤ _; rw [hW]; omega) hd (fun _ _ => ⟨rfl, eT, hc, hs⟩)
  dsimp only [Pt.U, Pt.locs, Pt.cells, Pt.slots] at X' l1 y1 z1 st hQ
  subst l1 y1 z1
  exact own_s' st (k v T' L X' hQ)
/-- an array of ints (bytes, booleans): n places, place j holds f j -/
def own_AI (Z : State) (h : Heap) (a : Addr) (ty : FieldType) (n : Nat) (f : Nat → Int32) : Prop := ∃ c : Cell, Arr Z h a c ty ∧ c.slots.size = n ∧ ∀ j, j < n → c.slots[j]? = some (.int (f j))
def own_AJ (Z : State) (h : Heap) (a : Addr) (n : Nat) (f : Nat → Int64) : Prop := ∃ c : Cell, Arr Z h a c .long ∧ c.slots.size = n ∧ ∀ j, j < n → c.slots[j]? = some (.long (f j))
section Arrs
variable {a b : Addr} {n i : Nat} {ty : FieldType} {f : Nat → Int32} {fj : Nat → Int64} {j : Int32} {ws : List Addr} {v : Value} {sl : Nat}
theorem own_AI.lt (A : own_AI Z h a ty n f) : a < h.size := by obtain ⟨c, A, -⟩ := A; exact A.lt
theorem own_AJ.lt (A : own_AJ Z h a n fj) : a < h.size := by obtain ⟨c, A, -⟩ := A; exact A.lt
theorem own_AI.ext (A : own_AI Z h a ty n f) (E : Ext h h') : own_AI Z h' a ty n f := by obtain ⟨c, A, r⟩ := A; exact ⟨c, A.ext E, r⟩
theorem own_AJ.ext (A : own_AJ Z h a n fj) (E : Ext h h') : own_AJ Z h' a n fj := by obtain ⟨c, A, r⟩ := A; exact ⟨c, A.ext E, r⟩
theorem own_AI.other (A : own_AI Z h a ty n f) (W : Wr h h' b sl v) (q : a ≠ b) : own_AI Z h' a ty n f := by obtain ⟨c, A, r⟩ := A; exact ⟨c, A.other W q, r⟩
theorem own_AJ.other (A : own_AJ Z h a n fj) (W : Wr h h' b sl v) (q : a ≠ b) : own_AJ Z h' a n fj := by obtain ⟨c, A, r⟩ := A; exact ⟨c, A.other W q, r⟩
theorem own_AI.keep (A : own_AI Z h a ty n f) (K : Keep h h' ws) (q : a ∉ ws) : own_AI Z h' a ty n f := by obtain ⟨c, A, r⟩ := A; exact ⟨c, ⟨K.2.1 a c A.1 q, A.2⟩, r⟩
theorem own_AJ.keep (A : own_AJ Z h a n fj) (K : Keep h h' ws) (q : a ∉ ws) : own_AJ Z h' a n fj := by obtain ⟨c, A, r⟩ := A; exact ⟨c, ⟨K.2.1 a c A.1 q, A.2⟩, r⟩
theorem own_AI.set {x : Int32} (A : own_AI Z h a ty n f) (W : Wr h h' a i (.int x)) : own_AI Z h' a ty n (fun q => if q = i then x else f q) := by
  obtain ⟨c, A, S, H⟩ := A
  refine ⟨_, A.same W, by rw [sz_set]; exact S, fun q hq => ?_⟩
  by_cases e : q = i
  · subst e; simp [Cell.setSlot, S, hq]
  · simp only [Cell.setSlot, if_neg e]; rw [Array.getElem?_setIfInBounds_ne (Ne.symm e)]; exact H q hq
theorem own_AJ.set {x : Int64} (A : own_AJ Z h a n fj) (W : Wr h h' a i (.long x)) : own_AJ Z h' a n (fun q => if q = i then x else fj q) := by
  obtain ⟨c, A, S, H⟩ := A
  refine ⟨_, A.same W, by rw [sz_set]; exact S, fun q hq => ?_⟩
  by_cases e : q = i
  · subst e; simp [Cell.setSlot, S, hq]
  · simp only [Cell.setSlot, if_neg e]; rw [Array.getElem?_setIfInBounds_ne (Ne.symm e)]; exact H q hq
theorem own_AI.congr {g : Nat → Int32} (A : own_AI Z h a ty n f) (q : ∀ j, j < n → f j = g j) : own_AI Z h a ty n g := by obtain ⟨c, A, S, H⟩ := A; exact ⟨c, A, S, fun j hj => by rw [← q j hj]; exact H j hj⟩
theorem own_AJ.congr {g : Nat → Int64} (A : own_AJ Z h a n fj) (q : ∀ j, j < n → fj j = g j) : own_AJ Z h a n g := by obtain ⟨c, A, S, H⟩ := A; exact ⟨c, A, S, fun j hj => by rw [← q j hj]; exact H j hj⟩
theorem own_nat {j : Int32} {i : Nat} (q : j.toInt = i) : j.toNatClampNeg = i := by show j.toInt.toNat = i; rw [q]; exact Int.toNat_natCast i
theorem own_inb {j : Int32} {i n : Nat} (q : j.toInt = i) (r : i < n) {k : Nat} (e : k = n) : ¬ (j < 0 ∨ k ≤ j.toNatClampNeg) := by
  rw [own_nat q]; rintro (u | u)
  · rw [Int32.lt_iff_toInt_lt] at u; rw [q] at u; have : (0 : Int32).toInt = 0 := rfl; omega
  · omega
theorem own_iaload (X : Stand p l e R s m args below meth c T locs cells slots) (hx : p.tables.exec = Jvm.exec) (hZ : Z.Warmed39 s.vm) (eT : T.heap = h) (pc' : Nat) (i : Nat) (A : own_AI Z h a .int n f) (hj : j.toInt = i) (hi : i < n) (hd : decode c.code pc = .ok (.iaload, 1)) (hp : pc + 1 = pc') (k : own_W p e below K T (mkF m pc' Ls (.int (f i) :: S))) : own_W p e below K T (mkF m pc Ls (.int j :: .ref a :: S)) := by
  subst hp
  obtain ⟨cl, A, Sz, H⟩ := A
  exact own_s (fun t => X.iaload hx (j := j) (by rw [eT]; exact A.1) (State.isArrayOf_alike hZ.alike A.2.1) A.2.2 (own_inb hj hi Sz) (by rw [own_nat hj]; exact H i hi) (g := mkF m pc Ls (.int j :: .ref a :: S)) rfl rfl hd t) k
theorem own_baload (X : Stand p l e R s m args below meth c T locs cells slots) (hx : p.tables.exec = Jvm.exec) (hZ : Z.Warmed39 s.vm) (eT : T.heap = h) (pc' : Nat) (i : Nat) (A : own_AI Z h a .byte n f) (hj : j.toInt = i) (hi : i < n) (hd : decode c.code pc = .ok (.baload, 1)) (hp : pc + 1 = pc') (k : own_W p e below K T (mkF m pc' Ls (.int (f i) :: S))) : own_W p e below K T (mkF m pc Ls (.int j :: .ref a :: S)) := by
  subst hp
  obtain ⟨cl, A, Sz, H⟩ := A
  exact own_s (fun t => X.baloadBytes hx (j := j) (by rw [eT]; exact A.1) (State.isArrayOf_alike hZ.alike A.2.1) A.2.2 (own_inb hj hi Sz) (by rw [own_nat hj]; exact H i hi) (g := mkF m pc Ls (.int j :: .ref a :: S)) rfl rfl hd t) k
theorem own_laload (X : Stand p l e R s m args below meth c T locs cells slots) (hx : p.tables.exec = Jvm.exec) (hZ : Z.Warmed39 s.vm) (eT : T.heap = h) (pc' : Nat) (i : Nat) (A : own_AJ Z h a n fj) (hj : j.toInt = i) (hi : i < n) (hd : decode c.code pc = .ok (.laload, 1)) (hp : pc + 1 = pc') (k : own_W p e below K T (mkF m pc' Ls (.long (fj i) :: S))) : own_W p e below K T (mkF m pc Ls (.int j :: .ref a :: S)) := by
  subst hp
  obtain ⟨cl, A, Sz, H⟩ := A
  exact own_s (fun t => X.laload hx (j := j) (by rw [eT]; exact A.1) (State.isArrayOf_alike hZ.alike A.2.1) A.2.2 (own_inb hj hi Sz) (by rw [own_nat hj]; exact H i hi) (g := mkF m pc Ls (.int j :: .ref a :: S)) rfl rfl hd t) k
theorem own_iastore (X : Stand p l e R s m args below meth c T locs cells slots) (hx : p.tables.exec = Jvm.exec) (hZ : Z.Warmed39 s.vm) (eT : T.heap = h) {x : Int32} (pc' : Nat) (i : Nat) (A : own_AI Z h a .int n f) (hj : j.toInt = i) (hi : i < n) (hd : decode c.code pc = .ok (.iastore, 1)) (hp : pc + 1 = pc')
    (k : ∀ T' h', Stand p l e R s m args below meth c T' (locs ++ [⟨a, i⟩]) cells slots → T'.heap = h' → Wr h h' a i (.int x) → own_W p e below K T' (mkF m pc' Ls S)) : own_W p e below K T (mkF m pc Ls (.int x :: .int j :: .ref a :: S)) := by
  subst hp
  obtain ⟨cl, A, Sz, H⟩ := A
  obtain ⟨T', h', X', e', W, st⟩ := stI X hx hZ eT A (j := j) (own_inb hj hi Sz) (g := mkF m pc Ls (.int x :: .int j :: .ref a :: S)) rfl rfl hd
  rw [own_nat hj] at X' W
  exact own_s st (k T' h' X' e' W)
theorem own_bastore (X : Stand p l e R s m args below meth c T locs cells slots) (hx : p.tables.exec = Jvm.exec) (hZ : Z.Warmed39 s.vm) (eT : T.heap = h) {x : Int32} (pc' : Nat) (i : Nat) (A : own_AI Z h a .byte n f) (hj : j.toInt = i) (hi : i < n) (hd : decode c.code pc = .ok (.bastore, 1)) (hp : pc + 1 = pc')
    (k : ∀ T' h', Stand p l e R s m args below meth c T' (locs ++ [⟨a, i⟩]) cells slots → T'.heap = h' → Wr h h' a i (.int x.toInt8.toInt32) → own_W p e below K T' (mkF m pc' Ls S)) : own_W p e below K T (mkF m pc Ls (.int x :: .int j :: .ref a :: S)) := by
  subst hp
  obtain ⟨cl, A, Sz, H⟩ := A
  obtain ⟨T', h', X', e', W, st⟩ := stB X hx hZ eT A (j := j) (own_inb hj hi Sz) (g := mkF m pc Ls (.int x :: .int j :: .ref a :: S)) rfl rfl hd
  rw [own_nat hj] at X' W
  exact own_s st (k T' h' X' e' W)
theorem own_lastore (X : Stand p l e R s m args below meth c T locs cells slots) (hx : p.tables.exec = Jvm.exec) (hZ : Z.Warmed39 s.vm) (eT : T.heap = h) {x : Int64} (pc' : Nat) (i : Nat) (A : own_AJ Z h a n fj) (hj : j.toInt = i) (hi : i < n) (hd : decode c.code pc = .ok (.lastore, 1)) (hp : pc + 1 = pc')
    (k : ∀ T' h', Stand p l e R s m args below meth c T' (locs ++ [⟨a, i⟩]) cells slots → T'.heap = h' → Wr h h' a i (.long x) → own_W p e below K T' (mkF m pc' Ls S)) : own_W p e below K T (mkF m pc Ls (.long x :: .int j :: .ref a :: S)) := by
  subst hp
  obtain ⟨cl, A, Sz, H⟩ := A
  obtain ⟨T', h', X', e', W, st⟩ := stJ X hx hZ eT A (j := j) (own_inb hj hi Sz) (g := mkF m pc Ls (.long x :: .int j :: .ref a :: S)) rfl rfl hd
  rw [own_nat hj] at X' W
  exact own_s st (k T' h' X' e' W)
theorem own_arraylength (X : Stand p l e R s m args below meth c T locs cells slots) (hx : p.tables.exec = Jvm.exec) (hZ : Z.Warmed39 s.vm) (eT : T.heap = h) (pc' : Nat) {z : Int32} (A : own_AI Z h a ty n f) (hz : z.toInt = n) (hd : decode c.code pc = .ok (.arraylength, 1)) (hp : pc + 1 = pc') (k : own_W p e below K T (mkF m pc' Ls (.int z :: S))) : own_W p e below K T (mkF m pc Ls (.ref a :: S)) := by
  subst hp
  obtain ⟨cl, A, Sz, H⟩ := A
  have q : cl.slots.size.toInt32 = z := len_of (by rw [Sz, own_nat hz]) (fun u => by rw [Int32.lt_iff_toInt_lt, hz] at u; have : (0 : Int32).toInt = 0 := rfl; omega)
  rw [← q] at k
  exact own_s (fun t => X.arraylength hx (by rw [eT]; exact A.1) (State.isArrayOf_alike hZ.alike A.2.1) (g := mkF m pc Ls (.ref a :: S)) rfl rfl hd t) k
theorem own_arraylengthJ (X : Stand p l e R s m args below meth c T locs cells slots) (hx : p.tables.exec = Jvm.exec) (hZ : Z.Warmed39 s.vm) (eT : T.heap = h) (pc' : Nat) {z : Int32} (A : own_AJ Z h a n fj) (hz : z.toInt = n) (hd : decode c.code pc = .ok (.arraylength, 1)) (hp : pc + 1 = pc') (k : own_W p e below K T (mkF m pc' Ls (.int z :: S))) : own_W p e below K T (mkF m pc Ls (.ref a :: S)) := by
  subst hp
  obtain ⟨cl, A, Sz, H⟩ := A
  have q : cl.slots.size.toInt32 = z := len_of (by rw [Sz, own_nat hz]) (fun u => by rw [Int32.lt_iff_toInt_lt, hz] at u; have : (0 : Int32).toInt = 0 := rfl; omega)
  rw [← q] at k
  exact own_s (fun t => X.arraylength hx (by rw [eT]; exact A.1) (State.isArrayOf_alike hZ.alike A.2.1) (g := mkF m pc Ls (.ref a :: S)) rfl rfl hd t) k
theorem own_newI (X : Stand p l e R s m args below meth c T locs cells slots) (hx : p.tables.exec = Jvm.exec) (hZ : Z.Warmed39 s.vm) (eT : T.heap = h) {aty : ArrayType} {z : Int32} {n cap : Nat} (pc' : Nat) (ty : FieldType) (hty : newarray.typeOf aty = ty) (hdef : defaultValue ty = .int 0) (w : (Jvm.Cond.arrayClass ty).before a0 Z = true) (hz : z.toInt = n) (hcap : n ≤ cap) (hb : cap * 8 ≤ 536870912) (hd : decode c.code pc = .ok (.newarray aty, 2)) (hp : pc + 2 = pc') (hc : cells + 1 ≤ R.cells) (hl : slots + cap ≤ R.slots)
    (k : ∀ T' h' a, Stand p l e R s m args below meth c T' locs (cells + 1) (slots + cap) → T'.heap = h' → a = h.size → Ext h h' → own_AI Z h' a ty n (fun _ => 0) → own_W p e below K T' (mkF m pc' Ls (.ref a :: S))) : own_W p e below K T (mkF m pc Ls (.int z :: S)) := by
  subst hp hty
  obtain ⟨T', h', cA, X', e', E, A, st⟩ := newP X hx hZ w eT (g := mkF m pc Ls (.int z :: S)) rfl hd rfl (fun u => by rw [Int32.lt_iff_toInt_lt, hz] at u; have : (0 : Int32).toInt = 0 := rfl; omega) (cap := cap) (by rw [own_nat hz]; exact hcap) hb hc hl
  refine own_s st (k T' h' _ X' e' rfl E ⟨_, A, by rw [sz_new, own_nat hz], fun j hj => ?_⟩)
  simp [newA, own_nat hz, hj, hdef]
theorem own_newJ (X : Stand p l e R s m args below meth c T locs cells slots) (hx : p.tables.exec = Jvm.exec) (hZ : Z.Warmed39 s.vm) (eT : T.heap = h) {z : Int32} {n cap : Nat} (pc' : Nat) (w : (Jvm.Cond.arrayClass .long).before a0 Z = true) (hz : z.toInt = n) (hcap : n ≤ cap) (hb : cap * 8 ≤ 536870912) (hd : decode c.code pc = .ok (.newarray .long, 2)) (hp : pc + 2 = pc') (hc : cells + 1 ≤ R.cells) (hl : slots + cap ≤ R.slots)
    (k : ∀ T' h' a, Stand p l e R s m args below meth c T' locs (cells + 1) (slots + cap) → T'.heap = h' → a = h.size → Ext h h' → own_AJ Z h' a n (fun _ => 0) → own_W p e below K T' (mkF m pc' Ls (.ref a :: S))) : own_W p e below K T (mkF m pc Ls (.int z :: S)) := by
  subst hp
  obtain ⟨T', h', cA, X', e', E, A, st⟩ := newP X hx hZ (aty := .long) w eT (g := mkF m pc Ls (.int z :: S)) rfl hd rfl (fun u => by rw [Int32.lt_iff_toInt_lt, hz] at u; have : (0 : Int32).toInt = 0 := rfl; omega) (cap := cap) (by rw [own_nat hz]; exact hcap) hb hc hl
  refine own_s st (k T' h' _ X' e' rfl E ⟨_, A, by rw [sz_new, own_nat hz], fun j hj => ?_⟩)
  simp [newA, own_nat hz, hj, newarray.typeOf, defaultValue]
end Arrs
end Heaps
end OwnLayer
theorem own_toInt (x : Int32) : x.toInt = if x.toBitVec.toNat < 2147483648 then (x.toBitVec.toNat : Int) else (x.toBitVec.toNat : Int) - 4294967296 := by
  show x.toBitVec.toInt = _
  rw [BitVec.toInt_eq_toNat_cond]; split <;> split <;> omega
theorem own_toIntL (x : Int64) : x.toInt = if x.toBitVec.toNat < 9223372036854775808 then (x.toBitVec.toNat : Int) else (x.toBitVec.toNat : Int) - 18446744073709551616 := by
  show x.toBitVec.toInt = _
  rw [BitVec.toInt_eq_toNat_cond]; split <;> split <;> omega
theorem own_shl (x : Int64) (q : Int32) (k : Nat) (hk : q.toBitVec.toNat % 64 = k) : (x <<< (q &&& 0x3f).toInt64).toBitVec = x.toBitVec <<< k := by
  obtain ⟨h1, h2⟩ := sm64 q k hk
  show x.toBitVec <<< ((q &&& 0x3f).toInt64.toBitVec.smod 64) = _
  rw [h1, BitVec.shiftLeft_eq', smod64 k h2]
theorem own_ushr (x : Int64) (q : Int32) (k : Nat) (hk : q.toBitVec.toNat % 64 = k) : ((x.toUInt64 >>> (q &&& 0x3f).toInt64.toUInt64).toInt64).toBitVec = x.toBitVec >>> k := by
  obtain ⟨h1, h2⟩ := sm64 q k hk
  show x.toBitVec >>> ((q &&& 0x3f).toInt64.toBitVec % 64) = _
  rw [h1, BitVec.ushiftRight_eq']
  congr 1
  simp [BitVec.toNat_umod]; omega
theorem own_natL (c : Int64) (h : 0 ≤ c.toInt) : c.toBitVec.toNat = c.toInt.toNat := by
  have := own_toIntL c
  have := c.toBitVec.isLt
  split at * <;> omega
theorem own_l2iB (c : Int64) : c.toInt32.toBitVec.toNat = c.toBitVec.toNat % 4294967296 := by
  have h1 := c_l2i c
  have h2 := own_toInt c.toInt32
  have h3 := own_toIntL c
  have h4 := c.toBitVec.isLt
  have h5 := c.toInt32.toBitVec.isLt
  split at h2 <;> split at h3 <;> omega
def own_bit (f : Nat → Int64) (b : Nat) : Bool := (f (b / 64)).toBitVec.getLsbD (b % 64)
def own_put (f g : Nat → Int64) (B W : Nat) (v : Int64) : Prop := ∀ b, own_bit g b = if B ≤ b ∧ b < B + W then v.toBitVec.getLsbD (b - B) else own_bit f b
theorem own_gshl (x : Int64) (q : Int32) (k : Nat) (hk : q.toInt = k) (hk2 : k < 64) (j : Nat) : (x <<< (q &&& 0x3f).toInt64).toBitVec.getLsbD j = (decide (j < 64) && !decide (j < k) && x.toBitVec.getLsbD (j - k)) := by
  have h := own_toInt q
  rw [own_shl x q k (by split at h <;> omega), BitVec.getLsbD_shiftLeft]
theorem own_gushr (x : Int64) (q : Int32) (k : Nat) (hk : q.toInt = k) (hk2 : k < 64) (j : Nat) : ((x.toUInt64 >>> (q &&& 0x3f).toInt64.toUInt64).toInt64).toBitVec.getLsbD j = x.toBitVec.getLsbD (k + j) := by
  have h := own_toInt q
  rw [own_ushr x q k (by split at h <;> omega), BitVec.getLsbD_ushiftRight]
theorem own_gand (x y : Int64) (j : Nat) : (x &&& y).toBitVec.getLsbD j = (x.toBitVec.getLsbD j && y.toBitVec.getLsbD j) := by
  show (x.toBitVec &&& y.toBitVec).getLsbD j = _; rw [BitVec.getLsbD_and]
theorem own_gor (x y : Int64) (j : Nat) : (x ||| y).toBitVec.getLsbD j = (x.toBitVec.getLsbD j || y.toBitVec.getLsbD j) := by
  show (x.toBitVec ||| y.toBitVec).getLsbD j = _; rw [BitVec.getLsbD_or]
theorem own_gnot (x : Int64) (j : Nat) (hj : j < 64) : (x ^^^ (-1 : Int64)).toBitVec.getLsbD j = !x.toBitVec.getLsbD j := by
  show (x.toBitVec ^^^ BitVec.allOnes 64).getLsbD j = _; rw [BitVec.getLsbD_xor, BitVec.getLsbD_allOnes, decide_eq_true hj, Bool.xor_true]
theorem own_ge (x : Int64) (j : Nat) (hj : 64 ≤ j) : x.toBitVec.getLsbD j = false := BitVec.getLsbD_of_ge _ _ hj
theorem own_ext (x y : Int64) (h : ∀ j, j < 64 → x.toBitVec.getLsbD j = y.toBitVec.getLsbD j) : x = y := by
  rw [← Int64.toBitVec_inj]; exact BitVec.eq_of_getLsbD_eq h
theorem own_b0 (b : Nat) : own_bit (fun _ => 0) b = false := by
  show (0 : Int64).toBitVec.getLsbD _ = false
  show (0#64).getLsbD _ = false
  simp
theorem own_w1 (vb : Int64) (vw : Int32) (B : Nat) (hb : vb.toInt = B) (hB : B < 100000) (e : vw = ((vb.toUInt64 >>> ((6 : Int32) &&& 0x3f).toInt64.toUInt64).toInt64).toInt32) : vw.toInt = ((B / 64 : Nat) : Int) := by
  have h1 := c_lushr vb 6 6 rfl (by decide)
  generalize (vb.toUInt64 >>> ((6 : Int32) &&& 0x3f).toInt64.toUInt64).toInt64 = d at *
  have h2 := c_l2i d
  rw [← e] at h2
  have h3 := rng32 vw
  omega
theorem own_len (q : Int64) (n : Nat) (hq : q.toInt = n) (hn : n ≤ 256) : ((((q + (63 : Int64)).toUInt64 >>> ((6 : Int32) &&& 0x3f).toInt64.toUInt64).toInt64).toInt32).toInt = (((n + 63) / 64 : Nat) : Int) := by
  have h1 := c_ladd q 63
  have r1 := rng64 (q + 63)
  have k : (63 : Int64).toInt = 63 := by decide
  exact own_w1 (q + 63) _ (n + 63) (by omega) (by omega) rfl
theorem own_s64 (q : Int64) (b : Nat) (hq : q.toInt = b) : q.toInt32.toBitVec.toNat % 64 = b % 64 := by
  rw [own_l2iB, own_natL q (by omega)]; omega
theorem own_one (q : Int64) (b : Nat) (hq : q.toInt = b) (j : Nat) (hj : j < 64) : ((1 : Int64) <<< (q.toInt32 &&& 0x3f).toInt64).toBitVec.getLsbD j = decide (j = b % 64) := by
  rw [own_shl 1 _ _ (own_s64 q b hq)]
  show (1#64 <<< (b % 64)).getLsbD j = _
  rw [BitVec.getLsbD_shiftLeft]
  have : b % 64 < 64 := Nat.mod_lt _ (by decide)
  by_cases e : j = b % 64
  · subst e; simp [this]
  · simp [e, hj, BitVec.getLsbD_one]; intro _; omega
theorem own_set1 (f : Nat → Int64) (q : Int64) (i : Nat) (hq : q.toInt = i) (b : Nat) : own_bit (fun z => if z = i / 64 then f (i / 64) ||| ((1 : Int64) <<< (q.toInt32 &&& 0x3f).toInt64) else f z) b = (decide (b = i) || own_bit f b) := by
  have hb : b % 64 < 64 := Nat.mod_lt _ (by decide)
  simp only [own_bit]
  by_cases e : b / 64 = i / 64
  · rw [if_pos e, own_gor, own_one q i hq _ hb, e]
    have : decide (b % 64 = i % 64) = decide (b = i) := by rw [decide_eq_decide]; omega
    rw [this, Bool.or_comm]
  · rw [if_neg e]
    have : b ≠ i := fun h => e (by rw [h])
    simp [this]
theorem own_get1 (f : Nat → Int64) (q : Int64) (i : Nat) (hq : q.toInt = i) : (f (i / 64) &&& ((1 : Int64) <<< (q.toInt32 &&& 0x3f).toInt64) = 0) ↔ own_bit f i = false := by
  have hb : i % 64 < 64 := Nat.mod_lt _ (by decide)
  constructor
  · intro h
    have h2 := congrArg (fun z => z.toBitVec.getLsbD (i % 64)) h
    simp only [own_gand, own_one q i hq _ hb] at h2
    have h3 : (0 : Int64).toBitVec.getLsbD (i % 64) = false := by show (0#64).getLsbD _ = false; simp
    rw [h3] at h2
    simpa [own_bit] using h2
  · intro h
    refine own_ext _ _ fun j hj => ?_
    rw [own_gand, own_one q i hq j hj]
    have h3 : (0 : Int64).toBitVec.getLsbD j = false := by show (0#64).getLsbD _ = false; simp
    rw [h3]
    by_cases e : j = i % 64
    · subst e; simp only [own_bit] at h; simp [h]
    · simp [e]
theorem own_head (q : Int64) (b : Nat) (hq : q.toInt = b) (j : Nat) (hj : j < 64) : ((-1 : Int64) <<< (q.toInt32 &&& 0x3f).toInt64).toBitVec.getLsbD j = decide (b % 64 ≤ j) := by
  rw [own_shl _ _ _ (own_s64 q b hq)]
  show (BitVec.allOnes 64 <<< (b % 64)).getLsbD j = _
  rw [BitVec.getLsbD_shiftLeft, BitVec.getLsbD_allOnes]
  by_cases e : b % 64 ≤ j
  · have : ¬ j < b % 64 := by omega
    have h2 : j - b % 64 < 64 := by omega
    simp [e, hj, this, h2]
  · have : j < b % 64 := by omega
    simp [e, this]
theorem own_tail (q : Int64) (b : Nat) (hq : q.toInt = b) (hb : 0 < b) (hb2 : b ≤ 256) (j : Nat) (hj : j < 64) : (((-1 : Int64).toUInt64 >>> ((-q).toInt32 &&& 0x3f).toInt64.toUInt64).toInt64).toBitVec.getLsbD j = decide (j ≤ (b - 1) % 64) := by
  have h1 := c_lneg q
  have h2 := rng64 (-q)
  have h3 := own_toIntL (-q)
  have h4 : (-q).toInt32.toBitVec.toNat % 64 = (64 - b % 64) % 64 := by
    rw [own_l2iB]; split at h3 <;> omega
  rw [own_ushr _ _ _ h4]
  show (BitVec.allOnes 64 >>> ((64 - b % 64) % 64)).getLsbD j = _
  rw [BitVec.getLsbD_ushiftRight, BitVec.getLsbD_allOnes, decide_eq_decide]; omega
theorem own_setA (f : Nat → Int64) (x y : Int64) (fr to : Nat) (hx : x.toInt = fr) (hy : y.toInt = to) (h1 : fr < to) (h2 : to ≤ 256) (he : fr / 64 = (to - 1) / 64) (b : Nat) :
    own_bit (fun z => if z = fr / 64 then f (fr / 64) ||| (((-1 : Int64) <<< (x.toInt32 &&& 0x3f).toInt64) &&& (((-1 : Int64).toUInt64 >>> ((-y).toInt32 &&& 0x3f).toInt64.toUInt64).toInt64)) else f z) b = (decide (fr ≤ b ∧ b < to) || own_bit f b) := by
  have hb : b % 64 < 64 := Nat.mod_lt _ (by decide)
  simp only [own_bit]
  by_cases e : b / 64 = fr / 64
  · rw [if_pos e, own_gor, own_gand, own_head x fr hx _ hb, own_tail y to hy (by omega) h2 _ hb, e]
    have : (decide (fr % 64 ≤ b % 64) && decide (b % 64 ≤ (to - 1) % 64)) = decide (fr ≤ b ∧ b < to) := by rw [← Bool.decide_and, decide_eq_decide]; omega
    rw [this, Bool.or_comm]
  · rw [if_neg e]
    have : ¬ (fr ≤ b ∧ b < to) := by omega
    simp [this]
theorem own_setB (f : Nat → Int64) (x y : Int64) (fr to : Nat) (hx : x.toInt = fr) (hy : y.toInt = to) (h1 : fr < to) (h2 : to ≤ 256) (he : fr / 64 < (to - 1) / 64) (g1 g2 : Nat → Int64)
    (e1 : g1 = fun z => if z = fr / 64 then f (fr / 64) ||| ((-1 : Int64) <<< (x.toInt32 &&& 0x3f).toInt64) else f z) (e2 : g2 = fun z => if fr / 64 + 1 ≤ z ∧ z < (to - 1) / 64 then (-1 : Int64) else g1 z) (b : Nat) :
    own_bit (fun z => if z = (to - 1) / 64 then g2 ((to - 1) / 64) ||| (((-1 : Int64).toUInt64 >>> ((-y).toInt32 &&& 0x3f).toInt64.toUInt64).toInt64) else g2 z) b = (decide (fr ≤ b ∧ b < to) || own_bit f b) := by
  have hb : b % 64 < 64 := Nat.mod_lt _ (by decide)
  simp only [own_bit]
  by_cases e : b / 64 = (to - 1) / 64
  · rw [if_pos e, own_gor, own_tail y to hy (by omega) h2 _ hb, e2]
    simp only
    rw [if_neg (by omega), e1]
    simp only
    rw [if_neg (by omega), e]
    have : decide (b % 64 ≤ (to - 1) % 64) = decide (fr ≤ b ∧ b < to) := by rw [decide_eq_decide]; omega
    rw [this, Bool.or_comm]
  · rw [if_neg e, e2]
    simp only
    by_cases r : fr / 64 + 1 ≤ b / 64 ∧ b / 64 < (to - 1) / 64
    · rw [if_pos r]
      have : (fr ≤ b ∧ b < to) := by omega
      show (BitVec.allOnes 64).getLsbD _ = _
      rw [BitVec.getLsbD_allOnes, decide_eq_true hb, decide_eq_true this, Bool.true_or]
    · rw [if_neg r, e1]
      simp only
      by_cases s : b / 64 = fr / 64
      · rw [if_pos s, own_gor, own_head x fr hx _ hb, s]
        have : decide (fr % 64 ≤ b % 64) = decide (fr ≤ b ∧ b < to) := by rw [decide_eq_decide]; omega
        rw [this, Bool.or_comm]
      · rw [if_neg s]
        have : ¬ (fr ≤ b ∧ b < to) := by omega
        simp [this]
theorem own_fillstep (i0 c e : Nat) (v : Int64) (f g : Nat → Int64) (h1 : i0 ≤ c) (hg : g = fun q => if i0 ≤ q ∧ q < c then v else f q) : (fun q => if q = c then v else g q) = fun q => if i0 ≤ q ∧ q < c + 1 then v else f q := by
  funext q
  rw [hg]
  by_cases r : q = c
  · rw [if_pos r, if_pos (by omega)]
  · rw [if_neg r]
    simp only
    by_cases s : i0 ≤ q ∧ q < c
    · rw [if_pos s, if_pos (by omega)]
    · rw [if_neg s, if_neg (by omega)]
theorem own_inc (v w : Int32) (c e : Nat) (hv : v.toInt = c) (hc : c < 1000) (h : w = v + (1 : Int32)) : w.toInt = ((c + 1 : Nat) : Int) := by
  have h1 := c_iadd v 1
  rw [← h] at h1
  have h2 := rng32 w
  have k : (1 : Int32).toInt = 1 := by decide
  omega
theorem own_lt32 (v w : Int32) (c e : Nat) (hv : v.toInt = c) (hw : w.toInt = e) : v < w ↔ c < e := by rw [Int32.lt_iff_toInt_lt]; omega
theorem own_lt64 (v w : Int64) (c e : Nat) (hv : v.toInt = c) (hw : w.toInt = e) : v < w ↔ c < e := by rw [Int64.lt_iff_toInt_lt]; omega
theorem own_dec64 (q : Int64) (c : Nat) (h : q.toInt = c) (h1 : 1 ≤ c) (h2 : c ≤ 256) : (q - (1 : Int64)).toInt = ((c - 1 : Nat) : Int) := by
  have h3 := c_lsub q 1
  have h4 := rng64 (q - 1)
  have k : (1 : Int64).toInt = 1 := by decide
  omega
theorem own_n (x v : Int32) (e : v = (1 : Int32) + (x &&& (255 : Int32))) : ∃ n : Nat, v.toInt = n ∧ 1 ≤ n ∧ n ≤ 256 := by
  have h1 := c_mask x 255 8 (by decide) rfl
  have h2 := c_iadd 1 (x &&& 255)
  rw [← e] at h2
  have h3 := rng32 v
  have k : (1 : Int32).toInt = 1 := by decide
  exact ⟨v.toInt.toNat, by omega, by omega, by omega⟩
theorem own_nz (v : Int32) (n : Nat) (h : v.toInt = n) (h1 : 1 ≤ n) : v ≠ 0 := fun e => by
  rw [e] at h; have k : (0 : Int32).toInt = 0 := by decide
  omega
theorem own_ix (x v : Int32) (n : Nat) (h : v.toInt = n) (h1 : 1 ≤ n) (q : Int64) (e : q = ((x &&& (2147483647 : Int32)) % v).toInt64) : ∃ i : Nat, q.toInt = i ∧ i < n := by
  have h2 := c_mask x 2147483647 31 (by decide) rfl
  have h3 := (c_iremV (x &&& 2147483647) v).1 (by omega) (by omega)
  have h4 := c_i2l ((x &&& 2147483647) % v)
  rw [← e] at h4
  exact ⟨q.toInt.toNat, by omega, by omega⟩
theorem own_v1 (v : Int32) (n : Nat) (h : v.toInt = n) (h1 : n ≤ 256) : (v + (1 : Int32)).toInt = ((n + 1 : Nat) : Int) := own_inc v _ n 0 h (by omega) rfl
theorem own_ofNat (M : Nat) (h : M < 1000) : (Int32.ofNat M).toInt = M := Int32.toInt_ofNat_of_lt (by omega)
def own_ex (q i f t : Int64) : Int32 := if q = i ∨ (¬ q < f ∧ q < t) then 1 else 0
theorem own_p1 (q i fr to : Nat) (vq vi vf vt : Int64) (hq : vq.toInt = q) (hi : vi.toInt = i) (hf : vf.toInt = fr) (ht : vt.toInt = to) (ga gb : Nat → Int64) (h1 : ∀ b, own_bit ga b = (decide (b = i) || own_bit (fun _ => 0) b)) (h2 : ∀ b, own_bit gb b = (decide (fr ≤ b ∧ b < to) || own_bit ga b)) : (if own_bit gb q = false then (0 : Int32) else 1) = own_ex vq vi vf vt := by
  unfold own_ex
  rw [h2, h1, own_b0]
  have e : (vq = vi ∨ (¬ vq < vf ∧ vq < vt)) ↔ (q = i ∨ (fr ≤ q ∧ q < to)) := by
    rw [← Int64.toInt_inj, Int64.lt_iff_toInt_lt, Int64.lt_iff_toInt_lt]; omega
  by_cases r : q = i ∨ (fr ≤ q ∧ q < to)
  · rw [if_pos (e.mpr r), if_neg]
    rcases r with r | r <;> simp [r]
  · rw [if_neg (fun u => r (e.mp u)), if_pos]
    have r1 : ¬ q = i := fun u => r (Or.inl u)
    have r2 : ¬ (fr ≤ q ∧ q < to) := fun u => r (Or.inr u)
    simp [r1, r2]
theorem own_p2 (i fr to : Nat) (ga gb : Nat → Int64) (h1 : ∀ b, own_bit ga b = (decide (b = i) || own_bit (fun _ => 0) b)) (h2 : ∀ b, own_bit gb b = (decide (fr ≤ b ∧ b < to) || own_bit ga b)) : ¬ (if own_bit gb i = false then (0 : Int32) else 1) = 0 := by
  rw [h2, h1]; simp
theorem d1_0 : decode prog_1_method_1_code 0 = .ok (.aload_n 0, 1) := by decide +kernel
theorem d1_1 : decode prog_1_method_1_code 1 = .ok (.invokespecial 1, 3) := by decide +kernel
theorem d1_4 : decode prog_1_method_1_code 4 = .ok (.aload_n 0, 1) := by decide +kernel
theorem d1_5 : decode prog_1_method_1_code 5 = .ok (.lload_n 1, 1) := by decide +kernel
theorem d1_6 : decode prog_1_method_1_code 6 = .ok (.putfield 7, 3) := by decide +kernel
theorem d1_9 : decode prog_1_method_1_code 9 = .ok (.aload_n 0, 1) := by decide +kernel
theorem d1_10 : decode prog_1_method_1_code 10 = .ok (.lload_n 1, 1) := by decide +kernel
theorem d1_11 : decode prog_1_method_1_code 11 = .ok (.ldc2_w 13, 3) := by decide +kernel
theorem d1_14 : decode prog_1_method_1_code 14 = .ok (.ladd, 1) := by decide +kernel
theorem d1_15 : decode prog_1_method_1_code 15 = .ok (.bipush 6, 2) := by decide +kernel
theorem d1_17 : decode prog_1_method_1_code 17 = .ok (.lushr, 1) := by decide +kernel
theorem d1_18 : decode prog_1_method_1_code 18 = .ok (.l2i, 1) := by decide +kernel
theorem d1_19 : decode prog_1_method_1_code 19 = .ok (.newarray .long, 2) := by decide +kernel
theorem d1_21 : decode prog_1_method_1_code 21 = .ok (.putfield 15, 3) := by decide +kernel
theorem d1_24 : decode prog_1_method_1_code 24 = .ok (.return_, 1) := by decide +kernel
set_option maxRecDepth 65536 in
set_option maxHeartbeats 40000000 in
theorem rm1 (l : Launch) (Z : State) (a0 : Array Value) (hw : ∀ d ∈ tables_1, d.before a0 Z = true) (a : Addr) (q1 : Int64) (n : Nat) (h0 : Heap) (n0 : Nat) (Z0 : n0 ≤ h0.size) (hq : q1.toInt = n) (hn : n ≤ 256) (ga : n0 ≤ a) (E_a : Exa Z h0 a "com/example/heavyhitter/heavyhitter/BitArray") (F_size : Fld Z h0 a "com/example/heavyhitter/heavyhitter/BitArray" "size" "J" (.long (0 : Int64))) (F_words : Fld Z h0 a "com/example/heavyhitter/heavyhitter/BitArray" "words" "[J" .null) :
    own_C l Z (⟨"com/example/heavyhitter/heavyhitter/BitArray", "<init>", "(J)V"⟩ : MethodName) prog_1_method_1_code 3 none [] ({ frames := 1, cells := 1, slots := 4, locals := 12 } : Room) #[(.ref a), (.long q1)] h0 (fun v h L => ∃ t, v = none ∧ Fr n0 L ∧ Keep h0 h [a] ∧ n0 ≤ t ∧ a ≠ t ∧ Fld Z h a "com/example/heavyhitter/heavyhitter/BitArray" "words" "[J" (.ref t) ∧ own_AJ Z h t ((n + 63) / 64) (fun _ => 0)) := by
  refine own_body (by first | (simp [plainName, overriddenIn]; done) | decide +kernel) ?_
  intro p e s m below meth c T0 hx hby hml hown hnm hret hlk hZ X0 e0
  have N0 := Fr.nil n0
  refine own_eq (f' := (mkF m 0 #[.val (.ref a), .val (.long q1), .second] [])) (by first | (simp [entryFrame, mkF, argsToLocals, Value.category]; done) | rfl) ?_
  refine own_aloadN X0 hx 1 (hb hby d1_0) rfl rfl ?_
  refine own_initO X0 hx hZ hown e0 (W := 0) 4 (hw _ (List.mem_of_getElem? (i := 7) rfl)) (hw _ (List.mem_of_getElem? (i := 8) rfl)) (hw _ (List.mem_of_getElem? (i := 9) rfl)) (by rw [hml]; rfl) (hb hby d1_1) rfl (by decide) rfl (by decide) (fun T1 X2 e3 => ?_)
  refine own_aloadN X2 hx 5 (hb hby d1_4) rfl rfl ?_
  refine own_lloadN X2 hx 6 (hb hby d1_5) rfl rfl ?_
  refine own_putF X2 hx hZ hown e3 9 (hw _ (List.mem_of_getElem? (i := 10) rfl)) F_size E_a (Or.inr ⟨(hw _ (List.mem_of_getElem? (i := 11) rfl)), rfl, hnm⟩) (hw _ (List.mem_of_getElem? (i := 2) rfl)) (ty := .long) (by decide) rfl rfl (hb hby d1_6) rfl (fun T4 h5 X6 e7 W8 => ?_)
  have f9 := E_a.wr W8
  have f10 := F_size.same W8
  have f11 := F_words.other W8 (Or.inr (slot_ne (Or.inr (hw _ (List.mem_of_getElem? (i := 15) rfl))) (Or.inr (hw _ (List.mem_of_getElem? (i := 11) rfl))) (by decide) (t := (.array .long)) (t' := .long) (by decide) (by decide)))
  have Z12 : n0 ≤ h5.size := Nat.le_trans Z0 (Keep.of_wr W8).1
  have K13 := (Keep.refl h0 [a]).wr W8 (Or.inl (List.mem_of_getElem? (i := 0) rfl))
  have N14 := Fr.snoc X6 N0 ga
  refine own_aloadN X6 hx 10 (hb hby d1_9) rfl rfl ?_
  refine own_lloadN X6 hx 11 (hb hby d1_10) rfl rfl ?_
  refine own_ldc2 X6 hx hZ hown 14 (hw _ (List.mem_of_getElem? (i := 12) rfl)) (hb hby d1_11) rfl ?_
  refine own_ladd X6 hx 15 (hb hby d1_14) rfl ?_
  refine own_bipush X6 hx 17 (6 : Int32) (by decide) (hb hby d1_15) rfl ?_
  refine own_lushr X6 hx 18 (hb hby d1_17) rfl ?_
  refine own_l2i X6 hx 19 (hb hby d1_18) rfl ?_
  refine own_newJ X6 hx hZ e7 (n := ((n + 63) / 64)) (cap := 4) 21 (hw _ (List.mem_of_getElem? (i := 13) rfl)) (own_len q1 n hq hn) (by omega) (by decide) (hb hby d1_19) rfl (by decide) (by decide) (fun T15 h16 a17 X18 e19 g20 E21 A22 => ?_)
  have ne23 : a ≠ a17 := fun q => absurd (f9.lt) (by rw [q, g20]; exact Nat.lt_irrefl _)
  have ga24 : n0 ≤ a17 := by rw [g20]; exact Z12
  have bo25 : h0.size ≤ a17 := by rw [g20]; exact K13.1
  have f26 := f9.ext E21
  have f27 := f10.ext E21
  have f28 := f11.ext E21
  have Z29 : n0 ≤ h16.size := Nat.le_trans Z12 E21.1
  have K30 := K13.ext E21
  refine own_putF X18 hx hZ hown e19 24 (hw _ (List.mem_of_getElem? (i := 14) rfl)) f28 f26 (Or.inr ⟨(hw _ (List.mem_of_getElem? (i := 15) rfl)), rfl, hnm⟩) (hw _ (List.mem_of_getElem? (i := 2) rfl)) (ty := (.array .long)) (by decide) rfl rfl (hb hby d1_21) rfl (fun T31 h32 X33 e34 W35 => ?_)
  have f36 := f26.wr W35
  have f37 := f27.other W35 (Or.inr (slot_ne (Or.inr (hw _ (List.mem_of_getElem? (i := 11) rfl))) (Or.inr (hw _ (List.mem_of_getElem? (i := 15) rfl))) (by decide) (t := .long) (t' := (.array .long)) (by decide) (by decide)))
  have f38 := f28.same W35
  have f39 := A22.other W35 (Ne.symm ne23)
  have Z40 : n0 ≤ h32.size := Nat.le_trans Z29 (Keep.of_wr W35).1
  have K41 := K30.wr W35 (Or.inl (List.mem_of_getElem? (i := 0) rfl))
  have N42 := Fr.snoc X33 N14 ga
  exact own_retV X33 hx hret hlk (hb hby d1_24) (by decide) (by decide) ⟨a17, rfl, N42, by rw [e34]; exact ⟨K41, ga24, ne23, f38, f39⟩⟩
theorem d3_0 : decode prog_1_method_3_code 0 = .ok (.aload_n 0, 1) := by decide +kernel
theorem d3_1 : decode prog_1_method_3_code 1 = .ok (.getfield 15, 3) := by decide +kernel
theorem d3_4 : decode prog_1_method_3_code 4 = .ok (.lload_n 1, 1) := by decide +kernel
theorem d3_5 : decode prog_1_method_3_code 5 = .ok (.bipush 6, 2) := by decide +kernel
theorem d3_7 : decode prog_1_method_3_code 7 = .ok (.lushr, 1) := by decide +kernel
theorem d3_8 : decode prog_1_method_3_code 8 = .ok (.l2i, 1) := by decide +kernel
theorem d3_9 : decode prog_1_method_3_code 9 = .ok (.dup2, 1) := by decide +kernel
theorem d3_10 : decode prog_1_method_3_code 10 = .ok (.laload, 1) := by decide +kernel
theorem d3_11 : decode prog_1_method_3_code 11 = .ok (.lconst 1, 1) := by decide +kernel
theorem d3_12 : decode prog_1_method_3_code 12 = .ok (.lload_n 1, 1) := by decide +kernel
theorem d3_13 : decode prog_1_method_3_code 13 = .ok (.l2i, 1) := by decide +kernel
theorem d3_14 : decode prog_1_method_3_code 14 = .ok (.lshl, 1) := by decide +kernel
theorem d3_15 : decode prog_1_method_3_code 15 = .ok (.lor, 1) := by decide +kernel
theorem d3_16 : decode prog_1_method_3_code 16 = .ok (.lastore, 1) := by decide +kernel
theorem d3_17 : decode prog_1_method_3_code 17 = .ok (.return_, 1) := by decide +kernel
set_option maxRecDepth 65536 in
set_option maxHeartbeats 40000000 in
theorem rm3 (l : Launch) (Z : State) (a0 : Array Value) (hw : ∀ d ∈ tables_1, d.before a0 Z = true) (a t : Addr) (q1 : Int64) (i M : Nat) (f : Nat → Int64) (h0 : Heap) (n0 : Nat) (Z0 : n0 ≤ h0.size) (hq : q1.toInt = i) (hi : i < 64 * M) (hM : M ≤ 4) (na : a ≠ t) (gt : n0 ≤ t) (F_words : Fld Z h0 a "com/example/heavyhitter/heavyhitter/BitArray" "words" "[J" (.ref t)) (A_t : own_AJ Z h0 t M f) :
    own_C l Z (⟨"com/example/heavyhitter/heavyhitter/BitArray", "set", "(J)V"⟩ : MethodName) prog_1_method_3_code 3 none [] ({ frames := 0, cells := 0, slots := 0, locals := 0 } : Room) #[(.ref a), (.long q1)] h0 (fun v h L => ∃ g, v = none ∧ (∀ b, own_bit g b = (decide (b = i) || own_bit f b)) ∧ Fr n0 L ∧ Keep h0 h [t] ∧ Fld Z h a "com/example/heavyhitter/heavyhitter/BitArray" "words" "[J" (.ref t) ∧ own_AJ Z h t M g) := by
  refine own_body (by first | (simp [plainName, overriddenIn]; done) | decide +kernel) ?_
  intro p e s m below meth c T0 hx hby hml hown hnm hret hlk hZ X0 e0
  have N0 := Fr.nil n0
  refine own_eq (f' := (mkF m 0 #[.val (.ref a), .val (.long q1), .second] [])) (by first | (simp [entryFrame, mkF, argsToLocals, Value.category]; done) | rfl) ?_
  refine own_aloadN X0 hx 1 (hb hby d3_0) rfl rfl ?_
  refine own_getF X0 hx hZ hown e0 4 (hw _ (List.mem_of_getElem? (i := 14) rfl)) F_words (hb hby d3_1) rfl (fun T1 X2 e3 => ?_)
  refine own_lloadN X2 hx 5 (hb hby d3_4) rfl rfl ?_
  refine own_bipush X2 hx 7 (6 : Int32) (by decide) (hb hby d3_5) rfl ?_
  refine own_lushr X2 hx 8 (hb hby d3_7) rfl ?_
  refine own_l2i X2 hx 9 (hb hby d3_8) rfl ?_
  refine own_dup2 X2 hx 10 rfl rfl (hb hby d3_9) rfl ?_
  refine own_laload X2 hx hZ e3 11 (i / 64) A_t (own_w1 q1 _ i hq (by omega) rfl) (by omega) (hb hby d3_10) rfl ?_
  refine own_lconst X2 hx 12 (1 : Int64) (by decide) (hb hby d3_11) rfl ?_
  refine own_lloadN X2 hx 13 (hb hby d3_12) rfl rfl ?_
  refine own_l2i X2 hx 14 (hb hby d3_13) rfl ?_
  refine own_lshl X2 hx 15 (hb hby d3_14) rfl ?_
  refine own_lor X2 hx 16 (hb hby d3_15) rfl ?_
  refine own_lastore X2 hx hZ e3 17 (i / 64) A_t (own_w1 q1 _ i hq (by omega) rfl) (by omega) (hb hby d3_16) rfl (fun T4 h5 X6 e7 W8 => ?_)
  have f9 := F_words.other W8 (Or.inl na)
  have f10 := A_t.set W8
  have Z11 : n0 ≤ h5.size := Nat.le_trans Z0 (Keep.of_wr W8).1
  have K12 := (Keep.refl h0 [t]).wr W8 (Or.inl (List.mem_of_getElem? (i := 0) rfl))
  have N13 := Fr.snoc X6 N0 gt
  exact own_retV X6 hx hret hlk (hb hby d3_17) (by decide) (by decide) ⟨_, rfl, own_set1 f q1 i hq, N13, by rw [e7]; exact ⟨K12, f9, f10⟩⟩
theorem d5_0 : decode prog_1_method_4_code 0 = .ok (.aload_n 0, 1) := by decide +kernel
theorem d5_1 : decode prog_1_method_4_code 1 = .ok (.getfield 15, 3) := by decide +kernel
theorem d5_4 : decode prog_1_method_4_code 4 = .ok (.lload_n 1, 1) := by decide +kernel
theorem d5_5 : decode prog_1_method_4_code 5 = .ok (.bipush 6, 2) := by decide +kernel
theorem d5_7 : decode prog_1_method_4_code 7 = .ok (.lushr, 1) := by decide +kernel
theorem d5_8 : decode prog_1_method_4_code 8 = .ok (.l2i, 1) := by decide +kernel
theorem d5_9 : decode prog_1_method_4_code 9 = .ok (.laload, 1) := by decide +kernel
theorem d5_10 : decode prog_1_method_4_code 10 = .ok (.lconst 1, 1) := by decide +kernel
theorem d5_11 : decode prog_1_method_4_code 11 = .ok (.lload_n 1, 1) := by decide +kernel
theorem d5_12 : decode prog_1_method_4_code 12 = .ok (.l2i, 1) := by decide +kernel
theorem d5_13 : decode prog_1_method_4_code 13 = .ok (.lshl, 1) := by decide +kernel
theorem d5_14 : decode prog_1_method_4_code 14 = .ok (.land, 1) := by decide +kernel
theorem d5_15 : decode prog_1_method_4_code 15 = .ok (.lconst 0, 1) := by decide +kernel
theorem d5_16 : decode prog_1_method_4_code 16 = .ok (.lcmp, 1) := by decide +kernel
theorem d5_17 : decode prog_1_method_4_code 17 = .ok (.ifCond .eq 7, 3) := by decide +kernel
theorem d5_20 : decode prog_1_method_4_code 20 = .ok (.iconst 1, 1) := by decide +kernel
theorem d5_21 : decode prog_1_method_4_code 21 = .ok (.goto 4, 3) := by decide +kernel
theorem d5_24 : decode prog_1_method_4_code 24 = .ok (.iconst 0, 1) := by decide +kernel
theorem d5_25 : decode prog_1_method_4_code 25 = .ok (.ireturn, 1) := by decide +kernel
set_option maxRecDepth 65536 in
set_option maxHeartbeats 40000000 in
theorem rm5 (l : Launch) (Z : State) (a0 : Array Value) (hw : ∀ d ∈ tables_1, d.before a0 Z = true) (a t : Addr) (q1 : Int64) (i M : Nat) (f : Nat → Int64) (h0 : Heap) (n0 : Nat) (Z0 : n0 ≤ h0.size) (hq : q1.toInt = i) (hi : i < 64 * M) (hM : M ≤ 4) (na : a ≠ t) (gt : n0 ≤ t) (F_words : Fld Z h0 a "com/example/heavyhitter/heavyhitter/BitArray" "words" "[J" (.ref t)) (A_t : own_AJ Z h0 t M f) :
    own_C l Z (⟨"com/example/heavyhitter/heavyhitter/BitArray", "get", "(J)Z"⟩ : MethodName) prog_1_method_4_code 3 (some .boolean) [] ({ frames := 0, cells := 0, slots := 0, locals := 0 } : Room) #[(.ref a), (.long q1)] h0 (fun v h L => v = some (.int (if own_bit f i = false then 0 else 1)) ∧ Fr n0 L ∧ h = h0) := by
  refine own_body (by first | (simp [plainName, overriddenIn]; done) | decide +kernel) ?_
  intro p e s m below meth c T0 hx hby hml hown hnm hret hlk hZ X0 e0
  have N0 := Fr.nil n0
  refine own_eq (f' := (mkF m 0 #[.val (.ref a), .val (.long q1), .second] [])) (by first | (simp [entryFrame, mkF, argsToLocals, Value.category]; done) | rfl) ?_
  refine own_aloadN X0 hx 1 (hb hby d5_0) rfl rfl ?_
  refine own_getF X0 hx hZ hown e0 4 (hw _ (List.mem_of_getElem? (i := 14) rfl)) F_words (hb hby d5_1) rfl (fun T1 X2 e3 => ?_)
  refine own_lloadN X2 hx 5 (hb hby d5_4) rfl rfl ?_
  refine own_bipush X2 hx 7 (6 : Int32) (by decide) (hb hby d5_5) rfl ?_
  refine own_lushr X2 hx 8 (hb hby d5_7) rfl ?_
  refine own_l2i X2 hx 9 (hb hby d5_8) rfl ?_
  refine own_laload X2 hx hZ e3 10 (i / 64) A_t (own_w1 q1 _ i hq (by omega) rfl) (by omega) (hb hby d5_9) rfl ?_
  refine own_lconst X2 hx 11 (1 : Int64) (by decide) (hb hby d5_10) rfl ?_
  refine own_lloadN X2 hx 12 (hb hby d5_11) rfl rfl ?_
  refine own_l2i X2 hx 13 (hb hby d5_12) rfl ?_
  refine own_lshl X2 hx 14 (hb hby d5_13) rfl ?_
  refine own_land X2 hx 15 (hb hby d5_14) rfl ?_
  refine own_lconst X2 hx 16 (0 : Int64) (by decide) (hb hby d5_15) rfl ?_
  refine own_lif_eq X2 hx 17 24 20 (hb hby d5_16) rfl (hb hby d5_17) (by decide) (by decide) rfl (fun h4 => ?_) (fun h4 => ?_)
  · show own_W p e below _ T1 (mkF m 24 #[.val (.ref a), .val (.long q1), .second] [])
    refine own_iconst X2 hx 25 (0 : Int32) (by decide) (hb hby d5_24) rfl ?_
    exact own_retZ X2 hx (0 : Int32) (by decide) hret hlk (hb hby d5_25) (by decide) (by decide) ⟨by rw [if_pos ((own_get1 f q1 i hq).mp h4)], N0, e3⟩
  · show own_W p e below _ T1 (mkF m 20 #[.val (.ref a), .val (.long q1), .second] [])
    refine own_iconst X2 hx 21 (1 : Int32) (by decide) (hb hby d5_20) rfl ?_
    refine own_goto X2 hx 25 (hb hby d5_21) (by decide) (by decide) ?_
    exact own_retZ X2 hx (1 : Int32) (by decide) hret hlk (hb hby d5_25) (by decide) (by decide) ⟨by rw [if_neg (by have := mt (own_get1 f q1 i hq).mpr h4; simpa using this)], N0, e3⟩
theorem d7_0 : decode jdk_65_method_30_code 0 = .ok (.iload_n 1, 1) := by decide +kernel
theorem d7_1 : decode jdk_65_method_30_code 1 = .ok (.iload_n 2, 1) := by decide +kernel
theorem d7_2 : decode jdk_65_method_30_code 2 = .ok (.if_icmp .le 44, 3) := by decide +kernel
theorem d7_46 : decode jdk_65_method_30_code 46 = .ok (.iload_n 1, 1) := by decide +kernel
theorem d7_47 : decode jdk_65_method_30_code 47 = .ok (.ifCond .ge 12, 3) := by decide +kernel
theorem d7_59 : decode jdk_65_method_30_code 59 = .ok (.iload_n 2, 1) := by decide +kernel
theorem d7_60 : decode jdk_65_method_30_code 60 = .ok (.iload_n 0, 1) := by decide +kernel
theorem d7_61 : decode jdk_65_method_30_code 61 = .ok (.if_icmp .le 12, 3) := by decide +kernel
theorem d7_73 : decode jdk_65_method_30_code 73 = .ok (.return_, 1) := by decide +kernel
set_option maxRecDepth 65536 in
set_option maxHeartbeats 40000000 in
theorem rm7 (l : Launch) (Z : State) (a0 : Array Value) (hw : ∀ d ∈ tables_1, d.before a0 Z = true) (p0 p1 p2 : Int32) (h0 : Heap) (n0 : Nat) (Z0 : n0 ≤ h0.size) (r1 : ¬ p2 < p1) (r2 : ¬ p1 < 0) (r3 : ¬ p0 < p2) :
    own_C l Z (⟨"java/util/Arrays", "rangeCheck", "(III)V"⟩ : MethodName) jdk_65_method_30_code 3 none [] ({ frames := 0, cells := 0, slots := 0, locals := 0 } : Room) #[(.int p0), (.int p1), (.int p2)] h0 (fun v h L => v = none ∧ Fr n0 L ∧ h = h0) := by
  refine own_body (by first | (simp [plainName, overriddenIn]; done) | decide +kernel) ?_
  intro p e s m below meth c T0 hx hby hml hown hnm hret hlk hZ X0 e0
  have N0 := Fr.nil n0
  refine own_eq (f' := (mkF m 0 #[.val (.int p0), .val (.int p1), .val (.int p2)] [])) (by first | (simp [entryFrame, mkF, argsToLocals, Value.category]; done) | rfl) ?_
  refine own_iloadN X0 hx 1 (hb hby d7_0) rfl rfl ?_
  refine own_iloadN X0 hx 2 (hb hby d7_1) rfl rfl ?_
  refine own_icmp_le X0 hx 46 5 (hb hby d7_2) (by decide) (by decide) rfl (fun h1 => ?_) (fun h1 => ?_)
  · show own_W p e below _ T0 (mkF m 46 #[.val (.int p0), .val (.int p1), .val (.int p2)] [])
    refine own_iloadN X0 hx 47 (hb hby d7_46) rfl rfl ?_
    refine own_if_ge X0 hx 59 50 (hb hby d7_47) (by decide) (by decide) rfl (fun h2 => ?_) (fun h2 => ?_)
    · show own_W p e below _ T0 (mkF m 59 #[.val (.int p0), .val (.int p1), .val (.int p2)] [])
      refine own_iloadN X0 hx 60 (hb hby d7_59) rfl rfl ?_
      refine own_iloadN X0 hx 61 (hb hby d7_60) rfl rfl ?_
      refine own_icmp_le X0 hx 73 64 (hb hby d7_61) (by decide) (by decide) rfl (fun h3 => ?_) (fun h3 => ?_)
      · show own_W p e below _ T0 (mkF m 73 #[.val (.int p0), .val (.int p1), .val (.int p2)] [])
        exact own_retV X0 hx hret hlk (hb hby d7_73) (by decide) (by decide) ⟨rfl, N0, e0⟩
      · exact absurd h3 r3
    · exact absurd h2 r2
  · exact absurd h1 r1
theorem d6_0 : decode jdk_65_method_102_code 0 = .ok (.aload_n 0, 1) := by decide +kernel
theorem d6_1 : decode jdk_65_method_102_code 1 = .ok (.arraylength, 1) := by decide +kernel
theorem d6_2 : decode jdk_65_method_102_code 2 = .ok (.iload_n 1, 1) := by decide +kernel
theorem d6_3 : decode jdk_65_method_102_code 3 = .ok (.iload_n 2, 1) := by decide +kernel
theorem d6_4 : decode jdk_65_method_102_code 4 = .ok (.invokestatic 13, 3) := by decide +kernel
theorem d6_7 : decode jdk_65_method_102_code 7 = .ok (.iload_n 1, 1) := by decide +kernel
theorem d6_8 : decode jdk_65_method_102_code 8 = .ok (.istore 5, 2) := by decide +kernel
theorem d6_10 : decode jdk_65_method_102_code 10 = .ok (.iload 5, 2) := by decide +kernel
theorem d6_12 : decode jdk_65_method_102_code 12 = .ok (.iload_n 2, 1) := by decide +kernel
theorem d6_13 : decode jdk_65_method_102_code 13 = .ok (.if_icmp .ge 14, 3) := by decide +kernel
theorem d6_16 : decode jdk_65_method_102_code 16 = .ok (.aload_n 0, 1) := by decide +kernel
theorem d6_17 : decode jdk_65_method_102_code 17 = .ok (.iload 5, 2) := by decide +kernel
theorem d6_19 : decode jdk_65_method_102_code 19 = .ok (.lload_n 3, 1) := by decide +kernel
theorem d6_20 : decode jdk_65_method_102_code 20 = .ok (.lastore, 1) := by decide +kernel
theorem d6_21 : decode jdk_65_method_102_code 21 = .ok (.iinc 5 1, 3) := by decide +kernel
theorem d6_24 : decode jdk_65_method_102_code 24 = .ok (.goto (-14), 3) := by decide +kernel
theorem d6_27 : decode jdk_65_method_102_code 27 = .ok (.return_, 1) := by decide +kernel
set_option maxRecDepth 65536 in
set_option maxHeartbeats 40000000 in
theorem rm6 (l : Launch) (Z : State) (a0 : Array Value) (hw : ∀ d ∈ tables_1, d.before a0 Z = true) (t : Addr) (p1 p2 zM : Int32) (q3 : Int64) (i0 ez M : Nat) (f : Nat → Int64) (h0 : Heap) (n0 : Nat) (Z0 : n0 ≤ h0.size) (hzM : zM.toInt = M) (h1 : p1.toInt = i0) (h2 : p2.toInt = ez) (h3 : i0 ≤ ez) (h4 : ez ≤ M) (hM : M ≤ 4) (gt : n0 ≤ t) (A_t : own_AJ Z h0 t M f) :
    own_C l Z (⟨"java/util/Arrays", "fill", "([JIIJ)V"⟩ : MethodName) jdk_65_method_102_code 6 none [] ({ frames := 1, cells := 0, slots := 0, locals := 16 } : Room) #[(.ref t), (.int p1), (.int p2), (.long q3)] h0 (fun v h L => v = none ∧ Fr n0 L ∧ Keep h0 h [t] ∧ own_AJ Z h t M (fun q => if i0 ≤ q ∧ q < ez then q3 else f q)) := by
  refine own_body (by first | (simp [plainName, overriddenIn]; done) | decide +kernel) ?_
  intro p e s m below meth c T0 hx hby hml hown hnm hret hlk hZ X0 e0
  have N0 := Fr.nil n0
  refine own_eq (f' := (mkF m 0 #[.val (.ref t), .val (.int p1), .val (.int p2), .val (.long q3), .second, .unset] [])) (by first | (simp [entryFrame, mkF, argsToLocals, Value.category]; done) | rfl) ?_
  refine own_aloadN X0 hx 1 (hb hby d6_0) rfl rfl ?_
  refine own_arraylengthJ X0 hx hZ e0 2 (z := zM) A_t hzM (hb hby d6_1) rfl ?_
  refine own_iloadN X0 hx 3 (hb hby d6_2) rfl rfl ?_
  refine own_iloadN X0 hx 4 (hb hby d6_3) rfl rfl ?_
  refine own_callS X0 hx hZ hown e0 (y := (⟨"java/util/Arrays", "rangeCheck", "(III)V"⟩ : MethodName)) (argsL := [(.int zM), (.int p1), (.int p2)]) (rest := []) 7 (rm7 l Z a0 hw zM p1 p2 h0 n0 Z0 (fun u => by rw [own_lt32 _ _ _ _ h2 h1] at u; omega) (fun u => by rw [own_lt32 p1 0 i0 0 h1 rfl] at u; omega) (fun u => by rw [own_lt32 _ _ _ _ hzM h2] at u; omega)) (hw _ (List.mem_of_getElem? (i := 36) rfl)) (hw _ (List.mem_of_getElem? (i := 37) rfl)) (hw _ (List.mem_of_getElem? (i := 34) rfl)) (hw _ (List.mem_of_getElem? (i := 38) rfl)) (by decide) (by rw [hml]; rfl) (lenOf (by decide +kernel : parseMethodDescriptor "(III)V" = some ⟨[.int, .int, .int], none⟩) rfl) rfl (hb hby d6_4) rfl (W := 0) rfl (by decide) (by decide) (by decide) (by decide) (fun r1 T2 L3 X4 q5 => ?_)
  obtain ⟨rfl, N6q, e7⟩ := q5
  have N6 := Fr.app N0 N6q
  show own_W p e below _ T2 (mkF m 7 #[.val (.ref t), .val (.int p1), .val (.int p2), .val (.long q3), .second, .unset] [])
  refine own_iloadN X4 hx 8 (hb hby d6_7) rfl rfl ?_
  refine own_istore X4 hx 10 #[.val (.ref t), .val (.int p1), .val (.int p2), .val (.long q3), .second, .val (.int p1)] rfl (hb hby d6_8) rfl rfl ?_
  have J8 : ∀ (k : Nat) (vi : Int32) (ci : Nat) (T10 : State) (lc11 : List Loc) (h12 : Heap) (g1 : Nat → Int64) (X13 : Stand p l e ({ frames := 1, cells := 0, slots := 0, locals := 16 } : Room) s m #[(.ref t), (.int p1), (.int p2), (.long q3)] below meth c T10 lc11 0 0) (e14 : T10.heap = h12) (N15 : Fr n0 lc11) (Z16 : n0 ≤ h12.size) (f17 : own_AJ Z h12 t M g1) (K18 : Keep h0 h12 [t]) (hj19 : vi.toInt = ci ∧ i0 ≤ ci ∧ ci ≤ ez ∧ k = ez - ci ∧ g1 = (fun q => if i0 ≤ q ∧ q < ci then q3 else f q)), own_W p e below (own_K s ({ frames := 1, cells := 0, slots := 0, locals := 16 } : Room) (fun v h L => v = none ∧ Fr n0 L ∧ Keep h0 h [t] ∧ own_AJ Z h t M (fun q => if i0 ≤ q ∧ q < ez then q3 else f q))) T10 (mkF m 10 #[.val (.ref t), .val (.int p1), .val (.int p2), .val (.long q3), .second, .val (.int vi)] []) := by
    intro k
    induction k using Nat.strongRecOn with
    | _ k ih9 =>
      intro vi ci T10 lc11 h12 g1 X13 e14 N15 Z16 f17 K18 hj19
      obtain ⟨hvi, hc1, hc2, hck, hg1⟩ := hj19
      refine own_iload X13 hx 12 (hb hby d6_10) rfl rfl ?_
      refine own_iloadN X13 hx 13 (hb hby d6_12) rfl rfl ?_
      refine own_icmp_ge X13 hx 27 16 (hb hby d6_13) (by decide) (by decide) rfl (fun h20 => ?_) (fun h20 => ?_)
      · show own_W p e below _ T10 (mkF m 27 #[.val (.ref t), .val (.int p1), .val (.int p2), .val (.long q3), .second, .val (.int vi)] [])
        exact own_retV X13 hx hret hlk (hb hby d6_27) (by decide) (by decide) ⟨rfl, N15, by rw [e14]; exact ⟨K18, by rw [show ez = ci from by have := mt (own_lt32 _ _ _ _ hvi h2).mpr h20; omega, ← hg1]; exact f17⟩⟩
      · show own_W p e below _ T10 (mkF m 16 #[.val (.ref t), .val (.int p1), .val (.int p2), .val (.long q3), .second, .val (.int vi)] [])
        refine own_aloadN X13 hx 17 (hb hby d6_16) rfl rfl ?_
        refine own_iload X13 hx 19 (hb hby d6_17) rfl rfl ?_
        refine own_lloadN X13 hx 20 (hb hby d6_19) rfl rfl ?_
        refine own_lastore X13 hx hZ e14 21 ci f17 hvi (by have := (own_lt32 _ _ _ _ hvi h2).mp h20; omega) (hb hby d6_20) rfl (fun T21 h22 X23 e24 W25 => ?_)
        have f26 := f17.set W25
        have Z27 : n0 ≤ h22.size := Nat.le_trans Z16 (Keep.of_wr W25).1
        have K28 := K18.wr W25 (Or.inl (List.mem_of_getElem? (i := 0) rfl))
        have N29 := Fr.snoc X23 N15 gt
        obtain ⟨v30, e_v30⟩ : ∃ z : Int32, z = (vi + (1 : Int32)) := ⟨_, rfl⟩
        refine own_iinc X23 hx v30 24 #[.val (.ref t), .val (.int p1), .val (.int p2), .val (.long q3), .second, .val (.int v30)] e_v30 (hb hby d6_21) rfl rfl rfl ?_
        refine own_goto X23 hx 10 (hb hby d6_24) (by decide) (by decide) ?_
        exact ih9 (ez - (ci + 1)) (by have := (own_lt32 _ _ _ _ hvi h2).mp h20; omega) v30 (ci + 1) T21 _ _ (fun q => if q = ci then q3 else g1 q) X23 e24 N29 Z27 f26 K28 (⟨own_inc vi v30 ci 0 hvi (by omega) e_v30, by omega, by have := (own_lt32 _ _ _ _ hvi h2).mp h20; omega, rfl, own_fillstep i0 ci 0 q3 f g1 hc1 hg1⟩)
  exact J8 (ez - i0) p1 i0 T2 _ _ f X4 e7 N6 Z0 A_t (Keep.refl h0 [t]) (⟨h1, Nat.le_refl _, h3, rfl, by funext q; rw [if_neg (by omega)]⟩)
theorem d4_0 : decode prog_1_method_5_code 0 = .ok (.lload_n 1, 1) := by decide +kernel
theorem d4_1 : decode prog_1_method_5_code 1 = .ok (.lload_n 3, 1) := by decide +kernel
theorem d4_2 : decode prog_1_method_5_code 2 = .ok (.lcmp, 1) := by decide +kernel
theorem d4_3 : decode prog_1_method_5_code 3 = .ok (.ifCond .lt 4, 3) := by decide +kernel
theorem d4_6 : decode prog_1_method_5_code 6 = .ok (.return_, 1) := by decide +kernel
theorem d4_7 : decode prog_1_method_5_code 7 = .ok (.lload_n 1, 1) := by decide +kernel
theorem d4_8 : decode prog_1_method_5_code 8 = .ok (.bipush 6, 2) := by decide +kernel
theorem d4_10 : decode prog_1_method_5_code 10 = .ok (.lushr, 1) := by decide +kernel
theorem d4_11 : decode prog_1_method_5_code 11 = .ok (.l2i, 1) := by decide +kernel
theorem d4_12 : decode prog_1_method_5_code 12 = .ok (.istore 5, 2) := by decide +kernel
theorem d4_14 : decode prog_1_method_5_code 14 = .ok (.lload_n 3, 1) := by decide +kernel
theorem d4_15 : decode prog_1_method_5_code 15 = .ok (.lconst 1, 1) := by decide +kernel
theorem d4_16 : decode prog_1_method_5_code 16 = .ok (.lsub, 1) := by decide +kernel
theorem d4_17 : decode prog_1_method_5_code 17 = .ok (.bipush 6, 2) := by decide +kernel
theorem d4_19 : decode prog_1_method_5_code 19 = .ok (.lushr, 1) := by decide +kernel
theorem d4_20 : decode prog_1_method_5_code 20 = .ok (.l2i, 1) := by decide +kernel
theorem d4_21 : decode prog_1_method_5_code 21 = .ok (.istore 6, 2) := by decide +kernel
theorem d4_23 : decode prog_1_method_5_code 23 = .ok (.ldc2_w 19, 3) := by decide +kernel
theorem d4_26 : decode prog_1_method_5_code 26 = .ok (.lload_n 1, 1) := by decide +kernel
theorem d4_27 : decode prog_1_method_5_code 27 = .ok (.l2i, 1) := by decide +kernel
theorem d4_28 : decode prog_1_method_5_code 28 = .ok (.lshl, 1) := by decide +kernel
theorem d4_29 : decode prog_1_method_5_code 29 = .ok (.lstore 7, 2) := by decide +kernel
theorem d4_31 : decode prog_1_method_5_code 31 = .ok (.ldc2_w 19, 3) := by decide +kernel
theorem d4_34 : decode prog_1_method_5_code 34 = .ok (.lload_n 3, 1) := by decide +kernel
theorem d4_35 : decode prog_1_method_5_code 35 = .ok (.lneg, 1) := by decide +kernel
theorem d4_36 : decode prog_1_method_5_code 36 = .ok (.l2i, 1) := by decide +kernel
theorem d4_37 : decode prog_1_method_5_code 37 = .ok (.lushr, 1) := by decide +kernel
theorem d4_38 : decode prog_1_method_5_code 38 = .ok (.lstore 9, 2) := by decide +kernel
theorem d4_40 : decode prog_1_method_5_code 40 = .ok (.iload 5, 2) := by decide +kernel
theorem d4_42 : decode prog_1_method_5_code 42 = .ok (.iload 6, 2) := by decide +kernel
theorem d4_44 : decode prog_1_method_5_code 44 = .ok (.if_icmp .ne 21, 3) := by decide +kernel
theorem d4_47 : decode prog_1_method_5_code 47 = .ok (.aload_n 0, 1) := by decide +kernel
theorem d4_48 : decode prog_1_method_5_code 48 = .ok (.getfield 15, 3) := by decide +kernel
theorem d4_51 : decode prog_1_method_5_code 51 = .ok (.iload 5, 2) := by decide +kernel
theorem d4_53 : decode prog_1_method_5_code 53 = .ok (.dup2, 1) := by decide +kernel
theorem d4_54 : decode prog_1_method_5_code 54 = .ok (.laload, 1) := by decide +kernel
theorem d4_55 : decode prog_1_method_5_code 55 = .ok (.lload 7, 2) := by decide +kernel
theorem d4_57 : decode prog_1_method_5_code 57 = .ok (.lload 9, 2) := by decide +kernel
theorem d4_59 : decode prog_1_method_5_code 59 = .ok (.land, 1) := by decide +kernel
theorem d4_60 : decode prog_1_method_5_code 60 = .ok (.lor, 1) := by decide +kernel
theorem d4_61 : decode prog_1_method_5_code 61 = .ok (.lastore, 1) := by decide +kernel
theorem d4_62 : decode prog_1_method_5_code 62 = .ok (.goto 43, 3) := by decide +kernel
theorem d4_65 : decode prog_1_method_5_code 65 = .ok (.aload_n 0, 1) := by decide +kernel
theorem d4_66 : decode prog_1_method_5_code 66 = .ok (.getfield 15, 3) := by decide +kernel
theorem d4_69 : decode prog_1_method_5_code 69 = .ok (.iload 5, 2) := by decide +kernel
theorem d4_71 : decode prog_1_method_5_code 71 = .ok (.dup2, 1) := by decide +kernel
theorem d4_72 : decode prog_1_method_5_code 72 = .ok (.laload, 1) := by decide +kernel
theorem d4_73 : decode prog_1_method_5_code 73 = .ok (.lload 7, 2) := by decide +kernel
theorem d4_75 : decode prog_1_method_5_code 75 = .ok (.lor, 1) := by decide +kernel
theorem d4_76 : decode prog_1_method_5_code 76 = .ok (.lastore, 1) := by decide +kernel
theorem d4_77 : decode prog_1_method_5_code 77 = .ok (.aload_n 0, 1) := by decide +kernel
theorem d4_78 : decode prog_1_method_5_code 78 = .ok (.getfield 15, 3) := by decide +kernel
theorem d4_81 : decode prog_1_method_5_code 81 = .ok (.iload 5, 2) := by decide +kernel
theorem d4_83 : decode prog_1_method_5_code 83 = .ok (.iconst 1, 1) := by decide +kernel
theorem d4_84 : decode prog_1_method_5_code 84 = .ok (.iadd, 1) := by decide +kernel
theorem d4_85 : decode prog_1_method_5_code 85 = .ok (.iload 6, 2) := by decide +kernel
theorem d4_87 : decode prog_1_method_5_code 87 = .ok (.ldc2_w 19, 3) := by decide +kernel
theorem d4_90 : decode prog_1_method_5_code 90 = .ok (.invokestatic 21, 3) := by decide +kernel
theorem d4_93 : decode prog_1_method_5_code 93 = .ok (.aload_n 0, 1) := by decide +kernel
theorem d4_94 : decode prog_1_method_5_code 94 = .ok (.getfield 15, 3) := by decide +kernel
theorem d4_97 : decode prog_1_method_5_code 97 = .ok (.iload 6, 2) := by decide +kernel
theorem d4_99 : decode prog_1_method_5_code 99 = .ok (.dup2, 1) := by decide +kernel
theorem d4_100 : decode prog_1_method_5_code 100 = .ok (.laload, 1) := by decide +kernel
theorem d4_101 : decode prog_1_method_5_code 101 = .ok (.lload 9, 2) := by decide +kernel
theorem d4_103 : decode prog_1_method_5_code 103 = .ok (.lor, 1) := by decide +kernel
theorem d4_104 : decode prog_1_method_5_code 104 = .ok (.lastore, 1) := by decide +kernel
theorem d4_105 : decode prog_1_method_5_code 105 = .ok (.return_, 1) := by decide +kernel
set_option maxRecDepth 65536 in
set_option maxHeartbeats 40000000 in
theorem rm4 (l : Launch) (Z : State) (a0 : Array Value) (hw : ∀ d ∈ tables_1, d.before a0 Z = true) (a t : Addr) (q1 q3 : Int64) (fr to M : Nat) (f : Nat → Int64) (h0 : Heap) (n0 : Nat) (Z0 : n0 ≤ h0.size) (hf : q1.toInt = fr) (ht : q3.toInt = to) (ht1 : to ≤ 64 * M) (ht2 : to ≤ 256) (hf2 : fr ≤ 256) (hM : M ≤ 4) (na : a ≠ t) (gt : n0 ≤ t) (F_words : Fld Z h0 a "com/example/heavyhitter/heavyhitter/BitArray" "words" "[J" (.ref t)) (A_t : own_AJ Z h0 t M f) :
    own_C l Z (⟨"com/example/heavyhitter/heavyhitter/BitArray", "set", "(JJ)V"⟩ : MethodName) prog_1_method_5_code 11 none [] ({ frames := 2, cells := 0, slots := 0, locals := 36 } : Room) #[(.ref a), (.long q1), (.long q3)] h0 (fun v h L => ∃ g, v = none ∧ (∀ b, own_bit g b = (decide (fr ≤ b ∧ b < to) || own_bit f b)) ∧ Fr n0 L ∧ Keep h0 h [t] ∧ Fld Z h a "com/example/heavyhitter/heavyhitter/BitArray" "words" "[J" (.ref t) ∧ own_AJ Z h t M g) := by
  refine own_body (by first | (simp [plainName, overriddenIn]; done) | decide +kernel) ?_
  intro p e s m below meth c T0 hx hby hml hown hnm hret hlk hZ X0 e0
  have N0 := Fr.nil n0
  refine own_eq (f' := (mkF m 0 #[.val (.ref a), .val (.long q1), .second, .val (.long q3), .second, .unset, .unset, .unset, .unset, .unset, .unset] [])) (by first | (simp [entryFrame, mkF, argsToLocals, Value.category]; done) | rfl) ?_
  refine own_lloadN X0 hx 1 (hb hby d4_0) rfl rfl ?_
  refine own_lloadN X0 hx 2 (hb hby d4_1) rfl rfl ?_
  refine own_lif_lt X0 hx 3 7 6 (hb hby d4_2) rfl (hb hby d4_3) (by decide) (by decide) rfl (fun h1 => ?_) (fun h1 => ?_)
  · show own_W p e below _ T0 (mkF m 7 #[.val (.ref a), .val (.long q1), .second, .val (.long q3), .second, .unset, .unset, .unset, .unset, .unset, .unset] [])
    refine own_lloadN X0 hx 8 (hb hby d4_7) rfl rfl ?_
    refine own_bipush X0 hx 10 (6 : Int32) (by decide) (hb hby d4_8) rfl ?_
    refine own_lushr X0 hx 11 (hb hby d4_10) rfl ?_
    refine own_l2i X0 hx 12 (hb hby d4_11) rfl ?_
    obtain ⟨v1, e_v1⟩ : ∃ z : Int32, z = (((q1.toUInt64 >>> ((6 : Int32) &&& 0x3f).toInt64.toUInt64).toInt64).toInt32) := ⟨_, rfl⟩
    refine own_istore X0 hx 14 #[.val (.ref a), .val (.long q1), .second, .val (.long q3), .second, .val (.int v1), .unset, .unset, .unset, .unset, .unset] e_v1 (hb hby d4_12) rfl rfl ?_
    refine own_lloadN X0 hx 15 (hb hby d4_14) rfl rfl ?_
    refine own_lconst X0 hx 16 (1 : Int64) (by decide) (hb hby d4_15) rfl ?_
    refine own_lsub X0 hx 17 (hb hby d4_16) rfl ?_
    refine own_bipush X0 hx 19 (6 : Int32) (by decide) (hb hby d4_17) rfl ?_
    refine own_lushr X0 hx 20 (hb hby d4_19) rfl ?_
    refine own_l2i X0 hx 21 (hb hby d4_20) rfl ?_
    obtain ⟨v2, e_v2⟩ : ∃ z : Int32, z = ((((q3 - (1 : Int64)).toUInt64 >>> ((6 : Int32) &&& 0x3f).toInt64.toUInt64).toInt64).toInt32) := ⟨_, rfl⟩
    refine own_istore X0 hx 23 #[.val (.ref a), .val (.long q1), .second, .val (.long q3), .second, .val (.int v1), .val (.int v2), .unset, .unset, .unset, .unset] e_v2 (hb hby d4_21) rfl rfl ?_
    refine own_ldc2 X0 hx hZ hown 26 (hw _ (List.mem_of_getElem? (i := 31) rfl)) (hb hby d4_23) rfl ?_
    refine own_lloadN X0 hx 27 (hb hby d4_26) rfl rfl ?_
    refine own_l2i X0 hx 28 (hb hby d4_27) rfl ?_
    refine own_lshl X0 hx 29 (hb hby d4_28) rfl ?_
    refine own_lstore X0 hx 31 #[.val (.ref a), .val (.long q1), .second, .val (.long q3), .second, .val (.int v1), .val (.int v2), .val (.long ((-1 : Int64) <<< ((q1.toInt32) &&& 0x3f).toInt64)), .second, .unset, .unset] rfl (hb hby d4_29) rfl rfl ?_
    refine own_ldc2 X0 hx hZ hown 34 (hw _ (List.mem_of_getElem? (i := 31) rfl)) (hb hby d4_31) rfl ?_
    refine own_lloadN X0 hx 35 (hb hby d4_34) rfl rfl ?_
    refine own_lneg X0 hx 36 (hb hby d4_35) rfl ?_
    refine own_l2i X0 hx 37 (hb hby d4_36) rfl ?_
    refine own_lushr X0 hx 38 (hb hby d4_37) rfl ?_
    refine own_lstore X0 hx 40 #[.val (.ref a), .val (.long q1), .second, .val (.long q3), .second, .val (.int v1), .val (.int v2), .val (.long ((-1 : Int64) <<< ((q1.toInt32) &&& 0x3f).toInt64)), .second, .val (.long (((-1 : Int64).toUInt64 >>> ((((-q3)).toInt32) &&& 0x3f).toInt64.toUInt64).toInt64)), .second] rfl (hb hby d4_38) rfl rfl ?_
    have hlt := (own_lt64 _ _ _ _ hf ht).mp h1
    have hv1 := own_w1 q1 v1 fr hf (by omega) e_v1
    have hv2 := own_w1 _ v2 (to - 1) (own_dec64 q3 to ht (by omega) (by omega)) (by omega) e_v2
    refine own_iload X0 hx 42 (hb hby d4_40) rfl rfl ?_
    refine own_iload X0 hx 44 (hb hby d4_42) rfl rfl ?_
    refine own_icmp_ne X0 hx 65 47 (hb hby d4_44) (by decide) (by decide) rfl (fun h2 => ?_) (fun h2 => ?_)
    · show own_W p e below _ T0 (mkF m 65 #[.val (.ref a), .val (.long q1), .second, .val (.long q3), .second, .val (.int v1), .val (.int v2), .val (.long ((-1 : Int64) <<< ((q1.toInt32) &&& 0x3f).toInt64)), .second, .val (.long (((-1 : Int64).toUInt64 >>> ((((-q3)).toInt32) &&& 0x3f).toInt64.toUInt64).toInt64)), .second] [])
      refine own_aloadN X0 hx 66 (hb hby d4_65) rfl rfl ?_
      refine own_getF X0 hx hZ hown e0 69 (hw _ (List.mem_of_getElem? (i := 14) rfl)) F_words (hb hby d4_66) rfl (fun T3 X4 e5 => ?_)
      refine own_iload X4 hx 71 (hb hby d4_69) rfl rfl ?_
      refine own_dup2 X4 hx 72 rfl rfl (hb hby d4_71) rfl ?_
      refine own_laload X4 hx hZ e5 73 (fr / 64) A_t hv1 (by omega) (hb hby d4_72) rfl ?_
      refine own_lload X4 hx 75 (hb hby d4_73) rfl rfl ?_
      refine own_lor X4 hx 76 (hb hby d4_75) rfl ?_
      refine own_lastore X4 hx hZ e5 77 (fr / 64) A_t hv1 (by omega) (hb hby d4_76) rfl (fun T6 h7 X8 e9 W10 => ?_)
      have f11 := F_words.other W10 (Or.inl na)
      have f12 := A_t.set W10
      have Z13 : n0 ≤ h7.size := Nat.le_trans Z0 (Keep.of_wr W10).1
      have K14 := (Keep.refl h0 [t]).wr W10 (Or.inl (List.mem_of_getElem? (i := 0) rfl))
      have N15 := Fr.snoc X8 N0 gt
      refine own_aloadN X8 hx 78 (hb hby d4_77) rfl rfl ?_
      refine own_getF X8 hx hZ hown e9 81 (hw _ (List.mem_of_getElem? (i := 14) rfl)) f11 (hb hby d4_78) rfl (fun T16 X17 e18 => ?_)
      refine own_iload X17 hx 83 (hb hby d4_81) rfl rfl ?_
      refine own_iconst X17 hx 84 (1 : Int32) (by decide) (hb hby d4_83) rfl ?_
      refine own_iadd X17 hx 85 (hb hby d4_84) rfl ?_
      refine own_iload X17 hx 87 (hb hby d4_85) rfl rfl ?_
      refine own_ldc2 X17 hx hZ hown 90 (hw _ (List.mem_of_getElem? (i := 31) rfl)) (hb hby d4_87) rfl ?_
      obtain ⟨ga19, e_ga19⟩ : ∃ z : Nat → Int64, z = (fun q => if q = (fr / 64) then ((f (fr / 64)) ||| ((-1 : Int64) <<< ((q1.toInt32) &&& 0x3f).toInt64)) else f q) := ⟨_, rfl⟩
      rw [← e_ga19] at f12
      have hne : ¬ fr / 64 = (to - 1) / 64 := fun u => h2 (by rw [← Int32.toInt_inj, hv1, hv2, u])
      refine own_callS X17 hx hZ hown e18 (y := (⟨"java/util/Arrays", "fill", "([JIIJ)V"⟩ : MethodName)) (argsL := [(.ref t), (.int (v1 + (1 : Int32))), (.int v2), (.long (-1 : Int64))]) (rest := []) 93 (rm6 l Z a0 hw t (v1 + (1 : Int32)) v2 (Int32.ofNat M) (-1 : Int64) (fr / 64 + 1) ((to - 1) / 64) M ga19 h7 n0 Z13 (own_ofNat M (by omega)) (own_inc v1 _ (fr / 64) 0 hv1 (by omega) rfl) hv2 (by omega) (by omega) hM gt f12) (hw _ (List.mem_of_getElem? (i := 32) rfl)) (hw _ (List.mem_of_getElem? (i := 33) rfl)) (hw _ (List.mem_of_getElem? (i := 34) rfl)) (hw _ (List.mem_of_getElem? (i := 35) rfl)) (by decide) (by rw [hml]; rfl) (lenOf (by decide +kernel : parseMethodDescriptor "([JIIJ)V" = some ⟨[(.array .long), .int, .int, .long], none⟩) rfl) rfl (hb hby d4_90) rfl (W := 0) rfl (by decide) (by decide) (by decide) (by decide) (fun r20 T21 L22 X23 q24 => ?_)
      obtain ⟨rfl, N25q, K26, f27⟩ := q24
      have N25 := Fr.app N15 N25q
      have f28 := f11.keep K26 (ninS na nin0)
      have Z30 : n0 ≤ T21.heap.size := Nat.le_trans Z13 K26.1
      have K31 := K14.trans K26 (allS (Or.inl (List.mem_of_getElem? (i := 0) rfl)) all0)
      obtain ⟨g2, e_g2⟩ : ∃ z : Nat → Int64, z = (fun q => if fr / 64 + 1 ≤ q ∧ q < (to - 1) / 64 then (-1 : Int64) else ga19 q) := ⟨_, rfl⟩
      rw [← e_g2] at f27
      show own_W p e below _ T21 (mkF m 93 #[.val (.ref a), .val (.long q1), .second, .val (.long q3), .second, .val (.int v1), .val (.int v2), .val (.long ((-1 : Int64) <<< ((q1.toInt32) &&& 0x3f).toInt64)), .second, .val (.long (((-1 : Int64).toUInt64 >>> ((((-q3)).toInt32) &&& 0x3f).toInt64.toUInt64).toInt64)), .second] [])
      refine own_aloadN X23 hx 94 (hb hby d4_93) rfl rfl ?_
      refine own_getF X23 hx hZ hown rfl 97 (hw _ (List.mem_of_getElem? (i := 14) rfl)) f28 (hb hby d4_94) rfl (fun T32 X33 e34 => ?_)
      refine own_iload X33 hx 99 (hb hby d4_97) rfl rfl ?_
      refine own_dup2 X33 hx 100 rfl rfl (hb hby d4_99) rfl ?_
      refine own_laload X33 hx hZ e34 101 ((to - 1) / 64) f27 hv2 (by omega) (hb hby d4_100) rfl ?_
      refine own_lload X33 hx 103 (hb hby d4_101) rfl rfl ?_
      refine own_lor X33 hx 104 (hb hby d4_103) rfl ?_
      refine own_lastore X33 hx hZ e34 105 ((to - 1) / 64) f27 hv2 (by omega) (hb hby d4_104) rfl (fun T35 h36 X37 e38 W39 => ?_)
      have f40 := f28.other W39 (Or.inl na)
      have f41 := f27.set W39
      have Z42 : n0 ≤ h36.size := Nat.le_trans Z30 (Keep.of_wr W39).1
      have K43 := K31.wr W39 (Or.inl (List.mem_of_getElem? (i := 0) rfl))
      have N44 := Fr.snoc X37 N25 gt
      exact own_retV X37 hx hret hlk (hb hby d4_105) (by decide) (by decide) ⟨_, rfl, own_setB f q1 q3 fr to hf ht hlt ht2 (by omega) ga19 g2 e_ga19 e_g2, N44, by rw [e38]; exact ⟨K43, f40, f41⟩⟩
    · show own_W p e below _ T0 (mkF m 47 #[.val (.ref a), .val (.long q1), .second, .val (.long q3), .second, .val (.int v1), .val (.int v2), .val (.long ((-1 : Int64) <<< ((q1.toInt32) &&& 0x3f).toInt64)), .second, .val (.long (((-1 : Int64).toUInt64 >>> ((((-q3)).toInt32) &&& 0x3f).toInt64.toUInt64).toInt64)), .second] [])
      refine own_aloadN X0 hx 48 (hb hby d4_47) rfl rfl ?_
      refine own_getF X0 hx hZ hown e0 51 (hw _ (List.mem_of_getElem? (i := 14) rfl)) F_words (hb hby d4_48) rfl (fun T45 X46 e47 => ?_)
      refine own_iload X46 hx 53 (hb hby d4_51) rfl rfl ?_
      refine own_dup2 X46 hx 54 rfl rfl (hb hby d4_53) rfl ?_
      refine own_laload X46 hx hZ e47 55 (fr / 64) A_t hv1 (by omega) (hb hby d4_54) rfl ?_
      refine own_lload X46 hx 57 (hb hby d4_55) rfl rfl ?_
      refine own_lload X46 hx 59 (hb hby d4_57) rfl rfl ?_
      refine own_land X46 hx 60 (hb hby d4_59) rfl ?_
      refine own_lor X46 hx 61 (hb hby d4_60) rfl ?_
      refine own_lastore X46 hx hZ e47 62 (fr / 64) A_t hv1 (by omega) (hb hby d4_61) rfl (fun T48 h49 X50 e51 W52 => ?_)
      have f53 := F_words.other W52 (Or.inl na)
      have f54 := A_t.set W52
      have Z55 : n0 ≤ h49.size := Nat.le_trans Z0 (Keep.of_wr W52).1
      have K56 := (Keep.refl h0 [t]).wr W52 (Or.inl (List.mem_of_getElem? (i := 0) rfl))
      have N57 := Fr.snoc X50 N0 gt
      refine own_goto X50 hx 105 (hb hby d4_62) (by decide) (by decide) ?_
      exact own_retV X50 hx hret hlk (hb hby d4_105) (by decide) (by decide) ⟨_, rfl, own_setA f q1 q3 fr to hf ht hlt ht2 (by have := congrArg Int32.toInt h2; rw [hv1, hv2] at this; omega), N57, by rw [e51]; exact ⟨K56, f53, f54⟩⟩
  · show own_W p e below _ T0 (mkF m 6 #[.val (.ref a), .val (.long q1), .second, .val (.long q3), .second, .unset, .unset, .unset, .unset, .unset, .unset] [])
    exact own_retV X0 hx hret hlk (hb hby d4_6) (by decide) (by decide) ⟨f, rfl, fun b => by rw [decide_eq_false (by have := mt (own_lt64 _ _ _ _ hf ht).mpr h1; omega), Bool.false_or], N0, by rw [e0]; exact ⟨(Keep.refl h0 [t]), F_words, A_t⟩⟩
set_option maxRecDepth 65536 in
set_option maxHeartbeats 40000000 in
theorem rm0 (l : Launch) (Z : State) (a0 : Array Value) (hw : ∀ d ∈ tables_1, d.before a0 Z = true) (p0 : Int32) (p1 : Int32) (p2 : Int32) (p3 : Int32) (p4 : Int32) (h0 : Heap) (n0 : Nat) (Z0 : n0 ≤ h0.size)  :
    own_C l Z x code maxLocals ret tables_1 room_1 #[(.int p0), (.int p1), (.int p2), (.int p3), (.int p4)] h0 (fun v h L => v = some (.int 1) ∧ Fr n0 L) := by
  refine own_body (by first | (simp [plainName, overriddenIn]; done) | decide +kernel) ?_
  intro p e s m below meth c T0 hx hby hml hown hnm hret hlk hZ X0 e0
  have N0 := Fr.nil n0
  refine own_eq (f' := (mkF m 0 #[.val (.int p0), .val (.int p1), .val (.int p2), .val (.int p3), .val (.int p4), .unset, .unset, .unset, .unset, .unset, .unset, .unset, .unset, .unset, .unset, .unset] [])) (by first | (simp [entryFrame, mkF, argsToLocals, Value.category, maxLocals]; done) | rfl) ?_
  refine own_iconst X0 hx 1 (1 : Int32) (by decide) (hb hby at_0) rfl ?_
  refine own_iloadN X0 hx 2 (hb hby at_1) rfl rfl ?_
  refine own_sipush X0 hx 5 (255 : Int32) (by decide) (hb hby at_2) rfl ?_
  refine own_iand X0 hx 6 (hb hby at_5) rfl ?_
  refine own_iadd X0 hx 7 (hb hby at_6) rfl ?_
  obtain ⟨vn, e_vn⟩ : ∃ z : Int32, z = ((1 : Int32) + (p0 &&& (255 : Int32))) := ⟨_, rfl⟩
  refine own_istore X0 hx 9 #[.val (.int p0), .val (.int p1), .val (.int p2), .val (.int p3), .val (.int p4), .val (.int vn), .unset, .unset, .unset, .unset, .unset, .unset, .unset, .unset, .unset, .unset] e_vn (hb hby at_7) rfl rfl ?_
  obtain ⟨n, hn, hn1, hn2⟩ := own_n p0 vn e_vn
  refine own_iloadN X0 hx 10 (hb hby at_9) rfl rfl ?_
  refine own_ldc X0 hx hZ hown 12 (hw _ (List.mem_of_getElem? (i := 0) rfl)) (hb hby at_10) rfl ?_
  refine own_iand X0 hx 13 (hb hby at_12) rfl ?_
  refine own_iload X0 hx 15 (hb hby at_13) rfl rfl ?_
  refine own_irem X0 hx 16 (own_nz vn n hn hn1) (hb hby at_15) rfl ?_
  refine own_i2l X0 hx 17 (hb hby at_16) rfl ?_
  obtain ⟨vi, e_vi⟩ : ∃ z : Int64, z = (((p1 &&& (2147483647 : Int32)) % vn).toInt64) := ⟨_, rfl⟩
  refine own_lstore X0 hx 19 #[.val (.int p0), .val (.int p1), .val (.int p2), .val (.int p3), .val (.int p4), .val (.int vn), .val (.long vi), .second, .unset, .unset, .unset, .unset, .unset, .unset, .unset, .unset] e_vi (hb hby at_17) rfl rfl ?_
  refine own_iloadN X0 hx 20 (hb hby at_19) rfl rfl ?_
  refine own_ldc X0 hx hZ hown 22 (hw _ (List.mem_of_getElem? (i := 0) rfl)) (hb hby at_20) rfl ?_
  refine own_iand X0 hx 23 (hb hby at_22) rfl ?_
  refine own_iload X0 hx 25 (hb hby at_23) rfl rfl ?_
  refine own_irem X0 hx 26 (own_nz vn n hn hn1) (hb hby at_25) rfl ?_
  refine own_i2l X0 hx 27 (hb hby at_26) rfl ?_
  obtain ⟨vq, e_vq⟩ : ∃ z : Int64, z = (((p2 &&& (2147483647 : Int32)) % vn).toInt64) := ⟨_, rfl⟩
  refine own_lstore X0 hx 29 #[.val (.int p0), .val (.int p1), .val (.int p2), .val (.int p3), .val (.int p4), .val (.int vn), .val (.long vi), .second, .val (.long vq), .second, .unset, .unset, .unset, .unset, .unset, .unset] e_vq (hb hby at_27) rfl rfl ?_
  refine own_iloadN X0 hx 30 (hb hby at_29) rfl rfl ?_
  refine own_ldc X0 hx hZ hown 32 (hw _ (List.mem_of_getElem? (i := 0) rfl)) (hb hby at_30) rfl ?_
  refine own_iand X0 hx 33 (hb hby at_32) rfl ?_
  refine own_iload X0 hx 35 (hb hby at_33) rfl rfl ?_
  refine own_iconst X0 hx 36 (1 : Int32) (by decide) (hb hby at_35) rfl ?_
  refine own_iadd X0 hx 37 (hb hby at_36) rfl ?_
  refine own_irem X0 hx 38 (own_nz _ (n + 1) (own_v1 vn n hn hn2) (by omega)) (hb hby at_37) rfl ?_
  refine own_i2l X0 hx 39 (hb hby at_38) rfl ?_
  obtain ⟨vf, e_vf⟩ : ∃ z : Int64, z = (((p3 &&& (2147483647 : Int32)) % (vn + (1 : Int32))).toInt64) := ⟨_, rfl⟩
  refine own_lstore X0 hx 41 #[.val (.int p0), .val (.int p1), .val (.int p2), .val (.int p3), .val (.int p4), .val (.int vn), .val (.long vi), .second, .val (.long vq), .second, .val (.long vf), .second, .unset, .unset, .unset, .unset] e_vf (hb hby at_39) rfl rfl ?_
  refine own_iload X0 hx 43 (hb hby at_41) rfl rfl ?_
  refine own_ldc X0 hx hZ hown 45 (hw _ (List.mem_of_getElem? (i := 0) rfl)) (hb hby at_43) rfl ?_
  refine own_iand X0 hx 46 (hb hby at_45) rfl ?_
  refine own_iload X0 hx 48 (hb hby at_46) rfl rfl ?_
  refine own_iconst X0 hx 49 (1 : Int32) (by decide) (hb hby at_48) rfl ?_
  refine own_iadd X0 hx 50 (hb hby at_49) rfl ?_
  refine own_irem X0 hx 51 (own_nz _ (n + 1) (own_v1 vn n hn hn2) (by omega)) (hb hby at_50) rfl ?_
  refine own_i2l X0 hx 52 (hb hby at_51) rfl ?_
  obtain ⟨vt, e_vt⟩ : ∃ z : Int64, z = (((p4 &&& (2147483647 : Int32)) % (vn + (1 : Int32))).toInt64) := ⟨_, rfl⟩
  refine own_lstore X0 hx 54 #[.val (.int p0), .val (.int p1), .val (.int p2), .val (.int p3), .val (.int p4), .val (.int vn), .val (.long vi), .second, .val (.long vq), .second, .val (.long vf), .second, .val (.long vt), .second, .unset, .unset] e_vt (hb hby at_52) rfl rfl ?_
  obtain ⟨i, hi, hi'⟩ := own_ix p1 _ n hn (by omega) vi e_vi
  obtain ⟨q, hq, hq'⟩ := own_ix p2 _ n hn (by omega) vq e_vq
  obtain ⟨fr, hfr, hfr'⟩ := own_ix p3 _ (n + 1) (own_v1 vn n hn hn2) (by omega) vf e_vf
  obtain ⟨to, hto, hto'⟩ := own_ix p4 _ (n + 1) (own_v1 vn n hn hn2) (by omega) vt e_vt
  refine own_new X0 hx hZ hown e0 57 (hw _ (List.mem_of_getElem? (i := 1) rfl)) (hw _ (List.mem_of_getElem? (i := 2) rfl)) (hw _ (List.mem_of_getElem? (i := 3) rfl)) (hb hby at_54) rfl (by decide) (by decide) (fun T1 h2 a3 X4 e5 g6 E7 A8 D9 => ?_)
  have ga10 : n0 ≤ a3 := by rw [g6]; exact Z0
  have Z11 : n0 ≤ h2.size := Nat.le_trans Z0 E7.1
  have f12 : Fld Z h2 a3 "com/example/heavyhitter/heavyhitter/BitArray" "size" "J" (.long (0 : Int64)) := D9 (Or.inr (hw _ (List.mem_of_getElem? (i := 11) rfl))) (ty := .long) (by decide)
  have f13 : Fld Z h2 a3 "com/example/heavyhitter/heavyhitter/BitArray" "words" "[J" .null := D9 (Or.inr (hw _ (List.mem_of_getElem? (i := 15) rfl))) (ty := (.array .long)) (by decide)
  refine own_dup X4 hx 58 rfl (hb hby at_57) rfl ?_
  refine own_iload X4 hx 60 (hb hby at_58) rfl rfl ?_
  refine own_i2l X4 hx 61 (hb hby at_60) rfl ?_
  refine own_callI X4 hx hZ hown e5 (y := (⟨"com/example/heavyhitter/heavyhitter/BitArray", "<init>", "(J)V"⟩ : MethodName)) (a := a3) (argsL := [(.long (vn.toInt64))]) (rest := [(.ref a3)]) 64 (rm1 l Z a0 hw a3 (vn.toInt64) n h2 n0 Z11 (by rw [c_i2l]; exact hn) hn2 ga10 A8 f12 f13) rfl (hw _ (List.mem_of_getElem? (i := 4) rfl)) (hw _ (List.mem_of_getElem? (i := 5) rfl)) (hw _ (List.mem_of_getElem? (i := 3) rfl)) (hw _ (List.mem_of_getElem? (i := 6) rfl)) (by decide) (by rw [hml]; rfl) (lenOf (by decide +kernel : parseMethodDescriptor "(J)V" = some ⟨[.long], none⟩) rfl) rfl (hb hby at_61) rfl (W := 1) rfl (by decide) (by decide) (by decide) (by decide) (fun r14 T15 L16 X17 q18 => ?_)
  obtain ⟨t19, rfl, N20q, K21, gt22, na23, f24, f25⟩ := q18
  have N20 := Fr.app N0 N20q
  have f26 := A8.keep K21
  have Z29 : n0 ≤ T15.heap.size := Nat.le_trans Z11 K21.1
  show own_W p e below _ T15 (mkF m 64 #[.val (.int p0), .val (.int p1), .val (.int p2), .val (.int p3), .val (.int p4), .val (.int vn), .val (.long vi), .second, .val (.long vq), .second, .val (.long vf), .second, .val (.long vt), .second, .unset, .unset] [(.ref a3)])
  refine own_astore X17 hx 66 #[.val (.int p0), .val (.int p1), .val (.int p2), .val (.int p3), .val (.int p4), .val (.int vn), .val (.long vi), .second, .val (.long vq), .second, .val (.long vf), .second, .val (.long vt), .second, .val (.ref a3), .unset] rfl (hb hby at_64) rfl rfl ?_
  refine own_aload X17 hx 68 (hb hby at_66) rfl rfl ?_
  refine own_lload X17 hx 70 (hb hby at_68) rfl rfl ?_
  refine own_callV X17 hx hZ hown rfl (y := (⟨"com/example/heavyhitter/heavyhitter/BitArray", "set", "(J)V"⟩ : MethodName)) (a := a3) (argsL := [(.long vi)]) (rest := []) 73 (rm3 l Z a0 hw a3 t19 vi i ((n + 63) / 64) (fun _ => 0) T15.heap n0 Z29 hi (by omega) (by omega) na23 gt22 f24 f25) f26 (hw _ (List.mem_of_getElem? (i := 16) rfl)) (hw _ (List.mem_of_getElem? (i := 17) rfl)) (hw _ (List.mem_of_getElem? (i := 19) rfl)) (hw _ (List.mem_of_getElem? (i := 18) rfl)) (hw _ (List.mem_of_getElem? (i := 3) rfl)) (hw _ (List.mem_of_getElem? (i := 20) rfl)) (by decide) (by rw [hml]; rfl) (lenOf (by decide +kernel : parseMethodDescriptor "(J)V" = some ⟨[.long], none⟩) rfl) rfl (hb hby at_70) rfl (W := 0) rfl (by decide) (by decide) (by decide) (by decide) (fun r30 T31 L32 X33 q34 => ?_)
  obtain ⟨ga, rfl, hb1, N35q, K36, f37, f38⟩ := q34
  have N35 := Fr.app N20 N35q
  have f39 := f26.keep K36
  have f40 := f24.keep K36 (ninS na23 nin0)
  have Z42 : n0 ≤ T31.heap.size := Nat.le_trans Z29 K36.1
  show own_W p e below _ T31 (mkF m 73 #[.val (.int p0), .val (.int p1), .val (.int p2), .val (.int p3), .val (.int p4), .val (.int vn), .val (.long vi), .second, .val (.long vq), .second, .val (.long vf), .second, .val (.long vt), .second, .val (.ref a3), .unset] [])
  refine own_aload X33 hx 75 (hb hby at_73) rfl rfl ?_
  refine own_lload X33 hx 77 (hb hby at_75) rfl rfl ?_
  refine own_lload X33 hx 79 (hb hby at_77) rfl rfl ?_
  refine own_callV X33 hx hZ hown rfl (y := (⟨"com/example/heavyhitter/heavyhitter/BitArray", "set", "(JJ)V"⟩ : MethodName)) (a := a3) (argsL := [(.long vf), (.long vt)]) (rest := []) 82 (rm4 l Z a0 hw a3 t19 vf vt fr to ((n + 63) / 64) ga T31.heap n0 Z42 hfr hto (by omega) (by omega) (by omega) (by omega) na23 gt22 f37 f38) f39 (hw _ (List.mem_of_getElem? (i := 21) rfl)) (hw _ (List.mem_of_getElem? (i := 22) rfl)) (hw _ (List.mem_of_getElem? (i := 24) rfl)) (hw _ (List.mem_of_getElem? (i := 23) rfl)) (hw _ (List.mem_of_getElem? (i := 3) rfl)) (hw _ (List.mem_of_getElem? (i := 25) rfl)) (by decide) (by rw [hml]; rfl) (lenOf (by decide +kernel : parseMethodDescriptor "(JJ)V" = some ⟨[.long, .long], none⟩) rfl) rfl (hb hby at_79) rfl (W := 0) rfl (by decide) (by decide) (by decide) (by decide) (fun r43 T44 L45 X46 q47 => ?_)
  obtain ⟨gb, rfl, hb2, N48q, K49, f50, f51⟩ := q47
  have N48 := Fr.app N35 N48q
  have f52 := f39.keep K49
  have f53 := f37.keep K49 (ninS na23 nin0)
  have Z55 : n0 ≤ T44.heap.size := Nat.le_trans Z42 K49.1
  show own_W p e below _ T44 (mkF m 82 #[.val (.int p0), .val (.int p1), .val (.int p2), .val (.int p3), .val (.int p4), .val (.int vn), .val (.long vi), .second, .val (.long vq), .second, .val (.long vf), .second, .val (.long vt), .second, .val (.ref a3), .unset] [])
  refine own_lload X46 hx 84 (hb hby at_82) rfl rfl ?_
  refine own_lload X46 hx 86 (hb hby at_84) rfl rfl ?_
  have J56 : ∀ (ex : Int32) (hj57 : ex = own_ex vq vi vf vt), own_W p e below (own_K s room_1 (fun v h L => v = some (.int 1) ∧ Fr n0 L)) T44 (mkF m 111 #[.val (.int p0), .val (.int p1), .val (.int p2), .val (.int p3), .val (.int p4), .val (.int vn), .val (.long vi), .second, .val (.long vq), .second, .val (.long vf), .second, .val (.long vt), .second, .val (.ref a3), .unset] [(.int ex)]) := by
    intro ex hj57
    have hex := hj57
    refine own_istore X46 hx 113 #[.val (.int p0), .val (.int p1), .val (.int p2), .val (.int p3), .val (.int p4), .val (.int vn), .val (.long vi), .second, .val (.long vq), .second, .val (.long vf), .second, .val (.long vt), .second, .val (.ref a3), .val (.int ex)] rfl (hb hby at_111) rfl rfl ?_
    refine own_aload X46 hx 115 (hb hby at_113) rfl rfl ?_
    refine own_lload X46 hx 117 (hb hby at_115) rfl rfl ?_
    refine own_callV X46 hx hZ hown rfl (y := (⟨"com/example/heavyhitter/heavyhitter/BitArray", "get", "(J)Z"⟩ : MethodName)) (a := a3) (argsL := [(.long vq)]) (rest := []) 120 (rm5 l Z a0 hw a3 t19 vq q ((n + 63) / 64) gb T44.heap n0 Z55 hq (by omega) (by omega) na23 gt22 f50 f51) f52 (hw _ (List.mem_of_getElem? (i := 26) rfl)) (hw _ (List.mem_of_getElem? (i := 27) rfl)) (hw _ (List.mem_of_getElem? (i := 29) rfl)) (hw _ (List.mem_of_getElem? (i := 28) rfl)) (hw _ (List.mem_of_getElem? (i := 3) rfl)) (hw _ (List.mem_of_getElem? (i := 30) rfl)) (by decide) (by rw [hml]; rfl) (lenOf (by decide +kernel : parseMethodDescriptor "(J)Z" = some ⟨[.long], some .boolean⟩) rfl) rfl (hb hby at_117) rfl (W := 0) rfl (by decide) (by decide) (by decide) (by decide) (fun r58 T59 L60 X61 q62 => ?_)
    obtain ⟨rfl, N63q, e64⟩ := q62
    have N63 := Fr.app N48 N63q
    show own_W p e below _ T59 (mkF m 120 #[.val (.int p0), .val (.int p1), .val (.int p2), .val (.int p3), .val (.int p4), .val (.int vn), .val (.long vi), .second, .val (.long vq), .second, .val (.long vf), .second, .val (.long vt), .second, .val (.ref a3), .val (.int ex)] [(.int (if own_bit gb q = false then 0 else 1))])
    refine own_iload X61 hx 122 (hb hby at_120) rfl rfl ?_
    refine own_icmp_ne X61 hx 139 125 (hb hby at_122) (by decide) (by decide) rfl (fun h65 => ?_) (fun h65 => ?_)
    · exact absurd ((own_p1 q i fr to vq vi vf vt hq hi hfr hto ga gb hb1 hb2).trans hex.symm) h65
    · show own_W p e below _ T59 (mkF m 125 #[.val (.int p0), .val (.int p1), .val (.int p2), .val (.int p3), .val (.int p4), .val (.int vn), .val (.long vi), .second, .val (.long vq), .second, .val (.long vf), .second, .val (.long vt), .second, .val (.ref a3), .val (.int ex)] [])
      refine own_aload X61 hx 127 (hb hby at_125) rfl rfl ?_
      refine own_lload X61 hx 129 (hb hby at_127) rfl rfl ?_
      refine own_callV X61 hx hZ hown e64 (y := (⟨"com/example/heavyhitter/heavyhitter/BitArray", "get", "(J)Z"⟩ : MethodName)) (a := a3) (argsL := [(.long vi)]) (rest := []) 132 (rm5 l Z a0 hw a3 t19 vi i ((n + 63) / 64) gb T44.heap n0 Z55 hi (by omega) (by omega) na23 gt22 f50 f51) f52 (hw _ (List.mem_of_getElem? (i := 26) rfl)) (hw _ (List.mem_of_getElem? (i := 27) rfl)) (hw _ (List.mem_of_getElem? (i := 29) rfl)) (hw _ (List.mem_of_getElem? (i := 28) rfl)) (hw _ (List.mem_of_getElem? (i := 3) rfl)) (hw _ (List.mem_of_getElem? (i := 30) rfl)) (by decide) (by rw [hml]; rfl) (lenOf (by decide +kernel : parseMethodDescriptor "(J)Z" = some ⟨[.long], some .boolean⟩) rfl) rfl (hb hby at_129) rfl (W := 0) rfl (by decide) (by decide) (by decide) (by decide) (fun r66 T67 L68 X69 q70 => ?_)
      obtain ⟨rfl, N71q, e72⟩ := q70
      have N71 := Fr.app N63 N71q
      show own_W p e below _ T67 (mkF m 132 #[.val (.int p0), .val (.int p1), .val (.int p2), .val (.int p3), .val (.int p4), .val (.int vn), .val (.long vi), .second, .val (.long vq), .second, .val (.long vf), .second, .val (.long vt), .second, .val (.ref a3), .val (.int ex)] [(.int (if own_bit gb i = false then 0 else 1))])
      refine own_if_eq X69 hx 139 135 (hb hby at_132) (by decide) (by decide) rfl (fun h73 => ?_) (fun h73 => ?_)
      · exact absurd h73 (own_p2 i fr to ga gb hb1 hb2)
      · show own_W p e below _ T67 (mkF m 135 #[.val (.int p0), .val (.int p1), .val (.int p2), .val (.int p3), .val (.int p4), .val (.int vn), .val (.long vi), .second, .val (.long vq), .second, .val (.long vf), .second, .val (.long vt), .second, .val (.ref a3), .val (.int ex)] [])
        refine own_iconst X69 hx 136 (1 : Int32) (by decide) (hb hby at_135) rfl ?_
        refine own_goto X69 hx 140 (hb hby at_136) (by decide) (by decide) ?_
        exact own_retZ X69 hx (1 : Int32) (by decide) hret hlk (hb hby at_140) (by decide) (by decide) ⟨rfl, N71⟩
  refine own_lif_eq X46 hx 87 106 90 (hb hby at_86) rfl (hb hby at_87) (by decide) (by decide) rfl (fun h74 => ?_) (fun h74 => ?_)
  · show own_W p e below _ T44 (mkF m 106 #[.val (.int p0), .val (.int p1), .val (.int p2), .val (.int p3), .val (.int p4), .val (.int vn), .val (.long vi), .second, .val (.long vq), .second, .val (.long vf), .second, .val (.long vt), .second, .val (.ref a3), .unset] [])
    refine own_iconst X46 hx 107 (1 : Int32) (by decide) (hb hby at_106) rfl ?_
    refine own_goto X46 hx 111 (hb hby at_107) (by decide) (by decide) ?_
    exact J56 (1 : Int32) (by unfold own_ex; simp [h74])
  · show own_W p e below _ T44 (mkF m 90 #[.val (.int p0), .val (.int p1), .val (.int p2), .val (.int p3), .val (.int p4), .val (.int vn), .val (.long vi), .second, .val (.long vq), .second, .val (.long vf), .second, .val (.long vt), .second, .val (.ref a3), .unset] [])
    refine own_lload X46 hx 92 (hb hby at_90) rfl rfl ?_
    refine own_lload X46 hx 94 (hb hby at_92) rfl rfl ?_
    refine own_lif_gt X46 hx 95 110 98 (hb hby at_94) rfl (hb hby at_95) (by decide) (by decide) rfl (fun h75 => ?_) (fun h75 => ?_)
    · show own_W p e below _ T44 (mkF m 110 #[.val (.int p0), .val (.int p1), .val (.int p2), .val (.int p3), .val (.int p4), .val (.int vn), .val (.long vi), .second, .val (.long vq), .second, .val (.long vf), .second, .val (.long vt), .second, .val (.ref a3), .unset] [])
      refine own_iconst X46 hx 111 (0 : Int32) (by decide) (hb hby at_110) rfl ?_
      exact J56 (0 : Int32) (by unfold own_ex; simp [h74, h75])
    · show own_W p e below _ T44 (mkF m 98 #[.val (.int p0), .val (.int p1), .val (.int p2), .val (.int p3), .val (.int p4), .val (.int vn), .val (.long vi), .second, .val (.long vq), .second, .val (.long vf), .second, .val (.long vt), .second, .val (.ref a3), .unset] [])
      refine own_lload X46 hx 100 (hb hby at_98) rfl rfl ?_
      refine own_lload X46 hx 102 (hb hby at_100) rfl rfl ?_
      refine own_lif_ge X46 hx 103 110 106 (hb hby at_102) rfl (hb hby at_103) (by decide) (by decide) rfl (fun h76 => ?_) (fun h76 => ?_)
      · show own_W p e below _ T44 (mkF m 110 #[.val (.int p0), .val (.int p1), .val (.int p2), .val (.int p3), .val (.int p4), .val (.int vn), .val (.long vi), .second, .val (.long vq), .second, .val (.long vf), .second, .val (.long vt), .second, .val (.ref a3), .unset] [])
        refine own_iconst X46 hx 111 (0 : Int32) (by decide) (hb hby at_110) rfl ?_
        exact J56 (0 : Int32) (by unfold own_ex; simp [h74, h75, h76])
      · show own_W p e below _ T44 (mkF m 106 #[.val (.int p0), .val (.int p1), .val (.int p2), .val (.int p3), .val (.int p4), .val (.int vn), .val (.long vi), .second, .val (.long vq), .second, .val (.long vf), .second, .val (.long vt), .second, .val (.ref a3), .unset] [])
        refine own_iconst X46 hx 107 (1 : Int32) (by decide) (hb hby at_106) rfl ?_
        refine own_goto X46 hx 111 (hb hby at_107) (by decide) (by decide) ?_
        exact J56 (1 : Int32) (by unfold own_ex; simp [h74, h75, h76])
set_option maxRecDepth 65536 in
set_option maxHeartbeats 40000000 in
theorem comes_1 {Post : Tables → Env → Array Value → State → Outcome → State → Prop} (hpost : ∀ tb e args s v u, (limb_1_1.after args s (.returned v) u = true ∧ limb_1_2.after args s (.returned v) u = true ∧ True) → FrameEnd s (.returned v) u (Jvm.fieldLocs frame_1_writes args s ++ Jvm.arrayLocs frame_1_arrays args s ++ Jvm.staticLocs frame_1_statics s) 16 128 → Post tb e args s (.returned v) u) :
    ArmFor flags0 classFile x code maxLocals ret World_1 tables_1 room_1 Calls_1 rest_1 Pre_1 Post := by
  intro l hfl _ _ p e ha hc hk s m args below hf hA hF happ hP
  obtain ⟨hcalls, hrest, hpre⟩ := hP
  obtain ⟨-, -, -, hnamed, -, -, -, hat⟩ := (Spec.applies_iff hf).mp happ
  obtain ⟨hg, hn⟩ := and_e (Cond.before_iff.mp (show (Jvm.Cond.and given_1 narrow_1).before args s = true from hpre))
  obtain ⟨g0, gr0⟩ := and_e hg
  obtain ⟨g1, gr1⟩ := and_e gr0
  obtain ⟨g2, gr2⟩ := and_e gr1
  obtain ⟨g3, gr3⟩ := and_e gr2
  obtain ⟨g4, gr4⟩ := and_e gr3
  obtain ⟨w0, w1, w2, w3, w4, rfl⟩ : ∃ w0 w1 w2 w3 w4 : Value, args = #[w0, w1, w2, w3, w4] := by
    have hs : args.size = 5 := by simpa [Cond.value, given_1] using g0
    obtain ⟨L⟩ := args
    match L, hs with
    | [w0, w1, w2, w3, w4], _ => exact ⟨w0, w1, w2, w3, w4, rfl⟩
  have hw := fun d (hd : d ∈ tables_1) => atoms_spec (ws := Jvm.Cond.code x code maxLocals ret :: tables_1) hat d (List.mem_cons_of_mem _ hd)
  obtain ⟨i0, ei0⟩ := is_v g1
  obtain rfl : w0 = (.int i0) := Option.some.inj ei0
  obtain ⟨i1, ei1⟩ := is_v g2
  obtain rfl : w1 = (.int i1) := Option.some.inj ei1
  obtain ⟨i2, ei2⟩ := is_v g3
  obtain rfl : w2 = (.int i2) := Option.some.inj ei2
  obtain ⟨i3, ei3⟩ := is_v g4
  obtain rfl : w3 = (.int i3) := Option.some.inj ei3
  obtain ⟨i4, ei4⟩ := is_v gr4
  obtain rfl : w4 = (.int i4) := Option.some.inj ei4
  obtain ⟨n, o, h1, h2, h3, _, L, rfl, ⟨rfl, N⟩, hq⟩ := rm0 l s _ hw i0 i1 i2 i3 i4 s.heap s.heap.size (Nat.le_refl _) p e ha hc hk s m _ below hf ((Spec.applies_iff_loose hf).mp happ).1 ⟨rfl, State.Warmed39.refl s, rfl⟩ trivial
  refine ⟨n, _, h1, h2, h3, hpost _ _ _ _ _ _ ⟨Cond.after_iff.mpr rfl, Cond.after_iff.mpr (eq_i res_at (Term.int_eval (1)) rfl), trivial⟩ ⟨hq.1, hq.2.1, (hq.2.2.sift fun y hy => Or.inr (N y hy)).mono (by decide) (by decide)⟩⟩
theorem main_1_1 : Claimed_1_1 := comes_1 fun _ _ _ _ _ _ h hF => ⟨h.1, hF⟩
theorem main_1_2 : Claimed_1_2 := comes_1 fun _ _ _ _ _ _ h hF => ⟨h.2.1, hF⟩
end Jvm.Pilot.@@N@@
namespace Jvm.Pilot.@@N@@
open Jvm Jvm.ClassFile Sem Op Lib Jvm.Free Jvm.Stand Jvm.Pilot.@@N@@.Jvm.D
/-! MADE BY PROGRAM (witnessworld.py) out of the Statement's table words and the real class files: 12 classes; the members and pool entries that the words name. The judged class is class 1, her method 1. -/
namespace start1
open Jvm.ClassFile
def u (s : String) : CpInfo := .utf8 (stringToUtf16 s)
/-- a pool by its gaps: so many unusable entries, then the entry; so many at the end -/
def gap : Nat → List CpInfo → List CpInfo
  | 0, r => r
  | n + 1, r => .unusable :: gap n r
def poolList (es : List (Nat × CpInfo)) (last : Nat) : List CpInfo := es.foldr (fun e r => gap e.1 (e.2 :: r)) (gap last [])
def pool (es : List (Nat × CpInfo)) (last : Nat) : Array CpInfo := ⟨poolList es last⟩
def fileOf (pool : Array CpInfo) (this : Nat) (attrs : Array Attribute := #[]) (ms : Array MethodInfo := #[]) (fl : Nat := 33) (sup : Nat := 0) (ifs : Array Nat := #[]) (fds : Array FieldInfo := #[]) : ClassFile where
  minorVersion := 0
  majorVersion := 65
  constantPool := pool
  accessFlags := fl
  thisClass := this
  superClass := sup
  interfaces := ifs
  fields := fds
  methods := ms
  attributes := attrs
def plain (name : String) (sup : Option ClassId) : Class where
  name := name
  kind := .ordinary
  loader := none
  accessFlags := 33
  super := sup
  interfaces := #[]
  cf := none
  fields := #[]
  methods := #[]
  instanceTypes := #[]
  staticTypes := #[]
  resolved := #[]
  callSites := []
  init := .initialized
  statics := none
  mirror := none

def pool0 : Array CpInfo := pool [(5, u "<init>"), (0, u "()V"), (1, .class_ 10), (1, u "java/lang/Object")] 113

def k0c0 : Code := { maxStack := 0, maxLocals := 1, code := object_method_1_code, exceptionTable := #[], attributes := #[] }
def k0m0 : Method := { name := "<init>", desc := "()V", sig := { parameters := [], returnType := none }, accessFlags := 1, code := some k0c0 }
/-- java/lang/Object -/
def k0 : Class := { plain "java/lang/Object" none with
  accessFlags := 33
  interfaces := #[]
  cf := some (fileOf pool0 8 #[] #[{ accessFlags := 1, nameIndex := 5, descriptorIndex := 6, attributes := #[] }] 33 0 #[] #[])
  fields := #[]
  methods := #[k0m0]
  instanceTypes := #[]
  staticTypes := #[]
  resolved := Array.replicate 124 none
  statics := none }

def pool1 : Array CpInfo := pool [(2, .class_ 4), (1, u "java/lang/Object"), (0, u "<init>"), (0, u "()V"), (0, .integer 2147483647), (0, .class_ 9), (0, u "com/example/heavyhitter/heavyhitter/BitArray"), (0, .methodref 8 11), (0, .nameAndType 5 12), (0, u "(J)V"), (0, .methodref 8 14), (0, .nameAndType 15 12), (0, u "set"), (0, .methodref 8 17), (0, .nameAndType 15 18), (0, u "(JJ)V"), (0, .methodref 8 20), (0, .nameAndType 21 22), (0, u "get"), (0, u "(J)Z"), (0, .class_ 24), (0, u "com/example/heavyhitter/heavyhitter/BitArrayGetPinLaw"), (2, u "law"), (0, u "(IIIII)Z")] 3

def k1m0 : Method := { name := "<init>", desc := "()V", sig := { parameters := [], returnType := none }, accessFlags := 1, code := none }
def k1c1 : Code := { maxStack := 5, maxLocals := 16, code := code, exceptionTable := #[], attributes := #[] }
def k1m1 : Method := { name := "law", desc := "(IIIII)Z", sig := { parameters := [.int, .int, .int, .int, .int], returnType := some .boolean }, accessFlags := 9, code := some k1c1 }
/-- com/example/heavyhitter/heavyhitter/BitArrayGetPinLaw -/
def k1 : Class := { plain "com/example/heavyhitter/heavyhitter/BitArrayGetPinLaw" (some 0) with
  accessFlags := 49
  interfaces := #[]
  cf := some (fileOf pool1 23 #[] #[{ accessFlags := 1, nameIndex := 5, descriptorIndex := 6, attributes := #[] }, { accessFlags := 9, nameIndex := 27, descriptorIndex := 28, attributes := #[] }] 49 2 #[] #[])
  fields := #[]
  methods := #[k1m0, k1m1]
  instanceTypes := #[]
  staticTypes := #[]
  resolved := Array.replicate 32 none
  statics := none }

def pool2 : Array CpInfo := pool [(1, .methodref 2 3), (0, .class_ 4), (0, .nameAndType 5 6), (0, u "java/lang/Object"), (0, u "<init>"), (0, u "()V"), (0, .fieldref 8 9), (0, .class_ 10), (0, .nameAndType 11 12), (0, u "com/example/heavyhitter/heavyhitter/BitArray"), (0, u "size"), (0, u "J"), (0, .long 63), (1, .fieldref 8 16), (0, .nameAndType 17 18), (0, u "words"), (0, u "[J"), (0, .long 18446744073709551615), (1, .methodref 22 23), (0, .class_ 24), (0, .nameAndType 25 26), (0, u "java/util/Arrays"), (0, u "fill"), (0, u "([JIIJ)V"), (53, u "(J)V"), (8, u "get"), (14, u "set"), (0, u "(J)Z"), (1, u "(JJ)V")] 11

def k2c0 : Code := { maxStack := 5, maxLocals := 3, code := prog_1_method_1_code, exceptionTable := #[], attributes := #[] }
def k2m0 : Method := { name := "<init>", desc := "(J)V", sig := { parameters := [.long], returnType := none }, accessFlags := 0, code := some k2c0 }
def k2c1 : Code := { maxStack := 8, maxLocals := 3, code := prog_1_method_3_code, exceptionTable := #[], attributes := #[] }
def k2m1 : Method := { name := "set", desc := "(J)V", sig := { parameters := [.long], returnType := none }, accessFlags := 0, code := some k2c1 }
def k2c2 : Code := { maxStack := 6, maxLocals := 3, code := prog_1_method_4_code, exceptionTable := #[], attributes := #[] }
def k2m2 : Method := { name := "get", desc := "(J)Z", sig := { parameters := [.long], returnType := some .boolean }, accessFlags := 0, code := some k2c2 }
def k2c3 : Code := { maxStack := 8, maxLocals := 11, code := prog_1_method_5_code, exceptionTable := #[], attributes := #[] }
def k2m3 : Method := { name := "set", desc := "(JJ)V", sig := { parameters := [.long, .long], returnType := none }, accessFlags := 0, code := some k2c3 }
/-- com/example/heavyhitter/heavyhitter/BitArray -/
def k2 : Class := { plain "com/example/heavyhitter/heavyhitter/BitArray" (some 0) with
  accessFlags := 48
  interfaces := #[]
  cf := some (fileOf pool2 8 #[] #[{ accessFlags := 0, nameIndex := 5, descriptorIndex := 80, attributes := #[] }, { accessFlags := 0, nameIndex := 104, descriptorIndex := 80, attributes := #[] }, { accessFlags := 0, nameIndex := 89, descriptorIndex := 105, attributes := #[] }, { accessFlags := 0, nameIndex := 104, descriptorIndex := 107, attributes := #[] }] 48 2 #[] #[{ accessFlags := 18, nameIndex := 11, descriptorIndex := 12, attributes := #[] }, { accessFlags := 18, nameIndex := 17, descriptorIndex := 18, attributes := #[] }])
  fields := #[{ name := "size", type := .long, accessFlags := 18, slot := 0, constantValue := 0 }, { name := "words", type := (.array .long), accessFlags := 18, slot := 1, constantValue := 0 }]
  methods := #[k2m0, k2m1, k2m2, k2m3]
  instanceTypes := #[.long, (.array .long)]
  staticTypes := #[]
  resolved := Array.replicate 119 none
  statics := none }

def pool3 : Array CpInfo := pool [(2, .class_ 4), (1, u "java/lang/Object"), (0, u "<init>"), (0, u "()V"), (6, .methodref 14 15), (0, .class_ 16), (0, .nameAndType 17 18), (0, u "java/util/Arrays"), (0, u "rangeCheck"), (0, u "(III)V"), (55, .class_ 76), (1, u "java/util/Arrays$NaturalOrder"), (36, .class_ 115), (1, u "java/util/Arrays$LegacyMergeSort"), (1, u "Z"), (257, .class_ 376), (0, u "java/util/Arrays$ArrayList"), (68, u "$assertionsDisabled"), (269, u "MIN_ARRAY_SORT_GRAN"), (0, u "I"), (2, u "INSERTIONSORT_THRESHOLD"), (120, u "fill"), (3, u "([JIIJ)V"), (130, .class_ 976), (0, u "java/util/Arrays$ArrayItr")] 52

def k3m0 : Method := { name := "<init>", desc := "()V", sig := { parameters := [], returnType := none }, accessFlags := 2, code := none }
def k3c1 : Code := { maxStack := 4, maxLocals := 3, code := jdk_65_method_30_code, exceptionTable := #[], attributes := #[] }
def k3m1 : Method := { name := "rangeCheck", desc := "(III)V", sig := { parameters := [.int, .int, .int], returnType := none }, accessFlags := 8, code := some k3c1 }
def k3c2 : Code := { maxStack := 4, maxLocals := 6, code := jdk_65_method_102_code, exceptionTable := #[], attributes := #[] }
def k3m2 : Method := { name := "fill", desc := "([JIIJ)V", sig := { parameters := [(.array .long), .int, .int, .long], returnType := none }, accessFlags := 9, code := some k3c2 }
/-- java/util/Arrays -/
def k3 : Class := { plain "java/util/Arrays" (some 0) with
  accessFlags := 49
  interfaces := #[]
  cf := some (fileOf pool3 14 #[.nestMembers #[975, 375, 113, 74]] #[{ accessFlags := 2, nameIndex := 5, descriptorIndex := 6, attributes := #[] }, { accessFlags := 8, nameIndex := 17, descriptorIndex := 18, attributes := #[] }, { accessFlags := 9, nameIndex := 840, descriptorIndex := 844, attributes := #[] }] 49 2 #[] #[{ accessFlags := 26, nameIndex := 715, descriptorIndex := 716, attributes := #[] }, { accessFlags := 26, nameIndex := 719, descriptorIndex := 716, attributes := #[] }, { accessFlags := 4120, nameIndex := 445, descriptorIndex := 117, attributes := #[] }])
  fields := #[{ name := "MIN_ARRAY_SORT_GRAN", type := .int, accessFlags := 26, slot := 0, constantValue := 0 }, { name := "INSERTIONSORT_THRESHOLD", type := .int, accessFlags := 26, slot := 1, constantValue := 0 }, { name := "$assertionsDisabled", type := .boolean, accessFlags := 4120, slot := 2, constantValue := 0 }]
  methods := #[k3m0, k3m1, k3m2]
  instanceTypes := #[]
  staticTypes := #[.int, .int, .boolean]
  resolved := Array.replicate 1029 none
  statics := none }

def pool4 : Array CpInfo := pool [(1, u "java/lang/Cloneable"), (0, .class_ 1), (0, u "java/lang/Object"), (0, .class_ 3)] 3

/-- java/lang/Cloneable -/
def k4 : Class := { plain "java/lang/Cloneable" (some 0) with
  accessFlags := 1537
  interfaces := #[]
  cf := some (fileOf pool4 2 #[] #[] 1537 4 #[] #[])
  fields := #[]
  methods := #[]
  instanceTypes := #[]
  staticTypes := #[]
  resolved := Array.replicate 8 none
  statics := none }

def pool5 : Array CpInfo := pool [(1, u "java/io/Serializable"), (0, .class_ 1), (0, u "java/lang/Object"), (0, .class_ 3)] 3

/-- java/io/Serializable -/
def k5 : Class := { plain "java/io/Serializable" (some 0) with
  accessFlags := 1537
  interfaces := #[]
  cf := some (fileOf pool5 2 #[] #[] 1537 4 #[] #[])
  fields := #[]
  methods := #[]
  instanceTypes := #[]
  staticTypes := #[]
  resolved := Array.replicate 8 none
  statics := none }

/-- the primitive byte -/
def k6 : Class := { plain "byte" none with kind := .primitive 'B', accessFlags := 0x411 }
/-- [B -/
def k7 : Class := { plain "[B" (some 0) with kind := .array 6 .byte, interfaces := #[4, 5], accessFlags := 1041 }

/-- the primitive int -/
def k8 : Class := { plain "int" none with kind := .primitive 'I', accessFlags := 0x411 }
/-- [I -/
def k9 : Class := { plain "[I" (some 0) with kind := .array 8 .int, interfaces := #[4, 5], accessFlags := 1041 }

/-- the primitive long -/
def k10 : Class := { plain "long" none with kind := .primitive 'J', accessFlags := 0x411 }
/-- [J -/
def k11 : Class := { plain "[J" (some 0) with kind := .array 10 .long, interfaces := #[4, 5], accessFlags := 1041 }

def heap : Heap := #[]
def classes : Array Class := #[k0, k1, k2, k3, k4, k5, k6, k7, k8, k9, k10, k11]
def interned : List (Array UInt16 × Addr) := []
def slotsUsed : Nat := 0
def theMethod : MethodId := ⟨1, 1⟩
def args0 : Array Value := #[.int 7, .int 8, .int 9, .int 1, .int 5]
def aboutOver (below : List Frame) : State where
  vm := { classes := classes, interned := interned.toArray }
  heap := heap
  slotsUsed := slotsUsed
  threads := #[{ frames := .invoking theMethod args0 :: below }]
def below0 : List Frame := [.native { method := ⟨0, 0⟩, args := #[] }]
def about1 : State := aboutOver below0
def p0 : Program := .bare "" "" ""
def e0 : Env := launch0.env 0 0 0
theorem w_frames : about1.frames = Frame.invoking theMethod args0 :: below0 := rfl
set_option maxRecDepth 65536 in
theorem w_args : argsFit about1.vm theMethod args0 = true := by decide +kernel
set_option maxRecDepth 65536 in
theorem w_heap : heapFits about1 = true := by decide +kernel
set_option maxRecDepth 65536 in
theorem w_runnable : about1.curStatus? = some .runnable := by decide +kernel
set_option maxRecDepth 65536 in
theorem w_alone : about1.alone = true := by decide +kernel
set_option maxRecDepth 65536 in
theorem w_named : about1.methodNamed? x = some theMethod := by decide +kernel
set_option maxRecDepth 65536 in
theorem w_hears : about1.hears theMethod below0 = true := by decide +kernel
set_option maxRecDepth 65536 in
theorem w_ripe : about1.ripe theMethod args0 below0 = true := by decide +kernel
theorem w_running : about1.status = .running := rfl
set_option maxRecDepth 65536 in
theorem w_room : about1.hasRoom e0.platform room_1 = true :=
  launch0.hasRoom_least _ room_1 (by decide +kernel) (by decide +kernel) (by decide +kernel) (by decide +kernel) (by decide +kernel) (by decide +kernel)
theorem allAtoms_all (ts : List Jvm.Cond) (a : Array Jvm.Value) (st : Jvm.State) : (allAtoms ts).before a st = ts.all (fun c => c.before a st) := by
  induction ts with
  | nil => rfl
  | cons c t ih =>
    show (Jvm.Cond.and c (allAtoms t)).before a st = _
    rw [Jvm.Cond.before_and, ih, List.all_cons]
def words1 : List Jvm.Cond := Jvm.Cond.code x code maxLocals ret :: tables_1
/-- a 'code' word, met by the world's own term for the bytes: nothing is compared byte by byte -/
theorem code_word {y : MethodName} {bytes : ByteArray} {mx : Nat} {rt : Option FieldType} {a : Array Value} {s : State} {m : MethodId} {meth : Method} {c : Code} (h1 : s.methodNamed? y = some m) (h2 : s.vm.method? m = some meth) (h3 : meth.code = some c) (h4 : c.code = bytes)
    (h5 : (c.maxLocals == mx && c.exceptionTable.isEmpty && decide (c.maxStack ≤ mostOperands) && decide (meth.sig.returnType = rt) && !meth.locks && decide (parseMethodDescriptor y.desc = some meth.sig)) = true) : (Jvm.Cond.code y bytes mx rt).before a s = true := by
  simp only [Bool.and_eq_true, beq_iff_eq, Bool.not_eq_true', decide_eq_true_eq] at h5
  obtain ⟨⟨⟨⟨⟨g1, g2⟩, g3⟩, g4⟩, g5⟩, g6⟩ := h5
  simp [Cond.before, Cond.holds, Cond.value, h1, h2, h3, h4, g1, g2, g3, g4, g5, g6]
def isCode : Jvm.Cond → Bool
  | .code _ _ _ _ => true
  | _ => false
theorem all_split {L : List Jvm.Cond} {P : Jvm.Cond → Bool} (h1 : L.all (fun c => isCode c || P c) = true) (h2 : ∀ c ∈ L.filter isCode, P c = true) : L.all P = true := by
  refine List.all_eq_true.mpr fun c hc => ?_
  have h := List.all_eq_true.mp h1 c hc
  rcases Bool.eq_false_or_eq_true (isCode c) with hi | hi
  · exact h2 c (List.mem_filter.mpr ⟨hc, hi⟩)
  · simpa [hi] using h
set_option maxRecDepth 65536 in
theorem w_c0 : (Jvm.Cond.code x code maxLocals ret).before args0 about1 = true := code_word (m := ⟨1, 1⟩) (meth := k1m1) (c := k1c1) (by decide +kernel) rfl rfl rfl (by decide +kernel)
set_option maxRecDepth 65536 in
theorem w_c1 : (Jvm.Cond.code ({ cls := "com/example/heavyhitter/heavyhitter/BitArray", name := "<init>", desc := "(J)V" } : Jvm.MethodName) prog_1_method_1_code (3 : Nat) (Option.none : Option Jvm.ClassFile.FieldType)).before args0 about1 = true := code_word (m := ⟨2, 0⟩) (meth := k2m0) (c := k2c0) (by decide +kernel) rfl rfl rfl (by decide +kernel)
set_option maxRecDepth 65536 in
theorem w_c2 : (Jvm.Cond.code ({ cls := "java/lang/Object", name := "<init>", desc := "()V" } : Jvm.MethodName) object_method_1_code (1 : Nat) (Option.none : Option Jvm.ClassFile.FieldType)).before args0 about1 = true := code_word (m := ⟨0, 0⟩) (meth := k0m0) (c := k0c0) (by decide +kernel) rfl rfl rfl (by decide +kernel)
set_option maxRecDepth 65536 in
theorem w_c3 : (Jvm.Cond.code ({ cls := "com/example/heavyhitter/heavyhitter/BitArray", name := "set", desc := "(J)V" } : Jvm.MethodName) prog_1_method_3_code (3 : Nat) (Option.none : Option Jvm.ClassFile.FieldType)).before args0 about1 = true := code_word (m := ⟨2, 1⟩) (meth := k2m1) (c := k2c1) (by decide +kernel) rfl rfl rfl (by decide +kernel)
set_option maxRecDepth 65536 in
theorem w_c4 : (Jvm.Cond.code ({ cls := "com/example/heavyhitter/heavyhitter/BitArray", name := "set", desc := "(JJ)V" } : Jvm.MethodName) prog_1_method_5_code (11 : Nat) (Option.none : Option Jvm.ClassFile.FieldType)).before args0 about1 = true := code_word (m := ⟨2, 3⟩) (meth := k2m3) (c := k2c3) (by decide +kernel) rfl rfl rfl (by decide +kernel)
set_option maxRecDepth 65536 in
theorem w_c5 : (Jvm.Cond.code ({ cls := "com/example/heavyhitter/heavyhitter/BitArray", name := "get", desc := "(J)Z" } : Jvm.MethodName) prog_1_method_4_code (3 : Nat) (Option.some Jvm.ClassFile.FieldType.boolean)).before args0 about1 = true := code_word (m := ⟨2, 2⟩) (meth := k2m2) (c := k2c2) (by decide +kernel) rfl rfl rfl (by decide +kernel)
set_option maxRecDepth 65536 in
theorem w_c6 : (Jvm.Cond.code ({ cls := "java/util/Arrays", name := "fill", desc := "([JIIJ)V" } : Jvm.MethodName) jdk_65_method_102_code (6 : Nat) (Option.none : Option Jvm.ClassFile.FieldType)).before args0 about1 = true := code_word (m := ⟨3, 2⟩) (meth := k3m2) (c := k3c2) (by decide +kernel) rfl rfl rfl (by decide +kernel)
set_option maxRecDepth 65536 in
theorem w_c7 : (Jvm.Cond.code ({ cls := "java/util/Arrays", name := "rangeCheck", desc := "(III)V" } : Jvm.MethodName) jdk_65_method_30_code (3 : Nat) (Option.none : Option Jvm.ClassFile.FieldType)).before args0 about1 = true := code_word (m := ⟨3, 1⟩) (meth := k3m1) (c := k3c1) (by decide +kernel) rfl rfl rfl (by decide +kernel)
def codes1 : List Jvm.Cond := [Jvm.Cond.code x code maxLocals ret, Jvm.Cond.code ({ cls := "com/example/heavyhitter/heavyhitter/BitArray", name := "<init>", desc := "(J)V" } : Jvm.MethodName) prog_1_method_1_code (3 : Nat) (Option.none : Option Jvm.ClassFile.FieldType), Jvm.Cond.code ({ cls := "java/lang/Object", name := "<init>", desc := "()V" } : Jvm.MethodName) object_method_1_code (1 : Nat) (Option.none : Option Jvm.ClassFile.FieldType), Jvm.Cond.code ({ cls := "com/example/heavyhitter/heavyhitter/BitArray", name := "set", desc := "(J)V" } : Jvm.MethodName) prog_1_method_3_code (3 : Nat) (Option.none : Option Jvm.ClassFile.FieldType), Jvm.Cond.code ({ cls := "com/example/heavyhitter/heavyhitter/BitArray", name := "set", desc := "(JJ)V" } : Jvm.MethodName) prog_1_method_5_code (11 : Nat) (Option.none : Option Jvm.ClassFile.FieldType), Jvm.Cond.code ({ cls := "com/example/heavyhitter/heavyhitter/BitArray", name := "get", desc := "(J)Z" } : Jvm.MethodName) prog_1_method_4_code (3 : Nat) (Option.some Jvm.ClassFile.FieldType.boolean), Jvm.Cond.code ({ cls := "java/util/Arrays", name := "fill", desc := "([JIIJ)V" } : Jvm.MethodName) jdk_65_method_102_code (6 : Nat) (Option.none : Option Jvm.ClassFile.FieldType), Jvm.Cond.code ({ cls := "java/util/Arrays", name := "rangeCheck", desc := "(III)V" } : Jvm.MethodName) jdk_65_method_30_code (3 : Nat) (Option.none : Option Jvm.ClassFile.FieldType)]
set_option maxRecDepth 65536 in
theorem codes_eq : words1.filter isCode = codes1 := rfl
theorem w_codes : ∀ c ∈ words1.filter isCode, c.before args0 about1 = true := by
  rw [codes_eq]
  intro c hc
  simp only [codes1, List.mem_cons, List.not_mem_nil, or_false] at hc
  rcases hc with rfl | rfl | rfl | rfl | rfl | rfl | rfl | rfl
  · exact w_c0
  · exact w_c1
  · exact w_c2
  · exact w_c3
  · exact w_c4
  · exact w_c5
  · exact w_c6
  · exact w_c7
set_option maxRecDepth 65536 in
theorem w_t1 : (words1.take 24).all (fun c => isCode c || c.before args0 about1) = true := by decide +kernel
set_option maxRecDepth 65536 in
theorem w_t2 : (words1.drop 24).all (fun c => isCode c || c.before args0 about1) = true := by decide +kernel
theorem w_tables : (allAtoms (Jvm.Cond.code x code maxLocals ret :: tables_1)).before args0 about1 = true := by
  rw [allAtoms_all]
  show words1.all (fun c => c.before args0 about1) = true
  refine all_split ?_ w_codes
  rw [← List.take_append_drop 24 words1, List.all_append, w_t1, w_t2]
  rfl
set_option maxRecDepth 65536 in
theorem w_case : (Jvm.Cond.and given_1 narrow_1).before args0 about1 = true := by decide +kernel
theorem w_applies : (headSpec (Jvm.Cond.code x code maxLocals ret :: tables_1) room_1).applies x e0.platform about1 = true :=
  (Spec.applies_iff w_frames).mpr ⟨w_running, w_runnable, w_alone, w_named, w_hears, w_ripe, w_room, w_tables⟩
theorem atStart : AtStart classFile x code maxLocals ret World_1 tables_1 room_1 Calls_1 rest_1 Pre_1 launch0 p0 e0 about1 theMethod args0 below0 :=
  ⟨lists_1, trivial, launch0.admits_env _ _ _, launch0.least_env, fairChoices_fair.cas, fairChoices_fair.clock, w_frames, w_args, w_heap, w_applies, trivial, trivial, w_case⟩
end start1
theorem witness_1 : WitnessClaimed_1 := ⟨start1.p0, start1.e0, start1.about1, start1.theMethod, start1.args0, start1.below0, start1.atStart⟩
end Jvm.Pilot.@@N@@
