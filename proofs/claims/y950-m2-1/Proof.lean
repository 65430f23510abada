import JvmDerived
import JvmDerived.Pilot.@@N@@Statement
import JvmDerived.Pilot.@@N@@Code
set_option linter.unusedVariables false
set_option linter.unusedSimpArgs false
namespace Jvm.RoadKit
open Sem ClassFile Op Lib Jvm.Stand Jvm.Free Jvm.LawKit
section New
variable {p : Program} {l : Launch} {e : Env} {R : Room} {s : State} {m : MethodId} {args : Array Value} {below : List Frame} {meth : Method} {c : Code} {T : State} {locs : List Loc} {cells slots : Nat}
theorem retI (X : Stand p l e R s m args below meth c T locs cells slots) (hx : p.tables.exec = Jvm.exec) {pc : Nat} {Ls : Array Slot} {z : Int32} {rest : List Value} (hret : meth.sig.returnType = some .int) (hd : decode c.code pc = .ok (.ireturn, 1)) {fs : List Frame}
    (hl : ∀ (f : JFrame) (acts : List Action), f.method = m → f.locked = none → f.entered = [] → (doReturn e (T.setTop f) acts (some (.int z))).1 = T.setFrames fs) : Steps p.tables e below (T.setTop (mkF m pc Ls (.int z :: rest))) (T.setFrames fs) := by
  have hm' : T.vm.method? m = some meth := X.method'
  have hn : narrow .int (.int z) = .int z := rfl
  show Steps p.tables e below (T.setTop { method := m, pc := pc, locals := Ls, stack := _ :: rest, locked := none }) _
  jvm_step X.here [X.here.top, hx, hd, hm', hret, hn]
  first | (intro acts; rw [hl _ acts rfl rfl rfl]) | rw [hl _ _ rfl rfl rfl]
  exact Steps.refl _
end New
end Jvm.RoadKit
namespace Jvm.Pilot.@@N@@
open Jvm Jvm.ClassFile Sem Op Lib Jvm.Free Jvm.Stand Jvm.LawKit Jvm.RoadKit Bundle Jvm.Pilot.@@N@@.Jvm.D
section OwnLayer
variable {p : Program} {l : Launch} {e : Env} {R : Room} {s : State} {m : MethodId} {args : Array Value} {below : List Frame} {meth : Method} {c : Code} {T : State} {locs : List Loc} {cells slots : Nat} {Z : State} {a0 : Array Value} {h h' : Heap} {K : State → Outcome → Prop} {Q : Option Value → Heap → List Loc → Prop} {pc : Nat} {Ls : Array Slot} {S : List Value} {own : String} {index : Nat} {y : MethodName} {bytes : ByteArray} {maxL : Nat} {ret : Option FieldType} {rm : Room} {as' : Array Value} {h0 : Heap} {ws : List Jvm.Cond}
/-- from here the body comes to its end, and K holds of it -/
def own_W (p : Program) (e : Env) (below : List Frame) (K : State → Outcome → Prop) (T : State) (f : JFrame) : Prop :=
  ∃ s₂ o, Steps p.tables e below (T.setTop f) s₂ ∧ s₂.status = .running ∧ Ended s₂ below o ∧ K s₂ o
def own_K (s : State) (R : Room) (Q : Option Value → Heap → List Loc → Prop) (s₂ : State) (o : Outcome) : Prop :=
  ∃ v L, o = .returned v ∧ Q v s₂.heap L ∧ FrameEnd s o s₂ L R.cells R.slots
/-- a body's contract -/
def own_C (l : Launch) (Z : State) (y : MethodName) (bytes : ByteArray) (maxL : Nat) (ret : Option FieldType) (ws : List Jvm.Cond) (rm : Room) (as' : Array Value) (h0 : Heap) (Q : Option Value → Heap → List Loc → Prop) : Prop :=
  MetFree l y (head1 (Jvm.Cond.code y bytes maxL ret :: ws) rm) (fun a U => a = as' ∧ Z.Warmed39 U.vm ∧ U.heap = h0) (fun _ _ _ _ _ => True) (fun _ U o U' => ∃ v L, o = .returned v ∧ Q v U'.heap L ∧ FrameEnd U o U' L rm.cells rm.slots)
theorem own_bodyF (hpl : plainFor y = true)
    (body : ∀ (p : Program) (e : Env) (s : State) (m : MethodId) (below : List Frame) (meth : Method) (c : Code) (T : State), p.tables.exec = Jvm.exec → c.code = bytes → c.maxLocals = maxL → s.vm.findClass y.cls = some m.cls → meth.name = y.name → meth.sig.returnType = ret → meth.locks = false → Z.Warmed39 s.vm →
      Stand p l e rm s m as' below meth c T [] 0 0 → T.heap = h0 → own_W p e below (own_K s rm Q) T (entryFrame m as' maxL)) : own_C l Z y bytes maxL ret ws rm as' h0 Q := by
  refine MetFree.of_bodySF hpl hisR ?_
  intro p e s m args below meth c s₁ Bd hml0 hP hK
  obtain ⟨rfl, hZ, hh⟩ := hP
  exact body p e s m below meth c s₁ Bd.exec Bd.bytes hml0 (findClass_of_methodNamed Bd.named) (name_of_methodNamed Bd.named Bd.method).1 Bd.returns (BodyLoose.notSynchronized Bd) hZ (Stand.of_body Bd) (by rw [← hh, Bd.state]; rfl)
theorem own_body (hpn : plainName y.cls = true)
    (body : ∀ (p : Program) (e : Env) (s : State) (m : MethodId) (below : List Frame) (meth : Method) (c : Code) (T : State), p.tables.exec = Jvm.exec → c.code = bytes → c.maxLocals = maxL → s.vm.findClass y.cls = some m.cls → meth.name = y.name → meth.sig.returnType = ret → meth.locks = false → Z.Warmed39 s.vm →
      Stand p l e rm s m as' below meth c T [] 0 0 → T.heap = h0 → own_W p e below (own_K s rm Q) T (entryFrame m as' maxL)) : own_C l Z y bytes maxL ret ws rm as' h0 Q := own_bodyF (plainFor_of_name hpn) body
theorem own_s {f f' : JFrame} {T' : State} (hs : ∀ t, Steps p.tables e below (T'.setTop f') t → Steps p.tables e below (T.setTop f) t) (k : own_W p e below K T' f') : own_W p e below K T f := by
  obtain ⟨s₂, o, h1, r⟩ := k; exact ⟨s₂, o, hs _ h1, r⟩
theorem own_s' {f f' : JFrame} {T' : State} (hs : Steps p.tables e below (T.setTop f) (T'.setTop f')) (k : own_W p e below K T' f') : own_W p e below K T f := by
  obtain ⟨s₂, o, h1, r⟩ := k; exact ⟨s₂, o, hs.trans h1, r⟩
theorem own_eq {f f' : JFrame} (q : f = f') (k : own_W p e below K T f') : own_W p e below K T f := q ▸ k
section Plain
theorem own_iloadN (X : Stand p l e R s m args below meth c T locs cells slots) (hx : p.tables.exec = Jvm.exec) {i : Fin 4} {v : Int32} (pc' : Nat) (hd : decode c.code pc = .ok (.iload_n i, 1)) (hp : pc + 1 = pc') (hl : Ls[i.val]? = some (.val (.int v))) (k : own_W p e below K T (mkF m pc' Ls (.int v :: S))) : own_W p e below K T (mkF m pc Ls S) := by subst hp; exact own_s (fun _ => XS.iloadN X.here hx rfl hd hl) k
theorem own_iload (X : Stand p l e R s m args below meth c T locs cells slots) (hx : p.tables.exec = Jvm.exec) {i : Nat} {v : Int32} (pc' : Nat) (hd : decode c.code pc = .ok (.iload i, 2)) (hp : pc + 2 = pc') (hl : Ls[i]? = some (.val (.int v))) (k : own_W p e below K T (mkF m pc' Ls (.int v :: S))) : own_W p e below K T (mkF m pc Ls S) := by subst hp; exact own_s (fun _ => XS.iload X.here hx rfl hd hl) k
theorem own_lloadN (X : Stand p l e R s m args below meth c T locs cells slots) (hx : p.tables.exec = Jvm.exec) {i : Fin 4} {v : Int64} (pc' : Nat) (hd : decode c.code pc = .ok (.lload_n i, 1)) (hp : pc + 1 = pc') (hl : Ls[i.val]? = some (.val (.long v))) (k : own_W p e below K T (mkF m pc' Ls (.long v :: S))) : own_W p e below K T (mkF m pc Ls S) := by subst hp; exact own_s (fun _ => XS.lloadN X.here hx rfl hd hl) k
theorem own_lload (X : Stand p l e R s m args below meth c T locs cells slots) (hx : p.tables.exec = Jvm.exec) {i : Nat} {v : Int64} (pc' : Nat) (hd : decode c.code pc = .ok (.lload i, 2)) (hp : pc + 2 = pc') (hl : Ls[i]? = some (.val (.long v))) (k : own_W p e below K T (mkF m pc' Ls (.long v :: S))) : own_W p e below K T (mkF m pc Ls S) := by subst hp; exact own_s (fun _ => XS.lload X.here hx rfl hd hl) k
theorem own_aloadN (X : Stand p l e R s m args below meth c T locs cells slots) (hx : p.tables.exec = Jvm.exec) {i : Fin 4} {v : Addr} (pc' : Nat) (hd : decode c.code pc = .ok (.aload_n i, 1)) (hp : pc + 1 = pc') (hl : Ls[i.val]? = some (.val (.ref v))) (k : own_W p e below K T (mkF m pc' Ls (.ref v :: S))) : own_W p e below K T (mkF m pc Ls S) := by subst hp; exact own_s (fun _ => XS.aloadN X.here hx rfl hd hl rfl) k
theorem own_aload (X : Stand p l e R s m args below meth c T locs cells slots) (hx : p.tables.exec = Jvm.exec) {i : Nat} {v : Addr} (pc' : Nat) (hd : decode c.code pc = .ok (.aload i, 2)) (hp : pc + 2 = pc') (hl : Ls[i]? = some (.val (.ref v))) (k : own_W p e below K T (mkF m pc' Ls (.ref v :: S))) : own_W p e below K T (mkF m pc Ls S) := by subst hp; exact own_s (fun _ => XS.aload X.here hx rfl hd hl rfl) k
theorem own_istoreN (X : Stand p l e R s m args below meth c T locs cells slots) (hx : p.tables.exec = Jvm.exec) {i : Fin 4} {x y : Int32} (pc' : Nat) (l' : Array Slot) (hy : y = x) (hd : decode c.code pc = .ok (.istore_n i, 1)) (hp : pc + 1 = pc') (hl : storeLocals Ls i.val (.int y) = some l') (k : own_W p e below K T (mkF m pc' l' S)) : own_W p e below K T (mkF m pc Ls (.int x :: S)) := by subst hp hy; exact own_s (fun _ => XS.istoreN X.here hx rfl hd rfl hl) k
theorem own_istore (X : Stand p l e R s m args below meth c T locs cells slots) (hx : p.tables.exec = Jvm.exec) {i : Nat} {x y : Int32} (pc' : Nat) (l' : Array Slot) (hy : y = x) (hd : decode c.code pc = .ok (.istore i, 2)) (hp : pc + 2 = pc') (hl : storeLocals Ls i (.int y) = some l') (k : own_W p e below K T (mkF m pc' l' S)) : own_W p e below K T (mkF m pc Ls (.int x :: S)) := by subst hp hy; exact own_s (fun _ => XS.istore X.here hx rfl hd rfl hl) k
theorem own_lstoreN (X : Stand p l e R s m args below meth c T locs cells slots) (hx : p.tables.exec = Jvm.exec) {i : Fin 4} {x y : Int64} (pc' : Nat) (l' : Array Slot) (hy : y = x) (hd : decode c.code pc = .ok (.lstore_n i, 1)) (hp : pc + 1 = pc') (hl : storeLocals Ls i.val (.long y) = some l') (k : own_W p e below K T (mkF m pc' l' S)) : own_W p e below K T (mkF m pc Ls (.long x :: S)) := by subst hp hy; exact own_s (fun _ => XS.lstoreN X.here hx rfl hd rfl hl) k
theorem own_lstore (X : Stand p l e R s m args below meth c T locs cells slots) (hx : p.tables.exec = Jvm.exec) {i : Nat} {x y : Int64} (pc' : Nat) (l' : Array Slot) (hy : y = x) (hd : decode c.code pc = .ok (.lstore i, 2)) (hp : pc + 2 = pc') (hl : storeLocals Ls i (.long y) = some l') (k : own_W p e below K T (mkF m pc' l' S)) : own_W p e below K T (mkF m pc Ls (.long x :: S)) := by subst hp hy; exact own_s (fun _ => XS.lstore X.here hx rfl hd rfl hl) k
theorem own_astoreN (X : Stand p l e R s m args below meth c T locs cells slots) (hx : p.tables.exec = Jvm.exec) {i : Fin 4} {x y : Addr} (pc' : Nat) (l' : Array Slot) (hy : y = x) (hd : decode c.code pc = .ok (.astore_n i, 1)) (hp : pc + 1 = pc') (hl : storeLocals Ls i.val (.ref y) = some l') (k : own_W p e below K T (mkF m pc' l' S)) : own_W p e below K T (mkF m pc Ls (.ref x :: S)) := by subst hp hy; exact own_s (fun _ => XS.astoreN X.here hx rfl hd rfl rfl hl) k
theorem own_astore (X : Stand p l e R s m args below meth c T locs cells slots) (hx : p.tables.exec = Jvm.exec) {i : Nat} {x y : Addr} (pc' : Nat) (l' : Array Slot) (hy : y = x) (hd : decode c.code pc = .ok (.astore i, 2)) (hp : pc + 2 = pc') (hl : storeLocals Ls i (.ref y) = some l') (k : own_W p e below K T (mkF m pc' l' S)) : own_W p e below K T (mkF m pc Ls (.ref x :: S)) := by subst hp hy; exact own_s (fun _ => XS.astore X.here hx rfl hd rfl rfl hl) k
theorem own_iinc (X : Stand p l e R s m args below meth c T locs cells slots) (hx : p.tables.exec = Jvm.exec) {i : Nat} {cst : Int} {x : Int32} (y : Int32) (pc' : Nat) (l' : Array Slot) (hy : y = x + Int32.ofInt cst) (hd : decode c.code pc = .ok (.iinc i cst, 3)) (hp : pc + 3 = pc') (hl : Ls[i]? = some (.val (.int x))) (hl' : storeLocals Ls i (.int y) = some l') (k : own_W p e below K T (mkF m pc' l' S)) : own_W p e below K T (mkF m pc Ls S) := by subst hp hy; exact own_s (fun _ => XS.iinc X.here hx rfl hd hl hl') k
theorem own_iconst (X : Stand p l e R s m args below meth c T locs cells slots) (hx : p.tables.exec = Jvm.exec) {i : Int} (pc' : Nat) (z : Int32) (hz : Int32.ofInt i = z) (hd : decode c.code pc = .ok (.iconst i, 1)) (hp : pc + 1 = pc') (k : own_W p e below K T (mkF m pc' Ls (.int z :: S))) : own_W p e below K T (mkF m pc Ls S) := by subst hp hz; exact own_s (fun _ => XS.iconst X.here hx rfl hd) k
theorem own_bipush (X : Stand p l e R s m args below meth c T locs cells slots) (hx : p.tables.exec = Jvm.exec) {i : Int} (pc' : Nat) (z : Int32) (hz : (Int8.ofInt i).toInt32 = z) (hd : decode c.code pc = .ok (.bipush i, 2)) (hp : pc + 2 = pc') (k : own_W p e below K T (mkF m pc' Ls (.int z :: S))) : own_W p e below K T (mkF m pc Ls S) := by subst hp hz; exact own_s (fun _ => XS.bipush X.here hx rfl hd) k
theorem own_sipush (X : Stand p l e R s m args below meth c T locs cells slots) (hx : p.tables.exec = Jvm.exec) {i : Int} (pc' : Nat) (z : Int32) (hz : (Int16.ofInt i).toInt32 = z) (hd : decode c.code pc = .ok (.sipush i, 3)) (hp : pc + 3 = pc') (k : own_W p e below K T (mkF m pc' Ls (.int z :: S))) : own_W p e below K T (mkF m pc Ls S) := by subst hp hz; exact own_s (fun _ => XS.sipush X.here hx rfl hd) k
theorem own_lconst (X : Stand p l e R s m args below meth c T locs cells slots) (hx : p.tables.exec = Jvm.exec) {i : Fin 2} (pc' : Nat) (z : Int64) (hz : Int64.ofNat i = z) (hd : decode c.code pc = .ok (.lconst i, 1)) (hp : pc + 1 = pc') (k : own_W p e below K T (mkF m pc' Ls (.long z :: S))) : own_W p e below K T (mkF m pc Ls S) := by subst hp hz; exact own_s (fun _ => XS.lconst X.here hx rfl hd) k
theorem own_ldc (X : Stand p l e R s m args below meth c T locs cells slots) (hx : p.tables.exec = Jvm.exec) {v : Int32} (hZ : Z.Warmed39 s.vm) (hown : s.vm.findClass own = some m.cls) (pc' : Nat) (w : (Jvm.Cond.constant own index v).before a0 Z = true) (hd : decode c.code pc = .ok (.ldc index, 2)) (hp : pc + 2 = pc') (k : own_W p e below K T (mkF m pc' Ls (.int v :: S))) : own_W p e below K T (mkF m pc Ls S) := by subst hp; exact own_s (X.ldcInt hx hown (mvT hZ w) (g := mkF m pc Ls S) rfl hd) k
theorem own_ldc2 (X : Stand p l e R s m args below meth c T locs cells slots) (hx : p.tables.exec = Jvm.exec) {v : Int64} (hZ : Z.Warmed39 s.vm) (hown : s.vm.findClass own = some m.cls) (pc' : Nat) (w : (Jvm.Cond.constantLong own index v).before a0 Z = true) (hd : decode c.code pc = .ok (.ldc2_w index, 3)) (hp : pc + 3 = pc') (k : own_W p e below K T (mkF m pc' Ls (.long v :: S))) : own_W p e below K T (mkF m pc Ls S) := by subst hp; exact own_s (X.ldc2Long hx hown (mvT hZ w) (g := mkF m pc Ls S) rfl hd) k
theorem own_goto (X : Stand p l e R s m args below meth c T locs cells slots) (hx : p.tables.exec = Jvm.exec) {o : Int} (pc' : Nat) (hd : decode c.code pc = .ok (.goto o, 3)) (ho : 0 ≤ (pc : Int) + o) (hp : ((pc : Int) + o).toNat = pc') (k : own_W p e below K T (mkF m pc' Ls S)) : own_W p e below K T (mkF m pc Ls S) := own_s (fun _ => XS.goto X.here hx (g := mkF m pc Ls S) rfl rfl hd ho hp) k
theorem own_dup (X : Stand p l e R s m args below meth c T locs cells slots) (hx : p.tables.exec = Jvm.exec) {x : Value} (pc' : Nat) (hc : x.category = 1) (hd : decode c.code pc = .ok (.dup, 1)) (hp : pc + 1 = pc') (k : own_W p e below K T (mkF m pc' Ls (x :: x :: S))) : own_W p e below K T (mkF m pc Ls (x :: S)) := by subst hp; exact own_s (fun _ => XS.dup X.here hx rfl hd rfl hc) k
theorem own_pop (X : Stand p l e R s m args below meth c T locs cells slots) (hx : p.tables.exec = Jvm.exec) {x : Value} (pc' : Nat) (hc : x.category = 1) (hd : decode c.code pc = .ok (.pop, 1)) (hp : pc + 1 = pc') (k : own_W p e below K T (mkF m pc' Ls S)) : own_W p e below K T (mkF m pc Ls (x :: S)) := by subst hp; exact own_s (fun _ => XS.pop X.here hx rfl hd rfl hc) k
theorem own_dupX1 (X : Stand p l e R s m args below meth c T locs cells slots) (hx : p.tables.exec = Jvm.exec) {x y : Value} (pc' : Nat) (hc : x.category = 1) (hc2 : y.category = 1) (hd : decode c.code pc = .ok (.dup_x1, 1)) (hp : pc + 1 = pc') (k : own_W p e below K T (mkF m pc' Ls (x :: y :: x :: S))) : own_W p e below K T (mkF m pc Ls (x :: y :: S)) := by subst hp; exact own_s (fun _ => XS.dupX1 X.here hx rfl hd rfl hc hc2) k
theorem own_dup2 (X : Stand p l e R s m args below meth c T locs cells slots) (hx : p.tables.exec = Jvm.exec) {x y : Value} (pc' : Nat) (hc : x.category = 1) (hc2 : y.category = 1) (hd : decode c.code pc = .ok (.dup2, 1)) (hp : pc + 1 = pc') (k : own_W p e below K T (mkF m pc' Ls (x :: y :: x :: y :: S))) : own_W p e below K T (mkF m pc Ls (x :: y :: S)) := by subst hp; exact own_s (fun _ => XT.dup2 X.here hx rfl hd rfl hc hc2) k
theorem own_iadd (X : Stand p l e R s m args below meth c T locs cells slots) (hx : p.tables.exec = Jvm.exec) {x y : Int32} (pc' : Nat) (hd : decode c.code pc = .ok (.iadd, 1)) (hp : pc + 1 = pc') (k : own_W p e below K T (mkF m pc' Ls (.int (x + y) :: S))) : own_W p e below K T (mkF m pc Ls (.int y :: .int x :: S)) := by subst hp; exact own_s (fun _ => XS.iadd X.here hx rfl hd rfl) k
theorem own_ladd (X : Stand p l e R s m args below meth c T locs cells slots) (hx : p.tables.exec = Jvm.exec) {x y : Int64} (pc' : Nat) (hd : decode c.code pc = .ok (.ladd, 1)) (hp : pc + 1 = pc') (k : own_W p e below K T (mkF m pc' Ls (.long (x + y) :: S))) : own_W p e below K T (mkF m pc Ls (.long y :: .long x :: S)) := by subst hp; exact own_s (fun _ => XS.ladd X.here hx rfl hd rfl) k
theorem own_isub (X : Stand p l e R s m args below meth c T locs cells slots) (hx : p.tables.exec = Jvm.exec) {x y : Int32} (pc' : Nat) (hd : decode c.code pc = .ok (.isub, 1)) (hp : pc + 1 = pc') (k : own_W p e below K T (mkF m pc' Ls (.int (x - y) :: S))) : own_W p e below K T (mkF m pc Ls (.int y :: .int x :: S)) := by subst hp; exact own_s (fun _ => XS.isub X.here hx rfl hd rfl) k
theorem own_lsub (X : Stand p l e R s m args below meth c T locs cells slots) (hx : p.tables.exec = Jvm.exec) {x y : Int64} (pc' : Nat) (hd : decode c.code pc = .ok (.lsub, 1)) (hp : pc + 1 = pc') (k : own_W p e below K T (mkF m pc' Ls (.long (x - y) :: S))) : own_W p e below K T (mkF m pc Ls (.long y :: .long x :: S)) := by subst hp; exact own_s (fun _ => XS.lsub X.here hx rfl hd rfl) k
theorem own_imul (X : Stand p l e R s m args below meth c T locs cells slots) (hx : p.tables.exec = Jvm.exec) {x y : Int32} (pc' : Nat) (hd : decode c.code pc = .ok (.imul, 1)) (hp : pc + 1 = pc') (k : own_W p e below K T (mkF m pc' Ls (.int (x * y) :: S))) : own_W p e below K T (mkF m pc Ls (.int y :: .int x :: S)) := by subst hp; exact own_s (fun _ => XS.imul X.here hx rfl hd rfl) k
theorem own_lmul (X : Stand p l e R s m args below meth c T locs cells slots) (hx : p.tables.exec = Jvm.exec) {x y : Int64} (pc' : Nat) (hd : decode c.code pc = .ok (.lmul, 1)) (hp : pc + 1 = pc') (k : own_W p e below K T (mkF m pc' Ls (.long (x * y) :: S))) : own_W p e below K T (mkF m pc Ls (.long y :: .long x :: S)) := by subst hp; exact own_s (fun _ => XS.lmul X.here hx rfl hd rfl) k
theorem own_iand (X : Stand p l e R s m args below meth c T locs cells slots) (hx : p.tables.exec = Jvm.exec) {x y : Int32} (pc' : Nat) (hd : decode c.code pc = .ok (.iand, 1)) (hp : pc + 1 = pc') (k : own_W p e below K T (mkF m pc' Ls (.int (x &&& y) :: S))) : own_W p e below K T (mkF m pc Ls (.int y :: .int x :: S)) := by subst hp; exact own_s (fun _ => XS.iand X.here hx rfl hd rfl) k
theorem own_land (X : Stand p l e R s m args below meth c T locs cells slots) (hx : p.tables.exec = Jvm.exec) {x y : Int64} (pc' : Nat) (hd : decode c.code pc = .ok (.land, 1)) (hp : pc + 1 = pc') (k : own_W p e below K T (mkF m pc' Ls (.long (x &&& y) :: S))) : own_W p e below K T (mkF m pc Ls (.long y :: .long x :: S)) := by subst hp; exact own_s (fun _ => XS.land X.here hx rfl hd rfl) k
theorem own_ior (X : Stand p l e R s m args below meth c T locs cells slots) (hx : p.tables.exec = Jvm.exec) {x y : Int32} (pc' : Nat) (hd : decode c.code pc = .ok (.ior, 1)) (hp : pc + 1 = pc') (k : own_W p e below K T (mkF m pc' Ls (.int (x ||| y) :: S))) : own_W p e below K T (mkF m pc Ls (.int y :: .int x :: S)) := by subst hp; exact own_s (fun _ => XS.ior X.here hx rfl hd rfl) k
theorem own_lor (X : Stand p l e R s m args below meth c T locs cells slots) (hx : p.tables.exec = Jvm.exec) {x y : Int64} (pc' : Nat) (hd : decode c.code pc = .ok (.lor, 1)) (hp : pc + 1 = pc') (k : own_W p e below K T (mkF m pc' Ls (.long (x ||| y) :: S))) : own_W p e below K T (mkF m pc Ls (.long y :: .long x :: S)) := by subst hp; exact own_s (fun _ => XS.lor X.here hx rfl hd rfl) k
theorem own_ixor (X : Stand p l e R s m args below meth c T locs cells slots) (hx : p.tables.exec = Jvm.exec) {x y : Int32} (pc' : Nat) (hd : decode c.code pc = .ok (.ixor, 1)) (hp : pc + 1 = pc') (k : own_W p e below K T (mkF m pc' Ls (.int (x ^^^ y) :: S))) : own_W p e below K T (mkF m pc Ls (.int y :: .int x :: S)) := by subst hp; exact own_s (fun _ => XS.ixor X.here hx rfl hd rfl) k
theorem own_lxor (X : Stand p l e R s m args below meth c T locs cells slots) (hx : p.tables.exec = Jvm.exec) {x y : Int64} (pc' : Nat) (hd : decode c.code pc = .ok (.lxor, 1)) (hp : pc + 1 = pc') (k : own_W p e below K T (mkF m pc' Ls (.long (x ^^^ y) :: S))) : own_W p e below K T (mkF m pc Ls (.long y :: .long x :: S)) := by subst hp; exact own_s (fun _ => XS.lxor X.here hx rfl hd rfl) k
theorem own_iaddz (X : Stand p l e R s m args below meth c T locs cells slots) (hx : p.tables.exec = Jvm.exec) {x y z : Int32} (pc' : Nat) (hz : x + y = z) (hd : decode c.code pc = .ok (.iadd, 1)) (hp : pc + 1 = pc') (k : own_W p e below K T (mkF m pc' Ls (.int z :: S))) : own_W p e below K T (mkF m pc Ls (.int y :: .int x :: S)) := by subst hz; exact own_iadd X hx pc' hd hp k
theorem own_laddz (X : Stand p l e R s m args below meth c T locs cells slots) (hx : p.tables.exec = Jvm.exec) {x y z : Int64} (pc' : Nat) (hz : x + y = z) (hd : decode c.code pc = .ok (.ladd, 1)) (hp : pc + 1 = pc') (k : own_W p e below K T (mkF m pc' Ls (.long z :: S))) : own_W p e below K T (mkF m pc Ls (.long y :: .long x :: S)) := by subst hz; exact own_ladd X hx pc' hd hp k
theorem own_isubz (X : Stand p l e R s m args below meth c T locs cells slots) (hx : p.tables.exec = Jvm.exec) {x y z : Int32} (pc' : Nat) (hz : x - y = z) (hd : decode c.code pc = .ok (.isub, 1)) (hp : pc + 1 = pc') (k : own_W p e below K T (mkF m pc' Ls (.int z :: S))) : own_W p e below K T (mkF m pc Ls (.int y :: .int x :: S)) := by subst hz; exact own_isub X hx pc' hd hp k
theorem own_lsubz (X : Stand p l e R s m args below meth c T locs cells slots) (hx : p.tables.exec = Jvm.exec) {x y z : Int64} (pc' : Nat) (hz : x - y = z) (hd : decode c.code pc = .ok (.lsub, 1)) (hp : pc + 1 = pc') (k : own_W p e below K T (mkF m pc' Ls (.long z :: S))) : own_W p e below K T (mkF m pc Ls (.long y :: .long x :: S)) := by subst hz; exact own_lsub X hx pc' hd hp k
theorem own_imulz (X : Stand p l e R s m args below meth c T locs cells slots) (hx : p.tables.exec = Jvm.exec) {x y z : Int32} (pc' : Nat) (hz : x * y = z) (hd : decode c.code pc = .ok (.imul, 1)) (hp : pc + 1 = pc') (k : own_W p e below K T (mkF m pc' Ls (.int z :: S))) : own_W p e below K T (mkF m pc Ls (.int y :: .int x :: S)) := by subst hz; exact own_imul X hx pc' hd hp k
theorem own_lmulz (X : Stand p l e R s m args below meth c T locs cells slots) (hx : p.tables.exec = Jvm.exec) {x y z : Int64} (pc' : Nat) (hz : x * y = z) (hd : decode c.code pc = .ok (.lmul, 1)) (hp : pc + 1 = pc') (k : own_W p e below K T (mkF m pc' Ls (.long z :: S))) : own_W p e below K T (mkF m pc Ls (.long y :: .long x :: S)) := by subst hz; exact own_lmul X hx pc' hd hp k
theorem own_iandz (X : Stand p l e R s m args below meth c T locs cells slots) (hx : p.tables.exec = Jvm.exec) {x y z : Int32} (pc' : Nat) (hz : x &&& y = z) (hd : decode c.code pc = .ok (.iand, 1)) (hp : pc + 1 = pc') (k : own_W p e below K T (mkF m pc' Ls (.int z :: S))) : own_W p e below K T (mkF m pc Ls (.int y :: .int x :: S)) := by subst hz; exact own_iand X hx pc' hd hp k
theorem own_landz (X : Stand p l e R s m args below meth c T locs cells slots) (hx : p.tables.exec = Jvm.exec) {x y z : Int64} (pc' : Nat) (hz : x &&& y = z) (hd : decode c.code pc = .ok (.land, 1)) (hp : pc + 1 = pc') (k : own_W p e below K T (mkF m pc' Ls (.long z :: S))) : own_W p e below K T (mkF m pc Ls (.long y :: .long x :: S)) := by subst hz; exact own_land X hx pc' hd hp k
theorem own_iorz (X : Stand p l e R s m args below meth c T locs cells slots) (hx : p.tables.exec = Jvm.exec) {x y z : Int32} (pc' : Nat) (hz : x ||| y = z) (hd : decode c.code pc = .ok (.ior, 1)) (hp : pc + 1 = pc') (k : own_W p e below K T (mkF m pc' Ls (.int z :: S))) : own_W p e below K T (mkF m pc Ls (.int y :: .int x :: S)) := by subst hz; exact own_ior X hx pc' hd hp k
theorem own_lorz (X : Stand p l e R s m args below meth c T locs cells slots) (hx : p.tables.exec = Jvm.exec) {x y z : Int64} (pc' : Nat) (hz : x ||| y = z) (hd : decode c.code pc = .ok (.lor, 1)) (hp : pc + 1 = pc') (k : own_W p e below K T (mkF m pc' Ls (.long z :: S))) : own_W p e below K T (mkF m pc Ls (.long y :: .long x :: S)) := by subst hz; exact own_lor X hx pc' hd hp k
theorem own_ixorz (X : Stand p l e R s m args below meth c T locs cells slots) (hx : p.tables.exec = Jvm.exec) {x y z : Int32} (pc' : Nat) (hz : x ^^^ y = z) (hd : decode c.code pc = .ok (.ixor, 1)) (hp : pc + 1 = pc') (k : own_W p e below K T (mkF m pc' Ls (.int z :: S))) : own_W p e below K T (mkF m pc Ls (.int y :: .int x :: S)) := by subst hz; exact own_ixor X hx pc' hd hp k
theorem own_lxorz (X : Stand p l e R s m args below meth c T locs cells slots) (hx : p.tables.exec = Jvm.exec) {x y z : Int64} (pc' : Nat) (hz : x ^^^ y = z) (hd : decode c.code pc = .ok (.lxor, 1)) (hp : pc + 1 = pc') (k : own_W p e below K T (mkF m pc' Ls (.long z :: S))) : own_W p e below K T (mkF m pc Ls (.long y :: .long x :: S)) := by subst hz; exact own_lxor X hx pc' hd hp k
theorem own_ishl (X : Stand p l e R s m args below meth c T locs cells slots) (hx : p.tables.exec = Jvm.exec) {x : Int32} {y : Int32} (pc' : Nat) (hd : decode c.code pc = .ok (.ishl, 1)) (hp : pc + 1 = pc') (k : own_W p e below K T (mkF m pc' Ls (.int (x <<< (y &&& 31)) :: S))) : own_W p e below K T (mkF m pc Ls (.int y :: .int x :: S)) := by subst hp; exact own_s (fun _ => XS.ishl X.here hx rfl hd rfl) k
theorem own_ishr (X : Stand p l e R s m args below meth c T locs cells slots) (hx : p.tables.exec = Jvm.exec) {x : Int32} {y : Int32} (pc' : Nat) (hd : decode c.code pc = .ok (.ishr, 1)) (hp : pc + 1 = pc') (k : own_W p e below K T (mkF m pc' Ls (.int (x >>> (y &&& 31)) :: S))) : own_W p e below K T (mkF m pc Ls (.int y :: .int x :: S)) := by subst hp; exact own_s (fun _ => XS.ishr X.here hx rfl hd rfl) k
theorem own_iushr (X : Stand p l e R s m args below meth c T locs cells slots) (hx : p.tables.exec = Jvm.exec) {x : Int32} {y : Int32} (pc' : Nat) (hd : decode c.code pc = .ok (.iushr, 1)) (hp : pc + 1 = pc') (k : own_W p e below K T (mkF m pc' Ls (.int ((x.toUInt32 >>> (y &&& 31).toUInt32).toInt32) :: S))) : own_W p e below K T (mkF m pc Ls (.int y :: .int x :: S)) := by subst hp; exact own_s (fun _ => XS.iushr X.here hx rfl hd rfl) k
theorem own_lshl (X : Stand p l e R s m args below meth c T locs cells slots) (hx : p.tables.exec = Jvm.exec) {x : Int64} {y : Int32} (pc' : Nat) (hd : decode c.code pc = .ok (.lshl, 1)) (hp : pc + 1 = pc') (k : own_W p e below K T (mkF m pc' Ls (.long (x <<< (y &&& 0x3f).toInt64) :: S))) : own_W p e below K T (mkF m pc Ls (.int y :: .long x :: S)) := by subst hp; exact own_s (fun _ => XS.lshl X.here hx rfl hd rfl) k
theorem own_lshr (X : Stand p l e R s m args below meth c T locs cells slots) (hx : p.tables.exec = Jvm.exec) {x : Int64} {y : Int32} (pc' : Nat) (hd : decode c.code pc = .ok (.lshr, 1)) (hp : pc + 1 = pc') (k : own_W p e below K T (mkF m pc' Ls (.long (x >>> (y &&& 0x3f).toInt64) :: S))) : own_W p e below K T (mkF m pc Ls (.int y :: .long x :: S)) := by subst hp; exact own_s (fun _ => XS.lshr X.here hx rfl hd rfl) k
theorem own_lushr (X : Stand p l e R s m args below meth c T locs cells slots) (hx : p.tables.exec = Jvm.exec) {x : Int64} {y : Int32} (pc' : Nat) (hd : decode c.code pc = .ok (.lushr, 1)) (hp : pc + 1 = pc') (k : own_W p e below K T (mkF m pc' Ls (.long ((x.toUInt64 >>> (y &&& 0x3f).toInt64.toUInt64).toInt64) :: S))) : own_W p e below K T (mkF m pc Ls (.int y :: .long x :: S)) := by subst hp; exact own_s (fun _ => XS.lushr X.here hx rfl hd rfl) k
theorem own_ineg (X : Stand p l e R s m args below meth c T locs cells slots) (hx : p.tables.exec = Jvm.exec) {x : Int32} (pc' : Nat) (hd : decode c.code pc = .ok (.ineg, 1)) (hp : pc + 1 = pc') (k : own_W p e below K T (mkF m pc' Ls (.int ((-x)) :: S))) : own_W p e below K T (mkF m pc Ls (.int x :: S)) := by subst hp; exact own_s (fun _ => XS.ineg X.here hx rfl hd rfl) k
theorem own_lneg (X : Stand p l e R s m args below meth c T locs cells slots) (hx : p.tables.exec = Jvm.exec) {x : Int64} (pc' : Nat) (hd : decode c.code pc = .ok (.lneg, 1)) (hp : pc + 1 = pc') (k : own_W p e below K T (mkF m pc' Ls (.long ((-x)) :: S))) : own_W p e below K T (mkF m pc Ls (.long x :: S)) := by subst hp; exact own_s (fun _ => XS.lneg X.here hx rfl hd rfl) k
theorem own_i2l (X : Stand p l e R s m args below meth c T locs cells slots) (hx : p.tables.exec = Jvm.exec) {x : Int32} (pc' : Nat) (hd : decode c.code pc = .ok (.i2l, 1)) (hp : pc + 1 = pc') (k : own_W p e below K T (mkF m pc' Ls (.long (x.toInt64) :: S))) : own_W p e below K T (mkF m pc Ls (.int x :: S)) := by subst hp; exact own_s (fun _ => XS.i2l X.here hx rfl hd rfl) k
theorem own_l2i (X : Stand p l e R s m args below meth c T locs cells slots) (hx : p.tables.exec = Jvm.exec) {x : Int64} (pc' : Nat) (hd : decode c.code pc = .ok (.l2i, 1)) (hp : pc + 1 = pc') (k : own_W p e below K T (mkF m pc' Ls (.int (x.toInt32) :: S))) : own_W p e below K T (mkF m pc Ls (.long x :: S)) := by subst hp; exact own_s (fun _ => XS.l2i X.here hx rfl hd rfl) k
theorem own_i2b (X : Stand p l e R s m args below meth c T locs cells slots) (hx : p.tables.exec = Jvm.exec) {x : Int32} (pc' : Nat) (hd : decode c.code pc = .ok (.i2b, 1)) (hp : pc + 1 = pc') (k : own_W p e below K T (mkF m pc' Ls (.int (x.toInt8.toInt32) :: S))) : own_W p e below K T (mkF m pc Ls (.int x :: S)) := by subst hp; exact own_s (fun _ => XS.i2b X.here hx rfl hd rfl) k
theorem own_i2s (X : Stand p l e R s m args below meth c T locs cells slots) (hx : p.tables.exec = Jvm.exec) {x : Int32} (pc' : Nat) (hd : decode c.code pc = .ok (.i2s, 1)) (hp : pc + 1 = pc') (k : own_W p e below K T (mkF m pc' Ls (.int (x.toInt16.toInt32) :: S))) : own_W p e below K T (mkF m pc Ls (.int x :: S)) := by subst hp; exact own_s (fun _ => XS.i2s X.here hx rfl hd rfl) k
theorem own_i2c (X : Stand p l e R s m args below meth c T locs cells slots) (hx : p.tables.exec = Jvm.exec) {x : Int32} (pc' : Nat) (hd : decode c.code pc = .ok (.i2c, 1)) (hp : pc + 1 = pc') (k : own_W p e below K T (mkF m pc' Ls (.int (x.toUInt32.toUInt16.toUInt32.toInt32) :: S))) : own_W p e below K T (mkF m pc Ls (.int x :: S)) := by subst hp; exact own_s (fun _ => XS.i2c X.here hx rfl hd rfl) k
theorem own_i2lz (X : Stand p l e R s m args below meth c T locs cells slots) (hx : p.tables.exec = Jvm.exec) {x : Int32} {z : Int64} (pc' : Nat) (hz : x.toInt64 = z) (hd : decode c.code pc = .ok (.i2l, 1)) (hp : pc + 1 = pc') (k : own_W p e below K T (mkF m pc' Ls (.long z :: S))) : own_W p e below K T (mkF m pc Ls (.int x :: S)) := by subst hz; exact own_i2l X hx pc' hd hp k
theorem own_l2iz (X : Stand p l e R s m args below meth c T locs cells slots) (hx : p.tables.exec = Jvm.exec) {x : Int64} {z : Int32} (pc' : Nat) (hz : x.toInt32 = z) (hd : decode c.code pc = .ok (.l2i, 1)) (hp : pc + 1 = pc') (k : own_W p e below K T (mkF m pc' Ls (.int z :: S))) : own_W p e below K T (mkF m pc Ls (.long x :: S)) := by subst hz; exact own_l2i X hx pc' hd hp k
theorem own_idiv (X : Stand p l e R s m args below meth c T locs cells slots) (hx : p.tables.exec = Jvm.exec) {x y : Int32} (pc' : Nat) (hy : y ≠ 0) (hd : decode c.code pc = .ok (.idiv, 1)) (hp : pc + 1 = pc') (k : own_W p e below K T (mkF m pc' Ls (.int (x / y) :: S))) : own_W p e below K T (mkF m pc Ls (.int y :: .int x :: S)) := by subst hp; exact own_s (fun _ => XS.idiv X.here hx rfl hd rfl hy) k
theorem own_irem (X : Stand p l e R s m args below meth c T locs cells slots) (hx : p.tables.exec = Jvm.exec) {x y : Int32} (pc' : Nat) (hy : y ≠ 0) (hd : decode c.code pc = .ok (.irem, 1)) (hp : pc + 1 = pc') (k : own_W p e below K T (mkF m pc' Ls (.int (x % y) :: S))) : own_W p e below K T (mkF m pc Ls (.int y :: .int x :: S)) := by subst hp; exact own_s (fun _ => iremM X hx rfl hd rfl hy) k
theorem own_ldiv (X : Stand p l e R s m args below meth c T locs cells slots) (hx : p.tables.exec = Jvm.exec) {x y : Int64} (pc' : Nat) (hy : y ≠ 0) (hd : decode c.code pc = .ok (.ldiv, 1)) (hp : pc + 1 = pc') (k : own_W p e below K T (mkF m pc' Ls (.long (x / y) :: S))) : own_W p e below K T (mkF m pc Ls (.long y :: .long x :: S)) := by subst hp; exact own_s (fun _ => XS.ldiv X.here hx rfl hd rfl hy) k
theorem own_lrem (X : Stand p l e R s m args below meth c T locs cells slots) (hx : p.tables.exec = Jvm.exec) {x y : Int64} (pc' : Nat) (hy : y ≠ 0) (hd : decode c.code pc = .ok (.lrem, 1)) (hp : pc + 1 = pc') (k : own_W p e below K T (mkF m pc' Ls (.long (x % y) :: S))) : own_W p e below K T (mkF m pc Ls (.long y :: .long x :: S)) := by subst hp; rw [← lrem_mod] at k; exact own_s (fun _ => XS.lrem X.here hx rfl hd rfl hy) k
theorem own_icmp (X : Stand p l e R s m args below meth c T locs cells slots) (hx : p.tables.exec = Jvm.exec) {cd : ClassFile.Cond} {x y : Int32} {o : Int} (pcT pcF : Nat) (P : Prop) [Decidable P] (hT : P → if_icmp.holds cd x y = true) (hF : ¬ P → if_icmp.holds cd x y = false) (hd : decode c.code pc = .ok (.if_icmp cd o, 3)) (ho : 0 ≤ (pc : Int) + o) (hp : ((pc : Int) + o).toNat = pcT) (hp' : pc + 3 = pcF)
    (kT : P → own_W p e below K T (mkF m pcT Ls S)) (kF : ¬ P → own_W p e below K T (mkF m pcF Ls S)) : own_W p e below K T (mkF m pc Ls (.int y :: .int x :: S)) := by
  subst hp'
  by_cases q : P
  · exact own_s (fun _ => XS.icmpYes X.here hx (g := mkF m pc Ls (.int y :: .int x :: S)) rfl rfl hd rfl (hT q) ho hp) (kT q)
  · exact own_s (fun _ => XS.icmpNo X.here hx (g := mkF m pc Ls (.int y :: .int x :: S)) rfl hd rfl (hF q)) (kF q)
theorem own_if (X : Stand p l e R s m args below meth c T locs cells slots) (hx : p.tables.exec = Jvm.exec) {cd : ClassFile.Cond} {x : Int32} {o : Int} (pcT pcF : Nat) (P : Prop) [Decidable P] (hT : P → if_icmp.holds cd x 0 = true) (hF : ¬ P → if_icmp.holds cd x 0 = false) (hd : decode c.code pc = .ok (.ifCond cd o, 3)) (ho : 0 ≤ (pc : Int) + o) (hp : ((pc : Int) + o).toNat = pcT) (hp' : pc + 3 = pcF)
    (kT : P → own_W p e below K T (mkF m pcT Ls S)) (kF : ¬ P → own_W p e below K T (mkF m pcF Ls S)) : own_W p e below K T (mkF m pc Ls (.int x :: S)) := by
  subst hp'
  by_cases q : P
  · exact own_s (fun _ => XS.ifYes X.here hx (g := mkF m pc Ls (.int x :: S)) rfl rfl hd rfl ((if0 cd x).trans (hT q)) ho hp) (kT q)
  · exact own_s (fun _ => XS.ifNo X.here hx (g := mkF m pc Ls (.int x :: S)) rfl hd rfl ((if0 cd x).trans (hF q))) (kF q)
theorem own_lcmp (X : Stand p l e R s m args below meth c T locs cells slots) (hx : p.tables.exec = Jvm.exec) {x y : Int64} (pc' : Nat) (hd : decode c.code pc = .ok (.lcmp, 1)) (hp : pc + 1 = pc') (k : own_W p e below K T (mkF m pc' Ls (.int (lcmpW x y) :: S))) : own_W p e below K T (mkF m pc Ls (.long y :: .long x :: S)) := by subst hp; exact own_s (fun _ => XS.lcmp X.here hx rfl hd rfl) k
theorem own_icmp_lt (X : Stand p l e R s m args below meth c T locs cells slots) (hx : p.tables.exec = Jvm.exec) {x y : Int32} {o : Int} (pcT pcF : Nat) (hd : decode c.code pc = .ok (.if_icmp .lt o, 3)) (ho : 0 ≤ (pc : Int) + o) (hp : ((pc : Int) + o).toNat = pcT) (hp' : pc + 3 = pcF) (kT : x < y → own_W p e below K T (mkF m pcT Ls S)) (kF : ¬ x < y → own_W p e below K T (mkF m pcF Ls S)) : own_W p e below K T (mkF m pc Ls (.int y :: .int x :: S)) := own_icmp X hx pcT pcF (x < y) (fun q => (tlt q).1) (fun q => (flt q).1) hd ho hp hp' kT kF
theorem own_if_lt (X : Stand p l e R s m args below meth c T locs cells slots) (hx : p.tables.exec = Jvm.exec) {x : Int32} {o : Int} (pcT pcF : Nat) (hd : decode c.code pc = .ok (.ifCond .lt o, 3)) (ho : 0 ≤ (pc : Int) + o) (hp : ((pc : Int) + o).toNat = pcT) (hp' : pc + 3 = pcF) (kT : x < 0 → own_W p e below K T (mkF m pcT Ls S)) (kF : ¬ x < 0 → own_W p e below K T (mkF m pcF Ls S)) : own_W p e below K T (mkF m pc Ls (.int x :: S)) := own_if X hx pcT pcF (x < 0) (fun q => (tlt q).1) (fun q => (flt q).1) hd ho hp hp' kT kF
theorem own_lif_lt (X : Stand p l e R s m args below meth c T locs cells slots) (hx : p.tables.exec = Jvm.exec) {x y : Int64} {o : Int} (pc1 pcT pcF : Nat) (hd1 : decode c.code pc = .ok (.lcmp, 1)) (hp1 : pc + 1 = pc1) (hd : decode c.code pc1 = .ok (.ifCond .lt o, 3)) (ho : 0 ≤ (pc1 : Int) + o) (hp : ((pc1 : Int) + o).toNat = pcT) (hp' : pc1 + 3 = pcF) (kT : x < y → own_W p e below K T (mkF m pcT Ls S)) (kF : ¬ x < y → own_W p e below K T (mkF m pcF Ls S)) : own_W p e below K T (mkF m pc Ls (.long y :: .long x :: S)) := own_lcmp X hx pc1 hd1 hp1 (own_if_lt X hx pcT pcF hd ho hp hp' (fun q => kT ((lw_lt x y).mp q)) (fun q => kF (fun r => q ((lw_lt x y).mpr r))))
theorem own_icmp_ge (X : Stand p l e R s m args below meth c T locs cells slots) (hx : p.tables.exec = Jvm.exec) {x y : Int32} {o : Int} (pcT pcF : Nat) (hd : decode c.code pc = .ok (.if_icmp .ge o, 3)) (ho : 0 ≤ (pc : Int) + o) (hp : ((pc : Int) + o).toNat = pcT) (hp' : pc + 3 = pcF) (kT : ¬ x < y → own_W p e below K T (mkF m pcT Ls S)) (kF : x < y → own_W p e below K T (mkF m pcF Ls S)) : own_W p e below K T (mkF m pc Ls (.int y :: .int x :: S)) := own_icmp X hx pcT pcF (¬ x < y) (fun q => (flt q).2.1) (fun q => (tlt (Decidable.not_not.mp q)).2.1) hd ho hp hp' kT (fun q => kF (Decidable.not_not.mp q))
theorem own_if_ge (X : Stand p l e R s m args below meth c T locs cells slots) (hx : p.tables.exec = Jvm.exec) {x : Int32} {o : Int} (pcT pcF : Nat) (hd : decode c.code pc = .ok (.ifCond .ge o, 3)) (ho : 0 ≤ (pc : Int) + o) (hp : ((pc : Int) + o).toNat = pcT) (hp' : pc + 3 = pcF) (kT : ¬ x < 0 → own_W p e below K T (mkF m pcT Ls S)) (kF : x < 0 → own_W p e below K T (mkF m pcF Ls S)) : own_W p e below K T (mkF m pc Ls (.int x :: S)) := own_if X hx pcT pcF (¬ x < 0) (fun q => (flt q).2.1) (fun q => (tlt (Decidable.not_not.mp q)).2.1) hd ho hp hp' kT (fun q => kF (Decidable.not_not.mp q))
theorem own_lif_ge (X : Stand p l e R s m args below meth c T locs cells slots) (hx : p.tables.exec = Jvm.exec) {x y : Int64} {o : Int} (pc1 pcT pcF : Nat) (hd1 : decode c.code pc = .ok (.lcmp, 1)) (hp1 : pc + 1 = pc1) (hd : decode c.code pc1 = .ok (.ifCond .ge o, 3)) (ho : 0 ≤ (pc1 : Int) + o) (hp : ((pc1 : Int) + o).toNat = pcT) (hp' : pc1 + 3 = pcF) (kT : ¬ x < y → own_W p e below K T (mkF m pcT Ls S)) (kF : x < y → own_W p e below K T (mkF m pcF Ls S)) : own_W p e below K T (mkF m pc Ls (.long y :: .long x :: S)) := own_lcmp X hx pc1 hd1 hp1 (own_if_ge X hx pcT pcF hd ho hp hp' (fun q => kT (fun r => q ((lw_lt x y).mpr r))) (fun q => kF ((lw_lt x y).mp q)))
theorem own_icmp_gt (X : Stand p l e R s m args below meth c T locs cells slots) (hx : p.tables.exec = Jvm.exec) {x y : Int32} {o : Int} (pcT pcF : Nat) (hd : decode c.code pc = .ok (.if_icmp .gt o, 3)) (ho : 0 ≤ (pc : Int) + o) (hp : ((pc : Int) + o).toNat = pcT) (hp' : pc + 3 = pcF) (kT : y < x → own_W p e below K T (mkF m pcT Ls S)) (kF : ¬ y < x → own_W p e below K T (mkF m pcF Ls S)) : own_W p e below K T (mkF m pc Ls (.int y :: .int x :: S)) := own_icmp X hx pcT pcF (y < x) (fun q => (tlt q).2.2.1) (fun q => (flt q).2.2.1) hd ho hp hp' kT kF
theorem own_if_gt (X : Stand p l e R s m args below meth c T locs cells slots) (hx : p.tables.exec = Jvm.exec) {x : Int32} {o : Int} (pcT pcF : Nat) (hd : decode c.code pc = .ok (.ifCond .gt o, 3)) (ho : 0 ≤ (pc : Int) + o) (hp : ((pc : Int) + o).toNat = pcT) (hp' : pc + 3 = pcF) (kT : 0 < x → own_W p e below K T (mkF m pcT Ls S)) (kF : ¬ 0 < x → own_W p e below K T (mkF m pcF Ls S)) : own_W p e below K T (mkF m pc Ls (.int x :: S)) := own_if X hx pcT pcF (0 < x) (fun q => (tlt q).2.2.1) (fun q => (flt q).2.2.1) hd ho hp hp' kT kF
theorem own_lif_gt (X : Stand p l e R s m args below meth c T locs cells slots) (hx : p.tables.exec = Jvm.exec) {x y : Int64} {o : Int} (pc1 pcT pcF : Nat) (hd1 : decode c.code pc = .ok (.lcmp, 1)) (hp1 : pc + 1 = pc1) (hd : decode c.code pc1 = .ok (.ifCond .gt o, 3)) (ho : 0 ≤ (pc1 : Int) + o) (hp : ((pc1 : Int) + o).toNat = pcT) (hp' : pc1 + 3 = pcF) (kT : y < x → own_W p e below K T (mkF m pcT Ls S)) (kF : ¬ y < x → own_W p e below K T (mkF m pcF Ls S)) : own_W p e below K T (mkF m pc Ls (.long y :: .long x :: S)) := own_lcmp X hx pc1 hd1 hp1 (own_if_gt X hx pcT pcF hd ho hp hp' (fun q => kT ((lw_gt x y).mp q)) (fun q => kF (fun r => q ((lw_gt x y).mpr r))))
theorem own_icmp_le (X : Stand p l e R s m args below meth c T locs cells slots) (hx : p.tables.exec = Jvm.exec) {x y : Int32} {o : Int} (pcT pcF : Nat) (hd : decode c.code pc = .ok (.if_icmp .le o, 3)) (ho : 0 ≤ (pc : Int) + o) (hp : ((pc : Int) + o).toNat = pcT) (hp' : pc + 3 = pcF) (kT : ¬ y < x → own_W p e below K T (mkF m pcT Ls S)) (kF : y < x → own_W p e below K T (mkF m pcF Ls S)) : own_W p e below K T (mkF m pc Ls (.int y :: .int x :: S)) := own_icmp X hx pcT pcF (¬ y < x) (fun q => (flt q).2.2.2) (fun q => (tlt (Decidable.not_not.mp q)).2.2.2) hd ho hp hp' kT (fun q => kF (Decidable.not_not.mp q))
theorem own_if_le (X : Stand p l e R s m args below meth c T locs cells slots) (hx : p.tables.exec = Jvm.exec) {x : Int32} {o : Int} (pcT pcF : Nat) (hd : decode c.code pc = .ok (.ifCond .le o, 3)) (ho : 0 ≤ (pc : Int) + o) (hp : ((pc : Int) + o).toNat = pcT) (hp' : pc + 3 = pcF) (kT : ¬ 0 < x → own_W p e below K T (mkF m pcT Ls S)) (kF : 0 < x → own_W p e below K T (mkF m pcF Ls S)) : own_W p e below K T (mkF m pc Ls (.int x :: S)) := own_if X hx pcT pcF (¬ 0 < x) (fun q => (flt q).2.2.2) (fun q => (tlt (Decidable.not_not.mp q)).2.2.2) hd ho hp hp' kT (fun q => kF (Decidable.not_not.mp q))
theorem own_lif_le (X : Stand p l e R s m args below meth c T locs cells slots) (hx : p.tables.exec = Jvm.exec) {x y : Int64} {o : Int} (pc1 pcT pcF : Nat) (hd1 : decode c.code pc = .ok (.lcmp, 1)) (hp1 : pc + 1 = pc1) (hd : decode c.code pc1 = .ok (.ifCond .le o, 3)) (ho : 0 ≤ (pc1 : Int) + o) (hp : ((pc1 : Int) + o).toNat = pcT) (hp' : pc1 + 3 = pcF) (kT : ¬ y < x → own_W p e below K T (mkF m pcT Ls S)) (kF : y < x → own_W p e below K T (mkF m pcF Ls S)) : own_W p e below K T (mkF m pc Ls (.long y :: .long x :: S)) := own_lcmp X hx pc1 hd1 hp1 (own_if_le X hx pcT pcF hd ho hp hp' (fun q => kT (fun r => q ((lw_gt x y).mpr r))) (fun q => kF ((lw_gt x y).mp q)))
theorem own_icmp_eq (X : Stand p l e R s m args below meth c T locs cells slots) (hx : p.tables.exec = Jvm.exec) {x y : Int32} {o : Int} (pcT pcF : Nat) (hd : decode c.code pc = .ok (.if_icmp .eq o, 3)) (ho : 0 ≤ (pc : Int) + o) (hp : ((pc : Int) + o).toNat = pcT) (hp' : pc + 3 = pcF) (kT : x = y → own_W p e below K T (mkF m pcT Ls S)) (kF : ¬ x = y → own_W p e below K T (mkF m pcF Ls S)) : own_W p e below K T (mkF m pc Ls (.int y :: .int x :: S)) := own_icmp X hx pcT pcF (x = y) (fun q => (teq q).1) (fun q => (feq q).1) hd ho hp hp' kT kF
theorem own_if_eq (X : Stand p l e R s m args below meth c T locs cells slots) (hx : p.tables.exec = Jvm.exec) {x : Int32} {o : Int} (pcT pcF : Nat) (hd : decode c.code pc = .ok (.ifCond .eq o, 3)) (ho : 0 ≤ (pc : Int) + o) (hp : ((pc : Int) + o).toNat = pcT) (hp' : pc + 3 = pcF) (kT : x = 0 → own_W p e below K T (mkF m pcT Ls S)) (kF : ¬ x = 0 → own_W p e below K T (mkF m pcF Ls S)) : own_W p e below K T (mkF m pc Ls (.int x :: S)) := own_if X hx pcT pcF (x = 0) (fun q => (teq q).1) (fun q => (feq q).1) hd ho hp hp' kT kF
theorem own_lif_eq (X : Stand p l e R s m args below meth c T locs cells slots) (hx : p.tables.exec = Jvm.exec) {x y : Int64} {o : Int} (pc1 pcT pcF : Nat) (hd1 : decode c.code pc = .ok (.lcmp, 1)) (hp1 : pc + 1 = pc1) (hd : decode c.code pc1 = .ok (.ifCond .eq o, 3)) (ho : 0 ≤ (pc1 : Int) + o) (hp : ((pc1 : Int) + o).toNat = pcT) (hp' : pc1 + 3 = pcF) (kT : x = y → own_W p e below K T (mkF m pcT Ls S)) (kF : ¬ x = y → own_W p e below K T (mkF m pcF Ls S)) : own_W p e below K T (mkF m pc Ls (.long y :: .long x :: S)) := own_lcmp X hx pc1 hd1 hp1 (own_if_eq X hx pcT pcF hd ho hp hp' (fun q => kT ((lw_eq x y).mp q)) (fun q => kF (fun r => q ((lw_eq x y).mpr r))))
theorem own_icmp_ne (X : Stand p l e R s m args below meth c T locs cells slots) (hx : p.tables.exec = Jvm.exec) {x y : Int32} {o : Int} (pcT pcF : Nat) (hd : decode c.code pc = .ok (.if_icmp .ne o, 3)) (ho : 0 ≤ (pc : Int) + o) (hp : ((pc : Int) + o).toNat = pcT) (hp' : pc + 3 = pcF) (kT : ¬ x = y → own_W p e below K T (mkF m pcT Ls S)) (kF : x = y → own_W p e below K T (mkF m pcF Ls S)) : own_W p e below K T (mkF m pc Ls (.int y :: .int x :: S)) := own_icmp X hx pcT pcF (¬ x = y) (fun q => (feq q).2) (fun q => (teq (Decidable.not_not.mp q)).2) hd ho hp hp' kT (fun q => kF (Decidable.not_not.mp q))
theorem own_if_ne (X : Stand p l e R s m args below meth c T locs cells slots) (hx : p.tables.exec = Jvm.exec) {x : Int32} {o : Int} (pcT pcF : Nat) (hd : decode c.code pc = .ok (.ifCond .ne o, 3)) (ho : 0 ≤ (pc : Int) + o) (hp : ((pc : Int) + o).toNat = pcT) (hp' : pc + 3 = pcF) (kT : ¬ x = 0 → own_W p e below K T (mkF m pcT Ls S)) (kF : x = 0 → own_W p e below K T (mkF m pcF Ls S)) : own_W p e below K T (mkF m pc Ls (.int x :: S)) := own_if X hx pcT pcF (¬ x = 0) (fun q => (feq q).2) (fun q => (teq (Decidable.not_not.mp q)).2) hd ho hp hp' kT (fun q => kF (Decidable.not_not.mp q))
theorem own_lif_ne (X : Stand p l e R s m args below meth c T locs cells slots) (hx : p.tables.exec = Jvm.exec) {x y : Int64} {o : Int} (pc1 pcT pcF : Nat) (hd1 : decode c.code pc = .ok (.lcmp, 1)) (hp1 : pc + 1 = pc1) (hd : decode c.code pc1 = .ok (.ifCond .ne o, 3)) (ho : 0 ≤ (pc1 : Int) + o) (hp : ((pc1 : Int) + o).toNat = pcT) (hp' : pc1 + 3 = pcF) (kT : ¬ x = y → own_W p e below K T (mkF m pcT Ls S)) (kF : x = y → own_W p e below K T (mkF m pcF Ls S)) : own_W p e below K T (mkF m pc Ls (.long y :: .long x :: S)) := own_lcmp X hx pc1 hd1 hp1 (own_if_ne X hx pcT pcF hd ho hp hp' (fun q => kT (fun r => q ((lw_eq x y).mpr r))) (fun q => kF ((lw_eq x y).mp q)))
end Plain
section Rets
theorem own_retI (X : Stand p l e R s m args below meth c T locs cells slots) (hx : p.tables.exec = Jvm.exec) {z : Int32} (hret : meth.sig.returnType = some .int) (hlk : meth.locks = false) (hd : decode c.code pc = .ok (.ireturn, 1)) (hc : cells ≤ R.cells) (hl : slots ≤ R.slots) (q : Q (some (.int z)) T.heap locs) : own_W p e below (own_K s R Q) T (mkF m pc Ls (.int z :: S)) := by
  obtain ⟨fs, hr, hrun, hended, hW, hsame⟩ := X.leave (v := some (.int z)) (fun h => by rw [hret] at h; cases h) hlk
  exact ⟨_, _, retI X hx hret hd hr, hrun, hended, _, _, rfl, q, ⟨_, rfl⟩, hW, hsame.mono hc hl⟩
theorem own_retZ (X : Stand p l e R s m args below meth c T locs cells slots) (hx : p.tables.exec = Jvm.exec) {z : Int32} (z' : Int32) (hz : z &&& 1 = z') (hret : meth.sig.returnType = some .boolean) (hlk : meth.locks = false) (hd : decode c.code pc = .ok (.ireturn, 1)) (hc : cells ≤ R.cells) (hl : slots ≤ R.slots) (q : Q (some (.int z')) T.heap locs) : own_W p e below (own_K s R Q) T (mkF m pc Ls (.int z :: S)) := by
  subst hz
  obtain ⟨fs, hr, hrun, hended, hW, hsame⟩ := X.leave (v := some (.int (nar .boolean z))) (fun h => by rw [hret] at h; cases h) hlk
  exact ⟨_, _, retN X hx (t := .boolean) hret (by simp) hd hr, hrun, hended, _, _, rfl, q, ⟨_, rfl⟩, hW, hsame.mono hc hl⟩
theorem own_retJ (X : Stand p l e R s m args below meth c T locs cells slots) (hx : p.tables.exec = Jvm.exec) {z : Int64} (hret : meth.sig.returnType = some .long) (hlk : meth.locks = false) (hd : decode c.code pc = .ok (.lreturn, 1)) (hc : cells ≤ R.cells) (hl : slots ≤ R.slots) (q : Q (some (.long z)) T.heap locs) : own_W p e below (own_K s R Q) T (mkF m pc Ls [.long z]) := by
  obtain ⟨fs, hr, hrun, hended, hW, hsame⟩ := X.leave (v := some (.long z)) (fun h => by rw [hret] at h; cases h) hlk
  exact ⟨_, _, X.lreturnOut hx hret hd hr, hrun, hended, _, _, rfl, q, ⟨_, rfl⟩, hW, hsame.mono hc hl⟩
theorem own_retA (X : Stand p l e R s m args below meth c T locs cells slots) (hx : p.tables.exec = Jvm.exec) {z : Addr} {t : FieldType} (hret : meth.sig.returnType = some t) (ht : t.isReference = true) (hlk : meth.locks = false) (hd : decode c.code pc = .ok (.areturn, 1)) (hc : cells ≤ R.cells) (hl : slots ≤ R.slots) (q : Q (some (.ref z)) T.heap locs) : own_W p e below (own_K s R Q) T (mkF m pc Ls [.ref z]) := by
  obtain ⟨fs, hr, hrun, hended, hW, hsame⟩ := X.leave (v := some (.ref z)) (fun h => by rw [hret] at h; cases h) hlk
  exact ⟨_, _, X.areturnOut hx rfl hret ht hd hr, hrun, hended, _, _, rfl, q, ⟨_, rfl⟩, hW, hsame.mono hc hl⟩
theorem own_retV (X : Stand p l e R s m args below meth c T locs cells slots) (hx : p.tables.exec = Jvm.exec) (hret : meth.sig.returnType = none) (hlk : meth.locks = false) (hd : decode c.code pc = .ok (.return_, 1)) (hc : cells ≤ R.cells) (hl : slots ≤ R.slots) (q : Q none T.heap locs) : own_W p e below (own_K s R Q) T (mkF m pc Ls []) := by
  obtain ⟨fs, hr, hrun, hended, hW, hsame⟩ := X.leave (v := none) (fun _ => rfl) hlk
  exact ⟨_, _, X.returnOut hx hret hd hr, hrun, hended, _, _, rfl, q, ⟨_, rfl⟩, hW, hsame.mono hc hl⟩
end Rets
section Heaps
theorem own_getF (X : Stand p l e R s m args below meth c T locs cells slots) (hx : p.tables.exec = Jvm.exec) (hZ : Z.Warmed39 s.vm) (hown : s.vm.findClass own = some m.cls) (eT : T.heap = h) {O n d : String} {a : Addr} {v : Value} (pc' : Nat) (w : (Jvm.Cond.fieldLink own index O n d).before a0 Z = true) (F : Fld Z h a O n d v) (hd : decode c.code pc = .ok (.getfield index, 3)) (hp : pc + 3 = pc')
    (k : ∀ T', Stand p l e R s m args below meth c T' locs cells slots → T'.heap = h → own_W p e below K T' (mkF m pc' Ls (v :: S))) : own_W p e below K T (mkF m pc Ls (.ref a :: S)) := by
  subst hp
  obtain ⟨T', X', e', st⟩ := getF X hx hZ hown (host := "") (Or.inl w) Via.refl eT F (g := mkF m pc Ls (.ref a :: S)) rfl rfl hd
  exact own_s st (k T' X' e')
theorem own_putF (X : Stand p l e R s m args below meth c T locs cells slots) (hx : p.tables.exec = Jvm.exec) (hZ : Z.Warmed39 s.vm) (hown : s.vm.findClass own = some m.cls) (eT : T.heap = h) {O n d C : String} {a : Addr} {v old : Value} {kk : Nat} {ty : FieldType} (pc' : Nat) (w : (Jvm.Cond.fieldLink own index O n d).before a0 Z = true) (F : Fld Z h a O n d old) (E : Exa Z h a C) (L : (Jvm.Cond.lays C O n d).before a0 Z = true ∨ ((Jvm.Cond.laysFinal C O n d).before a0 Z = true ∧ own = O ∧ meth.name = "<init>")) (wi : (Jvm.Cond.instantiable C kk).before a0 Z = true)
    (hty : parseFieldDescriptor d = some ty) (hn : narrow ty v = v) (hf : fits ty v = true) (hd : decode c.code pc = .ok (.putfield index, 3)) (hp : pc + 3 = pc')
    (k : ∀ T' h', Stand p l e R s m args below meth c T' (locs ++ [⟨a, Jvm.RoadKit.slotOf Z O n d⟩]) cells slots → T'.heap = h' → Wr h h' a (Jvm.RoadKit.slotOf Z O n d) v → own_W p e below K T' (mkF m pc' Ls S)) : own_W p e below K T (mkF m pc Ls (v :: .ref a :: S)) := by
  subst hp
  obtain ⟨T', h', X', e', W, st⟩ := putF X hx hZ hown (host := "") (Or.inl w) Via.refl eT F E L wi hty hn hf (g := mkF m pc Ls (v :: .ref a :: S)) rfl rfl hd
  exact own_s st (k T' h' X' e' W)
theorem own_putZ (X : Stand p l e R s m args below meth c T locs cells slots) (hx : p.tables.exec = Jvm.exec) (hZ : Z.Warmed39 s.vm) (hown : s.vm.findClass own = some m.cls) (eT : T.heap = h) {O n d C : String} {a : Addr} {v : Int32} {old : Value} {kk : Nat} (pc' : Nat) (w : (Jvm.Cond.fieldLink own index O n d).before a0 Z = true) (F : Fld Z h a O n d old) (E : Exa Z h a C) (L : (Jvm.Cond.lays C O n d).before a0 Z = true ∨ ((Jvm.Cond.laysFinal C O n d).before a0 Z = true ∧ own = O ∧ meth.name = "<init>")) (wi : (Jvm.Cond.instantiable C kk).before a0 Z = true)
    (hty : parseFieldDescriptor d = some .boolean) (hd : decode c.code pc = .ok (.putfield index, 3)) (hp : pc + 3 = pc')
    (k : ∀ T' h', Stand p l e R s m args below meth c T' (locs ++ [⟨a, Jvm.RoadKit.slotOf Z O n d⟩]) cells slots → T'.heap = h' → Wr h h' a (Jvm.RoadKit.slotOf Z O n d) (.int (v &&& 1)) → own_W p e below K T' (mkF m pc' Ls S)) : own_W p e below K T (mkF m pc Ls (.int v :: .ref a :: S)) := by
  subst hp
  obtain ⟨T', h', X', e', W, st⟩ := putFN X hx hZ hown w Via.refl eT F E L wi (ty := .boolean) (v' := .int (nar .boolean v)) hty rfl (fits_nar_bool _) (g := mkF m pc Ls (.int v :: .ref a :: S)) rfl rfl hd
  exact own_s st (k T' h' X' e' W)
theorem own_new (X : Stand p l e R s m args below meth c T locs cells slots) (hx : p.tables.exec = Jvm.exec) (hZ : Z.Warmed39 s.vm) (hown : s.vm.findClass own = some m.cls) (eT : T.heap = h) {C : String} {n : Nat} (pc' : Nat) (w : (Jvm.Cond.classLink own index C).before a0 Z = true) (wi : (Jvm.Cond.instantiable C n).before a0 Z = true) (wz : (Jvm.Cond.initialized C).before a0 Z = true) (hd : decode c.code pc = .ok (.new index, 3)) (hp : pc + 3 = pc') (hc : cells + 1 ≤ R.cells) (hl : slots + n ≤ R.slots)
    (k : ∀ T' h' a, Stand p l e R s m args below meth c T' locs (cells + 1) (slots + n) → T'.heap = h' → a = h.size → Ext h h' → Exa Z h' a C → (∀ {O nm d : String} {ty : FieldType}, Laid Z a0 C O nm d → parseFieldDescriptor d = some ty → Fld Z h' a O nm d (defaultValue ty)) → own_W p e below K T' (mkF m pc' Ls (.ref a :: S))) : own_W p e below K T (mkF m pc Ls S) := by
  subst hp
  obtain ⟨T', h', X', e', E, A, D, -, st⟩ := newO X hx hZ hown w wi wz eT (g := mkF m pc Ls S) rfl hd hc hl
  exact own_s st (k T' h' _ X' e' rfl E A D)
theorem own_initO (X : Stand p l e R s m args below meth c T locs cells slots) (hx : p.tables.exec = Jvm.exec) (hZ : Z.Warmed39 s.vm) (hown : s.vm.findClass own = some m.cls) (eT : T.heap = h) {a : Addr} {W : Nat} (pc' : Nat) (w1 : (Jvm.Cond.methodLink own index Lib.objectInit).before a0 Z = true) (w2 : (Jvm.Cond.instanceMethod Lib.objectInit).before a0 Z = true) (w3 : (Jvm.Cond.code Lib.objectInit ⟨#[0xb1]⟩ 1 none).before a0 Z = true) (hsize : Ls.size = c.maxLocals) (hd : decode c.code pc = .ok (.invokespecial index, 3)) (hp : pc + 3 = pc')
    (hf : 1 ≤ R.frames) (hW : (S.map fun v => v.category).sum = W) (hl : W + 12 ≤ R.locals)
    (k : ∀ T', Stand p l e R s m args below meth c T' locs cells slots → T'.heap = h → own_W p e below K T' (mkF m pc' Ls S)) : own_W p e below K T (mkF m pc Ls (.ref a :: S)) := by
  subst hp
  obtain ⟨T', X', e', st⟩ := initO X hx hZ hown w1 w2 w3 eT (g := mkF m pc Ls (.ref a :: S)) rfl hsize rfl hd hf (W := W) (by show 2 * 0 + _ ≤ _; rw [hW]; omega) hl
  exact own_s st (k T' X' e')
theorem own_callS (X : Stand p l e R s m args below meth c T locs cells slots) (hx : p.tables.exec = Jvm.exec) (hZ : Z.Warmed39 s.vm) (hown : s.vm.findClass own = some m.cls) (eT : T.heap = h) {argsL rest : List Value} {W : Nat} (pc' : Nat) (hM : own_C l Z y bytes maxL ret [] rm argsL.toArray h Q) (w1 : (Jvm.Cond.methodLink own index y).before a0 Z = true) (w2 : (Jvm.Cond.static y).before a0 Z = true) (w3 : (Jvm.Cond.initialized y.cls).before a0 Z = true) (w4 : (Jvm.Cond.code y bytes maxL ret).before a0 Z = true)
    (hy : y.cls ≠ "java/lang/invoke/MethodHandle" ∧ y.cls ≠ "java/lang/invoke/VarHandle") (hsize : Ls.size = c.maxLocals) (hlen : ∀ sig, parseMethodDescriptor y.desc = some sig → argsL.length = sig.parameters.length) (hst : S = argsL.reverse ++ rest) (hd : decode c.code pc = .ok (.invokestatic index, 3)) (hp : pc + 3 = pc')
    (hW : (rest.map fun v => v.category).sum = W) (hf : rm.frames + 1 ≤ R.frames) (hl : W + (maxL + 11) + rm.locals ≤ R.locals) (hc : cells + rm.cells ≤ R.cells) (hs : slots + rm.slots ≤ R.slots)
    (k : ∀ v T' L, Stand p l e R s m args below meth c T' (locs ++ L) (cells + rm.cells) (slots + rm.slots) → Q v T'.heap L → own_W p e below K T' (mkF m pc' Ls (v.toList ++ rest))) : own_W p e below K T (mkF m pc Ls S) := by
  subst hp hst
  obtain ⟨v, vm₁, ⟨T', L', k', n'⟩, -, X', ⟨L, hQ, l1, y1, z1⟩, st⟩ := Jvm.LawKit.callS X hx (y := y) hown (mvT hZ w1) (mvT hZ w2) (mvT hZ w3) (mvT hZ w4) hy (backOf (W := W) hM hZ w4 w3 hf hl) (g := mkF m pc Ls (argsL.reverse ++ rest)) rfl hsize (argsL := argsL) (rest := rest) hlen rfl (by show 2 * 0 + _ ≤ _; rw [hW]; omega) hd (fun _ _ => ⟨rfl, eT, hc, hs⟩)
  dsimp only [Pt.U, Pt.locs, Pt.cells, Pt.slots] at X' l1 y1 z1 st hQ
  subst l1 y1 z1
  exact own_s st (k v T' L X' hQ)
theorem own_callI (X : Stand p l e R s m args below meth c T locs cells slots) (hx : p.tables.exec = Jvm.exec) (hZ : Z.Warmed39 s.vm) (hown : s.vm.findClass own = some m.cls) (eT : T.heap = h) {a : Addr} {argsL rest : List Value} {W : Nat} (pc' : Nat) (hM : own_C l Z y bytes maxL none [] rm (.ref a :: argsL).toArray h Q) (hn : y.name = "<init>") (w1 : (Jvm.Cond.methodLink own index y).before a0 Z = true) (w2 : (Jvm.Cond.instanceMethod y).before a0 Z = true) (w3 : (Jvm.Cond.initialized y.cls).before a0 Z = true) (w4 : (Jvm.Cond.code y bytes maxL none).before a0 Z = true)
    (hy : y.cls ≠ "java/lang/invoke/MethodHandle" ∧ y.cls ≠ "java/lang/invoke/VarHandle") (hsize : Ls.size = c.maxLocals) (hlen : ∀ sig, parseMethodDescriptor y.desc = some sig → argsL.length = sig.parameters.length) (hst : S = argsL.reverse ++ .ref a :: rest) (hd : decode c.code pc = .ok (.invokespecial index, 3)) (hp : pc + 3 = pc')
    (hW : (rest.map fun v => v.category).sum = W) (hf : rm.frames + 1 ≤ R.frames) (hl : W + (maxL + 11) + rm.locals ≤ R.locals) (hc : cells + rm.cells ≤ R.cells) (hs : slots + rm.slots ≤ R.slots)
    (k : ∀ v T' L, Stand p l e R s m args below meth c T' (locs ++ L) (cells + rm.cells) (slots + rm.slots) → Q v T'.heap L → own_W p e below K T' (mkF m pc' Ls (v.toList ++ rest))) : own_W p e below K T (mkF m pc Ls S) := by
  subst hp hst
  obtain ⟨v, vm₁, ⟨T', L', k', n'⟩, -, X', ⟨L, hQ, l1, y1, z1⟩, st⟩ := X.specialBack hx (y := y) hn hown (mvT hZ w1) (mvT hZ w2) (mvT hZ w4) hy (backOf (W := W) hM hZ w4 w3 hf hl) (g := mkF m pc Ls (argsL.reverse ++ .ref a :: rest)) rfl hsize (Steps.refl _) (a := a) (argsL := argsL) (rest := rest) hlen rfl (by show 2 * 0 + _ ≤ _; rw [hW]; omega) hd (fun _ _ => ⟨rfl, eT, hc, hs⟩)
  dsimp only [Pt.U, Pt.locs, Pt.cells, Pt.slots] at X' l1 y1 z1 st hQ
  subst l1 y1 z1
  exact own_s' st (k v T' L X' hQ)
theorem own_callV (X : Stand p l e R s m args below meth c T locs cells slots) (hx : p.tables.exec = Jvm.exec) (hZ : Z.Warmed39 s.vm) (hown : s.vm.findClass own = some m.cls) (eT : T.heap = h) {a : Addr} {argsL rest : List Value} {W : Nat} (pc' : Nat) (hM : own_C l Z y bytes maxL ret [] rm (.ref a :: argsL).toArray h Q) (E : Exa Z h a y.cls) (w1 : (Jvm.Cond.methodLink own index y).before a0 Z = true) (w2 : (Jvm.Cond.declares y).before a0 Z = true) (w5 : (Jvm.Cond.selects y.cls y y).before a0 Z = true) (w6 : (Jvm.Cond.instanceMethod y).before a0 Z = true) (w3 : (Jvm.Cond.initialized y.cls).before a0 Z = true) (w4 : (Jvm.Cond.code y bytes maxL ret).before a0 Z = true)
    (hy : y.cls ≠ "java/lang/invoke/MethodHandle" ∧ y.cls ≠ "java/lang/invoke/VarHandle") (hsize : Ls.size = c.maxLocals) (hlen : ∀ sig, parseMethodDescriptor y.desc = some sig → argsL.length = sig.parameters.length) (hst : S = argsL.reverse ++ .ref a :: rest) (hd : decode c.code pc = .ok (.invokevirtual index, 3)) (hp : pc + 3 = pc')
    (hW : (rest.map fun v => v.category).sum = W) (hf : rm.frames + 1 ≤ R.frames) (hl : W + (maxL + 11) + rm.locals ≤ R.locals) (hc : cells + rm.cells ≤ R.cells) (hs : slots + rm.slots ≤ R.slots)
    (k : ∀ v T' L, Stand p l e R s m args below meth c T' (locs ++ L) (cells + rm.cells) (slots + rm.slots) → Q v T'.heap L → own_W p e below K T' (mkF m pc' Ls (v.toList ++ rest))) : own_W p e below K T (mkF m pc Ls S) := by
  subst hp hst
  obtain ⟨cq, kq, qa, qb, qc⟩ := isOf hZ eT E
  obtain ⟨v, vm₁, ⟨T', L', k', n'⟩, -, X', ⟨L, hQ, l1, y1, z1⟩, st⟩ := X.virtualBack hx (y := y) (z := y) hown (mvT hZ w1) (mvT hZ w2) (notFace_of_selects (args := #[]) (mvT hZ w5)) (mvT hZ w5) (mvT hZ w6) hy (backOf (W := W) hM hZ w4 w3 hf hl) qa qc (g := mkF m pc Ls (argsL.reverse ++ .ref a :: rest)) rfl hsize (Steps.refl _) (argsL := argsL) (rest := rest) hlen rfl (by show 2 * 0 + _ ≤ _; rw [hW]; omega) hd (fun _ _ => ⟨rfl, eT, hc, hs⟩)
  dsimp only [Pt.U, Pt.locs, Pt.cells, Pt.slots] at X' l1 y1 z1 st hQ
  subst l1 y1 z1
  exact own_s' st (k v T' L X' hQ)
/-- an array of ints (bytes, booleans): n places, place j holds f j -/
def own_AI (Z : State) (h : Heap) (a : Addr) (ty : FieldType) (n : Nat) (f : Nat → Int32) : Prop := ∃ c : Cell, Arr Z h a c ty ∧ c.slots.size = n ∧ ∀ j, j < n → c.slots[j]? = some (.int (f j))
def own_AJ (Z : State) (h : Heap) (a : Addr) (n : Nat) (f : Nat → Int64) : Prop := ∃ c : Cell, Arr Z h a c .long ∧ c.slots.size = n ∧ ∀ j, j < n → c.slots[j]? = some (.long (f j))
section Arrs
variable {a b : Addr} {n i : Nat} {ty : FieldType} {f : Nat → Int32} {fj : Nat → Int64} {j : Int32} {ws : List Addr} {v : Value} {sl : Nat}
theorem own_AI.lt (A : own_AI Z h a ty n f) : a < h.size := by obtain ⟨c, A, -⟩ := A; exact A.lt
theorem own_AJ.lt (A : own_AJ Z h a n fj) : a < h.size := by obtain ⟨c, A, -⟩ := A; exact A.lt
theorem own_AI.ext (A : own_AI Z h a ty n f) (E : Ext h h') : own_AI Z h' a ty n f := by obtain ⟨c, A, r⟩ := A; exact ⟨c, A.ext E, r⟩
theorem own_AJ.ext (A : own_AJ Z h a n fj) (E : Ext h h') : own_AJ Z h' a n fj := by obtain ⟨c, A, r⟩ := A; exact ⟨c, A.ext E, r⟩
theorem own_AI.other (A : own_AI Z h a ty n f) (W : Wr h h' b sl v) (q : a ≠ b) : own_AI Z h' a ty n f := by obtain ⟨c, A, r⟩ := A; exact ⟨c, A.other W q, r⟩
theorem own_AJ.other (A : own_AJ Z h a n fj) (W : Wr h h' b sl v) (q : a ≠ b) : own_AJ Z h' a n fj := by obtain ⟨c, A, r⟩ := A; exact ⟨c, A.other W q, r⟩
theorem own_AI.keep (A : own_AI Z h a ty n f) (K : Keep h h' ws) (q : a ∉ ws) : own_AI Z h' a ty n f := by obtain ⟨c, A, r⟩ := A; exact ⟨c, ⟨K.2.1 a c A.1 q, A.2⟩, r⟩
theorem own_AJ.keep (A : own_AJ Z h a n fj) (K : Keep h h' ws) (q : a ∉ ws) : own_AJ Z h' a n fj := by obtain ⟨c, A, r⟩ := A; exact ⟨c, ⟨K.2.1 a c A.1 q, A.2⟩, r⟩
theorem own_AI.set {x : Int32} (A : own_AI Z h a ty n f) (W : Wr h h' a i (.int x)) : own_AI Z h' a ty n (fun q => if q = i then x else f q) := by
  obtain ⟨c, A, S, H⟩ := A
  refine ⟨_, A.same W, by rw [sz_set]; exact S, fun q hq => ?_⟩
  by_cases e : q = i
  · subst e; simp [Cell.setSlot, S, hq]
  · simp only [Cell.setSlot, if_neg e]; rw [Array.getElem?_setIfInBounds_ne (Ne.symm e)]; exact H q hq
theorem own_AJ.set {x : Int64} (A : own_AJ Z h a n fj) (W : Wr h h' a i (.long x)) : own_AJ Z h' a n (fun q => if q = i then x else fj q) := by
  obtain ⟨c, A, S, H⟩ := A
  refine ⟨_, A.same W, by rw [sz_set]; exact S, fun q hq => ?_⟩
  by_cases e : q = i
  · subst e; simp [Cell.setSlot, S, hq]
  · simp only [Cell.setSlot, if_neg e]; rw [Array.getElem?_setIfInBounds_ne (Ne.symm e)]; exact H q hq
theorem own_AI.congr {g : Nat → Int32} (A : own_AI Z h a ty n f) (q : ∀ j, j < n → f j = g j) : own_AI Z h a ty n g := by obtain ⟨c, A, S, H⟩ := A; exact ⟨c, A, S, fun j hj => by rw [← q j hj]; exact H j hj⟩
theorem own_AJ.congr {g : Nat → Int64} (A : own_AJ Z h a n fj) (q : ∀ j, j < n → fj j = g j) : own_AJ Z h a n g := by obtain ⟨c, A, S, H⟩ := A; exact ⟨c, A, S, fun j hj => by rw [← q j hj]; exact H j hj⟩
theorem own_nat {j : Int32} {i : Nat} (q : j.toInt = i) : j.toNatClampNeg = i := by show j.toInt.toNat = i; rw [q]; exact Int.toNat_natCast i
theorem own_inb {j : Int32} {i n : Nat} (q : j.toInt = i) (r : i < n) {k : Nat} (e : k = n) : ¬ (j < 0 ∨ k ≤ j.toNatClampNeg) := by
  rw [own_nat q]; rintro (u | u)
  · rw [Int32.lt_iff_toInt_lt] at u; rw [q] at u; have : (0 : Int32).toInt = 0 := rfl; omega
  · omega
theorem own_iaload (X : Stand p l e R s m args below meth c T locs cells slots) (hx : p.tables.exec = Jvm.exec) (hZ : Z.Warmed39 s.vm) (eT : T.heap = h) (pc' : Nat) (i : Nat) (A : own_AI Z h a .int n f) (hj : j.toInt = i) (hi : i < n) (hd : decode c.code pc = .ok (.iaload, 1)) (hp : pc + 1 = pc') (k : own_W p e below K T (mkF m pc' Ls (.int (f i) :: S))) : own_W p e below K T (mkF m pc Ls (.int j :: .ref a :: S)) := by
  subst hp
  obtain ⟨cl, A, Sz, H⟩ := A
  exact own_s (fun t => X.iaload hx (j := j) (by rw [eT]; exact A.1) (State.isArrayOf_alike hZ.alike A.2.1) A.2.2 (own_inb hj hi Sz) (by rw [own_nat hj]; exact H i hi) (g := mkF m pc Ls (.int j :: .ref a :: S)) rfl rfl hd t) k
theorem own_baload (X : Stand p l e R s m args below meth c T locs cells slots) (hx : p.tables.exec = Jvm.exec) (hZ : Z.Warmed39 s.vm) (eT : T.heap = h) (pc' : Nat) (i : Nat) (A : own_AI Z h a .byte n f) (hj : j.toInt = i) (hi : i < n) (hd : decode c.code pc = .ok (.baload, 1)) (hp : pc + 1 = pc') (k : own_W p e below K T (mkF m pc' Ls (.int (f i) :: S))) : own_W p e below K T (mkF m pc Ls (.int j :: .ref a :: S)) := by
  subst hp
  obtain ⟨cl, A, Sz, H⟩ := A
  exact own_s (fun t => X.baloadBytes hx (j := j) (by rw [eT]; exact A.1) (State.isArrayOf_alike hZ.alike A.2.1) A.2.2 (own_inb hj hi Sz) (by rw [own_nat hj]; exact H i hi) (g := mkF m pc Ls (.int j :: .ref a :: S)) rfl rfl hd t) k
theorem own_laload (X : Stand p l e R s m args below meth c T locs cells slots) (hx : p.tables.exec = Jvm.exec) (hZ : Z.Warmed39 s.vm) (eT : T.heap = h) (pc' : Nat) (i : Nat) (A : own_AJ Z h a n fj) (hj : j.toInt = i) (hi : i < n) (hd : decode c.code pc = .ok (.laload, 1)) (hp : pc + 1 = pc') (k : own_W p e below K T (mkF m pc' Ls (.long (fj i) :: S))) : own_W p e below K T (mkF m pc Ls (.int j :: .ref a :: S)) := by
  subst hp
  obtain ⟨cl, A, Sz, H⟩ := A
  exact own_s (fun t => X.laload hx (j := j) (by rw [eT]; exact A.1) (State.isArrayOf_alike hZ.alike A.2.1) A.2.2 (own_inb hj hi Sz) (by rw [own_nat hj]; exact H i hi) (g := mkF m pc Ls (.int j :: .ref a :: S)) rfl rfl hd t) k
theorem own_iastore (X : Stand p l e R s m args below meth c T locs cells slots) (hx : p.tables.exec = Jvm.exec) (hZ : Z.Warmed39 s.vm) (eT : T.heap = h) {x : Int32} (pc' : Nat) (i : Nat) (A : own_AI Z h a .int n f) (hj : j.toInt = i) (hi : i < n) (hd : decode c.code pc = .ok (.iastore, 1)) (hp : pc + 1 = pc')
    (k : ∀ T' h', Stand p l e R s m args below meth c T' (locs ++ [⟨a, i⟩]) cells slots → T'.heap = h' → Wr h h' a i (.int x) → own_W p e below K T' (mkF m pc' Ls S)) : own_W p e below K T (mkF m pc Ls (.int x :: .int j :: .ref a :: S)) := by
  subst hp
  obtain ⟨cl, A, Sz, H⟩ := A
  obtain ⟨T', h', X', e', W, st⟩ := stI X hx hZ eT A (j := j) (own_inb hj hi Sz) (g := mkF m pc Ls (.int x :: .int j :: .ref a :: S)) rfl rfl hd
  rw [own_nat hj] at X' W
  exact own_s st (k T' h' X' e' W)
theorem own_bastore (X : Stand p l e R s m args below meth c T locs cells slots) (hx : p.tables.exec = Jvm.exec) (hZ : Z.Warmed39 s.vm) (eT : T.heap = h) {x : Int32} (pc' : Nat) (i : Nat) (A : own_AI Z h a .byte n f) (hj : j.toInt = i) (hi : i < n) (hd : decode c.code pc = .ok (.bastore, 1)) (hp : pc + 1 = pc')
    (k : ∀ T' h', Stand p l e R s m args below meth c T' (locs ++ [⟨a, i⟩]) cells slots → T'.heap = h' → Wr h h' a i (.int x.toInt8.toInt32) → own_W p e below K T' (mkF m pc' Ls S)) : own_W p e below K T (mkF m pc Ls (.int x :: .int j :: .ref a :: S)) := by
  subst hp
  obtain ⟨cl, A, Sz, H⟩ := A
  obtain ⟨T', h', X', e', W, st⟩ := stB X hx hZ eT A (j := j) (own_inb hj hi Sz) (g := mkF m pc Ls (.int x :: .int j :: .ref a :: S)) rfl rfl hd
  rw [own_nat hj] at X' W
  exact own_s st (k T' h' X' e' W)
theorem own_lastore (X : Stand p l e R s m args below meth c T locs cells slots) (hx : p.tables.exec = Jvm.exec) (hZ : Z.Warmed39 s.vm) (eT : T.heap = h) {x : Int64} (pc' : Nat) (i : Nat) (A : own_AJ Z h a n fj) (hj : j.toInt = i) (hi : i < n) (hd : decode c.code pc = .ok (.lastore, 1)) (hp : pc + 1 = pc')
    (k : ∀ T' h', Stand p l e R s m args below meth c T' (locs ++ [⟨a, i⟩]) cells slots → T'.heap = h' → Wr h h' a i (.long x) → own_W p e below K T' (mkF m pc' Ls S)) : own_W p e below K T (mkF m pc Ls (.long x :: .int j :: .ref a :: S)) := by
  subst hp
  obtain ⟨cl, A, Sz, H⟩ := A
  obtain ⟨T', h', X', e', W, st⟩ := stJ X hx hZ eT A (j := j) (own_inb hj hi Sz) (g := mkF m pc Ls (.long x :: .int j :: .ref a :: S)) rfl rfl hd
  rw [own_nat hj] at X' W
  exact own_s st (k T' h' X' e' W)
theorem own_arraylength (X : Stand p l e R s m args below meth c T locs cells slots) (hx : p.tables.exec = Jvm.exec) (hZ : Z.Warmed39 s.vm) (eT : T.heap = h) (pc' : Nat) {z : Int32} (A : own_AI Z h a ty n f) (hz : z.toInt = n) (hd : decode c.code pc = .ok (.arraylength, 1)) (hp : pc + 1 = pc') (k : own_W p e below K T (mkF m pc' Ls (.int z :: S))) : own_W p e below K T (mkF m pc Ls (.ref a :: S)) := by
  subst hp
  obtain ⟨cl, A, Sz, H⟩ := A
  have q : cl.slots.size.toInt32 = z := len_of (by rw [Sz, own_nat hz]) (fun u => by rw [Int32.lt_iff_toInt_lt, hz] at u; have : (0 : Int32).toInt = 0 := rfl; omega)
  rw [← q] at k
  exact own_s (fun t => X.arraylength hx (by rw [eT]; exact A.1) (State.isArrayOf_alike hZ.alike A.2.1) (g := mkF m pc Ls (.ref a :: S)) rfl rfl hd t) k
theorem own_arraylengthJ (X : Stand p l e R s m args below meth c T locs cells slots) (hx : p.tables.exec = Jvm.exec) (hZ : Z.Warmed39 s.vm) (eT : T.heap = h) (pc' : Nat) {z : Int32} (A : own_AJ Z h a n fj) (hz : z.toInt = n) (hd : decode c.code pc = .ok (.arraylength, 1)) (hp : pc + 1 = pc') (k : own_W p e below K T (mkF m pc' Ls (.int z :: S))) : own_W p e below K T (mkF m pc Ls (.ref a :: S)) := by
  subst hp
  obtain ⟨cl, A, Sz, H⟩ := A
  have q : cl.slots.size.toInt32 = z := len_of (by rw [Sz, own_nat hz]) (fun u => by rw [Int32.lt_iff_toInt_lt, hz] at u; have : (0 : Int32).toInt = 0 := rfl; omega)
  rw [← q] at k
  exact own_s (fun t => X.arraylength hx (by rw [eT]; exact A.1) (State.isArrayOf_alike hZ.alike A.2.1) (g := mkF m pc Ls (.ref a :: S)) rfl rfl hd t) k
theorem own_newI (X : Stand p l e R s m args below meth c T locs cells slots) (hx : p.tables.exec = Jvm.exec) (hZ : Z.Warmed39 s.vm) (eT : T.heap = h) {aty : ArrayType} {z : Int32} {n cap : Nat} (pc' : Nat) (ty : FieldType) (hty : newarray.typeOf aty = ty) (hdef : defaultValue ty = .int 0) (w : (Jvm.Cond.arrayClass ty).before a0 Z = true) (hz : z.toInt = n) (hcap : n ≤ cap) (hb : cap * 8 ≤ 536870912) (hd : decode c.code pc = .ok (.newarray aty, 2)) (hp : pc + 2 = pc') (hc : cells + 1 ≤ R.cells) (hl : slots + cap ≤ R.slots)
    (k : ∀ T' h' a, Stand p l e R s m args below meth c T' locs (cells + 1) (slots + cap) → T'.heap = h' → a = h.size → Ext h h' → own_AI Z h' a ty n (fun _ => 0) → own_W p e below K T' (mkF m pc' Ls (.ref a :: S))) : own_W p e below K T (mkF m pc Ls (.int z :: S)) := by
  subst hp hty
  obtain ⟨T', h', cA, X', e', E, A, st⟩ := newP X hx hZ w eT (g := mkF m pc Ls (.int z :: S)) rfl hd rfl (fun u => by rw [Int32.lt_iff_toInt_lt, hz] at u; have : (0 : Int32).toInt = 0 := rfl; omega) (cap := cap) (by rw [own_nat hz]; exact hcap) hb hc hl
  refine own_s st (k T' h' _ X' e' rfl E ⟨_, A, by rw [sz_new, own_nat hz], fun j hj => ?_⟩)
  simp [newA, own_nat hz, hj, hdef]
theorem own_newJ (X : Stand p l e R s m args below meth c T locs cells slots) (hx : p.tables.exec = Jvm.exec) (hZ : Z.Warmed39 s.vm) (eT : T.heap = h) {z : Int32} {n cap : Nat} (pc' : Nat) (w : (Jvm.Cond.arrayClass .long).before a0 Z = true) (hz : z.toInt = n) (hcap : n ≤ cap) (hb : cap * 8 ≤ 536870912) (hd : decode c.code pc = .ok (.newarray .long, 2)) (hp : pc + 2 = pc') (hc : cells + 1 ≤ R.cells) (hl : slots + cap ≤ R.slots)
    (k : ∀ T' h' a, Stand p l e R s m args below meth c T' locs (cells + 1) (slots + cap) → T'.heap = h' → a = h.size → Ext h h' → own_AJ Z h' a n (fun _ => 0) → own_W p e below K T' (mkF m pc' Ls (.ref a :: S))) : own_W p e below K T (mkF m pc Ls (.int z :: S)) := by
  subst hp
  obtain ⟨T', h', cA, X', e', E, A, st⟩ := newP X hx hZ (aty := .long) w eT (g := mkF m pc Ls (.int z :: S)) rfl hd rfl (fun u => by rw [Int32.lt_iff_toInt_lt, hz] at u; have : (0 : Int32).toInt = 0 := rfl; omega) (cap := cap) (by rw [own_nat hz]; exact hcap) hb hc hl
  refine own_s st (k T' h' _ X' e' rfl E ⟨_, A, by rw [sz_new, own_nat hz], fun j hj => ?_⟩)
  simp [newA, own_nat hz, hj, newarray.typeOf, defaultValue]
end Arrs
end Heaps
end OwnLayer
theorem own_toInt (x : Int32) : x.toInt = if x.toBitVec.toNat < 2147483648 then (x.toBitVec.toNat : Int) else (x.toBitVec.toNat : Int) - 4294967296 := by
  show x.toBitVec.toInt = _
  rw [BitVec.toInt_eq_toNat_cond]; split <;> split <;> omega
theorem own_toIntL (x : Int64) : x.toInt = if x.toBitVec.toNat < 9223372036854775808 then (x.toBitVec.toNat : Int) else (x.toBitVec.toNat : Int) - 18446744073709551616 := by
  show x.toBitVec.toInt = _
  rw [BitVec.toInt_eq_toNat_cond]; split <;> split <;> omega
theorem own_shl (x : Int64) (q : Int32) (k : Nat) (hk : q.toBitVec.toNat % 64 = k) : (x <<< (q &&& 0x3f).toInt64).toBitVec = x.toBitVec <<< k := by
  obtain ⟨h1, h2⟩ := sm64 q k hk
  show x.toBitVec <<< ((q &&& 0x3f).toInt64.toBitVec.smod 64) = _
  rw [h1, BitVec.shiftLeft_eq', smod64 k h2]
theorem own_ushr (x : Int64) (q : Int32) (k : Nat) (hk : q.toBitVec.toNat % 64 = k) : ((x.toUInt64 >>> (q &&& 0x3f).toInt64.toUInt64).toInt64).toBitVec = x.toBitVec >>> k := by
  obtain ⟨h1, h2⟩ := sm64 q k hk
  show x.toBitVec >>> ((q &&& 0x3f).toInt64.toBitVec % 64) = _
  rw [h1, BitVec.ushiftRight_eq']
  congr 1
  simp [BitVec.toNat_umod]; omega
theorem own_natL (c : Int64) (h : 0 ≤ c.toInt) : c.toBitVec.toNat = c.toInt.toNat := by
  have := own_toIntL c
  have := c.toBitVec.isLt
  split at * <;> omega
theorem own_l2iB (c : Int64) : c.toInt32.toBitVec.toNat = c.toBitVec.toNat % 4294967296 := by
  have h1 := c_l2i c
  have h2 := own_toInt c.toInt32
  have h3 := own_toIntL c
  have h4 := c.toBitVec.isLt
  have h5 := c.toInt32.toBitVec.isLt
  split at h2 <;> split at h3 <;> omega
def own_bit (f : Nat → Int64) (b : Nat) : Bool := (f (b / 64)).toBitVec.getLsbD (b % 64)
def own_put (f g : Nat → Int64) (B W : Nat) (v : Int64) : Prop := ∀ b, own_bit g b = if B ≤ b ∧ b < B + W then v.toBitVec.getLsbD (b - B) else own_bit f b
theorem own_gshl (x : Int64) (q : Int32) (k : Nat) (hk : q.toInt = k) (hk2 : k < 64) (j : Nat) : (x <<< (q &&& 0x3f).toInt64).toBitVec.getLsbD j = (decide (j < 64) && !decide (j < k) && x.toBitVec.getLsbD (j - k)) := by
  have h := own_toInt q
  rw [own_shl x q k (by split at h <;> omega), BitVec.getLsbD_shiftLeft]
theorem own_gushr (x : Int64) (q : Int32) (k : Nat) (hk : q.toInt = k) (hk2 : k < 64) (j : Nat) : ((x.toUInt64 >>> (q &&& 0x3f).toInt64.toUInt64).toInt64).toBitVec.getLsbD j = x.toBitVec.getLsbD (k + j) := by
  have h := own_toInt q
  rw [own_ushr x q k (by split at h <;> omega), BitVec.getLsbD_ushiftRight]
theorem own_gand (x y : Int64) (j : Nat) : (x &&& y).toBitVec.getLsbD j = (x.toBitVec.getLsbD j && y.toBitVec.getLsbD j) := by
  show (x.toBitVec &&& y.toBitVec).getLsbD j = _; rw [BitVec.getLsbD_and]
theorem own_gor (x y : Int64) (j : Nat) : (x ||| y).toBitVec.getLsbD j = (x.toBitVec.getLsbD j || y.toBitVec.getLsbD j) := by
  show (x.toBitVec ||| y.toBitVec).getLsbD j = _; rw [BitVec.getLsbD_or]
theorem own_gnot (x : Int64) (j : Nat) (hj : j < 64) : (x ^^^ (-1 : Int64)).toBitVec.getLsbD j = !x.toBitVec.getLsbD j := by
  show (x.toBitVec ^^^ BitVec.allOnes 64).getLsbD j = _; rw [BitVec.getLsbD_xor, BitVec.getLsbD_allOnes, decide_eq_true hj, Bool.xor_true]
theorem own_ge (x : Int64) (j : Nat) (hj : 64 ≤ j) : x.toBitVec.getLsbD j = false := BitVec.getLsbD_of_ge _ _ hj
theorem own_ext (x y : Int64) (h : ∀ j, j < 64 → x.toBitVec.getLsbD j = y.toBitVec.getLsbD j) : x = y := by
  rw [← Int64.toBitVec_inj]; exact BitVec.eq_of_getLsbD_eq h
theorem own_getP1 (f : Nat → Int64) (B W : Nat) (mk : Int64) (s : Int32) (hs : s.toInt = ((B % 64 : Nat) : Int)) (hm : ∀ j, mk.toBitVec.getLsbD j = decide (j < W)) (h : B % 64 + W ≤ 64) (j : Nat) : ((((f (B / 64)).toUInt64 >>> (s &&& 0x3f).toInt64.toUInt64).toInt64) &&& mk).toBitVec.getLsbD j = (decide (j < W) && own_bit f (B + j)) := by
  rw [own_gand, own_gushr _ _ _ hs (Nat.mod_lt _ (by decide)), hm]
  by_cases q : j < W
  · have e1 : (B + j) / 64 = B / 64 := by omega
    have e2 : (B + j) % 64 = B % 64 + j := by omega
    simp [q, own_bit, e1, e2]
  · simp [q]
theorem own_getP2 (f : Nat → Int64) (B W : Nat) (mk : Int64) (s : Int32) (hs : s.toInt = ((B % 64 : Nat) : Int)) (hm : ∀ j, mk.toBitVec.getLsbD j = decide (j < W)) (hW : W ≤ 64) (h : 64 < B % 64 + W) (j : Nat) : (((((f (B / 64)).toUInt64 >>> (s &&& 0x3f).toInt64.toUInt64).toInt64) ||| ((f (B / 64 + 1)) <<< (((64 : Int32) - s) &&& 0x3f).toInt64)) &&& mk).toBitVec.getLsbD j = (decide (j < W) && own_bit f (B + j)) := by
  have hl : ((64 : Int32) - s).toInt = ((64 - B % 64 : Nat) : Int) := by
    have h1 := c_isub 64 s
    have h2 := rng32 (64 - s)
    have k : (64 : Int32).toInt = 64 := by decide
    omega
  rw [own_gand, own_gor, own_gushr _ _ _ hs (Nat.mod_lt _ (by decide)), own_gshl _ _ _ hl (by omega), hm]
  by_cases q : j < W
  · by_cases r : j < 64 - B % 64
    · have e1 : (B + j) / 64 = B / 64 := by omega
      have e2 : (B + j) % 64 = B % 64 + j := by omega
      simp [q, own_bit, e1, e2, r]
    · have e1 : (B + j) / 64 = B / 64 + 1 := by omega
      have e2 : (B + j) % 64 = j - (64 - B % 64) := by omega
      rw [own_ge _ (B % 64 + j) (by omega)]
      have q2 : j < 64 := by omega
      simp [q, own_bit, e1, e2, r, q2]
  · simp [q]
theorem own_setP1 (f : Nat → Int64) (B W : Nat) (mk v : Int64) (s : Int32) (hs : s.toInt = ((B % 64 : Nat) : Int)) (hm : ∀ j, mk.toBitVec.getLsbD j = decide (j < W)) (hv : ∀ j, W ≤ j → v.toBitVec.getLsbD j = false) (h : B % 64 + W ≤ 64) : own_put f (fun q => if q = B / 64 then ((f (B / 64) &&& ((mk <<< (s &&& 0x3f).toInt64) ^^^ (-1 : Int64))) ||| (v <<< (s &&& 0x3f).toInt64)) else f q) B W v := by
  intro b
  have hb : b % 64 < 64 := Nat.mod_lt _ (by decide)
  simp only [own_bit]
  by_cases e : b / 64 = B / 64
  · rw [if_pos e, own_gor, own_gand, own_gnot _ _ hb, own_gshl _ _ _ hs (Nat.mod_lt _ (by decide)), own_gshl _ _ _ hs (Nat.mod_lt _ (by decide)), hm, e]
    by_cases r : B ≤ b ∧ b < B + W
    · have e1 : ¬ b % 64 < B % 64 := by omega
      have e2 : b % 64 - B % 64 < W := by omega
      have e3 : b - B = b % 64 - B % 64 := by omega
      rw [if_pos r, e3]; simp [hb, e1, e2]
    · rw [if_neg r]
      by_cases e1 : b % 64 < B % 64
      · simp [e1]
      · have e2 : ¬ b % 64 - B % 64 < W := by omega
        rw [hv _ (by omega)]
        simp [e2]
  · rw [if_neg e, if_neg (by omega)]
theorem own_setP2 (f : Nat → Int64) (B W : Nat) (mk v : Int64) (s l : Int32) (hs : s.toInt = ((B % 64 : Nat) : Int)) (hl : l.toInt = ((64 - B % 64 : Nat) : Int)) (hm : ∀ j, mk.toBitVec.getLsbD j = decide (j < W)) (hv : ∀ j, W ≤ j → v.toBitVec.getLsbD j = false) (hW : W ≤ 64) (h : 64 < B % 64 + W) (g : Nat → Int64) (hg : g = fun q => if q = B / 64 then ((f (B / 64) &&& ((mk <<< (s &&& 0x3f).toInt64) ^^^ (-1 : Int64))) ||| (v <<< (s &&& 0x3f).toInt64)) else f q) :
    own_put f (fun q => if q = B / 64 + 1 then ((g (B / 64 + 1) &&& (((mk.toUInt64 >>> (l &&& 0x3f).toInt64.toUInt64).toInt64) ^^^ (-1 : Int64))) ||| ((v.toUInt64 >>> (l &&& 0x3f).toInt64.toUInt64).toInt64)) else g q) B W v := by
  intro b
  have hb : b % 64 < 64 := Nat.mod_lt _ (by decide)
  have hg1 : g (B / 64 + 1) = f (B / 64 + 1) := by rw [hg]; simp
  simp only [own_bit, hg1]
  by_cases e0 : b / 64 = B / 64 + 1
  · rw [if_pos e0, own_gor, own_gand, own_gnot _ _ hb, own_gushr _ _ _ hl (by omega), own_gushr _ _ _ hl (by omega), hm, e0]
    by_cases r : B ≤ b ∧ b < B + W
    · have e2 : 64 - B % 64 + b % 64 < W := by omega
      have e3 : b - B = 64 - B % 64 + b % 64 := by omega
      rw [if_pos r, e3]; simp [e2]
    · have e2 : ¬ 64 - B % 64 + b % 64 < W := by omega
      rw [if_neg r, hv _ (by omega)]; simp [e2]
  · rw [if_neg e0, hg]
    simp only
    by_cases e : b / 64 = B / 64
    · rw [if_pos e, own_gor, own_gand, own_gnot _ _ hb, own_gshl _ _ _ hs (Nat.mod_lt _ (by decide)), own_gshl _ _ _ hs (Nat.mod_lt _ (by decide)), hm, e]
      by_cases r : B ≤ b ∧ b < B + W
      · have e1 : ¬ b % 64 < B % 64 := by omega
        have e2 : b % 64 - B % 64 < W := by omega
        have e3 : b - B = b % 64 - B % 64 := by omega
        rw [if_pos r, e3]; simp [hb, e1, e2]
      · rw [if_neg r]
        have e1 : b % 64 < B % 64 := by omega
        simp [e1]
    · rw [if_neg e, if_neg (by omega)]
theorem own_put.hit {f g : Nat → Int64} {B W : Nat} {v : Int64} (h : own_put f g B W v) (j : Nat) (hj : j < W) : own_bit g (B + j) = v.toBitVec.getLsbD j := by
  rw [h, if_pos ⟨by omega, by omega⟩]; congr 1; omega
theorem own_put.miss {f g : Nat → Int64} {B W : Nat} {v : Int64} (h : own_put f g B W v) (b : Nat) (hb : b < B ∨ B + W ≤ b) : own_bit g b = own_bit f b := by
  rw [h, if_neg (by omega)]
theorem own_read {r v : Int64} {g : Nat → Int64} {B W : Nat} (hr : ∀ j, r.toBitVec.getLsbD j = (decide (j < W) && own_bit g (B + j))) (hv : ∀ j, W ≤ j → v.toBitVec.getLsbD j = false) (hb : ∀ j, j < W → own_bit g (B + j) = v.toBitVec.getLsbD j) : r = v := by
  refine own_ext r v fun j _ => ?_
  rw [hr]
  by_cases q : j < W
  · rw [hb j q]; simp [q]
  · rw [hv j (by omega)]; simp [q]
theorem own_b0 (b : Nat) : own_bit (fun _ => 0) b = false := by
  show (0 : Int64).toBitVec.getLsbD _ = false
  show (0#64).getLsbD _ = false
  simp
theorem own_hv {a m v : Int64} {W : Nat} (e : v = a &&& m) (hm : ∀ j, m.toBitVec.getLsbD j = decide (j < W)) (j : Nat) (hj : W ≤ j) : v.toBitVec.getLsbD j = false := by
  rw [e, own_gand, hm]; have : ¬ j < W := by omega
  simp [this]
theorem own_w1 (vb : Int64) (vw : Int32) (B : Nat) (hb : vb.toInt = B) (hB : B < 100000) (e : vw = ((vb.toUInt64 >>> ((6 : Int32) &&& 0x3f).toInt64.toUInt64).toInt64).toInt32) : vw.toInt = ((B / 64 : Nat) : Int) := by
  have h1 := c_lushr vb 6 6 rfl (by decide)
  generalize (vb.toUInt64 >>> ((6 : Int32) &&& 0x3f).toInt64.toUInt64).toInt64 = d at *
  have h2 := c_l2i d
  rw [← e] at h2
  have h3 := rng32 vw
  omega
theorem own_w2 (vb : Int64) (vs : Int32) (B : Nat) (hb : vb.toInt = B) (hB : B < 100000) (e : vs = (vb &&& (63 : Int64)).toInt32) : vs.toInt = ((B % 64 : Nat) : Int) := by
  have h1 := c_maskL vb 63 6 (by decide) rfl
  generalize vb &&& (63 : Int64) = d at *
  have h2 := c_l2i d
  rw [← e] at h2
  have h3 := rng32 vs
  omega
theorem own_c1 (vs w : Int32) (B W : Nat) (hs : vs.toInt = ((B % 64 : Nat) : Int)) (hw : w.toInt = W) (hW : W ≤ 64) : (64 : Int32) < vs + w ↔ 64 < B % 64 + W := by
  have h1 := c_iadd vs w
  have h2 := rng32 (vs + w)
  have k : (64 : Int32).toInt = 64 := by decide
  rw [Int32.lt_iff_toInt_lt, k]
  omega
theorem own_i2 (vw : Int32) (B : Nat) (hw : vw.toInt = ((B / 64 : Nat) : Int)) (hB : B < 100000) : (vw + (1 : Int32)).toInt = ((B / 64 + 1 : Nat) : Int) := by
  have h1 := c_iadd vw 1
  have h2 := rng32 (vw + 1)
  have k : (1 : Int32).toInt = 1 := by decide
  omega
theorem own_l64 (s l : Int32) (B : Nat) (hs : s.toInt = ((B % 64 : Nat) : Int)) (e : l = (64 : Int32) - s) : l.toInt = ((64 - B % 64 : Nat) : Int) := by
  have h1 := c_isub 64 s
  rw [← e] at h1
  have h2 := rng32 l
  have k : (64 : Int32).toInt = 64 := by decide
  omega
theorem own_q1 (x : Int64) (w : Int32) (K W : Nat) (hx : x.toInt = K) (hw : w.toInt = W) (hK : K ≤ 200) (hW : W ≤ 64) : (x * w.toInt64).toInt = ((K * W : Nat) : Int) := by
  have h1 := c_lmul x w.toInt64
  have h2 := rng64 (x * w.toInt64)
  rw [c_i2l, hx, hw] at h1
  have h3 : K * W ≤ 200 * 64 := Nat.mul_le_mul hK hW
  have h4 : (K : Int) * (W : Int) = ((K * W : Nat) : Int) := by simp
  rw [h4] at h1
  omega
theorem own_fit (k W L : Nat) (hk : k + 1 ≤ L) : k * W + W ≤ 64 * ((L * W + 63) / 64) := by
  have h1 : (k + 1) * W ≤ L * W := Nat.mul_le_mul_right W hk
  rw [Nat.add_mul, Nat.one_mul] at h1
  omega
theorem own_kw (k W L : Nat) (hk : k + 1 ≤ L) (hL : L ≤ 200) (hW : W ≤ 64) : k * W < 100000 := by
  have : k * W ≤ 200 * 64 := Nat.mul_le_mul (by omega) hW
  omega
theorem own_mk (w : Int32) (W : Nat) (hw : w.toInt = W) (h1 : 1 ≤ W) (h2 : W ≤ 64) (j : Nat) : (((-1 : Int64).toUInt64 >>> (((64 : Int32) - w) &&& 0x3f).toInt64.toUInt64).toInt64).toBitVec.getLsbD j = decide (j < W) := by
  have hl : ((64 : Int32) - w).toInt = ((64 - W : Nat) : Int) := by
    have h1 := c_isub 64 w
    have h2 := rng32 (64 - w)
    have k : (64 : Int32).toInt = 64 := by decide
    omega
  rw [own_gushr _ _ _ hl (by omega)]
  show (BitVec.allOnes 64).getLsbD _ = _
  rw [BitVec.getLsbD_allOnes, decide_eq_decide]; omega
theorem own_m1 (w : Int32) (W : Nat) (hw : w.toInt = W) (h : w = 64) (j : Nat) : (-1 : Int64).toBitVec.getLsbD j = decide (j < W) := by
  have k : (64 : Int32).toInt = 64 := by decide
  rw [h, k] at hw
  show (BitVec.allOnes 64).getLsbD _ = _
  rw [BitVec.getLsbD_allOnes, decide_eq_decide]; omega
theorem own_m2 (w : Int32) (W : Nat) (hw : w.toInt = W) (h2 : W ≤ 64) (h : ¬ w = 64) (j : Nat) : (((1 : Int64) <<< (w &&& 0x3f).toInt64) - (1 : Int64)).toBitVec.getLsbD j = decide (j < W) := by
  have hW : W < 64 := by
    have k : (64 : Int32).toInt = 64 := by decide
    rw [← Int32.toInt_inj] at h; omega
  have ht := own_toInt w
  have e := own_shl 1 w W (by split at ht <;> omega)
  show (((1 : Int64) <<< (w &&& 0x3f).toInt64).toBitVec - 1#64).getLsbD j = _
  rw [e]
  show (1#64 <<< W - 1#64).getLsbD j = _
  have e2 : (1#64 <<< W - 1#64) = BitVec.ofNat 64 (2 ^ W - 1) := by
    have p1 : 2 ^ W < 2 ^ 64 := Nat.pow_lt_pow_right (by decide) hW
    have p2 : 1 ≤ 2 ^ W := Nat.one_le_two_pow
    apply BitVec.eq_of_toNat_eq
    have o1 : (1 : Nat) % 2 ^ 64 = 1 := by decide
    simp only [BitVec.toNat_sub, BitVec.toNat_shiftLeft, BitVec.toNat_ofNat]
    rw [o1, Nat.shiftLeft_eq, Nat.one_mul, Nat.mod_eq_of_lt p1]
    generalize 2 ^ W = X at *
    omega
  rw [e2, BitVec.getLsbD_ofNat, Nat.testBit_two_pow_sub_one]
  by_cases q : j < W
  · simp [q]; omega
  · simp [q]
theorem own_W1 (x w : Int32) (e : w.toInt = 1 + x.toInt % 64) : ∃ W : Nat, w.toInt = W ∧ 1 ≤ W ∧ W ≤ 64 := ⟨w.toInt.toNat, by omega, by omega, by omega⟩
theorem own_n1 (w : Int32) (W L : Nat) (q : Int64) (hq : q.toInt = L) (hw : w.toInt = W) (hL : L ≤ 200) (hW : W ≤ 64) : ((q * w.toInt64 + (64 : Int64) - (1 : Int64)) / (64 : Int64)).toInt32.toInt = (((L * W + 63) / 64 : Nat) : Int) := by
  have h1 := own_q1 q w L W hq hw hL hW
  have h0 : L * W ≤ 200 * 64 := Nat.mul_le_mul hL hW
  generalize L * W = M at *
  generalize q * w.toInt64 = x at *
  have h2 := c_ladd x 64
  have r2 := rng64 (x + 64)
  have h3 := c_lsub (x + 64) 1
  have r3 := rng64 (x + 64 - 1)
  have h4 := c_ldiv (x + 64 - 1) 64 64 rfl (by decide)
  have h5 := c_l2i ((x + 64 - 1) / 64)
  have r5 := rng32 ((x + 64 - 1) / 64).toInt32
  have k : (64 : Int64).toInt = 64 := by decide
  have k1 : (1 : Int64).toInt = 1 := by decide
  omega
theorem own_k1 (x : Int32) (i : Int64) (e : i = (1 : Int64) + ((x &&& (2147483647 : Int32)) % (128 : Int32)).toInt64) : ∃ k : Nat, i.toInt = k ∧ 1 ≤ k ∧ k ≤ 128 := by
  have h1 := c_mask x 2147483647 31 (by decide) rfl
  have h2 := (c_irem (x &&& 2147483647) 128 128 rfl).1
  have h3 := c_i2l ((x &&& 2147483647) % 128)
  have h4 := c_ladd 1 ((x &&& 2147483647) % 128).toInt64
  rw [← e] at h4
  have h5 := rng64 i
  have k : (1 : Int64).toInt = 1 := by decide
  exact ⟨i.toInt.toNat, by omega, by omega, by omega⟩
theorem own_w0 (x w : Int32) (e : w = (x &&& (63 : Int32)) + (1 : Int32)) : ∃ W : Nat, w.toInt = W ∧ 1 ≤ W ∧ W ≤ 64 := by
  have h1 := c_mask x 63 6 (by decide) rfl
  have h2 := c_iadd (x &&& 63) 1
  rw [← e] at h2
  have h3 := rng32 w
  have k : (1 : Int32).toInt = 1 := by decide
  exact ⟨w.toInt.toNat, by omega, by omega, by omega⟩
theorem own_dn (i : Int64) (k : Nat) (h : i.toInt = k) (h1 : 1 ≤ k) (h2 : k ≤ 128) : (i - (1 : Int64)).toInt = ((k - 1 : Nat) : Int) := by
  have h3 := c_lsub i 1
  have h4 := rng64 (i - 1)
  have k1 : (1 : Int64).toInt = 1 := by decide
  omega
theorem own_up (i : Int64) (k : Nat) (h : i.toInt = k) (h2 : k ≤ 128) : (i + (1 : Int64)).toInt = ((k + 1 : Nat) : Int) := by
  have h3 := c_ladd i 1
  have h4 := rng64 (i + 1)
  have k1 : (1 : Int64).toInt = 1 := by decide
  omega
theorem own_mulp (k W : Nat) (h : 1 ≤ k) : (k - 1) * W + W = k * W ∧ (k + 1) * W = k * W + W := by
  obtain ⟨j, rfl⟩ : ∃ j, k = j + 1 := ⟨k - 1, by omega⟩
  refine ⟨?_, ?_⟩
  · rw [Nat.add_sub_cancel, Nat.add_mul, Nat.one_mul]
  · rw [Nat.add_mul (j + 1) 1 W, Nat.one_mul]
def own_wm (p0 : Int32) : Int64 := (if p0 = (64 : Int32) then (-1 : Int64) else (((1 : Int64) <<< (p0 &&& 0x3f).toInt64) - (1 : Int64)))
theorem own_wmB (w : Int32) (W : Nat) (hw : w.toInt = W) (h2 : W ≤ 64) (m : Int64) (e : m = own_wm w) (j : Nat) : m.toBitVec.getLsbD j = decide (j < W) := by
  rw [e]; unfold own_wm
  by_cases q : w = 64
  · rw [if_pos q]; exact own_m1 w W hw q j
  · rw [if_neg q]; exact own_m2 w W hw h2 q j
theorem own_up2 (i : Int64) (k : Nat) (h : i.toInt = k) (h2 : k ≤ 128) : (i + (2 : Int64)).toInt = ((k + 2 : Nat) : Int) := by
  have h3 := c_ladd i 2
  have h4 := rng64 (i + 2)
  have k1 : (2 : Int64).toInt = 2 := by decide
  omega
theorem own_mulp2 (k W : Nat) : (k + 2) * W = k * W + W + W := by rw [Nat.add_mul]; omega
theorem own_hv0 (W j : Nat) (hj : W ≤ j) : (0 : Int64).toBitVec.getLsbD j = false := by
  show (0#64).getLsbD _ = false
  simp
theorem own_z0 (j : Nat) : (0 : Int64).toBitVec.getLsbD j = false := by
  show (0#64).getLsbD _ = false
  simp
theorem d1_0 : decode prog_27_method_1_code 0 = .ok (.aload_n 0, 1) := by decide +kernel
theorem d1_1 : decode prog_27_method_1_code 1 = .ok (.invokespecial 1, 3) := by decide +kernel
theorem d1_4 : decode prog_27_method_1_code 4 = .ok (.aload_n 0, 1) := by decide +kernel
theorem d1_5 : decode prog_27_method_1_code 5 = .ok (.iload_n 3, 1) := by decide +kernel
theorem d1_6 : decode prog_27_method_1_code 6 = .ok (.putfield 7, 3) := by decide +kernel
theorem d1_9 : decode prog_27_method_1_code 9 = .ok (.aload_n 0, 1) := by decide +kernel
theorem d1_10 : decode prog_27_method_1_code 10 = .ok (.ldc2_w 13, 3) := by decide +kernel
theorem d1_13 : decode prog_27_method_1_code 13 = .ok (.bipush 64, 2) := by decide +kernel
theorem d1_15 : decode prog_27_method_1_code 15 = .ok (.iload_n 3, 1) := by decide +kernel
theorem d1_16 : decode prog_27_method_1_code 16 = .ok (.isub, 1) := by decide +kernel
theorem d1_17 : decode prog_27_method_1_code 17 = .ok (.lushr, 1) := by decide +kernel
theorem d1_18 : decode prog_27_method_1_code 18 = .ok (.putfield 17, 3) := by decide +kernel
theorem d1_21 : decode prog_27_method_1_code 21 = .ok (.aload_n 0, 1) := by decide +kernel
theorem d1_22 : decode prog_27_method_1_code 22 = .ok (.lload_n 1, 1) := by decide +kernel
theorem d1_23 : decode prog_27_method_1_code 23 = .ok (.iload_n 3, 1) := by decide +kernel
theorem d1_24 : decode prog_27_method_1_code 24 = .ok (.i2l, 1) := by decide +kernel
theorem d1_25 : decode prog_27_method_1_code 25 = .ok (.lmul, 1) := by decide +kernel
theorem d1_26 : decode prog_27_method_1_code 26 = .ok (.ldc2_w 21, 3) := by decide +kernel
theorem d1_29 : decode prog_27_method_1_code 29 = .ok (.ladd, 1) := by decide +kernel
theorem d1_30 : decode prog_27_method_1_code 30 = .ok (.lconst 1, 1) := by decide +kernel
theorem d1_31 : decode prog_27_method_1_code 31 = .ok (.lsub, 1) := by decide +kernel
theorem d1_32 : decode prog_27_method_1_code 32 = .ok (.ldc2_w 21, 3) := by decide +kernel
theorem d1_35 : decode prog_27_method_1_code 35 = .ok (.ldiv, 1) := by decide +kernel
theorem d1_36 : decode prog_27_method_1_code 36 = .ok (.l2i, 1) := by decide +kernel
theorem d1_37 : decode prog_27_method_1_code 37 = .ok (.newarray .long, 2) := by decide +kernel
theorem d1_39 : decode prog_27_method_1_code 39 = .ok (.putfield 23, 3) := by decide +kernel
theorem d1_42 : decode prog_27_method_1_code 42 = .ok (.return_, 1) := by decide +kernel
set_option maxRecDepth 65536 in
set_option maxHeartbeats 40000000 in
theorem rm1 (l : Launch) (Z : State) (a0 : Array Value) (hw : ∀ d ∈ tables_1, d.before a0 Z = true) (a : Addr) (w : Int32) (W : Nat) (h0 : Heap) (n0 : Nat) (Z0 : n0 ≤ h0.size) (hw1 : w.toInt = W) (hW1 : 1 ≤ W) (hW2 : W ≤ 64) (ga : n0 ≤ a) (E_a : Exa Z h0 a "com/example/urd/urd/PackedArray") (F_width : Fld Z h0 a "com/example/urd/urd/PackedArray" "width" "I" (.int (0 : Int32))) (F_mask : Fld Z h0 a "com/example/urd/urd/PackedArray" "mask" "J" (.long (0 : Int64))) (F_words : Fld Z h0 a "com/example/urd/urd/PackedArray" "words" "[J" .null) :
    own_C l Z (⟨"com/example/urd/urd/PackedArray", "<init>", "(JI)V"⟩ : MethodName) prog_27_method_1_code 4 none [] ({ frames := 1, cells := 1, slots := 131, locals := 12 } : Room) #[(.ref a), (.long (131 : Int64)), (.int w)] h0 (fun v h L => ∃ t mk, v = none ∧ (∀ j, mk.toBitVec.getLsbD j = decide (j < W)) ∧ Fr n0 L ∧ Keep h0 h [a] ∧ n0 ≤ t ∧ a ≠ t ∧ Fld Z h a "com/example/urd/urd/PackedArray" "width" "I" (.int w) ∧ Fld Z h a "com/example/urd/urd/PackedArray" "mask" "J" (.long mk) ∧ Fld Z h a "com/example/urd/urd/PackedArray" "words" "[J" (.ref t) ∧ own_AJ Z h t ((131 * W + 63) / 64) (fun _ => 0)) := by
  refine own_body (by first | (simp [plainName, overriddenIn]; done) | decide +kernel) ?_
  intro p e s m below meth c T0 hx hby hml hown hnm hret hlk hZ X0 e0
  have N0 := Fr.nil n0
  refine own_eq (f' := (mkF m 0 #[.val (.ref a), .val (.long (131 : Int64)), .second, .val (.int w)] [])) (by first | (simp [entryFrame, mkF, argsToLocals, Value.category]; done) | rfl) ?_
  refine own_aloadN X0 hx 1 (hb hby d1_0) rfl rfl ?_
  refine own_initO X0 hx hZ hown e0 (W := 0) 4 (hw _ (List.mem_of_getElem? (i := 12) rfl)) (hw _ (List.mem_of_getElem? (i := 13) rfl)) (hw _ (List.mem_of_getElem? (i := 14) rfl)) (by rw [hml]; rfl) (hb hby d1_1) rfl (by decide) rfl (by decide) (fun T1 X2 e3 => ?_)
  refine own_aloadN X2 hx 5 (hb hby d1_4) rfl rfl ?_
  refine own_iloadN X2 hx 6 (hb hby d1_5) rfl rfl ?_
  refine own_putF X2 hx hZ hown e3 9 (hw _ (List.mem_of_getElem? (i := 15) rfl)) F_width E_a (Or.inr ⟨(hw _ (List.mem_of_getElem? (i := 16) rfl)), rfl, hnm⟩) (hw _ (List.mem_of_getElem? (i := 6) rfl)) (ty := .int) (by decide) rfl rfl (hb hby d1_6) rfl (fun T4 h5 X6 e7 W8 => ?_)
  have f9 := E_a.wr W8
  have f10 := F_width.same W8
  have f11 := F_mask.other W8 (Or.inr (slot_ne (Or.inr (hw _ (List.mem_of_getElem? (i := 19) rfl))) (Or.inr (hw _ (List.mem_of_getElem? (i := 16) rfl))) (by decide) (t := .long) (t' := .int) (by decide) (by decide)))
  have f12 := F_words.other W8 (Or.inr (slot_ne (Or.inr (hw _ (List.mem_of_getElem? (i := 23) rfl))) (Or.inr (hw _ (List.mem_of_getElem? (i := 16) rfl))) (by decide) (t := (.array .long)) (t' := .int) (by decide) (by decide)))
  have Z13 : n0 ≤ h5.size := Nat.le_trans Z0 (Keep.of_wr W8).1
  have K14 := (Keep.refl h0 [a]).wr W8 (Or.inl (List.mem_of_getElem? (i := 0) rfl))
  have N15 := Fr.snoc X6 N0 ga
  refine own_aloadN X6 hx 10 (hb hby d1_9) rfl rfl ?_
  refine own_ldc2 X6 hx hZ hown 13 (hw _ (List.mem_of_getElem? (i := 17) rfl)) (hb hby d1_10) rfl ?_
  refine own_bipush X6 hx 15 (64 : Int32) (by decide) (hb hby d1_13) rfl ?_
  refine own_iloadN X6 hx 16 (hb hby d1_15) rfl rfl ?_
  refine own_isub X6 hx 17 (hb hby d1_16) rfl ?_
  refine own_lushr X6 hx 18 (hb hby d1_17) rfl ?_
  refine own_putF X6 hx hZ hown e7 21 (hw _ (List.mem_of_getElem? (i := 18) rfl)) f11 f9 (Or.inr ⟨(hw _ (List.mem_of_getElem? (i := 19) rfl)), rfl, hnm⟩) (hw _ (List.mem_of_getElem? (i := 6) rfl)) (ty := .long) (by decide) rfl rfl (hb hby d1_18) rfl (fun T16 h17 X18 e19 W20 => ?_)
  have f21 := f9.wr W20
  have f22 := f10.other W20 (Or.inr (slot_ne (Or.inr (hw _ (List.mem_of_getElem? (i := 16) rfl))) (Or.inr (hw _ (List.mem_of_getElem? (i := 19) rfl))) (by decide) (t := .int) (t' := .long) (by decide) (by decide)))
  have f23 := f11.same W20
  have f24 := f12.other W20 (Or.inr (slot_ne (Or.inr (hw _ (List.mem_of_getElem? (i := 23) rfl))) (Or.inr (hw _ (List.mem_of_getElem? (i := 19) rfl))) (by decide) (t := (.array .long)) (t' := .long) (by decide) (by decide)))
  have Z25 : n0 ≤ h17.size := Nat.le_trans Z13 (Keep.of_wr W20).1
  have K26 := K14.wr W20 (Or.inl (List.mem_of_getElem? (i := 0) rfl))
  have N27 := Fr.snoc X18 N15 ga
  refine own_aloadN X18 hx 22 (hb hby d1_21) rfl rfl ?_
  refine own_lloadN X18 hx 23 (hb hby d1_22) rfl rfl ?_
  refine own_iloadN X18 hx 24 (hb hby d1_23) rfl rfl ?_
  refine own_i2l X18 hx 25 (hb hby d1_24) rfl ?_
  refine own_lmul X18 hx 26 (hb hby d1_25) rfl ?_
  refine own_ldc2 X18 hx hZ hown 29 (hw _ (List.mem_of_getElem? (i := 20) rfl)) (hb hby d1_26) rfl ?_
  refine own_ladd X18 hx 30 (hb hby d1_29) rfl ?_
  refine own_lconst X18 hx 31 (1 : Int64) (by decide) (hb hby d1_30) rfl ?_
  refine own_lsub X18 hx 32 (hb hby d1_31) rfl ?_
  refine own_ldc2 X18 hx hZ hown 35 (hw _ (List.mem_of_getElem? (i := 20) rfl)) (hb hby d1_32) rfl ?_
  refine own_ldiv X18 hx 36 (by decide) (hb hby d1_35) rfl ?_
  refine own_l2i X18 hx 37 (hb hby d1_36) rfl ?_
  refine own_newJ X18 hx hZ e19 (n := ((131 * W + 63) / 64)) (cap := 131) 39 (hw _ (List.mem_of_getElem? (i := 21) rfl)) (own_n1 w W 131 _ rfl hw1 (by decide) hW2) (by omega) (by decide) (hb hby d1_37) rfl (by decide) (by decide) (fun T28 h29 a30 X31 e32 g33 E34 A35 => ?_)
  have ne36 : a ≠ a30 := fun q => absurd (f21.lt) (by rw [q, g33]; exact Nat.lt_irrefl _)
  have ga37 : n0 ≤ a30 := by rw [g33]; exact Z25
  have bo38 : h0.size ≤ a30 := by rw [g33]; exact K26.1
  have f39 := f21.ext E34
  have f40 := f22.ext E34
  have f41 := f23.ext E34
  have f42 := f24.ext E34
  have Z43 : n0 ≤ h29.size := Nat.le_trans Z25 E34.1
  have K44 := K26.ext E34
  refine own_putF X31 hx hZ hown e32 42 (hw _ (List.mem_of_getElem? (i := 22) rfl)) f42 f39 (Or.inr ⟨(hw _ (List.mem_of_getElem? (i := 23) rfl)), rfl, hnm⟩) (hw _ (List.mem_of_getElem? (i := 6) rfl)) (ty := (.array .long)) (by decide) rfl rfl (hb hby d1_39) rfl (fun T45 h46 X47 e48 W49 => ?_)
  have f50 := f39.wr W49
  have f51 := f40.other W49 (Or.inr (slot_ne (Or.inr (hw _ (List.mem_of_getElem? (i := 16) rfl))) (Or.inr (hw _ (List.mem_of_getElem? (i := 23) rfl))) (by decide) (t := .int) (t' := (.array .long)) (by decide) (by decide)))
  have f52 := f41.other W49 (Or.inr (slot_ne (Or.inr (hw _ (List.mem_of_getElem? (i := 19) rfl))) (Or.inr (hw _ (List.mem_of_getElem? (i := 23) rfl))) (by decide) (t := .long) (t' := (.array .long)) (by decide) (by decide)))
  have f53 := f42.same W49
  have f54 := A35.other W49 (Ne.symm ne36)
  have Z55 : n0 ≤ h46.size := Nat.le_trans Z43 (Keep.of_wr W49).1
  have K56 := K44.wr W49 (Or.inl (List.mem_of_getElem? (i := 0) rfl))
  have N57 := Fr.snoc X47 N27 ga
  exact own_retV X47 hx hret hlk (hb hby d1_42) (by decide) (by decide) ⟨a30, _, rfl, own_mk w W hw1 hW1 hW2, N57, by rw [e48]; exact ⟨K56, ga37, ne36, f51, f52, f53, f54⟩⟩
theorem d3_0 : decode prog_27_method_3_code 0 = .ok (.lload_n 1, 1) := by decide +kernel
theorem d3_1 : decode prog_27_method_3_code 1 = .ok (.aload_n 0, 1) := by decide +kernel
theorem d3_2 : decode prog_27_method_3_code 2 = .ok (.getfield 7, 3) := by decide +kernel
theorem d3_5 : decode prog_27_method_3_code 5 = .ok (.i2l, 1) := by decide +kernel
theorem d3_6 : decode prog_27_method_3_code 6 = .ok (.lmul, 1) := by decide +kernel
theorem d3_7 : decode prog_27_method_3_code 7 = .ok (.lstore 5, 2) := by decide +kernel
theorem d3_9 : decode prog_27_method_3_code 9 = .ok (.lload 5, 2) := by decide +kernel
theorem d3_11 : decode prog_27_method_3_code 11 = .ok (.bipush 6, 2) := by decide +kernel
theorem d3_13 : decode prog_27_method_3_code 13 = .ok (.lushr, 1) := by decide +kernel
theorem d3_14 : decode prog_27_method_3_code 14 = .ok (.l2i, 1) := by decide +kernel
theorem d3_15 : decode prog_27_method_3_code 15 = .ok (.istore 7, 2) := by decide +kernel
theorem d3_17 : decode prog_27_method_3_code 17 = .ok (.lload 5, 2) := by decide +kernel
theorem d3_19 : decode prog_27_method_3_code 19 = .ok (.ldc2_w 27, 3) := by decide +kernel
theorem d3_22 : decode prog_27_method_3_code 22 = .ok (.land, 1) := by decide +kernel
theorem d3_23 : decode prog_27_method_3_code 23 = .ok (.l2i, 1) := by decide +kernel
theorem d3_24 : decode prog_27_method_3_code 24 = .ok (.istore 8, 2) := by decide +kernel
theorem d3_26 : decode prog_27_method_3_code 26 = .ok (.aload_n 0, 1) := by decide +kernel
theorem d3_27 : decode prog_27_method_3_code 27 = .ok (.getfield 23, 3) := by decide +kernel
theorem d3_30 : decode prog_27_method_3_code 30 = .ok (.iload 7, 2) := by decide +kernel
theorem d3_32 : decode prog_27_method_3_code 32 = .ok (.aload_n 0, 1) := by decide +kernel
theorem d3_33 : decode prog_27_method_3_code 33 = .ok (.getfield 23, 3) := by decide +kernel
theorem d3_36 : decode prog_27_method_3_code 36 = .ok (.iload 7, 2) := by decide +kernel
theorem d3_38 : decode prog_27_method_3_code 38 = .ok (.laload, 1) := by decide +kernel
theorem d3_39 : decode prog_27_method_3_code 39 = .ok (.aload_n 0, 1) := by decide +kernel
theorem d3_40 : decode prog_27_method_3_code 40 = .ok (.getfield 17, 3) := by decide +kernel
theorem d3_43 : decode prog_27_method_3_code 43 = .ok (.iload 8, 2) := by decide +kernel
theorem d3_45 : decode prog_27_method_3_code 45 = .ok (.lshl, 1) := by decide +kernel
theorem d3_46 : decode prog_27_method_3_code 46 = .ok (.ldc2_w 13, 3) := by decide +kernel
theorem d3_49 : decode prog_27_method_3_code 49 = .ok (.lxor, 1) := by decide +kernel
theorem d3_50 : decode prog_27_method_3_code 50 = .ok (.land, 1) := by decide +kernel
theorem d3_51 : decode prog_27_method_3_code 51 = .ok (.lload_n 3, 1) := by decide +kernel
theorem d3_52 : decode prog_27_method_3_code 52 = .ok (.iload 8, 2) := by decide +kernel
theorem d3_54 : decode prog_27_method_3_code 54 = .ok (.lshl, 1) := by decide +kernel
theorem d3_55 : decode prog_27_method_3_code 55 = .ok (.lor, 1) := by decide +kernel
theorem d3_56 : decode prog_27_method_3_code 56 = .ok (.lastore, 1) := by decide +kernel
theorem d3_57 : decode prog_27_method_3_code 57 = .ok (.iload 8, 2) := by decide +kernel
theorem d3_59 : decode prog_27_method_3_code 59 = .ok (.aload_n 0, 1) := by decide +kernel
theorem d3_60 : decode prog_27_method_3_code 60 = .ok (.getfield 7, 3) := by decide +kernel
theorem d3_63 : decode prog_27_method_3_code 63 = .ok (.iadd, 1) := by decide +kernel
theorem d3_64 : decode prog_27_method_3_code 64 = .ok (.bipush 64, 2) := by decide +kernel
theorem d3_66 : decode prog_27_method_3_code 66 = .ok (.if_icmp .le 45, 3) := by decide +kernel
theorem d3_69 : decode prog_27_method_3_code 69 = .ok (.bipush 64, 2) := by decide +kernel
theorem d3_71 : decode prog_27_method_3_code 71 = .ok (.iload 8, 2) := by decide +kernel
theorem d3_73 : decode prog_27_method_3_code 73 = .ok (.isub, 1) := by decide +kernel
theorem d3_74 : decode prog_27_method_3_code 74 = .ok (.istore 9, 2) := by decide +kernel
theorem d3_76 : decode prog_27_method_3_code 76 = .ok (.aload_n 0, 1) := by decide +kernel
theorem d3_77 : decode prog_27_method_3_code 77 = .ok (.getfield 23, 3) := by decide +kernel
theorem d3_80 : decode prog_27_method_3_code 80 = .ok (.iload 7, 2) := by decide +kernel
theorem d3_82 : decode prog_27_method_3_code 82 = .ok (.iconst 1, 1) := by decide +kernel
theorem d3_83 : decode prog_27_method_3_code 83 = .ok (.iadd, 1) := by decide +kernel
theorem d3_84 : decode prog_27_method_3_code 84 = .ok (.aload_n 0, 1) := by decide +kernel
theorem d3_85 : decode prog_27_method_3_code 85 = .ok (.getfield 23, 3) := by decide +kernel
theorem d3_88 : decode prog_27_method_3_code 88 = .ok (.iload 7, 2) := by decide +kernel
theorem d3_90 : decode prog_27_method_3_code 90 = .ok (.iconst 1, 1) := by decide +kernel
theorem d3_91 : decode prog_27_method_3_code 91 = .ok (.iadd, 1) := by decide +kernel
theorem d3_92 : decode prog_27_method_3_code 92 = .ok (.laload, 1) := by decide +kernel
theorem d3_93 : decode prog_27_method_3_code 93 = .ok (.aload_n 0, 1) := by decide +kernel
theorem d3_94 : decode prog_27_method_3_code 94 = .ok (.getfield 17, 3) := by decide +kernel
theorem d3_97 : decode prog_27_method_3_code 97 = .ok (.iload 9, 2) := by decide +kernel
theorem d3_99 : decode prog_27_method_3_code 99 = .ok (.lushr, 1) := by decide +kernel
theorem d3_100 : decode prog_27_method_3_code 100 = .ok (.ldc2_w 13, 3) := by decide +kernel
theorem d3_103 : decode prog_27_method_3_code 103 = .ok (.lxor, 1) := by decide +kernel
theorem d3_104 : decode prog_27_method_3_code 104 = .ok (.land, 1) := by decide +kernel
theorem d3_105 : decode prog_27_method_3_code 105 = .ok (.lload_n 3, 1) := by decide +kernel
theorem d3_106 : decode prog_27_method_3_code 106 = .ok (.iload 9, 2) := by decide +kernel
theorem d3_108 : decode prog_27_method_3_code 108 = .ok (.lushr, 1) := by decide +kernel
theorem d3_109 : decode prog_27_method_3_code 109 = .ok (.lor, 1) := by decide +kernel
theorem d3_110 : decode prog_27_method_3_code 110 = .ok (.lastore, 1) := by decide +kernel
theorem d3_111 : decode prog_27_method_3_code 111 = .ok (.return_, 1) := by decide +kernel
set_option maxRecDepth 65536 in
set_option maxHeartbeats 40000000 in
theorem rm3 (l : Launch) (Z : State) (a0 : Array Value) (hw : ∀ d ∈ tables_1, d.before a0 Z = true) (a t : Addr) (q1 q3 mk : Int64) (w : Int32) (W B n : Nat) (f : Nat → Int64) (h0 : Heap) (n0 : Nat) (Z0 : n0 ≤ h0.size) (hw1 : w.toInt = W) (hW1 : 1 ≤ W) (hW2 : W ≤ 64) (hm : (∀ j, mk.toBitVec.getLsbD j = decide (j < W))) (hQ : (q1 * w.toInt64).toInt = B) (hB : B < 100000) (hn : B + W ≤ 64 * n) (na : a ≠ t) (gt : n0 ≤ t) (hv : ∀ j, W ≤ j → q3.toBitVec.getLsbD j = false) (F_width : Fld Z h0 a "com/example/urd/urd/PackedArray" "width" "I" (.int w)) (F_mask : Fld Z h0 a "com/example/urd/urd/PackedArray" "mask" "J" (.long mk)) (F_words : Fld Z h0 a "com/example/urd/urd/PackedArray" "words" "[J" (.ref t)) (A_t : own_AJ Z h0 t n f) :
    own_C l Z (⟨"com/example/urd/urd/PackedArray", "set", "(JJ)V"⟩ : MethodName) prog_27_method_3_code 10 none [] ({ frames := 0, cells := 0, slots := 0, locals := 0 } : Room) #[(.ref a), (.long q1), (.long q3)] h0 (fun v h L => ∃ g, v = none ∧ own_put f g B W q3 ∧ Fr n0 L ∧ Keep h0 h [t] ∧ Fld Z h a "com/example/urd/urd/PackedArray" "width" "I" (.int w) ∧ Fld Z h a "com/example/urd/urd/PackedArray" "mask" "J" (.long mk) ∧ Fld Z h a "com/example/urd/urd/PackedArray" "words" "[J" (.ref t) ∧ own_AJ Z h t n g) := by
  refine own_body (by first | (simp [plainName, overriddenIn]; done) | decide +kernel) ?_
  intro p e s m below meth c T0 hx hby hml hown hnm hret hlk hZ X0 e0
  have N0 := Fr.nil n0
  refine own_eq (f' := (mkF m 0 #[.val (.ref a), .val (.long q1), .second, .val (.long q3), .second, .unset, .unset, .unset, .unset, .unset] [])) (by first | (simp [entryFrame, mkF, argsToLocals, Value.category]; done) | rfl) ?_
  refine own_lloadN X0 hx 1 (hb hby d3_0) rfl rfl ?_
  refine own_aloadN X0 hx 2 (hb hby d3_1) rfl rfl ?_
  refine own_getF X0 hx hZ hown e0 5 (hw _ (List.mem_of_getElem? (i := 15) rfl)) F_width (hb hby d3_2) rfl (fun T1 X2 e3 => ?_)
  refine own_i2l X2 hx 6 (hb hby d3_5) rfl ?_
  refine own_lmul X2 hx 7 (hb hby d3_6) rfl ?_
  obtain ⟨vb, e_vb⟩ : ∃ z : Int64, z = (q1 * (w.toInt64)) := ⟨_, rfl⟩
  refine own_lstore X2 hx 9 #[.val (.ref a), .val (.long q1), .second, .val (.long q3), .second, .val (.long vb), .second, .unset, .unset, .unset] e_vb (hb hby d3_7) rfl rfl ?_
  refine own_lload X2 hx 11 (hb hby d3_9) rfl rfl ?_
  refine own_bipush X2 hx 13 (6 : Int32) (by decide) (hb hby d3_11) rfl ?_
  refine own_lushr X2 hx 14 (hb hby d3_13) rfl ?_
  refine own_l2i X2 hx 15 (hb hby d3_14) rfl ?_
  obtain ⟨vw, e_vw⟩ : ∃ z : Int32, z = (((vb.toUInt64 >>> ((6 : Int32) &&& 0x3f).toInt64.toUInt64).toInt64).toInt32) := ⟨_, rfl⟩
  refine own_istore X2 hx 17 #[.val (.ref a), .val (.long q1), .second, .val (.long q3), .second, .val (.long vb), .second, .val (.int vw), .unset, .unset] e_vw (hb hby d3_15) rfl rfl ?_
  refine own_lload X2 hx 19 (hb hby d3_17) rfl rfl ?_
  refine own_ldc2 X2 hx hZ hown 22 (hw _ (List.mem_of_getElem? (i := 29) rfl)) (hb hby d3_19) rfl ?_
  refine own_land X2 hx 23 (hb hby d3_22) rfl ?_
  refine own_l2i X2 hx 24 (hb hby d3_23) rfl ?_
  obtain ⟨vs, e_vs⟩ : ∃ z : Int32, z = ((vb &&& (63 : Int64)).toInt32) := ⟨_, rfl⟩
  refine own_istore X2 hx 26 #[.val (.ref a), .val (.long q1), .second, .val (.long q3), .second, .val (.long vb), .second, .val (.int vw), .val (.int vs), .unset] e_vs (hb hby d3_24) rfl rfl ?_
  have hvb : vb.toInt = B := by rw [e_vb]; exact hQ
  have hvw := own_w1 vb vw B hvb hB e_vw
  have hvs := own_w2 vb vs B hvb hB e_vs
  refine own_aloadN X2 hx 27 (hb hby d3_26) rfl rfl ?_
  refine own_getF X2 hx hZ hown e3 30 (hw _ (List.mem_of_getElem? (i := 22) rfl)) F_words (hb hby d3_27) rfl (fun T4 X5 e6 => ?_)
  refine own_iload X5 hx 32 (hb hby d3_30) rfl rfl ?_
  refine own_aloadN X5 hx 33 (hb hby d3_32) rfl rfl ?_
  refine own_getF X5 hx hZ hown e6 36 (hw _ (List.mem_of_getElem? (i := 22) rfl)) F_words (hb hby d3_33) rfl (fun T7 X8 e9 => ?_)
  refine own_iload X8 hx 38 (hb hby d3_36) rfl rfl ?_
  refine own_laload X8 hx hZ e9 39 (B / 64) A_t hvw (by omega) (hb hby d3_38) rfl ?_
  refine own_aloadN X8 hx 40 (hb hby d3_39) rfl rfl ?_
  refine own_getF X8 hx hZ hown e9 43 (hw _ (List.mem_of_getElem? (i := 18) rfl)) F_mask (hb hby d3_40) rfl (fun T10 X11 e12 => ?_)
  refine own_iload X11 hx 45 (hb hby d3_43) rfl rfl ?_
  refine own_lshl X11 hx 46 (hb hby d3_45) rfl ?_
  refine own_ldc2 X11 hx hZ hown 49 (hw _ (List.mem_of_getElem? (i := 17) rfl)) (hb hby d3_46) rfl ?_
  refine own_lxor X11 hx 50 (hb hby d3_49) rfl ?_
  refine own_land X11 hx 51 (hb hby d3_50) rfl ?_
  refine own_lloadN X11 hx 52 (hb hby d3_51) rfl rfl ?_
  refine own_iload X11 hx 54 (hb hby d3_52) rfl rfl ?_
  refine own_lshl X11 hx 55 (hb hby d3_54) rfl ?_
  refine own_lor X11 hx 56 (hb hby d3_55) rfl ?_
  refine own_lastore X11 hx hZ e12 57 (B / 64) A_t hvw (by omega) (hb hby d3_56) rfl (fun T13 h14 X15 e16 W17 => ?_)
  have f18 := F_width.other W17 (Or.inl na)
  have f19 := F_mask.other W17 (Or.inl na)
  have f20 := F_words.other W17 (Or.inl na)
  have f21 := A_t.set W17
  have Z22 : n0 ≤ h14.size := Nat.le_trans Z0 (Keep.of_wr W17).1
  have K23 := (Keep.refl h0 [t]).wr W17 (Or.inl (List.mem_of_getElem? (i := 0) rfl))
  have N24 := Fr.snoc X15 N0 gt
  refine own_iload X15 hx 59 (hb hby d3_57) rfl rfl ?_
  refine own_aloadN X15 hx 60 (hb hby d3_59) rfl rfl ?_
  refine own_getF X15 hx hZ hown e16 63 (hw _ (List.mem_of_getElem? (i := 15) rfl)) f18 (hb hby d3_60) rfl (fun T25 X26 e27 => ?_)
  refine own_iadd X26 hx 64 (hb hby d3_63) rfl ?_
  refine own_bipush X26 hx 66 (64 : Int32) (by decide) (hb hby d3_64) rfl ?_
  refine own_icmp_le X26 hx 111 69 (hb hby d3_66) (by decide) (by decide) rfl (fun h28 => ?_) (fun h28 => ?_)
  · show own_W p e below _ T25 (mkF m 111 #[.val (.ref a), .val (.long q1), .second, .val (.long q3), .second, .val (.long vb), .second, .val (.int vw), .val (.int vs), .unset] [])
    exact own_retV X26 hx hret hlk (hb hby d3_111) (by decide) (by decide) ⟨_, rfl, own_setP1 f B W mk q3 vs hvs hm hv (by have := mt (own_c1 vs w B W hvs hw1 hW2).mpr h28; omega), N24, by rw [e27]; exact ⟨K23, f18, f19, f20, f21⟩⟩
  · show own_W p e below _ T25 (mkF m 69 #[.val (.ref a), .val (.long q1), .second, .val (.long q3), .second, .val (.long vb), .second, .val (.int vw), .val (.int vs), .unset] [])
    refine own_bipush X26 hx 71 (64 : Int32) (by decide) (hb hby d3_69) rfl ?_
    refine own_iload X26 hx 73 (hb hby d3_71) rfl rfl ?_
    refine own_isub X26 hx 74 (hb hby d3_73) rfl ?_
    obtain ⟨vl, e_vl⟩ : ∃ z : Int32, z = ((64 : Int32) - vs) := ⟨_, rfl⟩
    refine own_istore X26 hx 76 #[.val (.ref a), .val (.long q1), .second, .val (.long q3), .second, .val (.long vb), .second, .val (.int vw), .val (.int vs), .val (.int vl)] e_vl (hb hby d3_74) rfl rfl ?_
    refine own_aloadN X26 hx 77 (hb hby d3_76) rfl rfl ?_
    refine own_getF X26 hx hZ hown e27 80 (hw _ (List.mem_of_getElem? (i := 22) rfl)) f20 (hb hby d3_77) rfl (fun T29 X30 e31 => ?_)
    refine own_iload X30 hx 82 (hb hby d3_80) rfl rfl ?_
    refine own_iconst X30 hx 83 (1 : Int32) (by decide) (hb hby d3_82) rfl ?_
    refine own_iadd X30 hx 84 (hb hby d3_83) rfl ?_
    refine own_aloadN X30 hx 85 (hb hby d3_84) rfl rfl ?_
    refine own_getF X30 hx hZ hown e31 88 (hw _ (List.mem_of_getElem? (i := 22) rfl)) f20 (hb hby d3_85) rfl (fun T32 X33 e34 => ?_)
    refine own_iload X33 hx 90 (hb hby d3_88) rfl rfl ?_
    refine own_iconst X33 hx 91 (1 : Int32) (by decide) (hb hby d3_90) rfl ?_
    refine own_iadd X33 hx 92 (hb hby d3_91) rfl ?_
    refine own_laload X33 hx hZ e34 93 (B / 64 + 1) f21 (own_i2 vw B hvw hB) (by have := (own_c1 vs w B W hvs hw1 hW2).mp h28; omega) (hb hby d3_92) rfl ?_
    refine own_aloadN X33 hx 94 (hb hby d3_93) rfl rfl ?_
    refine own_getF X33 hx hZ hown e34 97 (hw _ (List.mem_of_getElem? (i := 18) rfl)) f19 (hb hby d3_94) rfl (fun T35 X36 e37 => ?_)
    refine own_iload X36 hx 99 (hb hby d3_97) rfl rfl ?_
    refine own_lushr X36 hx 100 (hb hby d3_99) rfl ?_
    refine own_ldc2 X36 hx hZ hown 103 (hw _ (List.mem_of_getElem? (i := 17) rfl)) (hb hby d3_100) rfl ?_
    refine own_lxor X36 hx 104 (hb hby d3_103) rfl ?_
    refine own_land X36 hx 105 (hb hby d3_104) rfl ?_
    refine own_lloadN X36 hx 106 (hb hby d3_105) rfl rfl ?_
    refine own_iload X36 hx 108 (hb hby d3_106) rfl rfl ?_
    refine own_lushr X36 hx 109 (hb hby d3_108) rfl ?_
    refine own_lor X36 hx 110 (hb hby d3_109) rfl ?_
    refine own_lastore X36 hx hZ e37 111 (B / 64 + 1) f21 (own_i2 vw B hvw hB) (by have := (own_c1 vs w B W hvs hw1 hW2).mp h28; omega) (hb hby d3_110) rfl (fun T38 h39 X40 e41 W42 => ?_)
    have f43 := f18.other W42 (Or.inl na)
    have f44 := f19.other W42 (Or.inl na)
    have f45 := f20.other W42 (Or.inl na)
    have f46 := f21.set W42
    have Z47 : n0 ≤ h39.size := Nat.le_trans Z22 (Keep.of_wr W42).1
    have K48 := K23.wr W42 (Or.inl (List.mem_of_getElem? (i := 0) rfl))
    have N49 := Fr.snoc X40 N24 gt
    exact own_retV X40 hx hret hlk (hb hby d3_111) (by decide) (by decide) ⟨_, rfl, own_setP2 f B W mk q3 vs vl hvs (own_l64 vs vl B hvs e_vl) hm hv hW2 ((own_c1 vs w B W hvs hw1 hW2).mp h28) _ rfl, N49, by rw [e41]; exact ⟨K48, f43, f44, f45, f46⟩⟩
theorem d2_0 : decode prog_27_method_2_code 0 = .ok (.lload_n 1, 1) := by decide +kernel
theorem d2_1 : decode prog_27_method_2_code 1 = .ok (.aload_n 0, 1) := by decide +kernel
theorem d2_2 : decode prog_27_method_2_code 2 = .ok (.getfield 7, 3) := by decide +kernel
theorem d2_5 : decode prog_27_method_2_code 5 = .ok (.i2l, 1) := by decide +kernel
theorem d2_6 : decode prog_27_method_2_code 6 = .ok (.lmul, 1) := by decide +kernel
theorem d2_7 : decode prog_27_method_2_code 7 = .ok (.lstore_n 3, 1) := by decide +kernel
theorem d2_8 : decode prog_27_method_2_code 8 = .ok (.lload_n 3, 1) := by decide +kernel
theorem d2_9 : decode prog_27_method_2_code 9 = .ok (.bipush 6, 2) := by decide +kernel
theorem d2_11 : decode prog_27_method_2_code 11 = .ok (.lushr, 1) := by decide +kernel
theorem d2_12 : decode prog_27_method_2_code 12 = .ok (.l2i, 1) := by decide +kernel
theorem d2_13 : decode prog_27_method_2_code 13 = .ok (.istore 5, 2) := by decide +kernel
theorem d2_15 : decode prog_27_method_2_code 15 = .ok (.lload_n 3, 1) := by decide +kernel
theorem d2_16 : decode prog_27_method_2_code 16 = .ok (.ldc2_w 27, 3) := by decide +kernel
theorem d2_19 : decode prog_27_method_2_code 19 = .ok (.land, 1) := by decide +kernel
theorem d2_20 : decode prog_27_method_2_code 20 = .ok (.l2i, 1) := by decide +kernel
theorem d2_21 : decode prog_27_method_2_code 21 = .ok (.istore 6, 2) := by decide +kernel
theorem d2_23 : decode prog_27_method_2_code 23 = .ok (.aload_n 0, 1) := by decide +kernel
theorem d2_24 : decode prog_27_method_2_code 24 = .ok (.getfield 23, 3) := by decide +kernel
theorem d2_27 : decode prog_27_method_2_code 27 = .ok (.iload 5, 2) := by decide +kernel
theorem d2_29 : decode prog_27_method_2_code 29 = .ok (.laload, 1) := by decide +kernel
theorem d2_30 : decode prog_27_method_2_code 30 = .ok (.iload 6, 2) := by decide +kernel
theorem d2_32 : decode prog_27_method_2_code 32 = .ok (.lushr, 1) := by decide +kernel
theorem d2_33 : decode prog_27_method_2_code 33 = .ok (.lstore 7, 2) := by decide +kernel
theorem d2_35 : decode prog_27_method_2_code 35 = .ok (.iload 6, 2) := by decide +kernel
theorem d2_37 : decode prog_27_method_2_code 37 = .ok (.aload_n 0, 1) := by decide +kernel
theorem d2_38 : decode prog_27_method_2_code 38 = .ok (.getfield 7, 3) := by decide +kernel
theorem d2_41 : decode prog_27_method_2_code 41 = .ok (.iadd, 1) := by decide +kernel
theorem d2_42 : decode prog_27_method_2_code 42 = .ok (.bipush 64, 2) := by decide +kernel
theorem d2_44 : decode prog_27_method_2_code 44 = .ok (.if_icmp .le 23, 3) := by decide +kernel
theorem d2_47 : decode prog_27_method_2_code 47 = .ok (.lload 7, 2) := by decide +kernel
theorem d2_49 : decode prog_27_method_2_code 49 = .ok (.aload_n 0, 1) := by decide +kernel
theorem d2_50 : decode prog_27_method_2_code 50 = .ok (.getfield 23, 3) := by decide +kernel
theorem d2_53 : decode prog_27_method_2_code 53 = .ok (.iload 5, 2) := by decide +kernel
theorem d2_55 : decode prog_27_method_2_code 55 = .ok (.iconst 1, 1) := by decide +kernel
theorem d2_56 : decode prog_27_method_2_code 56 = .ok (.iadd, 1) := by decide +kernel
theorem d2_57 : decode prog_27_method_2_code 57 = .ok (.laload, 1) := by decide +kernel
theorem d2_58 : decode prog_27_method_2_code 58 = .ok (.bipush 64, 2) := by decide +kernel
theorem d2_60 : decode prog_27_method_2_code 60 = .ok (.iload 6, 2) := by decide +kernel
theorem d2_62 : decode prog_27_method_2_code 62 = .ok (.isub, 1) := by decide +kernel
theorem d2_63 : decode prog_27_method_2_code 63 = .ok (.lshl, 1) := by decide +kernel
theorem d2_64 : decode prog_27_method_2_code 64 = .ok (.lor, 1) := by decide +kernel
theorem d2_65 : decode prog_27_method_2_code 65 = .ok (.lstore 7, 2) := by decide +kernel
theorem d2_67 : decode prog_27_method_2_code 67 = .ok (.lload 7, 2) := by decide +kernel
theorem d2_69 : decode prog_27_method_2_code 69 = .ok (.aload_n 0, 1) := by decide +kernel
theorem d2_70 : decode prog_27_method_2_code 70 = .ok (.getfield 17, 3) := by decide +kernel
theorem d2_73 : decode prog_27_method_2_code 73 = .ok (.land, 1) := by decide +kernel
theorem d2_74 : decode prog_27_method_2_code 74 = .ok (.lreturn, 1) := by decide +kernel
set_option maxRecDepth 65536 in
set_option maxHeartbeats 40000000 in
theorem rm2 (l : Launch) (Z : State) (a0 : Array Value) (hw : ∀ d ∈ tables_1, d.before a0 Z = true) (a t : Addr) (q1 mk : Int64) (w : Int32) (W B n : Nat) (f : Nat → Int64) (h0 : Heap) (n0 : Nat) (Z0 : n0 ≤ h0.size) (hw1 : w.toInt = W) (hW1 : 1 ≤ W) (hW2 : W ≤ 64) (hm : (∀ j, mk.toBitVec.getLsbD j = decide (j < W))) (hQ : (q1 * w.toInt64).toInt = B) (hB : B < 100000) (hn : B + W ≤ 64 * n) (na : a ≠ t) (gt : n0 ≤ t) (F_width : Fld Z h0 a "com/example/urd/urd/PackedArray" "width" "I" (.int w)) (F_mask : Fld Z h0 a "com/example/urd/urd/PackedArray" "mask" "J" (.long mk)) (F_words : Fld Z h0 a "com/example/urd/urd/PackedArray" "words" "[J" (.ref t)) (A_t : own_AJ Z h0 t n f) :
    own_C l Z (⟨"com/example/urd/urd/PackedArray", "get", "(J)J"⟩ : MethodName) prog_27_method_2_code 9 (some .long) [] ({ frames := 0, cells := 0, slots := 0, locals := 0 } : Room) #[(.ref a), (.long q1)] h0 (fun v h L => ∃ r, v = some (.long r) ∧ (∀ j, r.toBitVec.getLsbD j = (decide (j < W) && own_bit f (B + j))) ∧ Fr n0 L ∧ h = h0) := by
  refine own_body (by first | (simp [plainName, overriddenIn]; done) | decide +kernel) ?_
  intro p e s m below meth c T0 hx hby hml hown hnm hret hlk hZ X0 e0
  have N0 := Fr.nil n0
  refine own_eq (f' := (mkF m 0 #[.val (.ref a), .val (.long q1), .second, .unset, .unset, .unset, .unset, .unset, .unset] [])) (by first | (simp [entryFrame, mkF, argsToLocals, Value.category]; done) | rfl) ?_
  refine own_lloadN X0 hx 1 (hb hby d2_0) rfl rfl ?_
  refine own_aloadN X0 hx 2 (hb hby d2_1) rfl rfl ?_
  refine own_getF X0 hx hZ hown e0 5 (hw _ (List.mem_of_getElem? (i := 15) rfl)) F_width (hb hby d2_2) rfl (fun T1 X2 e3 => ?_)
  refine own_i2l X2 hx 6 (hb hby d2_5) rfl ?_
  refine own_lmul X2 hx 7 (hb hby d2_6) rfl ?_
  obtain ⟨vb, e_vb⟩ : ∃ z : Int64, z = (q1 * (w.toInt64)) := ⟨_, rfl⟩
  refine own_lstoreN X2 hx 8 #[.val (.ref a), .val (.long q1), .second, .val (.long vb), .second, .unset, .unset, .unset, .unset] e_vb (hb hby d2_7) rfl rfl ?_
  refine own_lloadN X2 hx 9 (hb hby d2_8) rfl rfl ?_
  refine own_bipush X2 hx 11 (6 : Int32) (by decide) (hb hby d2_9) rfl ?_
  refine own_lushr X2 hx 12 (hb hby d2_11) rfl ?_
  refine own_l2i X2 hx 13 (hb hby d2_12) rfl ?_
  obtain ⟨vw, e_vw⟩ : ∃ z : Int32, z = (((vb.toUInt64 >>> ((6 : Int32) &&& 0x3f).toInt64.toUInt64).toInt64).toInt32) := ⟨_, rfl⟩
  refine own_istore X2 hx 15 #[.val (.ref a), .val (.long q1), .second, .val (.long vb), .second, .val (.int vw), .unset, .unset, .unset] e_vw (hb hby d2_13) rfl rfl ?_
  refine own_lloadN X2 hx 16 (hb hby d2_15) rfl rfl ?_
  refine own_ldc2 X2 hx hZ hown 19 (hw _ (List.mem_of_getElem? (i := 29) rfl)) (hb hby d2_16) rfl ?_
  refine own_land X2 hx 20 (hb hby d2_19) rfl ?_
  refine own_l2i X2 hx 21 (hb hby d2_20) rfl ?_
  obtain ⟨vs, e_vs⟩ : ∃ z : Int32, z = ((vb &&& (63 : Int64)).toInt32) := ⟨_, rfl⟩
  refine own_istore X2 hx 23 #[.val (.ref a), .val (.long q1), .second, .val (.long vb), .second, .val (.int vw), .val (.int vs), .unset, .unset] e_vs (hb hby d2_21) rfl rfl ?_
  have hvb : vb.toInt = B := by rw [e_vb]; exact hQ
  have hvw := own_w1 vb vw B hvb hB e_vw
  have hvs := own_w2 vb vs B hvb hB e_vs
  refine own_aloadN X2 hx 24 (hb hby d2_23) rfl rfl ?_
  refine own_getF X2 hx hZ hown e3 27 (hw _ (List.mem_of_getElem? (i := 22) rfl)) F_words (hb hby d2_24) rfl (fun T4 X5 e6 => ?_)
  refine own_iload X5 hx 29 (hb hby d2_27) rfl rfl ?_
  refine own_laload X5 hx hZ e6 30 (B / 64) A_t hvw (by omega) (hb hby d2_29) rfl ?_
  refine own_iload X5 hx 32 (hb hby d2_30) rfl rfl ?_
  refine own_lushr X5 hx 33 (hb hby d2_32) rfl ?_
  refine own_lstore X5 hx 35 #[.val (.ref a), .val (.long q1), .second, .val (.long vb), .second, .val (.int vw), .val (.int vs), .val (.long (((f (B / 64)).toUInt64 >>> (vs &&& 0x3f).toInt64.toUInt64).toInt64)), .second] rfl (hb hby d2_33) rfl rfl ?_
  refine own_iload X5 hx 37 (hb hby d2_35) rfl rfl ?_
  refine own_aloadN X5 hx 38 (hb hby d2_37) rfl rfl ?_
  refine own_getF X5 hx hZ hown e6 41 (hw _ (List.mem_of_getElem? (i := 15) rfl)) F_width (hb hby d2_38) rfl (fun T7 X8 e9 => ?_)
  refine own_iadd X8 hx 42 (hb hby d2_41) rfl ?_
  refine own_bipush X8 hx 44 (64 : Int32) (by decide) (hb hby d2_42) rfl ?_
  refine own_icmp_le X8 hx 67 47 (hb hby d2_44) (by decide) (by decide) rfl (fun h10 => ?_) (fun h10 => ?_)
  · show own_W p e below _ T7 (mkF m 67 #[.val (.ref a), .val (.long q1), .second, .val (.long vb), .second, .val (.int vw), .val (.int vs), .val (.long (((f (B / 64)).toUInt64 >>> (vs &&& 0x3f).toInt64.toUInt64).toInt64)), .second] [])
    refine own_lload X8 hx 69 (hb hby d2_67) rfl rfl ?_
    refine own_aloadN X8 hx 70 (hb hby d2_69) rfl rfl ?_
    refine own_getF X8 hx hZ hown e9 73 (hw _ (List.mem_of_getElem? (i := 18) rfl)) F_mask (hb hby d2_70) rfl (fun T11 X12 e13 => ?_)
    refine own_land X12 hx 74 (hb hby d2_73) rfl ?_
    exact own_retJ X12 hx hret hlk (hb hby d2_74) (by decide) (by decide) ⟨_, rfl, own_getP1 f B W mk vs hvs hm (by have := mt (own_c1 vs w B W hvs hw1 hW2).mpr h10; omega), N0, e13⟩
  · show own_W p e below _ T7 (mkF m 47 #[.val (.ref a), .val (.long q1), .second, .val (.long vb), .second, .val (.int vw), .val (.int vs), .val (.long (((f (B / 64)).toUInt64 >>> (vs &&& 0x3f).toInt64.toUInt64).toInt64)), .second] [])
    refine own_lload X8 hx 49 (hb hby d2_47) rfl rfl ?_
    refine own_aloadN X8 hx 50 (hb hby d2_49) rfl rfl ?_
    refine own_getF X8 hx hZ hown e9 53 (hw _ (List.mem_of_getElem? (i := 22) rfl)) F_words (hb hby d2_50) rfl (fun T14 X15 e16 => ?_)
    refine own_iload X15 hx 55 (hb hby d2_53) rfl rfl ?_
    refine own_iconst X15 hx 56 (1 : Int32) (by decide) (hb hby d2_55) rfl ?_
    refine own_iadd X15 hx 57 (hb hby d2_56) rfl ?_
    refine own_laload X15 hx hZ e16 58 (B / 64 + 1) A_t (own_i2 vw B hvw hB) (by have := (own_c1 vs w B W hvs hw1 hW2).mp h10; omega) (hb hby d2_57) rfl ?_
    refine own_bipush X15 hx 60 (64 : Int32) (by decide) (hb hby d2_58) rfl ?_
    refine own_iload X15 hx 62 (hb hby d2_60) rfl rfl ?_
    refine own_isub X15 hx 63 (hb hby d2_62) rfl ?_
    refine own_lshl X15 hx 64 (hb hby d2_63) rfl ?_
    refine own_lor X15 hx 65 (hb hby d2_64) rfl ?_
    refine own_lstore X15 hx 67 #[.val (.ref a), .val (.long q1), .second, .val (.long vb), .second, .val (.int vw), .val (.int vs), .val (.long ((((f (B / 64)).toUInt64 >>> (vs &&& 0x3f).toInt64.toUInt64).toInt64) ||| ((f (B / 64 + 1)) <<< (((64 : Int32) - vs) &&& 0x3f).toInt64))), .second] rfl (hb hby d2_65) rfl rfl ?_
    refine own_lload X15 hx 69 (hb hby d2_67) rfl rfl ?_
    refine own_aloadN X15 hx 70 (hb hby d2_69) rfl rfl ?_
    refine own_getF X15 hx hZ hown e16 73 (hw _ (List.mem_of_getElem? (i := 18) rfl)) F_mask (hb hby d2_70) rfl (fun T17 X18 e19 => ?_)
    refine own_land X18 hx 74 (hb hby d2_73) rfl ?_
    exact own_retJ X18 hx hret hlk (hb hby d2_74) (by decide) (by decide) ⟨_, rfl, own_getP2 f B W mk vs hvs hm hW2 ((own_c1 vs w B W hvs hw1 hW2).mp h10), N0, e19⟩
theorem d9_0 : decode method_2_code 0 = .ok (.iload_n 0, 1) := by decide +kernel
theorem d9_1 : decode method_2_code 1 = .ok (.bipush 64, 2) := by decide +kernel
theorem d9_3 : decode method_2_code 3 = .ok (.if_icmp .ne 7, 3) := by decide +kernel
theorem d9_6 : decode method_2_code 6 = .ok (.ldc2_w 7, 3) := by decide +kernel
theorem d9_9 : decode method_2_code 9 = .ok (.lreturn, 1) := by decide +kernel
theorem d9_10 : decode method_2_code 10 = .ok (.lconst 1, 1) := by decide +kernel
theorem d9_11 : decode method_2_code 11 = .ok (.iload_n 0, 1) := by decide +kernel
theorem d9_12 : decode method_2_code 12 = .ok (.lshl, 1) := by decide +kernel
theorem d9_13 : decode method_2_code 13 = .ok (.lconst 1, 1) := by decide +kernel
theorem d9_14 : decode method_2_code 14 = .ok (.lsub, 1) := by decide +kernel
theorem d9_15 : decode method_2_code 15 = .ok (.lreturn, 1) := by decide +kernel
set_option maxRecDepth 65536 in
set_option maxHeartbeats 40000000 in
theorem rm9 (l : Launch) (Z : State) (a0 : Array Value) (hw : ∀ d ∈ tables_1, d.before a0 Z = true) (p0 : Int32) (h0 : Heap) (n0 : Nat) (Z0 : n0 ≤ h0.size)  :
    own_C l Z (⟨"com/example/urd/urd/PackedArrayGetPinLaw", "widthMask", "(I)J"⟩ : MethodName) method_2_code 1 (some .long) [] ({ frames := 0, cells := 0, slots := 0, locals := 0 } : Room) #[(.int p0)] h0 (fun v h L => v = some (.long (own_wm p0)) ∧ Fr n0 L ∧ h = h0) := by
  refine own_body (by first | (simp [plainName, overriddenIn]; done) | decide +kernel) ?_
  intro p e s m below meth c T0 hx hby hml hown hnm hret hlk hZ X0 e0
  have N0 := Fr.nil n0
  refine own_eq (f' := (mkF m 0 #[.val (.int p0)] [])) (by first | (simp [entryFrame, mkF, argsToLocals, Value.category]; done) | rfl) ?_
  refine own_iloadN X0 hx 1 (hb hby d9_0) rfl rfl ?_
  refine own_bipush X0 hx 3 (64 : Int32) (by decide) (hb hby d9_1) rfl ?_
  refine own_icmp_ne X0 hx 10 6 (hb hby d9_3) (by decide) (by decide) rfl (fun h1 => ?_) (fun h1 => ?_)
  · show own_W p e below _ T0 (mkF m 10 #[.val (.int p0)] [])
    refine own_lconst X0 hx 11 (1 : Int64) (by decide) (hb hby d9_10) rfl ?_
    refine own_iloadN X0 hx 12 (hb hby d9_11) rfl rfl ?_
    refine own_lshl X0 hx 13 (hb hby d9_12) rfl ?_
    refine own_lconst X0 hx 14 (1 : Int64) (by decide) (hb hby d9_13) rfl ?_
    refine own_lsub X0 hx 15 (hb hby d9_14) rfl ?_
    exact own_retJ X0 hx hret hlk (hb hby d9_15) (by decide) (by decide) ⟨by unfold own_wm; rw [if_neg h1], N0, e0⟩
  · show own_W p e below _ T0 (mkF m 6 #[.val (.int p0)] [])
    refine own_ldc2 X0 hx hZ hown 9 (hw _ (List.mem_of_getElem? (i := 36) rfl)) (hb hby d9_6) rfl ?_
    exact own_retJ X0 hx hret hlk (hb hby d9_9) (by decide) (by decide) ⟨by unfold own_wm; rw [if_pos h1], N0, e0⟩
set_option maxRecDepth 65536 in
set_option maxHeartbeats 40000000 in
theorem rm0 (l : Launch) (Z : State) (a0 : Array Value) (hw : ∀ d ∈ tables_1, d.before a0 Z = true) (p0 p1 : Int32) (q2 q3 : Int64) (h0 : Heap) (n0 : Nat) (Z0 : n0 ≤ h0.size)  :
    own_C l Z x code maxLocals ret tables_1 room_1 #[(.int p0), (.int p1), (.long q2), (.long q3)] h0 (fun v h L => v = some (.int 1) ∧ Fr n0 L) := by
  refine own_body (by first | (simp [plainName, overriddenIn]; done) | decide +kernel) ?_
  intro p e s m below meth c T0 hx hby hml hown hnm hret hlk hZ X0 e0
  have N0 := Fr.nil n0
  refine own_eq (f' := (mkF m 0 #[.val (.int p0), .val (.int p1), .val (.long q2), .second, .val (.long q3), .second, .unset, .unset, .unset, .unset, .unset, .unset, .unset, .unset, .unset, .unset, .unset] [])) (by first | (simp [entryFrame, mkF, argsToLocals, Value.category, maxLocals]; done) | rfl) ?_
  refine own_iloadN X0 hx 1 (hb hby at_0) rfl rfl ?_
  refine own_bipush X0 hx 3 (63 : Int32) (by decide) (hb hby at_1) rfl ?_
  refine own_iand X0 hx 4 (hb hby at_3) rfl ?_
  refine own_iconst X0 hx 5 (1 : Int32) (by decide) (hb hby at_4) rfl ?_
  refine own_iadd X0 hx 6 (hb hby at_5) rfl ?_
  obtain ⟨vw, e_vw⟩ : ∃ z : Int32, z = ((p0 &&& (63 : Int32)) + (1 : Int32)) := ⟨_, rfl⟩
  refine own_istore X0 hx 8 #[.val (.int p0), .val (.int p1), .val (.long q2), .second, .val (.long q3), .second, .val (.int vw), .unset, .unset, .unset, .unset, .unset, .unset, .unset, .unset, .unset, .unset] e_vw (hb hby at_6) rfl rfl ?_
  obtain ⟨W, hW, hW1, hW2⟩ := own_w0 p0 vw e_vw
  refine own_lconst X0 hx 9 (1 : Int64) (by decide) (hb hby at_8) rfl ?_
  refine own_iloadN X0 hx 10 (hb hby at_9) rfl rfl ?_
  refine own_ldc X0 hx hZ hown 12 (hw _ (List.mem_of_getElem? (i := 0) rfl)) (hb hby at_10) rfl ?_
  refine own_iand X0 hx 13 (hb hby at_12) rfl ?_
  refine own_sipush X0 hx 16 (128 : Int32) (by decide) (hb hby at_13) rfl ?_
  refine own_irem X0 hx 17 (by decide) (hb hby at_16) rfl ?_
  refine own_i2l X0 hx 18 (hb hby at_17) rfl ?_
  refine own_ladd X0 hx 19 (hb hby at_18) rfl ?_
  obtain ⟨vi, e_vi⟩ : ∃ z : Int64, z = ((1 : Int64) + (((p1 &&& (2147483647 : Int32)) % (128 : Int32)).toInt64)) := ⟨_, rfl⟩
  refine own_lstore X0 hx 21 #[.val (.int p0), .val (.int p1), .val (.long q2), .second, .val (.long q3), .second, .val (.int vw), .val (.long vi), .second, .unset, .unset, .unset, .unset, .unset, .unset, .unset, .unset] e_vi (hb hby at_19) rfl rfl ?_
  obtain ⟨k, hk, hk1, hk2⟩ := own_k1 p1 vi e_vi
  obtain ⟨kw1, kw2⟩ := own_mulp k W hk1
  have kw3 := own_mulp2 k W
  refine own_iload X0 hx 23 (hb hby at_21) rfl rfl ?_
  refine own_callS X0 hx hZ hown e0 (y := (⟨"com/example/urd/urd/PackedArrayGetPinLaw", "widthMask", "(I)J"⟩ : MethodName)) (argsL := [(.int vw)]) (rest := []) 26 (rm9 l Z a0 hw vw h0 n0 Z0) (hw _ (List.mem_of_getElem? (i := 1) rfl)) (hw _ (List.mem_of_getElem? (i := 2) rfl)) (hw _ (List.mem_of_getElem? (i := 3) rfl)) (hw _ (List.mem_of_getElem? (i := 4) rfl)) (by decide) (by rw [hml]; rfl) (lenOf (by decide +kernel : parseMethodDescriptor "(I)J" = some ⟨[.int], some .long⟩) rfl) rfl (hb hby at_23) rfl (W := 0) rfl (by decide) (by decide) (by decide) (by decide) (fun r1 T2 L3 X4 q5 => ?_)
  obtain ⟨rfl, N6q, e7⟩ := q5
  have N6 := Fr.app N0 N6q
  show own_W p e below _ T2 (mkF m 26 #[.val (.int p0), .val (.int p1), .val (.long q2), .second, .val (.long q3), .second, .val (.int vw), .val (.long vi), .second, .unset, .unset, .unset, .unset, .unset, .unset, .unset, .unset] [(.long (own_wm vw))])
  obtain ⟨mm, e_mm⟩ : ∃ z : Int64, z = (own_wm vw) := ⟨_, rfl⟩
  refine own_lstore X4 hx 28 #[.val (.int p0), .val (.int p1), .val (.long q2), .second, .val (.long q3), .second, .val (.int vw), .val (.long vi), .second, .val (.long mm), .second, .unset, .unset, .unset, .unset, .unset, .unset] e_mm (hb hby at_26) rfl rfl ?_
  have hmW := own_wmB vw W hW hW2 mm e_mm
  refine own_lloadN X4 hx 29 (hb hby at_28) rfl rfl ?_
  refine own_lload X4 hx 31 (hb hby at_29) rfl rfl ?_
  refine own_land X4 hx 32 (hb hby at_31) rfl ?_
  obtain ⟨am, e_am⟩ : ∃ z : Int64, z = (q2 &&& mm) := ⟨_, rfl⟩
  refine own_lstore X4 hx 34 #[.val (.int p0), .val (.int p1), .val (.long q2), .second, .val (.long q3), .second, .val (.int vw), .val (.long vi), .second, .val (.long mm), .second, .val (.long am), .second, .unset, .unset, .unset, .unset] e_am (hb hby at_32) rfl rfl ?_
  refine own_lload X4 hx 36 (hb hby at_34) rfl rfl ?_
  refine own_lload X4 hx 38 (hb hby at_36) rfl rfl ?_
  refine own_land X4 hx 39 (hb hby at_38) rfl ?_
  obtain ⟨bm, e_bm⟩ : ∃ z : Int64, z = (q3 &&& mm) := ⟨_, rfl⟩
  refine own_lstore X4 hx 41 #[.val (.int p0), .val (.int p1), .val (.long q2), .second, .val (.long q3), .second, .val (.int vw), .val (.long vi), .second, .val (.long mm), .second, .val (.long am), .second, .val (.long bm), .second, .unset, .unset] e_bm (hb hby at_39) rfl rfl ?_
  refine own_new X4 hx hZ hown e7 44 (hw _ (List.mem_of_getElem? (i := 5) rfl)) (hw _ (List.mem_of_getElem? (i := 6) rfl)) (hw _ (List.mem_of_getElem? (i := 7) rfl)) (hb hby at_41) rfl (by decide) (by decide) (fun T8 h9 a10 X11 e12 g13 E14 A15 D16 => ?_)
  have ga17 : n0 ≤ a10 := by rw [g13]; exact Z0
  have Z18 : n0 ≤ h9.size := Nat.le_trans Z0 E14.1
  have f19 : Fld Z h9 a10 "com/example/urd/urd/PackedArray" "width" "I" (.int (0 : Int32)) := D16 (Or.inr (hw _ (List.mem_of_getElem? (i := 16) rfl))) (ty := .int) (by decide)
  have f20 : Fld Z h9 a10 "com/example/urd/urd/PackedArray" "mask" "J" (.long (0 : Int64)) := D16 (Or.inr (hw _ (List.mem_of_getElem? (i := 19) rfl))) (ty := .long) (by decide)
  have f21 : Fld Z h9 a10 "com/example/urd/urd/PackedArray" "words" "[J" .null := D16 (Or.inr (hw _ (List.mem_of_getElem? (i := 23) rfl))) (ty := (.array .long)) (by decide)
  refine own_dup X11 hx 45 rfl (hb hby at_44) rfl ?_
  refine own_ldc2 X11 hx hZ hown 48 (hw _ (List.mem_of_getElem? (i := 8) rfl)) (hb hby at_45) rfl ?_
  refine own_iload X11 hx 50 (hb hby at_48) rfl rfl ?_
  refine own_callI X11 hx hZ hown e12 (y := (⟨"com/example/urd/urd/PackedArray", "<init>", "(JI)V"⟩ : MethodName)) (a := a10) (argsL := [(.long (131 : Int64)), (.int vw)]) (rest := [(.ref a10)]) 53 (rm1 l Z a0 hw a10 vw W h9 n0 Z18 hW hW1 hW2 ga17 A15 f19 f20 f21) rfl (hw _ (List.mem_of_getElem? (i := 9) rfl)) (hw _ (List.mem_of_getElem? (i := 10) rfl)) (hw _ (List.mem_of_getElem? (i := 7) rfl)) (hw _ (List.mem_of_getElem? (i := 11) rfl)) (by decide) (by rw [hml]; rfl) (lenOf (by decide +kernel : parseMethodDescriptor "(JI)V" = some ⟨[.long, .int], none⟩) rfl) rfl (hb hby at_50) rfl (W := 1) rfl (by decide) (by decide) (by decide) (by decide) (fun r22 T23 L24 X25 q26 => ?_)
  obtain ⟨t27, mk28, rfl, hm37, N29q, K30, gt31, na32, f33, f34, f35, f36⟩ := q26
  have N29 := Fr.app N6 N29q
  have f38 := A15.keep K30
  have Z42 : n0 ≤ T23.heap.size := Nat.le_trans Z18 K30.1
  show own_W p e below _ T23 (mkF m 53 #[.val (.int p0), .val (.int p1), .val (.long q2), .second, .val (.long q3), .second, .val (.int vw), .val (.long vi), .second, .val (.long mm), .second, .val (.long am), .second, .val (.long bm), .second, .unset, .unset] [(.ref a10)])
  refine own_astore X25 hx 55 #[.val (.int p0), .val (.int p1), .val (.long q2), .second, .val (.long q3), .second, .val (.int vw), .val (.long vi), .second, .val (.long mm), .second, .val (.long am), .second, .val (.long bm), .second, .val (.ref a10), .unset] rfl (hb hby at_53) rfl rfl ?_
  refine own_aload X25 hx 57 (hb hby at_55) rfl rfl ?_
  refine own_lload X25 hx 59 (hb hby at_57) rfl rfl ?_
  refine own_lconst X25 hx 60 (1 : Int64) (by decide) (hb hby at_59) rfl ?_
  refine own_ladd X25 hx 61 (hb hby at_60) rfl ?_
  refine own_lload X25 hx 63 (hb hby at_61) rfl rfl ?_
  refine own_callV X25 hx hZ hown rfl (y := (⟨"com/example/urd/urd/PackedArray", "set", "(JJ)V"⟩ : MethodName)) (a := a10) (argsL := [(.long (vi + (1 : Int64))), (.long bm)]) (rest := []) 66 (rm3 l Z a0 hw a10 t27 (vi + (1 : Int64)) bm mk28 vw W ((k + 1) * W) ((131 * W + 63) / 64) (fun _ => 0) T23.heap n0 Z42 hW hW1 hW2 hm37 (own_q1 _ _ (k + 1) W (own_up vi k hk hk2) hW (by omega) hW2) (own_kw (k + 1) W 131 (by omega) (by decide) hW2) (own_fit (k + 1) W 131 (by omega)) na32 gt31 (own_hv e_bm hmW) f33 f34 f35 f36) f38 (hw _ (List.mem_of_getElem? (i := 24) rfl)) (hw _ (List.mem_of_getElem? (i := 25) rfl)) (hw _ (List.mem_of_getElem? (i := 27) rfl)) (hw _ (List.mem_of_getElem? (i := 26) rfl)) (hw _ (List.mem_of_getElem? (i := 7) rfl)) (hw _ (List.mem_of_getElem? (i := 28) rfl)) (by decide) (by rw [hml]; rfl) (lenOf (by decide +kernel : parseMethodDescriptor "(JJ)V" = some ⟨[.long, .long], none⟩) rfl) rfl (hb hby at_63) rfl (W := 0) rfl (by decide) (by decide) (by decide) (by decide) (fun r43 T44 L45 X46 q47 => ?_)
  obtain ⟨g48, rfl, pu49, N50q, K51, f52, f53, f54, f55⟩ := q47
  have N50 := Fr.app N29 N50q
  have f56 := f38.keep K51
  have f57 := f33.keep K51 (ninS na32 nin0)
  have f58 := f34.keep K51 (ninS na32 nin0)
  have f59 := f35.keep K51 (ninS na32 nin0)
  have Z61 : n0 ≤ T44.heap.size := Nat.le_trans Z42 K51.1
  show own_W p e below _ T44 (mkF m 66 #[.val (.int p0), .val (.int p1), .val (.long q2), .second, .val (.long q3), .second, .val (.int vw), .val (.long vi), .second, .val (.long mm), .second, .val (.long am), .second, .val (.long bm), .second, .val (.ref a10), .unset] [])
  refine own_aload X46 hx 68 (hb hby at_66) rfl rfl ?_
  refine own_lload X46 hx 70 (hb hby at_68) rfl rfl ?_
  refine own_lload X46 hx 72 (hb hby at_70) rfl rfl ?_
  refine own_callV X46 hx hZ hown rfl (y := (⟨"com/example/urd/urd/PackedArray", "set", "(JJ)V"⟩ : MethodName)) (a := a10) (argsL := [(.long vi), (.long am)]) (rest := []) 75 (rm3 l Z a0 hw a10 t27 vi am mk28 vw W (k * W) ((131 * W + 63) / 64) g48 T44.heap n0 Z61 hW hW1 hW2 hm37 (own_q1 _ _ k W hk hW (by omega) hW2) (own_kw k W 131 (by omega) (by decide) hW2) (own_fit k W 131 (by omega)) na32 gt31 (own_hv e_am hmW) f52 f53 f54 f55) f56 (hw _ (List.mem_of_getElem? (i := 24) rfl)) (hw _ (List.mem_of_getElem? (i := 25) rfl)) (hw _ (List.mem_of_getElem? (i := 27) rfl)) (hw _ (List.mem_of_getElem? (i := 26) rfl)) (hw _ (List.mem_of_getElem? (i := 7) rfl)) (hw _ (List.mem_of_getElem? (i := 28) rfl)) (by decide) (by rw [hml]; rfl) (lenOf (by decide +kernel : parseMethodDescriptor "(JJ)V" = some ⟨[.long, .long], none⟩) rfl) rfl (hb hby at_72) rfl (W := 0) rfl (by decide) (by decide) (by decide) (by decide) (fun r62 T63 L64 X65 q66 => ?_)
  obtain ⟨g67, rfl, pu68, N69q, K70, f71, f72, f73, f74⟩ := q66
  have N69 := Fr.app N50 N69q
  have f75 := f56.keep K70
  have f76 := f52.keep K70 (ninS na32 nin0)
  have f77 := f53.keep K70 (ninS na32 nin0)
  have f78 := f54.keep K70 (ninS na32 nin0)
  have Z80 : n0 ≤ T63.heap.size := Nat.le_trans Z61 K70.1
  show own_W p e below _ T63 (mkF m 75 #[.val (.int p0), .val (.int p1), .val (.long q2), .second, .val (.long q3), .second, .val (.int vw), .val (.long vi), .second, .val (.long mm), .second, .val (.long am), .second, .val (.long bm), .second, .val (.ref a10), .unset] [])
  refine own_aload X65 hx 77 (hb hby at_75) rfl rfl ?_
  refine own_lload X65 hx 79 (hb hby at_77) rfl rfl ?_
  refine own_callV X65 hx hZ hown rfl (y := (⟨"com/example/urd/urd/PackedArray", "get", "(J)J"⟩ : MethodName)) (a := a10) (argsL := [(.long vi)]) (rest := []) 82 (rm2 l Z a0 hw a10 t27 vi mk28 vw W (k * W) ((131 * W + 63) / 64) g67 T63.heap n0 Z80 hW hW1 hW2 hm37 (own_q1 _ _ k W hk hW (by omega) hW2) (own_kw k W 131 (by omega) (by decide) hW2) (own_fit k W 131 (by omega)) na32 gt31 f71 f72 f73 f74) f75 (hw _ (List.mem_of_getElem? (i := 30) rfl)) (hw _ (List.mem_of_getElem? (i := 31) rfl)) (hw _ (List.mem_of_getElem? (i := 33) rfl)) (hw _ (List.mem_of_getElem? (i := 32) rfl)) (hw _ (List.mem_of_getElem? (i := 7) rfl)) (hw _ (List.mem_of_getElem? (i := 34) rfl)) (by decide) (by rw [hml]; rfl) (lenOf (by decide +kernel : parseMethodDescriptor "(J)J" = some ⟨[.long], some .long⟩) rfl) rfl (hb hby at_79) rfl (W := 0) rfl (by decide) (by decide) (by decide) (by decide) (fun r81 T82 L83 X84 q85 => ?_)
  obtain ⟨r86, rfl, hr87, N88q, e89⟩ := q85
  have N88 := Fr.app N69 N88q
  show own_W p e below _ T82 (mkF m 82 #[.val (.int p0), .val (.int p1), .val (.long q2), .second, .val (.long q3), .second, .val (.int vw), .val (.long vi), .second, .val (.long mm), .second, .val (.long am), .second, .val (.long bm), .second, .val (.ref a10), .unset] [(.long r86)])
  refine own_lload X84 hx 84 (hb hby at_82) rfl rfl ?_
  refine own_lif_ne X84 hx 85 92 88 (hb hby at_84) rfl (hb hby at_85) (by decide) (by decide) rfl (fun h90 => ?_) (fun h90 => ?_)
  · exact absurd (own_read hr87 (own_hv e_am hmW) (fun j hj => by exact pu68.hit j hj)) h90
  · show own_W p e below _ T82 (mkF m 88 #[.val (.int p0), .val (.int p1), .val (.long q2), .second, .val (.long q3), .second, .val (.int vw), .val (.long vi), .second, .val (.long mm), .second, .val (.long am), .second, .val (.long bm), .second, .val (.ref a10), .unset] [])
    refine own_iconst X84 hx 89 (1 : Int32) (by decide) (hb hby at_88) rfl ?_
    refine own_goto X84 hx 93 (hb hby at_89) (by decide) (by decide) ?_
    refine own_istore X84 hx 95 #[.val (.int p0), .val (.int p1), .val (.long q2), .second, .val (.long q3), .second, .val (.int vw), .val (.long vi), .second, .val (.long mm), .second, .val (.long am), .second, .val (.long bm), .second, .val (.ref a10), .val (.int (1 : Int32))] rfl (hb hby at_93) rfl rfl ?_
    refine own_iload X84 hx 97 (hb hby at_95) rfl rfl ?_
    refine own_if_eq X84 hx 119 100 (hb hby at_97) (by decide) (by decide) rfl (fun h91 => ?_) (fun h91 => ?_)
    · exact absurd h91 (by decide)
    · show own_W p e below _ T82 (mkF m 100 #[.val (.int p0), .val (.int p1), .val (.long q2), .second, .val (.long q3), .second, .val (.int vw), .val (.long vi), .second, .val (.long mm), .second, .val (.long am), .second, .val (.long bm), .second, .val (.ref a10), .val (.int (1 : Int32))] [])
      refine own_aload X84 hx 102 (hb hby at_100) rfl rfl ?_
      refine own_lload X84 hx 104 (hb hby at_102) rfl rfl ?_
      refine own_lconst X84 hx 105 (1 : Int64) (by decide) (hb hby at_104) rfl ?_
      refine own_ladd X84 hx 106 (hb hby at_105) rfl ?_
      refine own_callV X84 hx hZ hown e89 (y := (⟨"com/example/urd/urd/PackedArray", "get", "(J)J"⟩ : MethodName)) (a := a10) (argsL := [(.long (vi + (1 : Int64)))]) (rest := []) 109 (rm2 l Z a0 hw a10 t27 (vi + (1 : Int64)) mk28 vw W ((k + 1) * W) ((131 * W + 63) / 64) g67 T63.heap n0 Z80 hW hW1 hW2 hm37 (own_q1 _ _ (k + 1) W (own_up vi k hk hk2) hW (by omega) hW2) (own_kw (k + 1) W 131 (by omega) (by decide) hW2) (own_fit (k + 1) W 131 (by omega)) na32 gt31 f71 f72 f73 f74) f75 (hw _ (List.mem_of_getElem? (i := 30) rfl)) (hw _ (List.mem_of_getElem? (i := 31) rfl)) (hw _ (List.mem_of_getElem? (i := 33) rfl)) (hw _ (List.mem_of_getElem? (i := 32) rfl)) (hw _ (List.mem_of_getElem? (i := 7) rfl)) (hw _ (List.mem_of_getElem? (i := 34) rfl)) (by decide) (by rw [hml]; rfl) (lenOf (by decide +kernel : parseMethodDescriptor "(J)J" = some ⟨[.long], some .long⟩) rfl) rfl (hb hby at_106) rfl (W := 0) rfl (by decide) (by decide) (by decide) (by decide) (fun r92 T93 L94 X95 q96 => ?_)
      obtain ⟨r97, rfl, hr98, N99q, e100⟩ := q96
      have N99 := Fr.app N88 N99q
      show own_W p e below _ T93 (mkF m 109 #[.val (.int p0), .val (.int p1), .val (.long q2), .second, .val (.long q3), .second, .val (.int vw), .val (.long vi), .second, .val (.long mm), .second, .val (.long am), .second, .val (.long bm), .second, .val (.ref a10), .val (.int (1 : Int32))] [(.long r97)])
      refine own_lload X95 hx 111 (hb hby at_109) rfl rfl ?_
      refine own_lif_ne X95 hx 112 119 115 (hb hby at_111) rfl (hb hby at_112) (by decide) (by decide) rfl (fun h101 => ?_) (fun h101 => ?_)
      · exact absurd (own_read hr98 (own_hv e_bm hmW) (fun j hj => by rw [pu68.miss _ (by omega)]; exact pu49.hit j hj)) h101
      · show own_W p e below _ T93 (mkF m 115 #[.val (.int p0), .val (.int p1), .val (.long q2), .second, .val (.long q3), .second, .val (.int vw), .val (.long vi), .second, .val (.long mm), .second, .val (.long am), .second, .val (.long bm), .second, .val (.ref a10), .val (.int (1 : Int32))] [])
        refine own_iconst X95 hx 116 (1 : Int32) (by decide) (hb hby at_115) rfl ?_
        refine own_goto X95 hx 120 (hb hby at_116) (by decide) (by decide) ?_
        refine own_istore X95 hx 122 #[.val (.int p0), .val (.int p1), .val (.long q2), .second, .val (.long q3), .second, .val (.int vw), .val (.long vi), .second, .val (.long mm), .second, .val (.long am), .second, .val (.long bm), .second, .val (.ref a10), .val (.int (1 : Int32))] rfl (hb hby at_120) rfl rfl ?_
        refine own_iload X95 hx 124 (hb hby at_122) rfl rfl ?_
        refine own_if_eq X95 hx 145 127 (hb hby at_124) (by decide) (by decide) rfl (fun h102 => ?_) (fun h102 => ?_)
        · exact absurd h102 (by decide)
        · show own_W p e below _ T93 (mkF m 127 #[.val (.int p0), .val (.int p1), .val (.long q2), .second, .val (.long q3), .second, .val (.int vw), .val (.long vi), .second, .val (.long mm), .second, .val (.long am), .second, .val (.long bm), .second, .val (.ref a10), .val (.int (1 : Int32))] [])
          refine own_aload X95 hx 129 (hb hby at_127) rfl rfl ?_
          refine own_lload X95 hx 131 (hb hby at_129) rfl rfl ?_
          refine own_lconst X95 hx 132 (1 : Int64) (by decide) (hb hby at_131) rfl ?_
          refine own_lsub X95 hx 133 (hb hby at_132) rfl ?_
          refine own_callV X95 hx hZ hown e100 (y := (⟨"com/example/urd/urd/PackedArray", "get", "(J)J"⟩ : MethodName)) (a := a10) (argsL := [(.long (vi - (1 : Int64)))]) (rest := []) 136 (rm2 l Z a0 hw a10 t27 (vi - (1 : Int64)) mk28 vw W ((k - 1) * W) ((131 * W + 63) / 64) g67 T63.heap n0 Z80 hW hW1 hW2 hm37 (own_q1 _ _ (k - 1) W (own_dn vi k hk hk1 hk2) hW (by omega) hW2) (own_kw (k - 1) W 131 (by omega) (by decide) hW2) (own_fit (k - 1) W 131 (by omega)) na32 gt31 f71 f72 f73 f74) f75 (hw _ (List.mem_of_getElem? (i := 30) rfl)) (hw _ (List.mem_of_getElem? (i := 31) rfl)) (hw _ (List.mem_of_getElem? (i := 33) rfl)) (hw _ (List.mem_of_getElem? (i := 32) rfl)) (hw _ (List.mem_of_getElem? (i := 7) rfl)) (hw _ (List.mem_of_getElem? (i := 34) rfl)) (by decide) (by rw [hml]; rfl) (lenOf (by decide +kernel : parseMethodDescriptor "(J)J" = some ⟨[.long], some .long⟩) rfl) rfl (hb hby at_133) rfl (W := 0) rfl (by decide) (by decide) (by decide) (by decide) (fun r103 T104 L105 X106 q107 => ?_)
          obtain ⟨r108, rfl, hr109, N110q, e111⟩ := q107
          have N110 := Fr.app N99 N110q
          show own_W p e below _ T104 (mkF m 136 #[.val (.int p0), .val (.int p1), .val (.long q2), .second, .val (.long q3), .second, .val (.int vw), .val (.long vi), .second, .val (.long mm), .second, .val (.long am), .second, .val (.long bm), .second, .val (.ref a10), .val (.int (1 : Int32))] [(.long r108)])
          refine own_lconst X106 hx 137 (0 : Int64) (by decide) (hb hby at_136) rfl ?_
          refine own_lif_ne X106 hx 138 145 141 (hb hby at_137) rfl (hb hby at_138) (by decide) (by decide) rfl (fun h112 => ?_) (fun h112 => ?_)
          · exact absurd (own_read hr109 (own_hv0 W) (fun j hj => by rw [pu68.miss _ (by omega), pu49.miss _ (by omega)]; rw [own_b0, own_z0])) h112
          · show own_W p e below _ T104 (mkF m 141 #[.val (.int p0), .val (.int p1), .val (.long q2), .second, .val (.long q3), .second, .val (.int vw), .val (.long vi), .second, .val (.long mm), .second, .val (.long am), .second, .val (.long bm), .second, .val (.ref a10), .val (.int (1 : Int32))] [])
            refine own_iconst X106 hx 142 (1 : Int32) (by decide) (hb hby at_141) rfl ?_
            refine own_goto X106 hx 146 (hb hby at_142) (by decide) (by decide) ?_
            refine own_istore X106 hx 148 #[.val (.int p0), .val (.int p1), .val (.long q2), .second, .val (.long q3), .second, .val (.int vw), .val (.long vi), .second, .val (.long mm), .second, .val (.long am), .second, .val (.long bm), .second, .val (.ref a10), .val (.int (1 : Int32))] rfl (hb hby at_146) rfl rfl ?_
            refine own_iload X106 hx 150 (hb hby at_148) rfl rfl ?_
            refine own_if_eq X106 hx 173 153 (hb hby at_150) (by decide) (by decide) rfl (fun h113 => ?_) (fun h113 => ?_)
            · exact absurd h113 (by decide)
            · show own_W p e below _ T104 (mkF m 153 #[.val (.int p0), .val (.int p1), .val (.long q2), .second, .val (.long q3), .second, .val (.int vw), .val (.long vi), .second, .val (.long mm), .second, .val (.long am), .second, .val (.long bm), .second, .val (.ref a10), .val (.int (1 : Int32))] [])
              refine own_aload X106 hx 155 (hb hby at_153) rfl rfl ?_
              refine own_lload X106 hx 157 (hb hby at_155) rfl rfl ?_
              refine own_ldc2 X106 hx hZ hown 160 (hw _ (List.mem_of_getElem? (i := 35) rfl)) (hb hby at_157) rfl ?_
              refine own_ladd X106 hx 161 (hb hby at_160) rfl ?_
              refine own_callV X106 hx hZ hown e111 (y := (⟨"com/example/urd/urd/PackedArray", "get", "(J)J"⟩ : MethodName)) (a := a10) (argsL := [(.long (vi + (2 : Int64)))]) (rest := []) 164 (rm2 l Z a0 hw a10 t27 (vi + (2 : Int64)) mk28 vw W ((k + 2) * W) ((131 * W + 63) / 64) g67 T63.heap n0 Z80 hW hW1 hW2 hm37 (own_q1 _ _ (k + 2) W (own_up2 vi k hk hk2) hW (by omega) hW2) (own_kw (k + 2) W 131 (by omega) (by decide) hW2) (own_fit (k + 2) W 131 (by omega)) na32 gt31 f71 f72 f73 f74) f75 (hw _ (List.mem_of_getElem? (i := 30) rfl)) (hw _ (List.mem_of_getElem? (i := 31) rfl)) (hw _ (List.mem_of_getElem? (i := 33) rfl)) (hw _ (List.mem_of_getElem? (i := 32) rfl)) (hw _ (List.mem_of_getElem? (i := 7) rfl)) (hw _ (List.mem_of_getElem? (i := 34) rfl)) (by decide) (by rw [hml]; rfl) (lenOf (by decide +kernel : parseMethodDescriptor "(J)J" = some ⟨[.long], some .long⟩) rfl) rfl (hb hby at_161) rfl (W := 0) rfl (by decide) (by decide) (by decide) (by decide) (fun r114 T115 L116 X117 q118 => ?_)
              obtain ⟨r119, rfl, hr120, N121q, e122⟩ := q118
              have N121 := Fr.app N110 N121q
              show own_W p e below _ T115 (mkF m 164 #[.val (.int p0), .val (.int p1), .val (.long q2), .second, .val (.long q3), .second, .val (.int vw), .val (.long vi), .second, .val (.long mm), .second, .val (.long am), .second, .val (.long bm), .second, .val (.ref a10), .val (.int (1 : Int32))] [(.long r119)])
              refine own_lconst X117 hx 165 (0 : Int64) (by decide) (hb hby at_164) rfl ?_
              refine own_lif_ne X117 hx 166 173 169 (hb hby at_165) rfl (hb hby at_166) (by decide) (by decide) rfl (fun h123 => ?_) (fun h123 => ?_)
              · exact absurd (own_read hr120 (own_hv0 W) (fun j hj => by rw [pu68.miss _ (by omega), pu49.miss _ (by omega)]; rw [own_b0, own_z0])) h123
              · show own_W p e below _ T115 (mkF m 169 #[.val (.int p0), .val (.int p1), .val (.long q2), .second, .val (.long q3), .second, .val (.int vw), .val (.long vi), .second, .val (.long mm), .second, .val (.long am), .second, .val (.long bm), .second, .val (.ref a10), .val (.int (1 : Int32))] [])
                refine own_iconst X117 hx 170 (1 : Int32) (by decide) (hb hby at_169) rfl ?_
                refine own_goto X117 hx 174 (hb hby at_170) (by decide) (by decide) ?_
                refine own_istore X117 hx 176 #[.val (.int p0), .val (.int p1), .val (.long q2), .second, .val (.long q3), .second, .val (.int vw), .val (.long vi), .second, .val (.long mm), .second, .val (.long am), .second, .val (.long bm), .second, .val (.ref a10), .val (.int (1 : Int32))] rfl (hb hby at_174) rfl rfl ?_
                refine own_iload X117 hx 178 (hb hby at_176) rfl rfl ?_
                exact own_retZ X117 hx (1 : Int32) (by decide) hret hlk (hb hby at_178) (by decide) (by decide) ⟨rfl, N121⟩
set_option maxRecDepth 65536 in
set_option maxHeartbeats 40000000 in
theorem comes_1 {Post : Tables → Env → Array Value → State → Outcome → State → Prop} (hpost : ∀ tb e args s v u, (limb_1_1.after args s (.returned v) u = true ∧ limb_1_2.after args s (.returned v) u = true ∧ True) → FrameEnd s (.returned v) u (Jvm.fieldLocs frame_1_writes args s ++ Jvm.arrayLocs frame_1_arrays args s ++ Jvm.staticLocs frame_1_statics s) 16 384 → Post tb e args s (.returned v) u) :
    ArmFor flags0 classFile x code maxLocals ret World_1 tables_1 room_1 Calls_1 rest_1 Pre_1 Post := by
  intro l hfl _ _ p e ha hc hk s m args below hf hA hF happ hP
  obtain ⟨hcalls, hrest, hpre⟩ := hP
  obtain ⟨-, -, -, hnamed, -, -, -, hat⟩ := (Spec.applies_iff hf).mp happ
  obtain ⟨hg, hn⟩ := and_e (Cond.before_iff.mp (show (Jvm.Cond.and given_1 narrow_1).before args s = true from hpre))
  obtain ⟨g0, gr0⟩ := and_e hg
  obtain ⟨g1, gr1⟩ := and_e gr0
  obtain ⟨g2, gr2⟩ := and_e gr1
  obtain ⟨g3, gr3⟩ := and_e gr2
  obtain ⟨w0, w1, w2, w3, rfl⟩ : ∃ w0 w1 w2 w3 : Value, args = #[w0, w1, w2, w3] := by
    have hs : args.size = 4 := by simpa [Cond.value, given_1] using g0
    obtain ⟨L⟩ := args
    match L, hs with
    | [w0, w1, w2, w3], _ => exact ⟨w0, w1, w2, w3, rfl⟩
  have hw := fun d (hd : d ∈ tables_1) => atoms_spec (ws := Jvm.Cond.code x code maxLocals ret :: tables_1) hat d (List.mem_cons_of_mem _ hd)
  obtain ⟨i0, ei0⟩ := is_v g1
  obtain rfl : w0 = (.int i0) := Option.some.inj ei0
  obtain ⟨i1, ei1⟩ := is_v g2
  obtain rfl : w1 = (.int i1) := Option.some.inj ei1
  obtain ⟨i2, ei2⟩ := isL_v g3
  obtain rfl : w2 = (.long i2) := Option.some.inj ei2
  obtain ⟨i3, ei3⟩ := isL_v gr3
  obtain rfl : w3 = (.long i3) := Option.some.inj ei3
  obtain ⟨n, o, h1, h2, h3, _, L, rfl, ⟨rfl, N⟩, hq⟩ := rm0 l s _ hw i0 i1 i2 i3 s.heap s.heap.size (Nat.le_refl _) p e ha hc hk s m _ below hf ((Spec.applies_iff_loose hf).mp happ).1 ⟨rfl, State.Warmed39.refl s, rfl⟩ trivial
  refine ⟨n, _, h1, h2, h3, hpost _ _ _ _ _ _ ⟨Cond.after_iff.mpr rfl, Cond.after_iff.mpr (eq_i res_at (Term.int_eval (1)) rfl), trivial⟩ ⟨hq.1, hq.2.1, (hq.2.2.sift fun y hy => Or.inr (N y hy)).mono (by decide) (by decide)⟩⟩
theorem main_1_1 : Claimed_1_1 := comes_1 fun _ _ _ _ _ _ h hF => ⟨h.1, hF⟩
theorem main_1_2 : Claimed_1_2 := comes_1 fun _ _ _ _ _ _ h hF => ⟨h.2.1, hF⟩
end Jvm.Pilot.@@N@@
namespace Jvm.Pilot.@@N@@
open Jvm Jvm.ClassFile Sem Op Lib Jvm.Free Jvm.Stand Jvm.Pilot.@@N@@.Jvm.D
/-! MADE BY PROGRAM (witnessworld.py) out of the Statement's table words and the real class files: 11 classes; the members and pool entries that the words name. The judged class is class 1, her method 2. -/
namespace start1
open Jvm.ClassFile
def u (s : String) : CpInfo := .utf8 (stringToUtf16 s)
/-- a pool by its gaps: so many unusable entries, then the entry; so many at the end -/
def gap : Nat → List CpInfo → List CpInfo
  | 0, r => r
  | n + 1, r => .unusable :: gap n r
def poolList (es : List (Nat × CpInfo)) (last : Nat) : List CpInfo := es.foldr (fun e r => gap e.1 (e.2 :: r)) (gap last [])
def pool (es : List (Nat × CpInfo)) (last : Nat) : Array CpInfo := ⟨poolList es last⟩
def fileOf (pool : Array CpInfo) (this : Nat) (attrs : Array Attribute := #[]) (ms : Array MethodInfo := #[]) (fl : Nat := 33) (sup : Nat := 0) (ifs : Array Nat := #[]) (fds : Array FieldInfo := #[]) : ClassFile where
  minorVersion := 0
  majorVersion := 65
  constantPool := pool
  accessFlags := fl
  thisClass := this
  superClass := sup
  interfaces := ifs
  fields := fds
  methods := ms
  attributes := attrs
def plain (name : String) (sup : Option ClassId) : Class where
  name := name
  kind := .ordinary
  loader := none
  accessFlags := 33
  super := sup
  interfaces := #[]
  cf := none
  fields := #[]
  methods := #[]
  instanceTypes := #[]
  staticTypes := #[]
  resolved := #[]
  callSites := []
  init := .initialized
  statics := none
  mirror := none

def pool0 : Array CpInfo := pool [(5, u "<init>"), (0, u "()V"), (1, .class_ 10), (1, u "java/lang/Object")] 113

def k0c0 : Code := { maxStack := 0, maxLocals := 1, code := object_method_1_code, exceptionTable := #[], attributes := #[] }
def k0m0 : Method := { name := "<init>", desc := "()V", sig := { parameters := [], returnType := none }, accessFlags := 1, code := some k0c0 }
/-- java/lang/Object -/
def k0 : Class := { plain "java/lang/Object" none with
  accessFlags := 33
  interfaces := #[]
  cf := some (fileOf pool0 8 #[] #[{ accessFlags := 1, nameIndex := 5, descriptorIndex := 6, attributes := #[] }] 33 0 #[] #[])
  fields := #[]
  methods := #[k0m0]
  instanceTypes := #[]
  staticTypes := #[]
  resolved := Array.replicate 124 none
  statics := none }

def pool1 : Array CpInfo := pool [(2, .class_ 4), (1, u "java/lang/Object"), (0, u "<init>"), (0, u "()V"), (0, .long 18446744073709551615), (1, .integer 2147483647), (0, .methodref 11 12), (0, .class_ 13), (0, .nameAndType 14 15), (0, u "com/example/urd/urd/PackedArrayGetPinLaw"), (0, u "widthMask"), (0, u "(I)J"), (0, .class_ 17), (0, u "com/example/urd/urd/PackedArray"), (0, .long 131), (1, .methodref 16 21), (0, .nameAndType 5 22), (0, u "(JI)V"), (0, .methodref 16 24), (0, .nameAndType 25 26), (0, u "set"), (0, u "(JJ)V"), (0, .methodref 16 28), (0, .nameAndType 29 30), (0, u "get"), (0, u "(J)J"), (0, .long 2), (4, u "law"), (0, u "(IIJJ)Z")] 2

def k1m0 : Method := { name := "<init>", desc := "()V", sig := { parameters := [], returnType := none }, accessFlags := 1, code := none }
def k1c1 : Code := { maxStack := 4, maxLocals := 1, code := method_2_code, exceptionTable := #[], attributes := #[] }
def k1m1 : Method := { name := "widthMask", desc := "(I)J", sig := { parameters := [.int], returnType := some .long }, accessFlags := 10, code := some k1c1 }
def k1c2 : Code := { maxStack := 5, maxLocals := 17, code := code, exceptionTable := #[], attributes := #[] }
def k1m2 : Method := { name := "law", desc := "(IIJJ)Z", sig := { parameters := [.int, .int, .long, .long], returnType := some .boolean }, accessFlags := 9, code := some k1c2 }
/-- com/example/urd/urd/PackedArrayGetPinLaw -/
def k1 : Class := { plain "com/example/urd/urd/PackedArrayGetPinLaw" (some 0) with
  accessFlags := 49
  interfaces := #[]
  cf := some (fileOf pool1 11 #[] #[{ accessFlags := 1, nameIndex := 5, descriptorIndex := 6, attributes := #[] }, { accessFlags := 10, nameIndex := 14, descriptorIndex := 15, attributes := #[] }, { accessFlags := 9, nameIndex := 36, descriptorIndex := 37, attributes := #[] }] 49 2 #[] #[])
  fields := #[]
  methods := #[k1m0, k1m1, k1m2]
  instanceTypes := #[]
  staticTypes := #[]
  resolved := Array.replicate 40 none
  statics := none }

def pool2 : Array CpInfo := pool [(1, .methodref 2 3), (0, .class_ 4), (0, .nameAndType 5 6), (0, u "java/lang/Object"), (0, u "<init>"), (0, u "()V"), (0, .fieldref 8 9), (0, .class_ 10), (0, .nameAndType 11 12), (0, u "com/example/urd/urd/PackedArray"), (0, u "width"), (0, u "I"), (0, .long 18446744073709551615), (3, .fieldref 8 18), (0, .nameAndType 19 20), (0, u "mask"), (0, u "J"), (0, .long 64), (1, .fieldref 8 24), (0, .nameAndType 25 26), (0, u "words"), (0, u "[J"), (0, .long 63), (7, u "(JI)V"), (2, u "get"), (0, u "(J)J"), (1, u "set"), (0, u "(JJ)V")] 3

def k2c0 : Code := { maxStack := 5, maxLocals := 4, code := prog_27_method_1_code, exceptionTable := #[], attributes := #[] }
def k2m0 : Method := { name := "<init>", desc := "(JI)V", sig := { parameters := [.long, .int], returnType := none }, accessFlags := 0, code := some k2c0 }
def k2c1 : Code := { maxStack := 6, maxLocals := 9, code := prog_27_method_2_code, exceptionTable := #[], attributes := #[] }
def k2m1 : Method := { name := "get", desc := "(J)J", sig := { parameters := [.long], returnType := some .long }, accessFlags := 0, code := some k2c1 }
def k2c2 : Code := { maxStack := 8, maxLocals := 10, code := prog_27_method_3_code, exceptionTable := #[], attributes := #[] }
def k2m2 : Method := { name := "set", desc := "(JJ)V", sig := { parameters := [.long, .long], returnType := none }, accessFlags := 0, code := some k2c2 }
/-- com/example/urd/urd/PackedArray -/
def k2 : Class := { plain "com/example/urd/urd/PackedArray" (some 0) with
  accessFlags := 48
  interfaces := #[]
  cf := some (fileOf pool2 8 #[] #[{ accessFlags := 0, nameIndex := 5, descriptorIndex := 35, attributes := #[] }, { accessFlags := 0, nameIndex := 38, descriptorIndex := 39, attributes := #[] }, { accessFlags := 0, nameIndex := 41, descriptorIndex := 42, attributes := #[] }] 48 2 #[] #[{ accessFlags := 18, nameIndex := 11, descriptorIndex := 12, attributes := #[] }, { accessFlags := 18, nameIndex := 19, descriptorIndex := 20, attributes := #[] }, { accessFlags := 18, nameIndex := 25, descriptorIndex := 26, attributes := #[] }])
  fields := #[{ name := "width", type := .int, accessFlags := 18, slot := 0, constantValue := 0 }, { name := "mask", type := .long, accessFlags := 18, slot := 1, constantValue := 0 }, { name := "words", type := (.array .long), accessFlags := 18, slot := 2, constantValue := 0 }]
  methods := #[k2m0, k2m1, k2m2]
  instanceTypes := #[.int, .long, (.array .long)]
  staticTypes := #[]
  resolved := Array.replicate 46 none
  statics := none }

def pool3 : Array CpInfo := pool [(1, u "java/lang/Cloneable"), (0, .class_ 1), (0, u "java/lang/Object"), (0, .class_ 3)] 3

/-- java/lang/Cloneable -/
def k3 : Class := { plain "java/lang/Cloneable" (some 0) with
  accessFlags := 1537
  interfaces := #[]
  cf := some (fileOf pool3 2 #[] #[] 1537 4 #[] #[])
  fields := #[]
  methods := #[]
  instanceTypes := #[]
  staticTypes := #[]
  resolved := Array.replicate 8 none
  statics := none }

def pool4 : Array CpInfo := pool [(1, u "java/io/Serializable"), (0, .class_ 1), (0, u "java/lang/Object"), (0, .class_ 3)] 3

/-- java/io/Serializable -/
def k4 : Class := { plain "java/io/Serializable" (some 0) with
  accessFlags := 1537
  interfaces := #[]
  cf := some (fileOf pool4 2 #[] #[] 1537 4 #[] #[])
  fields := #[]
  methods := #[]
  instanceTypes := #[]
  staticTypes := #[]
  resolved := Array.replicate 8 none
  statics := none }

/-- the primitive byte -/
def k5 : Class := { plain "byte" none with kind := .primitive 'B', accessFlags := 0x411 }
/-- [B -/
def k6 : Class := { plain "[B" (some 0) with kind := .array 5 .byte, interfaces := #[3, 4], accessFlags := 1041 }

/-- the primitive int -/
def k7 : Class := { plain "int" none with kind := .primitive 'I', accessFlags := 0x411 }
/-- [I -/
def k8 : Class := { plain "[I" (some 0) with kind := .array 7 .int, interfaces := #[3, 4], accessFlags := 1041 }

/-- the primitive long -/
def k9 : Class := { plain "long" none with kind := .primitive 'J', accessFlags := 0x411 }
/-- [J -/
def k10 : Class := { plain "[J" (some 0) with kind := .array 9 .long, interfaces := #[3, 4], accessFlags := 1041 }

def heap : Heap := #[]
def classes : Array Class := #[k0, k1, k2, k3, k4, k5, k6, k7, k8, k9, k10]
def interned : List (Array UInt16 × Addr) := []
def slotsUsed : Nat := 0
def theMethod : MethodId := ⟨1, 2⟩
def args0 : Array Value := #[.int 7, .int 8, .long 1, .long 2]
def aboutOver (below : List Frame) : State where
  vm := { classes := classes, interned := interned.toArray }
  heap := heap
  slotsUsed := slotsUsed
  threads := #[{ frames := .invoking theMethod args0 :: below }]
def below0 : List Frame := [.native { method := ⟨0, 0⟩, args := #[] }]
def about1 : State := aboutOver below0
def p0 : Program := .bare "" "" ""
def e0 : Env := launch0.env 0 0 0
theorem w_frames : about1.frames = Frame.invoking theMethod args0 :: below0 := rfl
set_option maxRecDepth 65536 in
theorem w_args : argsFit about1.vm theMethod args0 = true := by decide +kernel
set_option maxRecDepth 65536 in
theorem w_heap : heapFits about1 = true := by decide +kernel
set_option maxRecDepth 65536 in
theorem w_runnable : about1.curStatus? = some .runnable := by decide +kernel
set_option maxRecDepth 65536 in
theorem w_alone : about1.alone = true := by decide +kernel
set_option maxRecDepth 65536 in
theorem w_named : about1.methodNamed? x = some theMethod := by decide +kernel
set_option maxRecDepth 65536 in
theorem w_hears : about1.hears theMethod below0 = true := by decide +kernel
set_option maxRecDepth 65536 in
theorem w_ripe : about1.ripe theMethod args0 below0 = true := by decide +kernel
theorem w_running : about1.status = .running := rfl
set_option maxRecDepth 65536 in
theorem w_room : about1.hasRoom e0.platform room_1 = true :=
  launch0.hasRoom_least _ room_1 (by decide +kernel) (by decide +kernel) (by decide +kernel) (by decide +kernel) (by decide +kernel) (by decide +kernel)
theorem allAtoms_all (ts : List Jvm.Cond) (a : Array Jvm.Value) (st : Jvm.State) : (allAtoms ts).before a st = ts.all (fun c => c.before a st) := by
  induction ts with
  | nil => rfl
  | cons c t ih =>
    show (Jvm.Cond.and c (allAtoms t)).before a st = _
    rw [Jvm.Cond.before_and, ih, List.all_cons]
def words1 : List Jvm.Cond := Jvm.Cond.code x code maxLocals ret :: tables_1
/-- a 'code' word, met by the world's own term for the bytes: nothing is compared byte by byte -/
theorem code_word {y : MethodName} {bytes : ByteArray} {mx : Nat} {rt : Option FieldType} {a : Array Value} {s : State} {m : MethodId} {meth : Method} {c : Code} (h1 : s.methodNamed? y = some m) (h2 : s.vm.method? m = some meth) (h3 : meth.code = some c) (h4 : c.code = bytes)
    (h5 : (c.maxLocals == mx && c.exceptionTable.isEmpty && decide (c.maxStack ≤ mostOperands) && decide (meth.sig.returnType = rt) && !meth.locks && decide (parseMethodDescriptor y.desc = some meth.sig)) = true) : (Jvm.Cond.code y bytes mx rt).before a s = true := by
  simp only [Bool.and_eq_true, beq_iff_eq, Bool.not_eq_true', decide_eq_true_eq] at h5
  obtain ⟨⟨⟨⟨⟨g1, g2⟩, g3⟩, g4⟩, g5⟩, g6⟩ := h5
  simp [Cond.before, Cond.holds, Cond.value, h1, h2, h3, h4, g1, g2, g3, g4, g5, g6]
def isCode : Jvm.Cond → Bool
  | .code _ _ _ _ => true
  | _ => false
theorem all_split {L : List Jvm.Cond} {P : Jvm.Cond → Bool} (h1 : L.all (fun c => isCode c || P c) = true) (h2 : ∀ c ∈ L.filter isCode, P c = true) : L.all P = true := by
  refine List.all_eq_true.mpr fun c hc => ?_
  have h := List.all_eq_true.mp h1 c hc
  rcases Bool.eq_false_or_eq_true (isCode c) with hi | hi
  · exact h2 c (List.mem_filter.mpr ⟨hc, hi⟩)
  · simpa [hi] using h
set_option maxRecDepth 65536 in
theorem w_c0 : (Jvm.Cond.code x code maxLocals ret).before args0 about1 = true := code_word (m := ⟨1, 2⟩) (meth := k1m2) (c := k1c2) (by decide +kernel) rfl rfl rfl (by decide +kernel)
set_option maxRecDepth 65536 in
theorem w_c1 : (Jvm.Cond.code ({ cls := "com/example/urd/urd/PackedArrayGetPinLaw", name := "widthMask", desc := "(I)J" } : Jvm.MethodName) method_2_code (1 : Nat) (Option.some Jvm.ClassFile.FieldType.long)).before args0 about1 = true := code_word (m := ⟨1, 1⟩) (meth := k1m1) (c := k1c1) (by decide +kernel) rfl rfl rfl (by decide +kernel)
set_option maxRecDepth 65536 in
theorem w_c2 : (Jvm.Cond.code ({ cls := "com/example/urd/urd/PackedArray", name := "<init>", desc := "(JI)V" } : Jvm.MethodName) prog_27_method_1_code (4 : Nat) (Option.none : Option Jvm.ClassFile.FieldType)).before args0 about1 = true := code_word (m := ⟨2, 0⟩) (meth := k2m0) (c := k2c0) (by decide +kernel) rfl rfl rfl (by decide +kernel)
set_option maxRecDepth 65536 in
theorem w_c3 : (Jvm.Cond.code ({ cls := "java/lang/Object", name := "<init>", desc := "()V" } : Jvm.MethodName) object_method_1_code (1 : Nat) (Option.none : Option Jvm.ClassFile.FieldType)).before args0 about1 = true := code_word (m := ⟨0, 0⟩) (meth := k0m0) (c := k0c0) (by decide +kernel) rfl rfl rfl (by decide +kernel)
set_option maxRecDepth 65536 in
theorem w_c4 : (Jvm.Cond.code ({ cls := "com/example/urd/urd/PackedArray", name := "set", desc := "(JJ)V" } : Jvm.MethodName) prog_27_method_3_code (10 : Nat) (Option.none : Option Jvm.ClassFile.FieldType)).before args0 about1 = true := code_word (m := ⟨2, 2⟩) (meth := k2m2) (c := k2c2) (by decide +kernel) rfl rfl rfl (by decide +kernel)
set_option maxRecDepth 65536 in
theorem w_c5 : (Jvm.Cond.code ({ cls := "com/example/urd/urd/PackedArray", name := "get", desc := "(J)J" } : Jvm.MethodName) prog_27_method_2_code (9 : Nat) (Option.some Jvm.ClassFile.FieldType.long)).before args0 about1 = true := code_word (m := ⟨2, 1⟩) (meth := k2m1) (c := k2c1) (by decide +kernel) rfl rfl rfl (by decide +kernel)
def codes1 : List Jvm.Cond := [Jvm.Cond.code x code maxLocals ret, Jvm.Cond.code ({ cls := "com/example/urd/urd/PackedArrayGetPinLaw", name := "widthMask", desc := "(I)J" } : Jvm.MethodName) method_2_code (1 : Nat) (Option.some Jvm.ClassFile.FieldType.long), Jvm.Cond.code ({ cls := "com/example/urd/urd/PackedArray", name := "<init>", desc := "(JI)V" } : Jvm.MethodName) prog_27_method_1_code (4 : Nat) (Option.none : Option Jvm.ClassFile.FieldType), Jvm.Cond.code ({ cls := "java/lang/Object", name := "<init>", desc := "()V" } : Jvm.MethodName) object_method_1_code (1 : Nat) (Option.none : Option Jvm.ClassFile.FieldType), Jvm.Cond.code ({ cls := "com/example/urd/urd/PackedArray", name := "set", desc := "(JJ)V" } : Jvm.MethodName) prog_27_method_3_code (10 : Nat) (Option.none : Option Jvm.ClassFile.FieldType), Jvm.Cond.code ({ cls := "com/example/urd/urd/PackedArray", name := "get", desc := "(J)J" } : Jvm.MethodName) prog_27_method_2_code (9 : Nat) (Option.some Jvm.ClassFile.FieldType.long)]
set_option maxRecDepth 65536 in
theorem codes_eq : words1.filter isCode = codes1 := rfl
theorem w_codes : ∀ c ∈ words1.filter isCode, c.before args0 about1 = true := by
  rw [codes_eq]
  intro c hc
  simp only [codes1, List.mem_cons, List.not_mem_nil, or_false] at hc
  rcases hc with rfl | rfl | rfl | rfl | rfl | rfl
  · exact w_c0
  · exact w_c1
  · exact w_c2
  · exact w_c3
  · exact w_c4
  · exact w_c5
set_option maxRecDepth 65536 in
theorem w_t1 : (words1.take 24).all (fun c => isCode c || c.before args0 about1) = true := by decide +kernel
set_option maxRecDepth 65536 in
theorem w_t2 : (words1.drop 24).all (fun c => isCode c || c.before args0 about1) = true := by decide +kernel
theorem w_tables : (allAtoms (Jvm.Cond.code x code maxLocals ret :: tables_1)).before args0 about1 = true := by
  rw [allAtoms_all]
  show words1.all (fun c => c.before args0 about1) = true
  refine all_split ?_ w_codes
  rw [← List.take_append_drop 24 words1, List.all_append, w_t1, w_t2]
  rfl
set_option maxRecDepth 65536 in
theorem w_case : (Jvm.Cond.and given_1 narrow_1).before args0 about1 = true := by decide +kernel
theorem w_applies : (headSpec (Jvm.Cond.code x code maxLocals ret :: tables_1) room_1).applies x e0.platform about1 = true :=
  (Spec.applies_iff w_frames).mpr ⟨w_running, w_runnable, w_alone, w_named, w_hears, w_ripe, w_room, w_tables⟩
theorem atStart : AtStart classFile x code maxLocals ret World_1 tables_1 room_1 Calls_1 rest_1 Pre_1 launch0 p0 e0 about1 theMethod args0 below0 :=
  ⟨lists_1, trivial, launch0.admits_env _ _ _, launch0.least_env, fairChoices_fair.cas, fairChoices_fair.clock, w_frames, w_args, w_heap, w_applies, trivial, trivial, w_case⟩
end start1
theorem witness_1 : WitnessClaimed_1 := ⟨start1.p0, start1.e0, start1.about1, start1.theMethod, start1.args0, start1.below0, start1.atStart⟩
end Jvm.Pilot.@@N@@
