import JvmDerived
import JvmDerived.Pilot.@@N@@Statement
import JvmDerived.Pilot.@@N@@Code
set_option linter.unusedVariables false
set_option linter.unusedSimpArgs false
namespace Jvm.RoadKit
open Sem ClassFile Op Lib Jvm.Stand Jvm.Free Jvm.LawKit
section New
variable {p : Program} {l : Launch} {e : Env} {R : Room} {s : State} {m : MethodId} {args : Array Value} {below : List Frame} {meth : Method} {c : Code} {T : State} {locs : List Loc} {cells slots : Nat}
theorem retI (X : Stand p l e R s m args below meth c T locs cells slots) (hx : p.tables.exec = Jvm.exec) {pc : Nat} {Ls : Array Slot} {z : Int32} {rest : List Value} (hret : meth.sig.returnType = some .int) (hd : decode c.code pc = .ok (.ireturn, 1)) {fs : List Frame}
    (hl : ∀ (f : JFrame) (acts : List Action), f.method = m → f.locked = none → f.entered = [] → (doReturn e (T.setTop f) acts (some (.int z))).1 = T.setFrames fs) : Steps p.tables e below (T.setTop (mkF m pc Ls (.int z :: rest))) (T.setFrames fs) := by
  have hm' : T.vm.method? m = some meth := X.method'
  have hn : narrow .int (.int z) = .int z := rfl
  show Steps p.tables e below (T.setTop { method := m, pc := pc, locals := Ls, stack := _ :: rest, locked := none }) _
  jvm_step X.here [X.here.top, hx, hd, hm', hret, hn]
  first | (intro acts; rw [hl _ acts rfl rfl rfl]) | rw [hl _ _ rfl rfl rfl]
  exact Steps.refl _
end New
end Jvm.RoadKit
namespace Jvm.Pilot.@@N@@
open Jvm Jvm.ClassFile Sem Op Lib Jvm.Free Jvm.Stand Jvm.LawKit Jvm.RoadKit Bundle Jvm.Pilot.@@N@@.Jvm.D
section OwnLayer
variable {p : Program} {l : Launch} {e : Env} {R : Room} {s : State} {m : MethodId} {args : Array Value} {below : List Frame} {meth : Method} {c : Code} {T : State} {locs : List Loc} {cells slots : Nat} {Z : State} {a0 : Array Value} {h h' : Heap} {K : State → Outcome → Prop} {Q : Option Value → Heap → List Loc → Prop} {pc : Nat} {Ls : Array Slot} {S : List Value} {own : String} {index : Nat} {y : MethodName} {bytes : ByteArray} {maxL : Nat} {ret : Option FieldType} {rm : Room} {as' : Array Value} {h0 : Heap} {ws : List Jvm.Cond}
/-- from here the body comes to its end, and K holds of it -/
def own_W (p : Program) (e : Env) (below : List Frame) (K : State → Outcome → Prop) (T : State) (f : JFrame) : Prop :=
  ∃ s₂ o, Steps p.tables e below (T.setTop f) s₂ ∧ s₂.status = .running ∧ Ended s₂ below o ∧ K s₂ o
def own_K (s : State) (R : Room) (Q : Option Value → Heap → List Loc → Prop) (s₂ : State) (o : Outcome) : Prop :=
  ∃ v L, o = .returned v ∧ Q v s₂.heap L ∧ FrameEnd s o s₂ L R.cells R.slots
/-- a body's contract -/
def own_C (l : Launch) (Z : State) (y : MethodName) (bytes : ByteArray) (maxL : Nat) (ret : Option FieldType) (ws : List Jvm.Cond) (rm : Room) (as' : Array Value) (h0 : Heap) (Q : Option Value → Heap → List Loc → Prop) : Prop :=
  MetFree l y (head1 (Jvm.Cond.code y bytes maxL ret :: ws) rm) (fun a U => a = as' ∧ Z.Warmed39 U.vm ∧ U.heap = h0) (fun _ _ _ _ _ => True) (fun _ U o U' => ∃ v L, o = .returned v ∧ Q v U'.heap L ∧ FrameEnd U o U' L rm.cells rm.slots)
theorem own_bodyF (hpl : plainFor y = true)
    (body : ∀ (p : Program) (e : Env) (s : State) (m : MethodId) (below : List Frame) (meth : Method) (c : Code) (T : State), p.tables.exec = Jvm.exec → c.code = bytes → c.maxLocals = maxL → s.vm.findClass y.cls = some m.cls → meth.name = y.name → meth.sig.returnType = ret → meth.locks = false → Z.Warmed39 s.vm →
      Stand p l e rm s m as' below meth c T [] 0 0 → T.heap = h0 → own_W p e below (own_K s rm Q) T (entryFrame m as' maxL)) : own_C l Z y bytes maxL ret ws rm as' h0 Q := by
  refine MetFree.of_bodySF hpl hisR ?_
  intro p e s m args below meth c s₁ Bd hml0 hP hK
  obtain ⟨rfl, hZ, hh⟩ := hP
  exact body p e s m below meth c s₁ Bd.exec Bd.bytes hml0 (findClass_of_methodNamed Bd.named) (name_of_methodNamed Bd.named Bd.method).1 Bd.returns (BodyLoose.notSynchronized Bd) hZ (Stand.of_body Bd) (by rw [← hh, Bd.state]; rfl)
theorem own_body (hpn : plainName y.cls = true)
    (body : ∀ (p : Program) (e : Env) (s : State) (m : MethodId) (below : List Frame) (meth : Method) (c : Code) (T : State), p.tables.exec = Jvm.exec → c.code = bytes → c.maxLocals = maxL → s.vm.findClass y.cls = some m.cls → meth.name = y.name → meth.sig.returnType = ret → meth.locks = false → Z.Warmed39 s.vm →
      Stand p l e rm s m as' below meth c T [] 0 0 → T.heap = h0 → own_W p e below (own_K s rm Q) T (entryFrame m as' maxL)) : own_C l Z y bytes maxL ret ws rm as' h0 Q := own_bodyF (plainFor_of_name hpn) body
theorem own_s {f f' : JFrame} {T' : State} (hs : ∀ t, Steps p.tables e below (T'.setTop f') t → Steps p.tables e below (T.setTop f) t) (k : own_W p e below K T' f') : own_W p e below K T f := by
  obtain ⟨s₂, o, h1, r⟩ := k; exact ⟨s₂, o, hs _ h1, r⟩
theorem own_s' {f f' : JFrame} {T' : State} (hs : Steps p.tables e below (T.setTop f) (T'.setTop f')) (k : own_W p e below K T' f') : own_W p e below K T f := by
  obtain ⟨s₂, o, h1, r⟩ := k; exact ⟨s₂, o, hs.trans h1, r⟩
theorem own_eq {f f' : JFrame} (q : f = f') (k : own_W p e below K T f') : own_W p e below K T f := q ▸ k
section Plain
theorem own_iloadN (X : Stand p l e R s m args below meth c T locs cells slots) (hx : p.tables.exec = Jvm.exec) {i : Fin 4} {v : Int32} (pc' : Nat) (hd : decode c.code pc = .ok (.iload_n i, 1)) (hp : pc + 1 = pc') (hl : Ls[i.val]? = some (.val (.int v))) (k : own_W p e below K T (mkF m pc' Ls (.int v :: S))) : own_W p e below K T (mkF m pc Ls S) := by subst hp; exact own_s (fun _ => XS.iloadN X.here hx rfl hd hl) k
theorem own_iload (X : Stand p l e R s m args below meth c T locs cells slots) (hx : p.tables.exec = Jvm.exec) {i : Nat} {v : Int32} (pc' : Nat) (hd : decode c.code pc = .ok (.iload i, 2)) (hp : pc + 2 = pc') (hl : Ls[i]? = some (.val (.int v))) (k : own_W p e below K T (mkF m pc' Ls (.int v :: S))) : own_W p e below K T (mkF m pc Ls S) := by subst hp; exact own_s (fun _ => XS.iload X.here hx rfl hd hl) k
theorem own_lloadN (X : Stand p l e R s m args below meth c T locs cells slots) (hx : p.tables.exec = Jvm.exec) {i : Fin 4} {v : Int64} (pc' : Nat) (hd : decode c.code pc = .ok (.lload_n i, 1)) (hp : pc + 1 = pc') (hl : Ls[i.val]? = some (.val (.long v))) (k : own_W p e below K T (mkF m pc' Ls (.long v :: S))) : own_W p e below K T (mkF m pc Ls S) := by subst hp; exact own_s (fun _ => XS.lloadN X.here hx rfl hd hl) k
theorem own_lload (X : Stand p l e R s m args below meth c T locs cells slots) (hx : p.tables.exec = Jvm.exec) {i : Nat} {v : Int64} (pc' : Nat) (hd : decode c.code pc = .ok (.lload i, 2)) (hp : pc + 2 = pc') (hl : Ls[i]? = some (.val (.long v))) (k : own_W p e below K T (mkF m pc' Ls (.long v :: S))) : own_W p e below K T (mkF m pc Ls S) := by subst hp; exact own_s (fun _ => XS.lload X.here hx rfl hd hl) k
theorem own_aloadN (X : Stand p l e R s m args below meth c T locs cells slots) (hx : p.tables.exec = Jvm.exec) {i : Fin 4} {v : Addr} (pc' : Nat) (hd : decode c.code pc = .ok (.aload_n i, 1)) (hp : pc + 1 = pc') (hl : Ls[i.val]? = some (.val (.ref v))) (k : own_W p e below K T (mkF m pc' Ls (.ref v :: S))) : own_W p e below K T (mkF m pc Ls S) := by subst hp; exact own_s (fun _ => XS.aloadN X.here hx rfl hd hl rfl) k
theorem own_aload (X : Stand p l e R s m args below meth c T locs cells slots) (hx : p.tables.exec = Jvm.exec) {i : Nat} {v : Addr} (pc' : Nat) (hd : decode c.code pc = .ok (.aload i, 2)) (hp : pc + 2 = pc') (hl : Ls[i]? = some (.val (.ref v))) (k : own_W p e below K T (mkF m pc' Ls (.ref v :: S))) : own_W p e below K T (mkF m pc Ls S) := by subst hp; exact own_s (fun _ => XS.aload X.here hx rfl hd hl rfl) k
theorem own_istoreN (X : Stand p l e R s m args below meth c T locs cells slots) (hx : p.tables.exec = Jvm.exec) {i : Fin 4} {x y : Int32} (pc' : Nat) (l' : Array Slot) (hy : y = x) (hd : decode c.code pc = .ok (.istore_n i, 1)) (hp : pc + 1 = pc') (hl : storeLocals Ls i.val (.int y) = some l') (k : own_W p e below K T (mkF m pc' l' S)) : own_W p e below K T (mkF m pc Ls (.int x :: S)) := by subst hp hy; exact own_s (fun _ => XS.istoreN X.here hx rfl hd rfl hl) k
theorem own_istore (X : Stand p l e R s m args below meth c T locs cells slots) (hx : p.tables.exec = Jvm.exec) {i : Nat} {x y : Int32} (pc' : Nat) (l' : Array Slot) (hy : y = x) (hd : decode c.code pc = .ok (.istore i, 2)) (hp : pc + 2 = pc') (hl : storeLocals Ls i (.int y) = some l') (k : own_W p e below K T (mkF m pc' l' S)) : own_W p e below K T (mkF m pc Ls (.int x :: S)) := by subst hp hy; exact own_s (fun _ => XS.istore X.here hx rfl hd rfl hl) k
theorem own_lstoreN (X : Stand p l e R s m args below meth c T locs cells slots) (hx : p.tables.exec = Jvm.exec) {i : Fin 4} {x y : Int64} (pc' : Nat) (l' : Array Slot) (hy : y = x) (hd : decode c.code pc = .ok (.lstore_n i, 1)) (hp : pc + 1 = pc') (hl : storeLocals Ls i.val (.long y) = some l') (k : own_W p e below K T (mkF m pc' l' S)) : own_W p e below K T (mkF m pc Ls (.long x :: S)) := by subst hp hy; exact own_s (fun _ => XS.lstoreN X.here hx rfl hd rfl hl) k
theorem own_lstore (X : Stand p l e R s m args below meth c T locs cells slots) (hx : p.tables.exec = Jvm.exec) {i : Nat} {x y : Int64} (pc' : Nat) (l' : Array Slot) (hy : y = x) (hd : decode c.code pc = .ok (.lstore i, 2)) (hp : pc + 2 = pc') (hl : storeLocals Ls i (.long y) = some l') (k : own_W p e below K T (mkF m pc' l' S)) : own_W p e below K T (mkF m pc Ls (.long x :: S)) := by subst hp hy; exact own_s (fun _ => XS.lstore X.here hx rfl hd rfl hl) k
theorem own_astoreN (X : Stand p l e R s m args below meth c T locs cells slots) (hx : p.tables.exec = Jvm.exec) {i : Fin 4} {x y : Addr} (pc' : Nat) (l' : Array Slot) (hy : y = x) (hd : decode c.code pc = .ok (.astore_n i, 1)) (hp : pc + 1 = pc') (hl : storeLocals Ls i.val (.ref y) = some l') (k : own_W p e below K T (mkF m pc' l' S)) : own_W p e below K T (mkF m pc Ls (.ref x :: S)) := by subst hp hy; exact own_s (fun _ => XS.astoreN X.here hx rfl hd rfl rfl hl) k
theorem own_astore (X : Stand p l e R s m args below meth c T locs cells slots) (hx : p.tables.exec = Jvm.exec) {i : Nat} {x y : Addr} (pc' : Nat) (l' : Array Slot) (hy : y = x) (hd : decode c.code pc = .ok (.astore i, 2)) (hp : pc + 2 = pc') (hl : storeLocals Ls i (.ref y) = some l') (k : own_W p e below K T (mkF m pc' l' S)) : own_W p e below K T (mkF m pc Ls (.ref x :: S)) := by subst hp hy; exact own_s (fun _ => XS.astore X.here hx rfl hd rfl rfl hl) k
theorem own_iinc (X : Stand p l e R s m args below meth c T locs cells slots) (hx : p.tables.exec = Jvm.exec) {i : Nat} {cst : Int} {x : Int32} (y : Int32) (pc' : Nat) (l' : Array Slot) (hy : y = x + Int32.ofInt cst) (hd : decode c.code pc = .ok (.iinc i cst, 3)) (hp : pc + 3 = pc') (hl : Ls[i]? = some (.val (.int x))) (hl' : storeLocals Ls i (.int y) = some l') (k : own_W p e below K T (mkF m pc' l' S)) : own_W p e below K T (mkF m pc Ls S) := by subst hp hy; exact own_s (fun _ => XS.iinc X.here hx rfl hd hl hl') k
theorem own_iconst (X : Stand p l e R s m args below meth c T locs cells slots) (hx : p.tables.exec = Jvm.exec) {i : Int} (pc' : Nat) (z : Int32) (hz : Int32.ofInt i = z) (hd : decode c.code pc = .ok (.iconst i, 1)) (hp : pc + 1 = pc') (k : own_W p e below K T (mkF m pc' Ls (.int z :: S))) : own_W p e below K T (mkF m pc Ls S) := by subst hp hz; exact own_s (fun _ => XS.iconst X.here hx rfl hd) k
theorem own_bipush (X : Stand p l e R s m args below meth c T locs cells slots) (hx : p.tables.exec = Jvm.exec) {i : Int} (pc' : Nat) (z : Int32) (hz : (Int8.ofInt i).toInt32 = z) (hd : decode c.code pc = .ok (.bipush i, 2)) (hp : pc + 2 = pc') (k : own_W p e below K T (mkF m pc' Ls (.int z :: S))) : own_W p e below K T (mkF m pc Ls S) := by subst hp hz; exact own_s (fun _ => XS.bipush X.here hx rfl hd) k
theorem own_sipush (X : Stand p l e R s m args below meth c T locs cells slots) (hx : p.tables.exec = Jvm.exec) {i : Int} (pc' : Nat) (z : Int32) (hz : (Int16.ofInt i).toInt32 = z) (hd : decode c.code pc = .ok (.sipush i, 3)) (hp : pc + 3 = pc') (k : own_W p e below K T (mkF m pc' Ls (.int z :: S))) : own_W p e below K T (mkF m pc Ls S) := by subst hp hz; exact own_s (fun _ => XS.sipush X.here hx rfl hd) k
theorem own_lconst (X : Stand p l e R s m args below meth c T locs cells slots) (hx : p.tables.exec = Jvm.exec) {i : Fin 2} (pc' : Nat) (z : Int64) (hz : Int64.ofNat i = z) (hd : decode c.code pc = .ok (.lconst i, 1)) (hp : pc + 1 = pc') (k : own_W p e below K T (mkF m pc' Ls (.long z :: S))) : own_W p e below K T (mkF m pc Ls S) := by subst hp hz; exact own_s (fun _ => XS.lconst X.here hx rfl hd) k
theorem own_ldc (X : Stand p l e R s m args below meth c T locs cells slots) (hx : p.tables.exec = Jvm.exec) {v : Int32} (hZ : Z.Warmed39 s.vm) (hown : s.vm.findClass own = some m.cls) (pc' : Nat) (w : (Jvm.Cond.constant own index v).before a0 Z = true) (hd : decode c.code pc = .ok (.ldc index, 2)) (hp : pc + 2 = pc') (k : own_W p e below K T (mkF m pc' Ls (.int v :: S))) : own_W p e below K T (mkF m pc Ls S) := by subst hp; exact own_s (X.ldcInt hx hown (mvT hZ w) (g := mkF m pc Ls S) rfl hd) k
theorem own_ldc2 (X : Stand p l e R s m args below meth c T locs cells slots) (hx : p.tables.exec = Jvm.exec) {v : Int64} (hZ : Z.Warmed39 s.vm) (hown : s.vm.findClass own = some m.cls) (pc' : Nat) (w : (Jvm.Cond.constantLong own index v).before a0 Z = true) (hd : decode c.code pc = .ok (.ldc2_w index, 3)) (hp : pc + 3 = pc') (k : own_W p e below K T (mkF m pc' Ls (.long v :: S))) : own_W p e below K T (mkF m pc Ls S) := by subst hp; exact own_s (X.ldc2Long hx hown (mvT hZ w) (g := mkF m pc Ls S) rfl hd) k
theorem own_goto (X : Stand p l e R s m args below meth c T locs cells slots) (hx : p.tables.exec = Jvm.exec) {o : Int} (pc' : Nat) (hd : decode c.code pc = .ok (.goto o, 3)) (ho : 0 ≤ (pc : Int) + o) (hp : ((pc : Int) + o).toNat = pc') (k : own_W p e below K T (mkF m pc' Ls S)) : own_W p e below K T (mkF m pc Ls S) := own_s (fun _ => XS.goto X.here hx (g := mkF m pc Ls S) rfl rfl hd ho hp) k
theorem own_dup (X : Stand p l e R s m args below meth c T locs cells slots) (hx : p.tables.exec = Jvm.exec) {x : Value} (pc' : Nat) (hc : x.category = 1) (hd : decode c.code pc = .ok (.dup, 1)) (hp : pc + 1 = pc') (k : own_W p e below K T (mkF m pc' Ls (x :: x :: S))) : own_W p e below K T (mkF m pc Ls (x :: S)) := by subst hp; exact own_s (fun _ => XS.dup X.here hx rfl hd rfl hc) k
theorem own_pop (X : Stand p l e R s m args below meth c T locs cells slots) (hx : p.tables.exec = Jvm.exec) {x : Value} (pc' : Nat) (hc : x.category = 1) (hd : decode c.code pc = .ok (.pop, 1)) (hp : pc + 1 = pc') (k : own_W p e below K T (mkF m pc' Ls S)) : own_W p e below K T (mkF m pc Ls (x :: S)) := by subst hp; exact own_s (fun _ => XS.pop X.here hx rfl hd rfl hc) k
theorem own_dupX1 (X : Stand p l e R s m args below meth c T locs cells slots) (hx : p.tables.exec = Jvm.exec) {x y : Value} (pc' : Nat) (hc : x.category = 1) (hc2 : y.category = 1) (hd : decode c.code pc = .ok (.dup_x1, 1)) (hp : pc + 1 = pc') (k : own_W p e below K T (mkF m pc' Ls (x :: y :: x :: S))) : own_W p e below K T (mkF m pc Ls (x :: y :: S)) := by subst hp; exact own_s (fun _ => XS.dupX1 X.here hx rfl hd rfl hc hc2) k
theorem own_dup2 (X : Stand p l e R s m args below meth c T locs cells slots) (hx : p.tables.exec = Jvm.exec) {x y : Value} (pc' : Nat) (hc : x.category = 1) (hc2 : y.category = 1) (hd : decode c.code pc = .ok (.dup2, 1)) (hp : pc + 1 = pc') (k : own_W p e below K T (mkF m pc' Ls (x :: y :: x :: y :: S))) : own_W p e below K T (mkF m pc Ls (x :: y :: S)) := by subst hp; exact own_s (fun _ => XT.dup2 X.here hx rfl hd rfl hc hc2) k
theorem own_iadd (X : Stand p l e R s m args below meth c T locs cells slots) (hx : p.tables.exec = Jvm.exec) {x y : Int32} (pc' : Nat) (hd : decode c.code pc = .ok (.iadd, 1)) (hp : pc + 1 = pc') (k : own_W p e below K T (mkF m pc' Ls (.int (x + y) :: S))) : own_W p e below K T (mkF m pc Ls (.int y :: .int x :: S)) := by subst hp; exact own_s (fun _ => XS.iadd X.here hx rfl hd rfl) k
theorem own_ladd (X : Stand p l e R s m args below meth c T locs cells slots) (hx : p.tables.exec = Jvm.exec) {x y : Int64} (pc' : Nat) (hd : decode c.code pc = .ok (.ladd, 1)) (hp : pc + 1 = pc') (k : own_W p e below K T (mkF m pc' Ls (.long (x + y) :: S))) : own_W p e below K T (mkF m pc Ls (.long y :: .long x :: S)) := by subst hp; exact own_s (fun _ => XS.ladd X.here hx rfl hd rfl) k
theorem own_isub (X : Stand p l e R s m args below meth c T locs cells slots) (hx : p.tables.exec = Jvm.exec) {x y : Int32} (pc' : Nat) (hd : decode c.code pc = .ok (.isub, 1)) (hp : pc + 1 = pc') (k : own_W p e below K T (mkF m pc' Ls (.int (x - y) :: S))) : own_W p e below K T (mkF m pc Ls (.int y :: .int x :: S)) := by subst hp; exact own_s (fun _ => XS.isub X.here hx rfl hd rfl) k
theorem own_lsub (X : Stand p l e R s m args below meth c T locs cells slots) (hx : p.tables.exec = Jvm.exec) {x y : Int64} (pc' : Nat) (hd : decode c.code pc = .ok (.lsub, 1)) (hp : pc + 1 = pc') (k : own_W p e below K T (mkF m pc' Ls (.long (x - y) :: S))) : own_W p e below K T (mkF m pc Ls (.long y :: .long x :: S)) := by subst hp; exact own_s (fun _ => XS.lsub X.here hx rfl hd rfl) k
theorem own_imul (X : Stand p l e R s m args below meth c T locs cells slots) (hx : p.tables.exec = Jvm.exec) {x y : Int32} (pc' : Nat) (hd : decode c.code pc = .ok (.imul, 1)) (hp : pc + 1 = pc') (k : own_W p e below K T (mkF m pc' Ls (.int (x * y) :: S))) : own_W p e below K T (mkF m pc Ls (.int y :: .int x :: S)) := by subst hp; exact own_s (fun _ => XS.imul X.here hx rfl hd rfl) k
theorem own_lmul (X : Stand p l e R s m args below meth c T locs cells slots) (hx : p.tables.exec = Jvm.exec) {x y : Int64} (pc' : Nat) (hd : decode c.code pc = .ok (.lmul, 1)) (hp : pc + 1 = pc') (k : own_W p e below K T (mkF m pc' Ls (.long (x * y) :: S))) : own_W p e below K T (mkF m pc Ls (.long y :: .long x :: S)) := by subst hp; exact own_s (fun _ => XS.lmul X.here hx rfl hd rfl) k
theorem own_iand (X : Stand p l e R s m args below meth c T locs cells slots) (hx : p.tables.exec = Jvm.exec) {x y : Int32} (pc' : Nat) (hd : decode c.code pc = .ok (.iand, 1)) (hp : pc + 1 = pc') (k : own_W p e below K T (mkF m pc' Ls (.int (x &&& y) :: S))) : own_W p e below K T (mkF m pc Ls (.int y :: .int x :: S)) := by subst hp; exact own_s (fun _ => XS.iand X.here hx rfl hd rfl) k
theorem own_land (X : Stand p l e R s m args below meth c T locs cells slots) (hx : p.tables.exec = Jvm.exec) {x y : Int64} (pc' : Nat) (hd : decode c.code pc = .ok (.land, 1)) (hp : pc + 1 = pc') (k : own_W p e below K T (mkF m pc' Ls (.long (x &&& y) :: S))) : own_W p e below K T (mkF m pc Ls (.long y :: .long x :: S)) := by subst hp; exact own_s (fun _ => XS.land X.here hx rfl hd rfl) k
theorem own_ior (X : Stand p l e R s m args below meth c T locs cells slots) (hx : p.tables.exec = Jvm.exec) {x y : Int32} (pc' : Nat) (hd : decode c.code pc = .ok (.ior, 1)) (hp : pc + 1 = pc') (k : own_W p e below K T (mkF m pc' Ls (.int (x ||| y) :: S))) : own_W p e below K T (mkF m pc Ls (.int y :: .int x :: S)) := by subst hp; exact own_s (fun _ => XS.ior X.here hx rfl hd rfl) k
theorem own_lor (X : Stand p l e R s m args below meth c T locs cells slots) (hx : p.tables.exec = Jvm.exec) {x y : Int64} (pc' : Nat) (hd : decode c.code pc = .ok (.lor, 1)) (hp : pc + 1 = pc') (k : own_W p e below K T (mkF m pc' Ls (.long (x ||| y) :: S))) : own_W p e below K T (mkF m pc Ls (.long y :: .long x :: S)) := by subst hp; exact own_s (fun _ => XS.lor X.here hx rfl hd rfl) k
theorem own_ixor (X : Stand p l e R s m args below meth c T locs cells slots) (hx : p.tables.exec = Jvm.exec) {x y : Int32} (pc' : Nat) (hd : decode c.code pc = .ok (.ixor, 1)) (hp : pc + 1 = pc') (k : own_W p e below K T (mkF m pc' Ls (.int (x ^^^ y) :: S))) : own_W p e below K T (mkF m pc Ls (.int y :: .int x :: S)) := by subst hp; exact own_s (fun _ => XS.ixor X.here hx rfl hd rfl) k
theorem own_lxor (X : Stand p l e R s m args below meth c T locs cells slots) (hx : p.tables.exec = Jvm.exec) {x y : Int64} (pc' : Nat) (hd : decode c.code pc = .ok (.lxor, 1)) (hp : pc + 1 = pc') (k : own_W p e below K T (mkF m pc' Ls (.long (x ^^^ y) :: S))) : own_W p e below K T (mkF m pc Ls (.long y :: .long x :: S)) := by subst hp; exact own_s (fun _ => XS.lxor X.here hx rfl hd rfl) k
theorem own_iaddz (X : Stand p l e R s m args below meth c T locs cells slots) (hx : p.tables.exec = Jvm.exec) {x y z : Int32} (pc' : Nat) (hz : x + y = z) (hd : decode c.code pc = .ok (.iadd, 1)) (hp : pc + 1 = pc') (k : own_W p e below K T (mkF m pc' Ls (.int z :: S))) : own_W p e below K T (mkF m pc Ls (.int y :: .int x :: S)) := by subst hz; exact own_iadd X hx pc' hd hp k
theorem own_laddz (X : Stand p l e R s m args below meth c T locs cells slots) (hx : p.tables.exec = Jvm.exec) {x y z : Int64} (pc' : Nat) (hz : x + y = z) (hd : decode c.code pc = .ok (.ladd, 1)) (hp : pc + 1 = pc') (k : own_W p e below K T (mkF m pc' Ls (.long z :: S))) : own_W p e below K T (mkF m pc Ls (.long y :: .long x :: S)) := by subst hz; exact own_ladd X hx pc' hd hp k
theorem own_isubz (X : Stand p l e R s m args below meth c T locs cells slots) (hx : p.tables.exec = Jvm.exec) {x y z : Int32} (pc' : Nat) (hz : x - y = z) (hd : decode c.code pc = .ok (.isub, 1)) (hp : pc + 1 = pc') (k : own_W p e below K T (mkF m pc' Ls (.int z :: S))) : own_W p e below K T (mkF m pc Ls (.int y :: .int x :: S)) := by subst hz; exact own_isub X hx pc' hd hp k
theorem own_lsubz (X : Stand p l e R s m args below meth c T locs cells slots) (hx : p.tables.exec = Jvm.exec) {x y z : Int64} (pc' : Nat) (hz : x - y = z) (hd : decode c.code pc = .ok (.lsub, 1)) (hp : pc + 1 = pc') (k : own_W p e below K T (mkF m pc' Ls (.long z :: S))) : own_W p e below K T (mkF m pc Ls (.long y :: .long x :: S)) := by subst hz; exact own_lsub X hx pc' hd hp k
theorem own_imulz (X : Stand p l e R s m args below meth c T locs cells slots) (hx : p.tables.exec = Jvm.exec) {x y z : Int32} (pc' : Nat) (hz : x * y = z) (hd : decode c.code pc = .ok (.imul, 1)) (hp : pc + 1 = pc') (k : own_W p e below K T (mkF m pc' Ls (.int z :: S))) : own_W p e below K T (mkF m pc Ls (.int y :: .int x :: S)) := by subst hz; exact own_imul X hx pc' hd hp k
theorem own_lmulz (X : Stand p l e R s m args below meth c T locs cells slots) (hx : p.tables.exec = Jvm.exec) {x y z : Int64} (pc' : Nat) (hz : x * y = z) (hd : decode c.code pc = .ok (.lmul, 1)) (hp : pc + 1 = pc') (k : own_W p e below K T (mkF m pc' Ls (.long z :: S))) : own_W p e below K T (mkF m pc Ls (.long y :: .long x :: S)) := by subst hz; exact own_lmul X hx pc' hd hp k
theorem own_iandz (X : Stand p l e R s m args below meth c T locs cells slots) (hx : p.tables.exec = Jvm.exec) {x y z : Int32} (pc' : Nat) (hz : x &&& y = z) (hd : decode c.code pc = .ok (.iand, 1)) (hp : pc + 1 = pc') (k : own_W p e below K T (mkF m pc' Ls (.int z :: S))) : own_W p e below K T (mkF m pc Ls (.int y :: .int x :: S)) := by subst hz; exact own_iand X hx pc' hd hp k
theorem own_landz (X : Stand p l e R s m args below meth c T locs cells slots) (hx : p.tables.exec = Jvm.exec) {x y z : Int64} (pc' : Nat) (hz : x &&& y = z) (hd : decode c.code pc = .ok (.land, 1)) (hp : pc + 1 = pc') (k : own_W p e below K T (mkF m pc' Ls (.long z :: S))) : own_W p e below K T (mkF m pc Ls (.long y :: .long x :: S)) := by subst hz; exact own_land X hx pc' hd hp k
theorem own_iorz (X : Stand p l e R s m args below meth c T locs cells slots) (hx : p.tables.exec = Jvm.exec) {x y z : Int32} (pc' : Nat) (hz : x ||| y = z) (hd : decode c.code pc = .ok (.ior, 1)) (hp : pc + 1 = pc') (k : own_W p e below K T (mkF m pc' Ls (.int z :: S))) : own_W p e below K T (mkF m pc Ls (.int y :: .int x :: S)) := by subst hz; exact own_ior X hx pc' hd hp k
theorem own_lorz (X : Stand p l e R s m args below meth c T locs cells slots) (hx : p.tables.exec = Jvm.exec) {x y z : Int64} (pc' : Nat) (hz : x ||| y = z) (hd : decode c.code pc = .ok (.lor, 1)) (hp : pc + 1 = pc') (k : own_W p e below K T (mkF m pc' Ls (.long z :: S))) : own_W p e below K T (mkF m pc Ls (.long y :: .long x :: S)) := by subst hz; exact own_lor X hx pc' hd hp k
theorem own_ixorz (X : Stand p l e R s m args below meth c T locs cells slots) (hx : p.tables.exec = Jvm.exec) {x y z : Int32} (pc' : Nat) (hz : x ^^^ y = z) (hd : decode c.code pc = .ok (.ixor, 1)) (hp : pc + 1 = pc') (k : own_W p e below K T (mkF m pc' Ls (.int z :: S))) : own_W p e below K T (mkF m pc Ls (.int y :: .int x :: S)) := by subst hz; exact own_ixor X hx pc' hd hp k
theorem own_lxorz (X : Stand p l e R s m args below meth c T locs cells slots) (hx : p.tables.exec = Jvm.exec) {x y z : Int64} (pc' : Nat) (hz : x ^^^ y = z) (hd : decode c.code pc = .ok (.lxor, 1)) (hp : pc + 1 = pc') (k : own_W p e below K T (mkF m pc' Ls (.long z :: S))) : own_W p e below K T (mkF m pc Ls (.long y :: .long x :: S)) := by subst hz; exact own_lxor X hx pc' hd hp k
theorem own_ishl (X : Stand p l e R s m args below meth c T locs cells slots) (hx : p.tables.exec = Jvm.exec) {x : Int32} {y : Int32} (pc' : Nat) (hd : decode c.code pc = .ok (.ishl, 1)) (hp : pc + 1 = pc') (k : own_W p e below K T (mkF m pc' Ls (.int (x <<< (y &&& 31)) :: S))) : own_W p e below K T (mkF m pc Ls (.int y :: .int x :: S)) := by subst hp; exact own_s (fun _ => XS.ishl X.here hx rfl hd rfl) k
theorem own_ishr (X : Stand p l e R s m args below meth c T locs cells slots) (hx : p.tables.exec = Jvm.exec) {x : Int32} {y : Int32} (pc' : Nat) (hd : decode c.code pc = .ok (.ishr, 1)) (hp : pc + 1 = pc') (k : own_W p e below K T (mkF m pc' Ls (.int (x >>> (y &&& 31)) :: S))) : own_W p e below K T (mkF m pc Ls (.int y :: .int x :: S)) := by subst hp; exact own_s (fun _ => XS.ishr X.here hx rfl hd rfl) k
theorem own_iushr (X : Stand p l e R s m args below meth c T locs cells slots) (hx : p.tables.exec = Jvm.exec) {x : Int32} {y : Int32} (pc' : Nat) (hd : decode c.code pc = .ok (.iushr, 1)) (hp : pc + 1 = pc') (k : own_W p e below K T (mkF m pc' Ls (.int ((x.toUInt32 >>> (y &&& 31).toUInt32).toInt32) :: S))) : own_W p e below K T (mkF m pc Ls (.int y :: .int x :: S)) := by subst hp; exact own_s (fun _ => XS.iushr X.here hx rfl hd rfl) k
theorem own_lshl (X : Stand p l e R s m args below meth c T locs cells slots) (hx : p.tables.exec = Jvm.exec) {x : Int64} {y : Int32} (pc' : Nat) (hd : decode c.code pc = .ok (.lshl, 1)) (hp : pc + 1 = pc') (k : own_W p e below K T (mkF m pc' Ls (.long (x <<< (y &&& 0x3f).toInt64) :: S))) : own_W p e below K T (mkF m pc Ls (.int y :: .long x :: S)) := by subst hp; exact own_s (fun _ => XS.lshl X.here hx rfl hd rfl) k
theorem own_lshr (X : Stand p l e R s m args below meth c T locs cells slots) (hx : p.tables.exec = Jvm.exec) {x : Int64} {y : Int32} (pc' : Nat) (hd : decode c.code pc = .ok (.lshr, 1)) (hp : pc + 1 = pc') (k : own_W p e below K T (mkF m pc' Ls (.long (x >>> (y &&& 0x3f).toInt64) :: S))) : own_W p e below K T (mkF m pc Ls (.int y :: .long x :: S)) := by subst hp; exact own_s (fun _ => XS.lshr X.here hx rfl hd rfl) k
theorem own_lushr (X : Stand p l e R s m args below meth c T locs cells slots) (hx : p.tables.exec = Jvm.exec) {x : Int64} {y : Int32} (pc' : Nat) (hd : decode c.code pc = .ok (.lushr, 1)) (hp : pc + 1 = pc') (k : own_W p e below K T (mkF m pc' Ls (.long ((x.toUInt64 >>> (y &&& 0x3f).toInt64.toUInt64).toInt64) :: S))) : own_W p e below K T (mkF m pc Ls (.int y :: .long x :: S)) := by subst hp; exact own_s (fun _ => XS.lushr X.here hx rfl hd rfl) k
theorem own_ineg (X : Stand p l e R s m args below meth c T locs cells slots) (hx : p.tables.exec = Jvm.exec) {x : Int32} (pc' : Nat) (hd : decode c.code pc = .ok (.ineg, 1)) (hp : pc + 1 = pc') (k : own_W p e below K T (mkF m pc' Ls (.int ((-x)) :: S))) : own_W p e below K T (mkF m pc Ls (.int x :: S)) := by subst hp; exact own_s (fun _ => XS.ineg X.here hx rfl hd rfl) k
theorem own_lneg (X : Stand p l e R s m args below meth c T locs cells slots) (hx : p.tables.exec = Jvm.exec) {x : Int64} (pc' : Nat) (hd : decode c.code pc = .ok (.lneg, 1)) (hp : pc + 1 = pc') (k : own_W p e below K T (mkF m pc' Ls (.long ((-x)) :: S))) : own_W p e below K T (mkF m pc Ls (.long x :: S)) := by subst hp; exact own_s (fun _ => XS.lneg X.here hx rfl hd rfl) k
theorem own_i2l (X : Stand p l e R s m args below meth c T locs cells slots) (hx : p.tables.exec = Jvm.exec) {x : Int32} (pc' : Nat) (hd : decode c.code pc = .ok (.i2l, 1)) (hp : pc + 1 = pc') (k : own_W p e below K T (mkF m pc' Ls (.long (x.toInt64) :: S))) : own_W p e below K T (mkF m pc Ls (.int x :: S)) := by subst hp; exact own_s (fun _ => XS.i2l X.here hx rfl hd rfl) k
theorem own_l2i (X : Stand p l e R s m args below meth c T locs cells slots) (hx : p.tables.exec = Jvm.exec) {x : Int64} (pc' : Nat) (hd : decode c.code pc = .ok (.l2i, 1)) (hp : pc + 1 = pc') (k : own_W p e below K T (mkF m pc' Ls (.int (x.toInt32) :: S))) : own_W p e below K T (mkF m pc Ls (.long x :: S)) := by subst hp; exact own_s (fun _ => XS.l2i X.here hx rfl hd rfl) k
theorem own_i2b (X : Stand p l e R s m args below meth c T locs cells slots) (hx : p.tables.exec = Jvm.exec) {x : Int32} (pc' : Nat) (hd : decode c.code pc = .ok (.i2b, 1)) (hp : pc + 1 = pc') (k : own_W p e below K T (mkF m pc' Ls (.int (x.toInt8.toInt32) :: S))) : own_W p e below K T (mkF m pc Ls (.int x :: S)) := by subst hp; exact own_s (fun _ => XS.i2b X.here hx rfl hd rfl) k
theorem own_i2s (X : Stand p l e R s m args below meth c T locs cells slots) (hx : p.tables.exec = Jvm.exec) {x : Int32} (pc' : Nat) (hd : decode c.code pc = .ok (.i2s, 1)) (hp : pc + 1 = pc') (k : own_W p e below K T (mkF m pc' Ls (.int (x.toInt16.toInt32) :: S))) : own_W p e below K T (mkF m pc Ls (.int x :: S)) := by subst hp; exact own_s (fun _ => XS.i2s X.here hx rfl hd rfl) k
theorem own_i2c (X : Stand p l e R s m args below meth c T locs cells slots) (hx : p.tables.exec = Jvm.exec) {x : Int32} (pc' : Nat) (hd : decode c.code pc = .ok (.i2c, 1)) (hp : pc + 1 = pc') (k : own_W p e below K T (mkF m pc' Ls (.int (x.toUInt32.toUInt16.toUInt32.toInt32) :: S))) : own_W p e below K T (mkF m pc Ls (.int x :: S)) := by subst hp; exact own_s (fun _ => XS.i2c X.here hx rfl hd rfl) k
theorem own_i2lz (X : Stand p l e R s m args below meth c T locs cells slots) (hx : p.tables.exec = Jvm.exec) {x : Int32} {z : Int64} (pc' : Nat) (hz : x.toInt64 = z) (hd : decode c.code pc = .ok (.i2l, 1)) (hp : pc + 1 = pc') (k : own_W p e below K T (mkF m pc' Ls (.long z :: S))) : own_W p e below K T (mkF m pc Ls (.int x :: S)) := by subst hz; exact own_i2l X hx pc' hd hp k
theorem own_l2iz (X : Stand p l e R s m args below meth c T locs cells slots) (hx : p.tables.exec = Jvm.exec) {x : Int64} {z : Int32} (pc' : Nat) (hz : x.toInt32 = z) (hd : decode c.code pc = .ok (.l2i, 1)) (hp : pc + 1 = pc') (k : own_W p e below K T (mkF m pc' Ls (.int z :: S))) : own_W p e below K T (mkF m pc Ls (.long x :: S)) := by subst hz; exact own_l2i X hx pc' hd hp k
theorem own_idiv (X : Stand p l e R s m args below meth c T locs cells slots) (hx : p.tables.exec = Jvm.exec) {x y : Int32} (pc' : Nat) (hy : y ≠ 0) (hd : decode c.code pc = .ok (.idiv, 1)) (hp : pc + 1 = pc') (k : own_W p e below K T (mkF m pc' Ls (.int (x / y) :: S))) : own_W p e below K T (mkF m pc Ls (.int y :: .int x :: S)) := by subst hp; exact own_s (fun _ => XS.idiv X.here hx rfl hd rfl hy) k
theorem own_irem (X : Stand p l e R s m args below meth c T locs cells slots) (hx : p.tables.exec = Jvm.exec) {x y : Int32} (pc' : Nat) (hy : y ≠ 0) (hd : decode c.code pc = .ok (.irem, 1)) (hp : pc + 1 = pc') (k : own_W p e below K T (mkF m pc' Ls (.int (x % y) :: S))) : own_W p e below K T (mkF m pc Ls (.int y :: .int x :: S)) := by subst hp; exact own_s (fun _ => iremM X hx rfl hd rfl hy) k
theorem own_ldiv (X : Stand p l e R s m args below meth c T locs cells slots) (hx : p.tables.exec = Jvm.exec) {x y : Int64} (pc' : Nat) (hy : y ≠ 0) (hd : decode c.code pc = .ok (.ldiv, 1)) (hp : pc + 1 = pc') (k : own_W p e below K T (mkF m pc' Ls (.long (x / y) :: S))) : own_W p e below K T (mkF m pc Ls (.long y :: .long x :: S)) := by subst hp; exact own_s (fun _ => XS.ldiv X.here hx rfl hd rfl hy) k
theorem own_lrem (X : Stand p l e R s m args below meth c T locs cells slots) (hx : p.tables.exec = Jvm.exec) {x y : Int64} (pc' : Nat) (hy : y ≠ 0) (hd : decode c.code pc = .ok (.lrem, 1)) (hp : pc + 1 = pc') (k : own_W p e below K T (mkF m pc' Ls (.long (x % y) :: S))) : own_W p e below K T (mkF m pc Ls (.long y :: .long x :: S)) := by subst hp; rw [← lrem_mod] at k; exact own_s (fun _ => XS.lrem X.here hx rfl hd rfl hy) k
theorem own_icmp (X : Stand p l e R s m args below meth c T locs cells slots) (hx : p.tables.exec = Jvm.exec) {cd : ClassFile.Cond} {x y : Int32} {o : Int} (pcT pcF : Nat) (P : Prop) [Decidable P] (hT : P → if_icmp.holds cd x y = true) (hF : ¬ P → if_icmp.holds cd x y = false) (hd : decode c.code pc = .ok (.if_icmp cd o, 3)) (ho : 0 ≤ (pc : Int) + o) (hp : ((pc : Int) + o).toNat = pcT) (hp' : pc + 3 = pcF)
    (kT : P → own_W p e below K T (mkF m pcT Ls S)) (kF : ¬ P → own_W p e below K T (mkF m pcF Ls S)) : own_W p e below K T (mkF m pc Ls (.int y :: .int x :: S)) := by
  subst hp'
  by_cases q : P
  · exact own_s (fun _ => XS.icmpYes X.here hx (g := mkF m pc Ls (.int y :: .int x :: S)) rfl rfl hd rfl (hT q) ho hp) (kT q)
  · exact own_s (fun _ => XS.icmpNo X.here hx (g := mkF m pc Ls (.int y :: .int x :: S)) rfl hd rfl (hF q)) (kF q)
theorem own_if (X : Stand p l e R s m args below meth c T locs cells slots) (hx : p.tables.exec = Jvm.exec) {cd : ClassFile.Cond} {x : Int32} {o : Int} (pcT pcF : Nat) (P : Prop) [Decidable P] (hT : P → if_icmp.holds cd x 0 = true) (hF : ¬ P → if_icmp.holds cd x 0 = false) (hd : decode c.code pc = .ok (.ifCond cd o, 3)) (ho : 0 ≤ (pc : Int) + o) (hp : ((pc : Int) + o).toNat = pcT) (hp' : pc + 3 = pcF)
    (kT : P → own_W p e below K T (mkF m pcT Ls S)) (kF : ¬ P → own_W p e below K T (mkF m pcF Ls S)) : own_W p e below K T (mkF m pc Ls (.int x :: S)) := by
  subst hp'
  by_cases q : P
  · exact own_s (fun _ => XS.ifYes X.here hx (g := mkF m pc Ls (.int x :: S)) rfl rfl hd rfl ((if0 cd x).trans (hT q)) ho hp) (kT q)
  · exact own_s (fun _ => XS.ifNo X.here hx (g := mkF m pc Ls (.int x :: S)) rfl hd rfl ((if0 cd x).trans (hF q))) (kF q)
theorem own_lcmp (X : Stand p l e R s m args below meth c T locs cells slots) (hx : p.tables.exec = Jvm.exec) {x y : Int64} (pc' : Nat) (hd : decode c.code pc = .ok (.lcmp, 1)) (hp : pc + 1 = pc') (k : own_W p e below K T (mkF m pc' Ls (.int (lcmpW x y) :: S))) : own_W p e below K T (mkF m pc Ls (.long y :: .long x :: S)) := by subst hp; exact own_s (fun _ => XS.lcmp X.here hx rfl hd rfl) k
theorem own_icmp_lt (X : Stand p l e R s m args below meth c T locs cells slots) (hx : p.tables.exec = Jvm.exec) {x y : Int32} {o : Int} (pcT pcF : Nat) (hd : decode c.code pc = .ok (.if_icmp .lt o, 3)) (ho : 0 ≤ (pc : Int) + o) (hp : ((pc : Int) + o).toNat = pcT) (hp' : pc + 3 = pcF) (kT : x < y → own_W p e below K T (mkF m pcT Ls S)) (kF : ¬ x < y → own_W p e below K T (mkF m pcF Ls S)) : own_W p e below K T (mkF m pc Ls (.int y :: .int x :: S)) := own_icmp X hx pcT pcF (x < y) (fun q => (tlt q).1) (fun q => (flt q).1) hd ho hp hp' kT kF
theorem own_if_lt (X : Stand p l e R s m args below meth c T locs cells slots) (hx : p.tables.exec = Jvm.exec) {x : Int32} {o : Int} (pcT pcF : Nat) (hd : decode c.code pc = .ok (.ifCond .lt o, 3)) (ho : 0 ≤ (pc : Int) + o) (hp : ((pc : Int) + o).toNat = pcT) (hp' : pc + 3 = pcF) (kT : x < 0 → own_W p e below K T (mkF m pcT Ls S)) (kF : ¬ x < 0 → own_W p e below K T (mkF m pcF Ls S)) : own_W p e below K T (mkF m pc Ls (.int x :: S)) := own_if X hx pcT pcF (x < 0) (fun q => (tlt q).1) (fun q => (flt q).1) hd ho hp hp' kT kF
theorem own_lif_lt (X : Stand p l e R s m args below meth c T locs cells slots) (hx : p.tables.exec = Jvm.exec) {x y : Int64} {o : Int} (pc1 pcT pcF : Nat) (hd1 : decode c.code pc = .ok (.lcmp, 1)) (hp1 : pc + 1 = pc1) (hd : decode c.code pc1 = .ok (.ifCond .lt o, 3)) (ho : 0 ≤ (pc1 : Int) + o) (hp : ((pc1 : Int) + o).toNat = pcT) (hp' : pc1 + 3 = pcF) (kT : x < y → own_W p e below K T (mkF m pcT Ls S)) (kF : ¬ x < y → own_W p e below K T (mkF m pcF Ls S)) : own_W p e below K T (mkF m pc Ls (.long y :: .long x :: S)) := own_lcmp X hx pc1 hd1 hp1 (own_if_lt X hx pcT pcF hd ho hp hp' (fun q => kT ((lw_lt x y).mp q)) (fun q => kF (fun r => q ((lw_lt x y).mpr r))))
theorem own_icmp_ge (X : Stand p l e R s m args below meth c T locs cells slots) (hx : p.tables.exec = Jvm.exec) {x y : Int32} {o : Int} (pcT pcF : Nat) (hd : decode c.code pc = .ok (.if_icmp .ge o, 3)) (ho : 0 ≤ (pc : Int) + o) (hp : ((pc : Int) + o).toNat = pcT) (hp' : pc + 3 = pcF) (kT : ¬ x < y → own_W p e below K T (mkF m pcT Ls S)) (kF : x < y → own_W p e below K T (mkF m pcF Ls S)) : own_W p e below K T (mkF m pc Ls (.int y :: .int x :: S)) := own_icmp X hx pcT pcF (¬ x < y) (fun q => (flt q).2.1) (fun q => (tlt (Decidable.not_not.mp q)).2.1) hd ho hp hp' kT (fun q => kF (Decidable.not_not.mp q))
theorem own_if_ge (X : Stand p l e R s m args below meth c T locs cells slots) (hx : p.tables.exec = Jvm.exec) {x : Int32} {o : Int} (pcT pcF : Nat) (hd : decode c.code pc = .ok (.ifCond .ge o, 3)) (ho : 0 ≤ (pc : Int) + o) (hp : ((pc : Int) + o).toNat = pcT) (hp' : pc + 3 = pcF) (kT : ¬ x < 0 → own_W p e below K T (mkF m pcT Ls S)) (kF : x < 0 → own_W p e below K T (mkF m pcF Ls S)) : own_W p e below K T (mkF m pc Ls (.int x :: S)) := own_if X hx pcT pcF (¬ x < 0) (fun q => (flt q).2.1) (fun q => (tlt (Decidable.not_not.mp q)).2.1) hd ho hp hp' kT (fun q => kF (Decidable.not_not.mp q))
theorem own_lif_ge (X : Stand p l e R s m args below meth c T locs cells slots) (hx : p.tables.exec = Jvm.exec) {x y : Int64} {o : Int} (pc1 pcT pcF : Nat) (hd1 : decode c.code pc = .ok (.lcmp, 1)) (hp1 : pc + 1 = pc1) (hd : decode c.code pc1 = .ok (.ifCond .ge o, 3)) (ho : 0 ≤ (pc1 : Int) + o) (hp : ((pc1 : Int) + o).toNat = pcT) (hp' : pc1 + 3 = pcF) (kT : ¬ x < y → own_W p e below K T (mkF m pcT Ls S)) (kF : x < y → own_W p e below K T (mkF m pcF Ls S)) : own_W p e below K T (mkF m pc Ls (.long y :: .long x :: S)) := own_lcmp X hx pc1 hd1 hp1 (own_if_ge X hx pcT pcF hd ho hp hp' (fun q => kT (fun r => q ((lw_lt x y).mpr r))) (fun q => kF ((lw_lt x y).mp q)))
theorem own_icmp_gt (X : Stand p l e R s m args below meth c T locs cells slots) (hx : p.tables.exec = Jvm.exec) {x y : Int32} {o : Int} (pcT pcF : Nat) (hd : decode c.code pc = .ok (.if_icmp .gt o, 3)) (ho : 0 ≤ (pc : Int) + o) (hp : ((pc : Int) + o).toNat = pcT) (hp' : pc + 3 = pcF) (kT : y < x → own_W p e below K T (mkF m pcT Ls S)) (kF : ¬ y < x → own_W p e below K T (mkF m pcF Ls S)) : own_W p e below K T (mkF m pc Ls (.int y :: .int x :: S)) := own_icmp X hx pcT pcF (y < x) (fun q => (tlt q).2.2.1) (fun q => (flt q).2.2.1) hd ho hp hp' kT kF
theorem own_if_gt (X : Stand p l e R s m args below meth c T locs cells slots) (hx : p.tables.exec = Jvm.exec) {x : Int32} {o : Int} (pcT pcF : Nat) (hd : decode c.code pc = .ok (.ifCond .gt o, 3)) (ho : 0 ≤ (pc : Int) + o) (hp : ((pc : Int) + o).toNat = pcT) (hp' : pc + 3 = pcF) (kT : 0 < x → own_W p e below K T (mkF m pcT Ls S)) (kF : ¬ 0 < x → own_W p e below K T (mkF m pcF Ls S)) : own_W p e below K T (mkF m pc Ls (.int x :: S)) := own_if X hx pcT pcF (0 < x) (fun q => (tlt q).2.2.1) (fun q => (flt q).2.2.1) hd ho hp hp' kT kF
theorem own_lif_gt (X : Stand p l e R s m args below meth c T locs cells slots) (hx : p.tables.exec = Jvm.exec) {x y : Int64} {o : Int} (pc1 pcT pcF : Nat) (hd1 : decode c.code pc = .ok (.lcmp, 1)) (hp1 : pc + 1 = pc1) (hd : decode c.code pc1 = .ok (.ifCond .gt o, 3)) (ho : 0 ≤ (pc1 : Int) + o) (hp : ((pc1 : Int) + o).toNat = pcT) (hp' : pc1 + 3 = pcF) (kT : y < x → own_W p e below K T (mkF m pcT Ls S)) (kF : ¬ y < x → own_W p e below K T (mkF m pcF Ls S)) : own_W p e below K T (mkF m pc Ls (.long y :: .long x :: S)) := own_lcmp X hx pc1 hd1 hp1 (own_if_gt X hx pcT pcF hd ho hp hp' (fun q => kT ((lw_gt x y).mp q)) (fun q => kF (fun r => q ((lw_gt x y).mpr r))))
theorem own_icmp_le (X : Stand p l e R s m args below meth c T locs cells slots) (hx : p.tables.exec = Jvm.exec) {x y : Int32} {o : Int} (pcT pcF : Nat) (hd : decode c.code pc = .ok (.if_icmp .le o, 3)) (ho : 0 ≤ (pc : Int) + o) (hp : ((pc : Int) + o).toNat = pcT) (hp' : pc + 3 = pcF) (kT : ¬ y < x → own_W p e below K T (mkF m pcT Ls S)) (kF : y < x → own_W p e below K T (mkF m pcF Ls S)) : own_W p e below K T (mkF m pc Ls (.int y :: .int x :: S)) := own_icmp X hx pcT pcF (¬ y < x) (fun q => (flt q).2.2.2) (fun q => (tlt (Decidable.not_not.mp q)).2.2.2) hd ho hp hp' kT (fun q => kF (Decidable.not_not.mp q))
theorem own_if_le (X : Stand p l e R s m args below meth c T locs cells slots) (hx : p.tables.exec = Jvm.exec) {x : Int32} {o : Int} (pcT pcF : Nat) (hd : decode c.code pc = .ok (.ifCond .le o, 3)) (ho : 0 ≤ (pc : Int) + o) (hp : ((pc : Int) + o).toNat = pcT) (hp' : pc + 3 = pcF) (kT : ¬ 0 < x → own_W p e below K T (mkF m pcT Ls S)) (kF : 0 < x → own_W p e below K T (mkF m pcF Ls S)) : own_W p e below K T (mkF m pc Ls (.int x :: S)) := own_if X hx pcT pcF (¬ 0 < x) (fun q => (flt q).2.2.2) (fun q => (tlt (Decidable.not_not.mp q)).2.2.2) hd ho hp hp' kT (fun q => kF (Decidable.not_not.mp q))
theorem own_lif_le (X : Stand p l e R s m args below meth c T locs cells slots) (hx : p.tables.exec = Jvm.exec) {x y : Int64} {o : Int} (pc1 pcT pcF : Nat) (hd1 : decode c.code pc = .ok (.lcmp, 1)) (hp1 : pc + 1 = pc1) (hd : decode c.code pc1 = .ok (.ifCond .le o, 3)) (ho : 0 ≤ (pc1 : Int) + o) (hp : ((pc1 : Int) + o).toNat = pcT) (hp' : pc1 + 3 = pcF) (kT : ¬ y < x → own_W p e below K T (mkF m pcT Ls S)) (kF : y < x → own_W p e below K T (mkF m pcF Ls S)) : own_W p e below K T (mkF m pc Ls (.long y :: .long x :: S)) := own_lcmp X hx pc1 hd1 hp1 (own_if_le X hx pcT pcF hd ho hp hp' (fun q => kT (fun r => q ((lw_gt x y).mpr r))) (fun q => kF ((lw_gt x y).mp q)))
theorem own_icmp_eq (X : Stand p l e R s m args below meth c T locs cells slots) (hx : p.tables.exec = Jvm.exec) {x y : Int32} {o : Int} (pcT pcF : Nat) (hd : decode c.code pc = .ok (.if_icmp .eq o, 3)) (ho : 0 ≤ (pc : Int) + o) (hp : ((pc : Int) + o).toNat = pcT) (hp' : pc + 3 = pcF) (kT : x = y → own_W p e below K T (mkF m pcT Ls S)) (kF : ¬ x = y → own_W p e below K T (mkF m pcF Ls S)) : own_W p e below K T (mkF m pc Ls (.int y :: .int x :: S)) := own_icmp X hx pcT pcF (x = y) (fun q => (teq q).1) (fun q => (feq q).1) hd ho hp hp' kT kF
theorem own_if_eq (X : Stand p l e R s m args below meth c T locs cells slots) (hx : p.tables.exec = Jvm.exec) {x : Int32} {o : Int} (pcT pcF : Nat) (hd : decode c.code pc = .ok (.ifCond .eq o, 3)) (ho : 0 ≤ (pc : Int) + o) (hp : ((pc : Int) + o).toNat = pcT) (hp' : pc + 3 = pcF) (kT : x = 0 → own_W p e below K T (mkF m pcT Ls S)) (kF : ¬ x = 0 → own_W p e below K T (mkF m pcF Ls S)) : own_W p e below K T (mkF m pc Ls (.int x :: S)) := own_if X hx pcT pcF (x = 0) (fun q => (teq q).1) (fun q => (feq q).1) hd ho hp hp' kT kF
theorem own_lif_eq (X : Stand p l e R s m args below meth c T locs cells slots) (hx : p.tables.exec = Jvm.exec) {x y : Int64} {o : Int} (pc1 pcT pcF : Nat) (hd1 : decode c.code pc = .ok (.lcmp, 1)) (hp1 : pc + 1 = pc1) (hd : decode c.code pc1 = .ok (.ifCond .eq o, 3)) (ho : 0 ≤ (pc1 : Int) + o) (hp : ((pc1 : Int) + o).toNat = pcT) (hp' : pc1 + 3 = pcF) (kT : x = y → own_W p e below K T (mkF m pcT Ls S)) (kF : ¬ x = y → own_W p e below K T (mkF m pcF Ls S)) : own_W p e below K T (mkF m pc Ls (.long y :: .long x :: S)) := own_lcmp X hx pc1 hd1 hp1 (own_if_eq X hx pcT pcF hd ho hp hp' (fun q => kT ((lw_eq x y).mp q)) (fun q => kF (fun r => q ((lw_eq x y).mpr r))))
theorem own_icmp_ne (X : Stand p l e R s m args below meth c T locs cells slots) (hx : p.tables.exec = Jvm.exec) {x y : Int32} {o : Int} (pcT pcF : Nat) (hd : decode c.code pc = .ok (.if_icmp .ne o, 3)) (ho : 0 ≤ (pc : Int) + o) (hp : ((pc : Int) + o).toNat = pcT) (hp' : pc + 3 = pcF) (kT : ¬ x = y → own_W p e below K T (mkF m pcT Ls S)) (kF : x = y → own_W p e below K T (mkF m pcF Ls S)) : own_W p e below K T (mkF m pc Ls (.int y :: .int x :: S)) := own_icmp X hx pcT pcF (¬ x = y) (fun q => (feq q).2) (fun q => (teq (Decidable.not_not.mp q)).2) hd ho hp hp' kT (fun q => kF (Decidable.not_not.mp q))
theorem own_if_ne (X : Stand p l e R s m args below meth c T locs cells slots) (hx : p.tables.exec = Jvm.exec) {x : Int32} {o : Int} (pcT pcF : Nat) (hd : decode c.code pc = .ok (.ifCond .ne o, 3)) (ho : 0 ≤ (pc : Int) + o) (hp : ((pc : Int) + o).toNat = pcT) (hp' : pc + 3 = pcF) (kT : ¬ x = 0 → own_W p e below K T (mkF m pcT Ls S)) (kF : x = 0 → own_W p e below K T (mkF m pcF Ls S)) : own_W p e below K T (mkF m pc Ls (.int x :: S)) := own_if X hx pcT pcF (¬ x = 0) (fun q => (feq q).2) (fun q => (teq (Decidable.not_not.mp q)).2) hd ho hp hp' kT (fun q => kF (Decidable.not_not.mp q))
theorem own_lif_ne (X : Stand p l e R s m args below meth c T locs cells slots) (hx : p.tables.exec = Jvm.exec) {x y : Int64} {o : Int} (pc1 pcT pcF : Nat) (hd1 : decode c.code pc = .ok (.lcmp, 1)) (hp1 : pc + 1 = pc1) (hd : decode c.code pc1 = .ok (.ifCond .ne o, 3)) (ho : 0 ≤ (pc1 : Int) + o) (hp : ((pc1 : Int) + o).toNat = pcT) (hp' : pc1 + 3 = pcF) (kT : ¬ x = y → own_W p e below K T (mkF m pcT Ls S)) (kF : x = y → own_W p e below K T (mkF m pcF Ls S)) : own_W p e below K T (mkF m pc Ls (.long y :: .long x :: S)) := own_lcmp X hx pc1 hd1 hp1 (own_if_ne X hx pcT pcF hd ho hp hp' (fun q => kT (fun r => q ((lw_eq x y).mpr r))) (fun q => kF ((lw_eq x y).mp q)))
end Plain
section Rets
theorem own_retI (X : Stand p l e R s m args below meth c T locs cells slots) (hx : p.tables.exec = Jvm.exec) {z : Int32} (hret : meth.sig.returnType = some .int) (hlk : meth.locks = false) (hd : decode c.code pc = .ok (.ireturn, 1)) (hc : cells ≤ R.cells) (hl : slots ≤ R.slots) (q : Q (some (.int z)) T.heap locs) : own_W p e below (own_K s R Q) T (mkF m pc Ls (.int z :: S)) := by
  obtain ⟨fs, hr, hrun, hended, hW, hsame⟩ := X.leave (v := some (.int z)) (fun h => by rw [hret] at h; cases h) hlk
  exact ⟨_, _, retI X hx hret hd hr, hrun, hended, _, _, rfl, q, ⟨_, rfl⟩, hW, hsame.mono hc hl⟩
theorem own_retZ (X : Stand p l e R s m args below meth c T locs cells slots) (hx : p.tables.exec = Jvm.exec) {z : Int32} (z' : Int32) (hz : z &&& 1 = z') (hret : meth.sig.returnType = some .boolean) (hlk : meth.locks = false) (hd : decode c.code pc = .ok (.ireturn, 1)) (hc : cells ≤ R.cells) (hl : slots ≤ R.slots) (q : Q (some (.int z')) T.heap locs) : own_W p e below (own_K s R Q) T (mkF m pc Ls (.int z :: S)) := by
  subst hz
  obtain ⟨fs, hr, hrun, hended, hW, hsame⟩ := X.leave (v := some (.int (nar .boolean z))) (fun h => by rw [hret] at h; cases h) hlk
  exact ⟨_, _, retN X hx (t := .boolean) hret (by simp) hd hr, hrun, hended, _, _, rfl, q, ⟨_, rfl⟩, hW, hsame.mono hc hl⟩
theorem own_retJ (X : Stand p l e R s m args below meth c T locs cells slots) (hx : p.tables.exec = Jvm.exec) {z : Int64} (hret : meth.sig.returnType = some .long) (hlk : meth.locks = false) (hd : decode c.code pc = .ok (.lreturn, 1)) (hc : cells ≤ R.cells) (hl : slots ≤ R.slots) (q : Q (some (.long z)) T.heap locs) : own_W p e below (own_K s R Q) T (mkF m pc Ls [.long z]) := by
  obtain ⟨fs, hr, hrun, hended, hW, hsame⟩ := X.leave (v := some (.long z)) (fun h => by rw [hret] at h; cases h) hlk
  exact ⟨_, _, X.lreturnOut hx hret hd hr, hrun, hended, _, _, rfl, q, ⟨_, rfl⟩, hW, hsame.mono hc hl⟩
theorem own_retA (X : Stand p l e R s m args below meth c T locs cells slots) (hx : p.tables.exec = Jvm.exec) {z : Addr} {t : FieldType} (hret : meth.sig.returnType = some t) (ht : t.isReference = true) (hlk : meth.locks = false) (hd : decode c.code pc = .ok (.areturn, 1)) (hc : cells ≤ R.cells) (hl : slots ≤ R.slots) (q : Q (some (.ref z)) T.heap locs) : own_W p e below (own_K s R Q) T (mkF m pc Ls [.ref z]) := by
  obtain ⟨fs, hr, hrun, hended, hW, hsame⟩ := X.leave (v := some (.ref z)) (fun h => by rw [hret] at h; cases h) hlk
  exact ⟨_, _, X.areturnOut hx rfl hret ht hd hr, hrun, hended, _, _, rfl, q, ⟨_, rfl⟩, hW, hsame.mono hc hl⟩
theorem own_retV (X : Stand p l e R s m args below meth c T locs cells slots) (hx : p.tables.exec = Jvm.exec) (hret : meth.sig.returnType = none) (hlk : meth.locks = false) (hd : decode c.code pc = .ok (.return_, 1)) (hc : cells ≤ R.cells) (hl : slots ≤ R.slots) (q : Q none T.heap locs) : own_W p e below (own_K s R Q) T (mkF m pc Ls []) := by
  obtain ⟨fs, hr, hrun, hended, hW, hsame⟩ := X.leave (v := none) (fun _ => rfl) hlk
  exact ⟨_, _, X.returnOut hx hret hd hr, hrun, hended, _, _, rfl, q, ⟨_, rfl⟩, hW, hsame.mono hc hl⟩
end Rets
section Heaps
theorem own_getF (X : Stand p l e R s m args below meth c T locs cells slots) (hx : p.tables.exec = Jvm.exec) (hZ : Z.Warmed39 s.vm) (hown : s.vm.findClass own = some m.cls) (eT : T.heap = h) {O n d : String} {a : Addr} {v : Value} (pc' : Nat) (w : (Jvm.Cond.fieldLink own index O n d).before a0 Z = true) (F : Fld Z h a O n d v) (hd : decode c.code pc = .ok (.getfield index, 3)) (hp : pc + 3 = pc')
    (k : ∀ T', Stand p l e R s m args below meth c T' locs cells slots → T'.heap = h → own_W p e below K T' (mkF m pc' Ls (v :: S))) : own_W p e below K T (mkF m pc Ls (.ref a :: S)) := by
  subst hp
  obtain ⟨T', X', e', st⟩ := getF X hx hZ hown (host := "") (Or.inl w) Via.refl eT F (g := mkF m pc Ls (.ref a :: S)) rfl rfl hd
  exact own_s st (k T' X' e')
theorem own_putF (X : Stand p l e R s m args below meth c T locs cells slots) (hx : p.tables.exec = Jvm.exec) (hZ : Z.Warmed39 s.vm) (hown : s.vm.findClass own = some m.cls) (eT : T.heap = h) {O n d C : String} {a : Addr} {v old : Value} {kk : Nat} {ty : FieldType} (pc' : Nat) (w : (Jvm.Cond.fieldLink own index O n d).before a0 Z = true) (F : Fld Z h a O n d old) (E : Exa Z h a C) (L : (Jvm.Cond.lays C O n d).before a0 Z = true ∨ ((Jvm.Cond.laysFinal C O n d).before a0 Z = true ∧ own = O ∧ meth.name = "<init>")) (wi : (Jvm.Cond.instantiable C kk).before a0 Z = true)
    (hty : parseFieldDescriptor d = some ty) (hn : narrow ty v = v) (hf : fits ty v = true) (hd : decode c.code pc = .ok (.putfield index, 3)) (hp : pc + 3 = pc')
    (k : ∀ T' h', Stand p l e R s m args below meth c T' (locs ++ [⟨a, Jvm.RoadKit.slotOf Z O n d⟩]) cells slots → T'.heap = h' → Wr h h' a (Jvm.RoadKit.slotOf Z O n d) v → own_W p e below K T' (mkF m pc' Ls S)) : own_W p e below K T (mkF m pc Ls (v :: .ref a :: S)) := by
  subst hp
  obtain ⟨T', h', X', e', W, st⟩ := putF X hx hZ hown (host := "") (Or.inl w) Via.refl eT F E L wi hty hn hf (g := mkF m pc Ls (v :: .ref a :: S)) rfl rfl hd
  exact own_s st (k T' h' X' e' W)
theorem own_putZ (X : Stand p l e R s m args below meth c T locs cells slots) (hx : p.tables.exec = Jvm.exec) (hZ : Z.Warmed39 s.vm) (hown : s.vm.findClass own = some m.cls) (eT : T.heap = h) {O n d C : String} {a : Addr} {v : Int32} {old : Value} {kk : Nat} (pc' : Nat) (w : (Jvm.Cond.fieldLink own index O n d).before a0 Z = true) (F : Fld Z h a O n d old) (E : Exa Z h a C) (L : (Jvm.Cond.lays C O n d).before a0 Z = true ∨ ((Jvm.Cond.laysFinal C O n d).before a0 Z = true ∧ own = O ∧ meth.name = "<init>")) (wi : (Jvm.Cond.instantiable C kk).before a0 Z = true)
    (hty : parseFieldDescriptor d = some .boolean) (hd : decode c.code pc = .ok (.putfield index, 3)) (hp : pc + 3 = pc')
    (k : ∀ T' h', Stand p l e R s m args below meth c T' (locs ++ [⟨a, Jvm.RoadKit.slotOf Z O n d⟩]) cells slots → T'.heap = h' → Wr h h' a (Jvm.RoadKit.slotOf Z O n d) (.int (v &&& 1)) → own_W p e below K T' (mkF m pc' Ls S)) : own_W p e below K T (mkF m pc Ls (.int v :: .ref a :: S)) := by
  subst hp
  obtain ⟨T', h', X', e', W, st⟩ := putFN X hx hZ hown w Via.refl eT F E L wi (ty := .boolean) (v' := .int (nar .boolean v)) hty rfl (fits_nar_bool _) (g := mkF m pc Ls (.int v :: .ref a :: S)) rfl rfl hd
  exact own_s st (k T' h' X' e' W)
theorem own_new (X : Stand p l e R s m args below meth c T locs cells slots) (hx : p.tables.exec = Jvm.exec) (hZ : Z.Warmed39 s.vm) (hown : s.vm.findClass own = some m.cls) (eT : T.heap = h) {C : String} {n : Nat} (pc' : Nat) (w : (Jvm.Cond.classLink own index C).before a0 Z = true) (wi : (Jvm.Cond.instantiable C n).before a0 Z = true) (wz : (Jvm.Cond.initialized C).before a0 Z = true) (hd : decode c.code pc = .ok (.new index, 3)) (hp : pc + 3 = pc') (hc : cells + 1 ≤ R.cells) (hl : slots + n ≤ R.slots)
    (k : ∀ T' h' a, Stand p l e R s m args below meth c T' locs (cells + 1) (slots + n) → T'.heap = h' → a = h.size → Ext h h' → Exa Z h' a C → (∀ {O nm d : String} {ty : FieldType}, Laid Z a0 C O nm d → parseFieldDescriptor d = some ty → Fld Z h' a O nm d (defaultValue ty)) → own_W p e below K T' (mkF m pc' Ls (.ref a :: S))) : own_W p e below K T (mkF m pc Ls S) := by
  subst hp
  obtain ⟨T', h', X', e', E, A, D, -, st⟩ := newO X hx hZ hown w wi wz eT (g := mkF m pc Ls S) rfl hd hc hl
  exact own_s st (k T' h' _ X' e' rfl E A D)
theorem own_initO (X : Stand p l e R s m args below meth c T locs cells slots) (hx : p.tables.exec = Jvm.exec) (hZ : Z.Warmed39 s.vm) (hown : s.vm.findClass own = some m.cls) (eT : T.heap = h) {a : Addr} {W : Nat} (pc' : Nat) (w1 : (Jvm.Cond.methodLink own index Lib.objectInit).before a0 Z = true) (w2 : (Jvm.Cond.instanceMethod Lib.objectInit).before a0 Z = true) (w3 : (Jvm.Cond.code Lib.objectInit ⟨#[0xb1]⟩ 1 none).before a0 Z = true) (hsize : Ls.size = c.maxLocals) (hd : decode c.code pc = .ok (.invokespecial index, 3)) (hp : pc + 3 = pc')
    (hf : 1 ≤ R.frames) (hW : (S.map fun v => v.category).sum = W) (hl : W + 12 ≤ R.locals)
    (k : ∀ T', Stand p l e R s m args below meth c T' locs cells slots → T'.heap = h → own_W p e below K T' (mkF m pc' Ls S)) : own_W p e below K T (mkF m pc Ls (.ref a :: S)) := by
  subst hp
  obtain ⟨T', X', e', st⟩ := initO X hx hZ hown w1 w2 w3 eT (g := mkF m pc Ls (.ref a :: S)) rfl hsize rfl hd hf (W := W) (by show 2 * 0 + _ ≤ _; rw [hW]; omega) hl
  exact own_s st (k T' X' e')
theorem own_callS (X : Stand p l e R s m args below meth c T locs cells slots) (hx : p.tables.exec = Jvm.exec) (hZ : Z.Warmed39 s.vm) (hown : s.vm.findClass own = some m.cls) (eT : T.heap = h) {argsL rest : List Value} {W : Nat} (pc' : Nat) (hM : own_C l Z y bytes maxL ret [] rm argsL.toArray h Q) (w1 : (Jvm.Cond.methodLink own index y).before a0 Z = true) (w2 : (Jvm.Cond.static y).before a0 Z = true) (w3 : (Jvm.Cond.initialized y.cls).before a0 Z = true) (w4 : (Jvm.Cond.code y bytes maxL ret).before a0 Z = true)
    (hy : y.cls ≠ "java/lang/invoke/MethodHandle" ∧ y.cls ≠ "java/lang/invoke/VarHandle") (hsize : Ls.size = c.maxLocals) (hlen : ∀ sig, parseMethodDescriptor y.desc = some sig → argsL.length = sig.parameters.length) (hst : S = argsL.reverse ++ rest) (hd : decode c.code pc = .ok (.invokestatic index, 3)) (hp : pc + 3 = pc')
    (hW : (rest.map fun v => v.category).sum = W) (hf : rm.frames + 1 ≤ R.frames) (hl : W + (maxL + 11) + rm.locals ≤ R.locals) (hc : cells + rm.cells ≤ R.cells) (hs : slots + rm.slots ≤ R.slots)
    (k : ∀ v T' L, Stand p l e R s m args below meth c T' (locs ++ L) (cells + rm.cells) (slots + rm.slots) → Q v T'.heap L → own_W p e below K T' (mkF m pc' Ls (v.toList ++ rest))) : own_W p e below K T (mkF m pc Ls S) := by
  subst hp hst
  obtain ⟨v, vm₁, ⟨T', L', k', n'⟩, -, X', ⟨L, hQ, l1, y1, z1⟩, st⟩ := Jvm.LawKit.callS X hx (y := y) hown (mvT hZ w1) (mvT hZ w2) (mvT hZ w3) (mvT hZ w4) hy (backOf (W := W) hM hZ w4 w3 hf hl) (g := mkF m pc Ls (argsL.reverse ++ rest)) rfl hsize (argsL := argsL) (rest := rest) hlen rfl (by show 2 * 0 + _ ≤ _; rw [hW]; omega) hd (fun _ _ => ⟨rfl, eT, hc, hs⟩)
  dsimp only [Pt.U, Pt.locs, Pt.cells, Pt.slots] at X' l1 y1 z1 st hQ
  subst l1 y1 z1
  exact own_s st (k v T' L X' hQ)
theorem own_callI (X : Stand p l e R s m args below meth c T locs cells slots) (hx : p.tables.exec = Jvm.exec) (hZ : Z.Warmed39 s.vm) (hown : s.vm.findClass own = some m.cls) (eT : T.heap = h) {a : Addr} {argsL rest : List Value} {W : Nat} (pc' : Nat) (hM : own_C l Z y bytes maxL none [] rm (.ref a :: argsL).toArray h Q) (hn : y.name = "<init>") (w1 : (Jvm.Cond.methodLink own index y).before a0 Z = true) (w2 : (Jvm.Cond.instanceMethod y).before a0 Z = true) (w3 : (Jvm.Cond.initialized y.cls).before a0 Z = true) (w4 : (Jvm.Cond.code y bytes maxL none).before a0 Z = true)
    (hy : y.cls ≠ "java/lang/invoke/MethodHandle" ∧ y.cls ≠ "java/lang/invoke/VarHandle") (hsize : Ls.size = c.maxLocals) (hlen : ∀ sig, parseMethodDescriptor y.desc = some sig → argsL.length = sig.parameters.length) (hst : S = argsL.reverse ++ .ref a :: rest) (hd : decode c.code pc = .ok (.invokespecial index, 3)) (hp : pc + 3 = pc')
    (hW : (rest.map fun v => v.category).sum = W) (hf : rm.frames + 1 ≤ R.frames) (hl : W + (maxL + 11) + rm.locals ≤ R.locals) (hc : cells + rm.cells ≤ R.cells) (hs : slots + rm.slots ≤ R.slots)
    (k : ∀ v T' L, Stand p l e R s m args below meth c T' (locs ++ L) (cells + rm.cells) (slots + rm.slots) → Q v T'.heap L → own_W p e below K T' (mkF m pc' Ls (v.toList ++ rest))) : own_W p e below K T (mkF m pc Ls S) := by
  subst hp hst
  obtain ⟨v, vm₁, ⟨T', L', k', n'⟩, -, X', ⟨L, hQ, l1, y1, z1⟩, st⟩ := X.specialBack hx (y := y) hn hown (mvT hZ w1) (mvT hZ w2) (mvT hZ w4) hy (backOf (W := W) hM hZ w4 w3 hf hl) (g := mkF m pc Ls (argsL.reverse ++ .ref a :: rest)) rfl hsize (Steps.refl _) (a := a) (argsL := argsL) (rest := rest) hlen rfl (by show 2 * 0 + _ ≤ _; rw [hW]; omega) hd (fun _ _ => ⟨rfl, eT, hc, hs⟩)
  dsimp only [Pt.U, Pt.locs, Pt.cells, Pt.slots] at X' l1 y1 z1 st hQ
  subst l1 y1 z1
  exact own_s' st (k v T' L X' hQ)
theorem own_callV (X : Stand p l e R s m args below meth c T locs cells slots) (hx : p.tables.exec = Jvm.exec) (hZ : Z.Warmed39 s.vm) (hown : s.vm.findClass own = some m.cls) (eT : T.heap = h) {a : Addr} {argsL rest : List Value} {W : Nat} (pc' : Nat) (hM : own_C l Z y bytes maxL ret [] rm (.ref a :: argsL).toArray h Q) (E : Exa Z h a y.cls) (w1 : (Jvm.Cond.methodLink own index y).before a0 Z = true) (w2 : (Jvm.Cond.declares y).before a0 Z = true) (w5 : (Jvm.Cond.selects y.cls y y).before a0 Z = true) (w6 : (Jvm.Cond.instanceMethod y).before a0 Z = true) (w3 : (Jvm.Cond.initialized y.cls).before a0 Z = true) (w4 : (Jvm.Cond.code y bytes maxL ret).before a0 Z = true)
    (hy : y.cls ≠ "java/lang/invoke/MethodHandle" ∧ y.cls ≠ "java/lang/invoke/VarHandle") (hsize : Ls.size = c.maxLocals) (hlen : ∀ sig, parseMethodDescriptor y.desc = some sig → argsL.length = sig.parameters.length) (hst : S = argsL.reverse ++ .ref a :: rest) (hd : decode c.code pc = .ok (.invokevirtual index, 3)) (hp : pc + 3 = pc')
    (hW : (rest.map fun v => v.category).sum = W) (hf : rm.frames + 1 ≤ R.frames) (hl : W + (maxL + 11) + rm.locals ≤ R.locals) (hc : cells + rm.cells ≤ R.cells) (hs : slots + rm.slots ≤ R.slots)
    (k : ∀ v T' L, Stand p l e R s m args below meth c T' (locs ++ L) (cells + rm.cells) (slots + rm.slots) → Q v T'.heap L → own_W p e below K T' (mkF m pc' Ls (v.toList ++ rest))) : own_W p e below K T (mkF m pc Ls S) := by
  subst hp hst
  obtain ⟨cq, kq, qa, qb, qc⟩ := isOf hZ eT E
  obtain ⟨v, vm₁, ⟨T', L', k', n'⟩, -, X', ⟨L, hQ, l1, y1, z1⟩, st⟩ := X.virtualBack hx (y := y) (z := y) hown (mvT hZ w1) (mvT hZ w2) (notFace_of_selects (args := #[]) (mvT hZ w5)) (mvT hZ w5) (mvT hZ w6) hy (backOf (W := W) hM hZ w4 w3 hf hl) qa qc (g := mkF m pc Ls (argsL.reverse ++ .ref a :: rest)) rfl hsize (Steps.refl _) (argsL := argsL) (rest := rest) hlen rfl (by show 2 * 0 + _ ≤ _; rw [hW]; omega) hd (fun _ _ => ⟨rfl, eT, hc, hs⟩)
  dsimp only [Pt.U, Pt.locs, Pt.cells, Pt.slots] at X' l1 y1 z1 st hQ
  subst l1 y1 z1
  exact own_s' st (k v T' L X' hQ)
/-- an array of ints (bytes, booleans): n places, place j holds f j -/
def own_AI (Z : State) (h : Heap) (a : Addr) (ty : FieldType) (n : Nat) (f : Nat → Int32) : Prop := ∃ c : Cell, Arr Z h a c ty ∧ c.slots.size = n ∧ ∀ j, j < n → c.slots[j]? = some (.int (f j))
def own_AJ (Z : State) (h : Heap) (a : Addr) (n : Nat) (f : Nat → Int64) : Prop := ∃ c : Cell, Arr Z h a c .long ∧ c.slots.size = n ∧ ∀ j, j < n → c.slots[j]? = some (.long (f j))
section Arrs
variable {a b : Addr} {n i : Nat} {ty : FieldType} {f : Nat → Int32} {fj : Nat → Int64} {j : Int32} {ws : List Addr} {v : Value} {sl : Nat}
theorem own_AI.lt (A : own_AI Z h a ty n f) : a < h.size := by obtain ⟨c, A, -⟩ := A; exact A.lt
theorem own_AJ.lt (A : own_AJ Z h a n fj) : a < h.size := by obtain ⟨c, A, -⟩ := A; exact A.lt
theorem own_AI.ext (A : own_AI Z h a ty n f) (E : Ext h h') : own_AI Z h' a ty n f := by obtain ⟨c, A, r⟩ := A; exact ⟨c, A.ext E, r⟩
theorem own_AJ.ext (A : own_AJ Z h a n fj) (E : Ext h h') : own_AJ Z h' a n fj := by obtain ⟨c, A, r⟩ := A; exact ⟨c, A.ext E, r⟩
theorem own_AI.other (A : own_AI Z h a ty n f) (W : Wr h h' b sl v) (q : a ≠ b) : own_AI Z h' a ty n f := by obtain ⟨c, A, r⟩ := A; exact ⟨c, A.other W q, r⟩
theorem own_AJ.other (A : own_AJ Z h a n fj) (W : Wr h h' b sl v) (q : a ≠ b) : own_AJ Z h' a n fj := by obtain ⟨c, A, r⟩ := A; exact ⟨c, A.other W q, r⟩
theorem own_AI.keep (A : own_AI Z h a ty n f) (K : Keep h h' ws) (q : a ∉ ws) : own_AI Z h' a ty n f := by obtain ⟨c, A, r⟩ := A; exact ⟨c, ⟨K.2.1 a c A.1 q, A.2⟩, r⟩
theorem own_AJ.keep (A : own_AJ Z h a n fj) (K : Keep h h' ws) (q : a ∉ ws) : own_AJ Z h' a n fj := by obtain ⟨c, A, r⟩ := A; exact ⟨c, ⟨K.2.1 a c A.1 q, A.2⟩, r⟩
theorem own_AI.set {x : Int32} (A : own_AI Z h a ty n f) (W : Wr h h' a i (.int x)) : own_AI Z h' a ty n (fun q => if q = i then x else f q) := by
  obtain ⟨c, A, S, H⟩ := A
  refine ⟨_, A.same W, by rw [sz_set]; exact S, fun q hq => ?_⟩
  by_cases e : q = i
  · subst e; simp [Cell.setSlot, S, hq]
  · simp only [Cell.setSlot, if_neg e]; rw [Array.getElem?_setIfInBounds_ne (Ne.symm e)]; exact H q hq
theorem own_AJ.set {x : Int64} (A : own_AJ Z h a n fj) (W : Wr h h' a i (.long x)) : own_AJ Z h' a n (fun q => if q = i then x else fj q) := by
  obtain ⟨c, A, S, H⟩ := A
  refine ⟨_, A.same W, by rw [sz_set]; exact S, fun q hq => ?_⟩
  by_cases e : q = i
  · subst e; simp [Cell.setSlot, S, hq]
  · simp only [Cell.setSlot, if_neg e]; rw [Array.getElem?_setIfInBounds_ne (Ne.symm e)]; exact H q hq
theorem own_AI.congr {g : Nat → Int32} (A : own_AI Z h a ty n f) (q : ∀ j, j < n → f j = g j) : own_AI Z h a ty n g := by obtain ⟨c, A, S, H⟩ := A; exact ⟨c, A, S, fun j hj => by rw [← q j hj]; exact H j hj⟩
theorem own_AJ.congr {g : Nat → Int64} (A : own_AJ Z h a n fj) (q : ∀ j, j < n → fj j = g j) : own_AJ Z h a n g := by obtain ⟨c, A, S, H⟩ := A; exact ⟨c, A, S, fun j hj => by rw [← q j hj]; exact H j hj⟩
theorem own_nat {j : Int32} {i : Nat} (q : j.toInt = i) : j.toNatClampNeg = i := by show j.toInt.toNat = i; rw [q]; exact Int.toNat_natCast i
theorem own_inb {j : Int32} {i n : Nat} (q : j.toInt = i) (r : i < n) {k : Nat} (e : k = n) : ¬ (j < 0 ∨ k ≤ j.toNatClampNeg) := by
  rw [own_nat q]; rintro (u | u)
  · rw [Int32.lt_iff_toInt_lt] at u; rw [q] at u; have : (0 : Int32).toInt = 0 := rfl; omega
  · omega
theorem own_iaload (X : Stand p l e R s m args below meth c T locs cells slots) (hx : p.tables.exec = Jvm.exec) (hZ : Z.Warmed39 s.vm) (eT : T.heap = h) (pc' : Nat) (i : Nat) (A : own_AI Z h a .int n f) (hj : j.toInt = i) (hi : i < n) (hd : decode c.code pc = .ok (.iaload, 1)) (hp : pc + 1 = pc') (k : own_W p e below K T (mkF m pc' Ls (.int (f i) :: S))) : own_W p e below K T (mkF m pc Ls (.int j :: .ref a :: S)) := by
  subst hp
  obtain ⟨cl, A, Sz, H⟩ := A
  exact own_s (fun t => X.iaload hx (j := j) (by rw [eT]; exact A.1) (State.isArrayOf_alike hZ.alike A.2.1) A.2.2 (own_inb hj hi Sz) (by rw [own_nat hj]; exact H i hi) (g := mkF m pc Ls (.int j :: .ref a :: S)) rfl rfl hd t) k
theorem own_baload (X : Stand p l e R s m args below meth c T locs cells slots) (hx : p.tables.exec = Jvm.exec) (hZ : Z.Warmed39 s.vm) (eT : T.heap = h) (pc' : Nat) (i : Nat) (A : own_AI Z h a .byte n f) (hj : j.toInt = i) (hi : i < n) (hd : decode c.code pc = .ok (.baload, 1)) (hp : pc + 1 = pc') (k : own_W p e below K T (mkF m pc' Ls (.int (f i) :: S))) : own_W p e below K T (mkF m pc Ls (.int j :: .ref a :: S)) := by
  subst hp
  obtain ⟨cl, A, Sz, H⟩ := A
  exact own_s (fun t => X.baloadBytes hx (j := j) (by rw [eT]; exact A.1) (State.isArrayOf_alike hZ.alike A.2.1) A.2.2 (own_inb hj hi Sz) (by rw [own_nat hj]; exact H i hi) (g := mkF m pc Ls (.int j :: .ref a :: S)) rfl rfl hd t) k
theorem own_laload (X : Stand p l e R s m args below meth c T locs cells slots) (hx : p.tables.exec = Jvm.exec) (hZ : Z.Warmed39 s.vm) (eT : T.heap = h) (pc' : Nat) (i : Nat) (A : own_AJ Z h a n fj) (hj : j.toInt = i) (hi : i < n) (hd : decode c.code pc = .ok (.laload, 1)) (hp : pc + 1 = pc') (k : own_W p e below K T (mkF m pc' Ls (.long (fj i) :: S))) : own_W p e below K T (mkF m pc Ls (.int j :: .ref a :: S)) := by
  subst hp
  obtain ⟨cl, A, Sz, H⟩ := A
  exact own_s (fun t => X.laload hx (j := j) (by rw [eT]; exact A.1) (State.isArrayOf_alike hZ.alike A.2.1) A.2.2 (own_inb hj hi Sz) (by rw [own_nat hj]; exact H i hi) (g := mkF m pc Ls (.int j :: .ref a :: S)) rfl rfl hd t) k
theorem own_iastore (X : Stand p l e R s m args below meth c T locs cells slots) (hx : p.tables.exec = Jvm.exec) (hZ : Z.Warmed39 s.vm) (eT : T.heap = h) {x : Int32} (pc' : Nat) (i : Nat) (A : own_AI Z h a .int n f) (hj : j.toInt = i) (hi : i < n) (hd : decode c.code pc = .ok (.iastore, 1)) (hp : pc + 1 = pc')
    (k : ∀ T' h', Stand p l e R s m args below meth c T' (locs ++ [⟨a, i⟩]) cells slots → T'.heap = h' → Wr h h' a i (.int x) → own_W p e below K T' (mkF m pc' Ls S)) : own_W p e below K T (mkF m pc Ls (.int x :: .int j :: .ref a :: S)) := by
  subst hp
  obtain ⟨cl, A, Sz, H⟩ := A
  obtain ⟨T', h', X', e', W, st⟩ := stI X hx hZ eT A (j := j) (own_inb hj hi Sz) (g := mkF m pc Ls (.int x :: .int j :: .ref a :: S)) rfl rfl hd
  rw [own_nat hj] at X' W
  exact own_s st (k T' h' X' e' W)
theorem own_bastore (X : Stand p l e R s m args below meth c T locs cells slots) (hx : p.tables.exec = Jvm.exec) (hZ : Z.Warmed39 s.vm) (eT : T.heap = h) {x : Int32} (pc' : Nat) (i : Nat) (A : own_AI Z h a .byte n f) (hj : j.toInt = i) (hi : i < n) (hd : decode c.code pc = .ok (.bastore, 1)) (hp : pc + 1 = pc')
    (k : ∀ T' h', Stand p l e R s m args below meth c T' (locs ++ [⟨a, i⟩]) cells slots → T'.heap = h' → Wr h h' a i (.int x.toInt8.toInt32) → own_W p e below K T' (mkF m pc' Ls S)) : own_W p e below K T (mkF m pc Ls (.int x :: .int j :: .ref a :: S)) := by
  subst hp
  obtain ⟨cl, A, Sz, H⟩ := A
  obtain ⟨T', h', X', e', W, st⟩ := stB X hx hZ eT A (j := j) (own_inb hj hi Sz) (g := mkF m pc Ls (.int x :: .int j :: .ref a :: S)) rfl rfl hd
  rw [own_nat hj] at X' W
  exact own_s st (k T' h' X' e' W)
theorem own_lastore (X : Stand p l e R s m args below meth c T locs cells slots) (hx : p.tables.exec = Jvm.exec) (hZ : Z.Warmed39 s.vm) (eT : T.heap = h) {x : Int64} (pc' : Nat) (i : Nat) (A : own_AJ Z h a n fj) (hj : j.toInt = i) (hi : i < n) (hd : decode c.code pc = .ok (.lastore, 1)) (hp : pc + 1 = pc')
    (k : ∀ T' h', Stand p l e R s m args below meth c T' (locs ++ [⟨a, i⟩]) cells slots → T'.heap = h' → Wr h h' a i (.long x) → own_W p e below K T' (mkF m pc' Ls S)) : own_W p e below K T (mkF m pc Ls (.long x :: .int j :: .ref a :: S)) := by
  subst hp
  obtain ⟨cl, A, Sz, H⟩ := A
  obtain ⟨T', h', X', e', W, st⟩ := stJ X hx hZ eT A (j := j) (own_inb hj hi Sz) (g := mkF m pc Ls (.long x :: .int j :: .ref a :: S)) rfl rfl hd
  rw [own_nat hj] at X' W
  exact own_s st (k T' h' X' e' W)
theorem own_arraylength (X : Stand p l e R s m args below meth c T locs cells slots) (hx : p.tables.exec = Jvm.exec) (hZ : Z.Warmed39 s.vm) (eT : T.heap = h) (pc' : Nat) {z : Int32} (A : own_AI Z h a ty n f) (hz : z.toInt = n) (hd : decode c.code pc = .ok (.arraylength, 1)) (hp : pc + 1 = pc') (k : own_W p e below K T (mkF m pc' Ls (.int z :: S))) : own_W p e below K T (mkF m pc Ls (.ref a :: S)) := by
  subst hp
  obtain ⟨cl, A, Sz, H⟩ := A
  have q : cl.slots.size.toInt32 = z := len_of (by rw [Sz, own_nat hz]) (fun u => by rw [Int32.lt_iff_toInt_lt, hz] at u; have : (0 : Int32).toInt = 0 := rfl; omega)
  rw [← q] at k
  exact own_s (fun t => X.arraylength hx (by rw [eT]; exact A.1) (State.isArrayOf_alike hZ.alike A.2.1) (g := mkF m pc Ls (.ref a :: S)) rfl rfl hd t) k
theorem own_arraylengthJ (X : Stand p l e R s m args below meth c T locs cells slots) (hx : p.tables.exec = Jvm.exec) (hZ : Z.Warmed39 s.vm) (eT : T.heap = h) (pc' : Nat) {z : Int32} (A : own_AJ Z h a n fj) (hz : z.toInt = n) (hd : decode c.code pc = .ok (.arraylength, 1)) (hp : pc + 1 = pc') (k : own_W p e below K T (mkF m pc' Ls (.int z :: S))) : own_W p e below K T (mkF m pc Ls (.ref a :: S)) := by
  subst hp
  obtain ⟨cl, A, Sz, H⟩ := A
  have q : cl.slots.size.toInt32 = z := len_of (by rw [Sz, own_nat hz]) (fun u => by rw [Int32.lt_iff_toInt_lt, hz] at u; have : (0 : Int32).toInt = 0 := rfl; omega)
  rw [← q] at k
  exact own_s (fun t => X.arraylength hx (by rw [eT]; exact A.1) (State.isArrayOf_alike hZ.alike A.2.1) (g := mkF m pc Ls (.ref a :: S)) rfl rfl hd t) k
theorem own_newI (X : Stand p l e R s m args below meth c T locs cells slots) (hx : p.tables.exec = Jvm.exec) (hZ : Z.Warmed39 s.vm) (eT : T.heap = h) {aty : ArrayType} {z : Int32} {n cap : Nat} (pc' : Nat) (ty : FieldType) (hty : newarray.typeOf aty = ty) (hdef : defaultValue ty = .int 0) (w : (Jvm.Cond.arrayClass ty).before a0 Z = true) (hz : z.toInt = n) (hcap : n ≤ cap) (hb : cap * 8 ≤ 536870912) (hd : decode c.code pc = .ok (.newarray aty, 2)) (hp : pc + 2 = pc') (hc : cells + 1 ≤ R.cells) (hl : slots + cap ≤ R.slots)
    (k : ∀ T' h' a, Stand p l e R s m args below meth c T' locs (cells + 1) (slots + cap) → T'.heap = h' → a = h.size → Ext h h' → own_AI Z h' a ty n (fun _ => 0) → own_W p e below K T' (mkF m pc' Ls (.ref a :: S))) : own_W p e below K T (mkF m pc Ls (.int z :: S)) := by
  subst hp hty
  obtain ⟨T', h', cA, X', e', E, A, st⟩ := newP X hx hZ w eT (g := mkF m pc Ls (.int z :: S)) rfl hd rfl (fun u => by rw [Int32.lt_iff_toInt_lt, hz] at u; have : (0 : Int32).toInt = 0 := rfl; omega) (cap := cap) (by rw [own_nat hz]; exact hcap) hb hc hl
  refine own_s st (k T' h' _ X' e' rfl E ⟨_, A, by rw [sz_new, own_nat hz], fun j hj => ?_⟩)
  simp [newA, own_nat hz, hj, hdef]
theorem own_newJ (X : Stand p l e R s m args below meth c T locs cells slots) (hx : p.tables.exec = Jvm.exec) (hZ : Z.Warmed39 s.vm) (eT : T.heap = h) {z : Int32} {n cap : Nat} (pc' : Nat) (w : (Jvm.Cond.arrayClass .long).before a0 Z = true) (hz : z.toInt = n) (hcap : n ≤ cap) (hb : cap * 8 ≤ 536870912) (hd : decode c.code pc = .ok (.newarray .long, 2)) (hp : pc + 2 = pc') (hc : cells + 1 ≤ R.cells) (hl : slots + cap ≤ R.slots)
    (k : ∀ T' h' a, Stand p l e R s m args below meth c T' locs (cells + 1) (slots + cap) → T'.heap = h' → a = h.size → Ext h h' → own_AJ Z h' a n (fun _ => 0) → own_W p e below K T' (mkF m pc' Ls (.ref a :: S))) : own_W p e below K T (mkF m pc Ls (.int z :: S)) := by
  subst hp
  obtain ⟨T', h', cA, X', e', E, A, st⟩ := newP X hx hZ (aty := .long) w eT (g := mkF m pc Ls (.int z :: S)) rfl hd rfl (fun u => by rw [Int32.lt_iff_toInt_lt, hz] at u; have : (0 : Int32).toInt = 0 := rfl; omega) (cap := cap) (by rw [own_nat hz]; exact hcap) hb hc hl
  refine own_s st (k T' h' _ X' e' rfl E ⟨_, A, by rw [sz_new, own_nat hz], fun j hj => ?_⟩)
  simp [newA, own_nat hz, hj, newarray.typeOf, defaultValue]
end Arrs
end Heaps
end OwnLayer
theorem own_toInt (x : Int32) : x.toInt = if x.toBitVec.toNat < 2147483648 then (x.toBitVec.toNat : Int) else (x.toBitVec.toNat : Int) - 4294967296 := by
  show x.toBitVec.toInt = _
  rw [BitVec.toInt_eq_toNat_cond]; split <;> split <;> omega
theorem own_toIntL (x : Int64) : x.toInt = if x.toBitVec.toNat < 9223372036854775808 then (x.toBitVec.toNat : Int) else (x.toBitVec.toNat : Int) - 18446744073709551616 := by
  show x.toBitVec.toInt = _
  rw [BitVec.toInt_eq_toNat_cond]; split <;> split <;> omega
theorem own_ite {P Q : Prop} [Decidable P] [Decidable Q] (h : P ↔ Q) : (if P then (1 : Int32) else 0) = if Q then 1 else 0 := by
  by_cases q : Q
  · rw [if_pos q, if_pos (h.mpr q)]
  · rw [if_neg q, if_neg fun r => q (h.mp r)]
theorem own_shl (x : Int64) (q : Int32) (k : Nat) (hk : q.toBitVec.toNat % 64 = k) : (x <<< (q &&& 0x3f).toInt64).toBitVec = x.toBitVec <<< k := by
  obtain ⟨h1, h2⟩ := sm64 q k hk
  show x.toBitVec <<< ((q &&& 0x3f).toInt64.toBitVec.smod 64) = _
  rw [h1, BitVec.shiftLeft_eq', smod64 k h2]
theorem own_ushr (x : Int64) (q : Int32) (k : Nat) (hk : q.toBitVec.toNat % 64 = k) : ((x.toUInt64 >>> (q &&& 0x3f).toInt64.toUInt64).toInt64).toBitVec = x.toBitVec >>> k := by
  obtain ⟨h1, h2⟩ := sm64 q k hk
  show x.toBitVec >>> ((q &&& 0x3f).toInt64.toBitVec % 64) = _
  rw [h1, BitVec.ushiftRight_eq']
  congr 1
  simp [BitVec.toNat_umod]; omega
theorem own_natL (c : Int64) (h : 0 ≤ c.toInt) : c.toBitVec.toNat = c.toInt.toNat := by
  have := own_toIntL c
  have := c.toBitVec.isLt
  split at * <;> omega
theorem own_l2iB (c : Int64) : c.toInt32.toBitVec.toNat = c.toBitVec.toNat % 4294967296 := by
  have h1 := c_l2i c
  have h2 := own_toInt c.toInt32
  have h3 := own_toIntL c
  have h4 := c.toBitVec.isLt
  have h5 := c.toInt32.toBitVec.isLt
  split at h2 <;> split at h3 <;> omega
def own_pick (q0 : Int64) : Int64 := ((q0 &&& (9223372036854775807 : Int64)) % (192 : Int64))
def own_ix (c : Int64) : Nat := c.toInt.toNat / 64
def own_mask (c : Int64) : Int64 := (1 : Int64) <<< (c.toInt32 &&& 0x3f).toInt64
def own_get (f : Nat → Int64) (c : Int64) : Int32 := if f (own_ix c) &&& own_mask c = 0 then 0 else 1
def own_set (f : Nat → Int64) (c : Int64) : Nat → Int64 := fun q => if q = own_ix c then f (own_ix c) ||| own_mask c else f q
def own_clr (f : Nat → Int64) (c : Int64) : Nat → Int64 := fun q => if q = own_ix c then f (own_ix c) &&& (own_mask c ^^^ -1) else f q
def own_sets (f : Nat → Int64) (b : Int32) (c : Int64) : Nat → Int64 := if b = 0 then f else own_set f c
def own_ew (b1 b2 b3 : Int32) (ca cb cc : Int64) : Int32 := if ¬ b3 = 0 ∨ (¬ b1 = 0 ∧ ca = cc) ∨ (¬ b2 = 0 ∧ cb = cc) then 1 else 0
def own_xa (b1 b2 : Int32) (ca cb cc : Int64) : Int32 := if (¬ b1 = 0 ∨ (¬ b2 = 0 ∧ cb = ca)) ∧ ¬ ca = cc then 1 else 0
theorem own_ixj (c : Int64) (h : 0 ≤ c.toInt ∧ c.toInt < 192) : ((c.toUInt64 >>> ((6 : Int32) &&& 0x3f).toInt64.toUInt64).toInt64).toInt32.toInt = (own_ix c : Int) := by
  have h1 := c_lushr c 6 6 rfl (by decide)
  generalize (c.toUInt64 >>> ((6 : Int32) &&& 0x3f).toInt64.toUInt64).toInt64 = d at *
  have h2 := c_l2i d
  have h3 := rng32 d.toInt32
  unfold own_ix
  omega
theorem own_ixl (c : Int64) (h : 0 ≤ c.toInt ∧ c.toInt < 192) : own_ix c < 3 := by unfold own_ix; omega
theorem own_maskB (c : Int64) (h : 0 ≤ c.toInt) : (own_mask c).toBitVec = 1#64 <<< (c.toInt.toNat % 64) := by
  unfold own_mask
  rw [own_shl _ _ (c.toInt.toNat % 64) (by rw [own_l2iB, own_natL c h]; omega)]
  rfl
theorem own_tst (x c : Int64) (h : 0 ≤ c.toInt) : (x &&& own_mask c = 0) ↔ x.toBitVec.getLsbD (c.toInt.toNat % 64) = false := by
  rw [← Int64.toBitVec_inj]
  show x.toBitVec &&& (own_mask c).toBitVec = 0#64 ↔ _
  rw [own_maskB c h]
  have hk : c.toInt.toNat % 64 < 64 := Nat.mod_lt _ (by decide)
  generalize c.toInt.toNat % 64 = k at *
  constructor
  · intro q
    have r := congrArg (fun z => z.getLsbD k) q
    simp [BitVec.getLsbD_shiftLeft, hk] at r
    exact r
  · intro q
    ext i hi
    by_cases e : i = k
    · subst e; simp [BitVec.getElem_eq_testBit_toNat] at *; simp_all [BitVec.getLsbD]
    · simp [BitVec.getElem_shiftLeft, hi]
      intro _
      omega
theorem own_getB (f : Nat → Int64) (c : Int64) (h : 0 ≤ c.toInt) : own_get f c = if (f (own_ix c)).toBitVec.getLsbD (c.toInt.toNat % 64) = true then 1 else 0 := by
  unfold own_get
  by_cases q : f (own_ix c) &&& own_mask c = 0
  · rw [if_pos q, if_neg]; rw [(own_tst _ c h).mp q]; decide
  · rw [if_neg q, if_pos]; by_cases r : (f (own_ix c)).toBitVec.getLsbD (c.toInt.toNat % 64) = true
    · exact r
    · exact absurd ((own_tst _ c h).mpr (by simpa using r)) q
theorem own_same (c d : Int64) (hc : 0 ≤ c.toInt) (hd : 0 ≤ d.toInt) (h1 : own_ix c = own_ix d) (h2 : c.toInt.toNat % 64 = d.toInt.toNat % 64) : c = d := by
  unfold own_ix at h1
  rw [← Int64.toInt_inj]; omega
theorem own_maskK (c : Int64) (h : 0 ≤ c.toInt) (k : Nat) (hk : k < 64) : (own_mask c).toBitVec.getLsbD k = decide (k = c.toInt.toNat % 64) := by
  rw [own_maskB c h, BitVec.getLsbD_shiftLeft, BitVec.getLsbD_one]
  have h1 : c.toInt.toNat % 64 < 64 := Nat.mod_lt _ (by decide)
  generalize c.toInt.toNat % 64 = m at *
  by_cases q : k = m
  · subst q; simp [hk]
  · have : k < m ∨ ¬ k - m = 0 := by omega
    rcases this with r | r <;> simp [q, r]
theorem own_get_set (f : Nat → Int64) (c d : Int64) (hc : 0 ≤ c.toInt) (hd : 0 ≤ d.toInt) : own_get (own_set f c) d = if d = c then 1 else own_get f d := by
  rw [own_getB _ d hd, own_getB _ d hd]
  unfold own_set
  have hk : d.toInt.toNat % 64 < 64 := Nat.mod_lt _ (by decide)
  have hm := own_maskK c hc _ hk
  by_cases e : d = c
  · subst e
    rw [if_pos rfl, if_pos rfl, if_pos]
    show ((f (own_ix d)).toBitVec ||| (own_mask d).toBitVec).getLsbD _ = true
    rw [BitVec.getLsbD_or, hm, decide_eq_true rfl, Bool.or_true]
  · rw [if_neg e]
    by_cases i : own_ix d = own_ix c
    · rw [if_pos i]
      have hq : ¬ d.toInt.toNat % 64 = c.toInt.toNat % 64 := fun q => e (own_same d c hd hc i q)
      have : ((f (own_ix c)) ||| own_mask c).toBitVec.getLsbD (d.toInt.toNat % 64) = (f (own_ix d)).toBitVec.getLsbD (d.toInt.toNat % 64) := by
        show ((f (own_ix c)).toBitVec ||| (own_mask c).toBitVec).getLsbD _ = _
        rw [BitVec.getLsbD_or, hm, decide_eq_false hq, Bool.or_false, i]
      rw [this]
    · rw [if_neg i]
theorem own_get_clr (f : Nat → Int64) (c d : Int64) (hc : 0 ≤ c.toInt) (hd : 0 ≤ d.toInt) : own_get (own_clr f c) d = if d = c then 0 else own_get f d := by
  rw [own_getB _ d hd, own_getB _ d hd]
  unfold own_clr
  have hk : d.toInt.toNat % 64 < 64 := Nat.mod_lt _ (by decide)
  have hm : (own_mask c ^^^ (-1 : Int64)).toBitVec.getLsbD (d.toInt.toNat % 64) = !decide (d.toInt.toNat % 64 = c.toInt.toNat % 64) := by
    show ((own_mask c).toBitVec ^^^ BitVec.allOnes 64).getLsbD _ = _
    rw [BitVec.getLsbD_xor, BitVec.getLsbD_allOnes, own_maskK c hc _ hk, decide_eq_true hk, Bool.xor_true]
  by_cases e : d = c
  · subst e
    rw [if_pos rfl, if_pos rfl, if_neg]
    show ¬ ((f (own_ix d)).toBitVec &&& (own_mask d ^^^ (-1 : Int64)).toBitVec).getLsbD _ = true
    rw [BitVec.getLsbD_and, hm, decide_eq_true rfl, Bool.not_true, Bool.and_false]; decide
  · rw [if_neg e]
    by_cases i : own_ix d = own_ix c
    · rw [if_pos i]
      have hq : ¬ d.toInt.toNat % 64 = c.toInt.toNat % 64 := fun q => e (own_same d c hd hc i q)
      have : ((f (own_ix c)) &&& (own_mask c ^^^ -1)).toBitVec.getLsbD (d.toInt.toNat % 64) = (f (own_ix d)).toBitVec.getLsbD (d.toInt.toNat % 64) := by
        show ((f (own_ix c)).toBitVec &&& (own_mask c ^^^ (-1 : Int64)).toBitVec).getLsbD _ = _
        rw [BitVec.getLsbD_and, hm, decide_eq_false hq, Bool.not_false, Bool.and_true, i]
      rw [this]
    · rw [if_neg i]
theorem own_get0 (c : Int64) : own_get (fun _ => 0) c = 0 := by
  unfold own_get; rw [if_pos]
  rw [← Int64.toBitVec_inj]
  show (0#64) &&& _ = 0#64
  simp
theorem own_get_sets (f : Nat → Int64) (b : Int32) (c d : Int64) (hc : 0 ≤ c.toInt) (hd : 0 ≤ d.toInt) : own_get (own_sets f b c) d = if ¬ b = 0 ∧ d = c then 1 else own_get f d := by
  unfold own_sets
  by_cases q : b = 0
  · simp [q]
  · simp [q, own_get_set f c d hc hd]
theorem own_rg (x c : Int64) (h : c = own_pick x) : 0 ≤ c.toInt ∧ c.toInt < 192 := by
  have h1 := c_maskL x 9223372036854775807 63 (by decide) rfl
  have h2 := c_lrem (x &&& 9223372036854775807) 192 192 rfl
  rw [lrem_mod] at h2
  rw [h]; unfold own_pick; omega
section Fin
variable (b1 b2 b3 : Int32) (ca cb cc : Int64) (g1 g2 g3 : Nat → Int64) (ha : 0 ≤ ca.toInt ∧ ca.toInt < 192) (hb : 0 ≤ cb.toInt ∧ cb.toInt < 192) (hc : 0 ≤ cc.toInt ∧ cc.toInt < 192) (e1 : g1 = own_sets (fun _ => 0) b1 ca) (e2 : g2 = own_sets g1 b2 cb) (e3 : g3 = own_sets g2 b3 cc)
theorem own_g3 (d : Int64) (hd : 0 ≤ d.toInt) (ha : 0 ≤ ca.toInt ∧ ca.toInt < 192) (hb : 0 ≤ cb.toInt ∧ cb.toInt < 192) (hc : 0 ≤ cc.toInt ∧ cc.toInt < 192) (e1 : g1 = own_sets (fun _ => 0) b1 ca) (e2 : g2 = own_sets g1 b2 cb) (e3 : g3 = own_sets g2 b3 cc) : own_get g3 d = if (¬ b3 = 0 ∧ d = cc) ∨ (¬ b2 = 0 ∧ d = cb) ∨ (¬ b1 = 0 ∧ d = ca) then 1 else 0 := by
  rw [e3, own_get_sets _ _ _ _ hc.1 hd, e2, own_get_sets _ _ _ _ hb.1 hd, e1, own_get_sets _ _ _ _ ha.1 hd, own_get0]
  by_cases q1 : (¬ b3 = 0 ∧ d = cc)
  · simp [q1]
  · by_cases q2 : (¬ b2 = 0 ∧ d = cb)
    · rw [if_neg q1, if_pos q2, if_pos (Or.inr (Or.inl q2))]
    · by_cases q3 : (¬ b1 = 0 ∧ d = ca)
      · rw [if_neg q1, if_neg q2, if_pos q3, if_pos (Or.inr (Or.inr q3))]
      · rw [if_neg q1, if_neg q2, if_neg q3, if_neg]; rintro (r | r | r) <;> contradiction
theorem own_p1 (ha : 0 ≤ ca.toInt ∧ ca.toInt < 192) (hb : 0 ≤ cb.toInt ∧ cb.toInt < 192) (hc : 0 ≤ cc.toInt ∧ cc.toInt < 192) (e1 : g1 = own_sets (fun _ => 0) b1 ca) (e2 : g2 = own_sets g1 b2 cb) (e3 : g3 = own_sets g2 b3 cc) : own_get g3 cc = own_ew b1 b2 b3 ca cb cc := by
  rw [own_g3 b1 b2 b3 ca cb cc g1 g2 g3 cc hc.1 ha hb hc e1 e2 e3]
  unfold own_ew
  apply own_ite
  constructor
  · rintro (r | r | r)
    · exact Or.inl r.1
    · exact Or.inr (Or.inr ⟨r.1, r.2.symm⟩)
    · exact Or.inr (Or.inl ⟨r.1, r.2.symm⟩)
  · rintro (r | r | r)
    · exact Or.inl ⟨r, rfl⟩
    · exact Or.inr (Or.inr ⟨r.1, r.2.symm⟩)
    · exact Or.inr (Or.inl ⟨r.1, r.2.symm⟩)
theorem own_p2 (f : Nat → Int64) (c : Int64) (hc : 0 ≤ c.toInt ∧ c.toInt < 192) : own_get (own_clr f c) c = 0 := by rw [own_get_clr _ _ _ hc.1 hc.1, if_pos rfl]
theorem own_p3 (ha : 0 ≤ ca.toInt ∧ ca.toInt < 192) (hb : 0 ≤ cb.toInt ∧ cb.toInt < 192) (hc : 0 ≤ cc.toInt ∧ cc.toInt < 192) (e1 : g1 = own_sets (fun _ => 0) b1 ca) (e2 : g2 = own_sets g1 b2 cb) (e3 : g3 = own_sets g2 b3 cc) : own_get (own_clr g3 cc) ca = own_xa b1 b2 ca cb cc := by
  rw [own_get_clr _ _ _ hc.1 ha.1, own_g3 b1 b2 b3 ca cb cc g1 g2 g3 ca ha.1 ha hb hc e1 e2 e3]
  unfold own_xa
  by_cases q : ca = cc
  · rw [if_pos q, if_neg]; intro r; exact r.2 q
  · rw [if_neg q]
    apply own_ite
    constructor
    · rintro (r | r | r)
      · exact absurd r.2 q
      · exact ⟨Or.inr ⟨r.1, r.2.symm⟩, q⟩
      · exact ⟨Or.inl r.1, q⟩
    · rintro ⟨r | r, -⟩
      · exact Or.inr (Or.inr ⟨r, rfl⟩)
      · exact Or.inr (Or.inl ⟨r.1, r.2.symm⟩)
theorem own_p4 (ha : 0 ≤ ca.toInt ∧ ca.toInt < 192) (hb : 0 ≤ cb.toInt ∧ cb.toInt < 192) (hc : 0 ≤ cc.toInt ∧ cc.toInt < 192) (e1 : g1 = own_sets (fun _ => 0) b1 ca) (e2 : g2 = own_sets g1 b2 cb) (e3 : g3 = own_sets g2 b3 cc) : own_get (own_clr g3 cc) cb = own_xa b2 b1 cb ca cc := by
  rw [own_get_clr _ _ _ hc.1 hb.1, own_g3 b1 b2 b3 ca cb cc g1 g2 g3 cb hb.1 ha hb hc e1 e2 e3]
  unfold own_xa
  by_cases q : cb = cc
  · rw [if_pos q, if_neg]; intro r; exact r.2 q
  · rw [if_neg q]
    apply own_ite
    constructor
    · rintro (r | r | r)
      · exact absurd r.2 q
      · exact ⟨Or.inl r.1, q⟩
      · exact ⟨Or.inr ⟨r.1, r.2.symm⟩, q⟩
    · rintro ⟨r | r, -⟩
      · exact Or.inr (Or.inl ⟨r, rfl⟩)
      · exact Or.inr (Or.inr ⟨r.1, r.2.symm⟩)
end Fin
theorem d1_0 : decode method_2_code 0 = .ok (.lload_n 0, 1) := by decide +kernel
theorem d1_1 : decode method_2_code 1 = .ok (.ldc2_w 9, 3) := by decide +kernel
theorem d1_4 : decode method_2_code 4 = .ok (.land, 1) := by decide +kernel
theorem d1_5 : decode method_2_code 5 = .ok (.ldc2_w 11, 3) := by decide +kernel
theorem d1_8 : decode method_2_code 8 = .ok (.lrem, 1) := by decide +kernel
theorem d1_9 : decode method_2_code 9 = .ok (.lreturn, 1) := by decide +kernel
set_option maxRecDepth 65536 in
set_option maxHeartbeats 40000000 in
theorem rm1 (l : Launch) (Z : State) (a0 : Array Value) (hw : ∀ d ∈ tables_1, d.before a0 Z = true) (q0 : Int64) (h0 : Heap) (n0 : Nat) (Z0 : n0 ≤ h0.size)  :
    own_C l Z (⟨"com/example/urd/urd/PartitionedBitsClearPinLaw", "pick", "(J)J"⟩ : MethodName) method_2_code 2 (some .long) [] ({ frames := 0, cells := 0, slots := 0, locals := 0 } : Room) #[(.long q0)] h0 (fun v h L => v = some (.long (own_pick q0)) ∧ Fr n0 L ∧ h = h0) := by
  refine own_body (by first | (simp [plainName, overriddenIn]; done) | decide +kernel) ?_
  intro p e s m below meth c T0 hx hby hml hown hnm hret hlk hZ X0 e0
  have N0 := Fr.nil n0
  refine own_eq (f' := (mkF m 0 #[.val (.long q0), .second] [])) (by first | (simp [entryFrame, mkF, argsToLocals, Value.category]; done) | rfl) ?_
  refine own_lloadN X0 hx 1 (hb hby d1_0) rfl rfl ?_
  refine own_ldc2 X0 hx hZ hown 4 (hw _ (List.mem_of_getElem? (i := 4) rfl)) (hb hby d1_1) rfl ?_
  refine own_land X0 hx 5 (hb hby d1_4) rfl ?_
  refine own_ldc2 X0 hx hZ hown 8 (hw _ (List.mem_of_getElem? (i := 5) rfl)) (hb hby d1_5) rfl ?_
  refine own_lrem X0 hx 9 (by decide) (hb hby d1_8) rfl ?_
  exact own_retJ X0 hx hret hlk (hb hby d1_9) (by decide) (by decide) ⟨by unfold own_pick; skip; rfl, N0, e0⟩
theorem d2_0 : decode prog_28_method_1_code 0 = .ok (.aload_n 0, 1) := by decide +kernel
theorem d2_1 : decode prog_28_method_1_code 1 = .ok (.invokespecial 1, 3) := by decide +kernel
theorem d2_4 : decode prog_28_method_1_code 4 = .ok (.aload_n 0, 1) := by decide +kernel
theorem d2_5 : decode prog_28_method_1_code 5 = .ok (.lload_n 2, 1) := by decide +kernel
theorem d2_6 : decode prog_28_method_1_code 6 = .ok (.putfield 7, 3) := by decide +kernel
theorem d2_9 : decode prog_28_method_1_code 9 = .ok (.aload_n 0, 1) := by decide +kernel
theorem d2_10 : decode prog_28_method_1_code 10 = .ok (.iload_n 1, 1) := by decide +kernel
theorem d2_11 : decode prog_28_method_1_code 11 = .ok (.i2l, 1) := by decide +kernel
theorem d2_12 : decode prog_28_method_1_code 12 = .ok (.lload_n 2, 1) := by decide +kernel
theorem d2_13 : decode prog_28_method_1_code 13 = .ok (.lmul, 1) := by decide +kernel
theorem d2_14 : decode prog_28_method_1_code 14 = .ok (.ldc2_w 15, 3) := by decide +kernel
theorem d2_17 : decode prog_28_method_1_code 17 = .ok (.ladd, 1) := by decide +kernel
theorem d2_18 : decode prog_28_method_1_code 18 = .ok (.lconst 1, 1) := by decide +kernel
theorem d2_19 : decode prog_28_method_1_code 19 = .ok (.lsub, 1) := by decide +kernel
theorem d2_20 : decode prog_28_method_1_code 20 = .ok (.ldc2_w 15, 3) := by decide +kernel
theorem d2_23 : decode prog_28_method_1_code 23 = .ok (.ldiv, 1) := by decide +kernel
theorem d2_24 : decode prog_28_method_1_code 24 = .ok (.l2i, 1) := by decide +kernel
theorem d2_25 : decode prog_28_method_1_code 25 = .ok (.newarray .long, 2) := by decide +kernel
theorem d2_27 : decode prog_28_method_1_code 27 = .ok (.putfield 17, 3) := by decide +kernel
theorem d2_30 : decode prog_28_method_1_code 30 = .ok (.return_, 1) := by decide +kernel
set_option maxRecDepth 65536 in
set_option maxHeartbeats 40000000 in
theorem rm2 (l : Launch) (Z : State) (a0 : Array Value) (hw : ∀ d ∈ tables_1, d.before a0 Z = true) (a : Addr) (h0 : Heap) (n0 : Nat) (Z0 : n0 ≤ h0.size) (ga : n0 ≤ a) (E_a : Exa Z h0 a "com/example/urd/urd/PartitionedBits") (F_cellsPerArray : Fld Z h0 a "com/example/urd/urd/PartitionedBits" "cellsPerArray" "J" (.long (0 : Int64))) (F_words : Fld Z h0 a "com/example/urd/urd/PartitionedBits" "words" "[J" .null) :
    own_C l Z (⟨"com/example/urd/urd/PartitionedBits", "<init>", "(IJ)V"⟩ : MethodName) prog_28_method_1_code 4 none [] ({ frames := 1, cells := 1, slots := 3, locals := 12 } : Room) #[(.ref a), (.int (1 : Int32)), (.long (192 : Int64))] h0 (fun v h L => ∃ t, v = none ∧ Fr n0 L ∧ Keep h0 h [a] ∧ n0 ≤ t ∧ a ≠ t ∧ Fld Z h a "com/example/urd/urd/PartitionedBits" "words" "[J" (.ref t) ∧ own_AJ Z h t 3 (fun _ => 0)) := by
  refine own_body (by first | (simp [plainName, overriddenIn]; done) | decide +kernel) ?_
  intro p e s m below meth c T0 hx hby hml hown hnm hret hlk hZ X0 e0
  have N0 := Fr.nil n0
  refine own_eq (f' := (mkF m 0 #[.val (.ref a), .val (.int (1 : Int32)), .val (.long (192 : Int64)), .second] [])) (by first | (simp [entryFrame, mkF, argsToLocals, Value.category]; done) | rfl) ?_
  refine own_aloadN X0 hx 1 (hb hby d2_0) rfl rfl ?_
  refine own_initO X0 hx hZ hown e0 (W := 0) 4 (hw _ (List.mem_of_getElem? (i := 12) rfl)) (hw _ (List.mem_of_getElem? (i := 13) rfl)) (hw _ (List.mem_of_getElem? (i := 14) rfl)) (by rw [hml]; rfl) (hb hby d2_1) rfl (by decide) rfl (by decide) (fun T1 X2 e3 => ?_)
  refine own_aloadN X2 hx 5 (hb hby d2_4) rfl rfl ?_
  refine own_lloadN X2 hx 6 (hb hby d2_5) rfl rfl ?_
  refine own_putF X2 hx hZ hown e3 9 (hw _ (List.mem_of_getElem? (i := 15) rfl)) F_cellsPerArray E_a (Or.inr ⟨(hw _ (List.mem_of_getElem? (i := 16) rfl)), rfl, hnm⟩) (hw _ (List.mem_of_getElem? (i := 7) rfl)) (ty := .long) (by decide) rfl rfl (hb hby d2_6) rfl (fun T4 h5 X6 e7 W8 => ?_)
  have f9 := E_a.wr W8
  have f10 := F_cellsPerArray.same W8
  have f11 := F_words.other W8 (Or.inr (slot_ne (Or.inr (hw _ (List.mem_of_getElem? (i := 20) rfl))) (Or.inr (hw _ (List.mem_of_getElem? (i := 16) rfl))) (by decide) (t := (.array .long)) (t' := .long) (by decide) (by decide)))
  have Z12 : n0 ≤ h5.size := Nat.le_trans Z0 (Keep.of_wr W8).1
  have K13 := (Keep.refl h0 [a]).wr W8 (Or.inl (List.mem_of_getElem? (i := 0) rfl))
  have N14 := Fr.snoc X6 N0 ga
  refine own_aloadN X6 hx 10 (hb hby d2_9) rfl rfl ?_
  refine own_iloadN X6 hx 11 (hb hby d2_10) rfl rfl ?_
  refine own_i2lz X6 hx 12 (z := (1 : Int64)) (by decide) (hb hby d2_11) rfl ?_
  refine own_lloadN X6 hx 13 (hb hby d2_12) rfl rfl ?_
  refine own_lmulz X6 hx 14 (z := (192 : Int64)) (by decide) (hb hby d2_13) rfl ?_
  refine own_ldc2 X6 hx hZ hown 17 (hw _ (List.mem_of_getElem? (i := 17) rfl)) (hb hby d2_14) rfl ?_
  refine own_laddz X6 hx 18 (z := (256 : Int64)) (by decide) (hb hby d2_17) rfl ?_
  refine own_lconst X6 hx 19 (1 : Int64) (by decide) (hb hby d2_18) rfl ?_
  refine own_lsubz X6 hx 20 (z := (255 : Int64)) (by decide) (hb hby d2_19) rfl ?_
  refine own_ldc2 X6 hx hZ hown 23 (hw _ (List.mem_of_getElem? (i := 17) rfl)) (hb hby d2_20) rfl ?_
  refine own_ldiv X6 hx 24 (by decide) (hb hby d2_23) rfl ?_
  refine own_l2i X6 hx 25 (hb hby d2_24) rfl ?_
  refine own_newJ X6 hx hZ e7 (n := 3) (cap := 3) 27 (hw _ (List.mem_of_getElem? (i := 18) rfl)) (by decide) (by decide) (by decide) (hb hby d2_25) rfl (by decide) (by decide) (fun T15 h16 a17 X18 e19 g20 E21 A22 => ?_)
  have ne23 : a ≠ a17 := fun q => absurd (f9.lt) (by rw [q, g20]; exact Nat.lt_irrefl _)
  have ga24 : n0 ≤ a17 := by rw [g20]; exact Z12
  have bo25 : h0.size ≤ a17 := by rw [g20]; exact K13.1
  have f26 := f9.ext E21
  have f27 := f10.ext E21
  have f28 := f11.ext E21
  have Z29 : n0 ≤ h16.size := Nat.le_trans Z12 E21.1
  have K30 := K13.ext E21
  refine own_putF X18 hx hZ hown e19 30 (hw _ (List.mem_of_getElem? (i := 19) rfl)) f28 f26 (Or.inr ⟨(hw _ (List.mem_of_getElem? (i := 20) rfl)), rfl, hnm⟩) (hw _ (List.mem_of_getElem? (i := 7) rfl)) (ty := (.array .long)) (by decide) rfl rfl (hb hby d2_27) rfl (fun T31 h32 X33 e34 W35 => ?_)
  have f36 := f26.wr W35
  have f37 := f27.other W35 (Or.inr (slot_ne (Or.inr (hw _ (List.mem_of_getElem? (i := 16) rfl))) (Or.inr (hw _ (List.mem_of_getElem? (i := 20) rfl))) (by decide) (t := .long) (t' := (.array .long)) (by decide) (by decide)))
  have f38 := f28.same W35
  have f39 := A22.other W35 (Ne.symm ne23)
  have Z40 : n0 ≤ h32.size := Nat.le_trans Z29 (Keep.of_wr W35).1
  have K41 := K30.wr W35 (Or.inl (List.mem_of_getElem? (i := 0) rfl))
  have N42 := Fr.snoc X33 N14 ga
  exact own_retV X33 hx hret hlk (hb hby d2_30) (by decide) (by decide) ⟨a17, rfl, N42, by rw [e34]; exact ⟨K41, ga24, ne23, f38, f39⟩⟩
theorem d4_0 : decode prog_28_method_5_code 0 = .ok (.lload_n 1, 1) := by decide +kernel
theorem d4_1 : decode prog_28_method_5_code 1 = .ok (.bipush 6, 2) := by decide +kernel
theorem d4_3 : decode prog_28_method_5_code 3 = .ok (.lushr, 1) := by decide +kernel
theorem d4_4 : decode prog_28_method_5_code 4 = .ok (.l2i, 1) := by decide +kernel
theorem d4_5 : decode prog_28_method_5_code 5 = .ok (.istore_n 3, 1) := by decide +kernel
theorem d4_6 : decode prog_28_method_5_code 6 = .ok (.lconst 1, 1) := by decide +kernel
theorem d4_7 : decode prog_28_method_5_code 7 = .ok (.lload_n 1, 1) := by decide +kernel
theorem d4_8 : decode prog_28_method_5_code 8 = .ok (.l2i, 1) := by decide +kernel
theorem d4_9 : decode prog_28_method_5_code 9 = .ok (.lshl, 1) := by decide +kernel
theorem d4_10 : decode prog_28_method_5_code 10 = .ok (.lstore 4, 2) := by decide +kernel
theorem d4_12 : decode prog_28_method_5_code 12 = .ok (.aload_n 0, 1) := by decide +kernel
theorem d4_13 : decode prog_28_method_5_code 13 = .ok (.getfield 17, 3) := by decide +kernel
theorem d4_16 : decode prog_28_method_5_code 16 = .ok (.iload_n 3, 1) := by decide +kernel
theorem d4_17 : decode prog_28_method_5_code 17 = .ok (.laload, 1) := by decide +kernel
theorem d4_18 : decode prog_28_method_5_code 18 = .ok (.lload 4, 2) := by decide +kernel
theorem d4_20 : decode prog_28_method_5_code 20 = .ok (.land, 1) := by decide +kernel
theorem d4_21 : decode prog_28_method_5_code 21 = .ok (.lconst 0, 1) := by decide +kernel
theorem d4_22 : decode prog_28_method_5_code 22 = .ok (.lcmp, 1) := by decide +kernel
theorem d4_23 : decode prog_28_method_5_code 23 = .ok (.ifCond .ne 7, 3) := by decide +kernel
theorem d4_26 : decode prog_28_method_5_code 26 = .ok (.iconst 1, 1) := by decide +kernel
theorem d4_27 : decode prog_28_method_5_code 27 = .ok (.goto 4, 3) := by decide +kernel
theorem d4_30 : decode prog_28_method_5_code 30 = .ok (.iconst 0, 1) := by decide +kernel
theorem d4_31 : decode prog_28_method_5_code 31 = .ok (.istore 6, 2) := by decide +kernel
theorem d4_33 : decode prog_28_method_5_code 33 = .ok (.aload_n 0, 1) := by decide +kernel
theorem d4_34 : decode prog_28_method_5_code 34 = .ok (.getfield 17, 3) := by decide +kernel
theorem d4_37 : decode prog_28_method_5_code 37 = .ok (.iload_n 3, 1) := by decide +kernel
theorem d4_38 : decode prog_28_method_5_code 38 = .ok (.dup2, 1) := by decide +kernel
theorem d4_39 : decode prog_28_method_5_code 39 = .ok (.laload, 1) := by decide +kernel
theorem d4_40 : decode prog_28_method_5_code 40 = .ok (.lload 4, 2) := by decide +kernel
theorem d4_42 : decode prog_28_method_5_code 42 = .ok (.lor, 1) := by decide +kernel
theorem d4_43 : decode prog_28_method_5_code 43 = .ok (.lastore, 1) := by decide +kernel
theorem d4_44 : decode prog_28_method_5_code 44 = .ok (.iload 6, 2) := by decide +kernel
theorem d4_46 : decode prog_28_method_5_code 46 = .ok (.ireturn, 1) := by decide +kernel
set_option maxRecDepth 65536 in
set_option maxHeartbeats 40000000 in
theorem rm4 (l : Launch) (Z : State) (a0 : Array Value) (hw : ∀ d ∈ tables_1, d.before a0 Z = true) (a t : Addr) (q1 : Int64) (f : Nat → Int64) (h0 : Heap) (n0 : Nat) (Z0 : n0 ≤ h0.size) (hc : 0 ≤ q1.toInt ∧ q1.toInt < 192) (na : a ≠ t) (gt : n0 ≤ t) (F_words : Fld Z h0 a "com/example/urd/urd/PartitionedBits" "words" "[J" (.ref t)) (A_t : own_AJ Z h0 t 3 f) :
    own_C l Z (⟨"com/example/urd/urd/PartitionedBits", "set", "(J)Z"⟩ : MethodName) prog_28_method_5_code 7 (some .boolean) [] ({ frames := 0, cells := 0, slots := 0, locals := 0 } : Room) #[(.ref a), (.long q1)] h0 (fun v h L => ∃ r, v = some (.int r) ∧ Fr n0 L ∧ Keep h0 h [t] ∧ Fld Z h a "com/example/urd/urd/PartitionedBits" "words" "[J" (.ref t) ∧ own_AJ Z h t 3 (own_set f q1)) := by
  refine own_body (by first | (simp [plainName, overriddenIn]; done) | decide +kernel) ?_
  intro p e s m below meth c T0 hx hby hml hown hnm hret hlk hZ X0 e0
  have N0 := Fr.nil n0
  refine own_eq (f' := (mkF m 0 #[.val (.ref a), .val (.long q1), .second, .unset, .unset, .unset, .unset] [])) (by first | (simp [entryFrame, mkF, argsToLocals, Value.category]; done) | rfl) ?_
  refine own_lloadN X0 hx 1 (hb hby d4_0) rfl rfl ?_
  refine own_bipush X0 hx 3 (6 : Int32) (by decide) (hb hby d4_1) rfl ?_
  refine own_lushr X0 hx 4 (hb hby d4_3) rfl ?_
  refine own_l2i X0 hx 5 (hb hby d4_4) rfl ?_
  refine own_istoreN X0 hx 6 #[.val (.ref a), .val (.long q1), .second, .val (.int (((q1.toUInt64 >>> ((6 : Int32) &&& 0x3f).toInt64.toUInt64).toInt64).toInt32)), .unset, .unset, .unset] rfl (hb hby d4_5) rfl rfl ?_
  refine own_lconst X0 hx 7 (1 : Int64) (by decide) (hb hby d4_6) rfl ?_
  refine own_lloadN X0 hx 8 (hb hby d4_7) rfl rfl ?_
  refine own_l2i X0 hx 9 (hb hby d4_8) rfl ?_
  refine own_lshl X0 hx 10 (hb hby d4_9) rfl ?_
  refine own_lstore X0 hx 12 #[.val (.ref a), .val (.long q1), .second, .val (.int (((q1.toUInt64 >>> ((6 : Int32) &&& 0x3f).toInt64.toUInt64).toInt64).toInt32)), .val (.long ((1 : Int64) <<< ((q1.toInt32) &&& 0x3f).toInt64)), .second, .unset] rfl (hb hby d4_10) rfl rfl ?_
  refine own_aloadN X0 hx 13 (hb hby d4_12) rfl rfl ?_
  refine own_getF X0 hx hZ hown e0 16 (hw _ (List.mem_of_getElem? (i := 19) rfl)) F_words (hb hby d4_13) rfl (fun T1 X2 e3 => ?_)
  refine own_iloadN X2 hx 17 (hb hby d4_16) rfl rfl ?_
  refine own_laload X2 hx hZ e3 18 (own_ix q1) A_t (own_ixj q1 hc) (own_ixl q1 hc) (hb hby d4_17) rfl ?_
  refine own_lload X2 hx 20 (hb hby d4_18) rfl rfl ?_
  refine own_land X2 hx 21 (hb hby d4_20) rfl ?_
  refine own_lconst X2 hx 22 (0 : Int64) (by decide) (hb hby d4_21) rfl ?_
  refine own_lif_ne X2 hx 23 30 26 (hb hby d4_22) rfl (hb hby d4_23) (by decide) (by decide) rfl (fun h4 => ?_) (fun h4 => ?_)
  · show own_W p e below _ T1 (mkF m 30 #[.val (.ref a), .val (.long q1), .second, .val (.int (((q1.toUInt64 >>> ((6 : Int32) &&& 0x3f).toInt64.toUInt64).toInt64).toInt32)), .val (.long ((1 : Int64) <<< ((q1.toInt32) &&& 0x3f).toInt64)), .second, .unset] [])
    refine own_iconst X2 hx 31 (0 : Int32) (by decide) (hb hby d4_30) rfl ?_
    refine own_istore X2 hx 33 #[.val (.ref a), .val (.long q1), .second, .val (.int (((q1.toUInt64 >>> ((6 : Int32) &&& 0x3f).toInt64.toUInt64).toInt64).toInt32)), .val (.long ((1 : Int64) <<< ((q1.toInt32) &&& 0x3f).toInt64)), .second, .val (.int (0 : Int32))] rfl (hb hby d4_31) rfl rfl ?_
    refine own_aloadN X2 hx 34 (hb hby d4_33) rfl rfl ?_
    refine own_getF X2 hx hZ hown e3 37 (hw _ (List.mem_of_getElem? (i := 19) rfl)) F_words (hb hby d4_34) rfl (fun T5 X6 e7 => ?_)
    refine own_iloadN X6 hx 38 (hb hby d4_37) rfl rfl ?_
    refine own_dup2 X6 hx 39 rfl rfl (hb hby d4_38) rfl ?_
    refine own_laload X6 hx hZ e7 40 (own_ix q1) A_t (own_ixj q1 hc) (own_ixl q1 hc) (hb hby d4_39) rfl ?_
    refine own_lload X6 hx 42 (hb hby d4_40) rfl rfl ?_
    refine own_lor X6 hx 43 (hb hby d4_42) rfl ?_
    refine own_lastore X6 hx hZ e7 44 (own_ix q1) A_t (own_ixj q1 hc) (own_ixl q1 hc) (hb hby d4_43) rfl (fun T8 h9 X10 e11 W12 => ?_)
    have f13 := F_words.other W12 (Or.inl na)
    have f14 := A_t.set W12
    have Z15 : n0 ≤ h9.size := Nat.le_trans Z0 (Keep.of_wr W12).1
    have K16 := (Keep.refl h0 [t]).wr W12 (Or.inl (List.mem_of_getElem? (i := 0) rfl))
    have N17 := Fr.snoc X10 N0 gt
    refine own_iload X10 hx 46 (hb hby d4_44) rfl rfl ?_
    exact own_retZ X10 hx (0 : Int32) (by decide) hret hlk (hb hby d4_46) (by decide) (by decide) ⟨_, rfl, N17, by rw [e11]; exact ⟨K16, f13, f14⟩⟩
  · show own_W p e below _ T1 (mkF m 26 #[.val (.ref a), .val (.long q1), .second, .val (.int (((q1.toUInt64 >>> ((6 : Int32) &&& 0x3f).toInt64.toUInt64).toInt64).toInt32)), .val (.long ((1 : Int64) <<< ((q1.toInt32) &&& 0x3f).toInt64)), .second, .unset] [])
    refine own_iconst X2 hx 27 (1 : Int32) (by decide) (hb hby d4_26) rfl ?_
    refine own_goto X2 hx 31 (hb hby d4_27) (by decide) (by decide) ?_
    refine own_istore X2 hx 33 #[.val (.ref a), .val (.long q1), .second, .val (.int (((q1.toUInt64 >>> ((6 : Int32) &&& 0x3f).toInt64.toUInt64).toInt64).toInt32)), .val (.long ((1 : Int64) <<< ((q1.toInt32) &&& 0x3f).toInt64)), .second, .val (.int (1 : Int32))] rfl (hb hby d4_31) rfl rfl ?_
    refine own_aloadN X2 hx 34 (hb hby d4_33) rfl rfl ?_
    refine own_getF X2 hx hZ hown e3 37 (hw _ (List.mem_of_getElem? (i := 19) rfl)) F_words (hb hby d4_34) rfl (fun T18 X19 e20 => ?_)
    refine own_iloadN X19 hx 38 (hb hby d4_37) rfl rfl ?_
    refine own_dup2 X19 hx 39 rfl rfl (hb hby d4_38) rfl ?_
    refine own_laload X19 hx hZ e20 40 (own_ix q1) A_t (own_ixj q1 hc) (own_ixl q1 hc) (hb hby d4_39) rfl ?_
    refine own_lload X19 hx 42 (hb hby d4_40) rfl rfl ?_
    refine own_lor X19 hx 43 (hb hby d4_42) rfl ?_
    refine own_lastore X19 hx hZ e20 44 (own_ix q1) A_t (own_ixj q1 hc) (own_ixl q1 hc) (hb hby d4_43) rfl (fun T21 h22 X23 e24 W25 => ?_)
    have f26 := F_words.other W25 (Or.inl na)
    have f27 := A_t.set W25
    have Z28 : n0 ≤ h22.size := Nat.le_trans Z0 (Keep.of_wr W25).1
    have K29 := (Keep.refl h0 [t]).wr W25 (Or.inl (List.mem_of_getElem? (i := 0) rfl))
    have N30 := Fr.snoc X23 N0 gt
    refine own_iload X23 hx 46 (hb hby d4_44) rfl rfl ?_
    exact own_retZ X23 hx (1 : Int32) (by decide) hret hlk (hb hby d4_46) (by decide) (by decide) ⟨_, rfl, N30, by rw [e24]; exact ⟨K29, f26, f27⟩⟩
theorem d5_0 : decode prog_28_method_6_code 0 = .ok (.lload_n 1, 1) := by decide +kernel
theorem d5_1 : decode prog_28_method_6_code 1 = .ok (.bipush 6, 2) := by decide +kernel
theorem d5_3 : decode prog_28_method_6_code 3 = .ok (.lushr, 1) := by decide +kernel
theorem d5_4 : decode prog_28_method_6_code 4 = .ok (.l2i, 1) := by decide +kernel
theorem d5_5 : decode prog_28_method_6_code 5 = .ok (.istore_n 3, 1) := by decide +kernel
theorem d5_6 : decode prog_28_method_6_code 6 = .ok (.lconst 1, 1) := by decide +kernel
theorem d5_7 : decode prog_28_method_6_code 7 = .ok (.lload_n 1, 1) := by decide +kernel
theorem d5_8 : decode prog_28_method_6_code 8 = .ok (.l2i, 1) := by decide +kernel
theorem d5_9 : decode prog_28_method_6_code 9 = .ok (.lshl, 1) := by decide +kernel
theorem d5_10 : decode prog_28_method_6_code 10 = .ok (.lstore 4, 2) := by decide +kernel
theorem d5_12 : decode prog_28_method_6_code 12 = .ok (.aload_n 0, 1) := by decide +kernel
theorem d5_13 : decode prog_28_method_6_code 13 = .ok (.getfield 17, 3) := by decide +kernel
theorem d5_16 : decode prog_28_method_6_code 16 = .ok (.iload_n 3, 1) := by decide +kernel
theorem d5_17 : decode prog_28_method_6_code 17 = .ok (.laload, 1) := by decide +kernel
theorem d5_18 : decode prog_28_method_6_code 18 = .ok (.lload 4, 2) := by decide +kernel
theorem d5_20 : decode prog_28_method_6_code 20 = .ok (.land, 1) := by decide +kernel
theorem d5_21 : decode prog_28_method_6_code 21 = .ok (.lconst 0, 1) := by decide +kernel
theorem d5_22 : decode prog_28_method_6_code 22 = .ok (.lcmp, 1) := by decide +kernel
theorem d5_23 : decode prog_28_method_6_code 23 = .ok (.ifCond .eq 7, 3) := by decide +kernel
theorem d5_26 : decode prog_28_method_6_code 26 = .ok (.iconst 1, 1) := by decide +kernel
theorem d5_27 : decode prog_28_method_6_code 27 = .ok (.goto 4, 3) := by decide +kernel
theorem d5_30 : decode prog_28_method_6_code 30 = .ok (.iconst 0, 1) := by decide +kernel
theorem d5_31 : decode prog_28_method_6_code 31 = .ok (.istore 6, 2) := by decide +kernel
theorem d5_33 : decode prog_28_method_6_code 33 = .ok (.aload_n 0, 1) := by decide +kernel
theorem d5_34 : decode prog_28_method_6_code 34 = .ok (.getfield 17, 3) := by decide +kernel
theorem d5_37 : decode prog_28_method_6_code 37 = .ok (.iload_n 3, 1) := by decide +kernel
theorem d5_38 : decode prog_28_method_6_code 38 = .ok (.dup2, 1) := by decide +kernel
theorem d5_39 : decode prog_28_method_6_code 39 = .ok (.laload, 1) := by decide +kernel
theorem d5_40 : decode prog_28_method_6_code 40 = .ok (.lload 4, 2) := by decide +kernel
theorem d5_42 : decode prog_28_method_6_code 42 = .ok (.ldc2_w 27, 3) := by decide +kernel
theorem d5_45 : decode prog_28_method_6_code 45 = .ok (.lxor, 1) := by decide +kernel
theorem d5_46 : decode prog_28_method_6_code 46 = .ok (.land, 1) := by decide +kernel
theorem d5_47 : decode prog_28_method_6_code 47 = .ok (.lastore, 1) := by decide +kernel
theorem d5_48 : decode prog_28_method_6_code 48 = .ok (.iload 6, 2) := by decide +kernel
theorem d5_50 : decode prog_28_method_6_code 50 = .ok (.ireturn, 1) := by decide +kernel
set_option maxRecDepth 65536 in
set_option maxHeartbeats 40000000 in
theorem rm5 (l : Launch) (Z : State) (a0 : Array Value) (hw : ∀ d ∈ tables_1, d.before a0 Z = true) (a t : Addr) (q1 : Int64) (f : Nat → Int64) (h0 : Heap) (n0 : Nat) (Z0 : n0 ≤ h0.size) (hc : 0 ≤ q1.toInt ∧ q1.toInt < 192) (na : a ≠ t) (gt : n0 ≤ t) (F_words : Fld Z h0 a "com/example/urd/urd/PartitionedBits" "words" "[J" (.ref t)) (A_t : own_AJ Z h0 t 3 f) :
    own_C l Z (⟨"com/example/urd/urd/PartitionedBits", "clear", "(J)Z"⟩ : MethodName) prog_28_method_6_code 7 (some .boolean) [] ({ frames := 0, cells := 0, slots := 0, locals := 0 } : Room) #[(.ref a), (.long q1)] h0 (fun v h L => v = some (.int (own_get f q1)) ∧ Fr n0 L ∧ Keep h0 h [t] ∧ Fld Z h a "com/example/urd/urd/PartitionedBits" "words" "[J" (.ref t) ∧ own_AJ Z h t 3 (own_clr f q1)) := by
  refine own_body (by first | (simp [plainName, overriddenIn]; done) | decide +kernel) ?_
  intro p e s m below meth c T0 hx hby hml hown hnm hret hlk hZ X0 e0
  have N0 := Fr.nil n0
  refine own_eq (f' := (mkF m 0 #[.val (.ref a), .val (.long q1), .second, .unset, .unset, .unset, .unset] [])) (by first | (simp [entryFrame, mkF, argsToLocals, Value.category]; done) | rfl) ?_
  refine own_lloadN X0 hx 1 (hb hby d5_0) rfl rfl ?_
  refine own_bipush X0 hx 3 (6 : Int32) (by decide) (hb hby d5_1) rfl ?_
  refine own_lushr X0 hx 4 (hb hby d5_3) rfl ?_
  refine own_l2i X0 hx 5 (hb hby d5_4) rfl ?_
  refine own_istoreN X0 hx 6 #[.val (.ref a), .val (.long q1), .second, .val (.int (((q1.toUInt64 >>> ((6 : Int32) &&& 0x3f).toInt64.toUInt64).toInt64).toInt32)), .unset, .unset, .unset] rfl (hb hby d5_5) rfl rfl ?_
  refine own_lconst X0 hx 7 (1 : Int64) (by decide) (hb hby d5_6) rfl ?_
  refine own_lloadN X0 hx 8 (hb hby d5_7) rfl rfl ?_
  refine own_l2i X0 hx 9 (hb hby d5_8) rfl ?_
  refine own_lshl X0 hx 10 (hb hby d5_9) rfl ?_
  refine own_lstore X0 hx 12 #[.val (.ref a), .val (.long q1), .second, .val (.int (((q1.toUInt64 >>> ((6 : Int32) &&& 0x3f).toInt64.toUInt64).toInt64).toInt32)), .val (.long ((1 : Int64) <<< ((q1.toInt32) &&& 0x3f).toInt64)), .second, .unset] rfl (hb hby d5_10) rfl rfl ?_
  refine own_aloadN X0 hx 13 (hb hby d5_12) rfl rfl ?_
  refine own_getF X0 hx hZ hown e0 16 (hw _ (List.mem_of_getElem? (i := 19) rfl)) F_words (hb hby d5_13) rfl (fun T1 X2 e3 => ?_)
  refine own_iloadN X2 hx 17 (hb hby d5_16) rfl rfl ?_
  refine own_laload X2 hx hZ e3 18 (own_ix q1) A_t (own_ixj q1 hc) (own_ixl q1 hc) (hb hby d5_17) rfl ?_
  refine own_lload X2 hx 20 (hb hby d5_18) rfl rfl ?_
  refine own_land X2 hx 21 (hb hby d5_20) rfl ?_
  refine own_lconst X2 hx 22 (0 : Int64) (by decide) (hb hby d5_21) rfl ?_
  refine own_lif_eq X2 hx 23 30 26 (hb hby d5_22) rfl (hb hby d5_23) (by decide) (by decide) rfl (fun h4 => ?_) (fun h4 => ?_)
  · show own_W p e below _ T1 (mkF m 30 #[.val (.ref a), .val (.long q1), .second, .val (.int (((q1.toUInt64 >>> ((6 : Int32) &&& 0x3f).toInt64.toUInt64).toInt64).toInt32)), .val (.long ((1 : Int64) <<< ((q1.toInt32) &&& 0x3f).toInt64)), .second, .unset] [])
    refine own_iconst X2 hx 31 (0 : Int32) (by decide) (hb hby d5_30) rfl ?_
    refine own_istore X2 hx 33 #[.val (.ref a), .val (.long q1), .second, .val (.int (((q1.toUInt64 >>> ((6 : Int32) &&& 0x3f).toInt64.toUInt64).toInt64).toInt32)), .val (.long ((1 : Int64) <<< ((q1.toInt32) &&& 0x3f).toInt64)), .second, .val (.int (0 : Int32))] rfl (hb hby d5_31) rfl rfl ?_
    refine own_aloadN X2 hx 34 (hb hby d5_33) rfl rfl ?_
    refine own_getF X2 hx hZ hown e3 37 (hw _ (List.mem_of_getElem? (i := 19) rfl)) F_words (hb hby d5_34) rfl (fun T5 X6 e7 => ?_)
    refine own_iloadN X6 hx 38 (hb hby d5_37) rfl rfl ?_
    refine own_dup2 X6 hx 39 rfl rfl (hb hby d5_38) rfl ?_
    refine own_laload X6 hx hZ e7 40 (own_ix q1) A_t (own_ixj q1 hc) (own_ixl q1 hc) (hb hby d5_39) rfl ?_
    refine own_lload X6 hx 42 (hb hby d5_40) rfl rfl ?_
    refine own_ldc2 X6 hx hZ hown 45 (hw _ (List.mem_of_getElem? (i := 31) rfl)) (hb hby d5_42) rfl ?_
    refine own_lxor X6 hx 46 (hb hby d5_45) rfl ?_
    refine own_land X6 hx 47 (hb hby d5_46) rfl ?_
    refine own_lastore X6 hx hZ e7 48 (own_ix q1) A_t (own_ixj q1 hc) (own_ixl q1 hc) (hb hby d5_47) rfl (fun T8 h9 X10 e11 W12 => ?_)
    have f13 := F_words.other W12 (Or.inl na)
    have f14 := A_t.set W12
    have Z15 : n0 ≤ h9.size := Nat.le_trans Z0 (Keep.of_wr W12).1
    have K16 := (Keep.refl h0 [t]).wr W12 (Or.inl (List.mem_of_getElem? (i := 0) rfl))
    have N17 := Fr.snoc X10 N0 gt
    refine own_iload X10 hx 50 (hb hby d5_48) rfl rfl ?_
    exact own_retZ X10 hx (0 : Int32) (by decide) hret hlk (hb hby d5_50) (by decide) (by decide) ⟨by rw [show own_get f q1 = (0 : Int32) from if_pos h4], N17, by rw [e11]; exact ⟨K16, f13, f14⟩⟩
  · show own_W p e below _ T1 (mkF m 26 #[.val (.ref a), .val (.long q1), .second, .val (.int (((q1.toUInt64 >>> ((6 : Int32) &&& 0x3f).toInt64.toUInt64).toInt64).toInt32)), .val (.long ((1 : Int64) <<< ((q1.toInt32) &&& 0x3f).toInt64)), .second, .unset] [])
    refine own_iconst X2 hx 27 (1 : Int32) (by decide) (hb hby d5_26) rfl ?_
    refine own_goto X2 hx 31 (hb hby d5_27) (by decide) (by decide) ?_
    refine own_istore X2 hx 33 #[.val (.ref a), .val (.long q1), .second, .val (.int (((q1.toUInt64 >>> ((6 : Int32) &&& 0x3f).toInt64.toUInt64).toInt64).toInt32)), .val (.long ((1 : Int64) <<< ((q1.toInt32) &&& 0x3f).toInt64)), .second, .val (.int (1 : Int32))] rfl (hb hby d5_31) rfl rfl ?_
    refine own_aloadN X2 hx 34 (hb hby d5_33) rfl rfl ?_
    refine own_getF X2 hx hZ hown e3 37 (hw _ (List.mem_of_getElem? (i := 19) rfl)) F_words (hb hby d5_34) rfl (fun T18 X19 e20 => ?_)
    refine own_iloadN X19 hx 38 (hb hby d5_37) rfl rfl ?_
    refine own_dup2 X19 hx 39 rfl rfl (hb hby d5_38) rfl ?_
    refine own_laload X19 hx hZ e20 40 (own_ix q1) A_t (own_ixj q1 hc) (own_ixl q1 hc) (hb hby d5_39) rfl ?_
    refine own_lload X19 hx 42 (hb hby d5_40) rfl rfl ?_
    refine own_ldc2 X19 hx hZ hown 45 (hw _ (List.mem_of_getElem? (i := 31) rfl)) (hb hby d5_42) rfl ?_
    refine own_lxor X19 hx 46 (hb hby d5_45) rfl ?_
    refine own_land X19 hx 47 (hb hby d5_46) rfl ?_
    refine own_lastore X19 hx hZ e20 48 (own_ix q1) A_t (own_ixj q1 hc) (own_ixl q1 hc) (hb hby d5_47) rfl (fun T21 h22 X23 e24 W25 => ?_)
    have f26 := F_words.other W25 (Or.inl na)
    have f27 := A_t.set W25
    have Z28 : n0 ≤ h22.size := Nat.le_trans Z0 (Keep.of_wr W25).1
    have K29 := (Keep.refl h0 [t]).wr W25 (Or.inl (List.mem_of_getElem? (i := 0) rfl))
    have N30 := Fr.snoc X23 N0 gt
    refine own_iload X23 hx 50 (hb hby d5_48) rfl rfl ?_
    exact own_retZ X23 hx (1 : Int32) (by decide) hret hlk (hb hby d5_50) (by decide) (by decide) ⟨by rw [show own_get f q1 = (1 : Int32) from if_neg h4], N30, by rw [e24]; exact ⟨K29, f26, f27⟩⟩
theorem d6_0 : decode prog_28_method_4_code 0 = .ok (.aload_n 0, 1) := by decide +kernel
theorem d6_1 : decode prog_28_method_4_code 1 = .ok (.getfield 17, 3) := by decide +kernel
theorem d6_4 : decode prog_28_method_4_code 4 = .ok (.lload_n 1, 1) := by decide +kernel
theorem d6_5 : decode prog_28_method_4_code 5 = .ok (.bipush 6, 2) := by decide +kernel
theorem d6_7 : decode prog_28_method_4_code 7 = .ok (.lushr, 1) := by decide +kernel
theorem d6_8 : decode prog_28_method_4_code 8 = .ok (.l2i, 1) := by decide +kernel
theorem d6_9 : decode prog_28_method_4_code 9 = .ok (.laload, 1) := by decide +kernel
theorem d6_10 : decode prog_28_method_4_code 10 = .ok (.lconst 1, 1) := by decide +kernel
theorem d6_11 : decode prog_28_method_4_code 11 = .ok (.lload_n 1, 1) := by decide +kernel
theorem d6_12 : decode prog_28_method_4_code 12 = .ok (.l2i, 1) := by decide +kernel
theorem d6_13 : decode prog_28_method_4_code 13 = .ok (.lshl, 1) := by decide +kernel
theorem d6_14 : decode prog_28_method_4_code 14 = .ok (.land, 1) := by decide +kernel
theorem d6_15 : decode prog_28_method_4_code 15 = .ok (.lconst 0, 1) := by decide +kernel
theorem d6_16 : decode prog_28_method_4_code 16 = .ok (.lcmp, 1) := by decide +kernel
theorem d6_17 : decode prog_28_method_4_code 17 = .ok (.ifCond .eq 7, 3) := by decide +kernel
theorem d6_20 : decode prog_28_method_4_code 20 = .ok (.iconst 1, 1) := by decide +kernel
theorem d6_21 : decode prog_28_method_4_code 21 = .ok (.goto 4, 3) := by decide +kernel
theorem d6_24 : decode prog_28_method_4_code 24 = .ok (.iconst 0, 1) := by decide +kernel
theorem d6_25 : decode prog_28_method_4_code 25 = .ok (.ireturn, 1) := by decide +kernel
set_option maxRecDepth 65536 in
set_option maxHeartbeats 40000000 in
theorem rm6 (l : Launch) (Z : State) (a0 : Array Value) (hw : ∀ d ∈ tables_1, d.before a0 Z = true) (a t : Addr) (q1 : Int64) (f : Nat → Int64) (h0 : Heap) (n0 : Nat) (Z0 : n0 ≤ h0.size) (hc : 0 ≤ q1.toInt ∧ q1.toInt < 192) (na : a ≠ t) (gt : n0 ≤ t) (F_words : Fld Z h0 a "com/example/urd/urd/PartitionedBits" "words" "[J" (.ref t)) (A_t : own_AJ Z h0 t 3 f) :
    own_C l Z (⟨"com/example/urd/urd/PartitionedBits", "get", "(J)Z"⟩ : MethodName) prog_28_method_4_code 3 (some .boolean) [] ({ frames := 0, cells := 0, slots := 0, locals := 0 } : Room) #[(.ref a), (.long q1)] h0 (fun v h L => v = some (.int (own_get f q1)) ∧ Fr n0 L ∧ h = h0) := by
  refine own_body (by first | (simp [plainName, overriddenIn]; done) | decide +kernel) ?_
  intro p e s m below meth c T0 hx hby hml hown hnm hret hlk hZ X0 e0
  have N0 := Fr.nil n0
  refine own_eq (f' := (mkF m 0 #[.val (.ref a), .val (.long q1), .second] [])) (by first | (simp [entryFrame, mkF, argsToLocals, Value.category]; done) | rfl) ?_
  refine own_aloadN X0 hx 1 (hb hby d6_0) rfl rfl ?_
  refine own_getF X0 hx hZ hown e0 4 (hw _ (List.mem_of_getElem? (i := 19) rfl)) F_words (hb hby d6_1) rfl (fun T1 X2 e3 => ?_)
  refine own_lloadN X2 hx 5 (hb hby d6_4) rfl rfl ?_
  refine own_bipush X2 hx 7 (6 : Int32) (by decide) (hb hby d6_5) rfl ?_
  refine own_lushr X2 hx 8 (hb hby d6_7) rfl ?_
  refine own_l2i X2 hx 9 (hb hby d6_8) rfl ?_
  refine own_laload X2 hx hZ e3 10 (own_ix q1) A_t (own_ixj q1 hc) (own_ixl q1 hc) (hb hby d6_9) rfl ?_
  refine own_lconst X2 hx 11 (1 : Int64) (by decide) (hb hby d6_10) rfl ?_
  refine own_lloadN X2 hx 12 (hb hby d6_11) rfl rfl ?_
  refine own_l2i X2 hx 13 (hb hby d6_12) rfl ?_
  refine own_lshl X2 hx 14 (hb hby d6_13) rfl ?_
  refine own_land X2 hx 15 (hb hby d6_14) rfl ?_
  refine own_lconst X2 hx 16 (0 : Int64) (by decide) (hb hby d6_15) rfl ?_
  refine own_lif_eq X2 hx 17 24 20 (hb hby d6_16) rfl (hb hby d6_17) (by decide) (by decide) rfl (fun h4 => ?_) (fun h4 => ?_)
  · show own_W p e below _ T1 (mkF m 24 #[.val (.ref a), .val (.long q1), .second] [])
    refine own_iconst X2 hx 25 (0 : Int32) (by decide) (hb hby d6_24) rfl ?_
    exact own_retZ X2 hx (0 : Int32) (by decide) hret hlk (hb hby d6_25) (by decide) (by decide) ⟨by rw [show own_get f q1 = (0 : Int32) from if_pos h4], N0, e3⟩
  · show own_W p e below _ T1 (mkF m 20 #[.val (.ref a), .val (.long q1), .second] [])
    refine own_iconst X2 hx 21 (1 : Int32) (by decide) (hb hby d6_20) rfl ?_
    refine own_goto X2 hx 25 (hb hby d6_21) (by decide) (by decide) ?_
    exact own_retZ X2 hx (1 : Int32) (by decide) hret hlk (hb hby d6_25) (by decide) (by decide) ⟨by rw [show own_get f q1 = (1 : Int32) from if_neg h4], N0, e3⟩
set_option maxRecDepth 65536 in
set_option maxHeartbeats 40000000 in
theorem rm0 (l : Launch) (Z : State) (a0 : Array Value) (hw : ∀ d ∈ tables_1, d.before a0 Z = true) (q0 q1 q2 : Int64) (p3 : Int32) (h0 : Heap) (n0 : Nat) (Z0 : n0 ≤ h0.size)  :
    own_C l Z x code maxLocals ret tables_1 room_1 #[(.long q0), (.long q1), (.long q2), (.int p3)] h0 (fun v h L => v = some (.int 1) ∧ Fr n0 L) := by
  refine own_body (by first | (simp [plainName, overriddenIn]; done) | decide +kernel) ?_
  intro p e s m below meth c T0 hx hby hml hown hnm hret hlk hZ X0 e0
  have N0 := Fr.nil n0
  refine own_eq (f' := (mkF m 0 #[.val (.long q0), .second, .val (.long q1), .second, .val (.long q2), .second, .val (.int p3), .unset, .unset, .unset, .unset, .unset, .unset, .unset, .unset, .unset, .unset, .unset, .unset, .unset, .unset] [])) (by first | (simp [entryFrame, mkF, argsToLocals, Value.category, maxLocals]; done) | rfl) ?_
  refine own_lloadN X0 hx 1 (hb hby at_0) rfl rfl ?_
  refine own_callS X0 hx hZ hown e0 (y := (⟨"com/example/urd/urd/PartitionedBitsClearPinLaw", "pick", "(J)J"⟩ : MethodName)) (argsL := [(.long q0)]) (rest := []) 4 (rm1 l Z a0 hw q0 h0 n0 Z0) (hw _ (List.mem_of_getElem? (i := 0) rfl)) (hw _ (List.mem_of_getElem? (i := 1) rfl)) (hw _ (List.mem_of_getElem? (i := 2) rfl)) (hw _ (List.mem_of_getElem? (i := 3) rfl)) (by decide) (by rw [hml]; rfl) (lenOf (by decide +kernel : parseMethodDescriptor "(J)J" = some ⟨[.long], some .long⟩) rfl) rfl (hb hby at_1) rfl (W := 0) rfl (by decide) (by decide) (by decide) (by decide) (fun r1 T2 L3 X4 q5 => ?_)
  obtain ⟨rfl, N6q, e7⟩ := q5
  have N6 := Fr.app N0 N6q
  show own_W p e below _ T2 (mkF m 4 #[.val (.long q0), .second, .val (.long q1), .second, .val (.long q2), .second, .val (.int p3), .unset, .unset, .unset, .unset, .unset, .unset, .unset, .unset, .unset, .unset, .unset, .unset, .unset, .unset] [(.long (own_pick q0))])
  obtain ⟨cc, e_cc⟩ : ∃ z : Int64, z = (own_pick q0) := ⟨_, rfl⟩
  refine own_lstore X4 hx 6 #[.val (.long q0), .second, .val (.long q1), .second, .val (.long q2), .second, .val (.int p3), .val (.long cc), .second, .unset, .unset, .unset, .unset, .unset, .unset, .unset, .unset, .unset, .unset, .unset, .unset] e_cc (hb hby at_4) rfl rfl ?_
  refine own_lloadN X4 hx 7 (hb hby at_6) rfl rfl ?_
  refine own_callS X4 hx hZ hown e7 (y := (⟨"com/example/urd/urd/PartitionedBitsClearPinLaw", "pick", "(J)J"⟩ : MethodName)) (argsL := [(.long q1)]) (rest := []) 10 (rm1 l Z a0 hw q1 h0 n0 Z0) (hw _ (List.mem_of_getElem? (i := 0) rfl)) (hw _ (List.mem_of_getElem? (i := 1) rfl)) (hw _ (List.mem_of_getElem? (i := 2) rfl)) (hw _ (List.mem_of_getElem? (i := 3) rfl)) (by decide) (by rw [hml]; rfl) (lenOf (by decide +kernel : parseMethodDescriptor "(J)J" = some ⟨[.long], some .long⟩) rfl) rfl (hb hby at_7) rfl (W := 0) rfl (by decide) (by decide) (by decide) (by decide) (fun r8 T9 L10 X11 q12 => ?_)
  obtain ⟨rfl, N13q, e14⟩ := q12
  have N13 := Fr.app N6 N13q
  show own_W p e below _ T9 (mkF m 10 #[.val (.long q0), .second, .val (.long q1), .second, .val (.long q2), .second, .val (.int p3), .val (.long cc), .second, .unset, .unset, .unset, .unset, .unset, .unset, .unset, .unset, .unset, .unset, .unset, .unset] [(.long (own_pick q1))])
  obtain ⟨ca, e_ca⟩ : ∃ z : Int64, z = (own_pick q1) := ⟨_, rfl⟩
  refine own_lstore X11 hx 12 #[.val (.long q0), .second, .val (.long q1), .second, .val (.long q2), .second, .val (.int p3), .val (.long cc), .second, .val (.long ca), .second, .unset, .unset, .unset, .unset, .unset, .unset, .unset, .unset, .unset, .unset] e_ca (hb hby at_10) rfl rfl ?_
  refine own_lload X11 hx 14 (hb hby at_12) rfl rfl ?_
  refine own_callS X11 hx hZ hown e14 (y := (⟨"com/example/urd/urd/PartitionedBitsClearPinLaw", "pick", "(J)J"⟩ : MethodName)) (argsL := [(.long q2)]) (rest := []) 17 (rm1 l Z a0 hw q2 h0 n0 Z0) (hw _ (List.mem_of_getElem? (i := 0) rfl)) (hw _ (List.mem_of_getElem? (i := 1) rfl)) (hw _ (List.mem_of_getElem? (i := 2) rfl)) (hw _ (List.mem_of_getElem? (i := 3) rfl)) (by decide) (by rw [hml]; rfl) (lenOf (by decide +kernel : parseMethodDescriptor "(J)J" = some ⟨[.long], some .long⟩) rfl) rfl (hb hby at_14) rfl (W := 0) rfl (by decide) (by decide) (by decide) (by decide) (fun r15 T16 L17 X18 q19 => ?_)
  obtain ⟨rfl, N20q, e21⟩ := q19
  have N20 := Fr.app N13 N20q
  show own_W p e below _ T16 (mkF m 17 #[.val (.long q0), .second, .val (.long q1), .second, .val (.long q2), .second, .val (.int p3), .val (.long cc), .second, .val (.long ca), .second, .unset, .unset, .unset, .unset, .unset, .unset, .unset, .unset, .unset, .unset] [(.long (own_pick q2))])
  obtain ⟨cb, e_cb⟩ : ∃ z : Int64, z = (own_pick q2) := ⟨_, rfl⟩
  refine own_lstore X18 hx 19 #[.val (.long q0), .second, .val (.long q1), .second, .val (.long q2), .second, .val (.int p3), .val (.long cc), .second, .val (.long ca), .second, .val (.long cb), .second, .unset, .unset, .unset, .unset, .unset, .unset, .unset, .unset] e_cb (hb hby at_17) rfl rfl ?_
  refine own_iload X18 hx 21 (hb hby at_19) rfl rfl ?_
  refine own_iconst X18 hx 22 (1 : Int32) (by decide) (hb hby at_21) rfl ?_
  refine own_iand X18 hx 23 (hb hby at_22) rfl ?_
  have J22 : ∀ (b1 : Int32) (hj23 : b1 = 0 ∨ b1 = 1), own_W p e below (own_K s room_1 (fun v h L => v = some (.int 1) ∧ Fr n0 L)) T16 (mkF m 31 #[.val (.long q0), .second, .val (.long q1), .second, .val (.long q2), .second, .val (.int p3), .val (.long cc), .second, .val (.long ca), .second, .val (.long cb), .second, .unset, .unset, .unset, .unset, .unset, .unset, .unset, .unset] [(.int b1)]) := by
    intro b1 hj23
    refine own_istore X18 hx 33 #[.val (.long q0), .second, .val (.long q1), .second, .val (.long q2), .second, .val (.int p3), .val (.long cc), .second, .val (.long ca), .second, .val (.long cb), .second, .val (.int b1), .unset, .unset, .unset, .unset, .unset, .unset, .unset] rfl (hb hby at_31) rfl rfl ?_
    refine own_iload X18 hx 35 (hb hby at_33) rfl rfl ?_
    refine own_iconst X18 hx 36 (2 : Int32) (by decide) (hb hby at_35) rfl ?_
    refine own_iand X18 hx 37 (hb hby at_36) rfl ?_
    have J24 : ∀ (b2 : Int32) (hj25 : b2 = 0 ∨ b2 = 1), own_W p e below (own_K s room_1 (fun v h L => v = some (.int 1) ∧ Fr n0 L)) T16 (mkF m 45 #[.val (.long q0), .second, .val (.long q1), .second, .val (.long q2), .second, .val (.int p3), .val (.long cc), .second, .val (.long ca), .second, .val (.long cb), .second, .val (.int b1), .unset, .unset, .unset, .unset, .unset, .unset, .unset] [(.int b2)]) := by
      intro b2 hj25
      refine own_istore X18 hx 47 #[.val (.long q0), .second, .val (.long q1), .second, .val (.long q2), .second, .val (.int p3), .val (.long cc), .second, .val (.long ca), .second, .val (.long cb), .second, .val (.int b1), .val (.int b2), .unset, .unset, .unset, .unset, .unset, .unset] rfl (hb hby at_45) rfl rfl ?_
      refine own_iload X18 hx 49 (hb hby at_47) rfl rfl ?_
      refine own_iconst X18 hx 50 (4 : Int32) (by decide) (hb hby at_49) rfl ?_
      refine own_iand X18 hx 51 (hb hby at_50) rfl ?_
      have J26 : ∀ (b3 : Int32) (hj27 : b3 = 0 ∨ b3 = 1), own_W p e below (own_K s room_1 (fun v h L => v = some (.int 1) ∧ Fr n0 L)) T16 (mkF m 59 #[.val (.long q0), .second, .val (.long q1), .second, .val (.long q2), .second, .val (.int p3), .val (.long cc), .second, .val (.long ca), .second, .val (.long cb), .second, .val (.int b1), .val (.int b2), .unset, .unset, .unset, .unset, .unset, .unset] [(.int b3)]) := by
        intro b3 hj27
        refine own_istore X18 hx 61 #[.val (.long q0), .second, .val (.long q1), .second, .val (.long q2), .second, .val (.int p3), .val (.long cc), .second, .val (.long ca), .second, .val (.long cb), .second, .val (.int b1), .val (.int b2), .val (.int b3), .unset, .unset, .unset, .unset, .unset] rfl (hb hby at_59) rfl rfl ?_
        refine own_new X18 hx hZ hown e21 64 (hw _ (List.mem_of_getElem? (i := 6) rfl)) (hw _ (List.mem_of_getElem? (i := 7) rfl)) (hw _ (List.mem_of_getElem? (i := 8) rfl)) (hb hby at_61) rfl (by decide) (by decide) (fun T28 h29 a30 X31 e32 g33 E34 A35 D36 => ?_)
        have ga37 : n0 ≤ a30 := by rw [g33]; exact Z0
        have Z38 : n0 ≤ h29.size := Nat.le_trans Z0 E34.1
        have f39 : Fld Z h29 a30 "com/example/urd/urd/PartitionedBits" "cellsPerArray" "J" (.long (0 : Int64)) := D36 (Or.inr (hw _ (List.mem_of_getElem? (i := 16) rfl))) (ty := .long) (by decide)
        have f40 : Fld Z h29 a30 "com/example/urd/urd/PartitionedBits" "words" "[J" .null := D36 (Or.inr (hw _ (List.mem_of_getElem? (i := 20) rfl))) (ty := (.array .long)) (by decide)
        refine own_dup X31 hx 65 rfl (hb hby at_64) rfl ?_
        refine own_iconst X31 hx 66 (1 : Int32) (by decide) (hb hby at_65) rfl ?_
        refine own_ldc2 X31 hx hZ hown 69 (hw _ (List.mem_of_getElem? (i := 5) rfl)) (hb hby at_66) rfl ?_
        refine own_callI X31 hx hZ hown e32 (y := (⟨"com/example/urd/urd/PartitionedBits", "<init>", "(IJ)V"⟩ : MethodName)) (a := a30) (argsL := [(.int (1 : Int32)), (.long (192 : Int64))]) (rest := [(.ref a30)]) 72 (rm2 l Z a0 hw a30 h29 n0 Z38 ga37 A35 f39 f40) rfl (hw _ (List.mem_of_getElem? (i := 9) rfl)) (hw _ (List.mem_of_getElem? (i := 10) rfl)) (hw _ (List.mem_of_getElem? (i := 8) rfl)) (hw _ (List.mem_of_getElem? (i := 11) rfl)) (by decide) (by rw [hml]; rfl) (lenOf (by decide +kernel : parseMethodDescriptor "(IJ)V" = some ⟨[.int, .long], none⟩) rfl) rfl (hb hby at_69) rfl (W := 1) rfl (by decide) (by decide) (by decide) (by decide) (fun r41 T42 L43 X44 q45 => ?_)
        obtain ⟨t46, rfl, N47q, K48, gt49, na50, f51, f52⟩ := q45
        have N47 := Fr.app N20 N47q
        have f53 := A35.keep K48
        have Z56 : n0 ≤ T42.heap.size := Nat.le_trans Z38 K48.1
        show own_W p e below _ T42 (mkF m 72 #[.val (.long q0), .second, .val (.long q1), .second, .val (.long q2), .second, .val (.int p3), .val (.long cc), .second, .val (.long ca), .second, .val (.long cb), .second, .val (.int b1), .val (.int b2), .val (.int b3), .unset, .unset, .unset, .unset, .unset] [(.ref a30)])
        refine own_astore X44 hx 74 #[.val (.long q0), .second, .val (.long q1), .second, .val (.long q2), .second, .val (.int p3), .val (.long cc), .second, .val (.long ca), .second, .val (.long cb), .second, .val (.int b1), .val (.int b2), .val (.int b3), .val (.ref a30), .unset, .unset, .unset, .unset] rfl (hb hby at_72) rfl rfl ?_
        refine own_iload X44 hx 76 (hb hby at_74) rfl rfl ?_
        have J57 : ∀ (T58 : State) (lc59 : List Loc) (h60 : Heap) (g1 : Nat → Int64) (X61 : Stand p l e room_1 s m #[(.long q0), (.long q1), (.long q2), (.int p3)] below meth c T58 lc59 2 5) (e62 : T58.heap = h60) (N63 : Fr n0 lc59) (Z64 : n0 ≤ h60.size) (f65 : Exa Z h60 a30 "com/example/urd/urd/PartitionedBits") (f66 : Fld Z h60 a30 "com/example/urd/urd/PartitionedBits" "words" "[J" (.ref t46)) (f67 : own_AJ Z h60 t46 3 g1) (hj68 : g1 = own_sets (fun _ => 0) b1 ca), own_W p e below (own_K s room_1 (fun v h L => v = some (.int 1) ∧ Fr n0 L)) T58 (mkF m 87 #[.val (.long q0), .second, .val (.long q1), .second, .val (.long q2), .second, .val (.int p3), .val (.long cc), .second, .val (.long ca), .second, .val (.long cb), .second, .val (.int b1), .val (.int b2), .val (.int b3), .val (.ref a30), .unset, .unset, .unset, .unset] []) := by
          intro T58 lc59 h60 g1 X61 e62 N63 Z64 f65 f66 f67 hj68
          refine own_iload X61 hx 89 (hb hby at_87) rfl rfl ?_
          have J69 : ∀ (T70 : State) (lc71 : List Loc) (h72 : Heap) (g2 : Nat → Int64) (X73 : Stand p l e room_1 s m #[(.long q0), (.long q1), (.long q2), (.int p3)] below meth c T70 lc71 2 5) (e74 : T70.heap = h72) (N75 : Fr n0 lc71) (Z76 : n0 ≤ h72.size) (f77 : Exa Z h72 a30 "com/example/urd/urd/PartitionedBits") (f78 : Fld Z h72 a30 "com/example/urd/urd/PartitionedBits" "words" "[J" (.ref t46)) (f79 : own_AJ Z h72 t46 3 g2) (hj80 : g2 = own_sets g1 b2 cb), own_W p e below (own_K s room_1 (fun v h L => v = some (.int 1) ∧ Fr n0 L)) T70 (mkF m 100 #[.val (.long q0), .second, .val (.long q1), .second, .val (.long q2), .second, .val (.int p3), .val (.long cc), .second, .val (.long ca), .second, .val (.long cb), .second, .val (.int b1), .val (.int b2), .val (.int b3), .val (.ref a30), .unset, .unset, .unset, .unset] []) := by
            intro T70 lc71 h72 g2 X73 e74 N75 Z76 f77 f78 f79 hj80
            refine own_iload X73 hx 102 (hb hby at_100) rfl rfl ?_
            have J81 : ∀ (T82 : State) (lc83 : List Loc) (h84 : Heap) (g3 : Nat → Int64) (X85 : Stand p l e room_1 s m #[(.long q0), (.long q1), (.long q2), (.int p3)] below meth c T82 lc83 2 5) (e86 : T82.heap = h84) (N87 : Fr n0 lc83) (Z88 : n0 ≤ h84.size) (f89 : Exa Z h84 a30 "com/example/urd/urd/PartitionedBits") (f90 : Fld Z h84 a30 "com/example/urd/urd/PartitionedBits" "words" "[J" (.ref t46)) (f91 : own_AJ Z h84 t46 3 g3) (hj92 : g3 = own_sets g2 b3 cc), own_W p e below (own_K s room_1 (fun v h L => v = some (.int 1) ∧ Fr n0 L)) T82 (mkF m 113 #[.val (.long q0), .second, .val (.long q1), .second, .val (.long q2), .second, .val (.int p3), .val (.long cc), .second, .val (.long ca), .second, .val (.long cb), .second, .val (.int b1), .val (.int b2), .val (.int b3), .val (.ref a30), .unset, .unset, .unset, .unset] []) := by
              intro T82 lc83 h84 g3 X85 e86 N87 Z88 f89 f90 f91 hj92
              refine own_iload X85 hx 115 (hb hby at_113) rfl rfl ?_
              have J93 : ∀ (ew : Int32) (hj94 : ew = own_ew b1 b2 b3 ca cb cc), own_W p e below (own_K s room_1 (fun v h L => v = some (.int 1) ∧ Fr n0 L)) T82 (mkF m 149 #[.val (.long q0), .second, .val (.long q1), .second, .val (.long q2), .second, .val (.int p3), .val (.long cc), .second, .val (.long ca), .second, .val (.long cb), .second, .val (.int b1), .val (.int b2), .val (.int b3), .val (.ref a30), .unset, .unset, .unset, .unset] [(.int ew)]) := by
                intro ew hj94
                refine own_istore X85 hx 151 #[.val (.long q0), .second, .val (.long q1), .second, .val (.long q2), .second, .val (.int p3), .val (.long cc), .second, .val (.long ca), .second, .val (.long cb), .second, .val (.int b1), .val (.int b2), .val (.int b3), .val (.ref a30), .val (.int ew), .unset, .unset, .unset] rfl (hb hby at_149) rfl rfl ?_
                refine own_aload X85 hx 153 (hb hby at_151) rfl rfl ?_
                refine own_lload X85 hx 155 (hb hby at_153) rfl rfl ?_
                refine own_callV X85 hx hZ hown e86 (y := (⟨"com/example/urd/urd/PartitionedBits", "clear", "(J)Z"⟩ : MethodName)) (a := a30) (argsL := [(.long cc)]) (rest := []) 158 (rm5 l Z a0 hw a30 t46 cc g3 h84 n0 Z88 (own_rg _ _ e_cc) na50 gt49 f90 f91) f89 (hw _ (List.mem_of_getElem? (i := 26) rfl)) (hw _ (List.mem_of_getElem? (i := 27) rfl)) (hw _ (List.mem_of_getElem? (i := 29) rfl)) (hw _ (List.mem_of_getElem? (i := 28) rfl)) (hw _ (List.mem_of_getElem? (i := 8) rfl)) (hw _ (List.mem_of_getElem? (i := 30) rfl)) (by decide) (by rw [hml]; rfl) (lenOf (by decide +kernel : parseMethodDescriptor "(J)Z" = some ⟨[.long], some .boolean⟩) rfl) rfl (hb hby at_155) rfl (W := 0) rfl (by decide) (by decide) (by decide) (by decide) (fun r95 T96 L97 X98 q99 => ?_)
                obtain ⟨rfl, N100q, K101, f102, f103⟩ := q99
                have N100 := Fr.app N87 N100q
                have f104 := f89.keep K101
                have f105 := f90.keep K101 (ninS na50 nin0)
                have Z107 : n0 ≤ T96.heap.size := Nat.le_trans Z88 K101.1
                show own_W p e below _ T96 (mkF m 158 #[.val (.long q0), .second, .val (.long q1), .second, .val (.long q2), .second, .val (.int p3), .val (.long cc), .second, .val (.long ca), .second, .val (.long cb), .second, .val (.int b1), .val (.int b2), .val (.int b3), .val (.ref a30), .val (.int ew), .unset, .unset, .unset] [(.int (own_get g3 cc))])
                refine own_istore X98 hx 160 #[.val (.long q0), .second, .val (.long q1), .second, .val (.long q2), .second, .val (.int p3), .val (.long cc), .second, .val (.long ca), .second, .val (.long cb), .second, .val (.int b1), .val (.int b2), .val (.int b3), .val (.ref a30), .val (.int ew), .val (.int (own_get g3 cc)), .unset, .unset] rfl (hb hby at_158) rfl rfl ?_
                refine own_iload X98 hx 162 (hb hby at_160) rfl rfl ?_
                refine own_iload X98 hx 164 (hb hby at_162) rfl rfl ?_
                refine own_icmp_eq X98 hx 169 167 (hb hby at_164) (by decide) (by decide) rfl (fun h108 => ?_) (fun h108 => ?_)
                · show own_W p e below _ T96 (mkF m 169 #[.val (.long q0), .second, .val (.long q1), .second, .val (.long q2), .second, .val (.int p3), .val (.long cc), .second, .val (.long ca), .second, .val (.long cb), .second, .val (.int b1), .val (.int b2), .val (.int b3), .val (.ref a30), .val (.int ew), .val (.int (own_get g3 cc)), .unset, .unset] [])
                  refine own_aload X98 hx 171 (hb hby at_169) rfl rfl ?_
                  refine own_lload X98 hx 173 (hb hby at_171) rfl rfl ?_
                  refine own_callV X98 hx hZ hown rfl (y := (⟨"com/example/urd/urd/PartitionedBits", "get", "(J)Z"⟩ : MethodName)) (a := a30) (argsL := [(.long cc)]) (rest := []) 176 (rm6 l Z a0 hw a30 t46 cc (own_clr g3 cc) T96.heap n0 Z107 (own_rg _ _ e_cc) na50 gt49 f102 f103) f104 (hw _ (List.mem_of_getElem? (i := 32) rfl)) (hw _ (List.mem_of_getElem? (i := 33) rfl)) (hw _ (List.mem_of_getElem? (i := 35) rfl)) (hw _ (List.mem_of_getElem? (i := 34) rfl)) (hw _ (List.mem_of_getElem? (i := 8) rfl)) (hw _ (List.mem_of_getElem? (i := 36) rfl)) (by decide) (by rw [hml]; rfl) (lenOf (by decide +kernel : parseMethodDescriptor "(J)Z" = some ⟨[.long], some .boolean⟩) rfl) rfl (hb hby at_173) rfl (W := 0) rfl (by decide) (by decide) (by decide) (by decide) (fun r109 T110 L111 X112 q113 => ?_)
                  obtain ⟨rfl, N114q, e115⟩ := q113
                  have N114 := Fr.app N100 N114q
                  show own_W p e below _ T110 (mkF m 176 #[.val (.long q0), .second, .val (.long q1), .second, .val (.long q2), .second, .val (.int p3), .val (.long cc), .second, .val (.long ca), .second, .val (.long cb), .second, .val (.int b1), .val (.int b2), .val (.int b3), .val (.ref a30), .val (.int ew), .val (.int (own_get g3 cc)), .unset, .unset] [(.int (own_get (own_clr g3 cc) cc))])
                  refine own_if_eq X112 hx 181 179 (hb hby at_176) (by decide) (by decide) rfl (fun h116 => ?_) (fun h116 => ?_)
                  · show own_W p e below _ T110 (mkF m 181 #[.val (.long q0), .second, .val (.long q1), .second, .val (.long q2), .second, .val (.int p3), .val (.long cc), .second, .val (.long ca), .second, .val (.long cb), .second, .val (.int b1), .val (.int b2), .val (.int b3), .val (.ref a30), .val (.int ew), .val (.int (own_get g3 cc)), .unset, .unset] [])
                    refine own_iload X112 hx 183 (hb hby at_181) rfl rfl ?_
                    have J117 : ∀ (xa : Int32) (hj118 : xa = own_xa b1 b2 ca cb cc), own_W p e below (own_K s room_1 (fun v h L => v = some (.int 1) ∧ Fr n0 L)) T110 (mkF m 212 #[.val (.long q0), .second, .val (.long q1), .second, .val (.long q2), .second, .val (.int p3), .val (.long cc), .second, .val (.long ca), .second, .val (.long cb), .second, .val (.int b1), .val (.int b2), .val (.int b3), .val (.ref a30), .val (.int ew), .val (.int (own_get g3 cc)), .unset, .unset] [(.int xa)]) := by
                      intro xa hj118
                      refine own_istore X112 hx 214 #[.val (.long q0), .second, .val (.long q1), .second, .val (.long q2), .second, .val (.int p3), .val (.long cc), .second, .val (.long ca), .second, .val (.long cb), .second, .val (.int b1), .val (.int b2), .val (.int b3), .val (.ref a30), .val (.int ew), .val (.int (own_get g3 cc)), .val (.int xa), .unset] rfl (hb hby at_212) rfl rfl ?_
                      refine own_iload X112 hx 216 (hb hby at_214) rfl rfl ?_
                      have J119 : ∀ (xb : Int32) (hj120 : xb = own_xa b2 b1 cb ca cc), own_W p e below (own_K s room_1 (fun v h L => v = some (.int 1) ∧ Fr n0 L)) T110 (mkF m 245 #[.val (.long q0), .second, .val (.long q1), .second, .val (.long q2), .second, .val (.int p3), .val (.long cc), .second, .val (.long ca), .second, .val (.long cb), .second, .val (.int b1), .val (.int b2), .val (.int b3), .val (.ref a30), .val (.int ew), .val (.int (own_get g3 cc)), .val (.int xa), .unset] [(.int xb)]) := by
                        intro xb hj120
                        refine own_istore X112 hx 247 #[.val (.long q0), .second, .val (.long q1), .second, .val (.long q2), .second, .val (.int p3), .val (.long cc), .second, .val (.long ca), .second, .val (.long cb), .second, .val (.int b1), .val (.int b2), .val (.int b3), .val (.ref a30), .val (.int ew), .val (.int (own_get g3 cc)), .val (.int xa), .val (.int xb)] rfl (hb hby at_245) rfl rfl ?_
                        refine own_aload X112 hx 249 (hb hby at_247) rfl rfl ?_
                        refine own_lload X112 hx 251 (hb hby at_249) rfl rfl ?_
                        refine own_callV X112 hx hZ hown e115 (y := (⟨"com/example/urd/urd/PartitionedBits", "get", "(J)Z"⟩ : MethodName)) (a := a30) (argsL := [(.long ca)]) (rest := []) 254 (rm6 l Z a0 hw a30 t46 ca (own_clr g3 cc) T96.heap n0 Z107 (own_rg _ _ e_ca) na50 gt49 f102 f103) f104 (hw _ (List.mem_of_getElem? (i := 32) rfl)) (hw _ (List.mem_of_getElem? (i := 33) rfl)) (hw _ (List.mem_of_getElem? (i := 35) rfl)) (hw _ (List.mem_of_getElem? (i := 34) rfl)) (hw _ (List.mem_of_getElem? (i := 8) rfl)) (hw _ (List.mem_of_getElem? (i := 36) rfl)) (by decide) (by rw [hml]; rfl) (lenOf (by decide +kernel : parseMethodDescriptor "(J)Z" = some ⟨[.long], some .boolean⟩) rfl) rfl (hb hby at_251) rfl (W := 0) rfl (by decide) (by decide) (by decide) (by decide) (fun r121 T122 L123 X124 q125 => ?_)
                        obtain ⟨rfl, N126q, e127⟩ := q125
                        have N126 := Fr.app N114 N126q
                        show own_W p e below _ T122 (mkF m 254 #[.val (.long q0), .second, .val (.long q1), .second, .val (.long q2), .second, .val (.int p3), .val (.long cc), .second, .val (.long ca), .second, .val (.long cb), .second, .val (.int b1), .val (.int b2), .val (.int b3), .val (.ref a30), .val (.int ew), .val (.int (own_get g3 cc)), .val (.int xa), .val (.int xb)] [(.int (own_get (own_clr g3 cc) ca))])
                        refine own_iload X124 hx 256 (hb hby at_254) rfl rfl ?_
                        refine own_icmp_eq X124 hx 261 259 (hb hby at_256) (by decide) (by decide) rfl (fun h128 => ?_) (fun h128 => ?_)
                        · show own_W p e below _ T122 (mkF m 261 #[.val (.long q0), .second, .val (.long q1), .second, .val (.long q2), .second, .val (.int p3), .val (.long cc), .second, .val (.long ca), .second, .val (.long cb), .second, .val (.int b1), .val (.int b2), .val (.int b3), .val (.ref a30), .val (.int ew), .val (.int (own_get g3 cc)), .val (.int xa), .val (.int xb)] [])
                          refine own_aload X124 hx 263 (hb hby at_261) rfl rfl ?_
                          refine own_lload X124 hx 265 (hb hby at_263) rfl rfl ?_
                          refine own_callV X124 hx hZ hown e127 (y := (⟨"com/example/urd/urd/PartitionedBits", "get", "(J)Z"⟩ : MethodName)) (a := a30) (argsL := [(.long cb)]) (rest := []) 268 (rm6 l Z a0 hw a30 t46 cb (own_clr g3 cc) T96.heap n0 Z107 (own_rg _ _ e_cb) na50 gt49 f102 f103) f104 (hw _ (List.mem_of_getElem? (i := 32) rfl)) (hw _ (List.mem_of_getElem? (i := 33) rfl)) (hw _ (List.mem_of_getElem? (i := 35) rfl)) (hw _ (List.mem_of_getElem? (i := 34) rfl)) (hw _ (List.mem_of_getElem? (i := 8) rfl)) (hw _ (List.mem_of_getElem? (i := 36) rfl)) (by decide) (by rw [hml]; rfl) (lenOf (by decide +kernel : parseMethodDescriptor "(J)Z" = some ⟨[.long], some .boolean⟩) rfl) rfl (hb hby at_265) rfl (W := 0) rfl (by decide) (by decide) (by decide) (by decide) (fun r129 T130 L131 X132 q133 => ?_)
                          obtain ⟨rfl, N134q, e135⟩ := q133
                          have N134 := Fr.app N126 N134q
                          show own_W p e below _ T130 (mkF m 268 #[.val (.long q0), .second, .val (.long q1), .second, .val (.long q2), .second, .val (.int p3), .val (.long cc), .second, .val (.long ca), .second, .val (.long cb), .second, .val (.int b1), .val (.int b2), .val (.int b3), .val (.ref a30), .val (.int ew), .val (.int (own_get g3 cc)), .val (.int xa), .val (.int xb)] [(.int (own_get (own_clr g3 cc) cb))])
                          refine own_iload X132 hx 270 (hb hby at_268) rfl rfl ?_
                          refine own_icmp_eq X132 hx 275 273 (hb hby at_270) (by decide) (by decide) rfl (fun h136 => ?_) (fun h136 => ?_)
                          · show own_W p e below _ T130 (mkF m 275 #[.val (.long q0), .second, .val (.long q1), .second, .val (.long q2), .second, .val (.int p3), .val (.long cc), .second, .val (.long ca), .second, .val (.long cb), .second, .val (.int b1), .val (.int b2), .val (.int b3), .val (.ref a30), .val (.int ew), .val (.int (own_get g3 cc)), .val (.int xa), .val (.int xb)] [])
                            refine own_aload X132 hx 277 (hb hby at_275) rfl rfl ?_
                            refine own_lload X132 hx 279 (hb hby at_277) rfl rfl ?_
                            refine own_callV X132 hx hZ hown e135 (y := (⟨"com/example/urd/urd/PartitionedBits", "clear", "(J)Z"⟩ : MethodName)) (a := a30) (argsL := [(.long cc)]) (rest := []) 282 (rm5 l Z a0 hw a30 t46 cc (own_clr g3 cc) T96.heap n0 Z107 (own_rg _ _ e_cc) na50 gt49 f102 f103) f104 (hw _ (List.mem_of_getElem? (i := 26) rfl)) (hw _ (List.mem_of_getElem? (i := 27) rfl)) (hw _ (List.mem_of_getElem? (i := 29) rfl)) (hw _ (List.mem_of_getElem? (i := 28) rfl)) (hw _ (List.mem_of_getElem? (i := 8) rfl)) (hw _ (List.mem_of_getElem? (i := 30) rfl)) (by decide) (by rw [hml]; rfl) (lenOf (by decide +kernel : parseMethodDescriptor "(J)Z" = some ⟨[.long], some .boolean⟩) rfl) rfl (hb hby at_279) rfl (W := 0) rfl (by decide) (by decide) (by decide) (by decide) (fun r137 T138 L139 X140 q141 => ?_)
                            obtain ⟨rfl, N142q, K143, f144, f145⟩ := q141
                            have N142 := Fr.app N134 N142q
                            have f146 := f104.keep K143
                            have f147 := f102.keep K143 (ninS na50 nin0)
                            have Z149 : n0 ≤ T138.heap.size := Nat.le_trans Z107 K143.1
                            show own_W p e below _ T138 (mkF m 282 #[.val (.long q0), .second, .val (.long q1), .second, .val (.long q2), .second, .val (.int p3), .val (.long cc), .second, .val (.long ca), .second, .val (.long cb), .second, .val (.int b1), .val (.int b2), .val (.int b3), .val (.ref a30), .val (.int ew), .val (.int (own_get g3 cc)), .val (.int xa), .val (.int xb)] [(.int (own_get (own_clr g3 cc) cc))])
                            refine own_if_ne X140 hx 289 285 (hb hby at_282) (by decide) (by decide) rfl (fun h150 => ?_) (fun h150 => ?_)
                            · exact absurd h116 h150
                            · show own_W p e below _ T138 (mkF m 285 #[.val (.long q0), .second, .val (.long q1), .second, .val (.long q2), .second, .val (.int p3), .val (.long cc), .second, .val (.long ca), .second, .val (.long cb), .second, .val (.int b1), .val (.int b2), .val (.int b3), .val (.ref a30), .val (.int ew), .val (.int (own_get g3 cc)), .val (.int xa), .val (.int xb)] [])
                              refine own_iconst X140 hx 286 (1 : Int32) (by decide) (hb hby at_285) rfl ?_
                              refine own_goto X140 hx 290 (hb hby at_286) (by decide) (by decide) ?_
                              exact own_retZ X140 hx (1 : Int32) (by decide) hret hlk (hb hby at_290) (by decide) (by decide) ⟨rfl, N142⟩
                          · exact absurd ((own_p4 b1 b2 b3 ca cb cc g1 g2 g3 (own_rg _ _ e_ca) (own_rg _ _ e_cb) (own_rg _ _ e_cc) hj68 hj80 hj92).trans hj120.symm) h136
                        · exact absurd ((own_p3 b1 b2 b3 ca cb cc g1 g2 g3 (own_rg _ _ e_ca) (own_rg _ _ e_cb) (own_rg _ _ e_cc) hj68 hj80 hj92).trans hj118.symm) h128
                      refine own_if_ne X112 hx 232 219 (hb hby at_216) (by decide) (by decide) rfl (fun h151 => ?_) (fun h151 => ?_)
                      · show own_W p e below _ T110 (mkF m 232 #[.val (.long q0), .second, .val (.long q1), .second, .val (.long q2), .second, .val (.int p3), .val (.long cc), .second, .val (.long ca), .second, .val (.long cb), .second, .val (.int b1), .val (.int b2), .val (.int b3), .val (.ref a30), .val (.int ew), .val (.int (own_get g3 cc)), .val (.int xa), .unset] [])
                        refine own_lload X112 hx 234 (hb hby at_232) rfl rfl ?_
                        refine own_lload X112 hx 236 (hb hby at_234) rfl rfl ?_
                        refine own_lif_eq X112 hx 237 244 240 (hb hby at_236) rfl (hb hby at_237) (by decide) (by decide) rfl (fun h152 => ?_) (fun h152 => ?_)
                        · show own_W p e below _ T110 (mkF m 244 #[.val (.long q0), .second, .val (.long q1), .second, .val (.long q2), .second, .val (.int p3), .val (.long cc), .second, .val (.long ca), .second, .val (.long cb), .second, .val (.int b1), .val (.int b2), .val (.int b3), .val (.ref a30), .val (.int ew), .val (.int (own_get g3 cc)), .val (.int xa), .unset] [])
                          refine own_iconst X112 hx 245 (0 : Int32) (by decide) (hb hby at_244) rfl ?_
                          exact J119 (0 : Int32) (by unfold own_xa; simp [h151, h152])
                        · show own_W p e below _ T110 (mkF m 240 #[.val (.long q0), .second, .val (.long q1), .second, .val (.long q2), .second, .val (.int p3), .val (.long cc), .second, .val (.long ca), .second, .val (.long cb), .second, .val (.int b1), .val (.int b2), .val (.int b3), .val (.ref a30), .val (.int ew), .val (.int (own_get g3 cc)), .val (.int xa), .unset] [])
                          refine own_iconst X112 hx 241 (1 : Int32) (by decide) (hb hby at_240) rfl ?_
                          refine own_goto X112 hx 245 (hb hby at_241) (by decide) (by decide) ?_
                          exact J119 (1 : Int32) (by unfold own_xa; simp [h151, h152])
                      · show own_W p e below _ T110 (mkF m 219 #[.val (.long q0), .second, .val (.long q1), .second, .val (.long q2), .second, .val (.int p3), .val (.long cc), .second, .val (.long ca), .second, .val (.long cb), .second, .val (.int b1), .val (.int b2), .val (.int b3), .val (.ref a30), .val (.int ew), .val (.int (own_get g3 cc)), .val (.int xa), .unset] [])
                        refine own_iload X112 hx 221 (hb hby at_219) rfl rfl ?_
                        refine own_if_eq X112 hx 244 224 (hb hby at_221) (by decide) (by decide) rfl (fun h153 => ?_) (fun h153 => ?_)
                        · show own_W p e below _ T110 (mkF m 244 #[.val (.long q0), .second, .val (.long q1), .second, .val (.long q2), .second, .val (.int p3), .val (.long cc), .second, .val (.long ca), .second, .val (.long cb), .second, .val (.int b1), .val (.int b2), .val (.int b3), .val (.ref a30), .val (.int ew), .val (.int (own_get g3 cc)), .val (.int xa), .unset] [])
                          refine own_iconst X112 hx 245 (0 : Int32) (by decide) (hb hby at_244) rfl ?_
                          exact J119 (0 : Int32) (by unfold own_xa; simp [h151, h153])
                        · show own_W p e below _ T110 (mkF m 224 #[.val (.long q0), .second, .val (.long q1), .second, .val (.long q2), .second, .val (.int p3), .val (.long cc), .second, .val (.long ca), .second, .val (.long cb), .second, .val (.int b1), .val (.int b2), .val (.int b3), .val (.ref a30), .val (.int ew), .val (.int (own_get g3 cc)), .val (.int xa), .unset] [])
                          refine own_lload X112 hx 226 (hb hby at_224) rfl rfl ?_
                          refine own_lload X112 hx 228 (hb hby at_226) rfl rfl ?_
                          refine own_lif_ne X112 hx 229 244 232 (hb hby at_228) rfl (hb hby at_229) (by decide) (by decide) rfl (fun h154 => ?_) (fun h154 => ?_)
                          · show own_W p e below _ T110 (mkF m 244 #[.val (.long q0), .second, .val (.long q1), .second, .val (.long q2), .second, .val (.int p3), .val (.long cc), .second, .val (.long ca), .second, .val (.long cb), .second, .val (.int b1), .val (.int b2), .val (.int b3), .val (.ref a30), .val (.int ew), .val (.int (own_get g3 cc)), .val (.int xa), .unset] [])
                            refine own_iconst X112 hx 245 (0 : Int32) (by decide) (hb hby at_244) rfl ?_
                            exact J119 (0 : Int32) (by unfold own_xa; simp [h151, h153, h154])
                          · show own_W p e below _ T110 (mkF m 232 #[.val (.long q0), .second, .val (.long q1), .second, .val (.long q2), .second, .val (.int p3), .val (.long cc), .second, .val (.long ca), .second, .val (.long cb), .second, .val (.int b1), .val (.int b2), .val (.int b3), .val (.ref a30), .val (.int ew), .val (.int (own_get g3 cc)), .val (.int xa), .unset] [])
                            refine own_lload X112 hx 234 (hb hby at_232) rfl rfl ?_
                            refine own_lload X112 hx 236 (hb hby at_234) rfl rfl ?_
                            refine own_lif_eq X112 hx 237 244 240 (hb hby at_236) rfl (hb hby at_237) (by decide) (by decide) rfl (fun h155 => ?_) (fun h155 => ?_)
                            · show own_W p e below _ T110 (mkF m 244 #[.val (.long q0), .second, .val (.long q1), .second, .val (.long q2), .second, .val (.int p3), .val (.long cc), .second, .val (.long ca), .second, .val (.long cb), .second, .val (.int b1), .val (.int b2), .val (.int b3), .val (.ref a30), .val (.int ew), .val (.int (own_get g3 cc)), .val (.int xa), .unset] [])
                              refine own_iconst X112 hx 245 (0 : Int32) (by decide) (hb hby at_244) rfl ?_
                              exact J119 (0 : Int32) (by unfold own_xa; simp [h151, h153, h154, h155])
                            · show own_W p e below _ T110 (mkF m 240 #[.val (.long q0), .second, .val (.long q1), .second, .val (.long q2), .second, .val (.int p3), .val (.long cc), .second, .val (.long ca), .second, .val (.long cb), .second, .val (.int b1), .val (.int b2), .val (.int b3), .val (.ref a30), .val (.int ew), .val (.int (own_get g3 cc)), .val (.int xa), .unset] [])
                              refine own_iconst X112 hx 241 (1 : Int32) (by decide) (hb hby at_240) rfl ?_
                              refine own_goto X112 hx 245 (hb hby at_241) (by decide) (by decide) ?_
                              exact J119 (1 : Int32) (by unfold own_xa; simp [h151, h153, h154, h155])
                    refine own_if_ne X112 hx 199 186 (hb hby at_183) (by decide) (by decide) rfl (fun h156 => ?_) (fun h156 => ?_)
                    · show own_W p e below _ T110 (mkF m 199 #[.val (.long q0), .second, .val (.long q1), .second, .val (.long q2), .second, .val (.int p3), .val (.long cc), .second, .val (.long ca), .second, .val (.long cb), .second, .val (.int b1), .val (.int b2), .val (.int b3), .val (.ref a30), .val (.int ew), .val (.int (own_get g3 cc)), .unset, .unset] [])
                      refine own_lload X112 hx 201 (hb hby at_199) rfl rfl ?_
                      refine own_lload X112 hx 203 (hb hby at_201) rfl rfl ?_
                      refine own_lif_eq X112 hx 204 211 207 (hb hby at_203) rfl (hb hby at_204) (by decide) (by decide) rfl (fun h157 => ?_) (fun h157 => ?_)
                      · show own_W p e below _ T110 (mkF m 211 #[.val (.long q0), .second, .val (.long q1), .second, .val (.long q2), .second, .val (.int p3), .val (.long cc), .second, .val (.long ca), .second, .val (.long cb), .second, .val (.int b1), .val (.int b2), .val (.int b3), .val (.ref a30), .val (.int ew), .val (.int (own_get g3 cc)), .unset, .unset] [])
                        refine own_iconst X112 hx 212 (0 : Int32) (by decide) (hb hby at_211) rfl ?_
                        exact J117 (0 : Int32) (by unfold own_xa; simp [h156, h157])
                      · show own_W p e below _ T110 (mkF m 207 #[.val (.long q0), .second, .val (.long q1), .second, .val (.long q2), .second, .val (.int p3), .val (.long cc), .second, .val (.long ca), .second, .val (.long cb), .second, .val (.int b1), .val (.int b2), .val (.int b3), .val (.ref a30), .val (.int ew), .val (.int (own_get g3 cc)), .unset, .unset] [])
                        refine own_iconst X112 hx 208 (1 : Int32) (by decide) (hb hby at_207) rfl ?_
                        refine own_goto X112 hx 212 (hb hby at_208) (by decide) (by decide) ?_
                        exact J117 (1 : Int32) (by unfold own_xa; simp [h156, h157])
                    · show own_W p e below _ T110 (mkF m 186 #[.val (.long q0), .second, .val (.long q1), .second, .val (.long q2), .second, .val (.int p3), .val (.long cc), .second, .val (.long ca), .second, .val (.long cb), .second, .val (.int b1), .val (.int b2), .val (.int b3), .val (.ref a30), .val (.int ew), .val (.int (own_get g3 cc)), .unset, .unset] [])
                      refine own_iload X112 hx 188 (hb hby at_186) rfl rfl ?_
                      refine own_if_eq X112 hx 211 191 (hb hby at_188) (by decide) (by decide) rfl (fun h158 => ?_) (fun h158 => ?_)
                      · show own_W p e below _ T110 (mkF m 211 #[.val (.long q0), .second, .val (.long q1), .second, .val (.long q2), .second, .val (.int p3), .val (.long cc), .second, .val (.long ca), .second, .val (.long cb), .second, .val (.int b1), .val (.int b2), .val (.int b3), .val (.ref a30), .val (.int ew), .val (.int (own_get g3 cc)), .unset, .unset] [])
                        refine own_iconst X112 hx 212 (0 : Int32) (by decide) (hb hby at_211) rfl ?_
                        exact J117 (0 : Int32) (by unfold own_xa; simp [h156, h158])
                      · show own_W p e below _ T110 (mkF m 191 #[.val (.long q0), .second, .val (.long q1), .second, .val (.long q2), .second, .val (.int p3), .val (.long cc), .second, .val (.long ca), .second, .val (.long cb), .second, .val (.int b1), .val (.int b2), .val (.int b3), .val (.ref a30), .val (.int ew), .val (.int (own_get g3 cc)), .unset, .unset] [])
                        refine own_lload X112 hx 193 (hb hby at_191) rfl rfl ?_
                        refine own_lload X112 hx 195 (hb hby at_193) rfl rfl ?_
                        refine own_lif_ne X112 hx 196 211 199 (hb hby at_195) rfl (hb hby at_196) (by decide) (by decide) rfl (fun h159 => ?_) (fun h159 => ?_)
                        · show own_W p e below _ T110 (mkF m 211 #[.val (.long q0), .second, .val (.long q1), .second, .val (.long q2), .second, .val (.int p3), .val (.long cc), .second, .val (.long ca), .second, .val (.long cb), .second, .val (.int b1), .val (.int b2), .val (.int b3), .val (.ref a30), .val (.int ew), .val (.int (own_get g3 cc)), .unset, .unset] [])
                          refine own_iconst X112 hx 212 (0 : Int32) (by decide) (hb hby at_211) rfl ?_
                          exact J117 (0 : Int32) (by unfold own_xa; simp [h156, h158, h159])
                        · show own_W p e below _ T110 (mkF m 199 #[.val (.long q0), .second, .val (.long q1), .second, .val (.long q2), .second, .val (.int p3), .val (.long cc), .second, .val (.long ca), .second, .val (.long cb), .second, .val (.int b1), .val (.int b2), .val (.int b3), .val (.ref a30), .val (.int ew), .val (.int (own_get g3 cc)), .unset, .unset] [])
                          refine own_lload X112 hx 201 (hb hby at_199) rfl rfl ?_
                          refine own_lload X112 hx 203 (hb hby at_201) rfl rfl ?_
                          refine own_lif_eq X112 hx 204 211 207 (hb hby at_203) rfl (hb hby at_204) (by decide) (by decide) rfl (fun h160 => ?_) (fun h160 => ?_)
                          · show own_W p e below _ T110 (mkF m 211 #[.val (.long q0), .second, .val (.long q1), .second, .val (.long q2), .second, .val (.int p3), .val (.long cc), .second, .val (.long ca), .second, .val (.long cb), .second, .val (.int b1), .val (.int b2), .val (.int b3), .val (.ref a30), .val (.int ew), .val (.int (own_get g3 cc)), .unset, .unset] [])
                            refine own_iconst X112 hx 212 (0 : Int32) (by decide) (hb hby at_211) rfl ?_
                            exact J117 (0 : Int32) (by unfold own_xa; simp [h156, h158, h159, h160])
                          · show own_W p e below _ T110 (mkF m 207 #[.val (.long q0), .second, .val (.long q1), .second, .val (.long q2), .second, .val (.int p3), .val (.long cc), .second, .val (.long ca), .second, .val (.long cb), .second, .val (.int b1), .val (.int b2), .val (.int b3), .val (.ref a30), .val (.int ew), .val (.int (own_get g3 cc)), .unset, .unset] [])
                            refine own_iconst X112 hx 208 (1 : Int32) (by decide) (hb hby at_207) rfl ?_
                            refine own_goto X112 hx 212 (hb hby at_208) (by decide) (by decide) ?_
                            exact J117 (1 : Int32) (by unfold own_xa; simp [h156, h158, h159, h160])
                  · exact absurd (own_p2 _ _ (own_rg _ _ e_cc)) h116
                · exact absurd ((own_p1 b1 b2 b3 ca cb cc g1 g2 g3 (own_rg _ _ e_ca) (own_rg _ _ e_cb) (own_rg _ _ e_cc) hj68 hj80 hj92).trans hj94.symm) h108
              refine own_if_ne X85 hx 144 118 (hb hby at_115) (by decide) (by decide) rfl (fun h161 => ?_) (fun h161 => ?_)
              · show own_W p e below _ T82 (mkF m 144 #[.val (.long q0), .second, .val (.long q1), .second, .val (.long q2), .second, .val (.int p3), .val (.long cc), .second, .val (.long ca), .second, .val (.long cb), .second, .val (.int b1), .val (.int b2), .val (.int b3), .val (.ref a30), .unset, .unset, .unset, .unset] [])
                refine own_iconst X85 hx 145 (1 : Int32) (by decide) (hb hby at_144) rfl ?_
                refine own_goto X85 hx 149 (hb hby at_145) (by decide) (by decide) ?_
                exact J93 (1 : Int32) (by unfold own_ew; simp [h161])
              · show own_W p e below _ T82 (mkF m 118 #[.val (.long q0), .second, .val (.long q1), .second, .val (.long q2), .second, .val (.int p3), .val (.long cc), .second, .val (.long ca), .second, .val (.long cb), .second, .val (.int b1), .val (.int b2), .val (.int b3), .val (.ref a30), .unset, .unset, .unset, .unset] [])
                refine own_iload X85 hx 120 (hb hby at_118) rfl rfl ?_
                refine own_if_eq X85 hx 131 123 (hb hby at_120) (by decide) (by decide) rfl (fun h162 => ?_) (fun h162 => ?_)
                · show own_W p e below _ T82 (mkF m 131 #[.val (.long q0), .second, .val (.long q1), .second, .val (.long q2), .second, .val (.int p3), .val (.long cc), .second, .val (.long ca), .second, .val (.long cb), .second, .val (.int b1), .val (.int b2), .val (.int b3), .val (.ref a30), .unset, .unset, .unset, .unset] [])
                  refine own_iload X85 hx 133 (hb hby at_131) rfl rfl ?_
                  refine own_if_eq X85 hx 148 136 (hb hby at_133) (by decide) (by decide) rfl (fun h163 => ?_) (fun h163 => ?_)
                  · show own_W p e below _ T82 (mkF m 148 #[.val (.long q0), .second, .val (.long q1), .second, .val (.long q2), .second, .val (.int p3), .val (.long cc), .second, .val (.long ca), .second, .val (.long cb), .second, .val (.int b1), .val (.int b2), .val (.int b3), .val (.ref a30), .unset, .unset, .unset, .unset] [])
                    refine own_iconst X85 hx 149 (0 : Int32) (by decide) (hb hby at_148) rfl ?_
                    exact J93 (0 : Int32) (by unfold own_ew; simp [h161, h162, h163])
                  · show own_W p e below _ T82 (mkF m 136 #[.val (.long q0), .second, .val (.long q1), .second, .val (.long q2), .second, .val (.int p3), .val (.long cc), .second, .val (.long ca), .second, .val (.long cb), .second, .val (.int b1), .val (.int b2), .val (.int b3), .val (.ref a30), .unset, .unset, .unset, .unset] [])
                    refine own_lload X85 hx 138 (hb hby at_136) rfl rfl ?_
                    refine own_lload X85 hx 140 (hb hby at_138) rfl rfl ?_
                    refine own_lif_ne X85 hx 141 148 144 (hb hby at_140) rfl (hb hby at_141) (by decide) (by decide) rfl (fun h164 => ?_) (fun h164 => ?_)
                    · show own_W p e below _ T82 (mkF m 148 #[.val (.long q0), .second, .val (.long q1), .second, .val (.long q2), .second, .val (.int p3), .val (.long cc), .second, .val (.long ca), .second, .val (.long cb), .second, .val (.int b1), .val (.int b2), .val (.int b3), .val (.ref a30), .unset, .unset, .unset, .unset] [])
                      refine own_iconst X85 hx 149 (0 : Int32) (by decide) (hb hby at_148) rfl ?_
                      exact J93 (0 : Int32) (by unfold own_ew; simp [h161, h162, h163, h164])
                    · show own_W p e below _ T82 (mkF m 144 #[.val (.long q0), .second, .val (.long q1), .second, .val (.long q2), .second, .val (.int p3), .val (.long cc), .second, .val (.long ca), .second, .val (.long cb), .second, .val (.int b1), .val (.int b2), .val (.int b3), .val (.ref a30), .unset, .unset, .unset, .unset] [])
                      refine own_iconst X85 hx 145 (1 : Int32) (by decide) (hb hby at_144) rfl ?_
                      refine own_goto X85 hx 149 (hb hby at_145) (by decide) (by decide) ?_
                      exact J93 (1 : Int32) (by unfold own_ew; simp [h161, h162, h163, h164])
                · show own_W p e below _ T82 (mkF m 123 #[.val (.long q0), .second, .val (.long q1), .second, .val (.long q2), .second, .val (.int p3), .val (.long cc), .second, .val (.long ca), .second, .val (.long cb), .second, .val (.int b1), .val (.int b2), .val (.int b3), .val (.ref a30), .unset, .unset, .unset, .unset] [])
                  refine own_lload X85 hx 125 (hb hby at_123) rfl rfl ?_
                  refine own_lload X85 hx 127 (hb hby at_125) rfl rfl ?_
                  refine own_lif_eq X85 hx 128 144 131 (hb hby at_127) rfl (hb hby at_128) (by decide) (by decide) rfl (fun h165 => ?_) (fun h165 => ?_)
                  · show own_W p e below _ T82 (mkF m 144 #[.val (.long q0), .second, .val (.long q1), .second, .val (.long q2), .second, .val (.int p3), .val (.long cc), .second, .val (.long ca), .second, .val (.long cb), .second, .val (.int b1), .val (.int b2), .val (.int b3), .val (.ref a30), .unset, .unset, .unset, .unset] [])
                    refine own_iconst X85 hx 145 (1 : Int32) (by decide) (hb hby at_144) rfl ?_
                    refine own_goto X85 hx 149 (hb hby at_145) (by decide) (by decide) ?_
                    exact J93 (1 : Int32) (by unfold own_ew; simp [h161, h162, h165])
                  · show own_W p e below _ T82 (mkF m 131 #[.val (.long q0), .second, .val (.long q1), .second, .val (.long q2), .second, .val (.int p3), .val (.long cc), .second, .val (.long ca), .second, .val (.long cb), .second, .val (.int b1), .val (.int b2), .val (.int b3), .val (.ref a30), .unset, .unset, .unset, .unset] [])
                    refine own_iload X85 hx 133 (hb hby at_131) rfl rfl ?_
                    refine own_if_eq X85 hx 148 136 (hb hby at_133) (by decide) (by decide) rfl (fun h166 => ?_) (fun h166 => ?_)
                    · show own_W p e below _ T82 (mkF m 148 #[.val (.long q0), .second, .val (.long q1), .second, .val (.long q2), .second, .val (.int p3), .val (.long cc), .second, .val (.long ca), .second, .val (.long cb), .second, .val (.int b1), .val (.int b2), .val (.int b3), .val (.ref a30), .unset, .unset, .unset, .unset] [])
                      refine own_iconst X85 hx 149 (0 : Int32) (by decide) (hb hby at_148) rfl ?_
                      exact J93 (0 : Int32) (by unfold own_ew; simp [h161, h162, h165, h166])
                    · show own_W p e below _ T82 (mkF m 136 #[.val (.long q0), .second, .val (.long q1), .second, .val (.long q2), .second, .val (.int p3), .val (.long cc), .second, .val (.long ca), .second, .val (.long cb), .second, .val (.int b1), .val (.int b2), .val (.int b3), .val (.ref a30), .unset, .unset, .unset, .unset] [])
                      refine own_lload X85 hx 138 (hb hby at_136) rfl rfl ?_
                      refine own_lload X85 hx 140 (hb hby at_138) rfl rfl ?_
                      refine own_lif_ne X85 hx 141 148 144 (hb hby at_140) rfl (hb hby at_141) (by decide) (by decide) rfl (fun h167 => ?_) (fun h167 => ?_)
                      · show own_W p e below _ T82 (mkF m 148 #[.val (.long q0), .second, .val (.long q1), .second, .val (.long q2), .second, .val (.int p3), .val (.long cc), .second, .val (.long ca), .second, .val (.long cb), .second, .val (.int b1), .val (.int b2), .val (.int b3), .val (.ref a30), .unset, .unset, .unset, .unset] [])
                        refine own_iconst X85 hx 149 (0 : Int32) (by decide) (hb hby at_148) rfl ?_
                        exact J93 (0 : Int32) (by unfold own_ew; simp [h161, h162, h165, h166, h167])
                      · show own_W p e below _ T82 (mkF m 144 #[.val (.long q0), .second, .val (.long q1), .second, .val (.long q2), .second, .val (.int p3), .val (.long cc), .second, .val (.long ca), .second, .val (.long cb), .second, .val (.int b1), .val (.int b2), .val (.int b3), .val (.ref a30), .unset, .unset, .unset, .unset] [])
                        refine own_iconst X85 hx 145 (1 : Int32) (by decide) (hb hby at_144) rfl ?_
                        refine own_goto X85 hx 149 (hb hby at_145) (by decide) (by decide) ?_
                        exact J93 (1 : Int32) (by unfold own_ew; simp [h161, h162, h165, h166, h167])
            refine own_if_eq X73 hx 113 105 (hb hby at_102) (by decide) (by decide) rfl (fun h168 => ?_) (fun h168 => ?_)
            · show own_W p e below _ T70 (mkF m 113 #[.val (.long q0), .second, .val (.long q1), .second, .val (.long q2), .second, .val (.int p3), .val (.long cc), .second, .val (.long ca), .second, .val (.long cb), .second, .val (.int b1), .val (.int b2), .val (.int b3), .val (.ref a30), .unset, .unset, .unset, .unset] [])
              exact J81  T70 _ _ g2 X73 e74 N75 Z76 f77 f78 f79 (by unfold own_sets; rw [if_pos h168])
            · show own_W p e below _ T70 (mkF m 105 #[.val (.long q0), .second, .val (.long q1), .second, .val (.long q2), .second, .val (.int p3), .val (.long cc), .second, .val (.long ca), .second, .val (.long cb), .second, .val (.int b1), .val (.int b2), .val (.int b3), .val (.ref a30), .unset, .unset, .unset, .unset] [])
              refine own_aload X73 hx 107 (hb hby at_105) rfl rfl ?_
              refine own_lload X73 hx 109 (hb hby at_107) rfl rfl ?_
              refine own_callV X73 hx hZ hown e74 (y := (⟨"com/example/urd/urd/PartitionedBits", "set", "(J)Z"⟩ : MethodName)) (a := a30) (argsL := [(.long cc)]) (rest := []) 112 (rm4 l Z a0 hw a30 t46 cc g2 h72 n0 Z76 (own_rg _ _ e_cc) na50 gt49 f78 f79) f77 (hw _ (List.mem_of_getElem? (i := 21) rfl)) (hw _ (List.mem_of_getElem? (i := 22) rfl)) (hw _ (List.mem_of_getElem? (i := 24) rfl)) (hw _ (List.mem_of_getElem? (i := 23) rfl)) (hw _ (List.mem_of_getElem? (i := 8) rfl)) (hw _ (List.mem_of_getElem? (i := 25) rfl)) (by decide) (by rw [hml]; rfl) (lenOf (by decide +kernel : parseMethodDescriptor "(J)Z" = some ⟨[.long], some .boolean⟩) rfl) rfl (hb hby at_109) rfl (W := 0) rfl (by decide) (by decide) (by decide) (by decide) (fun r169 T170 L171 X172 q173 => ?_)
              obtain ⟨r174, rfl, q175⟩ := q173
              obtain ⟨N176q, K177, f178, f179⟩ := q175
              have N176 := Fr.app N75 N176q
              have f180 := f77.keep K177
              have f181 := f78.keep K177 (ninS na50 nin0)
              have Z183 : n0 ≤ T170.heap.size := Nat.le_trans Z76 K177.1
              show own_W p e below _ T170 (mkF m 112 #[.val (.long q0), .second, .val (.long q1), .second, .val (.long q2), .second, .val (.int p3), .val (.long cc), .second, .val (.long ca), .second, .val (.long cb), .second, .val (.int b1), .val (.int b2), .val (.int b3), .val (.ref a30), .unset, .unset, .unset, .unset] [(.int r174)])
              refine own_pop X172 hx 113 rfl (hb hby at_112) rfl ?_
              exact J81  T170 _ _ (own_set g2 cc) X172 rfl N176 Z183 f180 f178 f179 (by unfold own_sets; rw [if_neg h168])
          refine own_if_eq X61 hx 100 92 (hb hby at_89) (by decide) (by decide) rfl (fun h184 => ?_) (fun h184 => ?_)
          · show own_W p e below _ T58 (mkF m 100 #[.val (.long q0), .second, .val (.long q1), .second, .val (.long q2), .second, .val (.int p3), .val (.long cc), .second, .val (.long ca), .second, .val (.long cb), .second, .val (.int b1), .val (.int b2), .val (.int b3), .val (.ref a30), .unset, .unset, .unset, .unset] [])
            exact J69  T58 _ _ g1 X61 e62 N63 Z64 f65 f66 f67 (by unfold own_sets; rw [if_pos h184])
          · show own_W p e below _ T58 (mkF m 92 #[.val (.long q0), .second, .val (.long q1), .second, .val (.long q2), .second, .val (.int p3), .val (.long cc), .second, .val (.long ca), .second, .val (.long cb), .second, .val (.int b1), .val (.int b2), .val (.int b3), .val (.ref a30), .unset, .unset, .unset, .unset] [])
            refine own_aload X61 hx 94 (hb hby at_92) rfl rfl ?_
            refine own_lload X61 hx 96 (hb hby at_94) rfl rfl ?_
            refine own_callV X61 hx hZ hown e62 (y := (⟨"com/example/urd/urd/PartitionedBits", "set", "(J)Z"⟩ : MethodName)) (a := a30) (argsL := [(.long cb)]) (rest := []) 99 (rm4 l Z a0 hw a30 t46 cb g1 h60 n0 Z64 (own_rg _ _ e_cb) na50 gt49 f66 f67) f65 (hw _ (List.mem_of_getElem? (i := 21) rfl)) (hw _ (List.mem_of_getElem? (i := 22) rfl)) (hw _ (List.mem_of_getElem? (i := 24) rfl)) (hw _ (List.mem_of_getElem? (i := 23) rfl)) (hw _ (List.mem_of_getElem? (i := 8) rfl)) (hw _ (List.mem_of_getElem? (i := 25) rfl)) (by decide) (by rw [hml]; rfl) (lenOf (by decide +kernel : parseMethodDescriptor "(J)Z" = some ⟨[.long], some .boolean⟩) rfl) rfl (hb hby at_96) rfl (W := 0) rfl (by decide) (by decide) (by decide) (by decide) (fun r185 T186 L187 X188 q189 => ?_)
            obtain ⟨r190, rfl, q191⟩ := q189
            obtain ⟨N192q, K193, f194, f195⟩ := q191
            have N192 := Fr.app N63 N192q
            have f196 := f65.keep K193
            have f197 := f66.keep K193 (ninS na50 nin0)
            have Z199 : n0 ≤ T186.heap.size := Nat.le_trans Z64 K193.1
            show own_W p e below _ T186 (mkF m 99 #[.val (.long q0), .second, .val (.long q1), .second, .val (.long q2), .second, .val (.int p3), .val (.long cc), .second, .val (.long ca), .second, .val (.long cb), .second, .val (.int b1), .val (.int b2), .val (.int b3), .val (.ref a30), .unset, .unset, .unset, .unset] [(.int r190)])
            refine own_pop X188 hx 100 rfl (hb hby at_99) rfl ?_
            exact J69  T186 _ _ (own_set g1 cb) X188 rfl N192 Z199 f196 f194 f195 (by unfold own_sets; rw [if_neg h184])
        refine own_if_eq X44 hx 87 79 (hb hby at_76) (by decide) (by decide) rfl (fun h200 => ?_) (fun h200 => ?_)
        · show own_W p e below _ T42 (mkF m 87 #[.val (.long q0), .second, .val (.long q1), .second, .val (.long q2), .second, .val (.int p3), .val (.long cc), .second, .val (.long ca), .second, .val (.long cb), .second, .val (.int b1), .val (.int b2), .val (.int b3), .val (.ref a30), .unset, .unset, .unset, .unset] [])
          exact J57  T42 _ _ (fun _ => 0) X44 rfl N47 Z56 f53 f51 f52 (by unfold own_sets; rw [if_pos h200])
        · show own_W p e below _ T42 (mkF m 79 #[.val (.long q0), .second, .val (.long q1), .second, .val (.long q2), .second, .val (.int p3), .val (.long cc), .second, .val (.long ca), .second, .val (.long cb), .second, .val (.int b1), .val (.int b2), .val (.int b3), .val (.ref a30), .unset, .unset, .unset, .unset] [])
          refine own_aload X44 hx 81 (hb hby at_79) rfl rfl ?_
          refine own_lload X44 hx 83 (hb hby at_81) rfl rfl ?_
          refine own_callV X44 hx hZ hown rfl (y := (⟨"com/example/urd/urd/PartitionedBits", "set", "(J)Z"⟩ : MethodName)) (a := a30) (argsL := [(.long ca)]) (rest := []) 86 (rm4 l Z a0 hw a30 t46 ca (fun _ => 0) T42.heap n0 Z56 (own_rg _ _ e_ca) na50 gt49 f51 f52) f53 (hw _ (List.mem_of_getElem? (i := 21) rfl)) (hw _ (List.mem_of_getElem? (i := 22) rfl)) (hw _ (List.mem_of_getElem? (i := 24) rfl)) (hw _ (List.mem_of_getElem? (i := 23) rfl)) (hw _ (List.mem_of_getElem? (i := 8) rfl)) (hw _ (List.mem_of_getElem? (i := 25) rfl)) (by decide) (by rw [hml]; rfl) (lenOf (by decide +kernel : parseMethodDescriptor "(J)Z" = some ⟨[.long], some .boolean⟩) rfl) rfl (hb hby at_83) rfl (W := 0) rfl (by decide) (by decide) (by decide) (by decide) (fun r201 T202 L203 X204 q205 => ?_)
          obtain ⟨r206, rfl, q207⟩ := q205
          obtain ⟨N208q, K209, f210, f211⟩ := q207
          have N208 := Fr.app N47 N208q
          have f212 := f53.keep K209
          have f213 := f51.keep K209 (ninS na50 nin0)
          have Z215 : n0 ≤ T202.heap.size := Nat.le_trans Z56 K209.1
          show own_W p e below _ T202 (mkF m 86 #[.val (.long q0), .second, .val (.long q1), .second, .val (.long q2), .second, .val (.int p3), .val (.long cc), .second, .val (.long ca), .second, .val (.long cb), .second, .val (.int b1), .val (.int b2), .val (.int b3), .val (.ref a30), .unset, .unset, .unset, .unset] [(.int r206)])
          refine own_pop X204 hx 87 rfl (hb hby at_86) rfl ?_
          exact J57  T202 _ _ (own_set (fun _ => 0) ca) X204 rfl N208 Z215 f212 f210 f211 (by unfold own_sets; rw [if_neg h200])
      refine own_if_eq X18 hx 58 54 (hb hby at_51) (by decide) (by decide) rfl (fun h216 => ?_) (fun h216 => ?_)
      · show own_W p e below _ T16 (mkF m 58 #[.val (.long q0), .second, .val (.long q1), .second, .val (.long q2), .second, .val (.int p3), .val (.long cc), .second, .val (.long ca), .second, .val (.long cb), .second, .val (.int b1), .val (.int b2), .unset, .unset, .unset, .unset, .unset, .unset] [])
        refine own_iconst X18 hx 59 (0 : Int32) (by decide) (hb hby at_58) rfl ?_
        exact J26 (0 : Int32) (by decide)
      · show own_W p e below _ T16 (mkF m 54 #[.val (.long q0), .second, .val (.long q1), .second, .val (.long q2), .second, .val (.int p3), .val (.long cc), .second, .val (.long ca), .second, .val (.long cb), .second, .val (.int b1), .val (.int b2), .unset, .unset, .unset, .unset, .unset, .unset] [])
        refine own_iconst X18 hx 55 (1 : Int32) (by decide) (hb hby at_54) rfl ?_
        refine own_goto X18 hx 59 (hb hby at_55) (by decide) (by decide) ?_
        exact J26 (1 : Int32) (by decide)
    refine own_if_eq X18 hx 44 40 (hb hby at_37) (by decide) (by decide) rfl (fun h217 => ?_) (fun h217 => ?_)
    · show own_W p e below _ T16 (mkF m 44 #[.val (.long q0), .second, .val (.long q1), .second, .val (.long q2), .second, .val (.int p3), .val (.long cc), .second, .val (.long ca), .second, .val (.long cb), .second, .val (.int b1), .unset, .unset, .unset, .unset, .unset, .unset, .unset] [])
      refine own_iconst X18 hx 45 (0 : Int32) (by decide) (hb hby at_44) rfl ?_
      exact J24 (0 : Int32) (by decide)
    · show own_W p e below _ T16 (mkF m 40 #[.val (.long q0), .second, .val (.long q1), .second, .val (.long q2), .second, .val (.int p3), .val (.long cc), .second, .val (.long ca), .second, .val (.long cb), .second, .val (.int b1), .unset, .unset, .unset, .unset, .unset, .unset, .unset] [])
      refine own_iconst X18 hx 41 (1 : Int32) (by decide) (hb hby at_40) rfl ?_
      refine own_goto X18 hx 45 (hb hby at_41) (by decide) (by decide) ?_
      exact J24 (1 : Int32) (by decide)
  refine own_if_eq X18 hx 30 26 (hb hby at_23) (by decide) (by decide) rfl (fun h218 => ?_) (fun h218 => ?_)
  · show own_W p e below _ T16 (mkF m 30 #[.val (.long q0), .second, .val (.long q1), .second, .val (.long q2), .second, .val (.int p3), .val (.long cc), .second, .val (.long ca), .second, .val (.long cb), .second, .unset, .unset, .unset, .unset, .unset, .unset, .unset, .unset] [])
    refine own_iconst X18 hx 31 (0 : Int32) (by decide) (hb hby at_30) rfl ?_
    exact J22 (0 : Int32) (by decide)
  · show own_W p e below _ T16 (mkF m 26 #[.val (.long q0), .second, .val (.long q1), .second, .val (.long q2), .second, .val (.int p3), .val (.long cc), .second, .val (.long ca), .second, .val (.long cb), .second, .unset, .unset, .unset, .unset, .unset, .unset, .unset, .unset] [])
    refine own_iconst X18 hx 27 (1 : Int32) (by decide) (hb hby at_26) rfl ?_
    refine own_goto X18 hx 31 (hb hby at_27) (by decide) (by decide) ?_
    exact J22 (1 : Int32) (by decide)
set_option maxRecDepth 65536 in
set_option maxHeartbeats 40000000 in
theorem comes_1 {Post : Tables → Env → Array Value → State → Outcome → State → Prop} (hpost : ∀ tb e args s v u, (limb_1_1.after args s (.returned v) u = true ∧ limb_1_2.after args s (.returned v) u = true ∧ True) → FrameEnd s (.returned v) u (Jvm.fieldLocs frame_1_writes args s ++ Jvm.arrayLocs frame_1_arrays args s ++ Jvm.staticLocs frame_1_statics s) 16 128 → Post tb e args s (.returned v) u) :
    ArmFor flags0 classFile x code maxLocals ret World_1 tables_1 room_1 Calls_1 rest_1 Pre_1 Post := by
  intro l hfl _ _ p e ha hc hk s m args below hf hA hF happ hP
  obtain ⟨hcalls, hrest, hpre⟩ := hP
  obtain ⟨-, -, -, hnamed, -, -, -, hat⟩ := (Spec.applies_iff hf).mp happ
  obtain ⟨hg, hn⟩ := and_e (Cond.before_iff.mp (show (Jvm.Cond.and given_1 narrow_1).before args s = true from hpre))
  obtain ⟨g0, gr0⟩ := and_e hg
  obtain ⟨g1, gr1⟩ := and_e gr0
  obtain ⟨g2, gr2⟩ := and_e gr1
  obtain ⟨g3, gr3⟩ := and_e gr2
  obtain ⟨w0, w1, w2, w3, rfl⟩ : ∃ w0 w1 w2 w3 : Value, args = #[w0, w1, w2, w3] := by
    have hs : args.size = 4 := by simpa [Cond.value, given_1] using g0
    obtain ⟨L⟩ := args
    match L, hs with
    | [w0, w1, w2, w3], _ => exact ⟨w0, w1, w2, w3, rfl⟩
  have hw := fun d (hd : d ∈ tables_1) => atoms_spec (ws := Jvm.Cond.code x code maxLocals ret :: tables_1) hat d (List.mem_cons_of_mem _ hd)
  obtain ⟨i0, ei0⟩ := isL_v g1
  obtain rfl : w0 = (.long i0) := Option.some.inj ei0
  obtain ⟨i1, ei1⟩ := isL_v g2
  obtain rfl : w1 = (.long i1) := Option.some.inj ei1
  obtain ⟨i2, ei2⟩ := isL_v g3
  obtain rfl : w2 = (.long i2) := Option.some.inj ei2
  obtain ⟨i3, ei3⟩ := is_v gr3
  obtain rfl : w3 = (.int i3) := Option.some.inj ei3
  obtain ⟨n, o, h1, h2, h3, _, L, rfl, ⟨rfl, N⟩, hq⟩ := rm0 l s _ hw i0 i1 i2 i3 s.heap s.heap.size (Nat.le_refl _) p e ha hc hk s m _ below hf ((Spec.applies_iff_loose hf).mp happ).1 ⟨rfl, State.Warmed39.refl s, rfl⟩ trivial
  refine ⟨n, _, h1, h2, h3, hpost _ _ _ _ _ _ ⟨Cond.after_iff.mpr rfl, Cond.after_iff.mpr (eq_i res_at (Term.int_eval (1)) rfl), trivial⟩ ⟨hq.1, hq.2.1, (hq.2.2.sift fun y hy => Or.inr (N y hy)).mono (by decide) (by decide)⟩⟩
theorem main_1_1 : Claimed_1_1 := comes_1 fun _ _ _ _ _ _ h hF => ⟨h.1, hF⟩
theorem main_1_2 : Claimed_1_2 := comes_1 fun _ _ _ _ _ _ h hF => ⟨h.2.1, hF⟩
end Jvm.Pilot.@@N@@
namespace Jvm.Pilot.@@N@@
open Jvm Jvm.ClassFile Sem Op Lib Jvm.Free Jvm.Stand Jvm.Pilot.@@N@@.Jvm.D
/-! MADE BY PROGRAM (witnessworld.py) out of the Statement's table words and the real class files: 11 classes; the members and pool entries that the words name. The judged class is class 1, her method 2. -/
namespace start1
open Jvm.ClassFile
def u (s : String) : CpInfo := .utf8 (stringToUtf16 s)
/-- a pool by its gaps: so many unusable entries, then the entry; so many at the end -/
def gap : Nat → List CpInfo → List CpInfo
  | 0, r => r
  | n + 1, r => .unusable :: gap n r
def poolList (es : List (Nat × CpInfo)) (last : Nat) : List CpInfo := es.foldr (fun e r => gap e.1 (e.2 :: r)) (gap last [])
def pool (es : List (Nat × CpInfo)) (last : Nat) : Array CpInfo := ⟨poolList es last⟩
def fileOf (pool : Array CpInfo) (this : Nat) (attrs : Array Attribute := #[]) (ms : Array MethodInfo := #[]) (fl : Nat := 33) (sup : Nat := 0) (ifs : Array Nat := #[]) (fds : Array FieldInfo := #[]) : ClassFile where
  minorVersion := 0
  majorVersion := 65
  constantPool := pool
  accessFlags := fl
  thisClass := this
  superClass := sup
  interfaces := ifs
  fields := fds
  methods := ms
  attributes := attrs
def plain (name : String) (sup : Option ClassId) : Class where
  name := name
  kind := .ordinary
  loader := none
  accessFlags := 33
  super := sup
  interfaces := #[]
  cf := none
  fields := #[]
  methods := #[]
  instanceTypes := #[]
  staticTypes := #[]
  resolved := #[]
  callSites := []
  init := .initialized
  statics := none
  mirror := none

def pool0 : Array CpInfo := pool [(5, u "<init>"), (0, u "()V"), (1, .class_ 10), (1, u "java/lang/Object")] 113

def k0c0 : Code := { maxStack := 0, maxLocals := 1, code := object_method_1_code, exceptionTable := #[], attributes := #[] }
def k0m0 : Method := { name := "<init>", desc := "()V", sig := { parameters := [], returnType := none }, accessFlags := 1, code := some k0c0 }
/-- java/lang/Object -/
def k0 : Class := { plain "java/lang/Object" none with
  accessFlags := 33
  interfaces := #[]
  cf := some (fileOf pool0 8 #[] #[{ accessFlags := 1, nameIndex := 5, descriptorIndex := 6, attributes := #[] }] 33 0 #[] #[])
  fields := #[]
  methods := #[k0m0]
  instanceTypes := #[]
  staticTypes := #[]
  resolved := Array.replicate 124 none
  statics := none }

def pool1 : Array CpInfo := pool [(2, .class_ 4), (1, u "java/lang/Object"), (0, u "<init>"), (0, u "()V"), (2, .long 9223372036854775807), (1, .long 192), (1, .methodref 14 15), (0, .class_ 16), (0, .nameAndType 17 18), (0, u "com/example/urd/urd/PartitionedBitsClearPinLaw"), (0, u "pick"), (0, u "(J)J"), (0, .class_ 20), (0, u "com/example/urd/urd/PartitionedBits"), (0, .methodref 19 22), (0, .nameAndType 5 23), (0, u "(IJ)V"), (0, .methodref 19 25), (0, .nameAndType 26 27), (0, u "set"), (0, u "(J)Z"), (0, .methodref 19 29), (0, .nameAndType 30 27), (0, u "clear"), (0, .methodref 19 32), (0, .nameAndType 33 27), (0, u "get"), (2, u "law"), (0, u "(JJJI)Z")] 3

def k1m0 : Method := { name := "<init>", desc := "()V", sig := { parameters := [], returnType := none }, accessFlags := 2, code := none }
def k1c1 : Code := { maxStack := 4, maxLocals := 2, code := method_2_code, exceptionTable := #[], attributes := #[] }
def k1m1 : Method := { name := "pick", desc := "(J)J", sig := { parameters := [.long], returnType := some .long }, accessFlags := 10, code := some k1c1 }
def k1c2 : Code := { maxStack := 5, maxLocals := 21, code := code, exceptionTable := #[], attributes := #[] }
def k1m2 : Method := { name := "law", desc := "(JJJI)Z", sig := { parameters := [.long, .long, .long, .int], returnType := some .boolean }, accessFlags := 9, code := some k1c2 }
/-- com/example/urd/urd/PartitionedBitsClearPinLaw -/
def k1 : Class := { plain "com/example/urd/urd/PartitionedBitsClearPinLaw" (some 0) with
  accessFlags := 49
  interfaces := #[]
  cf := some (fileOf pool1 14 #[] #[{ accessFlags := 2, nameIndex := 5, descriptorIndex := 6, attributes := #[] }, { accessFlags := 10, nameIndex := 17, descriptorIndex := 18, attributes := #[] }, { accessFlags := 9, nameIndex := 36, descriptorIndex := 37, attributes := #[] }] 49 2 #[] #[])
  fields := #[]
  methods := #[k1m0, k1m1, k1m2]
  instanceTypes := #[]
  staticTypes := #[]
  resolved := Array.replicate 41 none
  statics := none }

def pool2 : Array CpInfo := pool [(1, .methodref 2 3), (0, .class_ 4), (0, .nameAndType 5 6), (0, u "java/lang/Object"), (0, u "<init>"), (0, u "()V"), (0, .fieldref 8 9), (0, .class_ 10), (0, .nameAndType 11 12), (0, u "com/example/urd/urd/PartitionedBits"), (0, u "cellsPerArray"), (0, u "J"), (2, .long 64), (1, .fieldref 8 18), (0, .nameAndType 19 20), (0, u "words"), (0, u "[J"), (6, .long 18446744073709551615), (7, u "(IJ)V"), (6, u "get"), (0, u "(J)Z"), (1, u "set"), (0, u "clear")] 3

def k2c0 : Code := { maxStack := 5, maxLocals := 4, code := prog_28_method_1_code, exceptionTable := #[], attributes := #[] }
def k2m0 : Method := { name := "<init>", desc := "(IJ)V", sig := { parameters := [.int, .long], returnType := none }, accessFlags := 0, code := some k2c0 }
def k2c1 : Code := { maxStack := 6, maxLocals := 3, code := prog_28_method_4_code, exceptionTable := #[], attributes := #[] }
def k2m1 : Method := { name := "get", desc := "(J)Z", sig := { parameters := [.long], returnType := some .boolean }, accessFlags := 0, code := some k2c1 }
def k2c2 : Code := { maxStack := 6, maxLocals := 7, code := prog_28_method_5_code, exceptionTable := #[], attributes := #[] }
def k2m2 : Method := { name := "set", desc := "(J)Z", sig := { parameters := [.long], returnType := some .boolean }, accessFlags := 0, code := some k2c2 }
def k2c3 : Code := { maxStack := 8, maxLocals := 7, code := prog_28_method_6_code, exceptionTable := #[], attributes := #[] }
def k2m3 : Method := { name := "clear", desc := "(J)Z", sig := { parameters := [.long], returnType := some .boolean }, accessFlags := 0, code := some k2c3 }
/-- com/example/urd/urd/PartitionedBits -/
def k2 : Class := { plain "com/example/urd/urd/PartitionedBits" (some 0) with
  accessFlags := 48
  interfaces := #[]
  cf := some (fileOf pool2 8 #[] #[{ accessFlags := 0, nameIndex := 5, descriptorIndex := 35, attributes := #[] }, { accessFlags := 0, nameIndex := 42, descriptorIndex := 43, attributes := #[] }, { accessFlags := 0, nameIndex := 45, descriptorIndex := 43, attributes := #[] }, { accessFlags := 0, nameIndex := 46, descriptorIndex := 43, attributes := #[] }] 48 2 #[] #[{ accessFlags := 18, nameIndex := 11, descriptorIndex := 12, attributes := #[] }, { accessFlags := 18, nameIndex := 19, descriptorIndex := 20, attributes := #[] }])
  fields := #[{ name := "cellsPerArray", type := .long, accessFlags := 18, slot := 0, constantValue := 0 }, { name := "words", type := (.array .long), accessFlags := 18, slot := 1, constantValue := 0 }]
  methods := #[k2m0, k2m1, k2m2, k2m3]
  instanceTypes := #[.long, (.array .long)]
  staticTypes := #[]
  resolved := Array.replicate 50 none
  statics := none }

def pool3 : Array CpInfo := pool [(1, u "java/lang/Cloneable"), (0, .class_ 1), (0, u "java/lang/Object"), (0, .class_ 3)] 3

/-- java/lang/Cloneable -/
def k3 : Class := { plain "java/lang/Cloneable" (some 0) with
  accessFlags := 1537
  interfaces := #[]
  cf := some (fileOf pool3 2 #[] #[] 1537 4 #[] #[])
  fields := #[]
  methods := #[]
  instanceTypes := #[]
  staticTypes := #[]
  resolved := Array.replicate 8 none
  statics := none }

def pool4 : Array CpInfo := pool [(1, u "java/io/Serializable"), (0, .class_ 1), (0, u "java/lang/Object"), (0, .class_ 3)] 3

/-- java/io/Serializable -/
def k4 : Class := { plain "java/io/Serializable" (some 0) with
  accessFlags := 1537
  interfaces := #[]
  cf := some (fileOf pool4 2 #[] #[] 1537 4 #[] #[])
  fields := #[]
  methods := #[]
  instanceTypes := #[]
  staticTypes := #[]
  resolved := Array.replicate 8 none
  statics := none }

/-- the primitive byte -/
def k5 : Class := { plain "byte" none with kind := .primitive 'B', accessFlags := 0x411 }
/-- [B -/
def k6 : Class := { plain "[B" (some 0) with kind := .array 5 .byte, interfaces := #[3, 4], accessFlags := 1041 }

/-- the primitive int -/
def k7 : Class := { plain "int" none with kind := .primitive 'I', accessFlags := 0x411 }
/-- [I -/
def k8 : Class := { plain "[I" (some 0) with kind := .array 7 .int, interfaces := #[3, 4], accessFlags := 1041 }

/-- the primitive long -/
def k9 : Class := { plain "long" none with kind := .primitive 'J', accessFlags := 0x411 }
/-- [J -/
def k10 : Class := { plain "[J" (some 0) with kind := .array 9 .long, interfaces := #[3, 4], accessFlags := 1041 }

def heap : Heap := #[]
def classes : Array Class := #[k0, k1, k2, k3, k4, k5, k6, k7, k8, k9, k10]
def interned : List (Array UInt16 × Addr) := []
def slotsUsed : Nat := 0
def theMethod : MethodId := ⟨1, 2⟩
def args0 : Array Value := #[.long 7, .long 8, .long 9, .int 5]
def aboutOver (below : List Frame) : State where
  vm := { classes := classes, interned := interned.toArray }
  heap := heap
  slotsUsed := slotsUsed
  threads := #[{ frames := .invoking theMethod args0 :: below }]
def below0 : List Frame := [.native { method := ⟨0, 0⟩, args := #[] }]
def about1 : State := aboutOver below0
def p0 : Program := .bare "" "" ""
def e0 : Env := launch0.env 0 0 0
theorem w_frames : about1.frames = Frame.invoking theMethod args0 :: below0 := rfl
set_option maxRecDepth 65536 in
theorem w_args : argsFit about1.vm theMethod args0 = true := by decide +kernel
set_option maxRecDepth 65536 in
theorem w_heap : heapFits about1 = true := by decide +kernel
set_option maxRecDepth 65536 in
theorem w_runnable : about1.curStatus? = some .runnable := by decide +kernel
set_option maxRecDepth 65536 in
theorem w_alone : about1.alone = true := by decide +kernel
set_option maxRecDepth 65536 in
theorem w_named : about1.methodNamed? x = some theMethod := by decide +kernel
set_option maxRecDepth 65536 in
theorem w_hears : about1.hears theMethod below0 = true := by decide +kernel
set_option maxRecDepth 65536 in
theorem w_ripe : about1.ripe theMethod args0 below0 = true := by decide +kernel
theorem w_running : about1.status = .running := rfl
set_option maxRecDepth 65536 in
theorem w_room : about1.hasRoom e0.platform room_1 = true :=
  launch0.hasRoom_least _ room_1 (by decide +kernel) (by decide +kernel) (by decide +kernel) (by decide +kernel) (by decide +kernel) (by decide +kernel)
theorem allAtoms_all (ts : List Jvm.Cond) (a : Array Jvm.Value) (st : Jvm.State) : (allAtoms ts).before a st = ts.all (fun c => c.before a st) := by
  induction ts with
  | nil => rfl
  | cons c t ih =>
    show (Jvm.Cond.and c (allAtoms t)).before a st = _
    rw [Jvm.Cond.before_and, ih, List.all_cons]
def words1 : List Jvm.Cond := Jvm.Cond.code x code maxLocals ret :: tables_1
/-- a 'code' word, met by the world's own term for the bytes: nothing is compared byte by byte -/
theorem code_word {y : MethodName} {bytes : ByteArray} {mx : Nat} {rt : Option FieldType} {a : Array Value} {s : State} {m : MethodId} {meth : Method} {c : Code} (h1 : s.methodNamed? y = some m) (h2 : s.vm.method? m = some meth) (h3 : meth.code = some c) (h4 : c.code = bytes)
    (h5 : (c.maxLocals == mx && c.exceptionTable.isEmpty && decide (c.maxStack ≤ mostOperands) && decide (meth.sig.returnType = rt) && !meth.locks && decide (parseMethodDescriptor y.desc = some meth.sig)) = true) : (Jvm.Cond.code y bytes mx rt).before a s = true := by
  simp only [Bool.and_eq_true, beq_iff_eq, Bool.not_eq_true', decide_eq_true_eq] at h5
  obtain ⟨⟨⟨⟨⟨g1, g2⟩, g3⟩, g4⟩, g5⟩, g6⟩ := h5
  simp [Cond.before, Cond.holds, Cond.value, h1, h2, h3, h4, g1, g2, g3, g4, g5, g6]
def isCode : Jvm.Cond → Bool
  | .code _ _ _ _ => true
  | _ => false
theorem all_split {L : List Jvm.Cond} {P : Jvm.Cond → Bool} (h1 : L.all (fun c => isCode c || P c) = true) (h2 : ∀ c ∈ L.filter isCode, P c = true) : L.all P = true := by
  refine List.all_eq_true.mpr fun c hc => ?_
  have h := List.all_eq_true.mp h1 c hc
  rcases Bool.eq_false_or_eq_true (isCode c) with hi | hi
  · exact h2 c (List.mem_filter.mpr ⟨hc, hi⟩)
  · simpa [hi] using h
set_option maxRecDepth 65536 in
theorem w_c0 : (Jvm.Cond.code x code maxLocals ret).before args0 about1 = true := code_word (m := ⟨1, 2⟩) (meth := k1m2) (c := k1c2) (by decide +kernel) rfl rfl rfl (by decide +kernel)
set_option maxRecDepth 65536 in
theorem w_c1 : (Jvm.Cond.code ({ cls := "com/example/urd/urd/PartitionedBitsClearPinLaw", name := "pick", desc := "(J)J" } : Jvm.MethodName) method_2_code (2 : Nat) (Option.some Jvm.ClassFile.FieldType.long)).before args0 about1 = true := code_word (m := ⟨1, 1⟩) (meth := k1m1) (c := k1c1) (by decide +kernel) rfl rfl rfl (by decide +kernel)
set_option maxRecDepth 65536 in
theorem w_c2 : (Jvm.Cond.code ({ cls := "com/example/urd/urd/PartitionedBits", name := "<init>", desc := "(IJ)V" } : Jvm.MethodName) prog_28_method_1_code (4 : Nat) (Option.none : Option Jvm.ClassFile.FieldType)).before args0 about1 = true := code_word (m := ⟨2, 0⟩) (meth := k2m0) (c := k2c0) (by decide +kernel) rfl rfl rfl (by decide +kernel)
set_option maxRecDepth 65536 in
theorem w_c3 : (Jvm.Cond.code ({ cls := "java/lang/Object", name := "<init>", desc := "()V" } : Jvm.MethodName) object_method_1_code (1 : Nat) (Option.none : Option Jvm.ClassFile.FieldType)).before args0 about1 = true := code_word (m := ⟨0, 0⟩) (meth := k0m0) (c := k0c0) (by decide +kernel) rfl rfl rfl (by decide +kernel)
set_option maxRecDepth 65536 in
theorem w_c4 : (Jvm.Cond.code ({ cls := "com/example/urd/urd/PartitionedBits", name := "set", desc := "(J)Z" } : Jvm.MethodName) prog_28_method_5_code (7 : Nat) (Option.some Jvm.ClassFile.FieldType.boolean)).before args0 about1 = true := code_word (m := ⟨2, 2⟩) (meth := k2m2) (c := k2c2) (by decide +kernel) rfl rfl rfl (by decide +kernel)
set_option maxRecDepth 65536 in
theorem w_c5 : (Jvm.Cond.code ({ cls := "com/example/urd/urd/PartitionedBits", name := "clear", desc := "(J)Z" } : Jvm.MethodName) prog_28_method_6_code (7 : Nat) (Option.some Jvm.ClassFile.FieldType.boolean)).before args0 about1 = true := code_word (m := ⟨2, 3⟩) (meth := k2m3) (c := k2c3) (by decide +kernel) rfl rfl rfl (by decide +kernel)
set_option maxRecDepth 65536 in
theorem w_c6 : (Jvm.Cond.code ({ cls := "com/example/urd/urd/PartitionedBits", name := "get", desc := "(J)Z" } : Jvm.MethodName) prog_28_method_4_code (3 : Nat) (Option.some Jvm.ClassFile.FieldType.boolean)).before args0 about1 = true := code_word (m := ⟨2, 1⟩) (meth := k2m1) (c := k2c1) (by decide +kernel) rfl rfl rfl (by decide +kernel)
def codes1 : List Jvm.Cond := [Jvm.Cond.code x code maxLocals ret, Jvm.Cond.code ({ cls := "com/example/urd/urd/PartitionedBitsClearPinLaw", name := "pick", desc := "(J)J" } : Jvm.MethodName) method_2_code (2 : Nat) (Option.some Jvm.ClassFile.FieldType.long), Jvm.Cond.code ({ cls := "com/example/urd/urd/PartitionedBits", name := "<init>", desc := "(IJ)V" } : Jvm.MethodName) prog_28_method_1_code (4 : Nat) (Option.none : Option Jvm.ClassFile.FieldType), Jvm.Cond.code ({ cls := "java/lang/Object", name := "<init>", desc := "()V" } : Jvm.MethodName) object_method_1_code (1 : Nat) (Option.none : Option Jvm.ClassFile.FieldType), Jvm.Cond.code ({ cls := "com/example/urd/urd/PartitionedBits", name := "set", desc := "(J)Z" } : Jvm.MethodName) prog_28_method_5_code (7 : Nat) (Option.some Jvm.ClassFile.FieldType.boolean), Jvm.Cond.code ({ cls := "com/example/urd/urd/PartitionedBits", name := "clear", desc := "(J)Z" } : Jvm.MethodName) prog_28_method_6_code (7 : Nat) (Option.some Jvm.ClassFile.FieldType.boolean), Jvm.Cond.code ({ cls := "com/example/urd/urd/PartitionedBits", name := "get", desc := "(J)Z" } : Jvm.MethodName) prog_28_method_4_code (3 : Nat) (Option.some Jvm.ClassFile.FieldType.boolean)]
set_option maxRecDepth 65536 in
theorem codes_eq : words1.filter isCode = codes1 := rfl
theorem w_codes : ∀ c ∈ words1.filter isCode, c.before args0 about1 = true := by
  rw [codes_eq]
  intro c hc
  simp only [codes1, List.mem_cons, List.not_mem_nil, or_false] at hc
  rcases hc with rfl | rfl | rfl | rfl | rfl | rfl | rfl
  · exact w_c0
  · exact w_c1
  · exact w_c2
  · exact w_c3
  · exact w_c4
  · exact w_c5
  · exact w_c6
set_option maxRecDepth 65536 in
theorem w_t1 : (words1.take 24).all (fun c => isCode c || c.before args0 about1) = true := by decide +kernel
set_option maxRecDepth 65536 in
theorem w_t2 : (words1.drop 24).all (fun c => isCode c || c.before args0 about1) = true := by decide +kernel
theorem w_tables : (allAtoms (Jvm.Cond.code x code maxLocals ret :: tables_1)).before args0 about1 = true := by
  rw [allAtoms_all]
  show words1.all (fun c => c.before args0 about1) = true
  refine all_split ?_ w_codes
  rw [← List.take_append_drop 24 words1, List.all_append, w_t1, w_t2]
  rfl
set_option maxRecDepth 65536 in
theorem w_case : (Jvm.Cond.and given_1 narrow_1).before args0 about1 = true := by decide +kernel
theorem w_applies : (headSpec (Jvm.Cond.code x code maxLocals ret :: tables_1) room_1).applies x e0.platform about1 = true :=
  (Spec.applies_iff w_frames).mpr ⟨w_running, w_runnable, w_alone, w_named, w_hears, w_ripe, w_room, w_tables⟩
theorem atStart : AtStart classFile x code maxLocals ret World_1 tables_1 room_1 Calls_1 rest_1 Pre_1 launch0 p0 e0 about1 theMethod args0 below0 :=
  ⟨lists_1, trivial, launch0.admits_env _ _ _, launch0.least_env, fairChoices_fair.cas, fairChoices_fair.clock, w_frames, w_args, w_heap, w_applies, trivial, trivial, w_case⟩
end start1
theorem witness_1 : WitnessClaimed_1 := ⟨start1.p0, start1.e0, start1.about1, start1.theMethod, start1.args0, start1.below0, start1.atStart⟩
end Jvm.Pilot.@@N@@
