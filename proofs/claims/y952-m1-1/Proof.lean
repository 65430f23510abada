import JvmDerived
import JvmDerived.Pilot.@@N@@Statement
import JvmDerived.Pilot.@@N@@Code
set_option linter.unusedVariables false
set_option linter.unusedSimpArgs false
namespace Jvm.RoadKit
open Sem ClassFile Op Lib Jvm.Stand Jvm.Free Jvm.LawKit
section New
variable {p : Program} {l : Launch} {e : Env} {R : Room} {s : State} {m : MethodId} {args : Array Value} {below : List Frame} {meth : Method} {c : Code} {T : State} {locs : List Loc} {cells slots : Nat}
theorem retI (X : Stand p l e R s m args below meth c T locs cells slots) (hx : p.tables.exec = Jvm.exec) {pc : Nat} {Ls : Array Slot} {z : Int32} {rest : List Value} (hret : meth.sig.returnType = some .int) (hd : decode c.code pc = .ok (.ireturn, 1)) {fs : List Frame}
    (hl : ∀ (f : JFrame) (acts : List Action), f.method = m → f.locked = none → f.entered = [] → (doReturn e (T.setTop f) acts (some (.int z))).1 = T.setFrames fs) : Steps p.tables e below (T.setTop (mkF m pc Ls (.int z :: rest))) (T.setFrames fs) := by
  have hm' : T.vm.method? m = some meth := X.method'
  have hn : narrow .int (.int z) = .int z := rfl
  show Steps p.tables e below (T.setTop { method := m, pc := pc, locals := Ls, stack := _ :: rest, locked := none }) _
  jvm_step X.here [X.here.top, hx, hd, hm', hret, hn]
  first | (intro acts; rw [hl _ acts rfl rfl rfl]) | rw [hl _ _ rfl rfl rfl]
  exact Steps.refl _
end New
end Jvm.RoadKit
namespace Jvm.Pilot.@@N@@
open Jvm Jvm.ClassFile Sem Op Lib Jvm.Free Jvm.Stand Jvm.LawKit Jvm.RoadKit Bundle Jvm.Pilot.@@N@@.Jvm.D
section OwnLayer
variable {p : Program} {l : Launch} {e : Env} {R : Room} {s : State} {m : MethodId} {args : Array Value} {below : List Frame} {meth : Method} {c : Code} {T : State} {locs : List Loc} {cells slots : Nat} {Z : State} {a0 : Array Value} {h h' : Heap} {K : State → Outcome → Prop} {Q : Option Value → Heap → List Loc → Prop} {pc : Nat} {Ls : Array Slot} {S : List Value} {own : String} {index : Nat} {y : MethodName} {bytes : ByteArray} {maxL : Nat} {ret : Option FieldType} {rm : Room} {as' : Array Value} {h0 : Heap} {ws : List Jvm.Cond}
/-- from here the body comes to its end, and K holds of it -/
def own_W (p : Program) (e : Env) (below : List Frame) (K : State → Outcome → Prop) (T : State) (f : JFrame) : Prop :=
  ∃ s₂ o, Steps p.tables e below (T.setTop f) s₂ ∧ s₂.status = .running ∧ Ended s₂ below o ∧ K s₂ o
def own_K (s : State) (R : Room) (Q : Option Value → Heap → List Loc → Prop) (s₂ : State) (o : Outcome) : Prop :=
  ∃ v L, o = .returned v ∧ Q v s₂.heap L ∧ FrameEnd s o s₂ L R.cells R.slots
/-- a body's contract -/
def own_C (l : Launch) (Z : State) (y : MethodName) (bytes : ByteArray) (maxL : Nat) (ret : Option FieldType) (ws : List Jvm.Cond) (rm : Room) (as' : Array Value) (h0 : Heap) (Q : Option Value → Heap → List Loc → Prop) : Prop :=
  MetFree l y (head1 (Jvm.Cond.code y bytes maxL ret :: ws) rm) (fun a U => a = as' ∧ Z.Warmed39 U.vm ∧ U.heap = h0) (fun _ _ _ _ _ => True) (fun _ U o U' => ∃ v L, o = .returned v ∧ Q v U'.heap L ∧ FrameEnd U o U' L rm.cells rm.slots)
theorem own_bodyF (hpl : plainFor y = true)
    (body : ∀ (p : Program) (e : Env) (s : State) (m : MethodId) (below : List Frame) (meth : Method) (c : Code) (T : State), p.tables.exec = Jvm.exec → c.code = bytes → c.maxLocals = maxL → s.vm.findClass y.cls = some m.cls → meth.name = y.name → meth.sig.returnType = ret → meth.locks = false → Z.Warmed39 s.vm →
      Stand p l e rm s m as' below meth c T [] 0 0 → T.heap = h0 → own_W p e below (own_K s rm Q) T (entryFrame m as' maxL)) : own_C l Z y bytes maxL ret ws rm as' h0 Q := by
  refine MetFree.of_bodySF hpl hisR ?_
  intro p e s m args below meth c s₁ Bd hml0 hP hK
  obtain ⟨rfl, hZ, hh⟩ := hP
  exact body p e s m below meth c s₁ Bd.exec Bd.bytes hml0 (findClass_of_methodNamed Bd.named) (name_of_methodNamed Bd.named Bd.method).1 Bd.returns (BodyLoose.notSynchronized Bd) hZ (Stand.of_body Bd) (by rw [← hh, Bd.state]; rfl)
theorem own_body (hpn : plainName y.cls = true)
    (body : ∀ (p : Program) (e : Env) (s : State) (m : MethodId) (below : List Frame) (meth : Method) (c : Code) (T : State), p.tables.exec = Jvm.exec → c.code = bytes → c.maxLocals = maxL → s.vm.findClass y.cls = some m.cls → meth.name = y.name → meth.sig.returnType = ret → meth.locks = false → Z.Warmed39 s.vm →
      Stand p l e rm s m as' below meth c T [] 0 0 → T.heap = h0 → own_W p e below (own_K s rm Q) T (entryFrame m as' maxL)) : own_C l Z y bytes maxL ret ws rm as' h0 Q := own_bodyF (plainFor_of_name hpn) body
theorem own_s {f f' : JFrame} {T' : State} (hs : ∀ t, Steps p.tables e below (T'.setTop f') t → Steps p.tables e below (T.setTop f) t) (k : own_W p e below K T' f') : own_W p e below K T f := by
  obtain ⟨s₂, o, h1, r⟩ := k; exact ⟨s₂, o, hs _ h1, r⟩
theorem own_s' {f f' : JFrame} {T' : State} (hs : Steps p.tables e below (T.setTop f) (T'.setTop f')) (k : own_W p e below K T' f') : own_W p e below K T f := by
  obtain ⟨s₂, o, h1, r⟩ := k; exact ⟨s₂, o, hs.trans h1, r⟩
theorem own_eq {f f' : JFrame} (q : f = f') (k : own_W p e below K T f') : own_W p e below K T f := q ▸ k
section Plain
theorem own_iloadN (X : Stand p l e R s m args below meth c T locs cells slots) (hx : p.tables.exec = Jvm.exec) {i : Fin 4} {v : Int32} (pc' : Nat) (hd : decode c.code pc = .ok (.iload_n i, 1)) (hp : pc + 1 = pc') (hl : Ls[i.val]? = some (.val (.int v))) (k : own_W p e below K T (mkF m pc' Ls (.int v :: S))) : own_W p e below K T (mkF m pc Ls S) := by subst hp; exact own_s (fun _ => XS.iloadN X.here hx rfl hd hl) k
theorem own_iload (X : Stand p l e R s m args below meth c T locs cells slots) (hx : p.tables.exec = Jvm.exec) {i : Nat} {v : Int32} (pc' : Nat) (hd : decode c.code pc = .ok (.iload i, 2)) (hp : pc + 2 = pc') (hl : Ls[i]? = some (.val (.int v))) (k : own_W p e below K T (mkF m pc' Ls (.int v :: S))) : own_W p e below K T (mkF m pc Ls S) := by subst hp; exact own_s (fun _ => XS.iload X.here hx rfl hd hl) k
theorem own_lloadN (X : Stand p l e R s m args below meth c T locs cells slots) (hx : p.tables.exec = Jvm.exec) {i : Fin 4} {v : Int64} (pc' : Nat) (hd : decode c.code pc = .ok (.lload_n i, 1)) (hp : pc + 1 = pc') (hl : Ls[i.val]? = some (.val (.long v))) (k : own_W p e below K T (mkF m pc' Ls (.long v :: S))) : own_W p e below K T (mkF m pc Ls S) := by subst hp; exact own_s (fun _ => XS.lloadN X.here hx rfl hd hl) k
theorem own_lload (X : Stand p l e R s m args below meth c T locs cells slots) (hx : p.tables.exec = Jvm.exec) {i : Nat} {v : Int64} (pc' : Nat) (hd : decode c.code pc = .ok (.lload i, 2)) (hp : pc + 2 = pc') (hl : Ls[i]? = some (.val (.long v))) (k : own_W p e below K T (mkF m pc' Ls (.long v :: S))) : own_W p e below K T (mkF m pc Ls S) := by subst hp; exact own_s (fun _ => XS.lload X.here hx rfl hd hl) k
theorem own_aloadN (X : Stand p l e R s m args below meth c T locs cells slots) (hx : p.tables.exec = Jvm.exec) {i : Fin 4} {v : Addr} (pc' : Nat) (hd : decode c.code pc = .ok (.aload_n i, 1)) (hp : pc + 1 = pc') (hl : Ls[i.val]? = some (.val (.ref v))) (k : own_W p e below K T (mkF m pc' Ls (.ref v :: S))) : own_W p e below K T (mkF m pc Ls S) := by subst hp; exact own_s (fun _ => XS.aloadN X.here hx rfl hd hl rfl) k
theorem own_aload (X : Stand p l e R s m args below meth c T locs cells slots) (hx : p.tables.exec = Jvm.exec) {i : Nat} {v : Addr} (pc' : Nat) (hd : decode c.code pc = .ok (.aload i, 2)) (hp : pc + 2 = pc') (hl : Ls[i]? = some (.val (.ref v))) (k : own_W p e below K T (mkF m pc' Ls (.ref v :: S))) : own_W p e below K T (mkF m pc Ls S) := by subst hp; exact own_s (fun _ => XS.aload X.here hx rfl hd hl rfl) k
theorem own_istoreN (X : Stand p l e R s m args below meth c T locs cells slots) (hx : p.tables.exec = Jvm.exec) {i : Fin 4} {x y : Int32} (pc' : Nat) (l' : Array Slot) (hy : y = x) (hd : decode c.code pc = .ok (.istore_n i, 1)) (hp : pc + 1 = pc') (hl : storeLocals Ls i.val (.int y) = some l') (k : own_W p e below K T (mkF m pc' l' S)) : own_W p e below K T (mkF m pc Ls (.int x :: S)) := by subst hp hy; exact own_s (fun _ => XS.istoreN X.here hx rfl hd rfl hl) k
theorem own_istore (X : Stand p l e R s m args below meth c T locs cells slots) (hx : p.tables.exec = Jvm.exec) {i : Nat} {x y : Int32} (pc' : Nat) (l' : Array Slot) (hy : y = x) (hd : decode c.code pc = .ok (.istore i, 2)) (hp : pc + 2 = pc') (hl : storeLocals Ls i (.int y) = some l') (k : own_W p e below K T (mkF m pc' l' S)) : own_W p e below K T (mkF m pc Ls (.int x :: S)) := by subst hp hy; exact own_s (fun _ => XS.istore X.here hx rfl hd rfl hl) k
theorem own_lstoreN (X : Stand p l e R s m args below meth c T locs cells slots) (hx : p.tables.exec = Jvm.exec) {i : Fin 4} {x y : Int64} (pc' : Nat) (l' : Array Slot) (hy : y = x) (hd : decode c.code pc = .ok (.lstore_n i, 1)) (hp : pc + 1 = pc') (hl : storeLocals Ls i.val (.long y) = some l') (k : own_W p e below K T (mkF m pc' l' S)) : own_W p e below K T (mkF m pc Ls (.long x :: S)) := by subst hp hy; exact own_s (fun _ => XS.lstoreN X.here hx rfl hd rfl hl) k
theorem own_lstore (X : Stand p l e R s m args below meth c T locs cells slots) (hx : p.tables.exec = Jvm.exec) {i : Nat} {x y : Int64} (pc' : Nat) (l' : Array Slot) (hy : y = x) (hd : decode c.code pc = .ok (.lstore i, 2)) (hp : pc + 2 = pc') (hl : storeLocals Ls i (.long y) = some l') (k : own_W p e below K T (mkF m pc' l' S)) : own_W p e below K T (mkF m pc Ls (.long x :: S)) := by subst hp hy; exact own_s (fun _ => XS.lstore X.here hx rfl hd rfl hl) k
theorem own_astoreN (X : Stand p l e R s m args below meth c T locs cells slots) (hx : p.tables.exec = Jvm.exec) {i : Fin 4} {x y : Addr} (pc' : Nat) (l' : Array Slot) (hy : y = x) (hd : decode c.code pc = .ok (.astore_n i, 1)) (hp : pc + 1 = pc') (hl : storeLocals Ls i.val (.ref y) = some l') (k : own_W p e below K T (mkF m pc' l' S)) : own_W p e below K T (mkF m pc Ls (.ref x :: S)) := by subst hp hy; exact own_s (fun _ => XS.astoreN X.here hx rfl hd rfl rfl hl) k
theorem own_astore (X : Stand p l e R s m args below meth c T locs cells slots) (hx : p.tables.exec = Jvm.exec) {i : Nat} {x y : Addr} (pc' : Nat) (l' : Array Slot) (hy : y = x) (hd : decode c.code pc = .ok (.astore i, 2)) (hp : pc + 2 = pc') (hl : storeLocals Ls i (.ref y) = some l') (k : own_W p e below K T (mkF m pc' l' S)) : own_W p e below K T (mkF m pc Ls (.ref x :: S)) := by subst hp hy; exact own_s (fun _ => XS.astore X.here hx rfl hd rfl rfl hl) k
theorem own_iinc (X : Stand p l e R s m args below meth c T locs cells slots) (hx : p.tables.exec = Jvm.exec) {i : Nat} {cst : Int} {x : Int32} (y : Int32) (pc' : Nat) (l' : Array Slot) (hy : y = x + Int32.ofInt cst) (hd : decode c.code pc = .ok (.iinc i cst, 3)) (hp : pc + 3 = pc') (hl : Ls[i]? = some (.val (.int x))) (hl' : storeLocals Ls i (.int y) = some l') (k : own_W p e below K T (mkF m pc' l' S)) : own_W p e below K T (mkF m pc Ls S) := by subst hp hy; exact own_s (fun _ => XS.iinc X.here hx rfl hd hl hl') k
theorem own_iconst (X : Stand p l e R s m args below meth c T locs cells slots) (hx : p.tables.exec = Jvm.exec) {i : Int} (pc' : Nat) (z : Int32) (hz : Int32.ofInt i = z) (hd : decode c.code pc = .ok (.iconst i, 1)) (hp : pc + 1 = pc') (k : own_W p e below K T (mkF m pc' Ls (.int z :: S))) : own_W p e below K T (mkF m pc Ls S) := by subst hp hz; exact own_s (fun _ => XS.iconst X.here hx rfl hd) k
theorem own_bipush (X : Stand p l e R s m args below meth c T locs cells slots) (hx : p.tables.exec = Jvm.exec) {i : Int} (pc' : Nat) (z : Int32) (hz : (Int8.ofInt i).toInt32 = z) (hd : decode c.code pc = .ok (.bipush i, 2)) (hp : pc + 2 = pc') (k : own_W p e below K T (mkF m pc' Ls (.int z :: S))) : own_W p e below K T (mkF m pc Ls S) := by subst hp hz; exact own_s (fun _ => XS.bipush X.here hx rfl hd) k
theorem own_sipush (X : Stand p l e R s m args below meth c T locs cells slots) (hx : p.tables.exec = Jvm.exec) {i : Int} (pc' : Nat) (z : Int32) (hz : (Int16.ofInt i).toInt32 = z) (hd : decode c.code pc = .ok (.sipush i, 3)) (hp : pc + 3 = pc') (k : own_W p e below K T (mkF m pc' Ls (.int z :: S))) : own_W p e below K T (mkF m pc Ls S) := by subst hp hz; exact own_s (fun _ => XS.sipush X.here hx rfl hd) k
theorem own_lconst (X : Stand p l e R s m args below meth c T locs cells slots) (hx : p.tables.exec = Jvm.exec) {i : Fin 2} (pc' : Nat) (z : Int64) (hz : Int64.ofNat i = z) (hd : decode c.code pc = .ok (.lconst i, 1)) (hp : pc + 1 = pc') (k : own_W p e below K T (mkF m pc' Ls (.long z :: S))) : own_W p e below K T (mkF m pc Ls S) := by subst hp hz; exact own_s (fun _ => XS.lconst X.here hx rfl hd) k
theorem own_ldc (X : Stand p l e R s m args below meth c T locs cells slots) (hx : p.tables.exec = Jvm.exec) {v : Int32} (hZ : Z.Warmed39 s.vm) (hown : s.vm.findClass own = some m.cls) (pc' : Nat) (w : (Jvm.Cond.constant own index v).before a0 Z = true) (hd : decode c.code pc = .ok (.ldc index, 2)) (hp : pc + 2 = pc') (k : own_W p e below K T (mkF m pc' Ls (.int v :: S))) : own_W p e below K T (mkF m pc Ls S) := by subst hp; exact own_s (X.ldcInt hx hown (mvT hZ w) (g := mkF m pc Ls S) rfl hd) k
theorem own_ldc2 (X : Stand p l e R s m args below meth c T locs cells slots) (hx : p.tables.exec = Jvm.exec) {v : Int64} (hZ : Z.Warmed39 s.vm) (hown : s.vm.findClass own = some m.cls) (pc' : Nat) (w : (Jvm.Cond.constantLong own index v).before a0 Z = true) (hd : decode c.code pc = .ok (.ldc2_w index, 3)) (hp : pc + 3 = pc') (k : own_W p e below K T (mkF m pc' Ls (.long v :: S))) : own_W p e below K T (mkF m pc Ls S) := by subst hp; exact own_s (X.ldc2Long hx hown (mvT hZ w) (g := mkF m pc Ls S) rfl hd) k
theorem own_goto (X : Stand p l e R s m args below meth c T locs cells slots) (hx : p.tables.exec = Jvm.exec) {o : Int} (pc' : Nat) (hd : decode c.code pc = .ok (.goto o, 3)) (ho : 0 ≤ (pc : Int) + o) (hp : ((pc : Int) + o).toNat = pc') (k : own_W p e below K T (mkF m pc' Ls S)) : own_W p e below K T (mkF m pc Ls S) := own_s (fun _ => XS.goto X.here hx (g := mkF m pc Ls S) rfl rfl hd ho hp) k
theorem own_dup (X : Stand p l e R s m args below meth c T locs cells slots) (hx : p.tables.exec = Jvm.exec) {x : Value} (pc' : Nat) (hc : x.category = 1) (hd : decode c.code pc = .ok (.dup, 1)) (hp : pc + 1 = pc') (k : own_W p e below K T (mkF m pc' Ls (x :: x :: S))) : own_W p e below K T (mkF m pc Ls (x :: S)) := by subst hp; exact own_s (fun _ => XS.dup X.here hx rfl hd rfl hc) k
theorem own_pop (X : Stand p l e R s m args below meth c T locs cells slots) (hx : p.tables.exec = Jvm.exec) {x : Value} (pc' : Nat) (hc : x.category = 1) (hd : decode c.code pc = .ok (.pop, 1)) (hp : pc + 1 = pc') (k : own_W p e below K T (mkF m pc' Ls S)) : own_W p e below K T (mkF m pc Ls (x :: S)) := by subst hp; exact own_s (fun _ => XS.pop X.here hx rfl hd rfl hc) k
theorem own_dupX1 (X : Stand p l e R s m args below meth c T locs cells slots) (hx : p.tables.exec = Jvm.exec) {x y : Value} (pc' : Nat) (hc : x.category = 1) (hc2 : y.category = 1) (hd : decode c.code pc = .ok (.dup_x1, 1)) (hp : pc + 1 = pc') (k : own_W p e below K T (mkF m pc' Ls (x :: y :: x :: S))) : own_W p e below K T (mkF m pc Ls (x :: y :: S)) := by subst hp; exact own_s (fun _ => XS.dupX1 X.here hx rfl hd rfl hc hc2) k
theorem own_dup2 (X : Stand p l e R s m args below meth c T locs cells slots) (hx : p.tables.exec = Jvm.exec) {x y : Value} (pc' : Nat) (hc : x.category = 1) (hc2 : y.category = 1) (hd : decode c.code pc = .ok (.dup2, 1)) (hp : pc + 1 = pc') (k : own_W p e below K T (mkF m pc' Ls (x :: y :: x :: y :: S))) : own_W p e below K T (mkF m pc Ls (x :: y :: S)) := by subst hp; exact own_s (fun _ => XT.dup2 X.here hx rfl hd rfl hc hc2) k
theorem own_iadd (X : Stand p l e R s m args below meth c T locs cells slots) (hx : p.tables.exec = Jvm.exec) {x y : Int32} (pc' : Nat) (hd : decode c.code pc = .ok (.iadd, 1)) (hp : pc + 1 = pc') (k : own_W p e below K T (mkF m pc' Ls (.int (x + y) :: S))) : own_W p e below K T (mkF m pc Ls (.int y :: .int x :: S)) := by subst hp; exact own_s (fun _ => XS.iadd X.here hx rfl hd rfl) k
theorem own_ladd (X : Stand p l e R s m args below meth c T locs cells slots) (hx : p.tables.exec = Jvm.exec) {x y : Int64} (pc' : Nat) (hd : decode c.code pc = .ok (.ladd, 1)) (hp : pc + 1 = pc') (k : own_W p e below K T (mkF m pc' Ls (.long (x + y) :: S))) : own_W p e below K T (mkF m pc Ls (.long y :: .long x :: S)) := by subst hp; exact own_s (fun _ => XS.ladd X.here hx rfl hd rfl) k
theorem own_isub (X : Stand p l e R s m args below meth c T locs cells slots) (hx : p.tables.exec = Jvm.exec) {x y : Int32} (pc' : Nat) (hd : decode c.code pc = .ok (.isub, 1)) (hp : pc + 1 = pc') (k : own_W p e below K T (mkF m pc' Ls (.int (x - y) :: S))) : own_W p e below K T (mkF m pc Ls (.int y :: .int x :: S)) := by subst hp; exact own_s (fun _ => XS.isub X.here hx rfl hd rfl) k
theorem own_lsub (X : Stand p l e R s m args below meth c T locs cells slots) (hx : p.tables.exec = Jvm.exec) {x y : Int64} (pc' : Nat) (hd : decode c.code pc = .ok (.lsub, 1)) (hp : pc + 1 = pc') (k : own_W p e below K T (mkF m pc' Ls (.long (x - y) :: S))) : own_W p e below K T (mkF m pc Ls (.long y :: .long x :: S)) := by subst hp; exact own_s (fun _ => XS.lsub X.here hx rfl hd rfl) k
theorem own_imul (X : Stand p l e R s m args below meth c T locs cells slots) (hx : p.tables.exec = Jvm.exec) {x y : Int32} (pc' : Nat) (hd : decode c.code pc = .ok (.imul, 1)) (hp : pc + 1 = pc') (k : own_W p e below K T (mkF m pc' Ls (.int (x * y) :: S))) : own_W p e below K T (mkF m pc Ls (.int y :: .int x :: S)) := by subst hp; exact own_s (fun _ => XS.imul X.here hx rfl hd rfl) k
theorem own_lmul (X : Stand p l e R s m args below meth c T locs cells slots) (hx : p.tables.exec = Jvm.exec) {x y : Int64} (pc' : Nat) (hd : decode c.code pc = .ok (.lmul, 1)) (hp : pc + 1 = pc') (k : own_W p e below K T (mkF m pc' Ls (.long (x * y) :: S))) : own_W p e below K T (mkF m pc Ls (.long y :: .long x :: S)) := by subst hp; exact own_s (fun _ => XS.lmul X.here hx rfl hd rfl) k
theorem own_iand (X : Stand p l e R s m args below meth c T locs cells slots) (hx : p.tables.exec = Jvm.exec) {x y : Int32} (pc' : Nat) (hd : decode c.code pc = .ok (.iand, 1)) (hp : pc + 1 = pc') (k : own_W p e below K T (mkF m pc' Ls (.int (x &&& y) :: S))) : own_W p e below K T (mkF m pc Ls (.int y :: .int x :: S)) := by subst hp; exact own_s (fun _ => XS.iand X.here hx rfl hd rfl) k
theorem own_land (X : Stand p l e R s m args below meth c T locs cells slots) (hx : p.tables.exec = Jvm.exec) {x y : Int64} (pc' : Nat) (hd : decode c.code pc = .ok (.land, 1)) (hp : pc + 1 = pc') (k : own_W p e below K T (mkF m pc' Ls (.long (x &&& y) :: S))) : own_W p e below K T (mkF m pc Ls (.long y :: .long x :: S)) := by subst hp; exact own_s (fun _ => XS.land X.here hx rfl hd rfl) k
theorem own_ior (X : Stand p l e R s m args below meth c T locs cells slots) (hx : p.tables.exec = Jvm.exec) {x y : Int32} (pc' : Nat) (hd : decode c.code pc = .ok (.ior, 1)) (hp : pc + 1 = pc') (k : own_W p e below K T (mkF m pc' Ls (.int (x ||| y) :: S))) : own_W p e below K T (mkF m pc Ls (.int y :: .int x :: S)) := by subst hp; exact own_s (fun _ => XS.ior X.here hx rfl hd rfl) k
theorem own_lor (X : Stand p l e R s m args below meth c T locs cells slots) (hx : p.tables.exec = Jvm.exec) {x y : Int64} (pc' : Nat) (hd : decode c.code pc = .ok (.lor, 1)) (hp : pc + 1 = pc') (k : own_W p e below K T (mkF m pc' Ls (.long (x ||| y) :: S))) : own_W p e below K T (mkF m pc Ls (.long y :: .long x :: S)) := by subst hp; exact own_s (fun _ => XS.lor X.here hx rfl hd rfl) k
theorem own_ixor (X : Stand p l e R s m args below meth c T locs cells slots) (hx : p.tables.exec = Jvm.exec) {x y : Int32} (pc' : Nat) (hd : decode c.code pc = .ok (.ixor, 1)) (hp : pc + 1 = pc') (k : own_W p e below K T (mkF m pc' Ls (.int (x ^^^ y) :: S))) : own_W p e below K T (mkF m pc Ls (.int y :: .int x :: S)) := by subst hp; exact own_s (fun _ => XS.ixor X.here hx rfl hd rfl) k
theorem own_lxor (X : Stand p l e R s m args below meth c T locs cells slots) (hx : p.tables.exec = Jvm.exec) {x y : Int64} (pc' : Nat) (hd : decode c.code pc = .ok (.lxor, 1)) (hp : pc + 1 = pc') (k : own_W p e below K T (mkF m pc' Ls (.long (x ^^^ y) :: S))) : own_W p e below K T (mkF m pc Ls (.long y :: .long x :: S)) := by subst hp; exact own_s (fun _ => XS.lxor X.here hx rfl hd rfl) k
theorem own_iaddz (X : Stand p l e R s m args below meth c T locs cells slots) (hx : p.tables.exec = Jvm.exec) {x y z : Int32} (pc' : Nat) (hz : x + y = z) (hd : decode c.code pc = .ok (.iadd, 1)) (hp : pc + 1 = pc') (k : own_W p e below K T (mkF m pc' Ls (.int z :: S))) : own_W p e below K T (mkF m pc Ls (.int y :: .int x :: S)) := by subst hz; exact own_iadd X hx pc' hd hp k
theorem own_laddz (X : Stand p l e R s m args below meth c T locs cells slots) (hx : p.tables.exec = Jvm.exec) {x y z : Int64} (pc' : Nat) (hz : x + y = z) (hd : decode c.code pc = .ok (.ladd, 1)) (hp : pc + 1 = pc') (k : own_W p e below K T (mkF m pc' Ls (.long z :: S))) : own_W p e below K T (mkF m pc Ls (.long y :: .long x :: S)) := by subst hz; exact own_ladd X hx pc' hd hp k
theorem own_isubz (X : Stand p l e R s m args below meth c T locs cells slots) (hx : p.tables.exec = Jvm.exec) {x y z : Int32} (pc' : Nat) (hz : x - y = z) (hd : decode c.code pc = .ok (.isub, 1)) (hp : pc + 1 = pc') (k : own_W p e below K T (mkF m pc' Ls (.int z :: S))) : own_W p e below K T (mkF m pc Ls (.int y :: .int x :: S)) := by subst hz; exact own_isub X hx pc' hd hp k
theorem own_lsubz (X : Stand p l e R s m args below meth c T locs cells slots) (hx : p.tables.exec = Jvm.exec) {x y z : Int64} (pc' : Nat) (hz : x - y = z) (hd : decode c.code pc = .ok (.lsub, 1)) (hp : pc + 1 = pc') (k : own_W p e below K T (mkF m pc' Ls (.long z :: S))) : own_W p e below K T (mkF m pc Ls (.long y :: .long x :: S)) := by subst hz; exact own_lsub X hx pc' hd hp k
theorem own_imulz (X : Stand p l e R s m args below meth c T locs cells slots) (hx : p.tables.exec = Jvm.exec) {x y z : Int32} (pc' : Nat) (hz : x * y = z) (hd : decode c.code pc = .ok (.imul, 1)) (hp : pc + 1 = pc') (k : own_W p e below K T (mkF m pc' Ls (.int z :: S))) : own_W p e below K T (mkF m pc Ls (.int y :: .int x :: S)) := by subst hz; exact own_imul X hx pc' hd hp k
theorem own_lmulz (X : Stand p l e R s m args below meth c T locs cells slots) (hx : p.tables.exec = Jvm.exec) {x y z : Int64} (pc' : Nat) (hz : x * y = z) (hd : decode c.code pc = .ok (.lmul, 1)) (hp : pc + 1 = pc') (k : own_W p e below K T (mkF m pc' Ls (.long z :: S))) : own_W p e below K T (mkF m pc Ls (.long y :: .long x :: S)) := by subst hz; exact own_lmul X hx pc' hd hp k
theorem own_iandz (X : Stand p l e R s m args below meth c T locs cells slots) (hx : p.tables.exec = Jvm.exec) {x y z : Int32} (pc' : Nat) (hz : x &&& y = z) (hd : decode c.code pc = .ok (.iand, 1)) (hp : pc + 1 = pc') (k : own_W p e below K T (mkF m pc' Ls (.int z :: S))) : own_W p e below K T (mkF m pc Ls (.int y :: .int x :: S)) := by subst hz; exact own_iand X hx pc' hd hp k
theorem own_landz (X : Stand p l e R s m args below meth c T locs cells slots) (hx : p.tables.exec = Jvm.exec) {x y z : Int64} (pc' : Nat) (hz : x &&& y = z) (hd : decode c.code pc = .ok (.land, 1)) (hp : pc + 1 = pc') (k : own_W p e below K T (mkF m pc' Ls (.long z :: S))) : own_W p e below K T (mkF m pc Ls (.long y :: .long x :: S)) := by subst hz; exact own_land X hx pc' hd hp k
theorem own_iorz (X : Stand p l e R s m args below meth c T locs cells slots) (hx : p.tables.exec = Jvm.exec) {x y z : Int32} (pc' : Nat) (hz : x ||| y = z) (hd : decode c.code pc = .ok (.ior, 1)) (hp : pc + 1 = pc') (k : own_W p e below K T (mkF m pc' Ls (.int z :: S))) : own_W p e below K T (mkF m pc Ls (.int y :: .int x :: S)) := by subst hz; exact own_ior X hx pc' hd hp k
theorem own_lorz (X : Stand p l e R s m args below meth c T locs cells slots) (hx : p.tables.exec = Jvm.exec) {x y z : Int64} (pc' : Nat) (hz : x ||| y = z) (hd : decode c.code pc = .ok (.lor, 1)) (hp : pc + 1 = pc') (k : own_W p e below K T (mkF m pc' Ls (.long z :: S))) : own_W p e below K T (mkF m pc Ls (.long y :: .long x :: S)) := by subst hz; exact own_lor X hx pc' hd hp k
theorem own_ixorz (X : Stand p l e R s m args below meth c T locs cells slots) (hx : p.tables.exec = Jvm.exec) {x y z : Int32} (pc' : Nat) (hz : x ^^^ y = z) (hd : decode c.code pc = .ok (.ixor, 1)) (hp : pc + 1 = pc') (k : own_W p e below K T (mkF m pc' Ls (.int z :: S))) : own_W p e below K T (mkF m pc Ls (.int y :: .int x :: S)) := by subst hz; exact own_ixor X hx pc' hd hp k
theorem own_lxorz (X : Stand p l e R s m args below meth c T locs cells slots) (hx : p.tables.exec = Jvm.exec) {x y z : Int64} (pc' : Nat) (hz : x ^^^ y = z) (hd : decode c.code pc = .ok (.lxor, 1)) (hp : pc + 1 = pc') (k : own_W p e below K T (mkF m pc' Ls (.long z :: S))) : own_W p e below K T (mkF m pc Ls (.long y :: .long x :: S)) := by subst hz; exact own_lxor X hx pc' hd hp k
theorem own_ishl (X : Stand p l e R s m args below meth c T locs cells slots) (hx : p.tables.exec = Jvm.exec) {x : Int32} {y : Int32} (pc' : Nat) (hd : decode c.code pc = .ok (.ishl, 1)) (hp : pc + 1 = pc') (k : own_W p e below K T (mkF m pc' Ls (.int (x <<< (y &&& 31)) :: S))) : own_W p e below K T (mkF m pc Ls (.int y :: .int x :: S)) := by subst hp; exact own_s (fun _ => XS.ishl X.here hx rfl hd rfl) k
theorem own_ishr (X : Stand p l e R s m args below meth c T locs cells slots) (hx : p.tables.exec = Jvm.exec) {x : Int32} {y : Int32} (pc' : Nat) (hd : decode c.code pc = .ok (.ishr, 1)) (hp : pc + 1 = pc') (k : own_W p e below K T (mkF m pc' Ls (.int (x >>> (y &&& 31)) :: S))) : own_W p e below K T (mkF m pc Ls (.int y :: .int x :: S)) := by subst hp; exact own_s (fun _ => XS.ishr X.here hx rfl hd rfl) k
theorem own_iushr (X : Stand p l e R s m args below meth c T locs cells slots) (hx : p.tables.exec = Jvm.exec) {x : Int32} {y : Int32} (pc' : Nat) (hd : decode c.code pc = .ok (.iushr, 1)) (hp : pc + 1 = pc') (k : own_W p e below K T (mkF m pc' Ls (.int ((x.toUInt32 >>> (y &&& 31).toUInt32).toInt32) :: S))) : own_W p e below K T (mkF m pc Ls (.int y :: .int x :: S)) := by subst hp; exact own_s (fun _ => XS.iushr X.here hx rfl hd rfl) k
theorem own_lshl (X : Stand p l e R s m args below meth c T locs cells slots) (hx : p.tables.exec = Jvm.exec) {x : Int64} {y : Int32} (pc' : Nat) (hd : decode c.code pc = .ok (.lshl, 1)) (hp : pc + 1 = pc') (k : own_W p e below K T (mkF m pc' Ls (.long (x <<< (y &&& 0x3f).toInt64) :: S))) : own_W p e below K T (mkF m pc Ls (.int y :: .long x :: S)) := by subst hp; exact own_s (fun _ => XS.lshl X.here hx rfl hd rfl) k
theorem own_lshr (X : Stand p l e R s m args below meth c T locs cells slots) (hx : p.tables.exec = Jvm.exec) {x : Int64} {y : Int32} (pc' : Nat) (hd : decode c.code pc = .ok (.lshr, 1)) (hp : pc + 1 = pc') (k : own_W p e below K T (mkF m pc' Ls (.long (x >>> (y &&& 0x3f).toInt64) :: S))) : own_W p e below K T (mkF m pc Ls (.int y :: .long x :: S)) := by subst hp; exact own_s (fun _ => XS.lshr X.here hx rfl hd rfl) k
theorem own_lushr (X : Stand p l e R s m args below meth c T locs cells slots) (hx : p.tables.exec = Jvm.exec) {x : Int64} {y : Int32} (pc' : Nat) (hd : decode c.code pc = .ok (.lushr, 1)) (hp : pc + 1 = pc') (k : own_W p e below K T (mkF m pc' Ls (.long ((x.toUInt64 >>> (y &&& 0x3f).toInt64.toUInt64).toInt64) :: S))) : own_W p e below K T (mkF m pc Ls (.int y :: .long x :: S)) := by subst hp; exact own_s (fun _ => XS.lushr X.here hx rfl hd rfl) k
theorem own_ineg (X : Stand p l e R s m args below meth c T locs cells slots) (hx : p.tables.exec = Jvm.exec) {x : Int32} (pc' : Nat) (hd : decode c.code pc = .ok (.ineg, 1)) (hp : pc + 1 = pc') (k : own_W p e below K T (mkF m pc' Ls (.int ((-x)) :: S))) : own_W p e below K T (mkF m pc Ls (.int x :: S)) := by subst hp; exact own_s (fun _ => XS.ineg X.here hx rfl hd rfl) k
theorem own_lneg (X : Stand p l e R s m args below meth c T locs cells slots) (hx : p.tables.exec = Jvm.exec) {x : Int64} (pc' : Nat) (hd : decode c.code pc = .ok (.lneg, 1)) (hp : pc + 1 = pc') (k : own_W p e below K T (mkF m pc' Ls (.long ((-x)) :: S))) : own_W p e below K T (mkF m pc Ls (.long x :: S)) := by subst hp; exact own_s (fun _ => XS.lneg X.here hx rfl hd rfl) k
theorem own_i2l (X : Stand p l e R s m args below meth c T locs cells slots) (hx : p.tables.exec = Jvm.exec) {x : Int32} (pc' : Nat) (hd : decode c.code pc = .ok (.i2l, 1)) (hp : pc + 1 = pc') (k : own_W p e below K T (mkF m pc' Ls (.long (x.toInt64) :: S))) : own_W p e below K T (mkF m pc Ls (.int x :: S)) := by subst hp; exact own_s (fun _ => XS.i2l X.here hx rfl hd rfl) k
theorem own_l2i (X : Stand p l e R s m args below meth c T locs cells slots) (hx : p.tables.exec = Jvm.exec) {x : Int64} (pc' : Nat) (hd : decode c.code pc = .ok (.l2i, 1)) (hp : pc + 1 = pc') (k : own_W p e below K T (mkF m pc' Ls (.int (x.toInt32) :: S))) : own_W p e below K T (mkF m pc Ls (.long x :: S)) := by subst hp; exact own_s (fun _ => XS.l2i X.here hx rfl hd rfl) k
theorem own_i2b (X : Stand p l e R s m args below meth c T locs cells slots) (hx : p.tables.exec = Jvm.exec) {x : Int32} (pc' : Nat) (hd : decode c.code pc = .ok (.i2b, 1)) (hp : pc + 1 = pc') (k : own_W p e below K T (mkF m pc' Ls (.int (x.toInt8.toInt32) :: S))) : own_W p e below K T (mkF m pc Ls (.int x :: S)) := by subst hp; exact own_s (fun _ => XS.i2b X.here hx rfl hd rfl) k
theorem own_i2s (X : Stand p l e R s m args below meth c T locs cells slots) (hx : p.tables.exec = Jvm.exec) {x : Int32} (pc' : Nat) (hd : decode c.code pc = .ok (.i2s, 1)) (hp : pc + 1 = pc') (k : own_W p e below K T (mkF m pc' Ls (.int (x.toInt16.toInt32) :: S))) : own_W p e below K T (mkF m pc Ls (.int x :: S)) := by subst hp; exact own_s (fun _ => XS.i2s X.here hx rfl hd rfl) k
theorem own_i2c (X : Stand p l e R s m args below meth c T locs cells slots) (hx : p.tables.exec = Jvm.exec) {x : Int32} (pc' : Nat) (hd : decode c.code pc = .ok (.i2c, 1)) (hp : pc + 1 = pc') (k : own_W p e below K T (mkF m pc' Ls (.int (x.toUInt32.toUInt16.toUInt32.toInt32) :: S))) : own_W p e below K T (mkF m pc Ls (.int x :: S)) := by subst hp; exact own_s (fun _ => XS.i2c X.here hx rfl hd rfl) k
theorem own_i2lz (X : Stand p l e R s m args below meth c T locs cells slots) (hx : p.tables.exec = Jvm.exec) {x : Int32} {z : Int64} (pc' : Nat) (hz : x.toInt64 = z) (hd : decode c.code pc = .ok (.i2l, 1)) (hp : pc + 1 = pc') (k : own_W p e below K T (mkF m pc' Ls (.long z :: S))) : own_W p e below K T (mkF m pc Ls (.int x :: S)) := by subst hz; exact own_i2l X hx pc' hd hp k
theorem own_l2iz (X : Stand p l e R s m args below meth c T locs cells slots) (hx : p.tables.exec = Jvm.exec) {x : Int64} {z : Int32} (pc' : Nat) (hz : x.toInt32 = z) (hd : decode c.code pc = .ok (.l2i, 1)) (hp : pc + 1 = pc') (k : own_W p e below K T (mkF m pc' Ls (.int z :: S))) : own_W p e below K T (mkF m pc Ls (.long x :: S)) := by subst hz; exact own_l2i X hx pc' hd hp k
theorem own_idiv (X : Stand p l e R s m args below meth c T locs cells slots) (hx : p.tables.exec = Jvm.exec) {x y : Int32} (pc' : Nat) (hy : y ≠ 0) (hd : decode c.code pc = .ok (.idiv, 1)) (hp : pc + 1 = pc') (k : own_W p e below K T (mkF m pc' Ls (.int (x / y) :: S))) : own_W p e below K T (mkF m pc Ls (.int y :: .int x :: S)) := by subst hp; exact own_s (fun _ => XS.idiv X.here hx rfl hd rfl hy) k
theorem own_irem (X : Stand p l e R s m args below meth c T locs cells slots) (hx : p.tables.exec = Jvm.exec) {x y : Int32} (pc' : Nat) (hy : y ≠ 0) (hd : decode c.code pc = .ok (.irem, 1)) (hp : pc + 1 = pc') (k : own_W p e below K T (mkF m pc' Ls (.int (x % y) :: S))) : own_W p e below K T (mkF m pc Ls (.int y :: .int x :: S)) := by subst hp; exact own_s (fun _ => iremM X hx rfl hd rfl hy) k
theorem own_ldiv (X : Stand p l e R s m args below meth c T locs cells slots) (hx : p.tables.exec = Jvm.exec) {x y : Int64} (pc' : Nat) (hy : y ≠ 0) (hd : decode c.code pc = .ok (.ldiv, 1)) (hp : pc + 1 = pc') (k : own_W p e below K T (mkF m pc' Ls (.long (x / y) :: S))) : own_W p e below K T (mkF m pc Ls (.long y :: .long x :: S)) := by subst hp; exact own_s (fun _ => XS.ldiv X.here hx rfl hd rfl hy) k
theorem own_lrem (X : Stand p l e R s m args below meth c T locs cells slots) (hx : p.tables.exec = Jvm.exec) {x y : Int64} (pc' : Nat) (hy : y ≠ 0) (hd : decode c.code pc = .ok (.lrem, 1)) (hp : pc + 1 = pc') (k : own_W p e below K T (mkF m pc' Ls (.long (x % y) :: S))) : own_W p e below K T (mkF m pc Ls (.long y :: .long x :: S)) := by subst hp; rw [← lrem_mod] at k; exact own_s (fun _ => XS.lrem X.here hx rfl hd rfl hy) k
theorem own_icmp (X : Stand p l e R s m args below meth c T locs cells slots) (hx : p.tables.exec = Jvm.exec) {cd : ClassFile.Cond} {x y : Int32} {o : Int} (pcT pcF : Nat) (P : Prop) [Decidable P] (hT : P → if_icmp.holds cd x y = true) (hF : ¬ P → if_icmp.holds cd x y = false) (hd : decode c.code pc = .ok (.if_icmp cd o, 3)) (ho : 0 ≤ (pc : Int) + o) (hp : ((pc : Int) + o).toNat = pcT) (hp' : pc + 3 = pcF)
    (kT : P → own_W p e below K T (mkF m pcT Ls S)) (kF : ¬ P → own_W p e below K T (mkF m pcF Ls S)) : own_W p e below K T (mkF m pc Ls (.int y :: .int x :: S)) := by
  subst hp'
  by_cases q : P
  · exact own_s (fun _ => XS.icmpYes X.here hx (g := mkF m pc Ls (.int y :: .int x :: S)) rfl rfl hd rfl (hT q) ho hp) (kT q)
  · exact own_s (fun _ => XS.icmpNo X.here hx (g := mkF m pc Ls (.int y :: .int x :: S)) rfl hd rfl (hF q)) (kF q)
theorem own_if (X : Stand p l e R s m args below meth c T locs cells slots) (hx : p.tables.exec = Jvm.exec) {cd : ClassFile.Cond} {x : Int32} {o : Int} (pcT pcF : Nat) (P : Prop) [Decidable P] (hT : P → if_icmp.holds cd x 0 = true) (hF : ¬ P → if_icmp.holds cd x 0 = false) (hd : decode c.code pc = .ok (.ifCond cd o, 3)) (ho : 0 ≤ (pc : Int) + o) (hp : ((pc : Int) + o).toNat = pcT) (hp' : pc + 3 = pcF)
    (kT : P → own_W p e below K T (mkF m pcT Ls S)) (kF : ¬ P → own_W p e below K T (mkF m pcF Ls S)) : own_W p e below K T (mkF m pc Ls (.int x :: S)) := by
  subst hp'
  by_cases q : P
  · exact own_s (fun _ => XS.ifYes X.here hx (g := mkF m pc Ls (.int x :: S)) rfl rfl hd rfl ((if0 cd x).trans (hT q)) ho hp) (kT q)
  · exact own_s (fun _ => XS.ifNo X.here hx (g := mkF m pc Ls (.int x :: S)) rfl hd rfl ((if0 cd x).trans (hF q))) (kF q)
theorem own_lcmp (X : Stand p l e R s m args below meth c T locs cells slots) (hx : p.tables.exec = Jvm.exec) {x y : Int64} (pc' : Nat) (hd : decode c.code pc = .ok (.lcmp, 1)) (hp : pc + 1 = pc') (k : own_W p e below K T (mkF m pc' Ls (.int (lcmpW x y) :: S))) : own_W p e below K T (mkF m pc Ls (.long y :: .long x :: S)) := by subst hp; exact own_s (fun _ => XS.lcmp X.here hx rfl hd rfl) k
theorem own_icmp_lt (X : Stand p l e R s m args below meth c T locs cells slots) (hx : p.tables.exec = Jvm.exec) {x y : Int32} {o : Int} (pcT pcF : Nat) (hd : decode c.code pc = .ok (.if_icmp .lt o, 3)) (ho : 0 ≤ (pc : Int) + o) (hp : ((pc : Int) + o).toNat = pcT) (hp' : pc + 3 = pcF) (kT : x < y → own_W p e below K T (mkF m pcT Ls S)) (kF : ¬ x < y → own_W p e below K T (mkF m pcF Ls S)) : own_W p e below K T (mkF m pc Ls (.int y :: .int x :: S)) := own_icmp X hx pcT pcF (x < y) (fun q => (tlt q).1) (fun q => (flt q).1) hd ho hp hp' kT kF
theorem own_if_lt (X : Stand p l e R s m args below meth c T locs cells slots) (hx : p.tables.exec = Jvm.exec) {x : Int32} {o : Int} (pcT pcF : Nat) (hd : decode c.code pc = .ok (.ifCond .lt o, 3)) (ho : 0 ≤ (pc : Int) + o) (hp : ((pc : Int) + o).toNat = pcT) (hp' : pc + 3 = pcF) (kT : x < 0 → own_W p e below K T (mkF m pcT Ls S)) (kF : ¬ x < 0 → own_W p e below K T (mkF m pcF Ls S)) : own_W p e below K T (mkF m pc Ls (.int x :: S)) := own_if X hx pcT pcF (x < 0) (fun q => (tlt q).1) (fun q => (flt q).1) hd ho hp hp' kT kF
theorem own_lif_lt (X : Stand p l e R s m args below meth c T locs cells slots) (hx : p.tables.exec = Jvm.exec) {x y : Int64} {o : Int} (pc1 pcT pcF : Nat) (hd1 : decode c.code pc = .ok (.lcmp, 1)) (hp1 : pc + 1 = pc1) (hd : decode c.code pc1 = .ok (.ifCond .lt o, 3)) (ho : 0 ≤ (pc1 : Int) + o) (hp : ((pc1 : Int) + o).toNat = pcT) (hp' : pc1 + 3 = pcF) (kT : x < y → own_W p e below K T (mkF m pcT Ls S)) (kF : ¬ x < y → own_W p e below K T (mkF m pcF Ls S)) : own_W p e below K T (mkF m pc Ls (.long y :: .long x :: S)) := own_lcmp X hx pc1 hd1 hp1 (own_if_lt X hx pcT pcF hd ho hp hp' (fun q => kT ((lw_lt x y).mp q)) (fun q => kF (fun r => q ((lw_lt x y).mpr r))))
theorem own_icmp_ge (X : Stand p l e R s m args below meth c T locs cells slots) (hx : p.tables.exec = Jvm.exec) {x y : Int32} {o : Int} (pcT pcF : Nat) (hd : decode c.code pc = .ok (.if_icmp .ge o, 3)) (ho : 0 ≤ (pc : Int) + o) (hp : ((pc : Int) + o).toNat = pcT) (hp' : pc + 3 = pcF) (kT : ¬ x < y → own_W p e below K T (mkF m pcT Ls S)) (kF : x < y → own_W p e below K T (mkF m pcF Ls S)) : own_W p e below K T (mkF m pc Ls (.int y :: .int x :: S)) := own_icmp X hx pcT pcF (¬ x < y) (fun q => (flt q).2.1) (fun q => (tlt (Decidable.not_not.mp q)).2.1) hd ho hp hp' kT (fun q => kF (Decidable.not_not.mp q))
theorem own_if_ge (X : Stand p l e R s m args below meth c T locs cells slots) (hx : p.tables.exec = Jvm.exec) {x : Int32} {o : Int} (pcT pcF : Nat) (hd : decode c.code pc = .ok (.ifCond .ge o, 3)) (ho : 0 ≤ (pc : Int) + o) (hp : ((pc : Int) + o).toNat = pcT) (hp' : pc + 3 = pcF) (kT : ¬ x < 0 → own_W p e below K T (mkF m pcT Ls S)) (kF : x < 0 → own_W p e below K T (mkF m pcF Ls S)) : own_W p e below K T (mkF m pc Ls (.int x :: S)) := own_if X hx pcT pcF (¬ x < 0) (fun q => (flt q).2.1) (fun q => (tlt (Decidable.not_not.mp q)).2.1) hd ho hp hp' kT (fun q => kF (Decidable.not_not.mp q))
theorem own_lif_ge (X : Stand p l e R s m args below meth c T locs cells slots) (hx : p.tables.exec = Jvm.exec) {x y : Int64} {o : Int} (pc1 pcT pcF : Nat) (hd1 : decode c.code pc = .ok (.lcmp, 1)) (hp1 : pc + 1 = pc1) (hd : decode c.code pc1 = .ok (.ifCond .ge o, 3)) (ho : 0 ≤ (pc1 : Int) + o) (hp : ((pc1 : Int) + o).toNat = pcT) (hp' : pc1 + 3 = pcF) (kT : ¬ x < y → own_W p e below K T (mkF m pcT Ls S)) (kF : x < y → own_W p e below K T (mkF m pcF Ls S)) : own_W p e below K T (mkF m pc Ls (.long y :: .long x :: S)) := own_lcmp X hx pc1 hd1 hp1 (own_if_ge X hx pcT pcF hd ho hp hp' (fun q => kT (fun r => q ((lw_lt x y).mpr r))) (fun q => kF ((lw_lt x y).mp q)))
theorem own_icmp_gt (X : Stand p l e R s m args below meth c T locs cells slots) (hx : p.tables.exec = Jvm.exec) {x y : Int32} {o : Int} (pcT pcF : Nat) (hd : decode c.code pc = .ok (.if_icmp .gt o, 3)) (ho : 0 ≤ (pc : Int) + o) (hp : ((pc : Int) + o).toNat = pcT) (hp' : pc + 3 = pcF) (kT : y < x → own_W p e below K T (mkF m pcT Ls S)) (kF : ¬ y < x → own_W p e below K T (mkF m pcF Ls S)) : own_W p e below K T (mkF m pc Ls (.int y :: .int x :: S)) := own_icmp X hx pcT pcF (y < x) (fun q => (tlt q).2.2.1) (fun q => (flt q).2.2.1) hd ho hp hp' kT kF
theorem own_if_gt (X : Stand p l e R s m args below meth c T locs cells slots) (hx : p.tables.exec = Jvm.exec) {x : Int32} {o : Int} (pcT pcF : Nat) (hd : decode c.code pc = .ok (.ifCond .gt o, 3)) (ho : 0 ≤ (pc : Int) + o) (hp : ((pc : Int) + o).toNat = pcT) (hp' : pc + 3 = pcF) (kT : 0 < x → own_W p e below K T (mkF m pcT Ls S)) (kF : ¬ 0 < x → own_W p e below K T (mkF m pcF Ls S)) : own_W p e below K T (mkF m pc Ls (.int x :: S)) := own_if X hx pcT pcF (0 < x) (fun q => (tlt q).2.2.1) (fun q => (flt q).2.2.1) hd ho hp hp' kT kF
theorem own_lif_gt (X : Stand p l e R s m args below meth c T locs cells slots) (hx : p.tables.exec = Jvm.exec) {x y : Int64} {o : Int} (pc1 pcT pcF : Nat) (hd1 : decode c.code pc = .ok (.lcmp, 1)) (hp1 : pc + 1 = pc1) (hd : decode c.code pc1 = .ok (.ifCond .gt o, 3)) (ho : 0 ≤ (pc1 : Int) + o) (hp : ((pc1 : Int) + o).toNat = pcT) (hp' : pc1 + 3 = pcF) (kT : y < x → own_W p e below K T (mkF m pcT Ls S)) (kF : ¬ y < x → own_W p e below K T (mkF m pcF Ls S)) : own_W p e below K T (mkF m pc Ls (.long y :: .long x :: S)) := own_lcmp X hx pc1 hd1 hp1 (own_if_gt X hx pcT pcF hd ho hp hp' (fun q => kT ((lw_gt x y).mp q)) (fun q => kF (fun r => q ((lw_gt x y).mpr r))))
theorem own_icmp_le (X : Stand p l e R s m args below meth c T locs cells slots) (hx : p.tables.exec = Jvm.exec) {x y : Int32} {o : Int} (pcT pcF : Nat) (hd : decode c.code pc = .ok (.if_icmp .le o, 3)) (ho : 0 ≤ (pc : Int) + o) (hp : ((pc : Int) + o).toNat = pcT) (hp' : pc + 3 = pcF) (kT : ¬ y < x → own_W p e below K T (mkF m pcT Ls S)) (kF : y < x → own_W p e below K T (mkF m pcF Ls S)) : own_W p e below K T (mkF m pc Ls (.int y :: .int x :: S)) := own_icmp X hx pcT pcF (¬ y < x) (fun q => (flt q).2.2.2) (fun q => (tlt (Decidable.not_not.mp q)).2.2.2) hd ho hp hp' kT (fun q => kF (Decidable.not_not.mp q))
theorem own_if_le (X : Stand p l e R s m args below meth c T locs cells slots) (hx : p.tables.exec = Jvm.exec) {x : Int32} {o : Int} (pcT pcF : Nat) (hd : decode c.code pc = .ok (.ifCond .le o, 3)) (ho : 0 ≤ (pc : Int) + o) (hp : ((pc : Int) + o).toNat = pcT) (hp' : pc + 3 = pcF) (kT : ¬ 0 < x → own_W p e below K T (mkF m pcT Ls S)) (kF : 0 < x → own_W p e below K T (mkF m pcF Ls S)) : own_W p e below K T (mkF m pc Ls (.int x :: S)) := own_if X hx pcT pcF (¬ 0 < x) (fun q => (flt q).2.2.2) (fun q => (tlt (Decidable.not_not.mp q)).2.2.2) hd ho hp hp' kT (fun q => kF (Decidable.not_not.mp q))
theorem own_lif_le (X : Stand p l e R s m args below meth c T locs cells slots) (hx : p.tables.exec = Jvm.exec) {x y : Int64} {o : Int} (pc1 pcT pcF : Nat) (hd1 : decode c.code pc = .ok (.lcmp, 1)) (hp1 : pc + 1 = pc1) (hd : decode c.code pc1 = .ok (.ifCond .le o, 3)) (ho : 0 ≤ (pc1 : Int) + o) (hp : ((pc1 : Int) + o).toNat = pcT) (hp' : pc1 + 3 = pcF) (kT : ¬ y < x → own_W p e below K T (mkF m pcT Ls S)) (kF : y < x → own_W p e below K T (mkF m pcF Ls S)) : own_W p e below K T (mkF m pc Ls (.long y :: .long x :: S)) := own_lcmp X hx pc1 hd1 hp1 (own_if_le X hx pcT pcF hd ho hp hp' (fun q => kT (fun r => q ((lw_gt x y).mpr r))) (fun q => kF ((lw_gt x y).mp q)))
theorem own_icmp_eq (X : Stand p l e R s m args below meth c T locs cells slots) (hx : p.tables.exec = Jvm.exec) {x y : Int32} {o : Int} (pcT pcF : Nat) (hd : decode c.code pc = .ok (.if_icmp .eq o, 3)) (ho : 0 ≤ (pc : Int) + o) (hp : ((pc : Int) + o).toNat = pcT) (hp' : pc + 3 = pcF) (kT : x = y → own_W p e below K T (mkF m pcT Ls S)) (kF : ¬ x = y → own_W p e below K T (mkF m pcF Ls S)) : own_W p e below K T (mkF m pc Ls (.int y :: .int x :: S)) := own_icmp X hx pcT pcF (x = y) (fun q => (teq q).1) (fun q => (feq q).1) hd ho hp hp' kT kF
theorem own_if_eq (X : Stand p l e R s m args below meth c T locs cells slots) (hx : p.tables.exec = Jvm.exec) {x : Int32} {o : Int} (pcT pcF : Nat) (hd : decode c.code pc = .ok (.ifCond .eq o, 3)) (ho : 0 ≤ (pc : Int) + o) (hp : ((pc : Int) + o).toNat = pcT) (hp' : pc + 3 = pcF) (kT : x = 0 → own_W p e below K T (mkF m pcT Ls S)) (kF : ¬ x = 0 → own_W p e below K T (mkF m pcF Ls S)) : own_W p e below K T (mkF m pc Ls (.int x :: S)) := own_if X hx pcT pcF (x = 0) (fun q => (teq q).1) (fun q => (feq q).1) hd ho hp hp' kT kF
theorem own_lif_eq (X : Stand p l e R s m args below meth c T locs cells slots) (hx : p.tables.exec = Jvm.exec) {x y : Int64} {o : Int} (pc1 pcT pcF : Nat) (hd1 : decode c.code pc = .ok (.lcmp, 1)) (hp1 : pc + 1 = pc1) (hd : decode c.code pc1 = .ok (.ifCond .eq o, 3)) (ho : 0 ≤ (pc1 : Int) + o) (hp : ((pc1 : Int) + o).toNat = pcT) (hp' : pc1 + 3 = pcF) (kT : x = y → own_W p e below K T (mkF m pcT Ls S)) (kF : ¬ x = y → own_W p e below K T (mkF m pcF Ls S)) : own_W p e below K T (mkF m pc Ls (.long y :: .long x :: S)) := own_lcmp X hx pc1 hd1 hp1 (own_if_eq X hx pcT pcF hd ho hp hp' (fun q => kT ((lw_eq x y).mp q)) (fun q => kF (fun r => q ((lw_eq x y).mpr r))))
theorem own_icmp_ne (X : Stand p l e R s m args below meth c T locs cells slots) (hx : p.tables.exec = Jvm.exec) {x y : Int32} {o : Int} (pcT pcF : Nat) (hd : decode c.code pc = .ok (.if_icmp .ne o, 3)) (ho : 0 ≤ (pc : Int) + o) (hp : ((pc : Int) + o).toNat = pcT) (hp' : pc + 3 = pcF) (kT : ¬ x = y → own_W p e below K T (mkF m pcT Ls S)) (kF : x = y → own_W p e below K T (mkF m pcF Ls S)) : own_W p e below K T (mkF m pc Ls (.int y :: .int x :: S)) := own_icmp X hx pcT pcF (¬ x = y) (fun q => (feq q).2) (fun q => (teq (Decidable.not_not.mp q)).2) hd ho hp hp' kT (fun q => kF (Decidable.not_not.mp q))
theorem own_if_ne (X : Stand p l e R s m args below meth c T locs cells slots) (hx : p.tables.exec = Jvm.exec) {x : Int32} {o : Int} (pcT pcF : Nat) (hd : decode c.code pc = .ok (.ifCond .ne o, 3)) (ho : 0 ≤ (pc : Int) + o) (hp : ((pc : Int) + o).toNat = pcT) (hp' : pc + 3 = pcF) (kT : ¬ x = 0 → own_W p e below K T (mkF m pcT Ls S)) (kF : x = 0 → own_W p e below K T (mkF m pcF Ls S)) : own_W p e below K T (mkF m pc Ls (.int x :: S)) := own_if X hx pcT pcF (¬ x = 0) (fun q => (feq q).2) (fun q => (teq (Decidable.not_not.mp q)).2) hd ho hp hp' kT (fun q => kF (Decidable.not_not.mp q))
theorem own_lif_ne (X : Stand p l e R s m args below meth c T locs cells slots) (hx : p.tables.exec = Jvm.exec) {x y : Int64} {o : Int} (pc1 pcT pcF : Nat) (hd1 : decode c.code pc = .ok (.lcmp, 1)) (hp1 : pc + 1 = pc1) (hd : decode c.code pc1 = .ok (.ifCond .ne o, 3)) (ho : 0 ≤ (pc1 : Int) + o) (hp : ((pc1 : Int) + o).toNat = pcT) (hp' : pc1 + 3 = pcF) (kT : ¬ x = y → own_W p e below K T (mkF m pcT Ls S)) (kF : x = y → own_W p e below K T (mkF m pcF Ls S)) : own_W p e below K T (mkF m pc Ls (.long y :: .long x :: S)) := own_lcmp X hx pc1 hd1 hp1 (own_if_ne X hx pcT pcF hd ho hp hp' (fun q => kT (fun r => q ((lw_eq x y).mpr r))) (fun q => kF ((lw_eq x y).mp q)))
end Plain
section Rets
theorem own_retI (X : Stand p l e R s m args below meth c T locs cells slots) (hx : p.tables.exec = Jvm.exec) {z : Int32} (hret : meth.sig.returnType = some .int) (hlk : meth.locks = false) (hd : decode c.code pc = .ok (.ireturn, 1)) (hc : cells ≤ R.cells) (hl : slots ≤ R.slots) (q : Q (some (.int z)) T.heap locs) : own_W p e below (own_K s R Q) T (mkF m pc Ls (.int z :: S)) := by
  obtain ⟨fs, hr, hrun, hended, hW, hsame⟩ := X.leave (v := some (.int z)) (fun h => by rw [hret] at h; cases h) hlk
  exact ⟨_, _, retI X hx hret hd hr, hrun, hended, _, _, rfl, q, ⟨_, rfl⟩, hW, hsame.mono hc hl⟩
theorem own_retZ (X : Stand p l e R s m args below meth c T locs cells slots) (hx : p.tables.exec = Jvm.exec) {z : Int32} (z' : Int32) (hz : z &&& 1 = z') (hret : meth.sig.returnType = some .boolean) (hlk : meth.locks = false) (hd : decode c.code pc = .ok (.ireturn, 1)) (hc : cells ≤ R.cells) (hl : slots ≤ R.slots) (q : Q (some (.int z')) T.heap locs) : own_W p e below (own_K s R Q) T (mkF m pc Ls (.int z :: S)) := by
  subst hz
  obtain ⟨fs, hr, hrun, hended, hW, hsame⟩ := X.leave (v := some (.int (nar .boolean z))) (fun h => by rw [hret] at h; cases h) hlk
  exact ⟨_, _, retN X hx (t := .boolean) hret (by simp) hd hr, hrun, hended, _, _, rfl, q, ⟨_, rfl⟩, hW, hsame.mono hc hl⟩
theorem own_retJ (X : Stand p l e R s m args below meth c T locs cells slots) (hx : p.tables.exec = Jvm.exec) {z : Int64} (hret : meth.sig.returnType = some .long) (hlk : meth.locks = false) (hd : decode c.code pc = .ok (.lreturn, 1)) (hc : cells ≤ R.cells) (hl : slots ≤ R.slots) (q : Q (some (.long z)) T.heap locs) : own_W p e below (own_K s R Q) T (mkF m pc Ls [.long z]) := by
  obtain ⟨fs, hr, hrun, hended, hW, hsame⟩ := X.leave (v := some (.long z)) (fun h => by rw [hret] at h; cases h) hlk
  exact ⟨_, _, X.lreturnOut hx hret hd hr, hrun, hended, _, _, rfl, q, ⟨_, rfl⟩, hW, hsame.mono hc hl⟩
theorem own_retA (X : Stand p l e R s m args below meth c T locs cells slots) (hx : p.tables.exec = Jvm.exec) {z : Addr} {t : FieldType} (hret : meth.sig.returnType = some t) (ht : t.isReference = true) (hlk : meth.locks = false) (hd : decode c.code pc = .ok (.areturn, 1)) (hc : cells ≤ R.cells) (hl : slots ≤ R.slots) (q : Q (some (.ref z)) T.heap locs) : own_W p e below (own_K s R Q) T (mkF m pc Ls [.ref z]) := by
  obtain ⟨fs, hr, hrun, hended, hW, hsame⟩ := X.leave (v := some (.ref z)) (fun h => by rw [hret] at h; cases h) hlk
  exact ⟨_, _, X.areturnOut hx rfl hret ht hd hr, hrun, hended, _, _, rfl, q, ⟨_, rfl⟩, hW, hsame.mono hc hl⟩
theorem own_retV (X : Stand p l e R s m args below meth c T locs cells slots) (hx : p.tables.exec = Jvm.exec) (hret : meth.sig.returnType = none) (hlk : meth.locks = false) (hd : decode c.code pc = .ok (.return_, 1)) (hc : cells ≤ R.cells) (hl : slots ≤ R.slots) (q : Q none T.heap locs) : own_W p e below (own_K s R Q) T (mkF m pc Ls []) := by
  obtain ⟨fs, hr, hrun, hended, hW, hsame⟩ := X.leave (v := none) (fun _ => rfl) hlk
  exact ⟨_, _, X.returnOut hx hret hd hr, hrun, hended, _, _, rfl, q, ⟨_, rfl⟩, hW, hsame.mono hc hl⟩
end Rets
section Heaps
theorem own_getF (X : Stand p l e R s m args below meth c T locs cells slots) (hx : p.tables.exec = Jvm.exec) (hZ : Z.Warmed39 s.vm) (hown : s.vm.findClass own = some m.cls) (eT : T.heap = h) {O n d : String} {a : Addr} {v : Value} (pc' : Nat) (w : (Jvm.Cond.fieldLink own index O n d).before a0 Z = true) (F : Fld Z h a O n d v) (hd : decode c.code pc = .ok (.getfield index, 3)) (hp : pc + 3 = pc')
    (k : ∀ T', Stand p l e R s m args below meth c T' locs cells slots → T'.heap = h → own_W p e below K T' (mkF m pc' Ls (v :: S))) : own_W p e below K T (mkF m pc Ls (.ref a :: S)) := by
  subst hp
  obtain ⟨T', X', e', st⟩ := getF X hx hZ hown (host := "") (Or.inl w) Via.refl eT F (g := mkF m pc Ls (.ref a :: S)) rfl rfl hd
  exact own_s st (k T' X' e')
theorem own_putF (X : Stand p l e R s m args below meth c T locs cells slots) (hx : p.tables.exec = Jvm.exec) (hZ : Z.Warmed39 s.vm) (hown : s.vm.findClass own = some m.cls) (eT : T.heap = h) {O n d C : String} {a : Addr} {v old : Value} {kk : Nat} {ty : FieldType} (pc' : Nat) (w : (Jvm.Cond.fieldLink own index O n d).before a0 Z = true) (F : Fld Z h a O n d old) (E : Exa Z h a C) (L : (Jvm.Cond.lays C O n d).before a0 Z = true ∨ ((Jvm.Cond.laysFinal C O n d).before a0 Z = true ∧ own = O ∧ meth.name = "<init>")) (wi : (Jvm.Cond.instantiable C kk).before a0 Z = true)
    (hty : parseFieldDescriptor d = some ty) (hn : narrow ty v = v) (hf : fits ty v = true) (hd : decode c.code pc = .ok (.putfield index, 3)) (hp : pc + 3 = pc')
    (k : ∀ T' h', Stand p l e R s m args below meth c T' (locs ++ [⟨a, Jvm.RoadKit.slotOf Z O n d⟩]) cells slots → T'.heap = h' → Wr h h' a (Jvm.RoadKit.slotOf Z O n d) v → own_W p e below K T' (mkF m pc' Ls S)) : own_W p e below K T (mkF m pc Ls (v :: .ref a :: S)) := by
  subst hp
  obtain ⟨T', h', X', e', W, st⟩ := putF X hx hZ hown (host := "") (Or.inl w) Via.refl eT F E L wi hty hn hf (g := mkF m pc Ls (v :: .ref a :: S)) rfl rfl hd
  exact own_s st (k T' h' X' e' W)
theorem own_putZ (X : Stand p l e R s m args below meth c T locs cells slots) (hx : p.tables.exec = Jvm.exec) (hZ : Z.Warmed39 s.vm) (hown : s.vm.findClass own = some m.cls) (eT : T.heap = h) {O n d C : String} {a : Addr} {v : Int32} {old : Value} {kk : Nat} (pc' : Nat) (w : (Jvm.Cond.fieldLink own index O n d).before a0 Z = true) (F : Fld Z h a O n d old) (E : Exa Z h a C) (L : (Jvm.Cond.lays C O n d).before a0 Z = true ∨ ((Jvm.Cond.laysFinal C O n d).before a0 Z = true ∧ own = O ∧ meth.name = "<init>")) (wi : (Jvm.Cond.instantiable C kk).before a0 Z = true)
    (hty : parseFieldDescriptor d = some .boolean) (hd : decode c.code pc = .ok (.putfield index, 3)) (hp : pc + 3 = pc')
    (k : ∀ T' h', Stand p l e R s m args below meth c T' (locs ++ [⟨a, Jvm.RoadKit.slotOf Z O n d⟩]) cells slots → T'.heap = h' → Wr h h' a (Jvm.RoadKit.slotOf Z O n d) (.int (v &&& 1)) → own_W p e below K T' (mkF m pc' Ls S)) : own_W p e below K T (mkF m pc Ls (.int v :: .ref a :: S)) := by
  subst hp
  obtain ⟨T', h', X', e', W, st⟩ := putFN X hx hZ hown w Via.refl eT F E L wi (ty := .boolean) (v' := .int (nar .boolean v)) hty rfl (fits_nar_bool _) (g := mkF m pc Ls (.int v :: .ref a :: S)) rfl rfl hd
  exact own_s st (k T' h' X' e' W)
theorem own_new (X : Stand p l e R s m args below meth c T locs cells slots) (hx : p.tables.exec = Jvm.exec) (hZ : Z.Warmed39 s.vm) (hown : s.vm.findClass own = some m.cls) (eT : T.heap = h) {C : String} {n : Nat} (pc' : Nat) (w : (Jvm.Cond.classLink own index C).before a0 Z = true) (wi : (Jvm.Cond.instantiable C n).before a0 Z = true) (wz : (Jvm.Cond.initialized C).before a0 Z = true) (hd : decode c.code pc = .ok (.new index, 3)) (hp : pc + 3 = pc') (hc : cells + 1 ≤ R.cells) (hl : slots + n ≤ R.slots)
    (k : ∀ T' h' a, Stand p l e R s m args below meth c T' locs (cells + 1) (slots + n) → T'.heap = h' → a = h.size → Ext h h' → Exa Z h' a C → (∀ {O nm d : String} {ty : FieldType}, Laid Z a0 C O nm d → parseFieldDescriptor d = some ty → Fld Z h' a O nm d (defaultValue ty)) → own_W p e below K T' (mkF m pc' Ls (.ref a :: S))) : own_W p e below K T (mkF m pc Ls S) := by
  subst hp
  obtain ⟨T', h', X', e', E, A, D, -, st⟩ := newO X hx hZ hown w wi wz eT (g := mkF m pc Ls S) rfl hd hc hl
  exact own_s st (k T' h' _ X' e' rfl E A D)
theorem own_initO (X : Stand p l e R s m args below meth c T locs cells slots) (hx : p.tables.exec = Jvm.exec) (hZ : Z.Warmed39 s.vm) (hown : s.vm.findClass own = some m.cls) (eT : T.heap = h) {a : Addr} {W : Nat} (pc' : Nat) (w1 : (Jvm.Cond.methodLink own index Lib.objectInit).before a0 Z = true) (w2 : (Jvm.Cond.instanceMethod Lib.objectInit).before a0 Z = true) (w3 : (Jvm.Cond.code Lib.objectInit ⟨#[0xb1]⟩ 1 none).before a0 Z = true) (hsize : Ls.size = c.maxLocals) (hd : decode c.code pc = .ok (.invokespecial index, 3)) (hp : pc + 3 = pc')
    (hf : 1 ≤ R.frames) (hW : (S.map fun v => v.category).sum = W) (hl : W + 12 ≤ R.locals)
    (k : ∀ T', Stand p l e R s m args below meth c T' locs cells slots → T'.heap = h → own_W p e below K T' (mkF m pc' Ls S)) : own_W p e below K T (mkF m pc Ls (.ref a :: S)) := by
  subst hp
  obtain ⟨T', X', e', st⟩ := initO X hx hZ hown w1 w2 w3 eT (g := mkF m pc Ls (.ref a :: S)) rfl hsize rfl hd hf (W := W) (by show 2 * 0 + _ ≤ _; rw [hW]; omega) hl
  exact own_s st (k T' X' e')
theorem own_callS (X : Stand p l e R s m args below meth c T locs cells slots) (hx : p.tables.exec = Jvm.exec) (hZ : Z.Warmed39 s.vm) (hown : s.vm.findClass own = some m.cls) (eT : T.heap = h) {argsL rest : List Value} {W : Nat} (pc' : Nat) (hM : own_C l Z y bytes maxL ret [] rm argsL.toArray h Q) (w1 : (Jvm.Cond.methodLink own index y).before a0 Z = true) (w2 : (Jvm.Cond.static y).before a0 Z = true) (w3 : (Jvm.Cond.initialized y.cls).before a0 Z = true) (w4 : (Jvm.Cond.code y bytes maxL ret).before a0 Z = true)
    (hy : y.cls ≠ "java/lang/invoke/MethodHandle" ∧ y.cls ≠ "java/lang/invoke/VarHandle") (hsize : Ls.size = c.maxLocals) (hlen : ∀ sig, parseMethodDescriptor y.desc = some sig → argsL.length = sig.parameters.length) (hst : S = argsL.reverse ++ rest) (hd : decode c.code pc = .ok (.invokestatic index, 3)) (hp : pc + 3 = pc')
    (hW : (rest.map fun v => v.category).sum = W) (hf : rm.frames + 1 ≤ R.frames) (hl : W + (maxL + 11) + rm.locals ≤ R.locals) (hc : cells + rm.cells ≤ R.cells) (hs : slots + rm.slots ≤ R.slots)
    (k : ∀ v T' L, Stand p l e R s m args below meth c T' (locs ++ L) (cells + rm.cells) (slots + rm.slots) → Q v T'.heap L → own_W p e below K T' (mkF m pc' Ls (v.toList ++ rest))) : own_W p e below K T (mkF m pc Ls S) := by
  subst hp hst
  obtain ⟨v, vm₁, ⟨T', L', k', n'⟩, -, X', ⟨L, hQ, l1, y1, z1⟩, st⟩ := Jvm.LawKit.callS X hx (y := y) hown (mvT hZ w1) (mvT hZ w2) (mvT hZ w3) (mvT hZ w4) hy (backOf (W := W) hM hZ w4 w3 hf hl) (g := mkF m pc Ls (argsL.reverse ++ rest)) rfl hsize (argsL := argsL) (rest := rest) hlen rfl (by show 2 * 0 + _ ≤ _; rw [hW]; omega) hd (fun _ _ => ⟨rfl, eT, hc, hs⟩)
  dsimp only [Pt.U, Pt.locs, Pt.cells, Pt.slots] at X' l1 y1 z1 st hQ
  subst l1 y1 z1
  exact own_s st (k v T' L X' hQ)
theorem own_callI (X : Stand p l e R s m args below meth c T locs cells slots) (hx : p.tables.exec = Jvm.exec) (hZ : Z.Warmed39 s.vm) (hown : s.vm.findClass own = some m.cls) (eT : T.heap = h) {a : Addr} {argsL rest : List Value} {W : Nat} (pc' : Nat) (hM : own_C l Z y bytes maxL none [] rm (.ref a :: argsL).toArray h Q) (hn : y.name = "<init>") (w1 : (Jvm.Cond.methodLink own index y).before a0 Z = true) (w2 : (Jvm.Cond.instanceMethod y).before a0 Z = true) (w3 : (Jvm.Cond.initialized y.cls).before a0 Z = true) (w4 : (Jvm.Cond.code y bytes maxL none).before a0 Z = true)
    (hy : y.cls ≠ "java/lang/invoke/MethodHandle" ∧ y.cls ≠ "java/lang/invoke/VarHandle") (hsize : Ls.size = c.maxLocals) (hlen : ∀ sig, parseMethodDescriptor y.desc = some sig → argsL.length = sig.parameters.length) (hst : S = argsL.reverse ++ .ref a :: rest) (hd : decode c.code pc = .ok (.invokespecial index, 3)) (hp : pc + 3 = pc')
    (hW : (rest.map fun v => v.category).sum = W) (hf : rm.frames + 1 ≤ R.frames) (hl : W + (maxL + 11) + rm.locals ≤ R.locals) (hc : cells + rm.cells ≤ R.cells) (hs : slots + rm.slots ≤ R.slots)
    (k : ∀ v T' L, Stand p l e R s m args below meth c T' (locs ++ L) (cells + rm.cells) (slots + rm.slots) → Q v T'.heap L → own_W p e below K T' (mkF m pc' Ls (v.toList ++ rest))) : own_W p e below K T (mkF m pc Ls S) := by
  subst hp hst
  obtain ⟨v, vm₁, ⟨T', L', k', n'⟩, -, X', ⟨L, hQ, l1, y1, z1⟩, st⟩ := X.specialBack hx (y := y) hn hown (mvT hZ w1) (mvT hZ w2) (mvT hZ w4) hy (backOf (W := W) hM hZ w4 w3 hf hl) (g := mkF m pc Ls (argsL.reverse ++ .ref a :: rest)) rfl hsize (Steps.refl _) (a := a) (argsL := argsL) (rest := rest) hlen rfl (by show 2 * 0 + _ ≤ _; rw [hW]; omega) hd (fun _ _ => ⟨rfl, eT, hc, hs⟩)
  dsimp only [Pt.U, Pt.locs, Pt.cells, Pt.slots] at X' l1 y1 z1 st hQ
  subst l1 y1 z1
  exact own_s' st (k v T' L X' hQ)
theorem own_callV (X : Stand p l e R s m args below meth c T locs cells slots) (hx : p.tables.exec = Jvm.exec) (hZ : Z.Warmed39 s.vm) (hown : s.vm.findClass own = some m.cls) (eT : T.heap = h) {a : Addr} {argsL rest : List Value} {W : Nat} (pc' : Nat) (hM : own_C l Z y bytes maxL ret [] rm (.ref a :: argsL).toArray h Q) (E : Exa Z h a y.cls) (w1 : (Jvm.Cond.methodLink own index y).before a0 Z = true) (w2 : (Jvm.Cond.declares y).before a0 Z = true) (w5 : (Jvm.Cond.selects y.cls y y).before a0 Z = true) (w6 : (Jvm.Cond.instanceMethod y).before a0 Z = true) (w3 : (Jvm.Cond.initialized y.cls).before a0 Z = true) (w4 : (Jvm.Cond.code y bytes maxL ret).before a0 Z = true)
    (hy : y.cls ≠ "java/lang/invoke/MethodHandle" ∧ y.cls ≠ "java/lang/invoke/VarHandle") (hsize : Ls.size = c.maxLocals) (hlen : ∀ sig, parseMethodDescriptor y.desc = some sig → argsL.length = sig.parameters.length) (hst : S = argsL.reverse ++ .ref a :: rest) (hd : decode c.code pc = .ok (.invokevirtual index, 3)) (hp : pc + 3 = pc')
    (hW : (rest.map fun v => v.category).sum = W) (hf : rm.frames + 1 ≤ R.frames) (hl : W + (maxL + 11) + rm.locals ≤ R.locals) (hc : cells + rm.cells ≤ R.cells) (hs : slots + rm.slots ≤ R.slots)
    (k : ∀ v T' L, Stand p l e R s m args below meth c T' (locs ++ L) (cells + rm.cells) (slots + rm.slots) → Q v T'.heap L → own_W p e below K T' (mkF m pc' Ls (v.toList ++ rest))) : own_W p e below K T (mkF m pc Ls S) := by
  subst hp hst
  obtain ⟨cq, kq, qa, qb, qc⟩ := isOf hZ eT E
  obtain ⟨v, vm₁, ⟨T', L', k', n'⟩, -, X', ⟨L, hQ, l1, y1, z1⟩, st⟩ := X.virtualBack hx (y := y) (z := y) hown (mvT hZ w1) (mvT hZ w2) (notFace_of_selects (args := #[]) (mvT hZ w5)) (mvT hZ w5) (mvT hZ w6) hy (backOf (W := W) hM hZ w4 w3 hf hl) qa qc (g := mkF m pc Ls (argsL.reverse ++ .ref a :: rest)) rfl hsize (Steps.refl _) (argsL := argsL) (rest := rest) hlen rfl (by show 2 * 0 + _ ≤ _; rw [hW]; omega) hd (fun _ _ => ⟨rfl, eT, hc, hs⟩)
  dsimp only [Pt.U, Pt.locs, Pt.cells, Pt.slots] at X' l1 y1 z1 st hQ
  subst l1 y1 z1
  exact own_s' st (k v T' L X' hQ)
/-- an array of ints (bytes, booleans): n places, place j holds f j -/
def own_AI (Z : State) (h : Heap) (a : Addr) (ty : FieldType) (n : Nat) (f : Nat → Int32) : Prop := ∃ c : Cell, Arr Z h a c ty ∧ c.slots.size = n ∧ ∀ j, j < n → c.slots[j]? = some (.int (f j))
def own_AJ (Z : State) (h : Heap) (a : Addr) (n : Nat) (f : Nat → Int64) : Prop := ∃ c : Cell, Arr Z h a c .long ∧ c.slots.size = n ∧ ∀ j, j < n → c.slots[j]? = some (.long (f j))
section Arrs
variable {a b : Addr} {n i : Nat} {ty : FieldType} {f : Nat → Int32} {fj : Nat → Int64} {j : Int32} {ws : List Addr} {v : Value} {sl : Nat}
theorem own_AI.lt (A : own_AI Z h a ty n f) : a < h.size := by obtain ⟨c, A, -⟩ := A; exact A.lt
theorem own_AJ.lt (A : own_AJ Z h a n fj) : a < h.size := by obtain ⟨c, A, -⟩ := A; exact A.lt
theorem own_AI.ext (A : own_AI Z h a ty n f) (E : Ext h h') : own_AI Z h' a ty n f := by obtain ⟨c, A, r⟩ := A; exact ⟨c, A.ext E, r⟩
theorem own_AJ.ext (A : own_AJ Z h a n fj) (E : Ext h h') : own_AJ Z h' a n fj := by obtain ⟨c, A, r⟩ := A; exact ⟨c, A.ext E, r⟩
theorem own_AI.other (A : own_AI Z h a ty n f) (W : Wr h h' b sl v) (q : a ≠ b) : own_AI Z h' a ty n f := by obtain ⟨c, A, r⟩ := A; exact ⟨c, A.other W q, r⟩
theorem own_AJ.other (A : own_AJ Z h a n fj) (W : Wr h h' b sl v) (q : a ≠ b) : own_AJ Z h' a n fj := by obtain ⟨c, A, r⟩ := A; exact ⟨c, A.other W q, r⟩
theorem own_AI.keep (A : own_AI Z h a ty n f) (K : Keep h h' ws) (q : a ∉ ws) : own_AI Z h' a ty n f := by obtain ⟨c, A, r⟩ := A; exact ⟨c, ⟨K.2.1 a c A.1 q, A.2⟩, r⟩
theorem own_AJ.keep (A : own_AJ Z h a n fj) (K : Keep h h' ws) (q : a ∉ ws) : own_AJ Z h' a n fj := by obtain ⟨c, A, r⟩ := A; exact ⟨c, ⟨K.2.1 a c A.1 q, A.2⟩, r⟩
theorem own_AI.set {x : Int32} (A : own_AI Z h a ty n f) (W : Wr h h' a i (.int x)) : own_AI Z h' a ty n (fun q => if q = i then x else f q) := by
  obtain ⟨c, A, S, H⟩ := A
  refine ⟨_, A.same W, by rw [sz_set]; exact S, fun q hq => ?_⟩
  by_cases e : q = i
  · subst e; simp [Cell.setSlot, S, hq]
  · simp only [Cell.setSlot, if_neg e]; rw [Array.getElem?_setIfInBounds_ne (Ne.symm e)]; exact H q hq
theorem own_AJ.set {x : Int64} (A : own_AJ Z h a n fj) (W : Wr h h' a i (.long x)) : own_AJ Z h' a n (fun q => if q = i then x else fj q) := by
  obtain ⟨c, A, S, H⟩ := A
  refine ⟨_, A.same W, by rw [sz_set]; exact S, fun q hq => ?_⟩
  by_cases e : q = i
  · subst e; simp [Cell.setSlot, S, hq]
  · simp only [Cell.setSlot, if_neg e]; rw [Array.getElem?_setIfInBounds_ne (Ne.symm e)]; exact H q hq
theorem own_AI.congr {g : Nat → Int32} (A : own_AI Z h a ty n f) (q : ∀ j, j < n → f j = g j) : own_AI Z h a ty n g := by obtain ⟨c, A, S, H⟩ := A; exact ⟨c, A, S, fun j hj => by rw [← q j hj]; exact H j hj⟩
theorem own_AJ.congr {g : Nat → Int64} (A : own_AJ Z h a n fj) (q : ∀ j, j < n → fj j = g j) : own_AJ Z h a n g := by obtain ⟨c, A, S, H⟩ := A; exact ⟨c, A, S, fun j hj => by rw [← q j hj]; exact H j hj⟩
theorem own_nat {j : Int32} {i : Nat} (q : j.toInt = i) : j.toNatClampNeg = i := by show j.toInt.toNat = i; rw [q]; exact Int.toNat_natCast i
theorem own_inb {j : Int32} {i n : Nat} (q : j.toInt = i) (r : i < n) {k : Nat} (e : k = n) : ¬ (j < 0 ∨ k ≤ j.toNatClampNeg) := by
  rw [own_nat q]; rintro (u | u)
  · rw [Int32.lt_iff_toInt_lt] at u; rw [q] at u; have : (0 : Int32).toInt = 0 := rfl; omega
  · omega
theorem own_iaload (X : Stand p l e R s m args below meth c T locs cells slots) (hx : p.tables.exec = Jvm.exec) (hZ : Z.Warmed39 s.vm) (eT : T.heap = h) (pc' : Nat) (i : Nat) (A : own_AI Z h a .int n f) (hj : j.toInt = i) (hi : i < n) (hd : decode c.code pc = .ok (.iaload, 1)) (hp : pc + 1 = pc') (k : own_W p e below K T (mkF m pc' Ls (.int (f i) :: S))) : own_W p e below K T (mkF m pc Ls (.int j :: .ref a :: S)) := by
  subst hp
  obtain ⟨cl, A, Sz, H⟩ := A
  exact own_s (fun t => X.iaload hx (j := j) (by rw [eT]; exact A.1) (State.isArrayOf_alike hZ.alike A.2.1) A.2.2 (own_inb hj hi Sz) (by rw [own_nat hj]; exact H i hi) (g := mkF m pc Ls (.int j :: .ref a :: S)) rfl rfl hd t) k
theorem own_baload (X : Stand p l e R s m args below meth c T locs cells slots) (hx : p.tables.exec = Jvm.exec) (hZ : Z.Warmed39 s.vm) (eT : T.heap = h) (pc' : Nat) (i : Nat) (A : own_AI Z h a .byte n f) (hj : j.toInt = i) (hi : i < n) (hd : decode c.code pc = .ok (.baload, 1)) (hp : pc + 1 = pc') (k : own_W p e below K T (mkF m pc' Ls (.int (f i) :: S))) : own_W p e below K T (mkF m pc Ls (.int j :: .ref a :: S)) := by
  subst hp
  obtain ⟨cl, A, Sz, H⟩ := A
  exact own_s (fun t => X.baloadBytes hx (j := j) (by rw [eT]; exact A.1) (State.isArrayOf_alike hZ.alike A.2.1) A.2.2 (own_inb hj hi Sz) (by rw [own_nat hj]; exact H i hi) (g := mkF m pc Ls (.int j :: .ref a :: S)) rfl rfl hd t) k
theorem own_laload (X : Stand p l e R s m args below meth c T locs cells slots) (hx : p.tables.exec = Jvm.exec) (hZ : Z.Warmed39 s.vm) (eT : T.heap = h) (pc' : Nat) (i : Nat) (A : own_AJ Z h a n fj) (hj : j.toInt = i) (hi : i < n) (hd : decode c.code pc = .ok (.laload, 1)) (hp : pc + 1 = pc') (k : own_W p e below K T (mkF m pc' Ls (.long (fj i) :: S))) : own_W p e below K T (mkF m pc Ls (.int j :: .ref a :: S)) := by
  subst hp
  obtain ⟨cl, A, Sz, H⟩ := A
  exact own_s (fun t => X.laload hx (j := j) (by rw [eT]; exact A.1) (State.isArrayOf_alike hZ.alike A.2.1) A.2.2 (own_inb hj hi Sz) (by rw [own_nat hj]; exact H i hi) (g := mkF m pc Ls (.int j :: .ref a :: S)) rfl rfl hd t) k
theorem own_iastore (X : Stand p l e R s m args below meth c T locs cells slots) (hx : p.tables.exec = Jvm.exec) (hZ : Z.Warmed39 s.vm) (eT : T.heap = h) {x : Int32} (pc' : Nat) (i : Nat) (A : own_AI Z h a .int n f) (hj : j.toInt = i) (hi : i < n) (hd : decode c.code pc = .ok (.iastore, 1)) (hp : pc + 1 = pc')
    (k : ∀ T' h', Stand p l e R s m args below meth c T' (locs ++ [⟨a, i⟩]) cells slots → T'.heap = h' → Wr h h' a i (.int x) → own_W p e below K T' (mkF m pc' Ls S)) : own_W p e below K T (mkF m pc Ls (.int x :: .int j :: .ref a :: S)) := by
  subst hp
  obtain ⟨cl, A, Sz, H⟩ := A
  obtain ⟨T', h', X', e', W, st⟩ := stI X hx hZ eT A (j := j) (own_inb hj hi Sz) (g := mkF m pc Ls (.int x :: .int j :: .ref a :: S)) rfl rfl hd
  rw [own_nat hj] at X' W
  exact own_s st (k T' h' X' e' W)
theorem own_bastore (X : Stand p l e R s m args below meth c T locs cells slots) (hx : p.tables.exec = Jvm.exec) (hZ : Z.Warmed39 s.vm) (eT : T.heap = h) {x : Int32} (pc' : Nat) (i : Nat) (A : own_AI Z h a .byte n f) (hj : j.toInt = i) (hi : i < n) (hd : decode c.code pc = .ok (.bastore, 1)) (hp : pc + 1 = pc')
    (k : ∀ T' h', Stand p l e R s m args below meth c T' (locs ++ [⟨a, i⟩]) cells slots → T'.heap = h' → Wr h h' a i (.int x.toInt8.toInt32) → own_W p e below K T' (mkF m pc' Ls S)) : own_W p e below K T (mkF m pc Ls (.int x :: .int j :: .ref a :: S)) := by
  subst hp
  obtain ⟨cl, A, Sz, H⟩ := A
  obtain ⟨T', h', X', e', W, st⟩ := stB X hx hZ eT A (j := j) (own_inb hj hi Sz) (g := mkF m pc Ls (.int x :: .int j :: .ref a :: S)) rfl rfl hd
  rw [own_nat hj] at X' W
  exact own_s st (k T' h' X' e' W)
theorem own_lastore (X : Stand p l e R s m args below meth c T locs cells slots) (hx : p.tables.exec = Jvm.exec) (hZ : Z.Warmed39 s.vm) (eT : T.heap = h) {x : Int64} (pc' : Nat) (i : Nat) (A : own_AJ Z h a n fj) (hj : j.toInt = i) (hi : i < n) (hd : decode c.code pc = .ok (.lastore, 1)) (hp : pc + 1 = pc')
    (k : ∀ T' h', Stand p l e R s m args below meth c T' (locs ++ [⟨a, i⟩]) cells slots → T'.heap = h' → Wr h h' a i (.long x) → own_W p e below K T' (mkF m pc' Ls S)) : own_W p e below K T (mkF m pc Ls (.long x :: .int j :: .ref a :: S)) := by
  subst hp
  obtain ⟨cl, A, Sz, H⟩ := A
  obtain ⟨T', h', X', e', W, st⟩ := stJ X hx hZ eT A (j := j) (own_inb hj hi Sz) (g := mkF m pc Ls (.long x :: .int j :: .ref a :: S)) rfl rfl hd
  rw [own_nat hj] at X' W
  exact own_s st (k T' h' X' e' W)
theorem own_arraylength (X : Stand p l e R s m args below meth c T locs cells slots) (hx : p.tables.exec = Jvm.exec) (hZ : Z.Warmed39 s.vm) (eT : T.heap = h) (pc' : Nat) {z : Int32} (A : own_AI Z h a ty n f) (hz : z.toInt = n) (hd : decode c.code pc = .ok (.arraylength, 1)) (hp : pc + 1 = pc') (k : own_W p e below K T (mkF m pc' Ls (.int z :: S))) : own_W p e below K T (mkF m pc Ls (.ref a :: S)) := by
  subst hp
  obtain ⟨cl, A, Sz, H⟩ := A
  have q : cl.slots.size.toInt32 = z := len_of (by rw [Sz, own_nat hz]) (fun u => by rw [Int32.lt_iff_toInt_lt, hz] at u; have : (0 : Int32).toInt = 0 := rfl; omega)
  rw [← q] at k
  exact own_s (fun t => X.arraylength hx (by rw [eT]; exact A.1) (State.isArrayOf_alike hZ.alike A.2.1) (g := mkF m pc Ls (.ref a :: S)) rfl rfl hd t) k
theorem own_arraylengthJ (X : Stand p l e R s m args below meth c T locs cells slots) (hx : p.tables.exec = Jvm.exec) (hZ : Z.Warmed39 s.vm) (eT : T.heap = h) (pc' : Nat) {z : Int32} (A : own_AJ Z h a n fj) (hz : z.toInt = n) (hd : decode c.code pc = .ok (.arraylength, 1)) (hp : pc + 1 = pc') (k : own_W p e below K T (mkF m pc' Ls (.int z :: S))) : own_W p e below K T (mkF m pc Ls (.ref a :: S)) := by
  subst hp
  obtain ⟨cl, A, Sz, H⟩ := A
  have q : cl.slots.size.toInt32 = z := len_of (by rw [Sz, own_nat hz]) (fun u => by rw [Int32.lt_iff_toInt_lt, hz] at u; have : (0 : Int32).toInt = 0 := rfl; omega)
  rw [← q] at k
  exact own_s (fun t => X.arraylength hx (by rw [eT]; exact A.1) (State.isArrayOf_alike hZ.alike A.2.1) (g := mkF m pc Ls (.ref a :: S)) rfl rfl hd t) k
theorem own_newI (X : Stand p l e R s m args below meth c T locs cells slots) (hx : p.tables.exec = Jvm.exec) (hZ : Z.Warmed39 s.vm) (eT : T.heap = h) {aty : ArrayType} {z : Int32} {n cap : Nat} (pc' : Nat) (ty : FieldType) (hty : newarray.typeOf aty = ty) (hdef : defaultValue ty = .int 0) (w : (Jvm.Cond.arrayClass ty).before a0 Z = true) (hz : z.toInt = n) (hcap : n ≤ cap) (hb : cap * 8 ≤ 536870912) (hd : decode c.code pc = .ok (.newarray aty, 2)) (hp : pc + 2 = pc') (hc : cells + 1 ≤ R.cells) (hl : slots + cap ≤ R.slots)
    (k : ∀ T' h' a, Stand p l e R s m args below meth c T' locs (cells + 1) (slots + cap) → T'.heap = h' → a = h.size → Ext h h' → own_AI Z h' a ty n (fun _ => 0) → own_W p e below K T' (mkF m pc' Ls (.ref a :: S))) : own_W p e below K T (mkF m pc Ls (.int z :: S)) := by
  subst hp hty
  obtain ⟨T', h', cA, X', e', E, A, st⟩ := newP X hx hZ w eT (g := mkF m pc Ls (.int z :: S)) rfl hd rfl (fun u => by rw [Int32.lt_iff_toInt_lt, hz] at u; have : (0 : Int32).toInt = 0 := rfl; omega) (cap := cap) (by rw [own_nat hz]; exact hcap) hb hc hl
  refine own_s st (k T' h' _ X' e' rfl E ⟨_, A, by rw [sz_new, own_nat hz], fun j hj => ?_⟩)
  simp [newA, own_nat hz, hj, hdef]
theorem own_newJ (X : Stand p l e R s m args below meth c T locs cells slots) (hx : p.tables.exec = Jvm.exec) (hZ : Z.Warmed39 s.vm) (eT : T.heap = h) {z : Int32} {n cap : Nat} (pc' : Nat) (w : (Jvm.Cond.arrayClass .long).before a0 Z = true) (hz : z.toInt = n) (hcap : n ≤ cap) (hb : cap * 8 ≤ 536870912) (hd : decode c.code pc = .ok (.newarray .long, 2)) (hp : pc + 2 = pc') (hc : cells + 1 ≤ R.cells) (hl : slots + cap ≤ R.slots)
    (k : ∀ T' h' a, Stand p l e R s m args below meth c T' locs (cells + 1) (slots + cap) → T'.heap = h' → a = h.size → Ext h h' → own_AJ Z h' a n (fun _ => 0) → own_W p e below K T' (mkF m pc' Ls (.ref a :: S))) : own_W p e below K T (mkF m pc Ls (.int z :: S)) := by
  subst hp
  obtain ⟨T', h', cA, X', e', E, A, st⟩ := newP X hx hZ (aty := .long) w eT (g := mkF m pc Ls (.int z :: S)) rfl hd rfl (fun u => by rw [Int32.lt_iff_toInt_lt, hz] at u; have : (0 : Int32).toInt = 0 := rfl; omega) (cap := cap) (by rw [own_nat hz]; exact hcap) hb hc hl
  refine own_s st (k T' h' _ X' e' rfl E ⟨_, A, by rw [sz_new, own_nat hz], fun j hj => ?_⟩)
  simp [newA, own_nat hz, hj, newarray.typeOf, defaultValue]
end Arrs
end Heaps
end OwnLayer
theorem own_toInt (x : Int32) : x.toInt = if x.toBitVec.toNat < 2147483648 then (x.toBitVec.toNat : Int) else (x.toBitVec.toNat : Int) - 4294967296 := by
  show x.toBitVec.toInt = _
  rw [BitVec.toInt_eq_toNat_cond]; split <;> split <;> omega
theorem own_toIntL (x : Int64) : x.toInt = if x.toBitVec.toNat < 9223372036854775808 then (x.toBitVec.toNat : Int) else (x.toBitVec.toNat : Int) - 18446744073709551616 := by
  show x.toBitVec.toInt = _
  rw [BitVec.toInt_eq_toNat_cond]; split <;> split <;> omega
theorem own_shl (x : Int64) (q : Int32) (k : Nat) (hk : q.toBitVec.toNat % 64 = k) : (x <<< (q &&& 0x3f).toInt64).toBitVec = x.toBitVec <<< k := by
  obtain ⟨h1, h2⟩ := sm64 q k hk
  show x.toBitVec <<< ((q &&& 0x3f).toInt64.toBitVec.smod 64) = _
  rw [h1, BitVec.shiftLeft_eq', smod64 k h2]
theorem own_ushr (x : Int64) (q : Int32) (k : Nat) (hk : q.toBitVec.toNat % 64 = k) : ((x.toUInt64 >>> (q &&& 0x3f).toInt64.toUInt64).toInt64).toBitVec = x.toBitVec >>> k := by
  obtain ⟨h1, h2⟩ := sm64 q k hk
  show x.toBitVec >>> ((q &&& 0x3f).toInt64.toBitVec % 64) = _
  rw [h1, BitVec.ushiftRight_eq']
  congr 1
  simp [BitVec.toNat_umod]; omega
theorem own_natL (c : Int64) (h : 0 ≤ c.toInt) : c.toBitVec.toNat = c.toInt.toNat := by
  have := own_toIntL c
  have := c.toBitVec.isLt
  split at * <;> omega
theorem own_l2iB (c : Int64) : c.toInt32.toBitVec.toNat = c.toBitVec.toNat % 4294967296 := by
  have h1 := c_l2i c
  have h2 := own_toInt c.toInt32
  have h3 := own_toIntL c
  have h4 := c.toBitVec.isLt
  have h5 := c.toInt32.toBitVec.isLt
  split at h2 <;> split at h3 <;> omega
theorem own_gshl (x : Int64) (q : Int32) (k : Nat) (hk : q.toInt = k) (hk2 : k < 64) (j : Nat) : (x <<< (q &&& 0x3f).toInt64).toBitVec.getLsbD j = (decide (j < 64) && !decide (j < k) && x.toBitVec.getLsbD (j - k)) := by
  have h := own_toInt q
  rw [own_shl x q k (by split at h <;> omega), BitVec.getLsbD_shiftLeft]
theorem own_gushr (x : Int64) (q : Int32) (k : Nat) (hk : q.toInt = k) (hk2 : k < 64) (j : Nat) : ((x.toUInt64 >>> (q &&& 0x3f).toInt64.toUInt64).toInt64).toBitVec.getLsbD j = x.toBitVec.getLsbD (k + j) := by
  have h := own_toInt q
  rw [own_ushr x q k (by split at h <;> omega), BitVec.getLsbD_ushiftRight]
theorem own_gand (x y : Int64) (j : Nat) : (x &&& y).toBitVec.getLsbD j = (x.toBitVec.getLsbD j && y.toBitVec.getLsbD j) := by
  show (x.toBitVec &&& y.toBitVec).getLsbD j = _; rw [BitVec.getLsbD_and]
theorem own_gor (x y : Int64) (j : Nat) : (x ||| y).toBitVec.getLsbD j = (x.toBitVec.getLsbD j || y.toBitVec.getLsbD j) := by
  show (x.toBitVec ||| y.toBitVec).getLsbD j = _; rw [BitVec.getLsbD_or]
theorem own_gnot (x : Int64) (j : Nat) (hj : j < 64) : (x ^^^ (-1 : Int64)).toBitVec.getLsbD j = !x.toBitVec.getLsbD j := by
  show (x.toBitVec ^^^ BitVec.allOnes 64).getLsbD j = _; rw [BitVec.getLsbD_xor, BitVec.getLsbD_allOnes, decide_eq_true hj, Bool.xor_true]
theorem own_ge (x : Int64) (j : Nat) (hj : 64 ≤ j) : x.toBitVec.getLsbD j = false := BitVec.getLsbD_of_ge _ _ hj
theorem own_ext (x y : Int64) (h : ∀ j, j < 64 → x.toBitVec.getLsbD j = y.toBitVec.getLsbD j) : x = y := by
  rw [← Int64.toBitVec_inj]; exact BitVec.eq_of_getLsbD_eq h
def own_rs (v : Int64) (c : Nat) : Int64 := Int64.ofBitVec (v.toBitVec >>> (7 * c))
def own_hb (v : Int64) (c : Nat) : Int32 := ((((own_rs v c &&& (127 : Int64)) ||| (128 : Int64)).toInt32.toInt8.toInt32).toInt8.toInt32)
def own_lb (v : Int64) (c : Nat) : Int32 := (((own_rs v c).toInt32.toInt8.toInt32).toInt8.toInt32)
theorem own_rsB (v : Int64) (c : Nat) : (own_rs v c).toBitVec = v.toBitVec >>> (7 * c) := rfl
theorem own_rsN (v : Int64) (c : Nat) (h : 0 ≤ v.toInt) : (own_rs v c).toInt = ((v.toInt.toNat / 128 ^ c : Nat) : Int) := by
  have h1 := own_toIntL (own_rs v c)
  rw [own_rsB, BitVec.toNat_ushiftRight, own_natL v h, Nat.shiftRight_eq_div_pow] at h1
  have h2 : 2 ^ (7 * c) = 128 ^ c := by rw [Nat.pow_mul]
  rw [h2] at h1
  have h3 : v.toInt.toNat / 128 ^ c ≤ v.toInt.toNat := Nat.div_le_self _ _
  have h4 := rng64 v
  split at h1 <;> omega
theorem own_rs0 (v : Int64) : own_rs v 0 = v := by
  rw [← Int64.toBitVec_inj, own_rsB]; simp
theorem own_rsS (v : Int64) (c : Nat) : (((own_rs v c).toUInt64 >>> ((7 : Int32) &&& 0x3f).toInt64.toUInt64).toInt64) = own_rs v (c + 1) := by
  rw [← Int64.toBitVec_inj, own_ushr _ 7 7 rfl, own_rsB, own_rsB, show 7 * (c + 1) = 7 * c + 7 from by omega, BitVec.shiftRight_add]
theorem own_ii (x : Int32) : x.toInt8.toInt32.toInt8.toInt32 = x.toInt8.toInt32 := by
  rw [← Int32.toInt_inj]
  have h1 := c_i2b x
  have h2 := c_i2b x.toInt8.toInt32
  omega
theorem own_inc (v w : Int32) (c : Nat) (hv : v.toInt = c) (hc : c < 1000) (h : w = v + (1 : Int32)) : w.toInt = ((c + 1 : Nat) : Int) := by
  have h1 := c_iadd v 1
  rw [← h] at h1
  have h2 := rng32 w
  have k : (1 : Int32).toInt = 1 := by decide
  omega
def own_zb (v : Int64) (c : Nat) : Int32 := ((((own_rs v c &&& (127 : Int64)) ||| (0 : Int64)).toInt32.toInt8.toInt32).toInt8.toInt32)
def own_eb (v : Int64) (i n : Nat) : Int32 := if i + 1 < n then own_hb v i else own_zb v i
def own_ln (v : Int64) (len : Int32) (k : Nat) : Prop := ∃ l : Nat, len.toInt = l ∧ 1 ≤ l ∧ l ≤ k + 1 ∧ (v.toInt.toNat < 128 ^ l ∨ l = k + 1)
def own_nf (v : Int64) (b n : Int32) : Prop := ∃ m : Nat, n.toInt = m ∧ 1 ≤ m ∧ m ≤ 10 ∧ (b = 1 → m = 10) ∧ (b = 0 → v.toInt.toNat < 128 ^ m)
def own_pt (f g : Nat → Int32) (s i n : Nat) (v : Int64) : Prop := ∀ q, g q = if q = s + i ∧ i < n then own_eb v i n else f q
def own_enc (g : Nat → Int32) (s n : Nat) (v : Int64) (b : Int32) : Prop := (∀ i, i < n → (i < 9 ∨ b = 0) → g (s + i) = own_eb v i n) ∧ (b = 1 → n = 10 ∧ (0 : Int32) < g (s + 9) &&& 255) ∧ (b = 0 → v.toInt.toNat < 128 ^ n) ∧ 1 ≤ n ∧ n ≤ 10 ∧ 0 ≤ v.toInt ∧ (b = 0 ∨ b = 1)
def own_res (z : Int64) (r : Int32) (s e n : Nat) (v : Int64) (b : Int32) : Prop := (e < n → z = -1 ∧ r.toInt = ((s + e : Nat) : Int)) ∧ (¬ e < n → z = (if b = 0 then v else -1) ∧ r.toInt = ((s + n : Nat) : Int))
theorem own_lt32 (v w : Int32) (c e : Nat) (hv : v.toInt = c) (hw : w.toInt = e) : v < w ↔ c < e := by rw [Int32.lt_iff_toInt_lt]; omega
theorem own_add2 (x y : Int32) (a b : Nat) (hx : x.toInt = a) (hy : y.toInt = b) (h : a + b < 100) : (x + y).toInt = ((a + b : Nat) : Int) := by
  have h1 := c_iadd x y
  have h2 := rng32 (x + y)
  omega
theorem own_sh7 (vi : Int32) (j : Nat) (h : vi.toInt = j) (hj : j ≤ 9) : ((7 : Int32) * vi).toBitVec.toNat % 64 = 7 * j := by
  have h1 := c_imul 7 vi
  have h2 := rng32 (7 * vi)
  have h3 := own_toInt (7 * vi)
  have k : (7 : Int32).toInt = 7 := by decide
  rw [k, h] at h1
  split at h3 <;> omega
theorem own_grp (v : Int64) (vi : Int32) (j : Nat) (h : vi.toInt = j) (hj : j ≤ 9) : ((v.toUInt64 >>> (((7 : Int32) * vi) &&& 0x3f).toInt64.toUInt64).toInt64) = own_rs v j := by
  rw [← Int64.toBitVec_inj, own_ushr _ _ _ (own_sh7 vi j h hj)]; rfl
theorem own_pt0 (f : Nat → Int32) (s i n : Nat) (v : Int64) (p4 p5 : Int32) (h4 : p4.toInt = i) (h5 : p5.toInt = n) (h : ¬ p4 < p5) : own_pt f f s i n v := fun q => by
  rw [own_lt32 _ _ _ _ h4 h5] at h
  rw [if_neg (by omega)]
theorem own_ptH (f : Nat → Int32) (s i n : Nat) (v : Int64) (p4 p5 : Int32) (h4 : p4.toInt = i) (h5 : p5.toInt = n) (hi : i ≤ 9) (hn : 1 ≤ n) (h : p4 < p5) (h' : p4 < p5 - (1 : Int32)) :
    own_pt f (fun q => if q = s + i then (((((v.toUInt64 >>> (((7 : Int32) * p4) &&& 0x3f).toInt64.toUInt64).toInt64) &&& (127 : Int64)) ||| (128 : Int64)).toInt32.toInt8.toInt32).toInt8.toInt32 else f q) s i n v := fun q => by
  have e1 := c_isub p5 1
  have r1 := rng32 (p5 - 1)
  have r2 := rng32 p5
  have k : (1 : Int32).toInt = 1 := by decide
  rw [own_lt32 _ _ _ _ h4 h5] at h
  rw [Int32.lt_iff_toInt_lt] at h'
  rw [own_grp v p4 i h4 hi]
  simp only
  by_cases r : q = s + i
  · rw [if_pos r, if_pos ⟨r, h⟩]; unfold own_eb; rw [if_pos (by omega)]; rfl
  · rw [if_neg r, if_neg (fun u => r u.1)]
theorem own_ptL (f : Nat → Int32) (s i n : Nat) (v : Int64) (p4 p5 : Int32) (h4 : p4.toInt = i) (h5 : p5.toInt = n) (hi : i ≤ 9) (hn : 1 ≤ n) (h : p4 < p5) (h' : ¬ p4 < p5 - (1 : Int32)) :
    own_pt f (fun q => if q = s + i then (((((v.toUInt64 >>> (((7 : Int32) * p4) &&& 0x3f).toInt64.toUInt64).toInt64) &&& (127 : Int64)) ||| (0 : Int64)).toInt32.toInt8.toInt32).toInt8.toInt32 else f q) s i n v := fun q => by
  have e1 := c_isub p5 1
  have r1 := rng32 (p5 - 1)
  have r2 := rng32 p5
  have k : (1 : Int32).toInt = 1 := by decide
  rw [own_lt32 _ _ _ _ h4 h5] at h
  rw [Int32.lt_iff_toInt_lt] at h'
  rw [own_grp v p4 i h4 hi]
  simp only
  by_cases r : q = s + i
  · rw [if_pos r, if_pos ⟨r, h⟩]; unfold own_eb; rw [if_neg (by omega)]; rfl
  · rw [if_neg r, if_neg (fun u => r u.1)]
theorem own_rs7 (v : Int64) (c : Nat) : ∃ x : Nat, x < 128 ∧ (own_rs v c &&& (127 : Int64)).toInt = x ∧ ∀ j, j < 7 → x.testBit j = v.toBitVec.getLsbD (7 * c + j) := by
  have h1 := c_maskL (own_rs v c) 127 7 (by decide) rfl
  refine ⟨(own_rs v c &&& (127 : Int64)).toInt.toNat, by omega, by omega, fun j hj => ?_⟩
  rw [← own_natL _ (by omega)]
  show (own_rs v c &&& (127 : Int64)).toBitVec.getLsbD j = _
  rw [own_gand, own_rsB, BitVec.getLsbD_ushiftRight]
  have hm : ∀ j, j < 7 → (127 : Int64).toBitVec.getLsbD j = true := by decide
  rw [hm j hj, Bool.and_true]
theorem own_or128 (x : Int64) (n : Nat) (hn : n < 128) (h : x.toInt = n) : (x ||| (128 : Int64)).toInt = ((n + 128 : Nat) : Int) := by
  have h1 := c_orL' x 128 7 (by decide) 128 rfl (by decide) (by omega) (by omega)
  have k : (128 : Int64).toInt = 128 := by decide
  have h2 := rng64 (x ||| 128)
  omega
theorem own_or0 (x : Int64) : x ||| (0 : Int64) = x := by
  refine own_ext _ _ fun j hj => ?_
  rw [own_gor]
  have : (0 : Int64).toBitVec.getLsbD j = false := by show (0#64).getLsbD j = false; simp
  rw [this, Bool.or_false]
theorem own_hbN (v : Int64) (c : Nat) : ∃ x : Nat, x < 128 ∧ (own_hb v c).toInt = (x : Int) - 128 ∧ ∀ j, j < 7 → x.testBit j = v.toBitVec.getLsbD (7 * c + j) := by
  obtain ⟨x, h1, h2, h3⟩ := own_rs7 v c
  refine ⟨x, h1, ?_, h3⟩
  unfold own_hb
  rw [own_ii]
  have e1 := own_or128 _ x h1 h2
  generalize (own_rs v c &&& (127 : Int64)) ||| (128 : Int64) = y at *
  have e2 := c_l2i y
  have r2 := rng32 y.toInt32
  have e3 := c_i2b y.toInt32
  omega
theorem own_zbN (v : Int64) (c : Nat) : ∃ x : Nat, x < 128 ∧ (own_zb v c).toInt = (x : Int) ∧ ∀ j, j < 7 → x.testBit j = v.toBitVec.getLsbD (7 * c + j) := by
  obtain ⟨x, h1, h2, h3⟩ := own_rs7 v c
  refine ⟨x, h1, ?_, h3⟩
  unfold own_zb
  rw [own_ii, own_or0]
  generalize (own_rs v c &&& (127 : Int64)) = y at *
  have e2 := c_l2i y
  have r2 := rng32 y.toInt32
  have e3 := c_i2b y.toInt32
  omega
theorem own_ebN (v : Int64) (c n : Nat) : ∃ x : Nat, x < 128 ∧ (own_eb v c n).toInt = (if c + 1 < n then (x : Int) - 128 else x) ∧ ∀ j, j < 7 → x.testBit j = v.toBitVec.getLsbD (7 * c + j) := by
  unfold own_eb
  split
  · exact own_hbN v c
  · exact own_zbN v c
theorem own_more (v : Int64) (b : Int32) (c n : Nat) (hB : b = own_eb v c n) (hc : c < n) (h : b < 0) : c + 1 < n := by
  obtain ⟨x, h1, h2, -⟩ := own_ebN v c n
  rw [← hB] at h2
  rw [Int32.lt_iff_toInt_lt] at h
  have k : (0 : Int32).toInt = 0 := by decide
  split at h2 <;> omega
theorem own_last (v : Int64) (b : Int32) (c n : Nat) (hB : b = own_eb v c n) (hc : c < n) (h : ¬ b < 0) : c + 1 = n := by
  obtain ⟨x, h1, h2, -⟩ := own_ebN v c n
  rw [← hB] at h2
  rw [Int32.lt_iff_toInt_lt] at h
  have k : (0 : Int32).toInt = 0 := by decide
  split at h2 <;> omega
theorem own_b127 (v : Int64) (b : Int32) (c n : Nat) (hB : b = own_eb v c n) (j : Nat) : ((b &&& (127 : Int32)).toInt64).toBitVec.getLsbD j = (decide (j < 7) && v.toBitVec.getLsbD (7 * c + j)) := by
  obtain ⟨x, h1, h2, h3⟩ := own_ebN v c n
  rw [← hB] at h2
  have e1 := c_mask b 127 7 (by decide) rfl
  have e2 := c_i2l (b &&& 127)
  have e3 : ((b &&& (127 : Int32)).toInt64).toInt = (x : Int) := by split at h2 <;> omega
  have e4 := own_natL ((b &&& (127 : Int32)).toInt64) (by omega)
  show ((b &&& (127 : Int32)).toInt64).toBitVec.toNat.testBit j = _
  rw [e4, e3, Int.toNat_natCast]
  by_cases q : j < 7
  · rw [h3 j q]; simp [q]
  · simp only [q, decide_false, Bool.false_and]
    exact Nat.testBit_lt_two_pow (Nat.lt_of_lt_of_le h1 (by show 2 ^ 7 ≤ 2 ^ j; exact Nat.pow_le_pow_right (by decide) (by omega)))
theorem own_wstep (v w w' : Int64) (b : Int32) (c n : Nat) (hw : ∀ j, w.toBitVec.getLsbD j = (decide (j < 7 * c) && v.toBitVec.getLsbD j)) (hB : b = own_eb v c n) (hc : c ≤ 9) {sh : Int32} (hs : sh.toInt = ((7 * c : Nat) : Int)) (e : w' = w ||| ((b &&& (127 : Int32)).toInt64 <<< (sh &&& 0x3f).toInt64)) (j : Nat) : w'.toBitVec.getLsbD j = (decide (j < 7 * (c + 1)) && v.toBitVec.getLsbD j) := by
  rw [e, own_gor, hw, own_gshl _ _ _ hs (by omega), own_b127 v b c n hB]
  by_cases h64 : j < 64
  · by_cases q : j < 7 * c
    · have q2 : j < 7 * (c + 1) := by omega
      simp [q, q2]
    · by_cases q2 : j < 7 * (c + 1)
      · have q3 : j - 7 * c < 7 := by omega
        have q4 : 7 * c + (j - 7 * c) = j := by omega
        simp [q, q2, q3, q4, h64]
      · have q3 : ¬ j - 7 * c < 7 := by omega
        simp [q, q2, q3]
  · rw [own_ge v j (by omega)]; simp [h64]
theorem own_whole (v w : Int64) (n : Nat) (h : 0 ≤ v.toInt) (hn : v.toInt.toNat < 128 ^ n) (hw : ∀ j, w.toBitVec.getLsbD j = (decide (j < 7 * n) && v.toBitVec.getLsbD j)) : w = v := by
  refine own_ext w v fun j _ => ?_
  rw [hw]
  by_cases q : j < 7 * n
  · simp [q]
  · have : v.toBitVec.getLsbD j = false := by
      show v.toBitVec.toNat.testBit j = false
      rw [own_natL v h]
      refine Nat.testBit_lt_two_pow (Nat.lt_of_lt_of_le hn ?_)
      rw [show (128 : Nat) = 2 ^ 7 from rfl, ← Nat.pow_mul]
      exact Nat.pow_le_pow_right (by decide) (by omega)
    rw [this, Bool.and_false]
theorem own_nbad (g : Nat → Int32) (s n : Nat) (v : Int64) (b : Int32) (E : own_enc g s n v b) (h : ¬ (0 : Int32) < g (s + 9) &&& 255) : b = 0 := by
  rcases E.2.2.2.2.2.2 with q | q
  · exact q
  · exact absurd (E.2.1 q).2 h
theorem own_isbad (g : Nat → Int32) (s n : Nat) (v : Int64) (b : Int32) (E : own_enc g s n v b) (hn : 9 < n) (h : (0 : Int32) < g (s + 9) &&& 255) : b = 1 := by
  rcases E.2.2.2.2.2.2 with q | q
  · exfalso
    have h1 := E.1 9 hn (Or.inr q)
    obtain ⟨x, h2, h3, h4⟩ := own_ebN v 9 n
    rw [← h1] at h3
    have hn10 := E.2.2.2.2.1
    have x0 : x = 0 := by
      apply Nat.eq_of_testBit_eq
      intro j
      rw [Nat.zero_testBit]
      by_cases r : j < 7
      · rw [h4 j r]
        by_cases r2 : j = 0
        · subst r2
          show v.toBitVec.toNat.testBit 63 = false
          rw [own_natL v E.2.2.2.2.2.1]
          exact Nat.testBit_lt_two_pow (by have := rng64 v; omega)
        · exact own_ge v _ (by omega)
      · exact Nat.testBit_lt_two_pow (Nat.lt_of_lt_of_le h2 (by show 2 ^ 7 ≤ 2 ^ j; exact Nat.pow_le_pow_right (by decide) (by omega)))
    have e1 := c_mask (g (s + 9)) 255 8 (by decide) rfl
    rw [Int32.lt_iff_toInt_lt, e1] at h
    have k : (0 : Int32).toInt = 0 := by decide
    split at h3 <;> omega
  · exact q
theorem own_resE (r : Int32) (s e c n : Nat) (v : Int64) (b : Int32) (hr : r.toInt = ((s + c : Nat) : Int)) (he : e = c) (hc : c < n) : own_res (-1) r s e n v b := by
  subst he
  exact ⟨fun _ => ⟨rfl, hr⟩, fun q => absurd hc q⟩
theorem own_resB (r : Int32) (s e n : Nat) (v : Int64) (b : Int32) (hr : r.toInt = ((s + 10 : Nat) : Int)) (he : 10 ≤ e) (hb : b = 1) (hc : 9 < n) (hn : n ≤ 10) : own_res (-1) r s e n v b := by
  have : n = 10 := by omega
  subst this
  refine ⟨fun q => by omega, fun _ => ⟨?_, hr⟩⟩
  rw [hb]; rfl
theorem own_resV (v w : Int64) (r bb : Int32) (s e c n : Nat) (b : Int32) (g : Nat → Int32) (E : own_enc g s n v b) (hB : bb = own_eb v c n) (hc : c < n) (h : ¬ bb < 0) (hr : r.toInt = ((s + (c + 1) : Nat) : Int)) (he : c < e ∧ (b = 0 ∨ c < 9)) (hw : ∀ j, w.toBitVec.getLsbD j = (decide (j < 7 * (c + 1)) && v.toBitVec.getLsbD j)) : own_res w r s e n v b := by
  have hn := own_last v bb c n hB hc h
  have hb : b = 0 := by
    rcases E.2.2.2.2.2.2 with q | q
    · exact q
    · have := (E.2.1 q).1
      rcases he.2 with u | u
      · exact u
      · omega
  rw [hn] at hw
  refine ⟨fun q => by omega, fun _ => ⟨?_, by rw [hr, hn]⟩⟩
  rw [if_pos hb]
  exact own_whole v w n E.2.2.2.2.2.1 (E.2.2.1 hb) hw
def own_min (p0 : Int32) (p1 : Int32) : Int32 := (if p1 < p0 then p1 else p0)
theorem own_vv (x v : Int64) (e : v = x &&& (9223372036854775807 : Int64)) : 0 ≤ v.toInt := by
  have hm := c_maskL x 9223372036854775807 63 (by decide) rfl
  rw [← e] at hm; omega
theorem own_ln0 (v : Int64) : own_ln v 1 0 := ⟨1, by decide, by decide, by decide, Or.inr rfl⟩
theorem own_lnA (v : Int64) (l : Int32) (k : Nat) (h : own_ln v l (k - 1)) {t : Int64} (q : v < t) (ht : 1 ≤ k ∧ t.toInt = ((128 ^ k : Nat) : Int)) : own_ln v l k := by
  obtain ⟨m, h1, h2, h3, h4⟩ := h
  rw [Int64.lt_iff_toInt_lt, ht.2] at q
  refine ⟨m, h1, h2, by omega, Or.inl ?_⟩
  have q' : v.toInt.toNat < 128 ^ k ∨ v.toInt < 0 := by
    generalize 128 ^ k = X at *
    omega
  rcases h4 with h4 | h4
  · exact h4
  · have : m = k := by omega
    subst this
    rcases q' with q' | q'
    · exact q'
    · have : v.toInt.toNat = 0 := by omega
      rw [this]; exact Nat.pos_of_ne_zero (by simp)
theorem own_lnB (v : Int64) (l l' : Int32) (k : Nat) (h : own_ln v l (k - 1)) {t : Int64} (q : ¬ v < t) (ht : 1 ≤ k ∧ t.toInt = ((128 ^ k : Nat) : Int)) (hk : k ≤ 8) (e : l' = l + 1) : own_ln v l' k := by
  obtain ⟨m, h1, h2, h3, h4⟩ := h
  rw [Int64.lt_iff_toInt_lt, ht.2] at q
  have hm : m = k := by
    rcases h4 with h4 | h4
    · exfalso
      have : 128 ^ m ≤ 128 ^ k := Nat.pow_le_pow_right (by decide) (by omega)
      generalize 128 ^ k = X at *
      generalize 128 ^ m = Y at *
      omega
    · omega
  subst hm
  have e1 := c_iadd l 1
  rw [← e] at e1
  have r1 := rng32 l'
  have k1 : (1 : Int32).toInt = 1 := by decide
  exact ⟨m + 1, by omega, by omega, by omega, Or.inr rfl⟩
theorem own_ln8 (v : Int64) (l : Int32) (h : own_ln v l 8) : ∃ m : Nat, l.toInt = m ∧ 1 ≤ m ∧ m ≤ 9 ∧ v.toInt.toNat < 128 ^ m := by
  obtain ⟨m, h1, h2, h3, h4⟩ := h
  refine ⟨m, h1, h2, h3, ?_⟩
  rcases h4 with h4 | h4
  · exact h4
  · subst h4
    have : 128 ^ (8 + 1) = 9223372036854775808 := by decide
    have := rng64 v
    omega
theorem own_nz11 (v : Int64) (l : Int32) (h : own_ln v l 8) : (11 : Int32) - l ≠ 0 := fun q => by
  obtain ⟨m, h1, h2, h3, -⟩ := own_ln8 v l h
  have e1 := c_isub 11 l
  rw [q] at e1
  have k0 : (0 : Int32).toInt = 0 := by decide
  have k1 : (11 : Int32).toInt = 11 := by decide
  omega
theorem own_nfB (v : Int64) (b : Int32) (hb : b = 0 ∨ b = 1) (h : ¬ b = 0) : own_nf v b 10 := ⟨10, by decide, by decide, by decide, fun _ => rfl, fun q => absurd q h⟩
theorem own_nfG (v : Int64) (b l r x : Int32) (h : own_ln v l 8) (hv : 0 ≤ v.toInt) (hb : b = 0) (e : r = l + (x &&& (2147483647 : Int32)) % ((11 : Int32) - l)) : own_nf v b r := by
  obtain ⟨m, h1, h2, h3, h4⟩ := own_ln8 v l h
  have e1 := c_isub 11 l
  have r1 := rng32 (11 - l)
  have k1 : (11 : Int32).toInt = 11 := by decide
  have e2 := c_mask x 2147483647 31 (by decide) rfl
  have e3 := (c_iremV (x &&& 2147483647) (11 - l)).1 (by omega) (by omega)
  generalize (x &&& (2147483647 : Int32)) % ((11 : Int32) - l) = d at *
  have e4 := c_iadd l d
  rw [← e] at e4
  have r4 := rng32 r
  refine ⟨r.toInt.toNat, by omega, by omega, by omega, fun q => ?_, fun _ => ?_⟩
  · rw [hb] at q; exact absurd q (by decide)
  · exact Nat.lt_of_lt_of_le h4 (Nat.pow_le_pow_right (by decide) (by omega))
theorem own_s1 (x s : Int32) (e : s = x &&& (1 : Int32)) : ∃ m : Nat, s.toInt = m ∧ m ≤ 1 := by
  have h := c_mask x 1 1 (by decide) rfl
  rw [← e] at h
  exact ⟨s.toInt.toNat, by omega, by omega⟩
theorem own_e1 (x s r : Int32) (m : Nat) (hs : s.toInt = m) (hm : m ≤ 1) (e : r = own_min (x &&& (15 : Int32)) ((12 : Int32) - s)) : ∃ q : Nat, r.toInt = q ∧ m + q ≤ 12 := by
  have h := c_mask x 15 4 (by decide) rfl
  have h2 := c_isub 12 s
  have r2 := rng32 (12 - s)
  have k : (12 : Int32).toInt = 12 := by decide
  unfold own_min at e
  split at e
  · rename_i q
    rw [Int32.lt_iff_toInt_lt] at q
    rw [← e] at h2 q r2
    exact ⟨r.toInt.toNat, by omega, by omega⟩
  · rename_i q
    rw [Int32.lt_iff_toInt_lt] at q
    rw [← e] at h q
    exact ⟨r.toInt.toNat, by omega, by omega⟩
theorem own_all (f : Nat → Int32) (g0 : Nat → Int32) (g1 : Nat → Int32) (g2 : Nat → Int32) (g3 : Nat → Int32) (g4 : Nat → Int32) (g5 : Nat → Int32) (g6 : Nat → Int32) (g7 : Nat → Int32) (g8 : Nat → Int32) (g9 : Nat → Int32) (s n : Nat) (v : Int64) (h0 : own_pt f g0 s 0 n v) (h1 : own_pt g0 g1 s 1 n v) (h2 : own_pt g1 g2 s 2 n v) (h3 : own_pt g2 g3 s 3 n v) (h4 : own_pt g3 g4 s 4 n v) (h5 : own_pt g4 g5 s 5 n v) (h6 : own_pt g5 g6 s 6 n v) (h7 : own_pt g6 g7 s 7 n v) (h8 : own_pt g7 g8 s 8 n v) (h9 : own_pt g8 g9 s 9 n v) (i : Nat) (hi : i < n) (hi2 : i ≤ 9) : g9 (s + i) = own_eb v i n := by
  rcases (by omega : i = 0 ∨ i = 1 ∨ i = 2 ∨ i = 3 ∨ i = 4 ∨ i = 5 ∨ i = 6 ∨ i = 7 ∨ i = 8 ∨ i = 9) with rfl | rfl | rfl | rfl | rfl | rfl | rfl | rfl | rfl | rfl
  · rw [h9, if_neg (by omega), h8, if_neg (by omega), h7, if_neg (by omega), h6, if_neg (by omega), h5, if_neg (by omega), h4, if_neg (by omega), h3, if_neg (by omega), h2, if_neg (by omega), h1, if_neg (by omega), h0, if_pos ⟨rfl, hi⟩]
  · rw [h9, if_neg (by omega), h8, if_neg (by omega), h7, if_neg (by omega), h6, if_neg (by omega), h5, if_neg (by omega), h4, if_neg (by omega), h3, if_neg (by omega), h2, if_neg (by omega), h1, if_pos ⟨rfl, hi⟩]
  · rw [h9, if_neg (by omega), h8, if_neg (by omega), h7, if_neg (by omega), h6, if_neg (by omega), h5, if_neg (by omega), h4, if_neg (by omega), h3, if_neg (by omega), h2, if_pos ⟨rfl, hi⟩]
  · rw [h9, if_neg (by omega), h8, if_neg (by omega), h7, if_neg (by omega), h6, if_neg (by omega), h5, if_neg (by omega), h4, if_neg (by omega), h3, if_pos ⟨rfl, hi⟩]
  · rw [h9, if_neg (by omega), h8, if_neg (by omega), h7, if_neg (by omega), h6, if_neg (by omega), h5, if_neg (by omega), h4, if_pos ⟨rfl, hi⟩]
  · rw [h9, if_neg (by omega), h8, if_neg (by omega), h7, if_neg (by omega), h6, if_neg (by omega), h5, if_pos ⟨rfl, hi⟩]
  · rw [h9, if_neg (by omega), h8, if_neg (by omega), h7, if_neg (by omega), h6, if_pos ⟨rfl, hi⟩]
  · rw [h9, if_neg (by omega), h8, if_neg (by omega), h7, if_pos ⟨rfl, hi⟩]
  · rw [h9, if_neg (by omega), h8, if_pos ⟨rfl, hi⟩]
  · rw [h9, if_pos ⟨rfl, hi⟩]
theorem own_encG (g : Nat → Int32) (s n : Nat) (v : Int64) (b : Int32) (hall : ∀ i, i < n → i ≤ 9 → g (s + i) = own_eb v i n) (hb : b = 0) (hng : b = 0 → v.toInt.toNat < 128 ^ n) (hn1 : 1 ≤ n) (hn2 : n ≤ 10) (hv : 0 ≤ v.toInt) : own_enc g s n v b :=
  ⟨fun i hi _ => hall i hi (by omega), fun q => absurd (hb.symm.trans q) (by decide), hng, hn1, hn2, hv, Or.inl hb⟩
theorem own_encB (g : Nat → Int32) (s n : Nat) (v : Int64) (b t x : Int32) (hall : ∀ i, i < n → i ≤ 9 → g (s + i) = own_eb v i n) (hvb : b = 0 ∨ b = 1) (hb : ¬ b = 0) (hnb : b = 1 → n = 10) (hn1 : 1 ≤ n) (hn2 : n ≤ 10) (hv : 0 ≤ v.toInt) (e : t = (1 : Int32) + ((x.toUInt32 >>> ((1 : Int32) &&& 31).toUInt32).toInt32) % (255 : Int32)) : own_enc (fun q => if q = s + 9 then (t.toInt8.toInt32).toInt8.toInt32 else g q) s n v b := by
  have hb1 : b = 1 := hvb.resolve_left hb
  refine ⟨fun i hi h9 => ?_, fun _ => ⟨hnb hb1, ?_⟩, fun q => absurd q hb, hn1, hn2, hv, hvb⟩
  · have : i < 9 := h9.resolve_right hb
    show (if s + i = s + 9 then _ else g (s + i)) = _
    rw [if_neg (by omega)]; exact hall i hi (by omega)
  · show (0 : Int32) < (if s + 9 = s + 9 then (t.toInt8.toInt32).toInt8.toInt32 else g (s + 9)) &&& 255
    rw [if_pos rfl, own_ii]
    have h1 := c_iushr x 1 1 rfl (by decide)
    generalize (x.toUInt32 >>> ((1 : Int32) &&& 31).toUInt32).toInt32 = y at *
    have h2 := (c_irem y 255 255 rfl).1
    have h3 := c_iadd 1 (y % 255)
    rw [← e] at h3
    have r3 := rng32 t
    have rx := rng32 x
    have h4 := c_i2b t
    have h5 := c_mask t.toInt8.toInt32 255 8 (by decide) rfl
    rw [Int32.lt_iff_toInt_lt, h5]
    have k0 : (0 : Int32).toInt = 0 := by decide
    have k1 : (1 : Int32).toInt = 1 := by decide
    omega
theorem own_eq2 (r x y : Int32) (a b : Nat) (hx : x.toInt = a) (hy : y.toInt = b) (h : a + b < 100) (hr : r.toInt = ((a + b : Nat) : Int)) : r = x + y := by
  rw [← Int32.toInt_inj, hr, own_add2 x y a b hx hy h]
theorem d1_0 : decode jdk_29_method_69_code 0 = .ok (.iload_n 0, 1) := by decide +kernel
theorem d1_1 : decode jdk_29_method_69_code 1 = .ok (.iload_n 1, 1) := by decide +kernel
theorem d1_2 : decode jdk_29_method_69_code 2 = .ok (.if_icmp .gt 7, 3) := by decide +kernel
theorem d1_5 : decode jdk_29_method_69_code 5 = .ok (.iload_n 0, 1) := by decide +kernel
theorem d1_6 : decode jdk_29_method_69_code 6 = .ok (.goto 4, 3) := by decide +kernel
theorem d1_9 : decode jdk_29_method_69_code 9 = .ok (.iload_n 1, 1) := by decide +kernel
theorem d1_10 : decode jdk_29_method_69_code 10 = .ok (.ireturn, 1) := by decide +kernel
set_option maxRecDepth 65536 in
set_option maxHeartbeats 40000000 in
theorem rm1 (l : Launch) (Z : State) (a0 : Array Value) (hw : ∀ d ∈ tables_1, d.before a0 Z = true) (p0 : Int32) (p1 : Int32) (h0 : Heap) (n0 : Nat) (Z0 : n0 ≤ h0.size)  :
    own_C l Z (⟨"java/lang/Math", "min", "(II)I"⟩ : MethodName) jdk_29_method_69_code 2 (some .int) [] ({ frames := 0, cells := 0, slots := 0, locals := 0 } : Room) #[(.int p0), (.int p1)] h0 (fun v h L => v = some (.int (own_min p0 p1)) ∧ Fr n0 L ∧ h = h0) := by
  refine own_bodyF (by decide +kernel) ?_
  intro p e s m below meth c T0 hx hby hml hown hnm hret hlk hZ X0 e0
  have N0 := Fr.nil n0
  refine own_eq (f' := (mkF m 0 #[.val (.int p0), .val (.int p1)] [])) (by first | (simp [entryFrame, mkF, argsToLocals, Value.category]; done) | rfl) ?_
  refine own_iloadN X0 hx 1 (hb hby d1_0) rfl rfl ?_
  refine own_iloadN X0 hx 2 (hb hby d1_1) rfl rfl ?_
  refine own_icmp_gt X0 hx 9 5 (hb hby d1_2) (by decide) (by decide) rfl (fun h1 => ?_) (fun h1 => ?_)
  · show own_W p e below _ T0 (mkF m 9 #[.val (.int p0), .val (.int p1)] [])
    refine own_iloadN X0 hx 10 (hb hby d1_9) rfl rfl ?_
    exact own_retI X0 hx hret hlk (hb hby d1_10) (by decide) (by decide) ⟨by unfold own_min; rw [if_pos h1], N0, e0⟩
  · show own_W p e below _ T0 (mkF m 5 #[.val (.int p0), .val (.int p1)] [])
    refine own_iloadN X0 hx 6 (hb hby d1_5) rfl rfl ?_
    refine own_goto X0 hx 10 (hb hby d1_6) (by decide) (by decide) ?_
    exact own_retI X0 hx hret hlk (hb hby d1_10) (by decide) (by decide) ⟨by unfold own_min; rw [if_neg h1], N0, e0⟩
theorem d2_0 : decode method_3_code 0 = .ok (.iload 4, 2) := by decide +kernel
theorem d2_2 : decode method_3_code 2 = .ok (.iload 5, 2) := by decide +kernel
theorem d2_4 : decode method_3_code 4 = .ok (.if_icmp .ge 39, 3) := by decide +kernel
theorem d2_7 : decode method_3_code 7 = .ok (.aload_n 0, 1) := by decide +kernel
theorem d2_8 : decode method_3_code 8 = .ok (.iload_n 1, 1) := by decide +kernel
theorem d2_9 : decode method_3_code 9 = .ok (.iload 4, 2) := by decide +kernel
theorem d2_11 : decode method_3_code 11 = .ok (.iadd, 1) := by decide +kernel
theorem d2_12 : decode method_3_code 12 = .ok (.lload_n 2, 1) := by decide +kernel
theorem d2_13 : decode method_3_code 13 = .ok (.bipush 7, 2) := by decide +kernel
theorem d2_15 : decode method_3_code 15 = .ok (.iload 4, 2) := by decide +kernel
theorem d2_17 : decode method_3_code 17 = .ok (.imul, 1) := by decide +kernel
theorem d2_18 : decode method_3_code 18 = .ok (.lushr, 1) := by decide +kernel
theorem d2_19 : decode method_3_code 19 = .ok (.ldc2_w 53, 3) := by decide +kernel
theorem d2_22 : decode method_3_code 22 = .ok (.land, 1) := by decide +kernel
theorem d2_23 : decode method_3_code 23 = .ok (.iload 4, 2) := by decide +kernel
theorem d2_25 : decode method_3_code 25 = .ok (.iload 5, 2) := by decide +kernel
theorem d2_27 : decode method_3_code 27 = .ok (.iconst 1, 1) := by decide +kernel
theorem d2_28 : decode method_3_code 28 = .ok (.isub, 1) := by decide +kernel
theorem d2_29 : decode method_3_code 29 = .ok (.if_icmp .ge 9, 3) := by decide +kernel
theorem d2_32 : decode method_3_code 32 = .ok (.ldc2_w 9, 3) := by decide +kernel
theorem d2_35 : decode method_3_code 35 = .ok (.goto 4, 3) := by decide +kernel
theorem d2_38 : decode method_3_code 38 = .ok (.lconst 0, 1) := by decide +kernel
theorem d2_39 : decode method_3_code 39 = .ok (.lor, 1) := by decide +kernel
theorem d2_40 : decode method_3_code 40 = .ok (.l2i, 1) := by decide +kernel
theorem d2_41 : decode method_3_code 41 = .ok (.i2b, 1) := by decide +kernel
theorem d2_42 : decode method_3_code 42 = .ok (.bastore, 1) := by decide +kernel
theorem d2_43 : decode method_3_code 43 = .ok (.return_, 1) := by decide +kernel
set_option maxRecDepth 65536 in
set_option maxHeartbeats 40000000 in
theorem rm2 (l : Launch) (Z : State) (a0 : Array Value) (hw : ∀ d ∈ tables_1, d.before a0 Z = true) (t : Addr) (p1 p4 p5 : Int32) (q2 : Int64) (s_ i n : Nat) (f : Nat → Int32) (h0 : Heap) (n0 : Nat) (Z0 : n0 ≤ h0.size) (hp1 : p1.toInt = s_) (hs : s_ ≤ 1) (hp4 : p4.toInt = i) (hi : i ≤ 9) (hp5 : p5.toInt = n) (hn1 : 1 ≤ n) (hn2 : n ≤ 10) (gt : n0 ≤ t) (A_t : own_AI Z h0 t .byte 12 f) :
    own_C l Z (⟨"indaga/index/CursorVarlongPinLaw", "put", "([BIJII)V"⟩ : MethodName) method_3_code 6 none [] ({ frames := 0, cells := 0, slots := 0, locals := 0 } : Room) #[(.ref t), (.int p1), (.long q2), (.int p4), (.int p5)] h0 (fun v h L => ∃ g, v = none ∧ own_pt f g s_ i n q2 ∧ Fr n0 L ∧ Keep h0 h [t] ∧ own_AI Z h t .byte 12 g) := by
  refine own_body (by first | (simp [plainName, overriddenIn]; done) | decide +kernel) ?_
  intro p e s m below meth c T0 hx hby hml hown hnm hret hlk hZ X0 e0
  have N0 := Fr.nil n0
  refine own_eq (f' := (mkF m 0 #[.val (.ref t), .val (.int p1), .val (.long q2), .second, .val (.int p4), .val (.int p5)] [])) (by first | (simp [entryFrame, mkF, argsToLocals, Value.category]; done) | rfl) ?_
  refine own_iload X0 hx 2 (hb hby d2_0) rfl rfl ?_
  refine own_iload X0 hx 4 (hb hby d2_2) rfl rfl ?_
  refine own_icmp_ge X0 hx 43 7 (hb hby d2_4) (by decide) (by decide) rfl (fun h1 => ?_) (fun h1 => ?_)
  · show own_W p e below _ T0 (mkF m 43 #[.val (.ref t), .val (.int p1), .val (.long q2), .second, .val (.int p4), .val (.int p5)] [])
    exact own_retV X0 hx hret hlk (hb hby d2_43) (by decide) (by decide) ⟨f, rfl, own_pt0 f s_ i n q2 p4 p5 hp4 hp5 h1, N0, by rw [e0]; exact ⟨(Keep.refl h0 [t]), A_t⟩⟩
  · show own_W p e below _ T0 (mkF m 7 #[.val (.ref t), .val (.int p1), .val (.long q2), .second, .val (.int p4), .val (.int p5)] [])
    refine own_aloadN X0 hx 8 (hb hby d2_7) rfl rfl ?_
    refine own_iloadN X0 hx 9 (hb hby d2_8) rfl rfl ?_
    refine own_iload X0 hx 11 (hb hby d2_9) rfl rfl ?_
    refine own_iadd X0 hx 12 (hb hby d2_11) rfl ?_
    refine own_lloadN X0 hx 13 (hb hby d2_12) rfl rfl ?_
    refine own_bipush X0 hx 15 (7 : Int32) (by decide) (hb hby d2_13) rfl ?_
    refine own_iload X0 hx 17 (hb hby d2_15) rfl rfl ?_
    refine own_imul X0 hx 18 (hb hby d2_17) rfl ?_
    refine own_lushr X0 hx 19 (hb hby d2_18) rfl ?_
    refine own_ldc2 X0 hx hZ hown 22 (hw _ (List.mem_of_getElem? (i := 19) rfl)) (hb hby d2_19) rfl ?_
    refine own_land X0 hx 23 (hb hby d2_22) rfl ?_
    refine own_iload X0 hx 25 (hb hby d2_23) rfl rfl ?_
    refine own_iload X0 hx 27 (hb hby d2_25) rfl rfl ?_
    refine own_iconst X0 hx 28 (1 : Int32) (by decide) (hb hby d2_27) rfl ?_
    refine own_isub X0 hx 29 (hb hby d2_28) rfl ?_
    refine own_icmp_ge X0 hx 38 32 (hb hby d2_29) (by decide) (by decide) rfl (fun h2 => ?_) (fun h2 => ?_)
    · show own_W p e below _ T0 (mkF m 38 #[.val (.ref t), .val (.int p1), .val (.long q2), .second, .val (.int p4), .val (.int p5)] [(.long (((q2.toUInt64 >>> (((7 : Int32) * p4) &&& 0x3f).toInt64.toUInt64).toInt64) &&& (127 : Int64))), (.int (p1 + p4)), (.ref t)])
      refine own_lconst X0 hx 39 (0 : Int64) (by decide) (hb hby d2_38) rfl ?_
      refine own_lor X0 hx 40 (hb hby d2_39) rfl ?_
      refine own_l2i X0 hx 41 (hb hby d2_40) rfl ?_
      refine own_i2b X0 hx 42 (hb hby d2_41) rfl ?_
      refine own_bastore X0 hx hZ e0 43 (s_ + i) A_t (own_add2 p1 p4 s_ i hp1 hp4 (by omega)) (by omega) (hb hby d2_42) rfl (fun T3 h4 X5 e6 W7 => ?_)
      have f8 := A_t.set W7
      have Z9 : n0 ≤ h4.size := Nat.le_trans Z0 (Keep.of_wr W7).1
      have K10 := (Keep.refl h0 [t]).wr W7 (Or.inl (List.mem_of_getElem? (i := 0) rfl))
      have N11 := Fr.snoc X5 N0 gt
      exact own_retV X5 hx hret hlk (hb hby d2_43) (by decide) (by decide) ⟨_, rfl, own_ptL f s_ i n q2 p4 p5 hp4 hp5 (by omega) (by omega) h1 h2, N11, by rw [e6]; exact ⟨K10, f8⟩⟩
    · show own_W p e below _ T0 (mkF m 32 #[.val (.ref t), .val (.int p1), .val (.long q2), .second, .val (.int p4), .val (.int p5)] [(.long (((q2.toUInt64 >>> (((7 : Int32) * p4) &&& 0x3f).toInt64.toUInt64).toInt64) &&& (127 : Int64))), (.int (p1 + p4)), (.ref t)])
      refine own_ldc2 X0 hx hZ hown 35 (hw _ (List.mem_of_getElem? (i := 1) rfl)) (hb hby d2_32) rfl ?_
      refine own_goto X0 hx 39 (hb hby d2_35) (by decide) (by decide) ?_
      refine own_lor X0 hx 40 (hb hby d2_39) rfl ?_
      refine own_l2i X0 hx 41 (hb hby d2_40) rfl ?_
      refine own_i2b X0 hx 42 (hb hby d2_41) rfl ?_
      refine own_bastore X0 hx hZ e0 43 (s_ + i) A_t (own_add2 p1 p4 s_ i hp1 hp4 (by omega)) (by omega) (hb hby d2_42) rfl (fun T12 h13 X14 e15 W16 => ?_)
      have f17 := A_t.set W16
      have Z18 : n0 ≤ h13.size := Nat.le_trans Z0 (Keep.of_wr W16).1
      have K19 := (Keep.refl h0 [t]).wr W16 (Or.inl (List.mem_of_getElem? (i := 0) rfl))
      have N20 := Fr.snoc X14 N0 gt
      exact own_retV X14 hx hret hlk (hb hby d2_43) (by decide) (by decide) ⟨_, rfl, own_ptH f s_ i n q2 p4 p5 hp4 hp5 (by omega) (by omega) h1 h2, N20, by rw [e15]; exact ⟨K19, f17⟩⟩
theorem d3_0 : decode prog_37_method_1_code 0 = .ok (.aload_n 0, 1) := by decide +kernel
theorem d3_1 : decode prog_37_method_1_code 1 = .ok (.invokespecial 1, 3) := by decide +kernel
theorem d3_4 : decode prog_37_method_1_code 4 = .ok (.aload_n 0, 1) := by decide +kernel
theorem d3_5 : decode prog_37_method_1_code 5 = .ok (.aload_n 1, 1) := by decide +kernel
theorem d3_6 : decode prog_37_method_1_code 6 = .ok (.putfield 7, 3) := by decide +kernel
theorem d3_9 : decode prog_37_method_1_code 9 = .ok (.aload_n 0, 1) := by decide +kernel
theorem d3_10 : decode prog_37_method_1_code 10 = .ok (.iload_n 2, 1) := by decide +kernel
theorem d3_11 : decode prog_37_method_1_code 11 = .ok (.putfield 13, 3) := by decide +kernel
theorem d3_14 : decode prog_37_method_1_code 14 = .ok (.aload_n 0, 1) := by decide +kernel
theorem d3_15 : decode prog_37_method_1_code 15 = .ok (.iload_n 3, 1) := by decide +kernel
theorem d3_16 : decode prog_37_method_1_code 16 = .ok (.putfield 17, 3) := by decide +kernel
theorem d3_19 : decode prog_37_method_1_code 19 = .ok (.return_, 1) := by decide +kernel
set_option maxRecDepth 65536 in
set_option maxHeartbeats 40000000 in
theorem rm3 (l : Launch) (Z : State) (a0 : Array Value) (hw : ∀ d ∈ tables_1, d.before a0 Z = true) (a t : Addr) (p2 p3 : Int32) (h0 : Heap) (n0 : Nat) (Z0 : n0 ≤ h0.size) (ga : n0 ≤ a) (E_a : Exa Z h0 a "indaga/index/Cursor") (F_bytes : Fld Z h0 a "indaga/index/Cursor" "bytes" "[B" .null) (F_at : Fld Z h0 a "indaga/index/Cursor" "at" "I" (.int (0 : Int32))) (F_end : Fld Z h0 a "indaga/index/Cursor" "end" "I" (.int (0 : Int32))) :
    own_C l Z (⟨"indaga/index/Cursor", "<init>", "([BII)V"⟩ : MethodName) prog_37_method_1_code 4 none [] ({ frames := 1, cells := 0, slots := 0, locals := 12 } : Room) #[(.ref a), (.ref t), (.int p2), (.int p3)] h0 (fun v h L => v = none ∧ Fr n0 L ∧ Keep h0 h [a] ∧ Fld Z h a "indaga/index/Cursor" "bytes" "[B" (.ref t) ∧ Fld Z h a "indaga/index/Cursor" "at" "I" (.int p2) ∧ Fld Z h a "indaga/index/Cursor" "end" "I" (.int p3)) := by
  refine own_body (by first | (simp [plainName, overriddenIn]; done) | decide +kernel) ?_
  intro p e s m below meth c T0 hx hby hml hown hnm hret hlk hZ X0 e0
  have N0 := Fr.nil n0
  refine own_eq (f' := (mkF m 0 #[.val (.ref a), .val (.ref t), .val (.int p2), .val (.int p3)] [])) (by first | (simp [entryFrame, mkF, argsToLocals, Value.category]; done) | rfl) ?_
  refine own_aloadN X0 hx 1 (hb hby d3_0) rfl rfl ?_
  refine own_initO X0 hx hZ hown e0 (W := 0) 4 (hw _ (List.mem_of_getElem? (i := 26) rfl)) (hw _ (List.mem_of_getElem? (i := 27) rfl)) (hw _ (List.mem_of_getElem? (i := 28) rfl)) (by rw [hml]; rfl) (hb hby d3_1) rfl (by decide) rfl (by decide) (fun T1 X2 e3 => ?_)
  refine own_aloadN X2 hx 5 (hb hby d3_4) rfl rfl ?_
  refine own_aloadN X2 hx 6 (hb hby d3_5) rfl rfl ?_
  refine own_putF X2 hx hZ hown e3 9 (hw _ (List.mem_of_getElem? (i := 29) rfl)) F_bytes E_a (Or.inr ⟨(hw _ (List.mem_of_getElem? (i := 30) rfl)), rfl, hnm⟩) (hw _ (List.mem_of_getElem? (i := 21) rfl)) (ty := (.array .byte)) (by decide) rfl rfl (hb hby d3_6) rfl (fun T4 h5 X6 e7 W8 => ?_)
  have f9 := E_a.wr W8
  have f10 := F_bytes.same W8
  have f11 := F_at.other W8 (Or.inr (slot_ne (Or.inl (hw _ (List.mem_of_getElem? (i := 32) rfl))) (Or.inr (hw _ (List.mem_of_getElem? (i := 30) rfl))) (by decide) (t := .int) (t' := (.array .byte)) (by decide) (by decide)))
  have f12 := F_end.other W8 (Or.inr (slot_ne (Or.inr (hw _ (List.mem_of_getElem? (i := 34) rfl))) (Or.inr (hw _ (List.mem_of_getElem? (i := 30) rfl))) (by decide) (t := .int) (t' := (.array .byte)) (by decide) (by decide)))
  have Z13 : n0 ≤ h5.size := Nat.le_trans Z0 (Keep.of_wr W8).1
  have K14 := (Keep.refl h0 [a]).wr W8 (Or.inl (List.mem_of_getElem? (i := 0) rfl))
  have N15 := Fr.snoc X6 N0 ga
  refine own_aloadN X6 hx 10 (hb hby d3_9) rfl rfl ?_
  refine own_iloadN X6 hx 11 (hb hby d3_10) rfl rfl ?_
  refine own_putF X6 hx hZ hown e7 14 (hw _ (List.mem_of_getElem? (i := 31) rfl)) f11 f9 (Or.inl (hw _ (List.mem_of_getElem? (i := 32) rfl))) (hw _ (List.mem_of_getElem? (i := 21) rfl)) (ty := .int) (by decide) rfl rfl (hb hby d3_11) rfl (fun T16 h17 X18 e19 W20 => ?_)
  have f21 := f9.wr W20
  have f22 := f10.other W20 (Or.inr (slot_ne (Or.inr (hw _ (List.mem_of_getElem? (i := 30) rfl))) (Or.inl (hw _ (List.mem_of_getElem? (i := 32) rfl))) (by decide) (t := (.array .byte)) (t' := .int) (by decide) (by decide)))
  have f23 := f11.same W20
  have f24 := f12.other W20 (Or.inr (slot_ne (Or.inr (hw _ (List.mem_of_getElem? (i := 34) rfl))) (Or.inl (hw _ (List.mem_of_getElem? (i := 32) rfl))) (by decide) (t := .int) (t' := .int) (by decide) (by decide)))
  have Z25 : n0 ≤ h17.size := Nat.le_trans Z13 (Keep.of_wr W20).1
  have K26 := K14.wr W20 (Or.inl (List.mem_of_getElem? (i := 0) rfl))
  have N27 := Fr.snoc X18 N15 ga
  refine own_aloadN X18 hx 15 (hb hby d3_14) rfl rfl ?_
  refine own_iloadN X18 hx 16 (hb hby d3_15) rfl rfl ?_
  refine own_putF X18 hx hZ hown e19 19 (hw _ (List.mem_of_getElem? (i := 33) rfl)) f24 f21 (Or.inr ⟨(hw _ (List.mem_of_getElem? (i := 34) rfl)), rfl, hnm⟩) (hw _ (List.mem_of_getElem? (i := 21) rfl)) (ty := .int) (by decide) rfl rfl (hb hby d3_16) rfl (fun T28 h29 X30 e31 W32 => ?_)
  have f33 := f21.wr W32
  have f34 := f22.other W32 (Or.inr (slot_ne (Or.inr (hw _ (List.mem_of_getElem? (i := 30) rfl))) (Or.inr (hw _ (List.mem_of_getElem? (i := 34) rfl))) (by decide) (t := (.array .byte)) (t' := .int) (by decide) (by decide)))
  have f35 := f23.other W32 (Or.inr (slot_ne (Or.inl (hw _ (List.mem_of_getElem? (i := 32) rfl))) (Or.inr (hw _ (List.mem_of_getElem? (i := 34) rfl))) (by decide) (t := .int) (t' := .int) (by decide) (by decide)))
  have f36 := f24.same W32
  have Z37 : n0 ≤ h29.size := Nat.le_trans Z25 (Keep.of_wr W32).1
  have K38 := K26.wr W32 (Or.inl (List.mem_of_getElem? (i := 0) rfl))
  have N39 := Fr.snoc X30 N27 ga
  exact own_retV X30 hx hret hlk (hb hby d3_19) (by decide) (by decide) ⟨rfl, N39, by rw [e31]; exact ⟨K38, f34, f35, f36⟩⟩
theorem d6_0 : decode prog_37_method_3_code 0 = .ok (.aload_n 0, 1) := by decide +kernel
theorem d6_1 : decode prog_37_method_3_code 1 = .ok (.getfield 13, 3) := by decide +kernel
theorem d6_4 : decode prog_37_method_3_code 4 = .ok (.ireturn, 1) := by decide +kernel
set_option maxRecDepth 65536 in
set_option maxHeartbeats 40000000 in
theorem rm6 (l : Launch) (Z : State) (a0 : Array Value) (hw : ∀ d ∈ tables_1, d.before a0 Z = true) (a : Addr) (b : Int32) (h0 : Heap) (n0 : Nat) (Z0 : n0 ≤ h0.size) (F_at : Fld Z h0 a "indaga/index/Cursor" "at" "I" (.int b)) :
    own_C l Z (⟨"indaga/index/Cursor", "at", "()I"⟩ : MethodName) prog_37_method_3_code 1 (some .int) [] ({ frames := 0, cells := 0, slots := 0, locals := 0 } : Room) #[(.ref a)] h0 (fun v h L => v = some (.int b) ∧ Fr n0 L ∧ h = h0) := by
  refine own_body (by first | (simp [plainName, overriddenIn]; done) | decide +kernel) ?_
  intro p e s m below meth c T0 hx hby hml hown hnm hret hlk hZ X0 e0
  have N0 := Fr.nil n0
  refine own_eq (f' := (mkF m 0 #[.val (.ref a)] [])) (by first | (simp [entryFrame, mkF, argsToLocals, Value.category]; done) | rfl) ?_
  refine own_aloadN X0 hx 1 (hb hby d6_0) rfl rfl ?_
  refine own_getF X0 hx hZ hown e0 4 (hw _ (List.mem_of_getElem? (i := 31) rfl)) F_at (hb hby d6_1) rfl (fun T1 X2 e3 => ?_)
  exact own_retI X2 hx hret hlk (hb hby d6_4) (by decide) (by decide) ⟨rfl, N0, e3⟩
theorem d5_0 : decode prog_37_method_5_code 0 = .ok (.lconst 0, 1) := by decide +kernel
theorem d5_1 : decode prog_37_method_5_code 1 = .ok (.lstore_n 1, 1) := by decide +kernel
theorem d5_2 : decode prog_37_method_5_code 2 = .ok (.iconst 0, 1) := by decide +kernel
theorem d5_3 : decode prog_37_method_5_code 3 = .ok (.istore_n 3, 1) := by decide +kernel
theorem d5_4 : decode prog_37_method_5_code 4 = .ok (.aload_n 0, 1) := by decide +kernel
theorem d5_5 : decode prog_37_method_5_code 5 = .ok (.getfield 13, 3) := by decide +kernel
theorem d5_8 : decode prog_37_method_5_code 8 = .ok (.aload_n 0, 1) := by decide +kernel
theorem d5_9 : decode prog_37_method_5_code 9 = .ok (.getfield 17, 3) := by decide +kernel
theorem d5_12 : decode prog_37_method_5_code 12 = .ok (.if_icmp .ge 64, 3) := by decide +kernel
theorem d5_15 : decode prog_37_method_5_code 15 = .ok (.aload_n 0, 1) := by decide +kernel
theorem d5_16 : decode prog_37_method_5_code 16 = .ok (.getfield 7, 3) := by decide +kernel
theorem d5_19 : decode prog_37_method_5_code 19 = .ok (.aload_n 0, 1) := by decide +kernel
theorem d5_20 : decode prog_37_method_5_code 20 = .ok (.dup, 1) := by decide +kernel
theorem d5_21 : decode prog_37_method_5_code 21 = .ok (.getfield 13, 3) := by decide +kernel
theorem d5_24 : decode prog_37_method_5_code 24 = .ok (.dup_x1, 1) := by decide +kernel
theorem d5_25 : decode prog_37_method_5_code 25 = .ok (.iconst 1, 1) := by decide +kernel
theorem d5_26 : decode prog_37_method_5_code 26 = .ok (.iadd, 1) := by decide +kernel
theorem d5_27 : decode prog_37_method_5_code 27 = .ok (.putfield 13, 3) := by decide +kernel
theorem d5_30 : decode prog_37_method_5_code 30 = .ok (.baload, 1) := by decide +kernel
theorem d5_31 : decode prog_37_method_5_code 31 = .ok (.istore 4, 2) := by decide +kernel
theorem d5_33 : decode prog_37_method_5_code 33 = .ok (.iload_n 3, 1) := by decide +kernel
theorem d5_34 : decode prog_37_method_5_code 34 = .ok (.bipush 63, 2) := by decide +kernel
theorem d5_36 : decode prog_37_method_5_code 36 = .ok (.if_icmp .ne 16, 3) := by decide +kernel
theorem d5_39 : decode prog_37_method_5_code 39 = .ok (.iload 4, 2) := by decide +kernel
theorem d5_41 : decode prog_37_method_5_code 41 = .ok (.sipush 255, 3) := by decide +kernel
theorem d5_44 : decode prog_37_method_5_code 44 = .ok (.iand, 1) := by decide +kernel
theorem d5_45 : decode prog_37_method_5_code 45 = .ok (.ifCond .le 7, 3) := by decide +kernel
theorem d5_48 : decode prog_37_method_5_code 48 = .ok (.ldc2_w 39, 3) := by decide +kernel
theorem d5_51 : decode prog_37_method_5_code 51 = .ok (.lreturn, 1) := by decide +kernel
theorem d5_52 : decode prog_37_method_5_code 52 = .ok (.lload_n 1, 1) := by decide +kernel
theorem d5_53 : decode prog_37_method_5_code 53 = .ok (.iload 4, 2) := by decide +kernel
theorem d5_55 : decode prog_37_method_5_code 55 = .ok (.bipush 127, 2) := by decide +kernel
theorem d5_57 : decode prog_37_method_5_code 57 = .ok (.iand, 1) := by decide +kernel
theorem d5_58 : decode prog_37_method_5_code 58 = .ok (.i2l, 1) := by decide +kernel
theorem d5_59 : decode prog_37_method_5_code 59 = .ok (.iload_n 3, 1) := by decide +kernel
theorem d5_60 : decode prog_37_method_5_code 60 = .ok (.lshl, 1) := by decide +kernel
theorem d5_61 : decode prog_37_method_5_code 61 = .ok (.lor, 1) := by decide +kernel
theorem d5_62 : decode prog_37_method_5_code 62 = .ok (.lstore_n 1, 1) := by decide +kernel
theorem d5_63 : decode prog_37_method_5_code 63 = .ok (.iload 4, 2) := by decide +kernel
theorem d5_65 : decode prog_37_method_5_code 65 = .ok (.ifCond .lt 5, 3) := by decide +kernel
theorem d5_68 : decode prog_37_method_5_code 68 = .ok (.lload_n 1, 1) := by decide +kernel
theorem d5_69 : decode prog_37_method_5_code 69 = .ok (.lreturn, 1) := by decide +kernel
theorem d5_70 : decode prog_37_method_5_code 70 = .ok (.iinc 3 7, 3) := by decide +kernel
theorem d5_73 : decode prog_37_method_5_code 73 = .ok (.goto (-69), 3) := by decide +kernel
theorem d5_76 : decode prog_37_method_5_code 76 = .ok (.ldc2_w 39, 3) := by decide +kernel
theorem d5_79 : decode prog_37_method_5_code 79 = .ok (.lreturn, 1) := by decide +kernel
set_option maxRecDepth 65536 in
set_option maxHeartbeats 40000000 in
theorem rm5 (l : Launch) (Z : State) (a0 : Array Value) (hw : ∀ d ∈ tables_1, d.before a0 Z = true) (a t : Addr) (va ve b : Int32) (v : Int64) (s_ e_ n : Nat) (g : Nat → Int32) (h0 : Heap) (n0 : Nat) (Z0 : n0 ≤ h0.size) (hva0 : va.toInt = ((s_ + 0 : Nat) : Int)) (hve : ve.toInt = ((s_ + e_ : Nat) : Int)) (hse : s_ + e_ ≤ 12) (henc : own_enc g s_ n v b) (hcn0 : 0 < n) (hn10 : n ≤ 10) (hw0 : ∀ j, (0 : Int64).toBitVec.getLsbD j = (decide (j < 7 * 0) && v.toBitVec.getLsbD j)) (na : a ≠ t) (ga : n0 ≤ a) (E_a : Exa Z h0 a "indaga/index/Cursor") (F_bytes : Fld Z h0 a "indaga/index/Cursor" "bytes" "[B" (.ref t)) (F_at : Fld Z h0 a "indaga/index/Cursor" "at" "I" (.int va)) (F_end : Fld Z h0 a "indaga/index/Cursor" "end" "I" (.int ve)) (A_t : own_AI Z h0 t .byte 12 g) :
    own_C l Z (⟨"indaga/index/Cursor", "varlong", "()J"⟩ : MethodName) prog_37_method_5_code 5 (some .long) [] ({ frames := 0, cells := 0, slots := 0, locals := 0 } : Room) #[(.ref a)] h0 (fun v' h L => ∃ z r, v' = some (.long z) ∧ own_res z r s_ e_ n v b ∧ Fr n0 L ∧ Keep h0 h [a] ∧ Fld Z h a "indaga/index/Cursor" "bytes" "[B" (.ref t) ∧ Fld Z h a "indaga/index/Cursor" "at" "I" (.int r) ∧ Fld Z h a "indaga/index/Cursor" "end" "I" (.int ve) ∧ own_AI Z h t .byte 12 g) := by
  refine own_body (by first | (simp [plainName, overriddenIn]; done) | decide +kernel) ?_
  intro p e s m below meth c T0 hx hby hml hown hnm hret hlk hZ X0 e0
  have N0 := Fr.nil n0
  refine own_eq (f' := (mkF m 0 #[.val (.ref a), .unset, .unset, .unset, .unset] [])) (by first | (simp [entryFrame, mkF, argsToLocals, Value.category]; done) | rfl) ?_
  refine own_lconst X0 hx 1 (0 : Int64) (by decide) (hb hby d5_0) rfl ?_
  refine own_lstoreN X0 hx 2 #[.val (.ref a), .val (.long (0 : Int64)), .second, .unset, .unset] rfl (hb hby d5_1) rfl rfl ?_
  refine own_iconst X0 hx 3 (0 : Int32) (by decide) (hb hby d5_2) rfl ?_
  refine own_istoreN X0 hx 4 #[.val (.ref a), .val (.long (0 : Int64)), .second, .val (.int (0 : Int32)), .unset] rfl (hb hby d5_3) rfl rfl ?_
  refine own_aloadN X0 hx 5 (hb hby d5_4) rfl rfl ?_
  refine own_getF X0 hx hZ hown e0 8 (hw _ (List.mem_of_getElem? (i := 31) rfl)) F_at (hb hby d5_5) rfl (fun T1 X2 e3 => ?_)
  refine own_aloadN X2 hx 9 (hb hby d5_8) rfl rfl ?_
  refine own_getF X2 hx hZ hown e3 12 (hw _ (List.mem_of_getElem? (i := 33) rfl)) F_end (hb hby d5_9) rfl (fun T4 X5 e6 => ?_)
  refine own_icmp_ge X5 hx 76 15 (hb hby d5_12) (by decide) (by decide) rfl (fun h7 => ?_) (fun h7 => ?_)
  · show own_W p e below _ T4 (mkF m 76 #[.val (.ref a), .val (.long (0 : Int64)), .second, .val (.int (0 : Int32)), .unset] [])
    refine own_ldc2 X5 hx hZ hown 79 (hw _ (List.mem_of_getElem? (i := 40) rfl)) (hb hby d5_76) rfl ?_
    exact own_retJ X5 hx hret hlk (hb hby d5_79) (by decide) (by decide) ⟨_, _, rfl, own_resE va s_ e_ 0 n v b hva0 (by have := mt (own_lt32 _ _ _ _ hva0 hve).mpr h7; omega) hcn0, N0, by rw [e6]; exact ⟨(Keep.refl h0 [a]), F_bytes, F_at, F_end, A_t⟩⟩
  · show own_W p e below _ T4 (mkF m 15 #[.val (.ref a), .val (.long (0 : Int64)), .second, .val (.int (0 : Int32)), .unset] [])
    have hlt0 : 0 < e_ := by have := (own_lt32 _ _ _ _ hva0 hve).mp h7; omega
    refine own_aloadN X5 hx 16 (hb hby d5_15) rfl rfl ?_
    refine own_getF X5 hx hZ hown e6 19 (hw _ (List.mem_of_getElem? (i := 29) rfl)) F_bytes (hb hby d5_16) rfl (fun T8 X9 e10 => ?_)
    refine own_aloadN X9 hx 20 (hb hby d5_19) rfl rfl ?_
    refine own_dup X9 hx 21 rfl (hb hby d5_20) rfl ?_
    refine own_getF X9 hx hZ hown e10 24 (hw _ (List.mem_of_getElem? (i := 31) rfl)) F_at (hb hby d5_21) rfl (fun T11 X12 e13 => ?_)
    refine own_dupX1 X12 hx 25 rfl rfl (hb hby d5_24) rfl ?_
    refine own_iconst X12 hx 26 (1 : Int32) (by decide) (hb hby d5_25) rfl ?_
    refine own_iadd X12 hx 27 (hb hby d5_26) rfl ?_
    obtain ⟨va', e_va'⟩ : ∃ z : Int32, z = (va + (1 : Int32)) := ⟨_, rfl⟩
    rw [← e_va']
    have hva1 : va'.toInt = ((s_ + 1 : Nat) : Int) := own_inc va va' (s_ + 0) hva0 (by omega) e_va'
    refine own_putF X12 hx hZ hown e13 30 (hw _ (List.mem_of_getElem? (i := 31) rfl)) F_at E_a (Or.inl (hw _ (List.mem_of_getElem? (i := 32) rfl))) (hw _ (List.mem_of_getElem? (i := 21) rfl)) (ty := .int) (by decide) rfl rfl (hb hby d5_27) rfl (fun T14 h15 X16 e17 W18 => ?_)
    have f19 := E_a.wr W18
    have f20 := F_bytes.other W18 (Or.inr (slot_ne (Or.inr (hw _ (List.mem_of_getElem? (i := 30) rfl))) (Or.inl (hw _ (List.mem_of_getElem? (i := 32) rfl))) (by decide) (t := (.array .byte)) (t' := .int) (by decide) (by decide)))
    have f21 := F_at.same W18
    have f22 := F_end.other W18 (Or.inr (slot_ne (Or.inr (hw _ (List.mem_of_getElem? (i := 34) rfl))) (Or.inl (hw _ (List.mem_of_getElem? (i := 32) rfl))) (by decide) (t := .int) (t' := .int) (by decide) (by decide)))
    have f23 := A_t.other W18 (Ne.symm na)
    have Z24 : n0 ≤ h15.size := Nat.le_trans Z0 (Keep.of_wr W18).1
    have K25 := (Keep.refl h0 [a]).wr W18 (Or.inl (List.mem_of_getElem? (i := 0) rfl))
    have N26 := Fr.snoc X16 N0 ga
    refine own_baload X16 hx hZ e17 31 (s_ + 0) f23 hva0 (by omega) (hb hby d5_30) rfl ?_
    obtain ⟨vb, e_vb⟩ : ∃ z : Int32, z = (g (s_ + 0)) := ⟨_, rfl⟩
    refine own_istore X16 hx 33 #[.val (.ref a), .val (.long (0 : Int64)), .second, .val (.int (0 : Int32)), .val (.int vb)] e_vb (hb hby d5_31) rfl rfl ?_
    refine own_iloadN X16 hx 34 (hb hby d5_33) rfl rfl ?_
    refine own_bipush X16 hx 36 (63 : Int32) (by decide) (hb hby d5_34) rfl ?_
    refine own_icmp_ne X16 hx 52 39 (hb hby d5_36) (by decide) (by decide) rfl (fun h27 => ?_) (fun h27 => ?_)
    · show own_W p e below _ T14 (mkF m 52 #[.val (.ref a), .val (.long (0 : Int64)), .second, .val (.int (0 : Int32)), .val (.int vb)] [])
      refine own_lloadN X16 hx 53 (hb hby d5_52) rfl rfl ?_
      refine own_iload X16 hx 55 (hb hby d5_53) rfl rfl ?_
      refine own_bipush X16 hx 57 (127 : Int32) (by decide) (hb hby d5_55) rfl ?_
      refine own_iand X16 hx 58 (hb hby d5_57) rfl ?_
      refine own_i2l X16 hx 59 (hb hby d5_58) rfl ?_
      refine own_iloadN X16 hx 60 (hb hby d5_59) rfl rfl ?_
      refine own_lshl X16 hx 61 (hb hby d5_60) rfl ?_
      refine own_lor X16 hx 62 (hb hby d5_61) rfl ?_
      obtain ⟨ww, e_ww⟩ : ∃ z : Int64, z = ((0 : Int64) ||| (((vb &&& (127 : Int32)).toInt64) <<< ((0 : Int32) &&& 0x3f).toInt64)) := ⟨_, rfl⟩
      refine own_lstoreN X16 hx 63 #[.val (.ref a), .val (.long ww), .second, .val (.int (0 : Int32)), .val (.int vb)] e_ww (hb hby d5_62) rfl rfl ?_
      have hB0 : vb = own_eb v 0 n := by rw [e_vb]; exact henc.1 0 hcn0 (Or.inl (by decide))
      have hw1 := own_wstep v (0 : Int64) ww vb 0 n hw0 hB0 (by decide) (by decide) e_ww
      refine own_iload X16 hx 65 (hb hby d5_63) rfl rfl ?_
      refine own_if_lt X16 hx 70 68 (hb hby d5_65) (by decide) (by decide) rfl (fun h28 => ?_) (fun h28 => ?_)
      · show own_W p e below _ T14 (mkF m 70 #[.val (.ref a), .val (.long ww), .second, .val (.int (0 : Int32)), .val (.int vb)] [])
        have hcn1 : 1 < n := own_more v vb 0 n hB0 hcn0 h28
        refine own_iinc X16 hx (7 : Int32) 73 #[.val (.ref a), .val (.long ww), .second, .val (.int (7 : Int32)), .val (.int vb)] (by decide) (hb hby d5_70) rfl rfl rfl ?_
        refine own_goto X16 hx 4 (hb hby d5_73) (by decide) (by decide) ?_
        refine own_aloadN X16 hx 5 (hb hby d5_4) rfl rfl ?_
        refine own_getF X16 hx hZ hown e17 8 (hw _ (List.mem_of_getElem? (i := 31) rfl)) f21 (hb hby d5_5) rfl (fun T29 X30 e31 => ?_)
        refine own_aloadN X30 hx 9 (hb hby d5_8) rfl rfl ?_
        refine own_getF X30 hx hZ hown e31 12 (hw _ (List.mem_of_getElem? (i := 33) rfl)) f22 (hb hby d5_9) rfl (fun T32 X33 e34 => ?_)
        refine own_icmp_ge X33 hx 76 15 (hb hby d5_12) (by decide) (by decide) rfl (fun h35 => ?_) (fun h35 => ?_)
        · show own_W p e below _ T32 (mkF m 76 #[.val (.ref a), .val (.long ww), .second, .val (.int (7 : Int32)), .val (.int vb)] [])
          refine own_ldc2 X33 hx hZ hown 79 (hw _ (List.mem_of_getElem? (i := 40) rfl)) (hb hby d5_76) rfl ?_
          exact own_retJ X33 hx hret hlk (hb hby d5_79) (by decide) (by decide) ⟨_, _, rfl, own_resE va' s_ e_ 1 n v b hva1 (by have := mt (own_lt32 _ _ _ _ hva1 hve).mpr h35; omega) hcn1, N26, by rw [e34]; exact ⟨K25, f20, f21, f22, f23⟩⟩
        · show own_W p e below _ T32 (mkF m 15 #[.val (.ref a), .val (.long ww), .second, .val (.int (7 : Int32)), .val (.int vb)] [])
          have hlt1 : 1 < e_ := by have := (own_lt32 _ _ _ _ hva1 hve).mp h35; omega
          refine own_aloadN X33 hx 16 (hb hby d5_15) rfl rfl ?_
          refine own_getF X33 hx hZ hown e34 19 (hw _ (List.mem_of_getElem? (i := 29) rfl)) f20 (hb hby d5_16) rfl (fun T36 X37 e38 => ?_)
          refine own_aloadN X37 hx 20 (hb hby d5_19) rfl rfl ?_
          refine own_dup X37 hx 21 rfl (hb hby d5_20) rfl ?_
          refine own_getF X37 hx hZ hown e38 24 (hw _ (List.mem_of_getElem? (i := 31) rfl)) f21 (hb hby d5_21) rfl (fun T39 X40 e41 => ?_)
          refine own_dupX1 X40 hx 25 rfl rfl (hb hby d5_24) rfl ?_
          refine own_iconst X40 hx 26 (1 : Int32) (by decide) (hb hby d5_25) rfl ?_
          refine own_iadd X40 hx 27 (hb hby d5_26) rfl ?_
          obtain ⟨va'_42, e_va'_42⟩ : ∃ z : Int32, z = (va' + (1 : Int32)) := ⟨_, rfl⟩
          rw [← e_va'_42]
          have hva2 : va'_42.toInt = ((s_ + 2 : Nat) : Int) := own_inc va' va'_42 (s_ + 1) hva1 (by omega) e_va'_42
          refine own_putF X40 hx hZ hown e41 30 (hw _ (List.mem_of_getElem? (i := 31) rfl)) f21 f19 (Or.inl (hw _ (List.mem_of_getElem? (i := 32) rfl))) (hw _ (List.mem_of_getElem? (i := 21) rfl)) (ty := .int) (by decide) rfl rfl (hb hby d5_27) rfl (fun T43 h44 X45 e46 W47 => ?_)
          have f48 := f19.wr W47
          have f49 := f20.other W47 (Or.inr (slot_ne (Or.inr (hw _ (List.mem_of_getElem? (i := 30) rfl))) (Or.inl (hw _ (List.mem_of_getElem? (i := 32) rfl))) (by decide) (t := (.array .byte)) (t' := .int) (by decide) (by decide)))
          have f50 := f21.same W47
          have f51 := f22.other W47 (Or.inr (slot_ne (Or.inr (hw _ (List.mem_of_getElem? (i := 34) rfl))) (Or.inl (hw _ (List.mem_of_getElem? (i := 32) rfl))) (by decide) (t := .int) (t' := .int) (by decide) (by decide)))
          have f52 := f23.other W47 (Ne.symm na)
          have Z53 : n0 ≤ h44.size := Nat.le_trans Z24 (Keep.of_wr W47).1
          have K54 := K25.wr W47 (Or.inl (List.mem_of_getElem? (i := 0) rfl))
          have N55 := Fr.snoc X45 N26 ga
          refine own_baload X45 hx hZ e46 31 (s_ + 1) f52 hva1 (by omega) (hb hby d5_30) rfl ?_
          obtain ⟨vb_56, e_vb_56⟩ : ∃ z : Int32, z = (g (s_ + 1)) := ⟨_, rfl⟩
          refine own_istore X45 hx 33 #[.val (.ref a), .val (.long ww), .second, .val (.int (7 : Int32)), .val (.int vb_56)] e_vb_56 (hb hby d5_31) rfl rfl ?_
          refine own_iloadN X45 hx 34 (hb hby d5_33) rfl rfl ?_
          refine own_bipush X45 hx 36 (63 : Int32) (by decide) (hb hby d5_34) rfl ?_
          refine own_icmp_ne X45 hx 52 39 (hb hby d5_36) (by decide) (by decide) rfl (fun h57 => ?_) (fun h57 => ?_)
          · show own_W p e below _ T43 (mkF m 52 #[.val (.ref a), .val (.long ww), .second, .val (.int (7 : Int32)), .val (.int vb_56)] [])
            refine own_lloadN X45 hx 53 (hb hby d5_52) rfl rfl ?_
            refine own_iload X45 hx 55 (hb hby d5_53) rfl rfl ?_
            refine own_bipush X45 hx 57 (127 : Int32) (by decide) (hb hby d5_55) rfl ?_
            refine own_iand X45 hx 58 (hb hby d5_57) rfl ?_
            refine own_i2l X45 hx 59 (hb hby d5_58) rfl ?_
            refine own_iloadN X45 hx 60 (hb hby d5_59) rfl rfl ?_
            refine own_lshl X45 hx 61 (hb hby d5_60) rfl ?_
            refine own_lor X45 hx 62 (hb hby d5_61) rfl ?_
            obtain ⟨ww_58, e_ww_58⟩ : ∃ z : Int64, z = (ww ||| (((vb_56 &&& (127 : Int32)).toInt64) <<< ((7 : Int32) &&& 0x3f).toInt64)) := ⟨_, rfl⟩
            refine own_lstoreN X45 hx 63 #[.val (.ref a), .val (.long ww_58), .second, .val (.int (7 : Int32)), .val (.int vb_56)] e_ww_58 (hb hby d5_62) rfl rfl ?_
            have hB1 : vb_56 = own_eb v 1 n := by rw [e_vb_56]; exact henc.1 1 hcn1 (Or.inl (by decide))
            have hw2 := own_wstep v ww ww_58 vb_56 1 n hw1 hB1 (by decide) (by decide) e_ww_58
            refine own_iload X45 hx 65 (hb hby d5_63) rfl rfl ?_
            refine own_if_lt X45 hx 70 68 (hb hby d5_65) (by decide) (by decide) rfl (fun h59 => ?_) (fun h59 => ?_)
            · show own_W p e below _ T43 (mkF m 70 #[.val (.ref a), .val (.long ww_58), .second, .val (.int (7 : Int32)), .val (.int vb_56)] [])
              have hcn2 : 2 < n := own_more v vb_56 1 n hB1 hcn1 h59
              refine own_iinc X45 hx (14 : Int32) 73 #[.val (.ref a), .val (.long ww_58), .second, .val (.int (14 : Int32)), .val (.int vb_56)] (by decide) (hb hby d5_70) rfl rfl rfl ?_
              refine own_goto X45 hx 4 (hb hby d5_73) (by decide) (by decide) ?_
              refine own_aloadN X45 hx 5 (hb hby d5_4) rfl rfl ?_
              refine own_getF X45 hx hZ hown e46 8 (hw _ (List.mem_of_getElem? (i := 31) rfl)) f50 (hb hby d5_5) rfl (fun T60 X61 e62 => ?_)
              refine own_aloadN X61 hx 9 (hb hby d5_8) rfl rfl ?_
              refine own_getF X61 hx hZ hown e62 12 (hw _ (List.mem_of_getElem? (i := 33) rfl)) f51 (hb hby d5_9) rfl (fun T63 X64 e65 => ?_)
              refine own_icmp_ge X64 hx 76 15 (hb hby d5_12) (by decide) (by decide) rfl (fun h66 => ?_) (fun h66 => ?_)
              · show own_W p e below _ T63 (mkF m 76 #[.val (.ref a), .val (.long ww_58), .second, .val (.int (14 : Int32)), .val (.int vb_56)] [])
                refine own_ldc2 X64 hx hZ hown 79 (hw _ (List.mem_of_getElem? (i := 40) rfl)) (hb hby d5_76) rfl ?_
                exact own_retJ X64 hx hret hlk (hb hby d5_79) (by decide) (by decide) ⟨_, _, rfl, own_resE va'_42 s_ e_ 2 n v b hva2 (by have := mt (own_lt32 _ _ _ _ hva2 hve).mpr h66; omega) hcn2, N55, by rw [e65]; exact ⟨K54, f49, f50, f51, f52⟩⟩
              · show own_W p e below _ T63 (mkF m 15 #[.val (.ref a), .val (.long ww_58), .second, .val (.int (14 : Int32)), .val (.int vb_56)] [])
                have hlt2 : 2 < e_ := by have := (own_lt32 _ _ _ _ hva2 hve).mp h66; omega
                refine own_aloadN X64 hx 16 (hb hby d5_15) rfl rfl ?_
                refine own_getF X64 hx hZ hown e65 19 (hw _ (List.mem_of_getElem? (i := 29) rfl)) f49 (hb hby d5_16) rfl (fun T67 X68 e69 => ?_)
                refine own_aloadN X68 hx 20 (hb hby d5_19) rfl rfl ?_
                refine own_dup X68 hx 21 rfl (hb hby d5_20) rfl ?_
                refine own_getF X68 hx hZ hown e69 24 (hw _ (List.mem_of_getElem? (i := 31) rfl)) f50 (hb hby d5_21) rfl (fun T70 X71 e72 => ?_)
                refine own_dupX1 X71 hx 25 rfl rfl (hb hby d5_24) rfl ?_
                refine own_iconst X71 hx 26 (1 : Int32) (by decide) (hb hby d5_25) rfl ?_
                refine own_iadd X71 hx 27 (hb hby d5_26) rfl ?_
                obtain ⟨va'_73, e_va'_73⟩ : ∃ z : Int32, z = (va'_42 + (1 : Int32)) := ⟨_, rfl⟩
                rw [← e_va'_73]
                have hva3 : va'_73.toInt = ((s_ + 3 : Nat) : Int) := own_inc va'_42 va'_73 (s_ + 2) hva2 (by omega) e_va'_73
                refine own_putF X71 hx hZ hown e72 30 (hw _ (List.mem_of_getElem? (i := 31) rfl)) f50 f48 (Or.inl (hw _ (List.mem_of_getElem? (i := 32) rfl))) (hw _ (List.mem_of_getElem? (i := 21) rfl)) (ty := .int) (by decide) rfl rfl (hb hby d5_27) rfl (fun T74 h75 X76 e77 W78 => ?_)
                have f79 := f48.wr W78
                have f80 := f49.other W78 (Or.inr (slot_ne (Or.inr (hw _ (List.mem_of_getElem? (i := 30) rfl))) (Or.inl (hw _ (List.mem_of_getElem? (i := 32) rfl))) (by decide) (t := (.array .byte)) (t' := .int) (by decide) (by decide)))
                have f81 := f50.same W78
                have f82 := f51.other W78 (Or.inr (slot_ne (Or.inr (hw _ (List.mem_of_getElem? (i := 34) rfl))) (Or.inl (hw _ (List.mem_of_getElem? (i := 32) rfl))) (by decide) (t := .int) (t' := .int) (by decide) (by decide)))
                have f83 := f52.other W78 (Ne.symm na)
                have Z84 : n0 ≤ h75.size := Nat.le_trans Z53 (Keep.of_wr W78).1
                have K85 := K54.wr W78 (Or.inl (List.mem_of_getElem? (i := 0) rfl))
                have N86 := Fr.snoc X76 N55 ga
                refine own_baload X76 hx hZ e77 31 (s_ + 2) f83 hva2 (by omega) (hb hby d5_30) rfl ?_
                obtain ⟨vb_87, e_vb_87⟩ : ∃ z : Int32, z = (g (s_ + 2)) := ⟨_, rfl⟩
                refine own_istore X76 hx 33 #[.val (.ref a), .val (.long ww_58), .second, .val (.int (14 : Int32)), .val (.int vb_87)] e_vb_87 (hb hby d5_31) rfl rfl ?_
                refine own_iloadN X76 hx 34 (hb hby d5_33) rfl rfl ?_
                refine own_bipush X76 hx 36 (63 : Int32) (by decide) (hb hby d5_34) rfl ?_
                refine own_icmp_ne X76 hx 52 39 (hb hby d5_36) (by decide) (by decide) rfl (fun h88 => ?_) (fun h88 => ?_)
                · show own_W p e below _ T74 (mkF m 52 #[.val (.ref a), .val (.long ww_58), .second, .val (.int (14 : Int32)), .val (.int vb_87)] [])
                  refine own_lloadN X76 hx 53 (hb hby d5_52) rfl rfl ?_
                  refine own_iload X76 hx 55 (hb hby d5_53) rfl rfl ?_
                  refine own_bipush X76 hx 57 (127 : Int32) (by decide) (hb hby d5_55) rfl ?_
                  refine own_iand X76 hx 58 (hb hby d5_57) rfl ?_
                  refine own_i2l X76 hx 59 (hb hby d5_58) rfl ?_
                  refine own_iloadN X76 hx 60 (hb hby d5_59) rfl rfl ?_
                  refine own_lshl X76 hx 61 (hb hby d5_60) rfl ?_
                  refine own_lor X76 hx 62 (hb hby d5_61) rfl ?_
                  obtain ⟨ww_89, e_ww_89⟩ : ∃ z : Int64, z = (ww_58 ||| (((vb_87 &&& (127 : Int32)).toInt64) <<< ((14 : Int32) &&& 0x3f).toInt64)) := ⟨_, rfl⟩
                  refine own_lstoreN X76 hx 63 #[.val (.ref a), .val (.long ww_89), .second, .val (.int (14 : Int32)), .val (.int vb_87)] e_ww_89 (hb hby d5_62) rfl rfl ?_
                  have hB2 : vb_87 = own_eb v 2 n := by rw [e_vb_87]; exact henc.1 2 hcn2 (Or.inl (by decide))
                  have hw3 := own_wstep v ww_58 ww_89 vb_87 2 n hw2 hB2 (by decide) (by decide) e_ww_89
                  refine own_iload X76 hx 65 (hb hby d5_63) rfl rfl ?_
                  refine own_if_lt X76 hx 70 68 (hb hby d5_65) (by decide) (by decide) rfl (fun h90 => ?_) (fun h90 => ?_)
                  · show own_W p e below _ T74 (mkF m 70 #[.val (.ref a), .val (.long ww_89), .second, .val (.int (14 : Int32)), .val (.int vb_87)] [])
                    have hcn3 : 3 < n := own_more v vb_87 2 n hB2 hcn2 h90
                    refine own_iinc X76 hx (21 : Int32) 73 #[.val (.ref a), .val (.long ww_89), .second, .val (.int (21 : Int32)), .val (.int vb_87)] (by decide) (hb hby d5_70) rfl rfl rfl ?_
                    refine own_goto X76 hx 4 (hb hby d5_73) (by decide) (by decide) ?_
                    refine own_aloadN X76 hx 5 (hb hby d5_4) rfl rfl ?_
                    refine own_getF X76 hx hZ hown e77 8 (hw _ (List.mem_of_getElem? (i := 31) rfl)) f81 (hb hby d5_5) rfl (fun T91 X92 e93 => ?_)
                    refine own_aloadN X92 hx 9 (hb hby d5_8) rfl rfl ?_
                    refine own_getF X92 hx hZ hown e93 12 (hw _ (List.mem_of_getElem? (i := 33) rfl)) f82 (hb hby d5_9) rfl (fun T94 X95 e96 => ?_)
                    refine own_icmp_ge X95 hx 76 15 (hb hby d5_12) (by decide) (by decide) rfl (fun h97 => ?_) (fun h97 => ?_)
                    · show own_W p e below _ T94 (mkF m 76 #[.val (.ref a), .val (.long ww_89), .second, .val (.int (21 : Int32)), .val (.int vb_87)] [])
                      refine own_ldc2 X95 hx hZ hown 79 (hw _ (List.mem_of_getElem? (i := 40) rfl)) (hb hby d5_76) rfl ?_
                      exact own_retJ X95 hx hret hlk (hb hby d5_79) (by decide) (by decide) ⟨_, _, rfl, own_resE va'_73 s_ e_ 3 n v b hva3 (by have := mt (own_lt32 _ _ _ _ hva3 hve).mpr h97; omega) hcn3, N86, by rw [e96]; exact ⟨K85, f80, f81, f82, f83⟩⟩
                    · show own_W p e below _ T94 (mkF m 15 #[.val (.ref a), .val (.long ww_89), .second, .val (.int (21 : Int32)), .val (.int vb_87)] [])
                      have hlt3 : 3 < e_ := by have := (own_lt32 _ _ _ _ hva3 hve).mp h97; omega
                      refine own_aloadN X95 hx 16 (hb hby d5_15) rfl rfl ?_
                      refine own_getF X95 hx hZ hown e96 19 (hw _ (List.mem_of_getElem? (i := 29) rfl)) f80 (hb hby d5_16) rfl (fun T98 X99 e100 => ?_)
                      refine own_aloadN X99 hx 20 (hb hby d5_19) rfl rfl ?_
                      refine own_dup X99 hx 21 rfl (hb hby d5_20) rfl ?_
                      refine own_getF X99 hx hZ hown e100 24 (hw _ (List.mem_of_getElem? (i := 31) rfl)) f81 (hb hby d5_21) rfl (fun T101 X102 e103 => ?_)
                      refine own_dupX1 X102 hx 25 rfl rfl (hb hby d5_24) rfl ?_
                      refine own_iconst X102 hx 26 (1 : Int32) (by decide) (hb hby d5_25) rfl ?_
                      refine own_iadd X102 hx 27 (hb hby d5_26) rfl ?_
                      obtain ⟨va'_104, e_va'_104⟩ : ∃ z : Int32, z = (va'_73 + (1 : Int32)) := ⟨_, rfl⟩
                      rw [← e_va'_104]
                      have hva4 : va'_104.toInt = ((s_ + 4 : Nat) : Int) := own_inc va'_73 va'_104 (s_ + 3) hva3 (by omega) e_va'_104
                      refine own_putF X102 hx hZ hown e103 30 (hw _ (List.mem_of_getElem? (i := 31) rfl)) f81 f79 (Or.inl (hw _ (List.mem_of_getElem? (i := 32) rfl))) (hw _ (List.mem_of_getElem? (i := 21) rfl)) (ty := .int) (by decide) rfl rfl (hb hby d5_27) rfl (fun T105 h106 X107 e108 W109 => ?_)
                      have f110 := f79.wr W109
                      have f111 := f80.other W109 (Or.inr (slot_ne (Or.inr (hw _ (List.mem_of_getElem? (i := 30) rfl))) (Or.inl (hw _ (List.mem_of_getElem? (i := 32) rfl))) (by decide) (t := (.array .byte)) (t' := .int) (by decide) (by decide)))
                      have f112 := f81.same W109
                      have f113 := f82.other W109 (Or.inr (slot_ne (Or.inr (hw _ (List.mem_of_getElem? (i := 34) rfl))) (Or.inl (hw _ (List.mem_of_getElem? (i := 32) rfl))) (by decide) (t := .int) (t' := .int) (by decide) (by decide)))
                      have f114 := f83.other W109 (Ne.symm na)
                      have Z115 : n0 ≤ h106.size := Nat.le_trans Z84 (Keep.of_wr W109).1
                      have K116 := K85.wr W109 (Or.inl (List.mem_of_getElem? (i := 0) rfl))
                      have N117 := Fr.snoc X107 N86 ga
                      refine own_baload X107 hx hZ e108 31 (s_ + 3) f114 hva3 (by omega) (hb hby d5_30) rfl ?_
                      obtain ⟨vb_118, e_vb_118⟩ : ∃ z : Int32, z = (g (s_ + 3)) := ⟨_, rfl⟩
                      refine own_istore X107 hx 33 #[.val (.ref a), .val (.long ww_89), .second, .val (.int (21 : Int32)), .val (.int vb_118)] e_vb_118 (hb hby d5_31) rfl rfl ?_
                      refine own_iloadN X107 hx 34 (hb hby d5_33) rfl rfl ?_
                      refine own_bipush X107 hx 36 (63 : Int32) (by decide) (hb hby d5_34) rfl ?_
                      refine own_icmp_ne X107 hx 52 39 (hb hby d5_36) (by decide) (by decide) rfl (fun h119 => ?_) (fun h119 => ?_)
                      · show own_W p e below _ T105 (mkF m 52 #[.val (.ref a), .val (.long ww_89), .second, .val (.int (21 : Int32)), .val (.int vb_118)] [])
                        refine own_lloadN X107 hx 53 (hb hby d5_52) rfl rfl ?_
                        refine own_iload X107 hx 55 (hb hby d5_53) rfl rfl ?_
                        refine own_bipush X107 hx 57 (127 : Int32) (by decide) (hb hby d5_55) rfl ?_
                        refine own_iand X107 hx 58 (hb hby d5_57) rfl ?_
                        refine own_i2l X107 hx 59 (hb hby d5_58) rfl ?_
                        refine own_iloadN X107 hx 60 (hb hby d5_59) rfl rfl ?_
                        refine own_lshl X107 hx 61 (hb hby d5_60) rfl ?_
                        refine own_lor X107 hx 62 (hb hby d5_61) rfl ?_
                        obtain ⟨ww_120, e_ww_120⟩ : ∃ z : Int64, z = (ww_89 ||| (((vb_118 &&& (127 : Int32)).toInt64) <<< ((21 : Int32) &&& 0x3f).toInt64)) := ⟨_, rfl⟩
                        refine own_lstoreN X107 hx 63 #[.val (.ref a), .val (.long ww_120), .second, .val (.int (21 : Int32)), .val (.int vb_118)] e_ww_120 (hb hby d5_62) rfl rfl ?_
                        have hB3 : vb_118 = own_eb v 3 n := by rw [e_vb_118]; exact henc.1 3 hcn3 (Or.inl (by decide))
                        have hw4 := own_wstep v ww_89 ww_120 vb_118 3 n hw3 hB3 (by decide) (by decide) e_ww_120
                        refine own_iload X107 hx 65 (hb hby d5_63) rfl rfl ?_
                        refine own_if_lt X107 hx 70 68 (hb hby d5_65) (by decide) (by decide) rfl (fun h121 => ?_) (fun h121 => ?_)
                        · show own_W p e below _ T105 (mkF m 70 #[.val (.ref a), .val (.long ww_120), .second, .val (.int (21 : Int32)), .val (.int vb_118)] [])
                          have hcn4 : 4 < n := own_more v vb_118 3 n hB3 hcn3 h121
                          refine own_iinc X107 hx (28 : Int32) 73 #[.val (.ref a), .val (.long ww_120), .second, .val (.int (28 : Int32)), .val (.int vb_118)] (by decide) (hb hby d5_70) rfl rfl rfl ?_
                          refine own_goto X107 hx 4 (hb hby d5_73) (by decide) (by decide) ?_
                          refine own_aloadN X107 hx 5 (hb hby d5_4) rfl rfl ?_
                          refine own_getF X107 hx hZ hown e108 8 (hw _ (List.mem_of_getElem? (i := 31) rfl)) f112 (hb hby d5_5) rfl (fun T122 X123 e124 => ?_)
                          refine own_aloadN X123 hx 9 (hb hby d5_8) rfl rfl ?_
                          refine own_getF X123 hx hZ hown e124 12 (hw _ (List.mem_of_getElem? (i := 33) rfl)) f113 (hb hby d5_9) rfl (fun T125 X126 e127 => ?_)
                          refine own_icmp_ge X126 hx 76 15 (hb hby d5_12) (by decide) (by decide) rfl (fun h128 => ?_) (fun h128 => ?_)
                          · show own_W p e below _ T125 (mkF m 76 #[.val (.ref a), .val (.long ww_120), .second, .val (.int (28 : Int32)), .val (.int vb_118)] [])
                            refine own_ldc2 X126 hx hZ hown 79 (hw _ (List.mem_of_getElem? (i := 40) rfl)) (hb hby d5_76) rfl ?_
                            exact own_retJ X126 hx hret hlk (hb hby d5_79) (by decide) (by decide) ⟨_, _, rfl, own_resE va'_104 s_ e_ 4 n v b hva4 (by have := mt (own_lt32 _ _ _ _ hva4 hve).mpr h128; omega) hcn4, N117, by rw [e127]; exact ⟨K116, f111, f112, f113, f114⟩⟩
                          · show own_W p e below _ T125 (mkF m 15 #[.val (.ref a), .val (.long ww_120), .second, .val (.int (28 : Int32)), .val (.int vb_118)] [])
                            have hlt4 : 4 < e_ := by have := (own_lt32 _ _ _ _ hva4 hve).mp h128; omega
                            refine own_aloadN X126 hx 16 (hb hby d5_15) rfl rfl ?_
                            refine own_getF X126 hx hZ hown e127 19 (hw _ (List.mem_of_getElem? (i := 29) rfl)) f111 (hb hby d5_16) rfl (fun T129 X130 e131 => ?_)
                            refine own_aloadN X130 hx 20 (hb hby d5_19) rfl rfl ?_
                            refine own_dup X130 hx 21 rfl (hb hby d5_20) rfl ?_
                            refine own_getF X130 hx hZ hown e131 24 (hw _ (List.mem_of_getElem? (i := 31) rfl)) f112 (hb hby d5_21) rfl (fun T132 X133 e134 => ?_)
                            refine own_dupX1 X133 hx 25 rfl rfl (hb hby d5_24) rfl ?_
                            refine own_iconst X133 hx 26 (1 : Int32) (by decide) (hb hby d5_25) rfl ?_
                            refine own_iadd X133 hx 27 (hb hby d5_26) rfl ?_
                            obtain ⟨va'_135, e_va'_135⟩ : ∃ z : Int32, z = (va'_104 + (1 : Int32)) := ⟨_, rfl⟩
                            rw [← e_va'_135]
                            have hva5 : va'_135.toInt = ((s_ + 5 : Nat) : Int) := own_inc va'_104 va'_135 (s_ + 4) hva4 (by omega) e_va'_135
                            refine own_putF X133 hx hZ hown e134 30 (hw _ (List.mem_of_getElem? (i := 31) rfl)) f112 f110 (Or.inl (hw _ (List.mem_of_getElem? (i := 32) rfl))) (hw _ (List.mem_of_getElem? (i := 21) rfl)) (ty := .int) (by decide) rfl rfl (hb hby d5_27) rfl (fun T136 h137 X138 e139 W140 => ?_)
                            have f141 := f110.wr W140
                            have f142 := f111.other W140 (Or.inr (slot_ne (Or.inr (hw _ (List.mem_of_getElem? (i := 30) rfl))) (Or.inl (hw _ (List.mem_of_getElem? (i := 32) rfl))) (by decide) (t := (.array .byte)) (t' := .int) (by decide) (by decide)))
                            have f143 := f112.same W140
                            have f144 := f113.other W140 (Or.inr (slot_ne (Or.inr (hw _ (List.mem_of_getElem? (i := 34) rfl))) (Or.inl (hw _ (List.mem_of_getElem? (i := 32) rfl))) (by decide) (t := .int) (t' := .int) (by decide) (by decide)))
                            have f145 := f114.other W140 (Ne.symm na)
                            have Z146 : n0 ≤ h137.size := Nat.le_trans Z115 (Keep.of_wr W140).1
                            have K147 := K116.wr W140 (Or.inl (List.mem_of_getElem? (i := 0) rfl))
                            have N148 := Fr.snoc X138 N117 ga
                            refine own_baload X138 hx hZ e139 31 (s_ + 4) f145 hva4 (by omega) (hb hby d5_30) rfl ?_
                            obtain ⟨vb_149, e_vb_149⟩ : ∃ z : Int32, z = (g (s_ + 4)) := ⟨_, rfl⟩
                            refine own_istore X138 hx 33 #[.val (.ref a), .val (.long ww_120), .second, .val (.int (28 : Int32)), .val (.int vb_149)] e_vb_149 (hb hby d5_31) rfl rfl ?_
                            refine own_iloadN X138 hx 34 (hb hby d5_33) rfl rfl ?_
                            refine own_bipush X138 hx 36 (63 : Int32) (by decide) (hb hby d5_34) rfl ?_
                            refine own_icmp_ne X138 hx 52 39 (hb hby d5_36) (by decide) (by decide) rfl (fun h150 => ?_) (fun h150 => ?_)
                            · show own_W p e below _ T136 (mkF m 52 #[.val (.ref a), .val (.long ww_120), .second, .val (.int (28 : Int32)), .val (.int vb_149)] [])
                              refine own_lloadN X138 hx 53 (hb hby d5_52) rfl rfl ?_
                              refine own_iload X138 hx 55 (hb hby d5_53) rfl rfl ?_
                              refine own_bipush X138 hx 57 (127 : Int32) (by decide) (hb hby d5_55) rfl ?_
                              refine own_iand X138 hx 58 (hb hby d5_57) rfl ?_
                              refine own_i2l X138 hx 59 (hb hby d5_58) rfl ?_
                              refine own_iloadN X138 hx 60 (hb hby d5_59) rfl rfl ?_
                              refine own_lshl X138 hx 61 (hb hby d5_60) rfl ?_
                              refine own_lor X138 hx 62 (hb hby d5_61) rfl ?_
                              obtain ⟨ww_151, e_ww_151⟩ : ∃ z : Int64, z = (ww_120 ||| (((vb_149 &&& (127 : Int32)).toInt64) <<< ((28 : Int32) &&& 0x3f).toInt64)) := ⟨_, rfl⟩
                              refine own_lstoreN X138 hx 63 #[.val (.ref a), .val (.long ww_151), .second, .val (.int (28 : Int32)), .val (.int vb_149)] e_ww_151 (hb hby d5_62) rfl rfl ?_
                              have hB4 : vb_149 = own_eb v 4 n := by rw [e_vb_149]; exact henc.1 4 hcn4 (Or.inl (by decide))
                              have hw5 := own_wstep v ww_120 ww_151 vb_149 4 n hw4 hB4 (by decide) (by decide) e_ww_151
                              refine own_iload X138 hx 65 (hb hby d5_63) rfl rfl ?_
                              refine own_if_lt X138 hx 70 68 (hb hby d5_65) (by decide) (by decide) rfl (fun h152 => ?_) (fun h152 => ?_)
                              · show own_W p e below _ T136 (mkF m 70 #[.val (.ref a), .val (.long ww_151), .second, .val (.int (28 : Int32)), .val (.int vb_149)] [])
                                have hcn5 : 5 < n := own_more v vb_149 4 n hB4 hcn4 h152
                                refine own_iinc X138 hx (35 : Int32) 73 #[.val (.ref a), .val (.long ww_151), .second, .val (.int (35 : Int32)), .val (.int vb_149)] (by decide) (hb hby d5_70) rfl rfl rfl ?_
                                refine own_goto X138 hx 4 (hb hby d5_73) (by decide) (by decide) ?_
                                refine own_aloadN X138 hx 5 (hb hby d5_4) rfl rfl ?_
                                refine own_getF X138 hx hZ hown e139 8 (hw _ (List.mem_of_getElem? (i := 31) rfl)) f143 (hb hby d5_5) rfl (fun T153 X154 e155 => ?_)
                                refine own_aloadN X154 hx 9 (hb hby d5_8) rfl rfl ?_
                                refine own_getF X154 hx hZ hown e155 12 (hw _ (List.mem_of_getElem? (i := 33) rfl)) f144 (hb hby d5_9) rfl (fun T156 X157 e158 => ?_)
                                refine own_icmp_ge X157 hx 76 15 (hb hby d5_12) (by decide) (by decide) rfl (fun h159 => ?_) (fun h159 => ?_)
                                · show own_W p e below _ T156 (mkF m 76 #[.val (.ref a), .val (.long ww_151), .second, .val (.int (35 : Int32)), .val (.int vb_149)] [])
                                  refine own_ldc2 X157 hx hZ hown 79 (hw _ (List.mem_of_getElem? (i := 40) rfl)) (hb hby d5_76) rfl ?_
                                  exact own_retJ X157 hx hret hlk (hb hby d5_79) (by decide) (by decide) ⟨_, _, rfl, own_resE va'_135 s_ e_ 5 n v b hva5 (by have := mt (own_lt32 _ _ _ _ hva5 hve).mpr h159; omega) hcn5, N148, by rw [e158]; exact ⟨K147, f142, f143, f144, f145⟩⟩
                                · show own_W p e below _ T156 (mkF m 15 #[.val (.ref a), .val (.long ww_151), .second, .val (.int (35 : Int32)), .val (.int vb_149)] [])
                                  have hlt5 : 5 < e_ := by have := (own_lt32 _ _ _ _ hva5 hve).mp h159; omega
                                  refine own_aloadN X157 hx 16 (hb hby d5_15) rfl rfl ?_
                                  refine own_getF X157 hx hZ hown e158 19 (hw _ (List.mem_of_getElem? (i := 29) rfl)) f142 (hb hby d5_16) rfl (fun T160 X161 e162 => ?_)
                                  refine own_aloadN X161 hx 20 (hb hby d5_19) rfl rfl ?_
                                  refine own_dup X161 hx 21 rfl (hb hby d5_20) rfl ?_
                                  refine own_getF X161 hx hZ hown e162 24 (hw _ (List.mem_of_getElem? (i := 31) rfl)) f143 (hb hby d5_21) rfl (fun T163 X164 e165 => ?_)
                                  refine own_dupX1 X164 hx 25 rfl rfl (hb hby d5_24) rfl ?_
                                  refine own_iconst X164 hx 26 (1 : Int32) (by decide) (hb hby d5_25) rfl ?_
                                  refine own_iadd X164 hx 27 (hb hby d5_26) rfl ?_
                                  obtain ⟨va'_166, e_va'_166⟩ : ∃ z : Int32, z = (va'_135 + (1 : Int32)) := ⟨_, rfl⟩
                                  rw [← e_va'_166]
                                  have hva6 : va'_166.toInt = ((s_ + 6 : Nat) : Int) := own_inc va'_135 va'_166 (s_ + 5) hva5 (by omega) e_va'_166
                                  refine own_putF X164 hx hZ hown e165 30 (hw _ (List.mem_of_getElem? (i := 31) rfl)) f143 f141 (Or.inl (hw _ (List.mem_of_getElem? (i := 32) rfl))) (hw _ (List.mem_of_getElem? (i := 21) rfl)) (ty := .int) (by decide) rfl rfl (hb hby d5_27) rfl (fun T167 h168 X169 e170 W171 => ?_)
                                  have f172 := f141.wr W171
                                  have f173 := f142.other W171 (Or.inr (slot_ne (Or.inr (hw _ (List.mem_of_getElem? (i := 30) rfl))) (Or.inl (hw _ (List.mem_of_getElem? (i := 32) rfl))) (by decide) (t := (.array .byte)) (t' := .int) (by decide) (by decide)))
                                  have f174 := f143.same W171
                                  have f175 := f144.other W171 (Or.inr (slot_ne (Or.inr (hw _ (List.mem_of_getElem? (i := 34) rfl))) (Or.inl (hw _ (List.mem_of_getElem? (i := 32) rfl))) (by decide) (t := .int) (t' := .int) (by decide) (by decide)))
                                  have f176 := f145.other W171 (Ne.symm na)
                                  have Z177 : n0 ≤ h168.size := Nat.le_trans Z146 (Keep.of_wr W171).1
                                  have K178 := K147.wr W171 (Or.inl (List.mem_of_getElem? (i := 0) rfl))
                                  have N179 := Fr.snoc X169 N148 ga
                                  refine own_baload X169 hx hZ e170 31 (s_ + 5) f176 hva5 (by omega) (hb hby d5_30) rfl ?_
                                  obtain ⟨vb_180, e_vb_180⟩ : ∃ z : Int32, z = (g (s_ + 5)) := ⟨_, rfl⟩
                                  refine own_istore X169 hx 33 #[.val (.ref a), .val (.long ww_151), .second, .val (.int (35 : Int32)), .val (.int vb_180)] e_vb_180 (hb hby d5_31) rfl rfl ?_
                                  refine own_iloadN X169 hx 34 (hb hby d5_33) rfl rfl ?_
                                  refine own_bipush X169 hx 36 (63 : Int32) (by decide) (hb hby d5_34) rfl ?_
                                  refine own_icmp_ne X169 hx 52 39 (hb hby d5_36) (by decide) (by decide) rfl (fun h181 => ?_) (fun h181 => ?_)
                                  · show own_W p e below _ T167 (mkF m 52 #[.val (.ref a), .val (.long ww_151), .second, .val (.int (35 : Int32)), .val (.int vb_180)] [])
                                    refine own_lloadN X169 hx 53 (hb hby d5_52) rfl rfl ?_
                                    refine own_iload X169 hx 55 (hb hby d5_53) rfl rfl ?_
                                    refine own_bipush X169 hx 57 (127 : Int32) (by decide) (hb hby d5_55) rfl ?_
                                    refine own_iand X169 hx 58 (hb hby d5_57) rfl ?_
                                    refine own_i2l X169 hx 59 (hb hby d5_58) rfl ?_
                                    refine own_iloadN X169 hx 60 (hb hby d5_59) rfl rfl ?_
                                    refine own_lshl X169 hx 61 (hb hby d5_60) rfl ?_
                                    refine own_lor X169 hx 62 (hb hby d5_61) rfl ?_
                                    obtain ⟨ww_182, e_ww_182⟩ : ∃ z : Int64, z = (ww_151 ||| (((vb_180 &&& (127 : Int32)).toInt64) <<< ((35 : Int32) &&& 0x3f).toInt64)) := ⟨_, rfl⟩
                                    refine own_lstoreN X169 hx 63 #[.val (.ref a), .val (.long ww_182), .second, .val (.int (35 : Int32)), .val (.int vb_180)] e_ww_182 (hb hby d5_62) rfl rfl ?_
                                    have hB5 : vb_180 = own_eb v 5 n := by rw [e_vb_180]; exact henc.1 5 hcn5 (Or.inl (by decide))
                                    have hw6 := own_wstep v ww_151 ww_182 vb_180 5 n hw5 hB5 (by decide) (by decide) e_ww_182
                                    refine own_iload X169 hx 65 (hb hby d5_63) rfl rfl ?_
                                    refine own_if_lt X169 hx 70 68 (hb hby d5_65) (by decide) (by decide) rfl (fun h183 => ?_) (fun h183 => ?_)
                                    · show own_W p e below _ T167 (mkF m 70 #[.val (.ref a), .val (.long ww_182), .second, .val (.int (35 : Int32)), .val (.int vb_180)] [])
                                      have hcn6 : 6 < n := own_more v vb_180 5 n hB5 hcn5 h183
                                      refine own_iinc X169 hx (42 : Int32) 73 #[.val (.ref a), .val (.long ww_182), .second, .val (.int (42 : Int32)), .val (.int vb_180)] (by decide) (hb hby d5_70) rfl rfl rfl ?_
                                      refine own_goto X169 hx 4 (hb hby d5_73) (by decide) (by decide) ?_
                                      refine own_aloadN X169 hx 5 (hb hby d5_4) rfl rfl ?_
                                      refine own_getF X169 hx hZ hown e170 8 (hw _ (List.mem_of_getElem? (i := 31) rfl)) f174 (hb hby d5_5) rfl (fun T184 X185 e186 => ?_)
                                      refine own_aloadN X185 hx 9 (hb hby d5_8) rfl rfl ?_
                                      refine own_getF X185 hx hZ hown e186 12 (hw _ (List.mem_of_getElem? (i := 33) rfl)) f175 (hb hby d5_9) rfl (fun T187 X188 e189 => ?_)
                                      refine own_icmp_ge X188 hx 76 15 (hb hby d5_12) (by decide) (by decide) rfl (fun h190 => ?_) (fun h190 => ?_)
                                      · show own_W p e below _ T187 (mkF m 76 #[.val (.ref a), .val (.long ww_182), .second, .val (.int (42 : Int32)), .val (.int vb_180)] [])
                                        refine own_ldc2 X188 hx hZ hown 79 (hw _ (List.mem_of_getElem? (i := 40) rfl)) (hb hby d5_76) rfl ?_
                                        exact own_retJ X188 hx hret hlk (hb hby d5_79) (by decide) (by decide) ⟨_, _, rfl, own_resE va'_166 s_ e_ 6 n v b hva6 (by have := mt (own_lt32 _ _ _ _ hva6 hve).mpr h190; omega) hcn6, N179, by rw [e189]; exact ⟨K178, f173, f174, f175, f176⟩⟩
                                      · show own_W p e below _ T187 (mkF m 15 #[.val (.ref a), .val (.long ww_182), .second, .val (.int (42 : Int32)), .val (.int vb_180)] [])
                                        have hlt6 : 6 < e_ := by have := (own_lt32 _ _ _ _ hva6 hve).mp h190; omega
                                        refine own_aloadN X188 hx 16 (hb hby d5_15) rfl rfl ?_
                                        refine own_getF X188 hx hZ hown e189 19 (hw _ (List.mem_of_getElem? (i := 29) rfl)) f173 (hb hby d5_16) rfl (fun T191 X192 e193 => ?_)
                                        refine own_aloadN X192 hx 20 (hb hby d5_19) rfl rfl ?_
                                        refine own_dup X192 hx 21 rfl (hb hby d5_20) rfl ?_
                                        refine own_getF X192 hx hZ hown e193 24 (hw _ (List.mem_of_getElem? (i := 31) rfl)) f174 (hb hby d5_21) rfl (fun T194 X195 e196 => ?_)
                                        refine own_dupX1 X195 hx 25 rfl rfl (hb hby d5_24) rfl ?_
                                        refine own_iconst X195 hx 26 (1 : Int32) (by decide) (hb hby d5_25) rfl ?_
                                        refine own_iadd X195 hx 27 (hb hby d5_26) rfl ?_
                                        obtain ⟨va'_197, e_va'_197⟩ : ∃ z : Int32, z = (va'_166 + (1 : Int32)) := ⟨_, rfl⟩
                                        rw [← e_va'_197]
                                        have hva7 : va'_197.toInt = ((s_ + 7 : Nat) : Int) := own_inc va'_166 va'_197 (s_ + 6) hva6 (by omega) e_va'_197
                                        refine own_putF X195 hx hZ hown e196 30 (hw _ (List.mem_of_getElem? (i := 31) rfl)) f174 f172 (Or.inl (hw _ (List.mem_of_getElem? (i := 32) rfl))) (hw _ (List.mem_of_getElem? (i := 21) rfl)) (ty := .int) (by decide) rfl rfl (hb hby d5_27) rfl (fun T198 h199 X200 e201 W202 => ?_)
                                        have f203 := f172.wr W202
                                        have f204 := f173.other W202 (Or.inr (slot_ne (Or.inr (hw _ (List.mem_of_getElem? (i := 30) rfl))) (Or.inl (hw _ (List.mem_of_getElem? (i := 32) rfl))) (by decide) (t := (.array .byte)) (t' := .int) (by decide) (by decide)))
                                        have f205 := f174.same W202
                                        have f206 := f175.other W202 (Or.inr (slot_ne (Or.inr (hw _ (List.mem_of_getElem? (i := 34) rfl))) (Or.inl (hw _ (List.mem_of_getElem? (i := 32) rfl))) (by decide) (t := .int) (t' := .int) (by decide) (by decide)))
                                        have f207 := f176.other W202 (Ne.symm na)
                                        have Z208 : n0 ≤ h199.size := Nat.le_trans Z177 (Keep.of_wr W202).1
                                        have K209 := K178.wr W202 (Or.inl (List.mem_of_getElem? (i := 0) rfl))
                                        have N210 := Fr.snoc X200 N179 ga
                                        refine own_baload X200 hx hZ e201 31 (s_ + 6) f207 hva6 (by omega) (hb hby d5_30) rfl ?_
                                        obtain ⟨vb_211, e_vb_211⟩ : ∃ z : Int32, z = (g (s_ + 6)) := ⟨_, rfl⟩
                                        refine own_istore X200 hx 33 #[.val (.ref a), .val (.long ww_182), .second, .val (.int (42 : Int32)), .val (.int vb_211)] e_vb_211 (hb hby d5_31) rfl rfl ?_
                                        refine own_iloadN X200 hx 34 (hb hby d5_33) rfl rfl ?_
                                        refine own_bipush X200 hx 36 (63 : Int32) (by decide) (hb hby d5_34) rfl ?_
                                        refine own_icmp_ne X200 hx 52 39 (hb hby d5_36) (by decide) (by decide) rfl (fun h212 => ?_) (fun h212 => ?_)
                                        · show own_W p e below _ T198 (mkF m 52 #[.val (.ref a), .val (.long ww_182), .second, .val (.int (42 : Int32)), .val (.int vb_211)] [])
                                          refine own_lloadN X200 hx 53 (hb hby d5_52) rfl rfl ?_
                                          refine own_iload X200 hx 55 (hb hby d5_53) rfl rfl ?_
                                          refine own_bipush X200 hx 57 (127 : Int32) (by decide) (hb hby d5_55) rfl ?_
                                          refine own_iand X200 hx 58 (hb hby d5_57) rfl ?_
                                          refine own_i2l X200 hx 59 (hb hby d5_58) rfl ?_
                                          refine own_iloadN X200 hx 60 (hb hby d5_59) rfl rfl ?_
                                          refine own_lshl X200 hx 61 (hb hby d5_60) rfl ?_
                                          refine own_lor X200 hx 62 (hb hby d5_61) rfl ?_
                                          obtain ⟨ww_213, e_ww_213⟩ : ∃ z : Int64, z = (ww_182 ||| (((vb_211 &&& (127 : Int32)).toInt64) <<< ((42 : Int32) &&& 0x3f).toInt64)) := ⟨_, rfl⟩
                                          refine own_lstoreN X200 hx 63 #[.val (.ref a), .val (.long ww_213), .second, .val (.int (42 : Int32)), .val (.int vb_211)] e_ww_213 (hb hby d5_62) rfl rfl ?_
                                          have hB6 : vb_211 = own_eb v 6 n := by rw [e_vb_211]; exact henc.1 6 hcn6 (Or.inl (by decide))
                                          have hw7 := own_wstep v ww_182 ww_213 vb_211 6 n hw6 hB6 (by decide) (by decide) e_ww_213
                                          refine own_iload X200 hx 65 (hb hby d5_63) rfl rfl ?_
                                          refine own_if_lt X200 hx 70 68 (hb hby d5_65) (by decide) (by decide) rfl (fun h214 => ?_) (fun h214 => ?_)
                                          · show own_W p e below _ T198 (mkF m 70 #[.val (.ref a), .val (.long ww_213), .second, .val (.int (42 : Int32)), .val (.int vb_211)] [])
                                            have hcn7 : 7 < n := own_more v vb_211 6 n hB6 hcn6 h214
                                            refine own_iinc X200 hx (49 : Int32) 73 #[.val (.ref a), .val (.long ww_213), .second, .val (.int (49 : Int32)), .val (.int vb_211)] (by decide) (hb hby d5_70) rfl rfl rfl ?_
                                            refine own_goto X200 hx 4 (hb hby d5_73) (by decide) (by decide) ?_
                                            refine own_aloadN X200 hx 5 (hb hby d5_4) rfl rfl ?_
                                            refine own_getF X200 hx hZ hown e201 8 (hw _ (List.mem_of_getElem? (i := 31) rfl)) f205 (hb hby d5_5) rfl (fun T215 X216 e217 => ?_)
                                            refine own_aloadN X216 hx 9 (hb hby d5_8) rfl rfl ?_
                                            refine own_getF X216 hx hZ hown e217 12 (hw _ (List.mem_of_getElem? (i := 33) rfl)) f206 (hb hby d5_9) rfl (fun T218 X219 e220 => ?_)
                                            refine own_icmp_ge X219 hx 76 15 (hb hby d5_12) (by decide) (by decide) rfl (fun h221 => ?_) (fun h221 => ?_)
                                            · show own_W p e below _ T218 (mkF m 76 #[.val (.ref a), .val (.long ww_213), .second, .val (.int (49 : Int32)), .val (.int vb_211)] [])
                                              refine own_ldc2 X219 hx hZ hown 79 (hw _ (List.mem_of_getElem? (i := 40) rfl)) (hb hby d5_76) rfl ?_
                                              exact own_retJ X219 hx hret hlk (hb hby d5_79) (by decide) (by decide) ⟨_, _, rfl, own_resE va'_197 s_ e_ 7 n v b hva7 (by have := mt (own_lt32 _ _ _ _ hva7 hve).mpr h221; omega) hcn7, N210, by rw [e220]; exact ⟨K209, f204, f205, f206, f207⟩⟩
                                            · show own_W p e below _ T218 (mkF m 15 #[.val (.ref a), .val (.long ww_213), .second, .val (.int (49 : Int32)), .val (.int vb_211)] [])
                                              have hlt7 : 7 < e_ := by have := (own_lt32 _ _ _ _ hva7 hve).mp h221; omega
                                              refine own_aloadN X219 hx 16 (hb hby d5_15) rfl rfl ?_
                                              refine own_getF X219 hx hZ hown e220 19 (hw _ (List.mem_of_getElem? (i := 29) rfl)) f204 (hb hby d5_16) rfl (fun T222 X223 e224 => ?_)
                                              refine own_aloadN X223 hx 20 (hb hby d5_19) rfl rfl ?_
                                              refine own_dup X223 hx 21 rfl (hb hby d5_20) rfl ?_
                                              refine own_getF X223 hx hZ hown e224 24 (hw _ (List.mem_of_getElem? (i := 31) rfl)) f205 (hb hby d5_21) rfl (fun T225 X226 e227 => ?_)
                                              refine own_dupX1 X226 hx 25 rfl rfl (hb hby d5_24) rfl ?_
                                              refine own_iconst X226 hx 26 (1 : Int32) (by decide) (hb hby d5_25) rfl ?_
                                              refine own_iadd X226 hx 27 (hb hby d5_26) rfl ?_
                                              obtain ⟨va'_228, e_va'_228⟩ : ∃ z : Int32, z = (va'_197 + (1 : Int32)) := ⟨_, rfl⟩
                                              rw [← e_va'_228]
                                              have hva8 : va'_228.toInt = ((s_ + 8 : Nat) : Int) := own_inc va'_197 va'_228 (s_ + 7) hva7 (by omega) e_va'_228
                                              refine own_putF X226 hx hZ hown e227 30 (hw _ (List.mem_of_getElem? (i := 31) rfl)) f205 f203 (Or.inl (hw _ (List.mem_of_getElem? (i := 32) rfl))) (hw _ (List.mem_of_getElem? (i := 21) rfl)) (ty := .int) (by decide) rfl rfl (hb hby d5_27) rfl (fun T229 h230 X231 e232 W233 => ?_)
                                              have f234 := f203.wr W233
                                              have f235 := f204.other W233 (Or.inr (slot_ne (Or.inr (hw _ (List.mem_of_getElem? (i := 30) rfl))) (Or.inl (hw _ (List.mem_of_getElem? (i := 32) rfl))) (by decide) (t := (.array .byte)) (t' := .int) (by decide) (by decide)))
                                              have f236 := f205.same W233
                                              have f237 := f206.other W233 (Or.inr (slot_ne (Or.inr (hw _ (List.mem_of_getElem? (i := 34) rfl))) (Or.inl (hw _ (List.mem_of_getElem? (i := 32) rfl))) (by decide) (t := .int) (t' := .int) (by decide) (by decide)))
                                              have f238 := f207.other W233 (Ne.symm na)
                                              have Z239 : n0 ≤ h230.size := Nat.le_trans Z208 (Keep.of_wr W233).1
                                              have K240 := K209.wr W233 (Or.inl (List.mem_of_getElem? (i := 0) rfl))
                                              have N241 := Fr.snoc X231 N210 ga
                                              refine own_baload X231 hx hZ e232 31 (s_ + 7) f238 hva7 (by omega) (hb hby d5_30) rfl ?_
                                              obtain ⟨vb_242, e_vb_242⟩ : ∃ z : Int32, z = (g (s_ + 7)) := ⟨_, rfl⟩
                                              refine own_istore X231 hx 33 #[.val (.ref a), .val (.long ww_213), .second, .val (.int (49 : Int32)), .val (.int vb_242)] e_vb_242 (hb hby d5_31) rfl rfl ?_
                                              refine own_iloadN X231 hx 34 (hb hby d5_33) rfl rfl ?_
                                              refine own_bipush X231 hx 36 (63 : Int32) (by decide) (hb hby d5_34) rfl ?_
                                              refine own_icmp_ne X231 hx 52 39 (hb hby d5_36) (by decide) (by decide) rfl (fun h243 => ?_) (fun h243 => ?_)
                                              · show own_W p e below _ T229 (mkF m 52 #[.val (.ref a), .val (.long ww_213), .second, .val (.int (49 : Int32)), .val (.int vb_242)] [])
                                                refine own_lloadN X231 hx 53 (hb hby d5_52) rfl rfl ?_
                                                refine own_iload X231 hx 55 (hb hby d5_53) rfl rfl ?_
                                                refine own_bipush X231 hx 57 (127 : Int32) (by decide) (hb hby d5_55) rfl ?_
                                                refine own_iand X231 hx 58 (hb hby d5_57) rfl ?_
                                                refine own_i2l X231 hx 59 (hb hby d5_58) rfl ?_
                                                refine own_iloadN X231 hx 60 (hb hby d5_59) rfl rfl ?_
                                                refine own_lshl X231 hx 61 (hb hby d5_60) rfl ?_
                                                refine own_lor X231 hx 62 (hb hby d5_61) rfl ?_
                                                obtain ⟨ww_244, e_ww_244⟩ : ∃ z : Int64, z = (ww_213 ||| (((vb_242 &&& (127 : Int32)).toInt64) <<< ((49 : Int32) &&& 0x3f).toInt64)) := ⟨_, rfl⟩
                                                refine own_lstoreN X231 hx 63 #[.val (.ref a), .val (.long ww_244), .second, .val (.int (49 : Int32)), .val (.int vb_242)] e_ww_244 (hb hby d5_62) rfl rfl ?_
                                                have hB7 : vb_242 = own_eb v 7 n := by rw [e_vb_242]; exact henc.1 7 hcn7 (Or.inl (by decide))
                                                have hw8 := own_wstep v ww_213 ww_244 vb_242 7 n hw7 hB7 (by decide) (by decide) e_ww_244
                                                refine own_iload X231 hx 65 (hb hby d5_63) rfl rfl ?_
                                                refine own_if_lt X231 hx 70 68 (hb hby d5_65) (by decide) (by decide) rfl (fun h245 => ?_) (fun h245 => ?_)
                                                · show own_W p e below _ T229 (mkF m 70 #[.val (.ref a), .val (.long ww_244), .second, .val (.int (49 : Int32)), .val (.int vb_242)] [])
                                                  have hcn8 : 8 < n := own_more v vb_242 7 n hB7 hcn7 h245
                                                  refine own_iinc X231 hx (56 : Int32) 73 #[.val (.ref a), .val (.long ww_244), .second, .val (.int (56 : Int32)), .val (.int vb_242)] (by decide) (hb hby d5_70) rfl rfl rfl ?_
                                                  refine own_goto X231 hx 4 (hb hby d5_73) (by decide) (by decide) ?_
                                                  refine own_aloadN X231 hx 5 (hb hby d5_4) rfl rfl ?_
                                                  refine own_getF X231 hx hZ hown e232 8 (hw _ (List.mem_of_getElem? (i := 31) rfl)) f236 (hb hby d5_5) rfl (fun T246 X247 e248 => ?_)
                                                  refine own_aloadN X247 hx 9 (hb hby d5_8) rfl rfl ?_
                                                  refine own_getF X247 hx hZ hown e248 12 (hw _ (List.mem_of_getElem? (i := 33) rfl)) f237 (hb hby d5_9) rfl (fun T249 X250 e251 => ?_)
                                                  refine own_icmp_ge X250 hx 76 15 (hb hby d5_12) (by decide) (by decide) rfl (fun h252 => ?_) (fun h252 => ?_)
                                                  · show own_W p e below _ T249 (mkF m 76 #[.val (.ref a), .val (.long ww_244), .second, .val (.int (56 : Int32)), .val (.int vb_242)] [])
                                                    refine own_ldc2 X250 hx hZ hown 79 (hw _ (List.mem_of_getElem? (i := 40) rfl)) (hb hby d5_76) rfl ?_
                                                    exact own_retJ X250 hx hret hlk (hb hby d5_79) (by decide) (by decide) ⟨_, _, rfl, own_resE va'_228 s_ e_ 8 n v b hva8 (by have := mt (own_lt32 _ _ _ _ hva8 hve).mpr h252; omega) hcn8, N241, by rw [e251]; exact ⟨K240, f235, f236, f237, f238⟩⟩
                                                  · show own_W p e below _ T249 (mkF m 15 #[.val (.ref a), .val (.long ww_244), .second, .val (.int (56 : Int32)), .val (.int vb_242)] [])
                                                    have hlt8 : 8 < e_ := by have := (own_lt32 _ _ _ _ hva8 hve).mp h252; omega
                                                    refine own_aloadN X250 hx 16 (hb hby d5_15) rfl rfl ?_
                                                    refine own_getF X250 hx hZ hown e251 19 (hw _ (List.mem_of_getElem? (i := 29) rfl)) f235 (hb hby d5_16) rfl (fun T253 X254 e255 => ?_)
                                                    refine own_aloadN X254 hx 20 (hb hby d5_19) rfl rfl ?_
                                                    refine own_dup X254 hx 21 rfl (hb hby d5_20) rfl ?_
                                                    refine own_getF X254 hx hZ hown e255 24 (hw _ (List.mem_of_getElem? (i := 31) rfl)) f236 (hb hby d5_21) rfl (fun T256 X257 e258 => ?_)
                                                    refine own_dupX1 X257 hx 25 rfl rfl (hb hby d5_24) rfl ?_
                                                    refine own_iconst X257 hx 26 (1 : Int32) (by decide) (hb hby d5_25) rfl ?_
                                                    refine own_iadd X257 hx 27 (hb hby d5_26) rfl ?_
                                                    obtain ⟨va'_259, e_va'_259⟩ : ∃ z : Int32, z = (va'_228 + (1 : Int32)) := ⟨_, rfl⟩
                                                    rw [← e_va'_259]
                                                    have hva9 : va'_259.toInt = ((s_ + 9 : Nat) : Int) := own_inc va'_228 va'_259 (s_ + 8) hva8 (by omega) e_va'_259
                                                    refine own_putF X257 hx hZ hown e258 30 (hw _ (List.mem_of_getElem? (i := 31) rfl)) f236 f234 (Or.inl (hw _ (List.mem_of_getElem? (i := 32) rfl))) (hw _ (List.mem_of_getElem? (i := 21) rfl)) (ty := .int) (by decide) rfl rfl (hb hby d5_27) rfl (fun T260 h261 X262 e263 W264 => ?_)
                                                    have f265 := f234.wr W264
                                                    have f266 := f235.other W264 (Or.inr (slot_ne (Or.inr (hw _ (List.mem_of_getElem? (i := 30) rfl))) (Or.inl (hw _ (List.mem_of_getElem? (i := 32) rfl))) (by decide) (t := (.array .byte)) (t' := .int) (by decide) (by decide)))
                                                    have f267 := f236.same W264
                                                    have f268 := f237.other W264 (Or.inr (slot_ne (Or.inr (hw _ (List.mem_of_getElem? (i := 34) rfl))) (Or.inl (hw _ (List.mem_of_getElem? (i := 32) rfl))) (by decide) (t := .int) (t' := .int) (by decide) (by decide)))
                                                    have f269 := f238.other W264 (Ne.symm na)
                                                    have Z270 : n0 ≤ h261.size := Nat.le_trans Z239 (Keep.of_wr W264).1
                                                    have K271 := K240.wr W264 (Or.inl (List.mem_of_getElem? (i := 0) rfl))
                                                    have N272 := Fr.snoc X262 N241 ga
                                                    refine own_baload X262 hx hZ e263 31 (s_ + 8) f269 hva8 (by omega) (hb hby d5_30) rfl ?_
                                                    obtain ⟨vb_273, e_vb_273⟩ : ∃ z : Int32, z = (g (s_ + 8)) := ⟨_, rfl⟩
                                                    refine own_istore X262 hx 33 #[.val (.ref a), .val (.long ww_244), .second, .val (.int (56 : Int32)), .val (.int vb_273)] e_vb_273 (hb hby d5_31) rfl rfl ?_
                                                    refine own_iloadN X262 hx 34 (hb hby d5_33) rfl rfl ?_
                                                    refine own_bipush X262 hx 36 (63 : Int32) (by decide) (hb hby d5_34) rfl ?_
                                                    refine own_icmp_ne X262 hx 52 39 (hb hby d5_36) (by decide) (by decide) rfl (fun h274 => ?_) (fun h274 => ?_)
                                                    · show own_W p e below _ T260 (mkF m 52 #[.val (.ref a), .val (.long ww_244), .second, .val (.int (56 : Int32)), .val (.int vb_273)] [])
                                                      refine own_lloadN X262 hx 53 (hb hby d5_52) rfl rfl ?_
                                                      refine own_iload X262 hx 55 (hb hby d5_53) rfl rfl ?_
                                                      refine own_bipush X262 hx 57 (127 : Int32) (by decide) (hb hby d5_55) rfl ?_
                                                      refine own_iand X262 hx 58 (hb hby d5_57) rfl ?_
                                                      refine own_i2l X262 hx 59 (hb hby d5_58) rfl ?_
                                                      refine own_iloadN X262 hx 60 (hb hby d5_59) rfl rfl ?_
                                                      refine own_lshl X262 hx 61 (hb hby d5_60) rfl ?_
                                                      refine own_lor X262 hx 62 (hb hby d5_61) rfl ?_
                                                      obtain ⟨ww_275, e_ww_275⟩ : ∃ z : Int64, z = (ww_244 ||| (((vb_273 &&& (127 : Int32)).toInt64) <<< ((56 : Int32) &&& 0x3f).toInt64)) := ⟨_, rfl⟩
                                                      refine own_lstoreN X262 hx 63 #[.val (.ref a), .val (.long ww_275), .second, .val (.int (56 : Int32)), .val (.int vb_273)] e_ww_275 (hb hby d5_62) rfl rfl ?_
                                                      have hB8 : vb_273 = own_eb v 8 n := by rw [e_vb_273]; exact henc.1 8 hcn8 (Or.inl (by decide))
                                                      have hw9 := own_wstep v ww_244 ww_275 vb_273 8 n hw8 hB8 (by decide) (by decide) e_ww_275
                                                      refine own_iload X262 hx 65 (hb hby d5_63) rfl rfl ?_
                                                      refine own_if_lt X262 hx 70 68 (hb hby d5_65) (by decide) (by decide) rfl (fun h276 => ?_) (fun h276 => ?_)
                                                      · show own_W p e below _ T260 (mkF m 70 #[.val (.ref a), .val (.long ww_275), .second, .val (.int (56 : Int32)), .val (.int vb_273)] [])
                                                        have hcn9 : 9 < n := own_more v vb_273 8 n hB8 hcn8 h276
                                                        refine own_iinc X262 hx (63 : Int32) 73 #[.val (.ref a), .val (.long ww_275), .second, .val (.int (63 : Int32)), .val (.int vb_273)] (by decide) (hb hby d5_70) rfl rfl rfl ?_
                                                        refine own_goto X262 hx 4 (hb hby d5_73) (by decide) (by decide) ?_
                                                        refine own_aloadN X262 hx 5 (hb hby d5_4) rfl rfl ?_
                                                        refine own_getF X262 hx hZ hown e263 8 (hw _ (List.mem_of_getElem? (i := 31) rfl)) f267 (hb hby d5_5) rfl (fun T277 X278 e279 => ?_)
                                                        refine own_aloadN X278 hx 9 (hb hby d5_8) rfl rfl ?_
                                                        refine own_getF X278 hx hZ hown e279 12 (hw _ (List.mem_of_getElem? (i := 33) rfl)) f268 (hb hby d5_9) rfl (fun T280 X281 e282 => ?_)
                                                        refine own_icmp_ge X281 hx 76 15 (hb hby d5_12) (by decide) (by decide) rfl (fun h283 => ?_) (fun h283 => ?_)
                                                        · show own_W p e below _ T280 (mkF m 76 #[.val (.ref a), .val (.long ww_275), .second, .val (.int (63 : Int32)), .val (.int vb_273)] [])
                                                          refine own_ldc2 X281 hx hZ hown 79 (hw _ (List.mem_of_getElem? (i := 40) rfl)) (hb hby d5_76) rfl ?_
                                                          exact own_retJ X281 hx hret hlk (hb hby d5_79) (by decide) (by decide) ⟨_, _, rfl, own_resE va'_259 s_ e_ 9 n v b hva9 (by have := mt (own_lt32 _ _ _ _ hva9 hve).mpr h283; omega) hcn9, N272, by rw [e282]; exact ⟨K271, f266, f267, f268, f269⟩⟩
                                                        · show own_W p e below _ T280 (mkF m 15 #[.val (.ref a), .val (.long ww_275), .second, .val (.int (63 : Int32)), .val (.int vb_273)] [])
                                                          have hlt9 : 9 < e_ := by have := (own_lt32 _ _ _ _ hva9 hve).mp h283; omega
                                                          refine own_aloadN X281 hx 16 (hb hby d5_15) rfl rfl ?_
                                                          refine own_getF X281 hx hZ hown e282 19 (hw _ (List.mem_of_getElem? (i := 29) rfl)) f266 (hb hby d5_16) rfl (fun T284 X285 e286 => ?_)
                                                          refine own_aloadN X285 hx 20 (hb hby d5_19) rfl rfl ?_
                                                          refine own_dup X285 hx 21 rfl (hb hby d5_20) rfl ?_
                                                          refine own_getF X285 hx hZ hown e286 24 (hw _ (List.mem_of_getElem? (i := 31) rfl)) f267 (hb hby d5_21) rfl (fun T287 X288 e289 => ?_)
                                                          refine own_dupX1 X288 hx 25 rfl rfl (hb hby d5_24) rfl ?_
                                                          refine own_iconst X288 hx 26 (1 : Int32) (by decide) (hb hby d5_25) rfl ?_
                                                          refine own_iadd X288 hx 27 (hb hby d5_26) rfl ?_
                                                          obtain ⟨va'_290, e_va'_290⟩ : ∃ z : Int32, z = (va'_259 + (1 : Int32)) := ⟨_, rfl⟩
                                                          rw [← e_va'_290]
                                                          have hva10 : va'_290.toInt = ((s_ + 10 : Nat) : Int) := own_inc va'_259 va'_290 (s_ + 9) hva9 (by omega) e_va'_290
                                                          refine own_putF X288 hx hZ hown e289 30 (hw _ (List.mem_of_getElem? (i := 31) rfl)) f267 f265 (Or.inl (hw _ (List.mem_of_getElem? (i := 32) rfl))) (hw _ (List.mem_of_getElem? (i := 21) rfl)) (ty := .int) (by decide) rfl rfl (hb hby d5_27) rfl (fun T291 h292 X293 e294 W295 => ?_)
                                                          have f296 := f265.wr W295
                                                          have f297 := f266.other W295 (Or.inr (slot_ne (Or.inr (hw _ (List.mem_of_getElem? (i := 30) rfl))) (Or.inl (hw _ (List.mem_of_getElem? (i := 32) rfl))) (by decide) (t := (.array .byte)) (t' := .int) (by decide) (by decide)))
                                                          have f298 := f267.same W295
                                                          have f299 := f268.other W295 (Or.inr (slot_ne (Or.inr (hw _ (List.mem_of_getElem? (i := 34) rfl))) (Or.inl (hw _ (List.mem_of_getElem? (i := 32) rfl))) (by decide) (t := .int) (t' := .int) (by decide) (by decide)))
                                                          have f300 := f269.other W295 (Ne.symm na)
                                                          have Z301 : n0 ≤ h292.size := Nat.le_trans Z270 (Keep.of_wr W295).1
                                                          have K302 := K271.wr W295 (Or.inl (List.mem_of_getElem? (i := 0) rfl))
                                                          have N303 := Fr.snoc X293 N272 ga
                                                          refine own_baload X293 hx hZ e294 31 (s_ + 9) f300 hva9 (by omega) (hb hby d5_30) rfl ?_
                                                          obtain ⟨vb_304, e_vb_304⟩ : ∃ z : Int32, z = (g (s_ + 9)) := ⟨_, rfl⟩
                                                          refine own_istore X293 hx 33 #[.val (.ref a), .val (.long ww_275), .second, .val (.int (63 : Int32)), .val (.int vb_304)] e_vb_304 (hb hby d5_31) rfl rfl ?_
                                                          refine own_iloadN X293 hx 34 (hb hby d5_33) rfl rfl ?_
                                                          refine own_bipush X293 hx 36 (63 : Int32) (by decide) (hb hby d5_34) rfl ?_
                                                          refine own_icmp_ne X293 hx 52 39 (hb hby d5_36) (by decide) (by decide) rfl (fun h305 => ?_) (fun h305 => ?_)
                                                          · exact absurd h305 (by decide)
                                                          · show own_W p e below _ T291 (mkF m 39 #[.val (.ref a), .val (.long ww_275), .second, .val (.int (63 : Int32)), .val (.int vb_304)] [])
                                                            refine own_iload X293 hx 41 (hb hby d5_39) rfl rfl ?_
                                                            refine own_sipush X293 hx 44 (255 : Int32) (by decide) (hb hby d5_41) rfl ?_
                                                            refine own_iand X293 hx 45 (hb hby d5_44) rfl ?_
                                                            refine own_if_le X293 hx 52 48 (hb hby d5_45) (by decide) (by decide) rfl (fun h306 => ?_) (fun h306 => ?_)
                                                            · show own_W p e below _ T291 (mkF m 52 #[.val (.ref a), .val (.long ww_275), .second, .val (.int (63 : Int32)), .val (.int vb_304)] [])
                                                              refine own_lloadN X293 hx 53 (hb hby d5_52) rfl rfl ?_
                                                              refine own_iload X293 hx 55 (hb hby d5_53) rfl rfl ?_
                                                              refine own_bipush X293 hx 57 (127 : Int32) (by decide) (hb hby d5_55) rfl ?_
                                                              refine own_iand X293 hx 58 (hb hby d5_57) rfl ?_
                                                              refine own_i2l X293 hx 59 (hb hby d5_58) rfl ?_
                                                              refine own_iloadN X293 hx 60 (hb hby d5_59) rfl rfl ?_
                                                              refine own_lshl X293 hx 61 (hb hby d5_60) rfl ?_
                                                              refine own_lor X293 hx 62 (hb hby d5_61) rfl ?_
                                                              obtain ⟨ww_307, e_ww_307⟩ : ∃ z : Int64, z = (ww_275 ||| (((vb_304 &&& (127 : Int32)).toInt64) <<< ((63 : Int32) &&& 0x3f).toInt64)) := ⟨_, rfl⟩
                                                              refine own_lstoreN X293 hx 63 #[.val (.ref a), .val (.long ww_307), .second, .val (.int (63 : Int32)), .val (.int vb_304)] e_ww_307 (hb hby d5_62) rfl rfl ?_
                                                              have hb0 : b = 0 := own_nbad g s_ n v b henc (by rw [← e_vb_304]; exact h306)
                                                              have hB9 : vb_304 = own_eb v 9 n := by rw [e_vb_304]; exact henc.1 9 hcn9 (Or.inr hb0)
                                                              have hw10 := own_wstep v ww_275 ww_307 vb_304 9 n hw9 hB9 (by decide) (by decide) e_ww_307
                                                              refine own_iload X293 hx 65 (hb hby d5_63) rfl rfl ?_
                                                              refine own_if_lt X293 hx 70 68 (hb hby d5_65) (by decide) (by decide) rfl (fun h308 => ?_) (fun h308 => ?_)
                                                              · exact absurd (own_more v vb_304 9 n hB9 hcn9 h308) (by omega)
                                                              · show own_W p e below _ T291 (mkF m 68 #[.val (.ref a), .val (.long ww_307), .second, .val (.int (63 : Int32)), .val (.int vb_304)] [])
                                                                refine own_lloadN X293 hx 69 (hb hby d5_68) rfl rfl ?_
                                                                exact own_retJ X293 hx hret hlk (hb hby d5_69) (by decide) (by decide) ⟨_, _, rfl, own_resV v ww_307 va'_290 vb_304 s_ e_ 9 n b g henc hB9 hcn9 h308 hva10 ⟨hlt9, Or.inl hb0⟩ hw10, N303, by rw [e294]; exact ⟨K302, f297, f298, f299, f300⟩⟩
                                                            · show own_W p e below _ T291 (mkF m 48 #[.val (.ref a), .val (.long ww_275), .second, .val (.int (63 : Int32)), .val (.int vb_304)] [])
                                                              refine own_ldc2 X293 hx hZ hown 51 (hw _ (List.mem_of_getElem? (i := 40) rfl)) (hb hby d5_48) rfl ?_
                                                              exact own_retJ X293 hx hret hlk (hb hby d5_51) (by decide) (by decide) ⟨_, _, rfl, own_resB va'_290 s_ e_ n v b hva10 (by omega) (own_isbad g s_ n v b henc hcn9 (by rw [← e_vb_304]; exact h306)) hcn9 (by omega), N303, by rw [e294]; exact ⟨K302, f297, f298, f299, f300⟩⟩
                                                      · show own_W p e below _ T260 (mkF m 68 #[.val (.ref a), .val (.long ww_275), .second, .val (.int (56 : Int32)), .val (.int vb_273)] [])
                                                        refine own_lloadN X262 hx 69 (hb hby d5_68) rfl rfl ?_
                                                        exact own_retJ X262 hx hret hlk (hb hby d5_69) (by decide) (by decide) ⟨_, _, rfl, own_resV v ww_275 va'_259 vb_273 s_ e_ 8 n b g henc hB8 hcn8 h276 hva9 ⟨hlt8, Or.inr (by decide)⟩ hw9, N272, by rw [e263]; exact ⟨K271, f266, f267, f268, f269⟩⟩
                                                    · exact absurd h274 (by decide)
                                                · show own_W p e below _ T229 (mkF m 68 #[.val (.ref a), .val (.long ww_244), .second, .val (.int (49 : Int32)), .val (.int vb_242)] [])
                                                  refine own_lloadN X231 hx 69 (hb hby d5_68) rfl rfl ?_
                                                  exact own_retJ X231 hx hret hlk (hb hby d5_69) (by decide) (by decide) ⟨_, _, rfl, own_resV v ww_244 va'_228 vb_242 s_ e_ 7 n b g henc hB7 hcn7 h245 hva8 ⟨hlt7, Or.inr (by decide)⟩ hw8, N241, by rw [e232]; exact ⟨K240, f235, f236, f237, f238⟩⟩
                                              · exact absurd h243 (by decide)
                                          · show own_W p e below _ T198 (mkF m 68 #[.val (.ref a), .val (.long ww_213), .second, .val (.int (42 : Int32)), .val (.int vb_211)] [])
                                            refine own_lloadN X200 hx 69 (hb hby d5_68) rfl rfl ?_
                                            exact own_retJ X200 hx hret hlk (hb hby d5_69) (by decide) (by decide) ⟨_, _, rfl, own_resV v ww_213 va'_197 vb_211 s_ e_ 6 n b g henc hB6 hcn6 h214 hva7 ⟨hlt6, Or.inr (by decide)⟩ hw7, N210, by rw [e201]; exact ⟨K209, f204, f205, f206, f207⟩⟩
                                        · exact absurd h212 (by decide)
                                    · show own_W p e below _ T167 (mkF m 68 #[.val (.ref a), .val (.long ww_182), .second, .val (.int (35 : Int32)), .val (.int vb_180)] [])
                                      refine own_lloadN X169 hx 69 (hb hby d5_68) rfl rfl ?_
                                      exact own_retJ X169 hx hret hlk (hb hby d5_69) (by decide) (by decide) ⟨_, _, rfl, own_resV v ww_182 va'_166 vb_180 s_ e_ 5 n b g henc hB5 hcn5 h183 hva6 ⟨hlt5, Or.inr (by decide)⟩ hw6, N179, by rw [e170]; exact ⟨K178, f173, f174, f175, f176⟩⟩
                                  · exact absurd h181 (by decide)
                              · show own_W p e below _ T136 (mkF m 68 #[.val (.ref a), .val (.long ww_151), .second, .val (.int (28 : Int32)), .val (.int vb_149)] [])
                                refine own_lloadN X138 hx 69 (hb hby d5_68) rfl rfl ?_
                                exact own_retJ X138 hx hret hlk (hb hby d5_69) (by decide) (by decide) ⟨_, _, rfl, own_resV v ww_151 va'_135 vb_149 s_ e_ 4 n b g henc hB4 hcn4 h152 hva5 ⟨hlt4, Or.inr (by decide)⟩ hw5, N148, by rw [e139]; exact ⟨K147, f142, f143, f144, f145⟩⟩
                            · exact absurd h150 (by decide)
                        · show own_W p e below _ T105 (mkF m 68 #[.val (.ref a), .val (.long ww_120), .second, .val (.int (21 : Int32)), .val (.int vb_118)] [])
                          refine own_lloadN X107 hx 69 (hb hby d5_68) rfl rfl ?_
                          exact own_retJ X107 hx hret hlk (hb hby d5_69) (by decide) (by decide) ⟨_, _, rfl, own_resV v ww_120 va'_104 vb_118 s_ e_ 3 n b g henc hB3 hcn3 h121 hva4 ⟨hlt3, Or.inr (by decide)⟩ hw4, N117, by rw [e108]; exact ⟨K116, f111, f112, f113, f114⟩⟩
                      · exact absurd h119 (by decide)
                  · show own_W p e below _ T74 (mkF m 68 #[.val (.ref a), .val (.long ww_89), .second, .val (.int (14 : Int32)), .val (.int vb_87)] [])
                    refine own_lloadN X76 hx 69 (hb hby d5_68) rfl rfl ?_
                    exact own_retJ X76 hx hret hlk (hb hby d5_69) (by decide) (by decide) ⟨_, _, rfl, own_resV v ww_89 va'_73 vb_87 s_ e_ 2 n b g henc hB2 hcn2 h90 hva3 ⟨hlt2, Or.inr (by decide)⟩ hw3, N86, by rw [e77]; exact ⟨K85, f80, f81, f82, f83⟩⟩
                · exact absurd h88 (by decide)
            · show own_W p e below _ T43 (mkF m 68 #[.val (.ref a), .val (.long ww_58), .second, .val (.int (7 : Int32)), .val (.int vb_56)] [])
              refine own_lloadN X45 hx 69 (hb hby d5_68) rfl rfl ?_
              exact own_retJ X45 hx hret hlk (hb hby d5_69) (by decide) (by decide) ⟨_, _, rfl, own_resV v ww_58 va'_42 vb_56 s_ e_ 1 n b g henc hB1 hcn1 h59 hva2 ⟨hlt1, Or.inr (by decide)⟩ hw2, N55, by rw [e46]; exact ⟨K54, f49, f50, f51, f52⟩⟩
          · exact absurd h57 (by decide)
      · show own_W p e below _ T14 (mkF m 68 #[.val (.ref a), .val (.long ww), .second, .val (.int (0 : Int32)), .val (.int vb)] [])
        refine own_lloadN X16 hx 69 (hb hby d5_68) rfl rfl ?_
        exact own_retJ X16 hx hret hlk (hb hby d5_69) (by decide) (by decide) ⟨_, _, rfl, own_resV v ww va' vb s_ e_ 0 n b g henc hB0 hcn0 h28 hva1 ⟨hlt0, Or.inr (by decide)⟩ hw1, N26, by rw [e17]; exact ⟨K25, f20, f21, f22, f23⟩⟩
    · exact absurd h27 (by decide)
set_option maxRecDepth 65536 in
set_option maxHeartbeats 40000000 in
theorem rm0 (l : Launch) (Z : State) (a0 : Array Value) (hw : ∀ d ∈ tables_1, d.before a0 Z = true) (q0 : Int64) (p1 p2 p3 p4 p5 : Int32) (h0 : Heap) (n0 : Nat) (Z0 : n0 ≤ h0.size)  :
    own_C l Z x code maxLocals ret tables_1 room_1 #[(.long q0), (.int p1), (.int p2), (.int p3), (.int p4), (.int p5)] h0 (fun v h L => v = some (.int 1) ∧ Fr n0 L) := by
  refine own_body (by first | (simp [plainName, overriddenIn]; done) | decide +kernel) ?_
  intro p e s m below meth c T0 hx hby hml hown hnm hret hlk hZ X0 e0
  have N0 := Fr.nil n0
  refine own_eq (f' := (mkF m 0 #[.val (.long q0), .second, .val (.int p1), .val (.int p2), .val (.int p3), .val (.int p4), .val (.int p5), .unset, .unset, .unset, .unset, .unset, .unset, .unset, .unset, .unset, .unset, .unset, .unset, .unset, .unset, .unset, .unset, .unset] [])) (by first | (simp [entryFrame, mkF, argsToLocals, Value.category, maxLocals]; done) | rfl) ?_
  refine own_lloadN X0 hx 1 (hb hby at_0) rfl rfl ?_
  refine own_ldc2 X0 hx hZ hown 4 (hw _ (List.mem_of_getElem? (i := 0) rfl)) (hb hby at_1) rfl ?_
  refine own_land X0 hx 5 (hb hby at_4) rfl ?_
  obtain ⟨vv, e_vv⟩ : ∃ z : Int64, z = (q0 &&& (9223372036854775807 : Int64)) := ⟨_, rfl⟩
  refine own_lstore X0 hx 7 #[.val (.long q0), .second, .val (.int p1), .val (.int p2), .val (.int p3), .val (.int p4), .val (.int p5), .val (.long vv), .second, .unset, .unset, .unset, .unset, .unset, .unset, .unset, .unset, .unset, .unset, .unset, .unset, .unset, .unset, .unset] e_vv (hb hby at_5) rfl rfl ?_
  have hvv := own_vv q0 vv e_vv
  refine own_iload X0 hx 9 (hb hby at_7) rfl rfl ?_
  refine own_iconst X0 hx 10 (1 : Int32) (by decide) (hb hby at_9) rfl ?_
  refine own_iand X0 hx 11 (hb hby at_10) rfl ?_
  have J1 : ∀ (vb : Int32) (hj2 : vb = 0 ∨ vb = 1), own_W p e below (own_K s room_1 (fun v h L => v = some (.int 1) ∧ Fr n0 L)) T0 (mkF m 19 #[.val (.long q0), .second, .val (.int p1), .val (.int p2), .val (.int p3), .val (.int p4), .val (.int p5), .val (.long vv), .second, .unset, .unset, .unset, .unset, .unset, .unset, .unset, .unset, .unset, .unset, .unset, .unset, .unset, .unset, .unset] [(.int vb)]) := by
    intro vb hj2
    have hvb := hj2
    refine own_istore X0 hx 21 #[.val (.long q0), .second, .val (.int p1), .val (.int p2), .val (.int p3), .val (.int p4), .val (.int p5), .val (.long vv), .second, .val (.int vb), .unset, .unset, .unset, .unset, .unset, .unset, .unset, .unset, .unset, .unset, .unset, .unset, .unset, .unset] rfl (hb hby at_19) rfl rfl ?_
    refine own_iconst X0 hx 22 (1 : Int32) (by decide) (hb hby at_21) rfl ?_
    refine own_iload X0 hx 24 (hb hby at_22) rfl rfl ?_
    refine own_iconst X0 hx 25 (1 : Int32) (by decide) (hb hby at_24) rfl ?_
    refine own_iushr X0 hx 26 (hb hby at_25) rfl ?_
    refine own_sipush X0 hx 29 (255 : Int32) (by decide) (hb hby at_26) rfl ?_
    refine own_irem X0 hx 30 (by decide) (hb hby at_29) rfl ?_
    refine own_iadd X0 hx 31 (hb hby at_30) rfl ?_
    obtain ⟨vt, e_vt⟩ : ∃ z : Int32, z = ((1 : Int32) + (((p5.toUInt32 >>> ((1 : Int32) &&& 31).toUInt32).toInt32) % (255 : Int32))) := ⟨_, rfl⟩
    refine own_istore X0 hx 33 #[.val (.long q0), .second, .val (.int p1), .val (.int p2), .val (.int p3), .val (.int p4), .val (.int p5), .val (.long vv), .second, .val (.int vb), .val (.int vt), .unset, .unset, .unset, .unset, .unset, .unset, .unset, .unset, .unset, .unset, .unset, .unset, .unset] e_vt (hb hby at_31) rfl rfl ?_
    refine own_iconst X0 hx 34 (1 : Int32) (by decide) (hb hby at_33) rfl ?_
    refine own_istore X0 hx 36 #[.val (.long q0), .second, .val (.int p1), .val (.int p2), .val (.int p3), .val (.int p4), .val (.int p5), .val (.long vv), .second, .val (.int vb), .val (.int vt), .val (.int (1 : Int32)), .unset, .unset, .unset, .unset, .unset, .unset, .unset, .unset, .unset, .unset, .unset, .unset] rfl (hb hby at_34) rfl rfl ?_
    refine own_lload X0 hx 38 (hb hby at_36) rfl rfl ?_
    refine own_ldc2 X0 hx hZ hown 41 (hw _ (List.mem_of_getElem? (i := 1) rfl)) (hb hby at_38) rfl ?_
    have J3 : ∀ (l1 : Int32) (hj4 : own_ln vv l1 1), own_W p e below (own_K s room_1 (fun v h L => v = some (.int 1) ∧ Fr n0 L)) T0 (mkF m 48 #[.val (.long q0), .second, .val (.int p1), .val (.int p2), .val (.int p3), .val (.int p4), .val (.int p5), .val (.long vv), .second, .val (.int vb), .val (.int vt), .val (.int l1), .unset, .unset, .unset, .unset, .unset, .unset, .unset, .unset, .unset, .unset, .unset, .unset] []) := by
      intro l1 hj4
      refine own_lload X0 hx 50 (hb hby at_48) rfl rfl ?_
      refine own_ldc2 X0 hx hZ hown 53 (hw _ (List.mem_of_getElem? (i := 2) rfl)) (hb hby at_50) rfl ?_
      have J5 : ∀ (l2 : Int32) (hj6 : own_ln vv l2 2), own_W p e below (own_K s room_1 (fun v h L => v = some (.int 1) ∧ Fr n0 L)) T0 (mkF m 60 #[.val (.long q0), .second, .val (.int p1), .val (.int p2), .val (.int p3), .val (.int p4), .val (.int p5), .val (.long vv), .second, .val (.int vb), .val (.int vt), .val (.int l2), .unset, .unset, .unset, .unset, .unset, .unset, .unset, .unset, .unset, .unset, .unset, .unset] []) := by
        intro l2 hj6
        refine own_lload X0 hx 62 (hb hby at_60) rfl rfl ?_
        refine own_ldc2 X0 hx hZ hown 65 (hw _ (List.mem_of_getElem? (i := 3) rfl)) (hb hby at_62) rfl ?_
        have J7 : ∀ (l3 : Int32) (hj8 : own_ln vv l3 3), own_W p e below (own_K s room_1 (fun v h L => v = some (.int 1) ∧ Fr n0 L)) T0 (mkF m 72 #[.val (.long q0), .second, .val (.int p1), .val (.int p2), .val (.int p3), .val (.int p4), .val (.int p5), .val (.long vv), .second, .val (.int vb), .val (.int vt), .val (.int l3), .unset, .unset, .unset, .unset, .unset, .unset, .unset, .unset, .unset, .unset, .unset, .unset] []) := by
          intro l3 hj8
          refine own_lload X0 hx 74 (hb hby at_72) rfl rfl ?_
          refine own_ldc2 X0 hx hZ hown 77 (hw _ (List.mem_of_getElem? (i := 4) rfl)) (hb hby at_74) rfl ?_
          have J9 : ∀ (l4 : Int32) (hj10 : own_ln vv l4 4), own_W p e below (own_K s room_1 (fun v h L => v = some (.int 1) ∧ Fr n0 L)) T0 (mkF m 84 #[.val (.long q0), .second, .val (.int p1), .val (.int p2), .val (.int p3), .val (.int p4), .val (.int p5), .val (.long vv), .second, .val (.int vb), .val (.int vt), .val (.int l4), .unset, .unset, .unset, .unset, .unset, .unset, .unset, .unset, .unset, .unset, .unset, .unset] []) := by
            intro l4 hj10
            refine own_lload X0 hx 86 (hb hby at_84) rfl rfl ?_
            refine own_ldc2 X0 hx hZ hown 89 (hw _ (List.mem_of_getElem? (i := 5) rfl)) (hb hby at_86) rfl ?_
            have J11 : ∀ (l5 : Int32) (hj12 : own_ln vv l5 5), own_W p e below (own_K s room_1 (fun v h L => v = some (.int 1) ∧ Fr n0 L)) T0 (mkF m 96 #[.val (.long q0), .second, .val (.int p1), .val (.int p2), .val (.int p3), .val (.int p4), .val (.int p5), .val (.long vv), .second, .val (.int vb), .val (.int vt), .val (.int l5), .unset, .unset, .unset, .unset, .unset, .unset, .unset, .unset, .unset, .unset, .unset, .unset] []) := by
              intro l5 hj12
              refine own_lload X0 hx 98 (hb hby at_96) rfl rfl ?_
              refine own_ldc2 X0 hx hZ hown 101 (hw _ (List.mem_of_getElem? (i := 6) rfl)) (hb hby at_98) rfl ?_
              have J13 : ∀ (l6 : Int32) (hj14 : own_ln vv l6 6), own_W p e below (own_K s room_1 (fun v h L => v = some (.int 1) ∧ Fr n0 L)) T0 (mkF m 108 #[.val (.long q0), .second, .val (.int p1), .val (.int p2), .val (.int p3), .val (.int p4), .val (.int p5), .val (.long vv), .second, .val (.int vb), .val (.int vt), .val (.int l6), .unset, .unset, .unset, .unset, .unset, .unset, .unset, .unset, .unset, .unset, .unset, .unset] []) := by
                intro l6 hj14
                refine own_lload X0 hx 110 (hb hby at_108) rfl rfl ?_
                refine own_ldc2 X0 hx hZ hown 113 (hw _ (List.mem_of_getElem? (i := 7) rfl)) (hb hby at_110) rfl ?_
                have J15 : ∀ (l7 : Int32) (hj16 : own_ln vv l7 7), own_W p e below (own_K s room_1 (fun v h L => v = some (.int 1) ∧ Fr n0 L)) T0 (mkF m 120 #[.val (.long q0), .second, .val (.int p1), .val (.int p2), .val (.int p3), .val (.int p4), .val (.int p5), .val (.long vv), .second, .val (.int vb), .val (.int vt), .val (.int l7), .unset, .unset, .unset, .unset, .unset, .unset, .unset, .unset, .unset, .unset, .unset, .unset] []) := by
                  intro l7 hj16
                  refine own_lload X0 hx 122 (hb hby at_120) rfl rfl ?_
                  refine own_ldc2 X0 hx hZ hown 125 (hw _ (List.mem_of_getElem? (i := 8) rfl)) (hb hby at_122) rfl ?_
                  have J17 : ∀ (l8 : Int32) (hj18 : own_ln vv l8 8), own_W p e below (own_K s room_1 (fun v h L => v = some (.int 1) ∧ Fr n0 L)) T0 (mkF m 132 #[.val (.long q0), .second, .val (.int p1), .val (.int p2), .val (.int p3), .val (.int p4), .val (.int p5), .val (.long vv), .second, .val (.int vb), .val (.int vt), .val (.int l8), .unset, .unset, .unset, .unset, .unset, .unset, .unset, .unset, .unset, .unset, .unset, .unset] []) := by
                    intro l8 hj18
                    refine own_iload X0 hx 134 (hb hby at_132) rfl rfl ?_
                    have J19 : ∀ (vn : Int32) (hj20 : own_nf vv vb vn), own_W p e below (own_K s room_1 (fun v h L => v = some (.int 1) ∧ Fr n0 L)) T0 (mkF m 155 #[.val (.long q0), .second, .val (.int p1), .val (.int p2), .val (.int p3), .val (.int p4), .val (.int p5), .val (.long vv), .second, .val (.int vb), .val (.int vt), .val (.int l8), .unset, .unset, .unset, .unset, .unset, .unset, .unset, .unset, .unset, .unset, .unset, .unset] [(.int vn)]) := by
                      intro vn hj20
                      obtain ⟨n, hvn, hn1, hn2, hnb, hng⟩ := hj20
                      refine own_istore X0 hx 157 #[.val (.long q0), .second, .val (.int p1), .val (.int p2), .val (.int p3), .val (.int p4), .val (.int p5), .val (.long vv), .second, .val (.int vb), .val (.int vt), .val (.int l8), .val (.int vn), .unset, .unset, .unset, .unset, .unset, .unset, .unset, .unset, .unset, .unset, .unset] rfl (hb hby at_155) rfl rfl ?_
                      refine own_iload X0 hx 159 (hb hby at_157) rfl rfl ?_
                      refine own_iconst X0 hx 160 (1 : Int32) (by decide) (hb hby at_159) rfl ?_
                      refine own_iand X0 hx 161 (hb hby at_160) rfl ?_
                      obtain ⟨vs, e_vs⟩ : ∃ z : Int32, z = (p3 &&& (1 : Int32)) := ⟨_, rfl⟩
                      refine own_istore X0 hx 163 #[.val (.long q0), .second, .val (.int p1), .val (.int p2), .val (.int p3), .val (.int p4), .val (.int p5), .val (.long vv), .second, .val (.int vb), .val (.int vt), .val (.int l8), .val (.int vn), .val (.int vs), .unset, .unset, .unset, .unset, .unset, .unset, .unset, .unset, .unset, .unset] e_vs (hb hby at_161) rfl rfl ?_
                      obtain ⟨s_, hvs, hs1⟩ := own_s1 p3 vs e_vs
                      refine own_iloadN X0 hx 164 (hb hby at_163) rfl rfl ?_
                      refine own_bipush X0 hx 166 (15 : Int32) (by decide) (hb hby at_164) rfl ?_
                      refine own_iand X0 hx 167 (hb hby at_166) rfl ?_
                      refine own_bipush X0 hx 169 (12 : Int32) (by decide) (hb hby at_167) rfl ?_
                      refine own_iload X0 hx 171 (hb hby at_169) rfl rfl ?_
                      refine own_isub X0 hx 172 (hb hby at_171) rfl ?_
                      refine own_callS X0 hx hZ hown e0 (y := (⟨"java/lang/Math", "min", "(II)I"⟩ : MethodName)) (argsL := [(.int (p2 &&& (15 : Int32))), (.int ((12 : Int32) - vs))]) (rest := []) 175 (rm1 l Z a0 hw (p2 &&& (15 : Int32)) ((12 : Int32) - vs) h0 n0 Z0) (hw _ (List.mem_of_getElem? (i := 10) rfl)) (hw _ (List.mem_of_getElem? (i := 11) rfl)) (hw _ (List.mem_of_getElem? (i := 12) rfl)) (hw _ (List.mem_of_getElem? (i := 13) rfl)) (by decide) (by rw [hml]; rfl) (lenOf (by decide +kernel : parseMethodDescriptor "(II)I" = some ⟨[.int, .int], some .int⟩) rfl) rfl (hb hby at_172) rfl (W := 0) rfl (by decide) (by decide) (by decide) (by decide) (fun r21 T22 L23 X24 q25 => ?_)
                      obtain ⟨rfl, N26q, e27⟩ := q25
                      have N26 := Fr.app N0 N26q
                      show own_W p e below _ T22 (mkF m 175 #[.val (.long q0), .second, .val (.int p1), .val (.int p2), .val (.int p3), .val (.int p4), .val (.int p5), .val (.long vv), .second, .val (.int vb), .val (.int vt), .val (.int l8), .val (.int vn), .val (.int vs), .unset, .unset, .unset, .unset, .unset, .unset, .unset, .unset, .unset, .unset] [(.int (own_min (p2 &&& (15 : Int32)) ((12 : Int32) - vs)))])
                      obtain ⟨ve, e_ve⟩ : ∃ z : Int32, z = (own_min (p2 &&& (15 : Int32)) ((12 : Int32) - vs)) := ⟨_, rfl⟩
                      refine own_istore X24 hx 177 #[.val (.long q0), .second, .val (.int p1), .val (.int p2), .val (.int p3), .val (.int p4), .val (.int p5), .val (.long vv), .second, .val (.int vb), .val (.int vt), .val (.int l8), .val (.int vn), .val (.int vs), .val (.int ve), .unset, .unset, .unset, .unset, .unset, .unset, .unset, .unset, .unset] e_ve (hb hby at_175) rfl rfl ?_
                      obtain ⟨e_, hve, hse⟩ := own_e1 p2 vs ve s_ hvs hs1 e_ve
                      refine own_iload X24 hx 179 (hb hby at_177) rfl rfl ?_
                      refine own_i2b X24 hx 180 (hb hby at_179) rfl ?_
                      obtain ⟨vg, e_vg⟩ : ∃ z : Int32, z = (p4.toInt8.toInt32) := ⟨_, rfl⟩
                      refine own_istore X24 hx 182 #[.val (.long q0), .second, .val (.int p1), .val (.int p2), .val (.int p3), .val (.int p4), .val (.int p5), .val (.long vv), .second, .val (.int vb), .val (.int vt), .val (.int l8), .val (.int vn), .val (.int vs), .val (.int ve), .val (.int vg), .unset, .unset, .unset, .unset, .unset, .unset, .unset, .unset] e_vg (hb hby at_180) rfl rfl ?_
                      refine own_bipush X24 hx 184 (12 : Int32) (by decide) (hb hby at_182) rfl ?_
                      refine own_newI X24 hx hZ e27 (n := 12) (cap := 12) 186 .byte rfl rfl (hw _ (List.mem_of_getElem? (i := 14) rfl)) rfl (by decide) (by decide) (hb hby at_184) rfl (by decide) (by decide) (fun T28 h29 a30 X31 e32 g33 E34 A35 => ?_)
                      have ga36 : n0 ≤ a30 := by rw [g33]; exact Z0
                      have Z37 : n0 ≤ h29.size := Nat.le_trans Z0 E34.1
                      refine own_astore X31 hx 188 #[.val (.long q0), .second, .val (.int p1), .val (.int p2), .val (.int p3), .val (.int p4), .val (.int p5), .val (.long vv), .second, .val (.int vb), .val (.int vt), .val (.int l8), .val (.int vn), .val (.int vs), .val (.int ve), .val (.int vg), .val (.ref a30), .unset, .unset, .unset, .unset, .unset, .unset, .unset] rfl (hb hby at_186) rfl rfl ?_
                      refine own_aload X31 hx 190 (hb hby at_188) rfl rfl ?_
                      refine own_iconst X31 hx 191 (0 : Int32) (by decide) (hb hby at_190) rfl ?_
                      refine own_iload X31 hx 193 (hb hby at_191) rfl rfl ?_
                      refine own_bastore X31 hx hZ e32 194 0 A35 rfl (by decide) (hb hby at_193) rfl (fun T38 h39 X40 e41 W42 => ?_)
                      have f43 := A35.set W42
                      have Z44 : n0 ≤ h39.size := Nat.le_trans Z37 (Keep.of_wr W42).1
                      have N45 := Fr.snoc X40 N26 ga36
                      refine own_aload X40 hx 196 (hb hby at_194) rfl rfl ?_
                      refine own_iconst X40 hx 197 (1 : Int32) (by decide) (hb hby at_196) rfl ?_
                      refine own_iload X40 hx 199 (hb hby at_197) rfl rfl ?_
                      refine own_bastore X40 hx hZ e41 200 1 f43 rfl (by decide) (hb hby at_199) rfl (fun T46 h47 X48 e49 W50 => ?_)
                      have f51 := f43.set W50
                      have Z52 : n0 ≤ h47.size := Nat.le_trans Z44 (Keep.of_wr W50).1
                      have N53 := Fr.snoc X48 N45 ga36
                      refine own_aload X48 hx 202 (hb hby at_200) rfl rfl ?_
                      refine own_iconst X48 hx 203 (2 : Int32) (by decide) (hb hby at_202) rfl ?_
                      refine own_iload X48 hx 205 (hb hby at_203) rfl rfl ?_
                      refine own_bastore X48 hx hZ e49 206 2 f51 rfl (by decide) (hb hby at_205) rfl (fun T54 h55 X56 e57 W58 => ?_)
                      have f59 := f51.set W58
                      have Z60 : n0 ≤ h55.size := Nat.le_trans Z52 (Keep.of_wr W58).1
                      have N61 := Fr.snoc X56 N53 ga36
                      refine own_aload X56 hx 208 (hb hby at_206) rfl rfl ?_
                      refine own_iconst X56 hx 209 (3 : Int32) (by decide) (hb hby at_208) rfl ?_
                      refine own_iload X56 hx 211 (hb hby at_209) rfl rfl ?_
                      refine own_bastore X56 hx hZ e57 212 3 f59 rfl (by decide) (hb hby at_211) rfl (fun T62 h63 X64 e65 W66 => ?_)
                      have f67 := f59.set W66
                      have Z68 : n0 ≤ h63.size := Nat.le_trans Z60 (Keep.of_wr W66).1
                      have N69 := Fr.snoc X64 N61 ga36
                      refine own_aload X64 hx 214 (hb hby at_212) rfl rfl ?_
                      refine own_iconst X64 hx 215 (4 : Int32) (by decide) (hb hby at_214) rfl ?_
                      refine own_iload X64 hx 217 (hb hby at_215) rfl rfl ?_
                      refine own_bastore X64 hx hZ e65 218 4 f67 rfl (by decide) (hb hby at_217) rfl (fun T70 h71 X72 e73 W74 => ?_)
                      have f75 := f67.set W74
                      have Z76 : n0 ≤ h71.size := Nat.le_trans Z68 (Keep.of_wr W74).1
                      have N77 := Fr.snoc X72 N69 ga36
                      refine own_aload X72 hx 220 (hb hby at_218) rfl rfl ?_
                      refine own_iconst X72 hx 221 (5 : Int32) (by decide) (hb hby at_220) rfl ?_
                      refine own_iload X72 hx 223 (hb hby at_221) rfl rfl ?_
                      refine own_bastore X72 hx hZ e73 224 5 f75 rfl (by decide) (hb hby at_223) rfl (fun T78 h79 X80 e81 W82 => ?_)
                      have f83 := f75.set W82
                      have Z84 : n0 ≤ h79.size := Nat.le_trans Z76 (Keep.of_wr W82).1
                      have N85 := Fr.snoc X80 N77 ga36
                      refine own_aload X80 hx 226 (hb hby at_224) rfl rfl ?_
                      refine own_bipush X80 hx 228 (6 : Int32) (by decide) (hb hby at_226) rfl ?_
                      refine own_iload X80 hx 230 (hb hby at_228) rfl rfl ?_
                      refine own_bastore X80 hx hZ e81 231 6 f83 rfl (by decide) (hb hby at_230) rfl (fun T86 h87 X88 e89 W90 => ?_)
                      have f91 := f83.set W90
                      have Z92 : n0 ≤ h87.size := Nat.le_trans Z84 (Keep.of_wr W90).1
                      have N93 := Fr.snoc X88 N85 ga36
                      refine own_aload X88 hx 233 (hb hby at_231) rfl rfl ?_
                      refine own_bipush X88 hx 235 (7 : Int32) (by decide) (hb hby at_233) rfl ?_
                      refine own_iload X88 hx 237 (hb hby at_235) rfl rfl ?_
                      refine own_bastore X88 hx hZ e89 238 7 f91 rfl (by decide) (hb hby at_237) rfl (fun T94 h95 X96 e97 W98 => ?_)
                      have f99 := f91.set W98
                      have Z100 : n0 ≤ h95.size := Nat.le_trans Z92 (Keep.of_wr W98).1
                      have N101 := Fr.snoc X96 N93 ga36
                      refine own_aload X96 hx 240 (hb hby at_238) rfl rfl ?_
                      refine own_bipush X96 hx 242 (8 : Int32) (by decide) (hb hby at_240) rfl ?_
                      refine own_iload X96 hx 244 (hb hby at_242) rfl rfl ?_
                      refine own_bastore X96 hx hZ e97 245 8 f99 rfl (by decide) (hb hby at_244) rfl (fun T102 h103 X104 e105 W106 => ?_)
                      have f107 := f99.set W106
                      have Z108 : n0 ≤ h103.size := Nat.le_trans Z100 (Keep.of_wr W106).1
                      have N109 := Fr.snoc X104 N101 ga36
                      refine own_aload X104 hx 247 (hb hby at_245) rfl rfl ?_
                      refine own_bipush X104 hx 249 (9 : Int32) (by decide) (hb hby at_247) rfl ?_
                      refine own_iload X104 hx 251 (hb hby at_249) rfl rfl ?_
                      refine own_bastore X104 hx hZ e105 252 9 f107 rfl (by decide) (hb hby at_251) rfl (fun T110 h111 X112 e113 W114 => ?_)
                      have f115 := f107.set W114
                      have Z116 : n0 ≤ h111.size := Nat.le_trans Z108 (Keep.of_wr W114).1
                      have N117 := Fr.snoc X112 N109 ga36
                      refine own_aload X112 hx 254 (hb hby at_252) rfl rfl ?_
                      refine own_bipush X112 hx 256 (10 : Int32) (by decide) (hb hby at_254) rfl ?_
                      refine own_iload X112 hx 258 (hb hby at_256) rfl rfl ?_
                      refine own_bastore X112 hx hZ e113 259 10 f115 rfl (by decide) (hb hby at_258) rfl (fun T118 h119 X120 e121 W122 => ?_)
                      have f123 := f115.set W122
                      have Z124 : n0 ≤ h119.size := Nat.le_trans Z116 (Keep.of_wr W122).1
                      have N125 := Fr.snoc X120 N117 ga36
                      refine own_aload X120 hx 261 (hb hby at_259) rfl rfl ?_
                      refine own_bipush X120 hx 263 (11 : Int32) (by decide) (hb hby at_261) rfl ?_
                      refine own_iload X120 hx 265 (hb hby at_263) rfl rfl ?_
                      refine own_bastore X120 hx hZ e121 266 11 f123 rfl (by decide) (hb hby at_265) rfl (fun T126 h127 X128 e129 W130 => ?_)
                      have f131 := f123.set W130
                      have Z132 : n0 ≤ h127.size := Nat.le_trans Z124 (Keep.of_wr W130).1
                      have N133 := Fr.snoc X128 N125 ga36
                      obtain ⟨fz, e_fz⟩ : ∃ z : Nat → Int32, z = (fun q => if q = 11 then vg.toInt8.toInt32 else (fun q => if q = 10 then vg.toInt8.toInt32 else (fun q => if q = 9 then vg.toInt8.toInt32 else (fun q => if q = 8 then vg.toInt8.toInt32 else (fun q => if q = 7 then vg.toInt8.toInt32 else (fun q => if q = 6 then vg.toInt8.toInt32 else (fun q => if q = 5 then vg.toInt8.toInt32 else (fun q => if q = 4 then vg.toInt8.toInt32 else (fun q => if q = 3 then vg.toInt8.toInt32 else (fun q => if q = 2 then vg.toInt8.toInt32 else (fun q => if q = 1 then vg.toInt8.toInt32 else (fun q => if q = 0 then vg.toInt8.toInt32 else (fun _ => 0) q) q) q) q) q) q) q) q) q) q) q) q) := ⟨_, rfl⟩
                      rw [← e_fz] at f131
                      refine own_aload X128 hx 268 (hb hby at_266) rfl rfl ?_
                      refine own_iload X128 hx 270 (hb hby at_268) rfl rfl ?_
                      refine own_lload X128 hx 272 (hb hby at_270) rfl rfl ?_
                      refine own_iconst X128 hx 273 (0 : Int32) (by decide) (hb hby at_272) rfl ?_
                      refine own_iload X128 hx 275 (hb hby at_273) rfl rfl ?_
                      refine own_callS X128 hx hZ hown e129 (y := (⟨"indaga/index/CursorVarlongPinLaw", "put", "([BIJII)V"⟩ : MethodName)) (argsL := [(.ref a30), (.int vs), (.long vv), (.int (0 : Int32)), (.int vn)]) (rest := []) 278 (rm2 l Z a0 hw a30 vs (0 : Int32) vn vv s_ 0 n fz h127 n0 Z132 hvs hs1 rfl (by decide) hvn hn1 hn2 ga36 f131) (hw _ (List.mem_of_getElem? (i := 15) rfl)) (hw _ (List.mem_of_getElem? (i := 16) rfl)) (hw _ (List.mem_of_getElem? (i := 17) rfl)) (hw _ (List.mem_of_getElem? (i := 18) rfl)) (by decide) (by rw [hml]; rfl) (lenOf (by decide +kernel : parseMethodDescriptor "([BIJII)V" = some ⟨[(.array .byte), .int, .long, .int, .int], none⟩) rfl) rfl (hb hby at_275) rfl (W := 0) rfl (by decide) (by decide) (by decide) (by decide) (fun r134 T135 L136 X137 q138 => ?_)
                      obtain ⟨g0, rfl, pt0, N139q, K140, f141⟩ := q138
                      have N139 := Fr.app N133 N139q
                      have Z143 : n0 ≤ T135.heap.size := Nat.le_trans Z132 K140.1
                      show own_W p e below _ T135 (mkF m 278 #[.val (.long q0), .second, .val (.int p1), .val (.int p2), .val (.int p3), .val (.int p4), .val (.int p5), .val (.long vv), .second, .val (.int vb), .val (.int vt), .val (.int l8), .val (.int vn), .val (.int vs), .val (.int ve), .val (.int vg), .val (.ref a30), .unset, .unset, .unset, .unset, .unset, .unset, .unset] [])
                      refine own_aload X137 hx 280 (hb hby at_278) rfl rfl ?_
                      refine own_iload X137 hx 282 (hb hby at_280) rfl rfl ?_
                      refine own_lload X137 hx 284 (hb hby at_282) rfl rfl ?_
                      refine own_iconst X137 hx 285 (1 : Int32) (by decide) (hb hby at_284) rfl ?_
                      refine own_iload X137 hx 287 (hb hby at_285) rfl rfl ?_
                      refine own_callS X137 hx hZ hown rfl (y := (⟨"indaga/index/CursorVarlongPinLaw", "put", "([BIJII)V"⟩ : MethodName)) (argsL := [(.ref a30), (.int vs), (.long vv), (.int (1 : Int32)), (.int vn)]) (rest := []) 290 (rm2 l Z a0 hw a30 vs (1 : Int32) vn vv s_ 1 n g0 T135.heap n0 Z143 hvs hs1 rfl (by decide) hvn hn1 hn2 ga36 f141) (hw _ (List.mem_of_getElem? (i := 15) rfl)) (hw _ (List.mem_of_getElem? (i := 16) rfl)) (hw _ (List.mem_of_getElem? (i := 17) rfl)) (hw _ (List.mem_of_getElem? (i := 18) rfl)) (by decide) (by rw [hml]; rfl) (lenOf (by decide +kernel : parseMethodDescriptor "([BIJII)V" = some ⟨[(.array .byte), .int, .long, .int, .int], none⟩) rfl) rfl (hb hby at_287) rfl (W := 0) rfl (by decide) (by decide) (by decide) (by decide) (fun r144 T145 L146 X147 q148 => ?_)
                      obtain ⟨g1, rfl, pt1, N149q, K150, f151⟩ := q148
                      have N149 := Fr.app N139 N149q
                      have Z153 : n0 ≤ T145.heap.size := Nat.le_trans Z143 K150.1
                      show own_W p e below _ T145 (mkF m 290 #[.val (.long q0), .second, .val (.int p1), .val (.int p2), .val (.int p3), .val (.int p4), .val (.int p5), .val (.long vv), .second, .val (.int vb), .val (.int vt), .val (.int l8), .val (.int vn), .val (.int vs), .val (.int ve), .val (.int vg), .val (.ref a30), .unset, .unset, .unset, .unset, .unset, .unset, .unset] [])
                      refine own_aload X147 hx 292 (hb hby at_290) rfl rfl ?_
                      refine own_iload X147 hx 294 (hb hby at_292) rfl rfl ?_
                      refine own_lload X147 hx 296 (hb hby at_294) rfl rfl ?_
                      refine own_iconst X147 hx 297 (2 : Int32) (by decide) (hb hby at_296) rfl ?_
                      refine own_iload X147 hx 299 (hb hby at_297) rfl rfl ?_
                      refine own_callS X147 hx hZ hown rfl (y := (⟨"indaga/index/CursorVarlongPinLaw", "put", "([BIJII)V"⟩ : MethodName)) (argsL := [(.ref a30), (.int vs), (.long vv), (.int (2 : Int32)), (.int vn)]) (rest := []) 302 (rm2 l Z a0 hw a30 vs (2 : Int32) vn vv s_ 2 n g1 T145.heap n0 Z153 hvs hs1 rfl (by decide) hvn hn1 hn2 ga36 f151) (hw _ (List.mem_of_getElem? (i := 15) rfl)) (hw _ (List.mem_of_getElem? (i := 16) rfl)) (hw _ (List.mem_of_getElem? (i := 17) rfl)) (hw _ (List.mem_of_getElem? (i := 18) rfl)) (by decide) (by rw [hml]; rfl) (lenOf (by decide +kernel : parseMethodDescriptor "([BIJII)V" = some ⟨[(.array .byte), .int, .long, .int, .int], none⟩) rfl) rfl (hb hby at_299) rfl (W := 0) rfl (by decide) (by decide) (by decide) (by decide) (fun r154 T155 L156 X157 q158 => ?_)
                      obtain ⟨g2, rfl, pt2, N159q, K160, f161⟩ := q158
                      have N159 := Fr.app N149 N159q
                      have Z163 : n0 ≤ T155.heap.size := Nat.le_trans Z153 K160.1
                      show own_W p e below _ T155 (mkF m 302 #[.val (.long q0), .second, .val (.int p1), .val (.int p2), .val (.int p3), .val (.int p4), .val (.int p5), .val (.long vv), .second, .val (.int vb), .val (.int vt), .val (.int l8), .val (.int vn), .val (.int vs), .val (.int ve), .val (.int vg), .val (.ref a30), .unset, .unset, .unset, .unset, .unset, .unset, .unset] [])
                      refine own_aload X157 hx 304 (hb hby at_302) rfl rfl ?_
                      refine own_iload X157 hx 306 (hb hby at_304) rfl rfl ?_
                      refine own_lload X157 hx 308 (hb hby at_306) rfl rfl ?_
                      refine own_iconst X157 hx 309 (3 : Int32) (by decide) (hb hby at_308) rfl ?_
                      refine own_iload X157 hx 311 (hb hby at_309) rfl rfl ?_
                      refine own_callS X157 hx hZ hown rfl (y := (⟨"indaga/index/CursorVarlongPinLaw", "put", "([BIJII)V"⟩ : MethodName)) (argsL := [(.ref a30), (.int vs), (.long vv), (.int (3 : Int32)), (.int vn)]) (rest := []) 314 (rm2 l Z a0 hw a30 vs (3 : Int32) vn vv s_ 3 n g2 T155.heap n0 Z163 hvs hs1 rfl (by decide) hvn hn1 hn2 ga36 f161) (hw _ (List.mem_of_getElem? (i := 15) rfl)) (hw _ (List.mem_of_getElem? (i := 16) rfl)) (hw _ (List.mem_of_getElem? (i := 17) rfl)) (hw _ (List.mem_of_getElem? (i := 18) rfl)) (by decide) (by rw [hml]; rfl) (lenOf (by decide +kernel : parseMethodDescriptor "([BIJII)V" = some ⟨[(.array .byte), .int, .long, .int, .int], none⟩) rfl) rfl (hb hby at_311) rfl (W := 0) rfl (by decide) (by decide) (by decide) (by decide) (fun r164 T165 L166 X167 q168 => ?_)
                      obtain ⟨g3, rfl, pt3, N169q, K170, f171⟩ := q168
                      have N169 := Fr.app N159 N169q
                      have Z173 : n0 ≤ T165.heap.size := Nat.le_trans Z163 K170.1
                      show own_W p e below _ T165 (mkF m 314 #[.val (.long q0), .second, .val (.int p1), .val (.int p2), .val (.int p3), .val (.int p4), .val (.int p5), .val (.long vv), .second, .val (.int vb), .val (.int vt), .val (.int l8), .val (.int vn), .val (.int vs), .val (.int ve), .val (.int vg), .val (.ref a30), .unset, .unset, .unset, .unset, .unset, .unset, .unset] [])
                      refine own_aload X167 hx 316 (hb hby at_314) rfl rfl ?_
                      refine own_iload X167 hx 318 (hb hby at_316) rfl rfl ?_
                      refine own_lload X167 hx 320 (hb hby at_318) rfl rfl ?_
                      refine own_iconst X167 hx 321 (4 : Int32) (by decide) (hb hby at_320) rfl ?_
                      refine own_iload X167 hx 323 (hb hby at_321) rfl rfl ?_
                      refine own_callS X167 hx hZ hown rfl (y := (⟨"indaga/index/CursorVarlongPinLaw", "put", "([BIJII)V"⟩ : MethodName)) (argsL := [(.ref a30), (.int vs), (.long vv), (.int (4 : Int32)), (.int vn)]) (rest := []) 326 (rm2 l Z a0 hw a30 vs (4 : Int32) vn vv s_ 4 n g3 T165.heap n0 Z173 hvs hs1 rfl (by decide) hvn hn1 hn2 ga36 f171) (hw _ (List.mem_of_getElem? (i := 15) rfl)) (hw _ (List.mem_of_getElem? (i := 16) rfl)) (hw _ (List.mem_of_getElem? (i := 17) rfl)) (hw _ (List.mem_of_getElem? (i := 18) rfl)) (by decide) (by rw [hml]; rfl) (lenOf (by decide +kernel : parseMethodDescriptor "([BIJII)V" = some ⟨[(.array .byte), .int, .long, .int, .int], none⟩) rfl) rfl (hb hby at_323) rfl (W := 0) rfl (by decide) (by decide) (by decide) (by decide) (fun r174 T175 L176 X177 q178 => ?_)
                      obtain ⟨g4, rfl, pt4, N179q, K180, f181⟩ := q178
                      have N179 := Fr.app N169 N179q
                      have Z183 : n0 ≤ T175.heap.size := Nat.le_trans Z173 K180.1
                      show own_W p e below _ T175 (mkF m 326 #[.val (.long q0), .second, .val (.int p1), .val (.int p2), .val (.int p3), .val (.int p4), .val (.int p5), .val (.long vv), .second, .val (.int vb), .val (.int vt), .val (.int l8), .val (.int vn), .val (.int vs), .val (.int ve), .val (.int vg), .val (.ref a30), .unset, .unset, .unset, .unset, .unset, .unset, .unset] [])
                      refine own_aload X177 hx 328 (hb hby at_326) rfl rfl ?_
                      refine own_iload X177 hx 330 (hb hby at_328) rfl rfl ?_
                      refine own_lload X177 hx 332 (hb hby at_330) rfl rfl ?_
                      refine own_iconst X177 hx 333 (5 : Int32) (by decide) (hb hby at_332) rfl ?_
                      refine own_iload X177 hx 335 (hb hby at_333) rfl rfl ?_
                      refine own_callS X177 hx hZ hown rfl (y := (⟨"indaga/index/CursorVarlongPinLaw", "put", "([BIJII)V"⟩ : MethodName)) (argsL := [(.ref a30), (.int vs), (.long vv), (.int (5 : Int32)), (.int vn)]) (rest := []) 338 (rm2 l Z a0 hw a30 vs (5 : Int32) vn vv s_ 5 n g4 T175.heap n0 Z183 hvs hs1 rfl (by decide) hvn hn1 hn2 ga36 f181) (hw _ (List.mem_of_getElem? (i := 15) rfl)) (hw _ (List.mem_of_getElem? (i := 16) rfl)) (hw _ (List.mem_of_getElem? (i := 17) rfl)) (hw _ (List.mem_of_getElem? (i := 18) rfl)) (by decide) (by rw [hml]; rfl) (lenOf (by decide +kernel : parseMethodDescriptor "([BIJII)V" = some ⟨[(.array .byte), .int, .long, .int, .int], none⟩) rfl) rfl (hb hby at_335) rfl (W := 0) rfl (by decide) (by decide) (by decide) (by decide) (fun r184 T185 L186 X187 q188 => ?_)
                      obtain ⟨g5, rfl, pt5, N189q, K190, f191⟩ := q188
                      have N189 := Fr.app N179 N189q
                      have Z193 : n0 ≤ T185.heap.size := Nat.le_trans Z183 K190.1
                      show own_W p e below _ T185 (mkF m 338 #[.val (.long q0), .second, .val (.int p1), .val (.int p2), .val (.int p3), .val (.int p4), .val (.int p5), .val (.long vv), .second, .val (.int vb), .val (.int vt), .val (.int l8), .val (.int vn), .val (.int vs), .val (.int ve), .val (.int vg), .val (.ref a30), .unset, .unset, .unset, .unset, .unset, .unset, .unset] [])
                      refine own_aload X187 hx 340 (hb hby at_338) rfl rfl ?_
                      refine own_iload X187 hx 342 (hb hby at_340) rfl rfl ?_
                      refine own_lload X187 hx 344 (hb hby at_342) rfl rfl ?_
                      refine own_bipush X187 hx 346 (6 : Int32) (by decide) (hb hby at_344) rfl ?_
                      refine own_iload X187 hx 348 (hb hby at_346) rfl rfl ?_
                      refine own_callS X187 hx hZ hown rfl (y := (⟨"indaga/index/CursorVarlongPinLaw", "put", "([BIJII)V"⟩ : MethodName)) (argsL := [(.ref a30), (.int vs), (.long vv), (.int (6 : Int32)), (.int vn)]) (rest := []) 351 (rm2 l Z a0 hw a30 vs (6 : Int32) vn vv s_ 6 n g5 T185.heap n0 Z193 hvs hs1 rfl (by decide) hvn hn1 hn2 ga36 f191) (hw _ (List.mem_of_getElem? (i := 15) rfl)) (hw _ (List.mem_of_getElem? (i := 16) rfl)) (hw _ (List.mem_of_getElem? (i := 17) rfl)) (hw _ (List.mem_of_getElem? (i := 18) rfl)) (by decide) (by rw [hml]; rfl) (lenOf (by decide +kernel : parseMethodDescriptor "([BIJII)V" = some ⟨[(.array .byte), .int, .long, .int, .int], none⟩) rfl) rfl (hb hby at_348) rfl (W := 0) rfl (by decide) (by decide) (by decide) (by decide) (fun r194 T195 L196 X197 q198 => ?_)
                      obtain ⟨g6, rfl, pt6, N199q, K200, f201⟩ := q198
                      have N199 := Fr.app N189 N199q
                      have Z203 : n0 ≤ T195.heap.size := Nat.le_trans Z193 K200.1
                      show own_W p e below _ T195 (mkF m 351 #[.val (.long q0), .second, .val (.int p1), .val (.int p2), .val (.int p3), .val (.int p4), .val (.int p5), .val (.long vv), .second, .val (.int vb), .val (.int vt), .val (.int l8), .val (.int vn), .val (.int vs), .val (.int ve), .val (.int vg), .val (.ref a30), .unset, .unset, .unset, .unset, .unset, .unset, .unset] [])
                      refine own_aload X197 hx 353 (hb hby at_351) rfl rfl ?_
                      refine own_iload X197 hx 355 (hb hby at_353) rfl rfl ?_
                      refine own_lload X197 hx 357 (hb hby at_355) rfl rfl ?_
                      refine own_bipush X197 hx 359 (7 : Int32) (by decide) (hb hby at_357) rfl ?_
                      refine own_iload X197 hx 361 (hb hby at_359) rfl rfl ?_
                      refine own_callS X197 hx hZ hown rfl (y := (⟨"indaga/index/CursorVarlongPinLaw", "put", "([BIJII)V"⟩ : MethodName)) (argsL := [(.ref a30), (.int vs), (.long vv), (.int (7 : Int32)), (.int vn)]) (rest := []) 364 (rm2 l Z a0 hw a30 vs (7 : Int32) vn vv s_ 7 n g6 T195.heap n0 Z203 hvs hs1 rfl (by decide) hvn hn1 hn2 ga36 f201) (hw _ (List.mem_of_getElem? (i := 15) rfl)) (hw _ (List.mem_of_getElem? (i := 16) rfl)) (hw _ (List.mem_of_getElem? (i := 17) rfl)) (hw _ (List.mem_of_getElem? (i := 18) rfl)) (by decide) (by rw [hml]; rfl) (lenOf (by decide +kernel : parseMethodDescriptor "([BIJII)V" = some ⟨[(.array .byte), .int, .long, .int, .int], none⟩) rfl) rfl (hb hby at_361) rfl (W := 0) rfl (by decide) (by decide) (by decide) (by decide) (fun r204 T205 L206 X207 q208 => ?_)
                      obtain ⟨g7, rfl, pt7, N209q, K210, f211⟩ := q208
                      have N209 := Fr.app N199 N209q
                      have Z213 : n0 ≤ T205.heap.size := Nat.le_trans Z203 K210.1
                      show own_W p e below _ T205 (mkF m 364 #[.val (.long q0), .second, .val (.int p1), .val (.int p2), .val (.int p3), .val (.int p4), .val (.int p5), .val (.long vv), .second, .val (.int vb), .val (.int vt), .val (.int l8), .val (.int vn), .val (.int vs), .val (.int ve), .val (.int vg), .val (.ref a30), .unset, .unset, .unset, .unset, .unset, .unset, .unset] [])
                      refine own_aload X207 hx 366 (hb hby at_364) rfl rfl ?_
                      refine own_iload X207 hx 368 (hb hby at_366) rfl rfl ?_
                      refine own_lload X207 hx 370 (hb hby at_368) rfl rfl ?_
                      refine own_bipush X207 hx 372 (8 : Int32) (by decide) (hb hby at_370) rfl ?_
                      refine own_iload X207 hx 374 (hb hby at_372) rfl rfl ?_
                      refine own_callS X207 hx hZ hown rfl (y := (⟨"indaga/index/CursorVarlongPinLaw", "put", "([BIJII)V"⟩ : MethodName)) (argsL := [(.ref a30), (.int vs), (.long vv), (.int (8 : Int32)), (.int vn)]) (rest := []) 377 (rm2 l Z a0 hw a30 vs (8 : Int32) vn vv s_ 8 n g7 T205.heap n0 Z213 hvs hs1 rfl (by decide) hvn hn1 hn2 ga36 f211) (hw _ (List.mem_of_getElem? (i := 15) rfl)) (hw _ (List.mem_of_getElem? (i := 16) rfl)) (hw _ (List.mem_of_getElem? (i := 17) rfl)) (hw _ (List.mem_of_getElem? (i := 18) rfl)) (by decide) (by rw [hml]; rfl) (lenOf (by decide +kernel : parseMethodDescriptor "([BIJII)V" = some ⟨[(.array .byte), .int, .long, .int, .int], none⟩) rfl) rfl (hb hby at_374) rfl (W := 0) rfl (by decide) (by decide) (by decide) (by decide) (fun r214 T215 L216 X217 q218 => ?_)
                      obtain ⟨g8, rfl, pt8, N219q, K220, f221⟩ := q218
                      have N219 := Fr.app N209 N219q
                      have Z223 : n0 ≤ T215.heap.size := Nat.le_trans Z213 K220.1
                      show own_W p e below _ T215 (mkF m 377 #[.val (.long q0), .second, .val (.int p1), .val (.int p2), .val (.int p3), .val (.int p4), .val (.int p5), .val (.long vv), .second, .val (.int vb), .val (.int vt), .val (.int l8), .val (.int vn), .val (.int vs), .val (.int ve), .val (.int vg), .val (.ref a30), .unset, .unset, .unset, .unset, .unset, .unset, .unset] [])
                      refine own_aload X217 hx 379 (hb hby at_377) rfl rfl ?_
                      refine own_iload X217 hx 381 (hb hby at_379) rfl rfl ?_
                      refine own_lload X217 hx 383 (hb hby at_381) rfl rfl ?_
                      refine own_bipush X217 hx 385 (9 : Int32) (by decide) (hb hby at_383) rfl ?_
                      refine own_iload X217 hx 387 (hb hby at_385) rfl rfl ?_
                      refine own_callS X217 hx hZ hown rfl (y := (⟨"indaga/index/CursorVarlongPinLaw", "put", "([BIJII)V"⟩ : MethodName)) (argsL := [(.ref a30), (.int vs), (.long vv), (.int (9 : Int32)), (.int vn)]) (rest := []) 390 (rm2 l Z a0 hw a30 vs (9 : Int32) vn vv s_ 9 n g8 T215.heap n0 Z223 hvs hs1 rfl (by decide) hvn hn1 hn2 ga36 f221) (hw _ (List.mem_of_getElem? (i := 15) rfl)) (hw _ (List.mem_of_getElem? (i := 16) rfl)) (hw _ (List.mem_of_getElem? (i := 17) rfl)) (hw _ (List.mem_of_getElem? (i := 18) rfl)) (by decide) (by rw [hml]; rfl) (lenOf (by decide +kernel : parseMethodDescriptor "([BIJII)V" = some ⟨[(.array .byte), .int, .long, .int, .int], none⟩) rfl) rfl (hb hby at_387) rfl (W := 0) rfl (by decide) (by decide) (by decide) (by decide) (fun r224 T225 L226 X227 q228 => ?_)
                      obtain ⟨g9, rfl, pt9, N229q, K230, f231⟩ := q228
                      have N229 := Fr.app N219 N229q
                      have Z233 : n0 ≤ T225.heap.size := Nat.le_trans Z223 K230.1
                      show own_W p e below _ T225 (mkF m 390 #[.val (.long q0), .second, .val (.int p1), .val (.int p2), .val (.int p3), .val (.int p4), .val (.int p5), .val (.long vv), .second, .val (.int vb), .val (.int vt), .val (.int l8), .val (.int vn), .val (.int vs), .val (.int ve), .val (.int vg), .val (.ref a30), .unset, .unset, .unset, .unset, .unset, .unset, .unset] [])
                      have hall := own_all fz g0 g1 g2 g3 g4 g5 g6 g7 g8 g9 s_ n vv pt0 pt1 pt2 pt3 pt4 pt5 pt6 pt7 pt8 pt9
                      refine own_iload X227 hx 392 (hb hby at_390) rfl rfl ?_
                      have J234 : ∀ (T235 : State) (lc236 : List Loc) (h237 : Heap) (gz : Nat → Int32) (X238 : Stand p l e room_1 s m #[(.long q0), (.int p1), (.int p2), (.int p3), (.int p4), (.int p5)] below meth c T235 lc236 1 12) (e239 : T235.heap = h237) (N240 : Fr n0 lc236) (Z241 : n0 ≤ h237.size) (f242 : own_AI Z h237 a30 .byte 12 gz) (hj243 : own_enc gz s_ n vv vb), own_W p e below (own_K s room_1 (fun v h L => v = some (.int 1) ∧ Fr n0 L)) T235 (mkF m 406 #[.val (.long q0), .second, .val (.int p1), .val (.int p2), .val (.int p3), .val (.int p4), .val (.int p5), .val (.long vv), .second, .val (.int vb), .val (.int vt), .val (.int l8), .val (.int vn), .val (.int vs), .val (.int ve), .val (.int vg), .val (.ref a30), .unset, .unset, .unset, .unset, .unset, .unset, .unset] []) := by
                        intro T235 lc236 h237 gz X238 e239 N240 Z241 f242 hj243
                        have henc := hj243
                        refine own_new X238 hx hZ hown e239 409 (hw _ (List.mem_of_getElem? (i := 20) rfl)) (hw _ (List.mem_of_getElem? (i := 21) rfl)) (hw _ (List.mem_of_getElem? (i := 22) rfl)) (hb hby at_406) rfl (by decide) (by decide) (fun T244 h245 a246 X247 e248 g249 E250 A251 D252 => ?_)
                        have ne253 : a30 ≠ a246 := fun q => absurd (f242.lt) (by rw [q, g249]; exact Nat.lt_irrefl _)
                        have ga254 : n0 ≤ a246 := by rw [g249]; exact Z241
                        have f255 := f242.ext E250
                        have Z256 : n0 ≤ h245.size := Nat.le_trans Z241 E250.1
                        have f257 : Fld Z h245 a246 "indaga/index/Cursor" "bytes" "[B" .null := D252 (Or.inr (hw _ (List.mem_of_getElem? (i := 30) rfl))) (ty := (.array .byte)) (by decide)
                        have f258 : Fld Z h245 a246 "indaga/index/Cursor" "at" "I" (.int (0 : Int32)) := D252 (Or.inl (hw _ (List.mem_of_getElem? (i := 32) rfl))) (ty := .int) (by decide)
                        have f259 : Fld Z h245 a246 "indaga/index/Cursor" "end" "I" (.int (0 : Int32)) := D252 (Or.inr (hw _ (List.mem_of_getElem? (i := 34) rfl))) (ty := .int) (by decide)
                        refine own_dup X247 hx 410 rfl (hb hby at_409) rfl ?_
                        refine own_aload X247 hx 412 (hb hby at_410) rfl rfl ?_
                        refine own_iload X247 hx 414 (hb hby at_412) rfl rfl ?_
                        refine own_iload X247 hx 416 (hb hby at_414) rfl rfl ?_
                        refine own_iload X247 hx 418 (hb hby at_416) rfl rfl ?_
                        refine own_iadd X247 hx 419 (hb hby at_418) rfl ?_
                        refine own_callI X247 hx hZ hown e248 (y := (⟨"indaga/index/Cursor", "<init>", "([BII)V"⟩ : MethodName)) (a := a246) (argsL := [(.ref a30), (.int vs), (.int (vs + ve))]) (rest := [(.ref a246)]) 422 (rm3 l Z a0 hw a246 a30 vs (vs + ve) h245 n0 Z256 ga254 A251 f257 f258 f259) rfl (hw _ (List.mem_of_getElem? (i := 23) rfl)) (hw _ (List.mem_of_getElem? (i := 24) rfl)) (hw _ (List.mem_of_getElem? (i := 22) rfl)) (hw _ (List.mem_of_getElem? (i := 25) rfl)) (by decide) (by rw [hml]; rfl) (lenOf (by decide +kernel : parseMethodDescriptor "([BII)V" = some ⟨[(.array .byte), .int, .int], none⟩) rfl) rfl (hb hby at_419) rfl (W := 1) rfl (by decide) (by decide) (by decide) (by decide) (fun r260 T261 L262 X263 q264 => ?_)
                        obtain ⟨rfl, N265q, K266, f267, f268, f269⟩ := q264
                        have N265 := Fr.app N240 N265q
                        have f270 := f255.keep K266 (ninS ne253 nin0)
                        have f271 := A251.keep K266
                        have Z275 : n0 ≤ T261.heap.size := Nat.le_trans Z256 K266.1
                        show own_W p e below _ T261 (mkF m 422 #[.val (.long q0), .second, .val (.int p1), .val (.int p2), .val (.int p3), .val (.int p4), .val (.int p5), .val (.long vv), .second, .val (.int vb), .val (.int vt), .val (.int l8), .val (.int vn), .val (.int vs), .val (.int ve), .val (.int vg), .val (.ref a30), .unset, .unset, .unset, .unset, .unset, .unset, .unset] [(.ref a246)])
                        refine own_astore X263 hx 424 #[.val (.long q0), .second, .val (.int p1), .val (.int p2), .val (.int p3), .val (.int p4), .val (.int p5), .val (.long vv), .second, .val (.int vb), .val (.int vt), .val (.int l8), .val (.int vn), .val (.int vs), .val (.int ve), .val (.int vg), .val (.ref a30), .val (.ref a246), .unset, .unset, .unset, .unset, .unset, .unset] rfl (hb hby at_422) rfl rfl ?_
                        refine own_aload X263 hx 426 (hb hby at_424) rfl rfl ?_
                        refine own_callV X263 hx hZ hown rfl (y := (⟨"indaga/index/Cursor", "varlong", "()J"⟩ : MethodName)) (a := a246) (argsL := []) (rest := []) 429 (rm5 l Z a0 hw a246 a30 vs (vs + ve) vb vv s_ e_ n gz T261.heap n0 Z275 hvs (own_add2 vs ve s_ e_ hvs hve (by omega)) hse henc hn1 hn2 (fun j => by simp) (Ne.symm ne253) ga254 f271 f267 f268 f269 f270) f271 (hw _ (List.mem_of_getElem? (i := 35) rfl)) (hw _ (List.mem_of_getElem? (i := 36) rfl)) (hw _ (List.mem_of_getElem? (i := 38) rfl)) (hw _ (List.mem_of_getElem? (i := 37) rfl)) (hw _ (List.mem_of_getElem? (i := 22) rfl)) (hw _ (List.mem_of_getElem? (i := 39) rfl)) (by decide) (by rw [hml]; rfl) (lenOf (by decide +kernel : parseMethodDescriptor "()J" = some ⟨[], some .long⟩) rfl) rfl (hb hby at_426) rfl (W := 0) rfl (by decide) (by decide) (by decide) (by decide) (fun r276 T277 L278 X279 q280 => ?_)
                        obtain ⟨zz, rr, rfl, hres, N281q, K282, f283, f284, f285, f286⟩ := q280
                        have N281 := Fr.app N265 N281q
                        have f287 := f270.keep K282 (ninS ne253 nin0)
                        have f288 := f271.keep K282
                        have Z292 : n0 ≤ T277.heap.size := Nat.le_trans Z275 K282.1
                        show own_W p e below _ T277 (mkF m 429 #[.val (.long q0), .second, .val (.int p1), .val (.int p2), .val (.int p3), .val (.int p4), .val (.int p5), .val (.long vv), .second, .val (.int vb), .val (.int vt), .val (.int l8), .val (.int vn), .val (.int vs), .val (.int ve), .val (.int vg), .val (.ref a30), .val (.ref a246), .unset, .unset, .unset, .unset, .unset, .unset] [(.long zz)])
                        refine own_lstore X279 hx 431 #[.val (.long q0), .second, .val (.int p1), .val (.int p2), .val (.int p3), .val (.int p4), .val (.int p5), .val (.long vv), .second, .val (.int vb), .val (.int vt), .val (.int l8), .val (.int vn), .val (.int vs), .val (.int ve), .val (.int vg), .val (.ref a30), .val (.ref a246), .val (.long zz), .second, .unset, .unset, .unset, .unset] rfl (hb hby at_429) rfl rfl ?_
                        refine own_aload X279 hx 433 (hb hby at_431) rfl rfl ?_
                        refine own_callV X279 hx hZ hown rfl (y := (⟨"indaga/index/Cursor", "at", "()I"⟩ : MethodName)) (a := a246) (argsL := []) (rest := []) 436 (rm6 l Z a0 hw a246 rr T277.heap n0 Z292 f284) f288 (hw _ (List.mem_of_getElem? (i := 41) rfl)) (hw _ (List.mem_of_getElem? (i := 42) rfl)) (hw _ (List.mem_of_getElem? (i := 44) rfl)) (hw _ (List.mem_of_getElem? (i := 43) rfl)) (hw _ (List.mem_of_getElem? (i := 22) rfl)) (hw _ (List.mem_of_getElem? (i := 45) rfl)) (by decide) (by rw [hml]; rfl) (lenOf (by decide +kernel : parseMethodDescriptor "()I" = some ⟨[], some .int⟩) rfl) rfl (hb hby at_433) rfl (W := 0) rfl (by decide) (by decide) (by decide) (by decide) (fun r293 T294 L295 X296 q297 => ?_)
                        obtain ⟨rfl, N298q, e299⟩ := q297
                        have N298 := Fr.app N281 N298q
                        show own_W p e below _ T294 (mkF m 436 #[.val (.long q0), .second, .val (.int p1), .val (.int p2), .val (.int p3), .val (.int p4), .val (.int p5), .val (.long vv), .second, .val (.int vb), .val (.int vt), .val (.int l8), .val (.int vn), .val (.int vs), .val (.int ve), .val (.int vg), .val (.ref a30), .val (.ref a246), .val (.long zz), .second, .unset, .unset, .unset, .unset] [(.int rr)])
                        refine own_istore X296 hx 438 #[.val (.long q0), .second, .val (.int p1), .val (.int p2), .val (.int p3), .val (.int p4), .val (.int p5), .val (.long vv), .second, .val (.int vb), .val (.int vt), .val (.int l8), .val (.int vn), .val (.int vs), .val (.int ve), .val (.int vg), .val (.ref a30), .val (.ref a246), .val (.long zz), .second, .val (.int rr), .unset, .unset, .unset] rfl (hb hby at_436) rfl rfl ?_
                        refine own_iload X296 hx 440 (hb hby at_438) rfl rfl ?_
                        refine own_iload X296 hx 442 (hb hby at_440) rfl rfl ?_
                        refine own_icmp_ge X296 hx 460 445 (hb hby at_442) (by decide) (by decide) rfl (fun h300 => ?_) (fun h300 => ?_)
                        · show own_W p e below _ T294 (mkF m 460 #[.val (.long q0), .second, .val (.int p1), .val (.int p2), .val (.int p3), .val (.int p4), .val (.int p5), .val (.long vv), .second, .val (.int vb), .val (.int vt), .val (.int l8), .val (.int vn), .val (.int vs), .val (.int ve), .val (.int vg), .val (.ref a30), .val (.ref a246), .val (.long zz), .second, .val (.int rr), .unset, .unset, .unset] [])
                          refine own_iload X296 hx 462 (hb hby at_460) rfl rfl ?_
                          refine own_if_eq X296 hx 471 465 (hb hby at_462) (by decide) (by decide) rfl (fun h301 => ?_) (fun h301 => ?_)
                          · show own_W p e below _ T294 (mkF m 471 #[.val (.long q0), .second, .val (.int p1), .val (.int p2), .val (.int p3), .val (.int p4), .val (.int p5), .val (.long vv), .second, .val (.int vb), .val (.int vt), .val (.int l8), .val (.int vn), .val (.int vs), .val (.int ve), .val (.int vg), .val (.ref a30), .val (.ref a246), .val (.long zz), .second, .val (.int rr), .unset, .unset, .unset] [])
                            refine own_lload X296 hx 473 (hb hby at_471) rfl rfl ?_
                            refine own_lstore X296 hx 475 #[.val (.long q0), .second, .val (.int p1), .val (.int p2), .val (.int p3), .val (.int p4), .val (.int p5), .val (.long vv), .second, .val (.int vb), .val (.int vt), .val (.int l8), .val (.int vn), .val (.int vs), .val (.int ve), .val (.int vg), .val (.ref a30), .val (.ref a246), .val (.long zz), .second, .val (.int rr), .val (.long vv), .second, .unset] rfl (hb hby at_473) rfl rfl ?_
                            refine own_iload X296 hx 477 (hb hby at_475) rfl rfl ?_
                            refine own_iload X296 hx 479 (hb hby at_477) rfl rfl ?_
                            refine own_iadd X296 hx 480 (hb hby at_479) rfl ?_
                            refine own_istore X296 hx 482 #[.val (.long q0), .second, .val (.int p1), .val (.int p2), .val (.int p3), .val (.int p4), .val (.int p5), .val (.long vv), .second, .val (.int vb), .val (.int vt), .val (.int l8), .val (.int vn), .val (.int vs), .val (.int ve), .val (.int vg), .val (.ref a30), .val (.ref a246), .val (.long zz), .second, .val (.int rr), .val (.long vv), .second, .val (.int (vs + vn))] rfl (hb hby at_480) rfl rfl ?_
                            refine own_lload X296 hx 484 (hb hby at_482) rfl rfl ?_
                            refine own_lload X296 hx 486 (hb hby at_484) rfl rfl ?_
                            refine own_lif_ne X296 hx 487 501 490 (hb hby at_486) rfl (hb hby at_487) (by decide) (by decide) rfl (fun h302 => ?_) (fun h302 => ?_)
                            · exact absurd ((hres.2 (mt (own_lt32 ve vn e_ n hve hvn).mpr h300)).1.trans (if_pos h301)) h302
                            · show own_W p e below _ T294 (mkF m 490 #[.val (.long q0), .second, .val (.int p1), .val (.int p2), .val (.int p3), .val (.int p4), .val (.int p5), .val (.long vv), .second, .val (.int vb), .val (.int vt), .val (.int l8), .val (.int vn), .val (.int vs), .val (.int ve), .val (.int vg), .val (.ref a30), .val (.ref a246), .val (.long zz), .second, .val (.int rr), .val (.long vv), .second, .val (.int (vs + vn))] [])
                              refine own_iload X296 hx 492 (hb hby at_490) rfl rfl ?_
                              refine own_iload X296 hx 494 (hb hby at_492) rfl rfl ?_
                              refine own_icmp_ne X296 hx 501 497 (hb hby at_494) (by decide) (by decide) rfl (fun h303 => ?_) (fun h303 => ?_)
                              · exact absurd (own_eq2 rr vs vn s_ n hvs hvn (by omega) (hres.2 (mt (own_lt32 ve vn e_ n hve hvn).mpr h300)).2) h303
                              · show own_W p e below _ T294 (mkF m 497 #[.val (.long q0), .second, .val (.int p1), .val (.int p2), .val (.int p3), .val (.int p4), .val (.int p5), .val (.long vv), .second, .val (.int vb), .val (.int vt), .val (.int l8), .val (.int vn), .val (.int vs), .val (.int ve), .val (.int vg), .val (.ref a30), .val (.ref a246), .val (.long zz), .second, .val (.int rr), .val (.long vv), .second, .val (.int (vs + vn))] [])
                                refine own_iconst X296 hx 498 (1 : Int32) (by decide) (hb hby at_497) rfl ?_
                                refine own_goto X296 hx 502 (hb hby at_498) (by decide) (by decide) ?_
                                exact own_retZ X296 hx (1 : Int32) (by decide) hret hlk (hb hby at_502) (by decide) (by decide) ⟨rfl, N298⟩
                          · show own_W p e below _ T294 (mkF m 465 #[.val (.long q0), .second, .val (.int p1), .val (.int p2), .val (.int p3), .val (.int p4), .val (.int p5), .val (.long vv), .second, .val (.int vb), .val (.int vt), .val (.int l8), .val (.int vn), .val (.int vs), .val (.int ve), .val (.int vg), .val (.ref a30), .val (.ref a246), .val (.long zz), .second, .val (.int rr), .unset, .unset, .unset] [])
                            refine own_ldc2 X296 hx hZ hown 468 (hw _ (List.mem_of_getElem? (i := 46) rfl)) (hb hby at_465) rfl ?_
                            refine own_goto X296 hx 473 (hb hby at_468) (by decide) (by decide) ?_
                            refine own_lstore X296 hx 475 #[.val (.long q0), .second, .val (.int p1), .val (.int p2), .val (.int p3), .val (.int p4), .val (.int p5), .val (.long vv), .second, .val (.int vb), .val (.int vt), .val (.int l8), .val (.int vn), .val (.int vs), .val (.int ve), .val (.int vg), .val (.ref a30), .val (.ref a246), .val (.long zz), .second, .val (.int rr), .val (.long (-1 : Int64)), .second, .unset] rfl (hb hby at_473) rfl rfl ?_
                            refine own_iload X296 hx 477 (hb hby at_475) rfl rfl ?_
                            refine own_iload X296 hx 479 (hb hby at_477) rfl rfl ?_
                            refine own_iadd X296 hx 480 (hb hby at_479) rfl ?_
                            refine own_istore X296 hx 482 #[.val (.long q0), .second, .val (.int p1), .val (.int p2), .val (.int p3), .val (.int p4), .val (.int p5), .val (.long vv), .second, .val (.int vb), .val (.int vt), .val (.int l8), .val (.int vn), .val (.int vs), .val (.int ve), .val (.int vg), .val (.ref a30), .val (.ref a246), .val (.long zz), .second, .val (.int rr), .val (.long (-1 : Int64)), .second, .val (.int (vs + vn))] rfl (hb hby at_480) rfl rfl ?_
                            refine own_lload X296 hx 484 (hb hby at_482) rfl rfl ?_
                            refine own_lload X296 hx 486 (hb hby at_484) rfl rfl ?_
                            refine own_lif_ne X296 hx 487 501 490 (hb hby at_486) rfl (hb hby at_487) (by decide) (by decide) rfl (fun h304 => ?_) (fun h304 => ?_)
                            · exact absurd ((hres.2 (mt (own_lt32 ve vn e_ n hve hvn).mpr h300)).1.trans (if_neg h301)) h304
                            · show own_W p e below _ T294 (mkF m 490 #[.val (.long q0), .second, .val (.int p1), .val (.int p2), .val (.int p3), .val (.int p4), .val (.int p5), .val (.long vv), .second, .val (.int vb), .val (.int vt), .val (.int l8), .val (.int vn), .val (.int vs), .val (.int ve), .val (.int vg), .val (.ref a30), .val (.ref a246), .val (.long zz), .second, .val (.int rr), .val (.long (-1 : Int64)), .second, .val (.int (vs + vn))] [])
                              refine own_iload X296 hx 492 (hb hby at_490) rfl rfl ?_
                              refine own_iload X296 hx 494 (hb hby at_492) rfl rfl ?_
                              refine own_icmp_ne X296 hx 501 497 (hb hby at_494) (by decide) (by decide) rfl (fun h305 => ?_) (fun h305 => ?_)
                              · exact absurd (own_eq2 rr vs vn s_ n hvs hvn (by omega) (hres.2 (mt (own_lt32 ve vn e_ n hve hvn).mpr h300)).2) h305
                              · show own_W p e below _ T294 (mkF m 497 #[.val (.long q0), .second, .val (.int p1), .val (.int p2), .val (.int p3), .val (.int p4), .val (.int p5), .val (.long vv), .second, .val (.int vb), .val (.int vt), .val (.int l8), .val (.int vn), .val (.int vs), .val (.int ve), .val (.int vg), .val (.ref a30), .val (.ref a246), .val (.long zz), .second, .val (.int rr), .val (.long (-1 : Int64)), .second, .val (.int (vs + vn))] [])
                                refine own_iconst X296 hx 498 (1 : Int32) (by decide) (hb hby at_497) rfl ?_
                                refine own_goto X296 hx 502 (hb hby at_498) (by decide) (by decide) ?_
                                exact own_retZ X296 hx (1 : Int32) (by decide) hret hlk (hb hby at_502) (by decide) (by decide) ⟨rfl, N298⟩
                        · show own_W p e below _ T294 (mkF m 445 #[.val (.long q0), .second, .val (.int p1), .val (.int p2), .val (.int p3), .val (.int p4), .val (.int p5), .val (.long vv), .second, .val (.int vb), .val (.int vt), .val (.int l8), .val (.int vn), .val (.int vs), .val (.int ve), .val (.int vg), .val (.ref a30), .val (.ref a246), .val (.long zz), .second, .val (.int rr), .unset, .unset, .unset] [])
                          refine own_ldc2 X296 hx hZ hown 448 (hw _ (List.mem_of_getElem? (i := 46) rfl)) (hb hby at_445) rfl ?_
                          refine own_lstore X296 hx 450 #[.val (.long q0), .second, .val (.int p1), .val (.int p2), .val (.int p3), .val (.int p4), .val (.int p5), .val (.long vv), .second, .val (.int vb), .val (.int vt), .val (.int l8), .val (.int vn), .val (.int vs), .val (.int ve), .val (.int vg), .val (.ref a30), .val (.ref a246), .val (.long zz), .second, .val (.int rr), .val (.long (-1 : Int64)), .second, .unset] rfl (hb hby at_448) rfl rfl ?_
                          refine own_iload X296 hx 452 (hb hby at_450) rfl rfl ?_
                          refine own_iload X296 hx 454 (hb hby at_452) rfl rfl ?_
                          refine own_iadd X296 hx 455 (hb hby at_454) rfl ?_
                          refine own_istore X296 hx 457 #[.val (.long q0), .second, .val (.int p1), .val (.int p2), .val (.int p3), .val (.int p4), .val (.int p5), .val (.long vv), .second, .val (.int vb), .val (.int vt), .val (.int l8), .val (.int vn), .val (.int vs), .val (.int ve), .val (.int vg), .val (.ref a30), .val (.ref a246), .val (.long zz), .second, .val (.int rr), .val (.long (-1 : Int64)), .second, .val (.int (vs + ve))] rfl (hb hby at_455) rfl rfl ?_
                          refine own_goto X296 hx 482 (hb hby at_457) (by decide) (by decide) ?_
                          refine own_lload X296 hx 484 (hb hby at_482) rfl rfl ?_
                          refine own_lload X296 hx 486 (hb hby at_484) rfl rfl ?_
                          refine own_lif_ne X296 hx 487 501 490 (hb hby at_486) rfl (hb hby at_487) (by decide) (by decide) rfl (fun h306 => ?_) (fun h306 => ?_)
                          · exact absurd (hres.1 ((own_lt32 ve vn e_ n hve hvn).mp h300)).1 h306
                          · show own_W p e below _ T294 (mkF m 490 #[.val (.long q0), .second, .val (.int p1), .val (.int p2), .val (.int p3), .val (.int p4), .val (.int p5), .val (.long vv), .second, .val (.int vb), .val (.int vt), .val (.int l8), .val (.int vn), .val (.int vs), .val (.int ve), .val (.int vg), .val (.ref a30), .val (.ref a246), .val (.long zz), .second, .val (.int rr), .val (.long (-1 : Int64)), .second, .val (.int (vs + ve))] [])
                            refine own_iload X296 hx 492 (hb hby at_490) rfl rfl ?_
                            refine own_iload X296 hx 494 (hb hby at_492) rfl rfl ?_
                            refine own_icmp_ne X296 hx 501 497 (hb hby at_494) (by decide) (by decide) rfl (fun h307 => ?_) (fun h307 => ?_)
                            · exact absurd (own_eq2 rr vs ve s_ e_ hvs hve (by omega) (hres.1 ((own_lt32 ve vn e_ n hve hvn).mp h300)).2) h307
                            · show own_W p e below _ T294 (mkF m 497 #[.val (.long q0), .second, .val (.int p1), .val (.int p2), .val (.int p3), .val (.int p4), .val (.int p5), .val (.long vv), .second, .val (.int vb), .val (.int vt), .val (.int l8), .val (.int vn), .val (.int vs), .val (.int ve), .val (.int vg), .val (.ref a30), .val (.ref a246), .val (.long zz), .second, .val (.int rr), .val (.long (-1 : Int64)), .second, .val (.int (vs + ve))] [])
                              refine own_iconst X296 hx 498 (1 : Int32) (by decide) (hb hby at_497) rfl ?_
                              refine own_goto X296 hx 502 (hb hby at_498) (by decide) (by decide) ?_
                              exact own_retZ X296 hx (1 : Int32) (by decide) hret hlk (hb hby at_502) (by decide) (by decide) ⟨rfl, N298⟩
                      refine own_if_eq X227 hx 406 395 (hb hby at_392) (by decide) (by decide) rfl (fun h308 => ?_) (fun h308 => ?_)
                      · show own_W p e below _ T225 (mkF m 406 #[.val (.long q0), .second, .val (.int p1), .val (.int p2), .val (.int p3), .val (.int p4), .val (.int p5), .val (.long vv), .second, .val (.int vb), .val (.int vt), .val (.int l8), .val (.int vn), .val (.int vs), .val (.int ve), .val (.int vg), .val (.ref a30), .unset, .unset, .unset, .unset, .unset, .unset, .unset] [])
                        exact J234  T225 _ _ g9 X227 rfl N229 Z233 f231 (own_encG g9 s_ n vv vb hall h308 hng hn1 hn2 hvv)
                      · show own_W p e below _ T225 (mkF m 395 #[.val (.long q0), .second, .val (.int p1), .val (.int p2), .val (.int p3), .val (.int p4), .val (.int p5), .val (.long vv), .second, .val (.int vb), .val (.int vt), .val (.int l8), .val (.int vn), .val (.int vs), .val (.int ve), .val (.int vg), .val (.ref a30), .unset, .unset, .unset, .unset, .unset, .unset, .unset] [])
                        refine own_aload X227 hx 397 (hb hby at_395) rfl rfl ?_
                        refine own_iload X227 hx 399 (hb hby at_397) rfl rfl ?_
                        refine own_bipush X227 hx 401 (9 : Int32) (by decide) (hb hby at_399) rfl ?_
                        refine own_iadd X227 hx 402 (hb hby at_401) rfl ?_
                        refine own_iload X227 hx 404 (hb hby at_402) rfl rfl ?_
                        refine own_i2b X227 hx 405 (hb hby at_404) rfl ?_
                        refine own_bastore X227 hx hZ rfl 406 (s_ + 9) f231 (own_add2 vs 9 s_ 9 hvs rfl (by omega)) (by omega) (hb hby at_405) rfl (fun T309 h310 X311 e312 W313 => ?_)
                        have f314 := f231.set W313
                        have Z315 : n0 ≤ h310.size := Nat.le_trans Z233 (Keep.of_wr W313).1
                        have N316 := Fr.snoc X311 N229 ga36
                        exact J234  T309 _ _ (fun q => if q = (s_ + 9) then (vt.toInt8.toInt32).toInt8.toInt32 else g9 q) X311 e312 N316 Z315 f314 (own_encB g9 s_ n vv vb vt p5 hall hvb h308 hnb hn1 hn2 hvv e_vt)
                    refine own_if_eq X0 hx 142 137 (hb hby at_134) (by decide) (by decide) rfl (fun h317 => ?_) (fun h317 => ?_)
                    · show own_W p e below _ T0 (mkF m 142 #[.val (.long q0), .second, .val (.int p1), .val (.int p2), .val (.int p3), .val (.int p4), .val (.int p5), .val (.long vv), .second, .val (.int vb), .val (.int vt), .val (.int l8), .unset, .unset, .unset, .unset, .unset, .unset, .unset, .unset, .unset, .unset, .unset, .unset] [])
                      refine own_iload X0 hx 144 (hb hby at_142) rfl rfl ?_
                      refine own_iloadN X0 hx 145 (hb hby at_144) rfl rfl ?_
                      refine own_ldc X0 hx hZ hown 147 (hw _ (List.mem_of_getElem? (i := 9) rfl)) (hb hby at_145) rfl ?_
                      refine own_iand X0 hx 148 (hb hby at_147) rfl ?_
                      refine own_bipush X0 hx 150 (11 : Int32) (by decide) (hb hby at_148) rfl ?_
                      refine own_iload X0 hx 152 (hb hby at_150) rfl rfl ?_
                      refine own_isub X0 hx 153 (hb hby at_152) rfl ?_
                      refine own_irem X0 hx 154 (own_nz11 vv l8 hj18) (hb hby at_153) rfl ?_
                      refine own_iadd X0 hx 155 (hb hby at_154) rfl ?_
                      exact J19 (l8 + ((p1 &&& (2147483647 : Int32)) % ((11 : Int32) - l8))) (own_nfG vv vb l8 _ p1 hj18 hvv h317 rfl)
                    · show own_W p e below _ T0 (mkF m 137 #[.val (.long q0), .second, .val (.int p1), .val (.int p2), .val (.int p3), .val (.int p4), .val (.int p5), .val (.long vv), .second, .val (.int vb), .val (.int vt), .val (.int l8), .unset, .unset, .unset, .unset, .unset, .unset, .unset, .unset, .unset, .unset, .unset, .unset] [])
                      refine own_bipush X0 hx 139 (10 : Int32) (by decide) (hb hby at_137) rfl ?_
                      refine own_goto X0 hx 155 (hb hby at_139) (by decide) (by decide) ?_
                      exact J19 (10 : Int32) (own_nfB vv vb hvb h317)
                  refine own_lif_lt X0 hx 126 132 129 (hb hby at_125) rfl (hb hby at_126) (by decide) (by decide) rfl (fun h318 => ?_) (fun h318 => ?_)
                  · show own_W p e below _ T0 (mkF m 132 #[.val (.long q0), .second, .val (.int p1), .val (.int p2), .val (.int p3), .val (.int p4), .val (.int p5), .val (.long vv), .second, .val (.int vb), .val (.int vt), .val (.int l7), .unset, .unset, .unset, .unset, .unset, .unset, .unset, .unset, .unset, .unset, .unset, .unset] [])
                    exact J17 l7 (own_lnA vv l7 8 hj16 h318 (by decide))
                  · show own_W p e below _ T0 (mkF m 129 #[.val (.long q0), .second, .val (.int p1), .val (.int p2), .val (.int p3), .val (.int p4), .val (.int p5), .val (.long vv), .second, .val (.int vb), .val (.int vt), .val (.int l7), .unset, .unset, .unset, .unset, .unset, .unset, .unset, .unset, .unset, .unset, .unset, .unset] [])
                    obtain ⟨v319, e_v319⟩ : ∃ z : Int32, z = (l7 + (1 : Int32)) := ⟨_, rfl⟩
                    refine own_iinc X0 hx v319 132 #[.val (.long q0), .second, .val (.int p1), .val (.int p2), .val (.int p3), .val (.int p4), .val (.int p5), .val (.long vv), .second, .val (.int vb), .val (.int vt), .val (.int v319), .unset, .unset, .unset, .unset, .unset, .unset, .unset, .unset, .unset, .unset, .unset, .unset] e_v319 (hb hby at_129) rfl rfl rfl ?_
                    exact J17 v319 (own_lnB vv l7 v319 8 hj16 h318 (by decide) (by decide) e_v319)
                refine own_lif_lt X0 hx 114 120 117 (hb hby at_113) rfl (hb hby at_114) (by decide) (by decide) rfl (fun h320 => ?_) (fun h320 => ?_)
                · show own_W p e below _ T0 (mkF m 120 #[.val (.long q0), .second, .val (.int p1), .val (.int p2), .val (.int p3), .val (.int p4), .val (.int p5), .val (.long vv), .second, .val (.int vb), .val (.int vt), .val (.int l6), .unset, .unset, .unset, .unset, .unset, .unset, .unset, .unset, .unset, .unset, .unset, .unset] [])
                  exact J15 l6 (own_lnA vv l6 7 hj14 h320 (by decide))
                · show own_W p e below _ T0 (mkF m 117 #[.val (.long q0), .second, .val (.int p1), .val (.int p2), .val (.int p3), .val (.int p4), .val (.int p5), .val (.long vv), .second, .val (.int vb), .val (.int vt), .val (.int l6), .unset, .unset, .unset, .unset, .unset, .unset, .unset, .unset, .unset, .unset, .unset, .unset] [])
                  obtain ⟨v321, e_v321⟩ : ∃ z : Int32, z = (l6 + (1 : Int32)) := ⟨_, rfl⟩
                  refine own_iinc X0 hx v321 120 #[.val (.long q0), .second, .val (.int p1), .val (.int p2), .val (.int p3), .val (.int p4), .val (.int p5), .val (.long vv), .second, .val (.int vb), .val (.int vt), .val (.int v321), .unset, .unset, .unset, .unset, .unset, .unset, .unset, .unset, .unset, .unset, .unset, .unset] e_v321 (hb hby at_117) rfl rfl rfl ?_
                  exact J15 v321 (own_lnB vv l6 v321 7 hj14 h320 (by decide) (by decide) e_v321)
              refine own_lif_lt X0 hx 102 108 105 (hb hby at_101) rfl (hb hby at_102) (by decide) (by decide) rfl (fun h322 => ?_) (fun h322 => ?_)
              · show own_W p e below _ T0 (mkF m 108 #[.val (.long q0), .second, .val (.int p1), .val (.int p2), .val (.int p3), .val (.int p4), .val (.int p5), .val (.long vv), .second, .val (.int vb), .val (.int vt), .val (.int l5), .unset, .unset, .unset, .unset, .unset, .unset, .unset, .unset, .unset, .unset, .unset, .unset] [])
                exact J13 l5 (own_lnA vv l5 6 hj12 h322 (by decide))
              · show own_W p e below _ T0 (mkF m 105 #[.val (.long q0), .second, .val (.int p1), .val (.int p2), .val (.int p3), .val (.int p4), .val (.int p5), .val (.long vv), .second, .val (.int vb), .val (.int vt), .val (.int l5), .unset, .unset, .unset, .unset, .unset, .unset, .unset, .unset, .unset, .unset, .unset, .unset] [])
                obtain ⟨v323, e_v323⟩ : ∃ z : Int32, z = (l5 + (1 : Int32)) := ⟨_, rfl⟩
                refine own_iinc X0 hx v323 108 #[.val (.long q0), .second, .val (.int p1), .val (.int p2), .val (.int p3), .val (.int p4), .val (.int p5), .val (.long vv), .second, .val (.int vb), .val (.int vt), .val (.int v323), .unset, .unset, .unset, .unset, .unset, .unset, .unset, .unset, .unset, .unset, .unset, .unset] e_v323 (hb hby at_105) rfl rfl rfl ?_
                exact J13 v323 (own_lnB vv l5 v323 6 hj12 h322 (by decide) (by decide) e_v323)
            refine own_lif_lt X0 hx 90 96 93 (hb hby at_89) rfl (hb hby at_90) (by decide) (by decide) rfl (fun h324 => ?_) (fun h324 => ?_)
            · show own_W p e below _ T0 (mkF m 96 #[.val (.long q0), .second, .val (.int p1), .val (.int p2), .val (.int p3), .val (.int p4), .val (.int p5), .val (.long vv), .second, .val (.int vb), .val (.int vt), .val (.int l4), .unset, .unset, .unset, .unset, .unset, .unset, .unset, .unset, .unset, .unset, .unset, .unset] [])
              exact J11 l4 (own_lnA vv l4 5 hj10 h324 (by decide))
            · show own_W p e below _ T0 (mkF m 93 #[.val (.long q0), .second, .val (.int p1), .val (.int p2), .val (.int p3), .val (.int p4), .val (.int p5), .val (.long vv), .second, .val (.int vb), .val (.int vt), .val (.int l4), .unset, .unset, .unset, .unset, .unset, .unset, .unset, .unset, .unset, .unset, .unset, .unset] [])
              obtain ⟨v325, e_v325⟩ : ∃ z : Int32, z = (l4 + (1 : Int32)) := ⟨_, rfl⟩
              refine own_iinc X0 hx v325 96 #[.val (.long q0), .second, .val (.int p1), .val (.int p2), .val (.int p3), .val (.int p4), .val (.int p5), .val (.long vv), .second, .val (.int vb), .val (.int vt), .val (.int v325), .unset, .unset, .unset, .unset, .unset, .unset, .unset, .unset, .unset, .unset, .unset, .unset] e_v325 (hb hby at_93) rfl rfl rfl ?_
              exact J11 v325 (own_lnB vv l4 v325 5 hj10 h324 (by decide) (by decide) e_v325)
          refine own_lif_lt X0 hx 78 84 81 (hb hby at_77) rfl (hb hby at_78) (by decide) (by decide) rfl (fun h326 => ?_) (fun h326 => ?_)
          · show own_W p e below _ T0 (mkF m 84 #[.val (.long q0), .second, .val (.int p1), .val (.int p2), .val (.int p3), .val (.int p4), .val (.int p5), .val (.long vv), .second, .val (.int vb), .val (.int vt), .val (.int l3), .unset, .unset, .unset, .unset, .unset, .unset, .unset, .unset, .unset, .unset, .unset, .unset] [])
            exact J9 l3 (own_lnA vv l3 4 hj8 h326 (by decide))
          · show own_W p e below _ T0 (mkF m 81 #[.val (.long q0), .second, .val (.int p1), .val (.int p2), .val (.int p3), .val (.int p4), .val (.int p5), .val (.long vv), .second, .val (.int vb), .val (.int vt), .val (.int l3), .unset, .unset, .unset, .unset, .unset, .unset, .unset, .unset, .unset, .unset, .unset, .unset] [])
            obtain ⟨v327, e_v327⟩ : ∃ z : Int32, z = (l3 + (1 : Int32)) := ⟨_, rfl⟩
            refine own_iinc X0 hx v327 84 #[.val (.long q0), .second, .val (.int p1), .val (.int p2), .val (.int p3), .val (.int p4), .val (.int p5), .val (.long vv), .second, .val (.int vb), .val (.int vt), .val (.int v327), .unset, .unset, .unset, .unset, .unset, .unset, .unset, .unset, .unset, .unset, .unset, .unset] e_v327 (hb hby at_81) rfl rfl rfl ?_
            exact J9 v327 (own_lnB vv l3 v327 4 hj8 h326 (by decide) (by decide) e_v327)
        refine own_lif_lt X0 hx 66 72 69 (hb hby at_65) rfl (hb hby at_66) (by decide) (by decide) rfl (fun h328 => ?_) (fun h328 => ?_)
        · show own_W p e below _ T0 (mkF m 72 #[.val (.long q0), .second, .val (.int p1), .val (.int p2), .val (.int p3), .val (.int p4), .val (.int p5), .val (.long vv), .second, .val (.int vb), .val (.int vt), .val (.int l2), .unset, .unset, .unset, .unset, .unset, .unset, .unset, .unset, .unset, .unset, .unset, .unset] [])
          exact J7 l2 (own_lnA vv l2 3 hj6 h328 (by decide))
        · show own_W p e below _ T0 (mkF m 69 #[.val (.long q0), .second, .val (.int p1), .val (.int p2), .val (.int p3), .val (.int p4), .val (.int p5), .val (.long vv), .second, .val (.int vb), .val (.int vt), .val (.int l2), .unset, .unset, .unset, .unset, .unset, .unset, .unset, .unset, .unset, .unset, .unset, .unset] [])
          obtain ⟨v329, e_v329⟩ : ∃ z : Int32, z = (l2 + (1 : Int32)) := ⟨_, rfl⟩
          refine own_iinc X0 hx v329 72 #[.val (.long q0), .second, .val (.int p1), .val (.int p2), .val (.int p3), .val (.int p4), .val (.int p5), .val (.long vv), .second, .val (.int vb), .val (.int vt), .val (.int v329), .unset, .unset, .unset, .unset, .unset, .unset, .unset, .unset, .unset, .unset, .unset, .unset] e_v329 (hb hby at_69) rfl rfl rfl ?_
          exact J7 v329 (own_lnB vv l2 v329 3 hj6 h328 (by decide) (by decide) e_v329)
      refine own_lif_lt X0 hx 54 60 57 (hb hby at_53) rfl (hb hby at_54) (by decide) (by decide) rfl (fun h330 => ?_) (fun h330 => ?_)
      · show own_W p e below _ T0 (mkF m 60 #[.val (.long q0), .second, .val (.int p1), .val (.int p2), .val (.int p3), .val (.int p4), .val (.int p5), .val (.long vv), .second, .val (.int vb), .val (.int vt), .val (.int l1), .unset, .unset, .unset, .unset, .unset, .unset, .unset, .unset, .unset, .unset, .unset, .unset] [])
        exact J5 l1 (own_lnA vv l1 2 hj4 h330 (by decide))
      · show own_W p e below _ T0 (mkF m 57 #[.val (.long q0), .second, .val (.int p1), .val (.int p2), .val (.int p3), .val (.int p4), .val (.int p5), .val (.long vv), .second, .val (.int vb), .val (.int vt), .val (.int l1), .unset, .unset, .unset, .unset, .unset, .unset, .unset, .unset, .unset, .unset, .unset, .unset] [])
        obtain ⟨v331, e_v331⟩ : ∃ z : Int32, z = (l1 + (1 : Int32)) := ⟨_, rfl⟩
        refine own_iinc X0 hx v331 60 #[.val (.long q0), .second, .val (.int p1), .val (.int p2), .val (.int p3), .val (.int p4), .val (.int p5), .val (.long vv), .second, .val (.int vb), .val (.int vt), .val (.int v331), .unset, .unset, .unset, .unset, .unset, .unset, .unset, .unset, .unset, .unset, .unset, .unset] e_v331 (hb hby at_57) rfl rfl rfl ?_
        exact J5 v331 (own_lnB vv l1 v331 2 hj4 h330 (by decide) (by decide) e_v331)
    refine own_lif_lt X0 hx 42 48 45 (hb hby at_41) rfl (hb hby at_42) (by decide) (by decide) rfl (fun h332 => ?_) (fun h332 => ?_)
    · show own_W p e below _ T0 (mkF m 48 #[.val (.long q0), .second, .val (.int p1), .val (.int p2), .val (.int p3), .val (.int p4), .val (.int p5), .val (.long vv), .second, .val (.int vb), .val (.int vt), .val (.int (1 : Int32)), .unset, .unset, .unset, .unset, .unset, .unset, .unset, .unset, .unset, .unset, .unset, .unset] [])
      exact J3 (1 : Int32) (own_lnA vv (1 : Int32) 1 (own_ln0 vv) h332 (by decide))
    · show own_W p e below _ T0 (mkF m 45 #[.val (.long q0), .second, .val (.int p1), .val (.int p2), .val (.int p3), .val (.int p4), .val (.int p5), .val (.long vv), .second, .val (.int vb), .val (.int vt), .val (.int (1 : Int32)), .unset, .unset, .unset, .unset, .unset, .unset, .unset, .unset, .unset, .unset, .unset, .unset] [])
      refine own_iinc X0 hx (2 : Int32) 48 #[.val (.long q0), .second, .val (.int p1), .val (.int p2), .val (.int p3), .val (.int p4), .val (.int p5), .val (.long vv), .second, .val (.int vb), .val (.int vt), .val (.int (2 : Int32)), .unset, .unset, .unset, .unset, .unset, .unset, .unset, .unset, .unset, .unset, .unset, .unset] (by decide) (hb hby at_45) rfl rfl rfl ?_
      exact J3 (2 : Int32) (own_lnB vv (1 : Int32) (2 : Int32) 1 (own_ln0 vv) h332 (by decide) (by decide) (by decide))
  refine own_if_eq X0 hx 18 14 (hb hby at_11) (by decide) (by decide) rfl (fun h333 => ?_) (fun h333 => ?_)
  · show own_W p e below _ T0 (mkF m 18 #[.val (.long q0), .second, .val (.int p1), .val (.int p2), .val (.int p3), .val (.int p4), .val (.int p5), .val (.long vv), .second, .unset, .unset, .unset, .unset, .unset, .unset, .unset, .unset, .unset, .unset, .unset, .unset, .unset, .unset, .unset] [])
    refine own_iconst X0 hx 19 (0 : Int32) (by decide) (hb hby at_18) rfl ?_
    exact J1 (0 : Int32) (by decide)
  · show own_W p e below _ T0 (mkF m 14 #[.val (.long q0), .second, .val (.int p1), .val (.int p2), .val (.int p3), .val (.int p4), .val (.int p5), .val (.long vv), .second, .unset, .unset, .unset, .unset, .unset, .unset, .unset, .unset, .unset, .unset, .unset, .unset, .unset, .unset, .unset] [])
    refine own_iconst X0 hx 15 (1 : Int32) (by decide) (hb hby at_14) rfl ?_
    refine own_goto X0 hx 19 (hb hby at_15) (by decide) (by decide) ?_
    exact J1 (1 : Int32) (by decide)
set_option maxRecDepth 65536 in
set_option maxHeartbeats 40000000 in
theorem comes_1 {Post : Tables → Env → Array Value → State → Outcome → State → Prop} (hpost : ∀ tb e args s v u, (limb_1_1.after args s (.returned v) u = true ∧ limb_1_2.after args s (.returned v) u = true ∧ True) → FrameEnd s (.returned v) u (Jvm.fieldLocs frame_1_writes args s ++ Jvm.arrayLocs frame_1_arrays args s ++ Jvm.staticLocs frame_1_statics s) 16 128 → Post tb e args s (.returned v) u) :
    ArmFor flags0 classFile x code maxLocals ret World_1 tables_1 room_1 Calls_1 rest_1 Pre_1 Post := by
  intro l hfl _ _ p e ha hc hk s m args below hf hA hF happ hP
  obtain ⟨hcalls, hrest, hpre⟩ := hP
  obtain ⟨-, -, -, hnamed, -, -, -, hat⟩ := (Spec.applies_iff hf).mp happ
  obtain ⟨hg, hn⟩ := and_e (Cond.before_iff.mp (show (Jvm.Cond.and given_1 narrow_1).before args s = true from hpre))
  obtain ⟨g0, gr0⟩ := and_e hg
  obtain ⟨g1, gr1⟩ := and_e gr0
  obtain ⟨g2, gr2⟩ := and_e gr1
  obtain ⟨g3, gr3⟩ := and_e gr2
  obtain ⟨g4, gr4⟩ := and_e gr3
  obtain ⟨g5, gr5⟩ := and_e gr4
  obtain ⟨w0, w1, w2, w3, w4, w5, rfl⟩ : ∃ w0 w1 w2 w3 w4 w5 : Value, args = #[w0, w1, w2, w3, w4, w5] := by
    have hs : args.size = 6 := by simpa [Cond.value, given_1] using g0
    obtain ⟨L⟩ := args
    match L, hs with
    | [w0, w1, w2, w3, w4, w5], _ => exact ⟨w0, w1, w2, w3, w4, w5, rfl⟩
  have hw := fun d (hd : d ∈ tables_1) => atoms_spec (ws := Jvm.Cond.code x code maxLocals ret :: tables_1) hat d (List.mem_cons_of_mem _ hd)
  obtain ⟨i0, ei0⟩ := isL_v g1
  obtain rfl : w0 = (.long i0) := Option.some.inj ei0
  obtain ⟨i1, ei1⟩ := is_v g2
  obtain rfl : w1 = (.int i1) := Option.some.inj ei1
  obtain ⟨i2, ei2⟩ := is_v g3
  obtain rfl : w2 = (.int i2) := Option.some.inj ei2
  obtain ⟨i3, ei3⟩ := is_v g4
  obtain rfl : w3 = (.int i3) := Option.some.inj ei3
  obtain ⟨i4, ei4⟩ := is_v g5
  obtain rfl : w4 = (.int i4) := Option.some.inj ei4
  obtain ⟨i5, ei5⟩ := is_v gr5
  obtain rfl : w5 = (.int i5) := Option.some.inj ei5
  obtain ⟨n, o, h1, h2, h3, _, L, rfl, ⟨rfl, N⟩, hq⟩ := rm0 l s _ hw i0 i1 i2 i3 i4 i5 s.heap s.heap.size (Nat.le_refl _) p e ha hc hk s m _ below hf ((Spec.applies_iff_loose hf).mp happ).1 ⟨rfl, State.Warmed39.refl s, rfl⟩ trivial
  refine ⟨n, _, h1, h2, h3, hpost _ _ _ _ _ _ ⟨Cond.after_iff.mpr rfl, Cond.after_iff.mpr (eq_i res_at (Term.int_eval (1)) rfl), trivial⟩ ⟨hq.1, hq.2.1, (hq.2.2.sift fun y hy => Or.inr (N y hy)).mono (by decide) (by decide)⟩⟩
theorem main_1_1 : Claimed_1_1 := comes_1 fun _ _ _ _ _ _ h hF => ⟨h.1, hF⟩
theorem main_1_2 : Claimed_1_2 := comes_1 fun _ _ _ _ _ _ h hF => ⟨h.2.1, hF⟩
end Jvm.Pilot.@@N@@
namespace Jvm.Pilot.@@N@@
open Jvm Jvm.ClassFile Sem Op Lib Jvm.Free Jvm.Stand Jvm.Pilot.@@N@@.Jvm.D
/-! MADE BY PROGRAM (witnessworld.py) out of the Statement's table words and the real class files: 10 classes; the members and pool entries that the words name. The judged class is class 1, her method 1. -/
namespace start1
open Jvm.ClassFile
def u (s : String) : CpInfo := .utf8 (stringToUtf16 s)
/-- a pool by its gaps: so many unusable entries, then the entry; so many at the end -/
def gap : Nat → List CpInfo → List CpInfo
  | 0, r => r
  | n + 1, r => .unusable :: gap n r
def poolList (es : List (Nat × CpInfo)) (last : Nat) : List CpInfo := es.foldr (fun e r => gap e.1 (e.2 :: r)) (gap last [])
def pool (es : List (Nat × CpInfo)) (last : Nat) : Array CpInfo := ⟨poolList es last⟩
def fileOf (pool : Array CpInfo) (this : Nat) (attrs : Array Attribute := #[]) (ms : Array MethodInfo := #[]) (fl : Nat := 33) (sup : Nat := 0) (ifs : Array Nat := #[]) (fds : Array FieldInfo := #[]) : ClassFile where
  minorVersion := 0
  majorVersion := 65
  constantPool := pool
  accessFlags := fl
  thisClass := this
  superClass := sup
  interfaces := ifs
  fields := fds
  methods := ms
  attributes := attrs
def plain (name : String) (sup : Option ClassId) : Class where
  name := name
  kind := .ordinary
  loader := none
  accessFlags := 33
  super := sup
  interfaces := #[]
  cf := none
  fields := #[]
  methods := #[]
  instanceTypes := #[]
  staticTypes := #[]
  resolved := #[]
  callSites := []
  init := .initialized
  statics := none
  mirror := none

def pool0 : Array CpInfo := pool [(5, u "<init>"), (0, u "()V"), (1, .class_ 10), (1, u "java/lang/Object")] 113

def k0c0 : Code := { maxStack := 0, maxLocals := 1, code := object_method_1_code, exceptionTable := #[], attributes := #[] }
def k0m0 : Method := { name := "<init>", desc := "()V", sig := { parameters := [], returnType := none }, accessFlags := 1, code := some k0c0 }
/-- java/lang/Object -/
def k0 : Class := { plain "java/lang/Object" none with
  accessFlags := 33
  interfaces := #[]
  cf := some (fileOf pool0 8 #[] #[{ accessFlags := 1, nameIndex := 5, descriptorIndex := 6, attributes := #[] }] 33 0 #[] #[])
  fields := #[]
  methods := #[k0m0]
  instanceTypes := #[]
  staticTypes := #[]
  resolved := Array.replicate 124 none
  statics := none }

def pool1 : Array CpInfo := pool [(2, .class_ 4), (1, u "java/lang/Object"), (0, u "<init>"), (0, u "()V"), (0, .long 9223372036854775807), (1, .long 128), (1, .long 16384), (1, .long 2097152), (1, .long 268435456), (1, .long 34359738368), (1, .long 4398046511104), (1, .long 562949953421312), (1, .long 72057594037927936), (1, .integer 2147483647), (0, .methodref 27 28), (0, .class_ 29), (0, .nameAndType 30 31), (0, u "java/lang/Math"), (0, u "min"), (0, u "(II)I"), (0, .methodref 33 34), (0, .class_ 35), (0, .nameAndType 36 37), (0, u "indaga/index/CursorVarlongPinLaw"), (0, u "put"), (0, u "([BIJII)V"), (0, .class_ 39), (0, u "indaga/index/Cursor"), (0, .methodref 38 41), (0, .nameAndType 5 42), (0, u "([BII)V"), (0, .methodref 38 44), (0, .nameAndType 45 46), (0, u "varlong"), (0, u "()J"), (0, .methodref 38 48), (0, .nameAndType 49 50), (0, u "at"), (0, u "()I"), (0, .long 18446744073709551615), (1, .long 127), (3, u "law"), (0, u "(JIIIII)Z")] 5

def k1m0 : Method := { name := "<init>", desc := "()V", sig := { parameters := [], returnType := none }, accessFlags := 1, code := none }
def k1c1 : Code := { maxStack := 6, maxLocals := 24, code := code, exceptionTable := #[], attributes := #[] }
def k1m1 : Method := { name := "law", desc := "(JIIIII)Z", sig := { parameters := [.long, .int, .int, .int, .int, .int], returnType := some .boolean }, accessFlags := 9, code := some k1c1 }
def k1c2 : Code := { maxStack := 7, maxLocals := 6, code := method_3_code, exceptionTable := #[], attributes := #[] }
def k1m2 : Method := { name := "put", desc := "([BIJII)V", sig := { parameters := [(.array .byte), .int, .long, .int, .int], returnType := none }, accessFlags := 10, code := some k1c2 }
/-- indaga/index/CursorVarlongPinLaw -/
def k1 : Class := { plain "indaga/index/CursorVarlongPinLaw" (some 0) with
  accessFlags := 49
  interfaces := #[]
  cf := some (fileOf pool1 33 #[] #[{ accessFlags := 1, nameIndex := 5, descriptorIndex := 6, attributes := #[] }, { accessFlags := 9, nameIndex := 57, descriptorIndex := 58, attributes := #[] }, { accessFlags := 10, nameIndex := 36, descriptorIndex := 37, attributes := #[] }] 49 2 #[] #[])
  fields := #[]
  methods := #[k1m0, k1m1, k1m2]
  instanceTypes := #[]
  staticTypes := #[]
  resolved := Array.replicate 64 none
  statics := none }

def pool2 : Array CpInfo := pool [(1, .class_ 2), (0, u "java/lang/Math"), (1, .class_ 6), (1, u "java/lang/Object"), (0, u "<init>"), (0, u "()V"), (89, .class_ 100), (1, u "java/lang/Math$RandomNumberGeneratorHolder"), (71, u "negativeZeroFloatBits"), (0, u "J"), (2, u "negativeZeroDoubleBits"), (24, u "min"), (43, u "$assertionsDisabled"), (0, u "Z"), (88, u "(II)I"), (2, u "twoToTheDoubleScaleDown"), (0, u "D"), (4, u "twoToTheDoubleScaleUp"), (9, u "E"), (3, u "PI"), (2, u "TAU"), (2, u "DEGREES_TO_RADIANS"), (0, u "RADIANS_TO_DEGREES")] 94

def k2m0 : Method := { name := "<init>", desc := "()V", sig := { parameters := [], returnType := none }, accessFlags := 2, code := none }
def k2c1 : Code := { maxStack := 2, maxLocals := 2, code := jdk_29_method_69_code, exceptionTable := #[], attributes := #[] }
def k2m1 : Method := { name := "min", desc := "(II)I", sig := { parameters := [.int, .int], returnType := some .int }, accessFlags := 9, code := some k2c1 }
/-- java/lang/Math -/
def k2 : Class := { plain "java/lang/Math" (some 0) with
  accessFlags := 49
  interfaces := #[]
  cf := some (fileOf pool2 1 #[.nestMembers #[98]] #[{ accessFlags := 2, nameIndex := 7, descriptorIndex := 8, attributes := #[] }, { accessFlags := 9, nameIndex := 201, descriptorIndex := 335, attributes := #[] }] 49 4 #[] #[{ accessFlags := 25, nameIndex := 354, descriptorIndex := 339, attributes := #[] }, { accessFlags := 25, nameIndex := 358, descriptorIndex := 339, attributes := #[] }, { accessFlags := 25, nameIndex := 361, descriptorIndex := 339, attributes := #[] }, { accessFlags := 26, nameIndex := 364, descriptorIndex := 339, attributes := #[] }, { accessFlags := 26, nameIndex := 365, descriptorIndex := 339, attributes := #[] }, { accessFlags := 26, nameIndex := 172, descriptorIndex := 173, attributes := #[] }, { accessFlags := 26, nameIndex := 176, descriptorIndex := 173, attributes := #[] }, { accessFlags := 8, nameIndex := 344, descriptorIndex := 339, attributes := #[] }, { accessFlags := 8, nameIndex := 338, descriptorIndex := 339, attributes := #[] }, { accessFlags := 4120, nameIndex := 245, descriptorIndex := 246, attributes := #[] }])
  fields := #[{ name := "E", type := .double, accessFlags := 25, slot := 0, constantValue := 0 }, { name := "PI", type := .double, accessFlags := 25, slot := 1, constantValue := 0 }, { name := "TAU", type := .double, accessFlags := 25, slot := 2, constantValue := 0 }, { name := "DEGREES_TO_RADIANS", type := .double, accessFlags := 26, slot := 3, constantValue := 0 }, { name := "RADIANS_TO_DEGREES", type := .double, accessFlags := 26, slot := 4, constantValue := 0 }, { name := "negativeZeroFloatBits", type := .long, accessFlags := 26, slot := 5, constantValue := 0 }, { name := "negativeZeroDoubleBits", type := .long, accessFlags := 26, slot := 6, constantValue := 0 }, { name := "twoToTheDoubleScaleUp", type := .double, accessFlags := 8, slot := 7, constantValue := 0 }, { name := "twoToTheDoubleScaleDown", type := .double, accessFlags := 8, slot := 8, constantValue := 0 }, { name := "$assertionsDisabled", type := .boolean, accessFlags := 4120, slot := 9, constantValue := 0 }]
  methods := #[k2m0, k2m1]
  instanceTypes := #[]
  staticTypes := #[.double, .double, .double, .double, .double, .long, .long, .double, .double, .boolean]
  resolved := Array.replicate 460 none
  statics := none }

def pool3 : Array CpInfo := pool [(1, .methodref 2 3), (0, .class_ 4), (0, .nameAndType 5 6), (0, u "java/lang/Object"), (0, u "<init>"), (0, u "()V"), (0, .fieldref 8 9), (0, .class_ 10), (0, .nameAndType 11 12), (0, u "indaga/index/Cursor"), (0, u "bytes"), (0, u "[B"), (0, .fieldref 8 14), (0, .nameAndType 15 16), (0, u "at"), (0, u "I"), (0, .fieldref 8 18), (0, .nameAndType 19 16), (0, u "end"), (9, u "()I"), (8, u "([BII)V"), (0, .long 18446744073709551615), (3, u "varlong"), (0, u "()J"), (6, u "LONGS"), (0, u "Ljava/lang/invoke/VarHandle;")] 39

def k3c0 : Code := { maxStack := 2, maxLocals := 4, code := prog_37_method_1_code, exceptionTable := #[], attributes := #[] }
def k3m0 : Method := { name := "<init>", desc := "([BII)V", sig := { parameters := [(.array .byte), .int, .int], returnType := none }, accessFlags := 0, code := some k3c0 }
def k3c1 : Code := { maxStack := 1, maxLocals := 1, code := prog_37_method_3_code, exceptionTable := #[], attributes := #[] }
def k3m1 : Method := { name := "at", desc := "()I", sig := { parameters := [], returnType := some .int }, accessFlags := 16, code := some k3c1 }
def k3c2 : Code := { maxStack := 5, maxLocals := 5, code := prog_37_method_5_code, exceptionTable := #[], attributes := #[] }
def k3m2 : Method := { name := "varlong", desc := "()J", sig := { parameters := [], returnType := some .long }, accessFlags := 16, code := some k3c2 }
/-- indaga/index/Cursor -/
def k3 : Class := { plain "indaga/index/Cursor" (some 0) with
  accessFlags := 32
  interfaces := #[]
  cf := some (fileOf pool3 8 #[] #[{ accessFlags := 0, nameIndex := 5, descriptorIndex := 38, attributes := #[] }, { accessFlags := 16, nameIndex := 15, descriptorIndex := 29, attributes := #[] }, { accessFlags := 16, nameIndex := 43, descriptorIndex := 44, attributes := #[] }] 32 2 #[] #[{ accessFlags := 26, nameIndex := 51, descriptorIndex := 52, attributes := #[] }, { accessFlags := 18, nameIndex := 11, descriptorIndex := 12, attributes := #[] }, { accessFlags := 18, nameIndex := 19, descriptorIndex := 16, attributes := #[] }, { accessFlags := 2, nameIndex := 15, descriptorIndex := 16, attributes := #[] }])
  fields := #[{ name := "LONGS", type := (.object "java/lang/invoke/VarHandle"), accessFlags := 26, slot := 0, constantValue := 0 }, { name := "bytes", type := (.array .byte), accessFlags := 18, slot := 0, constantValue := 0 }, { name := "end", type := .int, accessFlags := 18, slot := 1, constantValue := 0 }, { name := "at", type := .int, accessFlags := 2, slot := 2, constantValue := 0 }]
  methods := #[k3m0, k3m1, k3m2]
  instanceTypes := #[(.array .byte), .int, .int]
  staticTypes := #[(.object "java/lang/invoke/VarHandle")]
  resolved := Array.replicate 92 none
  statics := none }

def pool4 : Array CpInfo := pool [(1, u "java/lang/Cloneable"), (0, .class_ 1), (0, u "java/lang/Object"), (0, .class_ 3)] 3

/-- java/lang/Cloneable -/
def k4 : Class := { plain "java/lang/Cloneable" (some 0) with
  accessFlags := 1537
  interfaces := #[]
  cf := some (fileOf pool4 2 #[] #[] 1537 4 #[] #[])
  fields := #[]
  methods := #[]
  instanceTypes := #[]
  staticTypes := #[]
  resolved := Array.replicate 8 none
  statics := none }

def pool5 : Array CpInfo := pool [(1, u "java/io/Serializable"), (0, .class_ 1), (0, u "java/lang/Object"), (0, .class_ 3)] 3

/-- java/io/Serializable -/
def k5 : Class := { plain "java/io/Serializable" (some 0) with
  accessFlags := 1537
  interfaces := #[]
  cf := some (fileOf pool5 2 #[] #[] 1537 4 #[] #[])
  fields := #[]
  methods := #[]
  instanceTypes := #[]
  staticTypes := #[]
  resolved := Array.replicate 8 none
  statics := none }

/-- the primitive byte -/
def k6 : Class := { plain "byte" none with kind := .primitive 'B', accessFlags := 0x411 }
/-- [B -/
def k7 : Class := { plain "[B" (some 0) with kind := .array 6 .byte, interfaces := #[4, 5], accessFlags := 1041 }

/-- the primitive int -/
def k8 : Class := { plain "int" none with kind := .primitive 'I', accessFlags := 0x411 }
/-- [I -/
def k9 : Class := { plain "[I" (some 0) with kind := .array 8 .int, interfaces := #[4, 5], accessFlags := 1041 }

def heap : Heap := #[]
def classes : Array Class := #[k0, k1, k2, k3, k4, k5, k6, k7, k8, k9]
def interned : List (Array UInt16 × Addr) := []
def slotsUsed : Nat := 0
def theMethod : MethodId := ⟨1, 1⟩
def args0 : Array Value := #[.long 7, .int 8, .int 9, .int 1, .int 2, .int 3]
def aboutOver (below : List Frame) : State where
  vm := { classes := classes, interned := interned.toArray }
  heap := heap
  slotsUsed := slotsUsed
  threads := #[{ frames := .invoking theMethod args0 :: below }]
def below0 : List Frame := [.native { method := ⟨0, 0⟩, args := #[] }]
def about1 : State := aboutOver below0
def p0 : Program := .bare "" "" ""
def e0 : Env := launch0.env 0 0 0
theorem w_frames : about1.frames = Frame.invoking theMethod args0 :: below0 := rfl
set_option maxRecDepth 65536 in
theorem w_args : argsFit about1.vm theMethod args0 = true := by decide +kernel
set_option maxRecDepth 65536 in
theorem w_heap : heapFits about1 = true := by decide +kernel
set_option maxRecDepth 65536 in
theorem w_runnable : about1.curStatus? = some .runnable := by decide +kernel
set_option maxRecDepth 65536 in
theorem w_alone : about1.alone = true := by decide +kernel
set_option maxRecDepth 65536 in
theorem w_named : about1.methodNamed? x = some theMethod := by decide +kernel
set_option maxRecDepth 65536 in
theorem w_hears : about1.hears theMethod below0 = true := by decide +kernel
set_option maxRecDepth 65536 in
theorem w_ripe : about1.ripe theMethod args0 below0 = true := by decide +kernel
theorem w_running : about1.status = .running := rfl
set_option maxRecDepth 65536 in
theorem w_room : about1.hasRoom e0.platform room_1 = true :=
  launch0.hasRoom_least _ room_1 (by decide +kernel) (by decide +kernel) (by decide +kernel) (by decide +kernel) (by decide +kernel) (by decide +kernel)
theorem allAtoms_all (ts : List Jvm.Cond) (a : Array Jvm.Value) (st : Jvm.State) : (allAtoms ts).before a st = ts.all (fun c => c.before a st) := by
  induction ts with
  | nil => rfl
  | cons c t ih =>
    show (Jvm.Cond.and c (allAtoms t)).before a st = _
    rw [Jvm.Cond.before_and, ih, List.all_cons]
def words1 : List Jvm.Cond := Jvm.Cond.code x code maxLocals ret :: tables_1
/-- a 'code' word, met by the world's own term for the bytes: nothing is compared byte by byte -/
theorem code_word {y : MethodName} {bytes : ByteArray} {mx : Nat} {rt : Option FieldType} {a : Array Value} {s : State} {m : MethodId} {meth : Method} {c : Code} (h1 : s.methodNamed? y = some m) (h2 : s.vm.method? m = some meth) (h3 : meth.code = some c) (h4 : c.code = bytes)
    (h5 : (c.maxLocals == mx && c.exceptionTable.isEmpty && decide (c.maxStack ≤ mostOperands) && decide (meth.sig.returnType = rt) && !meth.locks && decide (parseMethodDescriptor y.desc = some meth.sig)) = true) : (Jvm.Cond.code y bytes mx rt).before a s = true := by
  simp only [Bool.and_eq_true, beq_iff_eq, Bool.not_eq_true', decide_eq_true_eq] at h5
  obtain ⟨⟨⟨⟨⟨g1, g2⟩, g3⟩, g4⟩, g5⟩, g6⟩ := h5
  simp [Cond.before, Cond.holds, Cond.value, h1, h2, h3, h4, g1, g2, g3, g4, g5, g6]
def isCode : Jvm.Cond → Bool
  | .code _ _ _ _ => true
  | _ => false
theorem all_split {L : List Jvm.Cond} {P : Jvm.Cond → Bool} (h1 : L.all (fun c => isCode c || P c) = true) (h2 : ∀ c ∈ L.filter isCode, P c = true) : L.all P = true := by
  refine List.all_eq_true.mpr fun c hc => ?_
  have h := List.all_eq_true.mp h1 c hc
  rcases Bool.eq_false_or_eq_true (isCode c) with hi | hi
  · exact h2 c (List.mem_filter.mpr ⟨hc, hi⟩)
  · simpa [hi] using h
set_option maxRecDepth 65536 in
theorem w_c0 : (Jvm.Cond.code x code maxLocals ret).before args0 about1 = true := code_word (m := ⟨1, 1⟩) (meth := k1m1) (c := k1c1) (by decide +kernel) rfl rfl rfl (by decide +kernel)
set_option maxRecDepth 65536 in
theorem w_c1 : (Jvm.Cond.code ({ cls := "java/lang/Math", name := "min", desc := "(II)I" } : Jvm.MethodName) jdk_29_method_69_code (2 : Nat) (Option.some Jvm.ClassFile.FieldType.int)).before args0 about1 = true := code_word (m := ⟨2, 1⟩) (meth := k2m1) (c := k2c1) (by decide +kernel) rfl rfl rfl (by decide +kernel)
set_option maxRecDepth 65536 in
theorem w_c2 : (Jvm.Cond.code ({ cls := "indaga/index/CursorVarlongPinLaw", name := "put", desc := "([BIJII)V" } : Jvm.MethodName) method_3_code (6 : Nat) (Option.none : Option Jvm.ClassFile.FieldType)).before args0 about1 = true := code_word (m := ⟨1, 2⟩) (meth := k1m2) (c := k1c2) (by decide +kernel) rfl rfl rfl (by decide +kernel)
set_option maxRecDepth 65536 in
theorem w_c3 : (Jvm.Cond.code ({ cls := "indaga/index/Cursor", name := "<init>", desc := "([BII)V" } : Jvm.MethodName) prog_37_method_1_code (4 : Nat) (Option.none : Option Jvm.ClassFile.FieldType)).before args0 about1 = true := code_word (m := ⟨3, 0⟩) (meth := k3m0) (c := k3c0) (by decide +kernel) rfl rfl rfl (by decide +kernel)
set_option maxRecDepth 65536 in
theorem w_c4 : (Jvm.Cond.code ({ cls := "java/lang/Object", name := "<init>", desc := "()V" } : Jvm.MethodName) object_method_1_code (1 : Nat) (Option.none : Option Jvm.ClassFile.FieldType)).before args0 about1 = true := code_word (m := ⟨0, 0⟩) (meth := k0m0) (c := k0c0) (by decide +kernel) rfl rfl rfl (by decide +kernel)
set_option maxRecDepth 65536 in
theorem w_c5 : (Jvm.Cond.code ({ cls := "indaga/index/Cursor", name := "varlong", desc := "()J" } : Jvm.MethodName) prog_37_method_5_code (5 : Nat) (Option.some Jvm.ClassFile.FieldType.long)).before args0 about1 = true := code_word (m := ⟨3, 2⟩) (meth := k3m2) (c := k3c2) (by decide +kernel) rfl rfl rfl (by decide +kernel)
set_option maxRecDepth 65536 in
theorem w_c6 : (Jvm.Cond.code ({ cls := "indaga/index/Cursor", name := "at", desc := "()I" } : Jvm.MethodName) prog_37_method_3_code (1 : Nat) (Option.some Jvm.ClassFile.FieldType.int)).before args0 about1 = true := code_word (m := ⟨3, 1⟩) (meth := k3m1) (c := k3c1) (by decide +kernel) rfl rfl rfl (by decide +kernel)
def codes1 : List Jvm.Cond := [Jvm.Cond.code x code maxLocals ret, Jvm.Cond.code ({ cls := "java/lang/Math", name := "min", desc := "(II)I" } : Jvm.MethodName) jdk_29_method_69_code (2 : Nat) (Option.some Jvm.ClassFile.FieldType.int), Jvm.Cond.code ({ cls := "indaga/index/CursorVarlongPinLaw", name := "put", desc := "([BIJII)V" } : Jvm.MethodName) method_3_code (6 : Nat) (Option.none : Option Jvm.ClassFile.FieldType), Jvm.Cond.code ({ cls := "indaga/index/Cursor", name := "<init>", desc := "([BII)V" } : Jvm.MethodName) prog_37_method_1_code (4 : Nat) (Option.none : Option Jvm.ClassFile.FieldType), Jvm.Cond.code ({ cls := "java/lang/Object", name := "<init>", desc := "()V" } : Jvm.MethodName) object_method_1_code (1 : Nat) (Option.none : Option Jvm.ClassFile.FieldType), Jvm.Cond.code ({ cls := "indaga/index/Cursor", name := "varlong", desc := "()J" } : Jvm.MethodName) prog_37_method_5_code (5 : Nat) (Option.some Jvm.ClassFile.FieldType.long), Jvm.Cond.code ({ cls := "indaga/index/Cursor", name := "at", desc := "()I" } : Jvm.MethodName) prog_37_method_3_code (1 : Nat) (Option.some Jvm.ClassFile.FieldType.int)]
set_option maxRecDepth 65536 in
theorem codes_eq : words1.filter isCode = codes1 := rfl
theorem w_codes : ∀ c ∈ words1.filter isCode, c.before args0 about1 = true := by
  rw [codes_eq]
  intro c hc
  simp only [codes1, List.mem_cons, List.not_mem_nil, or_false] at hc
  rcases hc with rfl | rfl | rfl | rfl | rfl | rfl | rfl
  · exact w_c0
  · exact w_c1
  · exact w_c2
  · exact w_c3
  · exact w_c4
  · exact w_c5
  · exact w_c6
set_option maxRecDepth 65536 in
theorem w_t1 : (words1.take 24).all (fun c => isCode c || c.before args0 about1) = true := by decide +kernel
set_option maxRecDepth 65536 in
theorem w_t2 : (words1.drop 24).all (fun c => isCode c || c.before args0 about1) = true := by decide +kernel
theorem w_tables : (allAtoms (Jvm.Cond.code x code maxLocals ret :: tables_1)).before args0 about1 = true := by
  rw [allAtoms_all]
  show words1.all (fun c => c.before args0 about1) = true
  refine all_split ?_ w_codes
  rw [← List.take_append_drop 24 words1, List.all_append, w_t1, w_t2]
  rfl
set_option maxRecDepth 65536 in
theorem w_case : (Jvm.Cond.and given_1 narrow_1).before args0 about1 = true := by decide +kernel
theorem w_applies : (headSpec (Jvm.Cond.code x code maxLocals ret :: tables_1) room_1).applies x e0.platform about1 = true :=
  (Spec.applies_iff w_frames).mpr ⟨w_running, w_runnable, w_alone, w_named, w_hears, w_ripe, w_room, w_tables⟩
theorem atStart : AtStart classFile x code maxLocals ret World_1 tables_1 room_1 Calls_1 rest_1 Pre_1 launch0 p0 e0 about1 theMethod args0 below0 :=
  ⟨lists_1, trivial, launch0.admits_env _ _ _, launch0.least_env, fairChoices_fair.cas, fairChoices_fair.clock, w_frames, w_args, w_heap, w_applies, trivial, trivial, w_case⟩
end start1
theorem witness_1 : WitnessClaimed_1 := ⟨start1.p0, start1.e0, start1.about1, start1.theMethod, start1.args0, start1.below0, start1.atStart⟩
end Jvm.Pilot.@@N@@
