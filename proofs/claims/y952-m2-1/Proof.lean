import JvmDerived
import JvmDerived.Pilot.@@N@@Statement
import JvmDerived.Pilot.@@N@@Code
set_option linter.unusedVariables false
set_option linter.unusedSimpArgs false
namespace Jvm.RoadKit
open Sem ClassFile Op Lib Jvm.Stand Jvm.Free Jvm.LawKit
section New
variable {p : Program} {l : Launch} {e : Env} {R : Room} {s : State} {m : MethodId} {args : Array Value} {below : List Frame} {meth : Method} {c : Code} {T : State} {locs : List Loc} {cells slots : Nat}
theorem retI (X : Stand p l e R s m args below meth c T locs cells slots) (hx : p.tables.exec = Jvm.exec) {pc : Nat} {Ls : Array Slot} {z : Int32} {rest : List Value} (hret : meth.sig.returnType = some .int) (hd : decode c.code pc = .ok (.ireturn, 1)) {fs : List Frame}
    (hl : ∀ (f : JFrame) (acts : List Action), f.method = m → f.locked = none → f.entered = [] → (doReturn e (T.setTop f) acts (some (.int z))).1 = T.setFrames fs) : Steps p.tables e below (T.setTop (mkF m pc Ls (.int z :: rest))) (T.setFrames fs) := by
  have hm' : T.vm.method? m = some meth := X.method'
  have hn : narrow .int (.int z) = .int z := rfl
  show Steps p.tables e below (T.setTop { method := m, pc := pc, locals := Ls, stack := _ :: rest, locked := none }) _
  jvm_step X.here [X.here.top, hx, hd, hm', hret, hn]
  first | (intro acts; rw [hl _ acts rfl rfl rfl]) | rw [hl _ _ rfl rfl rfl]
  exact Steps.refl _
end New
end Jvm.RoadKit
namespace Jvm.Pilot.@@N@@
open Jvm Jvm.ClassFile Sem Op Lib Jvm.Free Jvm.Stand Jvm.LawKit Jvm.RoadKit Bundle Jvm.Pilot.@@N@@.Jvm.D
section OwnLayer
variable {p : Program} {l : Launch} {e : Env} {R : Room} {s : State} {m : MethodId} {args : Array Value} {below : List Frame} {meth : Method} {c : Code} {T : State} {locs : List Loc} {cells slots : Nat} {Z : State} {a0 : Array Value} {h h' : Heap} {K : State → Outcome → Prop} {Q : Option Value → Heap → List Loc → Prop} {pc : Nat} {Ls : Array Slot} {S : List Value} {own : String} {index : Nat} {y : MethodName} {bytes : ByteArray} {maxL : Nat} {ret : Option FieldType} {rm : Room} {as' : Array Value} {h0 : Heap} {ws : List Jvm.Cond}
/-- from here the body comes to its end, and K holds of it -/
def own_W (p : Program) (e : Env) (below : List Frame) (K : State → Outcome → Prop) (T : State) (f : JFrame) : Prop :=
  ∃ s₂ o, Steps p.tables e below (T.setTop f) s₂ ∧ s₂.status = .running ∧ Ended s₂ below o ∧ K s₂ o
def own_K (s : State) (R : Room) (Q : Option Value → Heap → List Loc → Prop) (s₂ : State) (o : Outcome) : Prop :=
  ∃ v L, o = .returned v ∧ Q v s₂.heap L ∧ FrameEnd s o s₂ L R.cells R.slots
/-- a body's contract -/
def own_C (l : Launch) (Z : State) (y : MethodName) (bytes : ByteArray) (maxL : Nat) (ret : Option FieldType) (ws : List Jvm.Cond) (rm : Room) (as' : Array Value) (h0 : Heap) (Q : Option Value → Heap → List Loc → Prop) : Prop :=
  MetFree l y (head1 (Jvm.Cond.code y bytes maxL ret :: ws) rm) (fun a U => a = as' ∧ Z.Warmed39 U.vm ∧ U.heap = h0) (fun _ _ _ _ _ => True) (fun _ U o U' => ∃ v L, o = .returned v ∧ Q v U'.heap L ∧ FrameEnd U o U' L rm.cells rm.slots)
theorem own_bodyF (hpl : plainFor y = true)
    (body : ∀ (p : Program) (e : Env) (s : State) (m : MethodId) (below : List Frame) (meth : Method) (c : Code) (T : State), p.tables.exec = Jvm.exec → c.code = bytes → c.maxLocals = maxL → s.vm.findClass y.cls = some m.cls → meth.name = y.name → meth.sig.returnType = ret → meth.locks = false → Z.Warmed39 s.vm →
      Stand p l e rm s m as' below meth c T [] 0 0 → T.heap = h0 → own_W p e below (own_K s rm Q) T (entryFrame m as' maxL)) : own_C l Z y bytes maxL ret ws rm as' h0 Q := by
  refine MetFree.of_bodySF hpl hisR ?_
  intro p e s m args below meth c s₁ Bd hml0 hP hK
  obtain ⟨rfl, hZ, hh⟩ := hP
  exact body p e s m below meth c s₁ Bd.exec Bd.bytes hml0 (findClass_of_methodNamed Bd.named) (name_of_methodNamed Bd.named Bd.method).1 Bd.returns (BodyLoose.notSynchronized Bd) hZ (Stand.of_body Bd) (by rw [← hh, Bd.state]; rfl)
theorem own_body (hpn : plainName y.cls = true)
    (body : ∀ (p : Program) (e : Env) (s : State) (m : MethodId) (below : List Frame) (meth : Method) (c : Code) (T : State), p.tables.exec = Jvm.exec → c.code = bytes → c.maxLocals = maxL → s.vm.findClass y.cls = some m.cls → meth.name = y.name → meth.sig.returnType = ret → meth.locks = false → Z.Warmed39 s.vm →
      Stand p l e rm s m as' below meth c T [] 0 0 → T.heap = h0 → own_W p e below (own_K s rm Q) T (entryFrame m as' maxL)) : own_C l Z y bytes maxL ret ws rm as' h0 Q := own_bodyF (plainFor_of_name hpn) body
theorem own_s {f f' : JFrame} {T' : State} (hs : ∀ t, Steps p.tables e below (T'.setTop f') t → Steps p.tables e below (T.setTop f) t) (k : own_W p e below K T' f') : own_W p e below K T f := by
  obtain ⟨s₂, o, h1, r⟩ := k; exact ⟨s₂, o, hs _ h1, r⟩
theorem own_s' {f f' : JFrame} {T' : State} (hs : Steps p.tables e below (T.setTop f) (T'.setTop f')) (k : own_W p e below K T' f') : own_W p e below K T f := by
  obtain ⟨s₂, o, h1, r⟩ := k; exact ⟨s₂, o, hs.trans h1, r⟩
theorem own_eq {f f' : JFrame} (q : f = f') (k : own_W p e below K T f') : own_W p e below K T f := q ▸ k
section Plain
theorem own_iloadN (X : Stand p l e R s m args below meth c T locs cells slots) (hx : p.tables.exec = Jvm.exec) {i : Fin 4} {v : Int32} (pc' : Nat) (hd : decode c.code pc = .ok (.iload_n i, 1)) (hp : pc + 1 = pc') (hl : Ls[i.val]? = some (.val (.int v))) (k : own_W p e below K T (mkF m pc' Ls (.int v :: S))) : own_W p e below K T (mkF m pc Ls S) := by subst hp; exact own_s (fun _ => XS.iloadN X.here hx rfl hd hl) k
theorem own_iload (X : Stand p l e R s m args below meth c T locs cells slots) (hx : p.tables.exec = Jvm.exec) {i : Nat} {v : Int32} (pc' : Nat) (hd : decode c.code pc = .ok (.iload i, 2)) (hp : pc + 2 = pc') (hl : Ls[i]? = some (.val (.int v))) (k : own_W p e below K T (mkF m pc' Ls (.int v :: S))) : own_W p e below K T (mkF m pc Ls S) := by subst hp; exact own_s (fun _ => XS.iload X.here hx rfl hd hl) k
theorem own_lloadN (X : Stand p l e R s m args below meth c T locs cells slots) (hx : p.tables.exec = Jvm.exec) {i : Fin 4} {v : Int64} (pc' : Nat) (hd : decode c.code pc = .ok (.lload_n i, 1)) (hp : pc + 1 = pc') (hl : Ls[i.val]? = some (.val (.long v))) (k : own_W p e below K T (mkF m pc' Ls (.long v :: S))) : own_W p e below K T (mkF m pc Ls S) := by subst hp; exact own_s (fun _ => XS.lloadN X.here hx rfl hd hl) k
theorem own_lload (X : Stand p l e R s m args below meth c T locs cells slots) (hx : p.tables.exec = Jvm.exec) {i : Nat} {v : Int64} (pc' : Nat) (hd : decode c.code pc = .ok (.lload i, 2)) (hp : pc + 2 = pc') (hl : Ls[i]? = some (.val (.long v))) (k : own_W p e below K T (mkF m pc' Ls (.long v :: S))) : own_W p e below K T (mkF m pc Ls S) := by subst hp; exact own_s (fun _ => XS.lload X.here hx rfl hd hl) k
theorem own_aloadN (X : Stand p l e R s m args below meth c T locs cells slots) (hx : p.tables.exec = Jvm.exec) {i : Fin 4} {v : Addr} (pc' : Nat) (hd : decode c.code pc = .ok (.aload_n i, 1)) (hp : pc + 1 = pc') (hl : Ls[i.val]? = some (.val (.ref v))) (k : own_W p e below K T (mkF m pc' Ls (.ref v :: S))) : own_W p e below K T (mkF m pc Ls S) := by subst hp; exact own_s (fun _ => XS.aloadN X.here hx rfl hd hl rfl) k
theorem own_aload (X : Stand p l e R s m args below meth c T locs cells slots) (hx : p.tables.exec = Jvm.exec) {i : Nat} {v : Addr} (pc' : Nat) (hd : decode c.code pc = .ok (.aload i, 2)) (hp : pc + 2 = pc') (hl : Ls[i]? = some (.val (.ref v))) (k : own_W p e below K T (mkF m pc' Ls (.ref v :: S))) : own_W p e below K T (mkF m pc Ls S) := by subst hp; exact own_s (fun _ => XS.aload X.here hx rfl hd hl rfl) k
theorem own_istoreN (X : Stand p l e R s m args below meth c T locs cells slots) (hx : p.tables.exec = Jvm.exec) {i : Fin 4} {x y : Int32} (pc' : Nat) (l' : Array Slot) (hy : y = x) (hd : decode c.code pc = .ok (.istore_n i, 1)) (hp : pc + 1 = pc') (hl : storeLocals Ls i.val (.int y) = some l') (k : own_W p e below K T (mkF m pc' l' S)) : own_W p e below K T (mkF m pc Ls (.int x :: S)) := by subst hp hy; exact own_s (fun _ => XS.istoreN X.here hx rfl hd rfl hl) k
theorem own_istore (X : Stand p l e R s m args below meth c T locs cells slots) (hx : p.tables.exec = Jvm.exec) {i : Nat} {x y : Int32} (pc' : Nat) (l' : Array Slot) (hy : y = x) (hd : decode c.code pc = .ok (.istore i, 2)) (hp : pc + 2 = pc') (hl : storeLocals Ls i (.int y) = some l') (k : own_W p e below K T (mkF m pc' l' S)) : own_W p e below K T (mkF m pc Ls (.int x :: S)) := by subst hp hy; exact own_s (fun _ => XS.istore X.here hx rfl hd rfl hl) k
theorem own_lstoreN (X : Stand p l e R s m args below meth c T locs cells slots) (hx : p.tables.exec = Jvm.exec) {i : Fin 4} {x y : Int64} (pc' : Nat) (l' : Array Slot) (hy : y = x) (hd : decode c.code pc = .ok (.lstore_n i, 1)) (hp : pc + 1 = pc') (hl : storeLocals Ls i.val (.long y) = some l') (k : own_W p e below K T (mkF m pc' l' S)) : own_W p e below K T (mkF m pc Ls (.long x :: S)) := by subst hp hy; exact own_s (fun _ => XS.lstoreN X.here hx rfl hd rfl hl) k
theorem own_lstore (X : Stand p l e R s m args below meth c T locs cells slots) (hx : p.tables.exec = Jvm.exec) {i : Nat} {x y : Int64} (pc' : Nat) (l' : Array Slot) (hy : y = x) (hd : decode c.code pc = .ok (.lstore i, 2)) (hp : pc + 2 = pc') (hl : storeLocals Ls i (.long y) = some l') (k : own_W p e below K T (mkF m pc' l' S)) : own_W p e below K T (mkF m pc Ls (.long x :: S)) := by subst hp hy; exact own_s (fun _ => XS.lstore X.here hx rfl hd rfl hl) k
theorem own_astoreN (X : Stand p l e R s m args below meth c T locs cells slots) (hx : p.tables.exec = Jvm.exec) {i : Fin 4} {x y : Addr} (pc' : Nat) (l' : Array Slot) (hy : y = x) (hd : decode c.code pc = .ok (.astore_n i, 1)) (hp : pc + 1 = pc') (hl : storeLocals Ls i.val (.ref y) = some l') (k : own_W p e below K T (mkF m pc' l' S)) : own_W p e below K T (mkF m pc Ls (.ref x :: S)) := by subst hp hy; exact own_s (fun _ => XS.astoreN X.here hx rfl hd rfl rfl hl) k
theorem own_astore (X : Stand p l e R s m args below meth c T locs cells slots) (hx : p.tables.exec = Jvm.exec) {i : Nat} {x y : Addr} (pc' : Nat) (l' : Array Slot) (hy : y = x) (hd : decode c.code pc = .ok (.astore i, 2)) (hp : pc + 2 = pc') (hl : storeLocals Ls i (.ref y) = some l') (k : own_W p e below K T (mkF m pc' l' S)) : own_W p e below K T (mkF m pc Ls (.ref x :: S)) := by subst hp hy; exact own_s (fun _ => XS.astore X.here hx rfl hd rfl rfl hl) k
theorem own_iinc (X : Stand p l e R s m args below meth c T locs cells slots) (hx : p.tables.exec = Jvm.exec) {i : Nat} {cst : Int} {x : Int32} (y : Int32) (pc' : Nat) (l' : Array Slot) (hy : y = x + Int32.ofInt cst) (hd : decode c.code pc = .ok (.iinc i cst, 3)) (hp : pc + 3 = pc') (hl : Ls[i]? = some (.val (.int x))) (hl' : storeLocals Ls i (.int y) = some l') (k : own_W p e below K T (mkF m pc' l' S)) : own_W p e below K T (mkF m pc Ls S) := by subst hp hy; exact own_s (fun _ => XS.iinc X.here hx rfl hd hl hl') k
theorem own_iconst (X : Stand p l e R s m args below meth c T locs cells slots) (hx : p.tables.exec = Jvm.exec) {i : Int} (pc' : Nat) (z : Int32) (hz : Int32.ofInt i = z) (hd : decode c.code pc = .ok (.iconst i, 1)) (hp : pc + 1 = pc') (k : own_W p e below K T (mkF m pc' Ls (.int z :: S))) : own_W p e below K T (mkF m pc Ls S) := by subst hp hz; exact own_s (fun _ => XS.iconst X.here hx rfl hd) k
theorem own_bipush (X : Stand p l e R s m args below meth c T locs cells slots) (hx : p.tables.exec = Jvm.exec) {i : Int} (pc' : Nat) (z : Int32) (hz : (Int8.ofInt i).toInt32 = z) (hd : decode c.code pc = .ok (.bipush i, 2)) (hp : pc + 2 = pc') (k : own_W p e below K T (mkF m pc' Ls (.int z :: S))) : own_W p e below K T (mkF m pc Ls S) := by subst hp hz; exact own_s (fun _ => XS.bipush X.here hx rfl hd) k
theorem own_sipush (X : Stand p l e R s m args below meth c T locs cells slots) (hx : p.tables.exec = Jvm.exec) {i : Int} (pc' : Nat) (z : Int32) (hz : (Int16.ofInt i).toInt32 = z) (hd : decode c.code pc = .ok (.sipush i, 3)) (hp : pc + 3 = pc') (k : own_W p e below K T (mkF m pc' Ls (.int z :: S))) : own_W p e below K T (mkF m pc Ls S) := by subst hp hz; exact own_s (fun _ => XS.sipush X.here hx rfl hd) k
theorem own_lconst (X : Stand p l e R s m args below meth c T locs cells slots) (hx : p.tables.exec = Jvm.exec) {i : Fin 2} (pc' : Nat) (z : Int64) (hz : Int64.ofNat i = z) (hd : decode c.code pc = .ok (.lconst i, 1)) (hp : pc + 1 = pc') (k : own_W p e below K T (mkF m pc' Ls (.long z :: S))) : own_W p e below K T (mkF m pc Ls S) := by subst hp hz; exact own_s (fun _ => XS.lconst X.here hx rfl hd) k
theorem own_ldc (X : Stand p l e R s m args below meth c T locs cells slots) (hx : p.tables.exec = Jvm.exec) {v : Int32} (hZ : Z.Warmed39 s.vm) (hown : s.vm.findClass own = some m.cls) (pc' : Nat) (w : (Jvm.Cond.constant own index v).before a0 Z = true) (hd : decode c.code pc = .ok (.ldc index, 2)) (hp : pc + 2 = pc') (k : own_W p e below K T (mkF m pc' Ls (.int v :: S))) : own_W p e below K T (mkF m pc Ls S) := by subst hp; exact own_s (X.ldcInt hx hown (mvT hZ w) (g := mkF m pc Ls S) rfl hd) k
theorem own_ldc2 (X : Stand p l e R s m args below meth c T locs cells slots) (hx : p.tables.exec = Jvm.exec) {v : Int64} (hZ : Z.Warmed39 s.vm) (hown : s.vm.findClass own = some m.cls) (pc' : Nat) (w : (Jvm.Cond.constantLong own index v).before a0 Z = true) (hd : decode c.code pc = .ok (.ldc2_w index, 3)) (hp : pc + 3 = pc') (k : own_W p e below K T (mkF m pc' Ls (.long v :: S))) : own_W p e below K T (mkF m pc Ls S) := by subst hp; exact own_s (X.ldc2Long hx hown (mvT hZ w) (g := mkF m pc Ls S) rfl hd) k
theorem own_goto (X : Stand p l e R s m args below meth c T locs cells slots) (hx : p.tables.exec = Jvm.exec) {o : Int} (pc' : Nat) (hd : decode c.code pc = .ok (.goto o, 3)) (ho : 0 ≤ (pc : Int) + o) (hp : ((pc : Int) + o).toNat = pc') (k : own_W p e below K T (mkF m pc' Ls S)) : own_W p e below K T (mkF m pc Ls S) := own_s (fun _ => XS.goto X.here hx (g := mkF m pc Ls S) rfl rfl hd ho hp) k
theorem own_dup (X : Stand p l e R s m args below meth c T locs cells slots) (hx : p.tables.exec = Jvm.exec) {x : Value} (pc' : Nat) (hc : x.category = 1) (hd : decode c.code pc = .ok (.dup, 1)) (hp : pc + 1 = pc') (k : own_W p e below K T (mkF m pc' Ls (x :: x :: S))) : own_W p e below K T (mkF m pc Ls (x :: S)) := by subst hp; exact own_s (fun _ => XS.dup X.here hx rfl hd rfl hc) k
theorem own_pop (X : Stand p l e R s m args below meth c T locs cells slots) (hx : p.tables.exec = Jvm.exec) {x : Value} (pc' : Nat) (hc : x.category = 1) (hd : decode c.code pc = .ok (.pop, 1)) (hp : pc + 1 = pc') (k : own_W p e below K T (mkF m pc' Ls S)) : own_W p e below K T (mkF m pc Ls (x :: S)) := by subst hp; exact own_s (fun _ => XS.pop X.here hx rfl hd rfl hc) k
theorem own_dupX1 (X : Stand p l e R s m args below meth c T locs cells slots) (hx : p.tables.exec = Jvm.exec) {x y : Value} (pc' : Nat) (hc : x.category = 1) (hc2 : y.category = 1) (hd : decode c.code pc = .ok (.dup_x1, 1)) (hp : pc + 1 = pc') (k : own_W p e below K T (mkF m pc' Ls (x :: y :: x :: S))) : own_W p e below K T (mkF m pc Ls (x :: y :: S)) := by subst hp; exact own_s (fun _ => XS.dupX1 X.here hx rfl hd rfl hc hc2) k
theorem own_dup2 (X : Stand p l e R s m args below meth c T locs cells slots) (hx : p.tables.exec = Jvm.exec) {x y : Value} (pc' : Nat) (hc : x.category = 1) (hc2 : y.category = 1) (hd : decode c.code pc = .ok (.dup2, 1)) (hp : pc + 1 = pc') (k : own_W p e below K T (mkF m pc' Ls (x :: y :: x :: y :: S))) : own_W p e below K T (mkF m pc Ls (x :: y :: S)) := by subst hp; exact own_s (fun _ => XT.dup2 X.here hx rfl hd rfl hc hc2) k
theorem own_iadd (X : Stand p l e R s m args below meth c T locs cells slots) (hx : p.tables.exec = Jvm.exec) {x y : Int32} (pc' : Nat) (hd : decode c.code pc = .ok (.iadd, 1)) (hp : pc + 1 = pc') (k : own_W p e below K T (mkF m pc' Ls (.int (x + y) :: S))) : own_W p e below K T (mkF m pc Ls (.int y :: .int x :: S)) := by subst hp; exact own_s (fun _ => XS.iadd X.here hx rfl hd rfl) k
theorem own_ladd (X : Stand p l e R s m args below meth c T locs cells slots) (hx : p.tables.exec = Jvm.exec) {x y : Int64} (pc' : Nat) (hd : decode c.code pc = .ok (.ladd, 1)) (hp : pc + 1 = pc') (k : own_W p e below K T (mkF m pc' Ls (.long (x + y) :: S))) : own_W p e below K T (mkF m pc Ls (.long y :: .long x :: S)) := by subst hp; exact own_s (fun _ => XS.ladd X.here hx rfl hd rfl) k
theorem own_isub (X : Stand p l e R s m args below meth c T locs cells slots) (hx : p.tables.exec = Jvm.exec) {x y : Int32} (pc' : Nat) (hd : decode c.code pc = .ok (.isub, 1)) (hp : pc + 1 = pc') (k : own_W p e below K T (mkF m pc' Ls (.int (x - y) :: S))) : own_W p e below K T (mkF m pc Ls (.int y :: .int x :: S)) := by subst hp; exact own_s (fun _ => XS.isub X.here hx rfl hd rfl) k
theorem own_lsub (X : Stand p l e R s m args below meth c T locs cells slots) (hx : p.tables.exec = Jvm.exec) {x y : Int64} (pc' : Nat) (hd : decode c.code pc = .ok (.lsub, 1)) (hp : pc + 1 = pc') (k : own_W p e below K T (mkF m pc' Ls (.long (x - y) :: S))) : own_W p e below K T (mkF m pc Ls (.long y :: .long x :: S)) := by subst hp; exact own_s (fun _ => XS.lsub X.here hx rfl hd rfl) k
theorem own_imul (X : Stand p l e R s m args below meth c T locs cells slots) (hx : p.tables.exec = Jvm.exec) {x y : Int32} (pc' : Nat) (hd : decode c.code pc = .ok (.imul, 1)) (hp : pc + 1 = pc') (k : own_W p e below K T (mkF m pc' Ls (.int (x * y) :: S))) : own_W p e below K T (mkF m pc Ls (.int y :: .int x :: S)) := by subst hp; exact own_s (fun _ => XS.imul X.here hx rfl hd rfl) k
theorem own_lmul (X : Stand p l e R s m args below meth c T locs cells slots) (hx : p.tables.exec = Jvm.exec) {x y : Int64} (pc' : Nat) (hd : decode c.code pc = .ok (.lmul, 1)) (hp : pc + 1 = pc') (k : own_W p e below K T (mkF m pc' Ls (.long (x * y) :: S))) : own_W p e below K T (mkF m pc Ls (.long y :: .long x :: S)) := by subst hp; exact own_s (fun _ => XS.lmul X.here hx rfl hd rfl) k
theorem own_iand (X : Stand p l e R s m args below meth c T locs cells slots) (hx : p.tables.exec = Jvm.exec) {x y : Int32} (pc' : Nat) (hd : decode c.code pc = .ok (.iand, 1)) (hp : pc + 1 = pc') (k : own_W p e below K T (mkF m pc' Ls (.int (x &&& y) :: S))) : own_W p e below K T (mkF m pc Ls (.int y :: .int x :: S)) := by subst hp; exact own_s (fun _ => XS.iand X.here hx rfl hd rfl) k
theorem own_land (X : Stand p l e R s m args below meth c T locs cells slots) (hx : p.tables.exec = Jvm.exec) {x y : Int64} (pc' : Nat) (hd : decode c.code pc = .ok (.land, 1)) (hp : pc + 1 = pc') (k : own_W p e below K T (mkF m pc' Ls (.long (x &&& y) :: S))) : own_W p e below K T (mkF m pc Ls (.long y :: .long x :: S)) := by subst hp; exact own_s (fun _ => XS.land X.here hx rfl hd rfl) k
theorem own_ior (X : Stand p l e R s m args below meth c T locs cells slots) (hx : p.tables.exec = Jvm.exec) {x y : Int32} (pc' : Nat) (hd : decode c.code pc = .ok (.ior, 1)) (hp : pc + 1 = pc') (k : own_W p e below K T (mkF m pc' Ls (.int (x ||| y) :: S))) : own_W p e below K T (mkF m pc Ls (.int y :: .int x :: S)) := by subst hp; exact own_s (fun _ => XS.ior X.here hx rfl hd rfl) k
theorem own_lor (X : Stand p l e R s m args below meth c T locs cells slots) (hx : p.tables.exec = Jvm.exec) {x y : Int64} (pc' : Nat) (hd : decode c.code pc = .ok (.lor, 1)) (hp : pc + 1 = pc') (k : own_W p e below K T (mkF m pc' Ls (.long (x ||| y) :: S))) : own_W p e below K T (mkF m pc Ls (.long y :: .long x :: S)) := by subst hp; exact own_s (fun _ => XS.lor X.here hx rfl hd rfl) k
theorem own_ixor (X : Stand p l e R s m args below meth c T locs cells slots) (hx : p.tables.exec = Jvm.exec) {x y : Int32} (pc' : Nat) (hd : decode c.code pc = .ok (.ixor, 1)) (hp : pc + 1 = pc') (k : own_W p e below K T (mkF m pc' Ls (.int (x ^^^ y) :: S))) : own_W p e below K T (mkF m pc Ls (.int y :: .int x :: S)) := by subst hp; exact own_s (fun _ => XS.ixor X.here hx rfl hd rfl) k
theorem own_lxor (X : Stand p l e R s m args below meth c T locs cells slots) (hx : p.tables.exec = Jvm.exec) {x y : Int64} (pc' : Nat) (hd : decode c.code pc = .ok (.lxor, 1)) (hp : pc + 1 = pc') (k : own_W p e below K T (mkF m pc' Ls (.long (x ^^^ y) :: S))) : own_W p e below K T (mkF m pc Ls (.long y :: .long x :: S)) := by subst hp; exact own_s (fun _ => XS.lxor X.here hx rfl hd rfl) k
theorem own_iaddz (X : Stand p l e R s m args below meth c T locs cells slots) (hx : p.tables.exec = Jvm.exec) {x y z : Int32} (pc' : Nat) (hz : x + y = z) (hd : decode c.code pc = .ok (.iadd, 1)) (hp : pc + 1 = pc') (k : own_W p e below K T (mkF m pc' Ls (.int z :: S))) : own_W p e below K T (mkF m pc Ls (.int y :: .int x :: S)) := by subst hz; exact own_iadd X hx pc' hd hp k
theorem own_laddz (X : Stand p l e R s m args below meth c T locs cells slots) (hx : p.tables.exec = Jvm.exec) {x y z : Int64} (pc' : Nat) (hz : x + y = z) (hd : decode c.code pc = .ok (.ladd, 1)) (hp : pc + 1 = pc') (k : own_W p e below K T (mkF m pc' Ls (.long z :: S))) : own_W p e below K T (mkF m pc Ls (.long y :: .long x :: S)) := by subst hz; exact own_ladd X hx pc' hd hp k
theorem own_isubz (X : Stand p l e R s m args below meth c T locs cells slots) (hx : p.tables.exec = Jvm.exec) {x y z : Int32} (pc' : Nat) (hz : x - y = z) (hd : decode c.code pc = .ok (.isub, 1)) (hp : pc + 1 = pc') (k : own_W p e below K T (mkF m pc' Ls (.int z :: S))) : own_W p e below K T (mkF m pc Ls (.int y :: .int x :: S)) := by subst hz; exact own_isub X hx pc' hd hp k
theorem own_lsubz (X : Stand p l e R s m args below meth c T locs cells slots) (hx : p.tables.exec = Jvm.exec) {x y z : Int64} (pc' : Nat) (hz : x - y = z) (hd : decode c.code pc = .ok (.lsub, 1)) (hp : pc + 1 = pc') (k : own_W p e below K T (mkF m pc' Ls (.long z :: S))) : own_W p e below K T (mkF m pc Ls (.long y :: .long x :: S)) := by subst hz; exact own_lsub X hx pc' hd hp k
theorem own_imulz (X : Stand p l e R s m args below meth c T locs cells slots) (hx : p.tables.exec = Jvm.exec) {x y z : Int32} (pc' : Nat) (hz : x * y = z) (hd : decode c.code pc = .ok (.imul, 1)) (hp : pc + 1 = pc') (k : own_W p e below K T (mkF m pc' Ls (.int z :: S))) : own_W p e below K T (mkF m pc Ls (.int y :: .int x :: S)) := by subst hz; exact own_imul X hx pc' hd hp k
theorem own_lmulz (X : Stand p l e R s m args below meth c T locs cells slots) (hx : p.tables.exec = Jvm.exec) {x y z : Int64} (pc' : Nat) (hz : x * y = z) (hd : decode c.code pc = .ok (.lmul, 1)) (hp : pc + 1 = pc') (k : own_W p e below K T (mkF m pc' Ls (.long z :: S))) : own_W p e below K T (mkF m pc Ls (.long y :: .long x :: S)) := by subst hz; exact own_lmul X hx pc' hd hp k
theorem own_iandz (X : Stand p l e R s m args below meth c T locs cells slots) (hx : p.tables.exec = Jvm.exec) {x y z : Int32} (pc' : Nat) (hz : x &&& y = z) (hd : decode c.code pc = .ok (.iand, 1)) (hp : pc + 1 = pc') (k : own_W p e below K T (mkF m pc' Ls (.int z :: S))) : own_W p e below K T (mkF m pc Ls (.int y :: .int x :: S)) := by subst hz; exact own_iand X hx pc' hd hp k
theorem own_landz (X : Stand p l e R s m args below meth c T locs cells slots) (hx : p.tables.exec = Jvm.exec) {x y z : Int64} (pc' : Nat) (hz : x &&& y = z) (hd : decode c.code pc = .ok (.land, 1)) (hp : pc + 1 = pc') (k : own_W p e below K T (mkF m pc' Ls (.long z :: S))) : own_W p e below K T (mkF m pc Ls (.long y :: .long x :: S)) := by subst hz; exact own_land X hx pc' hd hp k
theorem own_iorz (X : Stand p l e R s m args below meth c T locs cells slots) (hx : p.tables.exec = Jvm.exec) {x y z : Int32} (pc' : Nat) (hz : x ||| y = z) (hd : decode c.code pc = .ok (.ior, 1)) (hp : pc + 1 = pc') (k : own_W p e below K T (mkF m pc' Ls (.int z :: S))) : own_W p e below K T (mkF m pc Ls (.int y :: .int x :: S)) := by subst hz; exact own_ior X hx pc' hd hp k
theorem own_lorz (X : Stand p l e R s m args below meth c T locs cells slots) (hx : p.tables.exec = Jvm.exec) {x y z : Int64} (pc' : Nat) (hz : x ||| y = z) (hd : decode c.code pc = .ok (.lor, 1)) (hp : pc + 1 = pc') (k : own_W p e below K T (mkF m pc' Ls (.long z :: S))) : own_W p e below K T (mkF m pc Ls (.long y :: .long x :: S)) := by subst hz; exact own_lor X hx pc' hd hp k
theorem own_ixorz (X : Stand p l e R s m args below meth c T locs cells slots) (hx : p.tables.exec = Jvm.exec) {x y z : Int32} (pc' : Nat) (hz : x ^^^ y = z) (hd : decode c.code pc = .ok (.ixor, 1)) (hp : pc + 1 = pc') (k : own_W p e below K T (mkF m pc' Ls (.int z :: S))) : own_W p e below K T (mkF m pc Ls (.int y :: .int x :: S)) := by subst hz; exact own_ixor X hx pc' hd hp k
theorem own_lxorz (X : Stand p l e R s m args below meth c T locs cells slots) (hx : p.tables.exec = Jvm.exec) {x y z : Int64} (pc' : Nat) (hz : x ^^^ y = z) (hd : decode c.code pc = .ok (.lxor, 1)) (hp : pc + 1 = pc') (k : own_W p e below K T (mkF m pc' Ls (.long z :: S))) : own_W p e below K T (mkF m pc Ls (.long y :: .long x :: S)) := by subst hz; exact own_lxor X hx pc' hd hp k
theorem own_ishl (X : Stand p l e R s m args below meth c T locs cells slots) (hx : p.tables.exec = Jvm.exec) {x : Int32} {y : Int32} (pc' : Nat) (hd : decode c.code pc = .ok (.ishl, 1)) (hp : pc + 1 = pc') (k : own_W p e below K T (mkF m pc' Ls (.int (x <<< (y &&& 31)) :: S))) : own_W p e below K T (mkF m pc Ls (.int y :: .int x :: S)) := by subst hp; exact own_s (fun _ => XS.ishl X.here hx rfl hd rfl) k
theorem own_ishr (X : Stand p l e R s m args below meth c T locs cells slots) (hx : p.tables.exec = Jvm.exec) {x : Int32} {y : Int32} (pc' : Nat) (hd : decode c.code pc = .ok (.ishr, 1)) (hp : pc + 1 = pc') (k : own_W p e below K T (mkF m pc' Ls (.int (x >>> (y &&& 31)) :: S))) : own_W p e below K T (mkF m pc Ls (.int y :: .int x :: S)) := by subst hp; exact own_s (fun _ => XS.ishr X.here hx rfl hd rfl) k
theorem own_iushr (X : Stand p l e R s m args below meth c T locs cells slots) (hx : p.tables.exec = Jvm.exec) {x : Int32} {y : Int32} (pc' : Nat) (hd : decode c.code pc = .ok (.iushr, 1)) (hp : pc + 1 = pc') (k : own_W p e below K T (mkF m pc' Ls (.int ((x.toUInt32 >>> (y &&& 31).toUInt32).toInt32) :: S))) : own_W p e below K T (mkF m pc Ls (.int y :: .int x :: S)) := by subst hp; exact own_s (fun _ => XS.iushr X.here hx rfl hd rfl) k
theorem own_lshl (X : Stand p l e R s m args below meth c T locs cells slots) (hx : p.tables.exec = Jvm.exec) {x : Int64} {y : Int32} (pc' : Nat) (hd : decode c.code pc = .ok (.lshl, 1)) (hp : pc + 1 = pc') (k : own_W p e below K T (mkF m pc' Ls (.long (x <<< (y &&& 0x3f).toInt64) :: S))) : own_W p e below K T (mkF m pc Ls (.int y :: .long x :: S)) := by subst hp; exact own_s (fun _ => XS.lshl X.here hx rfl hd rfl) k
theorem own_lshr (X : Stand p l e R s m args below meth c T locs cells slots) (hx : p.tables.exec = Jvm.exec) {x : Int64} {y : Int32} (pc' : Nat) (hd : decode c.code pc = .ok (.lshr, 1)) (hp : pc + 1 = pc') (k : own_W p e below K T (mkF m pc' Ls (.long (x >>> (y &&& 0x3f).toInt64) :: S))) : own_W p e below K T (mkF m pc Ls (.int y :: .long x :: S)) := by subst hp; exact own_s (fun _ => XS.lshr X.here hx rfl hd rfl) k
theorem own_lushr (X : Stand p l e R s m args below meth c T locs cells slots) (hx : p.tables.exec = Jvm.exec) {x : Int64} {y : Int32} (pc' : Nat) (hd : decode c.code pc = .ok (.lushr, 1)) (hp : pc + 1 = pc') (k : own_W p e below K T (mkF m pc' Ls (.long ((x.toUInt64 >>> (y &&& 0x3f).toInt64.toUInt64).toInt64) :: S))) : own_W p e below K T (mkF m pc Ls (.int y :: .long x :: S)) := by subst hp; exact own_s (fun _ => XS.lushr X.here hx rfl hd rfl) k
theorem own_ineg (X : Stand p l e R s m args below meth c T locs cells slots) (hx : p.tables.exec = Jvm.exec) {x : Int32} (pc' : Nat) (hd : decode c.code pc = .ok (.ineg, 1)) (hp : pc + 1 = pc') (k : own_W p e below K T (mkF m pc' Ls (.int ((-x)) :: S))) : own_W p e below K T (mkF m pc Ls (.int x :: S)) := by subst hp; exact own_s (fun _ => XS.ineg X.here hx rfl hd rfl) k
theorem own_lneg (X : Stand p l e R s m args below meth c T locs cells slots) (hx : p.tables.exec = Jvm.exec) {x : Int64} (pc' : Nat) (hd : decode c.code pc = .ok (.lneg, 1)) (hp : pc + 1 = pc') (k : own_W p e below K T (mkF m pc' Ls (.long ((-x)) :: S))) : own_W p e below K T (mkF m pc Ls (.long x :: S)) := by subst hp; exact own_s (fun _ => XS.lneg X.here hx rfl hd rfl) k
theorem own_i2l (X : Stand p l e R s m args below meth c T locs cells slots) (hx : p.tables.exec = Jvm.exec) {x : Int32} (pc' : Nat) (hd : decode c.code pc = .ok (.i2l, 1)) (hp : pc + 1 = pc') (k : own_W p e below K T (mkF m pc' Ls (.long (x.toInt64) :: S))) : own_W p e below K T (mkF m pc Ls (.int x :: S)) := by subst hp; exact own_s (fun _ => XS.i2l X.here hx rfl hd rfl) k
theorem own_l2i (X : Stand p l e R s m args below meth c T locs cells slots) (hx : p.tables.exec = Jvm.exec) {x : Int64} (pc' : Nat) (hd : decode c.code pc = .ok (.l2i, 1)) (hp : pc + 1 = pc') (k : own_W p e below K T (mkF m pc' Ls (.int (x.toInt32) :: S))) : own_W p e below K T (mkF m pc Ls (.long x :: S)) := by subst hp; exact own_s (fun _ => XS.l2i X.here hx rfl hd rfl) k
theorem own_i2b (X : Stand p l e R s m args below meth c T locs cells slots) (hx : p.tables.exec = Jvm.exec) {x : Int32} (pc' : Nat) (hd : decode c.code pc = .ok (.i2b, 1)) (hp : pc + 1 = pc') (k : own_W p e below K T (mkF m pc' Ls (.int (x.toInt8.toInt32) :: S))) : own_W p e below K T (mkF m pc Ls (.int x :: S)) := by subst hp; exact own_s (fun _ => XS.i2b X.here hx rfl hd rfl) k
theorem own_i2s (X : Stand p l e R s m args below meth c T locs cells slots) (hx : p.tables.exec = Jvm.exec) {x : Int32} (pc' : Nat) (hd : decode c.code pc = .ok (.i2s, 1)) (hp : pc + 1 = pc') (k : own_W p e below K T (mkF m pc' Ls (.int (x.toInt16.toInt32) :: S))) : own_W p e below K T (mkF m pc Ls (.int x :: S)) := by subst hp; exact own_s (fun _ => XS.i2s X.here hx rfl hd rfl) k
theorem own_i2c (X : Stand p l e R s m args below meth c T locs cells slots) (hx : p.tables.exec = Jvm.exec) {x : Int32} (pc' : Nat) (hd : decode c.code pc = .ok (.i2c, 1)) (hp : pc + 1 = pc') (k : own_W p e below K T (mkF m pc' Ls (.int (x.toUInt32.toUInt16.toUInt32.toInt32) :: S))) : own_W p e below K T (mkF m pc Ls (.int x :: S)) := by subst hp; exact own_s (fun _ => XS.i2c X.here hx rfl hd rfl) k
theorem own_i2lz (X : Stand p l e R s m args below meth c T locs cells slots) (hx : p.tables.exec = Jvm.exec) {x : Int32} {z : Int64} (pc' : Nat) (hz : x.toInt64 = z) (hd : decode c.code pc = .ok (.i2l, 1)) (hp : pc + 1 = pc') (k : own_W p e below K T (mkF m pc' Ls (.long z :: S))) : own_W p e below K T (mkF m pc Ls (.int x :: S)) := by subst hz; exact own_i2l X hx pc' hd hp k
theorem own_l2iz (X : Stand p l e R s m args below meth c T locs cells slots) (hx : p.tables.exec = Jvm.exec) {x : Int64} {z : Int32} (pc' : Nat) (hz : x.toInt32 = z) (hd : decode c.code pc = .ok (.l2i, 1)) (hp : pc + 1 = pc') (k : own_W p e below K T (mkF m pc' Ls (.int z :: S))) : own_W p e below K T (mkF m pc Ls (.long x :: S)) := by subst hz; exact own_l2i X hx pc' hd hp k
theorem own_idiv (X : Stand p l e R s m args below meth c T locs cells slots) (hx : p.tables.exec = Jvm.exec) {x y : Int32} (pc' : Nat) (hy : y ≠ 0) (hd : decode c.code pc = .ok (.idiv, 1)) (hp : pc + 1 = pc') (k : own_W p e below K T (mkF m pc' Ls (.int (x / y) :: S))) : own_W p e below K T (mkF m pc Ls (.int y :: .int x :: S)) := by subst hp; exact own_s (fun _ => XS.idiv X.here hx rfl hd rfl hy) k
theorem own_irem (X : Stand p l e R s m args below meth c T locs cells slots) (hx : p.tables.exec = Jvm.exec) {x y : Int32} (pc' : Nat) (hy : y ≠ 0) (hd : decode c.code pc = .ok (.irem, 1)) (hp : pc + 1 = pc') (k : own_W p e below K T (mkF m pc' Ls (.int (x % y) :: S))) : own_W p e below K T (mkF m pc Ls (.int y :: .int x :: S)) := by subst hp; exact own_s (fun _ => iremM X hx rfl hd rfl hy) k
theorem own_ldiv (X : Stand p l e R s m args below meth c T locs cells slots) (hx : p.tables.exec = Jvm.exec) {x y : Int64} (pc' : Nat) (hy : y ≠ 0) (hd : decode c.code pc = .ok (.ldiv, 1)) (hp : pc + 1 = pc') (k : own_W p e below K T (mkF m pc' Ls (.long (x / y) :: S))) : own_W p e below K T (mkF m pc Ls (.long y :: .long x :: S)) := by subst hp; exact own_s (fun _ => XS.ldiv X.here hx rfl hd rfl hy) k
theorem own_lrem (X : Stand p l e R s m args below meth c T locs cells slots) (hx : p.tables.exec = Jvm.exec) {x y : Int64} (pc' : Nat) (hy : y ≠ 0) (hd : decode c.code pc = .ok (.lrem, 1)) (hp : pc + 1 = pc') (k : own_W p e below K T (mkF m pc' Ls (.long (x % y) :: S))) : own_W p e below K T (mkF m pc Ls (.long y :: .long x :: S)) := by subst hp; rw [← lrem_mod] at k; exact own_s (fun _ => XS.lrem X.here hx rfl hd rfl hy) k
theorem own_icmp (X : Stand p l e R s m args below meth c T locs cells slots) (hx : p.tables.exec = Jvm.exec) {cd : ClassFile.Cond} {x y : Int32} {o : Int} (pcT pcF : Nat) (P : Prop) [Decidable P] (hT : P → if_icmp.holds cd x y = true) (hF : ¬ P → if_icmp.holds cd x y = false) (hd : decode c.code pc = .ok (.if_icmp cd o, 3)) (ho : 0 ≤ (pc : Int) + o) (hp : ((pc : Int) + o).toNat = pcT) (hp' : pc + 3 = pcF)
    (kT : P → own_W p e below K T (mkF m pcT Ls S)) (kF : ¬ P → own_W p e below K T (mkF m pcF Ls S)) : own_W p e below K T (mkF m pc Ls (.int y :: .int x :: S)) := by
  subst hp'
  by_cases q : P
  · exact own_s (fun _ => XS.icmpYes X.here hx (g := mkF m pc Ls (.int y :: .int x :: S)) rfl rfl hd rfl (hT q) ho hp) (kT q)
  · exact own_s (fun _ => XS.icmpNo X.here hx (g := mkF m pc Ls (.int y :: .int x :: S)) rfl hd rfl (hF q)) (kF q)
theorem own_if (X : Stand p l e R s m args below meth c T locs cells slots) (hx : p.tables.exec = Jvm.exec) {cd : ClassFile.Cond} {x : Int32} {o : Int} (pcT pcF : Nat) (P : Prop) [Decidable P] (hT : P → if_icmp.holds cd x 0 = true) (hF : ¬ P → if_icmp.holds cd x 0 = false) (hd : decode c.code pc = .ok (.ifCond cd o, 3)) (ho : 0 ≤ (pc : Int) + o) (hp : ((pc : Int) + o).toNat = pcT) (hp' : pc + 3 = pcF)
    (kT : P → own_W p e below K T (mkF m pcT Ls S)) (kF : ¬ P → own_W p e below K T (mkF m pcF Ls S)) : own_W p e below K T (mkF m pc Ls (.int x :: S)) := by
  subst hp'
  by_cases q : P
  · exact own_s (fun _ => XS.ifYes X.here hx (g := mkF m pc Ls (.int x :: S)) rfl rfl hd rfl ((if0 cd x).trans (hT q)) ho hp) (kT q)
  · exact own_s (fun _ => XS.ifNo X.here hx (g := mkF m pc Ls (.int x :: S)) rfl hd rfl ((if0 cd x).trans (hF q))) (kF q)
theorem own_lcmp (X : Stand p l e R s m args below meth c T locs cells slots) (hx : p.tables.exec = Jvm.exec) {x y : Int64} (pc' : Nat) (hd : decode c.code pc = .ok (.lcmp, 1)) (hp : pc + 1 = pc') (k : own_W p e below K T (mkF m pc' Ls (.int (lcmpW x y) :: S))) : own_W p e below K T (mkF m pc Ls (.long y :: .long x :: S)) := by subst hp; exact own_s (fun _ => XS.lcmp X.here hx rfl hd rfl) k
theorem own_icmp_lt (X : Stand p l e R s m args below meth c T locs cells slots) (hx : p.tables.exec = Jvm.exec) {x y : Int32} {o : Int} (pcT pcF : Nat) (hd : decode c.code pc = .ok (.if_icmp .lt o, 3)) (ho : 0 ≤ (pc : Int) + o) (hp : ((pc : Int) + o).toNat = pcT) (hp' : pc + 3 = pcF) (kT : x < y → own_W p e below K T (mkF m pcT Ls S)) (kF : ¬ x < y → own_W p e below K T (mkF m pcF Ls S)) : own_W p e below K T (mkF m pc Ls (.int y :: .int x :: S)) := own_icmp X hx pcT pcF (x < y) (fun q => (tlt q).1) (fun q => (flt q).1) hd ho hp hp' kT kF
theorem own_if_lt (X : Stand p l e R s m args below meth c T locs cells slots) (hx : p.tables.exec = Jvm.exec) {x : Int32} {o : Int} (pcT pcF : Nat) (hd : decode c.code pc = .ok (.ifCond .lt o, 3)) (ho : 0 ≤ (pc : Int) + o) (hp : ((pc : Int) + o).toNat = pcT) (hp' : pc + 3 = pcF) (kT : x < 0 → own_W p e below K T (mkF m pcT Ls S)) (kF : ¬ x < 0 → own_W p e below K T (mkF m pcF Ls S)) : own_W p e below K T (mkF m pc Ls (.int x :: S)) := own_if X hx pcT pcF (x < 0) (fun q => (tlt q).1) (fun q => (flt q).1) hd ho hp hp' kT kF
theorem own_lif_lt (X : Stand p l e R s m args below meth c T locs cells slots) (hx : p.tables.exec = Jvm.exec) {x y : Int64} {o : Int} (pc1 pcT pcF : Nat) (hd1 : decode c.code pc = .ok (.lcmp, 1)) (hp1 : pc + 1 = pc1) (hd : decode c.code pc1 = .ok (.ifCond .lt o, 3)) (ho : 0 ≤ (pc1 : Int) + o) (hp : ((pc1 : Int) + o).toNat = pcT) (hp' : pc1 + 3 = pcF) (kT : x < y → own_W p e below K T (mkF m pcT Ls S)) (kF : ¬ x < y → own_W p e below K T (mkF m pcF Ls S)) : own_W p e below K T (mkF m pc Ls (.long y :: .long x :: S)) := own_lcmp X hx pc1 hd1 hp1 (own_if_lt X hx pcT pcF hd ho hp hp' (fun q => kT ((lw_lt x y).mp q)) (fun q => kF (fun r => q ((lw_lt x y).mpr r))))
theorem own_icmp_ge (X : Stand p l e R s m args below meth c T locs cells slots) (hx : p.tables.exec = Jvm.exec) {x y : Int32} {o : Int} (pcT pcF : Nat) (hd : decode c.code pc = .ok (.if_icmp .ge o, 3)) (ho : 0 ≤ (pc : Int) + o) (hp : ((pc : Int) + o).toNat = pcT) (hp' : pc + 3 = pcF) (kT : ¬ x < y → own_W p e below K T (mkF m pcT Ls S)) (kF : x < y → own_W p e below K T (mkF m pcF Ls S)) : own_W p e below K T (mkF m pc Ls (.int y :: .int x :: S)) := own_icmp X hx pcT pcF (¬ x < y) (fun q => (flt q).2.1) (fun q => (tlt (Decidable.not_not.mp q)).2.1) hd ho hp hp' kT (fun q => kF (Decidable.not_not.mp q))
theorem own_if_ge (X : Stand p l e R s m args below meth c T locs cells slots) (hx : p.tables.exec = Jvm.exec) {x : Int32} {o : Int} (pcT pcF : Nat) (hd : decode c.code pc = .ok (.ifCond .ge o, 3)) (ho : 0 ≤ (pc : Int) + o) (hp : ((pc : Int) + o).toNat = pcT) (hp' : pc + 3 = pcF) (kT : ¬ x < 0 → own_W p e below K T (mkF m pcT Ls S)) (kF : x < 0 → own_W p e below K T (mkF m pcF Ls S)) : own_W p e below K T (mkF m pc Ls (.int x :: S)) := own_if X hx pcT pcF (¬ x < 0) (fun q => (flt q).2.1) (fun q => (tlt (Decidable.not_not.mp q)).2.1) hd ho hp hp' kT (fun q => kF (Decidable.not_not.mp q))
theorem own_lif_ge (X : Stand p l e R s m args below meth c T locs cells slots) (hx : p.tables.exec = Jvm.exec) {x y : Int64} {o : Int} (pc1 pcT pcF : Nat) (hd1 : decode c.code pc = .ok (.lcmp, 1)) (hp1 : pc + 1 = pc1) (hd : decode c.code pc1 = .ok (.ifCond .ge o, 3)) (ho : 0 ≤ (pc1 : Int) + o) (hp : ((pc1 : Int) + o).toNat = pcT) (hp' : pc1 + 3 = pcF) (kT : ¬ x < y → own_W p e below K T (mkF m pcT Ls S)) (kF : x < y → own_W p e below K T (mkF m pcF Ls S)) : own_W p e below K T (mkF m pc Ls (.long y :: .long x :: S)) := own_lcmp X hx pc1 hd1 hp1 (own_if_ge X hx pcT pcF hd ho hp hp' (fun q => kT (fun r => q ((lw_lt x y).mpr r))) (fun q => kF ((lw_lt x y).mp q)))
theorem own_icmp_gt (X : Stand p l e R s m args below meth c T locs cells slots) (hx : p.tables.exec = Jvm.exec) {x y : Int32} {o : Int} (pcT pcF : Nat) (hd : decode c.code pc = .ok (.if_icmp .gt o, 3)) (ho : 0 ≤ (pc : Int) + o) (hp : ((pc : Int) + o).toNat = pcT) (hp' : pc + 3 = pcF) (kT : y < x → own_W p e below K T (mkF m pcT Ls S)) (kF : ¬ y < x → own_W p e below K T (mkF m pcF Ls S)) : own_W p e below K T (mkF m pc Ls (.int y :: .int x :: S)) := own_icmp X hx pcT pcF (y < x) (fun q => (tlt q).2.2.1) (fun q => (flt q).2.2.1) hd ho hp hp' kT kF
theorem own_if_gt (X : Stand p l e R s m args below meth c T locs cells slots) (hx : p.tables.exec = Jvm.exec) {x : Int32} {o : Int} (pcT pcF : Nat) (hd : decode c.code pc = .ok (.ifCond .gt o, 3)) (ho : 0 ≤ (pc : Int) + o) (hp : ((pc : Int) + o).toNat = pcT) (hp' : pc + 3 = pcF) (kT : 0 < x → own_W p e below K T (mkF m pcT Ls S)) (kF : ¬ 0 < x → own_W p e below K T (mkF m pcF Ls S)) : own_W p e below K T (mkF m pc Ls (.int x :: S)) := own_if X hx pcT pcF (0 < x) (fun q => (tlt q).2.2.1) (fun q => (flt q).2.2.1) hd ho hp hp' kT kF
theorem own_lif_gt (X : Stand p l e R s m args below meth c T locs cells slots) (hx : p.tables.exec = Jvm.exec) {x y : Int64} {o : Int} (pc1 pcT pcF : Nat) (hd1 : decode c.code pc = .ok (.lcmp, 1)) (hp1 : pc + 1 = pc1) (hd : decode c.code pc1 = .ok (.ifCond .gt o, 3)) (ho : 0 ≤ (pc1 : Int) + o) (hp : ((pc1 : Int) + o).toNat = pcT) (hp' : pc1 + 3 = pcF) (kT : y < x → own_W p e below K T (mkF m pcT Ls S)) (kF : ¬ y < x → own_W p e below K T (mkF m pcF Ls S)) : own_W p e below K T (mkF m pc Ls (.long y :: .long x :: S)) := own_lcmp X hx pc1 hd1 hp1 (own_if_gt X hx pcT pcF hd ho hp hp' (fun q => kT ((lw_gt x y).mp q)) (fun q => kF (fun r => q ((lw_gt x y).mpr r))))
theorem own_icmp_le (X : Stand p l e R s m args below meth c T locs cells slots) (hx : p.tables.exec = Jvm.exec) {x y : Int32} {o : Int} (pcT pcF : Nat) (hd : decode c.code pc = .ok (.if_icmp .le o, 3)) (ho : 0 ≤ (pc : Int) + o) (hp : ((pc : Int) + o).toNat = pcT) (hp' : pc + 3 = pcF) (kT : ¬ y < x → own_W p e below K T (mkF m pcT Ls S)) (kF : y < x → own_W p e below K T (mkF m pcF Ls S)) : own_W p e below K T (mkF m pc Ls (.int y :: .int x :: S)) := own_icmp X hx pcT pcF (¬ y < x) (fun q => (flt q).2.2.2) (fun q => (tlt (Decidable.not_not.mp q)).2.2.2) hd ho hp hp' kT (fun q => kF (Decidable.not_not.mp q))
theorem own_if_le (X : Stand p l e R s m args below meth c T locs cells slots) (hx : p.tables.exec = Jvm.exec) {x : Int32} {o : Int} (pcT pcF : Nat) (hd : decode c.code pc = .ok (.ifCond .le o, 3)) (ho : 0 ≤ (pc : Int) + o) (hp : ((pc : Int) + o).toNat = pcT) (hp' : pc + 3 = pcF) (kT : ¬ 0 < x → own_W p e below K T (mkF m pcT Ls S)) (kF : 0 < x → own_W p e below K T (mkF m pcF Ls S)) : own_W p e below K T (mkF m pc Ls (.int x :: S)) := own_if X hx pcT pcF (¬ 0 < x) (fun q => (flt q).2.2.2) (fun q => (tlt (Decidable.not_not.mp q)).2.2.2) hd ho hp hp' kT (fun q => kF (Decidable.not_not.mp q))
theorem own_lif_le (X : Stand p l e R s m args below meth c T locs cells slots) (hx : p.tables.exec = Jvm.exec) {x y : Int64} {o : Int} (pc1 pcT pcF : Nat) (hd1 : decode c.code pc = .ok (.lcmp, 1)) (hp1 : pc + 1 = pc1) (hd : decode c.code pc1 = .ok (.ifCond .le o, 3)) (ho : 0 ≤ (pc1 : Int) + o) (hp : ((pc1 : Int) + o).toNat = pcT) (hp' : pc1 + 3 = pcF) (kT : ¬ y < x → own_W p e below K T (mkF m pcT Ls S)) (kF : y < x → own_W p e below K T (mkF m pcF Ls S)) : own_W p e below K T (mkF m pc Ls (.long y :: .long x :: S)) := own_lcmp X hx pc1 hd1 hp1 (own_if_le X hx pcT pcF hd ho hp hp' (fun q => kT (fun r => q ((lw_gt x y).mpr r))) (fun q => kF ((lw_gt x y).mp q)))
theorem own_icmp_eq (X : Stand p l e R s m args below meth c T locs cells slots) (hx : p.tables.exec = Jvm.exec) {x y : Int32} {o : Int} (pcT pcF : Nat) (hd : decode c.code pc = .ok (.if_icmp .eq o, 3)) (ho : 0 ≤ (pc : Int) + o) (hp : ((pc : Int) + o).toNat = pcT) (hp' : pc + 3 = pcF) (kT : x = y → own_W p e below K T (mkF m pcT Ls S)) (kF : ¬ x = y → own_W p e below K T (mkF m pcF Ls S)) : own_W p e below K T (mkF m pc Ls (.int y :: .int x :: S)) := own_icmp X hx pcT pcF (x = y) (fun q => (teq q).1) (fun q => (feq q).1) hd ho hp hp' kT kF
theorem own_if_eq (X : Stand p l e R s m args below meth c T locs cells slots) (hx : p.tables.exec = Jvm.exec) {x : Int32} {o : Int} (pcT pcF : Nat) (hd : decode c.code pc = .ok (.ifCond .eq o, 3)) (ho : 0 ≤ (pc : Int) + o) (hp : ((pc : Int) + o).toNat = pcT) (hp' : pc + 3 = pcF) (kT : x = 0 → own_W p e below K T (mkF m pcT Ls S)) (kF : ¬ x = 0 → own_W p e below K T (mkF m pcF Ls S)) : own_W p e below K T (mkF m pc Ls (.int x :: S)) := own_if X hx pcT pcF (x = 0) (fun q => (teq q).1) (fun q => (feq q).1) hd ho hp hp' kT kF
theorem own_lif_eq (X : Stand p l e R s m args below meth c T locs cells slots) (hx : p.tables.exec = Jvm.exec) {x y : Int64} {o : Int} (pc1 pcT pcF : Nat) (hd1 : decode c.code pc = .ok (.lcmp, 1)) (hp1 : pc + 1 = pc1) (hd : decode c.code pc1 = .ok (.ifCond .eq o, 3)) (ho : 0 ≤ (pc1 : Int) + o) (hp : ((pc1 : Int) + o).toNat = pcT) (hp' : pc1 + 3 = pcF) (kT : x = y → own_W p e below K T (mkF m pcT Ls S)) (kF : ¬ x = y → own_W p e below K T (mkF m pcF Ls S)) : own_W p e below K T (mkF m pc Ls (.long y :: .long x :: S)) := own_lcmp X hx pc1 hd1 hp1 (own_if_eq X hx pcT pcF hd ho hp hp' (fun q => kT ((lw_eq x y).mp q)) (fun q => kF (fun r => q ((lw_eq x y).mpr r))))
theorem own_icmp_ne (X : Stand p l e R s m args below meth c T locs cells slots) (hx : p.tables.exec = Jvm.exec) {x y : Int32} {o : Int} (pcT pcF : Nat) (hd : decode c.code pc = .ok (.if_icmp .ne o, 3)) (ho : 0 ≤ (pc : Int) + o) (hp : ((pc : Int) + o).toNat = pcT) (hp' : pc + 3 = pcF) (kT : ¬ x = y → own_W p e below K T (mkF m pcT Ls S)) (kF : x = y → own_W p e below K T (mkF m pcF Ls S)) : own_W p e below K T (mkF m pc Ls (.int y :: .int x :: S)) := own_icmp X hx pcT pcF (¬ x = y) (fun q => (feq q).2) (fun q => (teq (Decidable.not_not.mp q)).2) hd ho hp hp' kT (fun q => kF (Decidable.not_not.mp q))
theorem own_if_ne (X : Stand p l e R s m args below meth c T locs cells slots) (hx : p.tables.exec = Jvm.exec) {x : Int32} {o : Int} (pcT pcF : Nat) (hd : decode c.code pc = .ok (.ifCond .ne o, 3)) (ho : 0 ≤ (pc : Int) + o) (hp : ((pc : Int) + o).toNat = pcT) (hp' : pc + 3 = pcF) (kT : ¬ x = 0 → own_W p e below K T (mkF m pcT Ls S)) (kF : x = 0 → own_W p e below K T (mkF m pcF Ls S)) : own_W p e below K T (mkF m pc Ls (.int x :: S)) := own_if X hx pcT pcF (¬ x = 0) (fun q => (feq q).2) (fun q => (teq (Decidable.not_not.mp q)).2) hd ho hp hp' kT (fun q => kF (Decidable.not_not.mp q))
theorem own_lif_ne (X : Stand p l e R s m args below meth c T locs cells slots) (hx : p.tables.exec = Jvm.exec) {x y : Int64} {o : Int} (pc1 pcT pcF : Nat) (hd1 : decode c.code pc = .ok (.lcmp, 1)) (hp1 : pc + 1 = pc1) (hd : decode c.code pc1 = .ok (.ifCond .ne o, 3)) (ho : 0 ≤ (pc1 : Int) + o) (hp : ((pc1 : Int) + o).toNat = pcT) (hp' : pc1 + 3 = pcF) (kT : ¬ x = y → own_W p e below K T (mkF m pcT Ls S)) (kF : x = y → own_W p e below K T (mkF m pcF Ls S)) : own_W p e below K T (mkF m pc Ls (.long y :: .long x :: S)) := own_lcmp X hx pc1 hd1 hp1 (own_if_ne X hx pcT pcF hd ho hp hp' (fun q => kT (fun r => q ((lw_eq x y).mpr r))) (fun q => kF ((lw_eq x y).mp q)))
end Plain
section Rets
theorem own_retI (X : Stand p l e R s m args below meth c T locs cells slots) (hx : p.tables.exec = Jvm.exec) {z : Int32} (hret : meth.sig.returnType = some .int) (hlk : meth.locks = false) (hd : decode c.code pc = .ok (.ireturn, 1)) (hc : cells ≤ R.cells) (hl : slots ≤ R.slots) (q : Q (some (.int z)) T.heap locs) : own_W p e below (own_K s R Q) T (mkF m pc Ls (.int z :: S)) := by
  obtain ⟨fs, hr, hrun, hended, hW, hsame⟩ := X.leave (v := some (.int z)) (fun h => by rw [hret] at h; cases h) hlk
  exact ⟨_, _, retI X hx hret hd hr, hrun, hended, _, _, rfl, q, ⟨_, rfl⟩, hW, hsame.mono hc hl⟩
theorem own_retZ (X : Stand p l e R s m args below meth c T locs cells slots) (hx : p.tables.exec = Jvm.exec) {z : Int32} (z' : Int32) (hz : z &&& 1 = z') (hret : meth.sig.returnType = some .boolean) (hlk : meth.locks = false) (hd : decode c.code pc = .ok (.ireturn, 1)) (hc : cells ≤ R.cells) (hl : slots ≤ R.slots) (q : Q (some (.int z')) T.heap locs) : own_W p e below (own_K s R Q) T (mkF m pc Ls (.int z :: S)) := by
  subst hz
  obtain ⟨fs, hr, hrun, hended, hW, hsame⟩ := X.leave (v := some (.int (nar .boolean z))) (fun h => by rw [hret] at h; cases h) hlk
  exact ⟨_, _, retN X hx (t := .boolean) hret (by simp) hd hr, hrun, hended, _, _, rfl, q, ⟨_, rfl⟩, hW, hsame.mono hc hl⟩
theorem own_retJ (X : Stand p l e R s m args below meth c T locs cells slots) (hx : p.tables.exec = Jvm.exec) {z : Int64} (hret : meth.sig.returnType = some .long) (hlk : meth.locks = false) (hd : decode c.code pc = .ok (.lreturn, 1)) (hc : cells ≤ R.cells) (hl : slots ≤ R.slots) (q : Q (some (.long z)) T.heap locs) : own_W p e below (own_K s R Q) T (mkF m pc Ls [.long z]) := by
  obtain ⟨fs, hr, hrun, hended, hW, hsame⟩ := X.leave (v := some (.long z)) (fun h => by rw [hret] at h; cases h) hlk
  exact ⟨_, _, X.lreturnOut hx hret hd hr, hrun, hended, _, _, rfl, q, ⟨_, rfl⟩, hW, hsame.mono hc hl⟩
theorem own_retA (X : Stand p l e R s m args below meth c T locs cells slots) (hx : p.tables.exec = Jvm.exec) {z : Addr} {t : FieldType} (hret : meth.sig.returnType = some t) (ht : t.isReference = true) (hlk : meth.locks = false) (hd : decode c.code pc = .ok (.areturn, 1)) (hc : cells ≤ R.cells) (hl : slots ≤ R.slots) (q : Q (some (.ref z)) T.heap locs) : own_W p e below (own_K s R Q) T (mkF m pc Ls [.ref z]) := by
  obtain ⟨fs, hr, hrun, hended, hW, hsame⟩ := X.leave (v := some (.ref z)) (fun h => by rw [hret] at h; cases h) hlk
  exact ⟨_, _, X.areturnOut hx rfl hret ht hd hr, hrun, hended, _, _, rfl, q, ⟨_, rfl⟩, hW, hsame.mono hc hl⟩
theorem own_retV (X : Stand p l e R s m args below meth c T locs cells slots) (hx : p.tables.exec = Jvm.exec) (hret : meth.sig.returnType = none) (hlk : meth.locks = false) (hd : decode c.code pc = .ok (.return_, 1)) (hc : cells ≤ R.cells) (hl : slots ≤ R.slots) (q : Q none T.heap locs) : own_W p e below (own_K s R Q) T (mkF m pc Ls []) := by
  obtain ⟨fs, hr, hrun, hended, hW, hsame⟩ := X.leave (v := none) (fun _ => rfl) hlk
  exact ⟨_, _, X.returnOut hx hret hd hr, hrun, hended, _, _, rfl, q, ⟨_, rfl⟩, hW, hsame.mono hc hl⟩
end Rets
section Heaps
theorem own_getF (X : Stand p l e R s m args below meth c T locs cells slots) (hx : p.tables.exec = Jvm.exec) (hZ : Z.Warmed39 s.vm) (hown : s.vm.findClass own = some m.cls) (eT : T.heap = h) {O n d : String} {a : Addr} {v : Value} (pc' : Nat) (w : (Jvm.Cond.fieldLink own index O n d).before a0 Z = true) (F : Fld Z h a O n d v) (hd : decode c.code pc = .ok (.getfield index, 3)) (hp : pc + 3 = pc')
    (k : ∀ T', Stand p l e R s m args below meth c T' locs cells slots → T'.heap = h → own_W p e below K T' (mkF m pc' Ls (v :: S))) : own_W p e below K T (mkF m pc Ls (.ref a :: S)) := by
  subst hp
  obtain ⟨T', X', e', st⟩ := getF X hx hZ hown (host := "") (Or.inl w) Via.refl eT F (g := mkF m pc Ls (.ref a :: S)) rfl rfl hd
  exact own_s st (k T' X' e')
theorem own_putF (X : Stand p l e R s m args below meth c T locs cells slots) (hx : p.tables.exec = Jvm.exec) (hZ : Z.Warmed39 s.vm) (hown : s.vm.findClass own = some m.cls) (eT : T.heap = h) {O n d C : String} {a : Addr} {v old : Value} {kk : Nat} {ty : FieldType} (pc' : Nat) (w : (Jvm.Cond.fieldLink own index O n d).before a0 Z = true) (F : Fld Z h a O n d old) (E : Exa Z h a C) (L : (Jvm.Cond.lays C O n d).before a0 Z = true ∨ ((Jvm.Cond.laysFinal C O n d).before a0 Z = true ∧ own = O ∧ meth.name = "<init>")) (wi : (Jvm.Cond.instantiable C kk).before a0 Z = true)
    (hty : parseFieldDescriptor d = some ty) (hn : narrow ty v = v) (hf : fits ty v = true) (hd : decode c.code pc = .ok (.putfield index, 3)) (hp : pc + 3 = pc')
    (k : ∀ T' h', Stand p l e R s m args below meth c T' (locs ++ [⟨a, Jvm.RoadKit.slotOf Z O n d⟩]) cells slots → T'.heap = h' → Wr h h' a (Jvm.RoadKit.slotOf Z O n d) v → own_W p e below K T' (mkF m pc' Ls S)) : own_W p e below K T (mkF m pc Ls (v :: .ref a :: S)) := by
  subst hp
  obtain ⟨T', h', X', e', W, st⟩ := putF X hx hZ hown (host := "") (Or.inl w) Via.refl eT F E L wi hty hn hf (g := mkF m pc Ls (v :: .ref a :: S)) rfl rfl hd
  exact own_s st (k T' h' X' e' W)
theorem own_putZ (X : Stand p l e R s m args below meth c T locs cells slots) (hx : p.tables.exec = Jvm.exec) (hZ : Z.Warmed39 s.vm) (hown : s.vm.findClass own = some m.cls) (eT : T.heap = h) {O n d C : String} {a : Addr} {v : Int32} {old : Value} {kk : Nat} (pc' : Nat) (w : (Jvm.Cond.fieldLink own index O n d).before a0 Z = true) (F : Fld Z h a O n d old) (E : Exa Z h a C) (L : (Jvm.Cond.lays C O n d).before a0 Z = true ∨ ((Jvm.Cond.laysFinal C O n d).before a0 Z = true ∧ own = O ∧ meth.name = "<init>")) (wi : (Jvm.Cond.instantiable C kk).before a0 Z = true)
    (hty : parseFieldDescriptor d = some .boolean) (hd : decode c.code pc = .ok (.putfield index, 3)) (hp : pc + 3 = pc')
    (k : ∀ T' h', Stand p l e R s m args below meth c T' (locs ++ [⟨a, Jvm.RoadKit.slotOf Z O n d⟩]) cells slots → T'.heap = h' → Wr h h' a (Jvm.RoadKit.slotOf Z O n d) (.int (v &&& 1)) → own_W p e below K T' (mkF m pc' Ls S)) : own_W p e below K T (mkF m pc Ls (.int v :: .ref a :: S)) := by
  subst hp
  obtain ⟨T', h', X', e', W, st⟩ := putFN X hx hZ hown w Via.refl eT F E L wi (ty := .boolean) (v' := .int (nar .boolean v)) hty rfl (fits_nar_bool _) (g := mkF m pc Ls (.int v :: .ref a :: S)) rfl rfl hd
  exact own_s st (k T' h' X' e' W)
theorem own_new (X : Stand p l e R s m args below meth c T locs cells slots) (hx : p.tables.exec = Jvm.exec) (hZ : Z.Warmed39 s.vm) (hown : s.vm.findClass own = some m.cls) (eT : T.heap = h) {C : String} {n : Nat} (pc' : Nat) (w : (Jvm.Cond.classLink own index C).before a0 Z = true) (wi : (Jvm.Cond.instantiable C n).before a0 Z = true) (wz : (Jvm.Cond.initialized C).before a0 Z = true) (hd : decode c.code pc = .ok (.new index, 3)) (hp : pc + 3 = pc') (hc : cells + 1 ≤ R.cells) (hl : slots + n ≤ R.slots)
    (k : ∀ T' h' a, Stand p l e R s m args below meth c T' locs (cells + 1) (slots + n) → T'.heap = h' → a = h.size → Ext h h' → Exa Z h' a C → (∀ {O nm d : String} {ty : FieldType}, Laid Z a0 C O nm d → parseFieldDescriptor d = some ty → Fld Z h' a O nm d (defaultValue ty)) → own_W p e below K T' (mkF m pc' Ls (.ref a :: S))) : own_W p e below K T (mkF m pc Ls S) := by
  subst hp
  obtain ⟨T', h', X', e', E, A, D, -, st⟩ := newO X hx hZ hown w wi wz eT (g := mkF m pc Ls S) rfl hd hc hl
  exact own_s st (k T' h' _ X' e' rfl E A D)
theorem own_initO (X : Stand p l e R s m args below meth c T locs cells slots) (hx : p.tables.exec = Jvm.exec) (hZ : Z.Warmed39 s.vm) (hown : s.vm.findClass own = some m.cls) (eT : T.heap = h) {a : Addr} {W : Nat} (pc' : Nat) (w1 : (Jvm.Cond.methodLink own index Lib.objectInit).before a0 Z = true) (w2 : (Jvm.Cond.instanceMethod Lib.objectInit).before a0 Z = true) (w3 : (Jvm.Cond.code Lib.objectInit ⟨#[0xb1]⟩ 1 none).before a0 Z = true) (hsize : Ls.size = c.maxLocals) (hd : decode c.code pc = .ok (.invokespecial index, 3)) (hp : pc + 3 = pc')
    (hf : 1 ≤ R.frames) (hW : (S.map fun v => v.category).sum = W) (hl : W + 12 ≤ R.locals)
    (k : ∀ T', Stand p l e R s m args below meth c T' locs cells slots → T'.heap = h → own_W p e below K T' (mkF m pc' Ls S)) : own_W p e below K T (mkF m pc Ls (.ref a :: S)) := by
  subst hp
  obtain ⟨T', X', e', st⟩ := initO X hx hZ hown w1 w2 w3 eT (g := mkF m pc Ls (.ref a :: S)) rfl hsize rfl hd hf (W := W) (by show 2 * 0 + _ ≤ _; rw [hW]; omega) hl
  exact own_s st (k T' X' e')
theorem own_callS (X : Stand p l e R s m args below meth c T locs cells slots) (hx : p.tables.exec = Jvm.exec) (hZ : Z.Warmed39 s.vm) (hown : s.vm.findClass own = some m.cls) (eT : T.heap = h) {argsL rest : List Value} {W : Nat} (pc' : Nat) (hM : own_C l Z y bytes maxL ret [] rm argsL.toArray h Q) (w1 : (Jvm.Cond.methodLink own index y).before a0 Z = true) (w2 : (Jvm.Cond.static y).before a0 Z = true) (w3 : (Jvm.Cond.initialized y.cls).before a0 Z = true) (w4 : (Jvm.Cond.code y bytes maxL ret).before a0 Z = true)
    (hy : y.cls ≠ "java/lang/invoke/MethodHandle" ∧ y.cls ≠ "java/lang/invoke/VarHandle") (hsize : Ls.size = c.maxLocals) (hlen : ∀ sig, parseMethodDescriptor y.desc = some sig → argsL.length = sig.parameters.length) (hst : S = argsL.reverse ++ rest) (hd : decode c.code pc = .ok (.invokestatic index, 3)) (hp : pc + 3 = pc')
    (hW : (rest.map fun v => v.category).sum = W) (hf : rm.frames + 1 ≤ R.frames) (hl : W + (maxL + 11) + rm.locals ≤ R.locals) (hc : cells + rm.cells ≤ R.cells) (hs : slots + rm.slots ≤ R.slots)
    (k : ∀ v T' L, Stand p l e R s m args below meth c T' (locs ++ L) (cells + rm.cells) (slots + rm.slots) → Q v T'.heap L → own_W p e below K T' (mkF m pc' Ls (v.toList ++ rest))) : own_W p e below K T (mkF m pc Ls S) := by
  subst hp hst
  obtain ⟨v, vm₁, ⟨T', L', k', n'⟩, -, X', ⟨L, hQ, l1, y1, z1⟩, st⟩ := Jvm.LawKit.callS X hx (y := y) hown (mvT hZ w1) (mvT hZ w2) (mvT hZ w3) (mvT hZ w4) hy (backOf (W := W) hM hZ w4 w3 hf hl) (g := mkF m pc Ls (argsL.reverse ++ rest)) rfl hsize (argsL := argsL) (rest := rest) hlen rfl (by show 2 * 0 + _ ≤ _; rw [hW]; omega) hd (fun _ _ => ⟨rfl, eT, hc, hs⟩)
  dsimp only [Pt.U, Pt.locs, Pt.cells, Pt.slots] at X' l1 y1 z1 st hQ
  subst l1 y1 z1
  exact own_s st (k v T' L X' hQ)
theorem own_callI (X : Stand p l e R s m args below meth c T locs cells slots) (hx : p.tables.exec = Jvm.exec) (hZ : Z.Warmed39 s.vm) (hown : s.vm.findClass own = some m.cls) (eT : T.heap = h) {a : Addr} {argsL rest : List Value} {W : Nat} (pc' : Nat) (hM : own_C l Z y bytes maxL none [] rm (.ref a :: argsL).toArray h Q) (hn : y.name = "<init>") (w1 : (Jvm.Cond.methodLink own index y).before a0 Z = true) (w2 : (Jvm.Cond.instanceMethod y).before a0 Z = true) (w3 : (Jvm.Cond.initialized y.cls).before a0 Z = true) (w4 : (Jvm.Cond.code y bytes maxL none).before a0 Z = true)
    (hy : y.cls ≠ "java/lang/invoke/MethodHandle" ∧ y.cls ≠ "java/lang/invoke/VarHandle") (hsize : Ls.size = c.maxLocals) (hlen : ∀ sig, parseMethodDescriptor y.desc = some sig → argsL.length = sig.parameters.length) (hst : S = argsL.reverse ++ .ref a :: rest) (hd : decode c.code pc = .ok (.invokespecial index, 3)) (hp : pc + 3 = pc')
    (hW : (rest.map fun v => v.category).sum = W) (hf : rm.frames + 1 ≤ R.frames) (hl : W + (maxL + 11) + rm.locals ≤ R.locals) (hc : cells + rm.cells ≤ R.cells) (hs : slots + rm.slots ≤ R.slots)
    (k : ∀ v T' L, Stand p l e R s m args below meth c T' (locs ++ L) (cells + rm.cells) (slots + rm.slots) → Q v T'.heap L → own_W p e below K T' (mkF m pc' Ls (v.toList ++ rest))) : own_W p e below K T (mkF m pc Ls S) := by
  subst hp hst
  obtain ⟨v, vm₁, ⟨T', L', k', n'⟩, -, X', ⟨L, hQ, l1, y1, z1⟩, st⟩ := X.specialBack hx (y := y) hn hown (mvT hZ w1) (mvT hZ w2) (mvT hZ w4) hy (backOf (W := W) hM hZ w4 w3 hf hl) (g := mkF m pc Ls (argsL.reverse ++ .ref a :: rest)) rfl hsize (Steps.refl _) (a := a) (argsL := argsL) (rest := rest) hlen rfl (by show 2 * 0 + _ ≤ _; rw [hW]; omega) hd (fun _ _ => ⟨rfl, eT, hc, hs⟩)
  dsimp only [Pt.U, Pt.locs, Pt.cells, Pt.slots] at X' l1 y1 z1 st hQ
  subst l1 y1 z1
  exact own_s' st (k v T' L X' hQ)
theorem own_callV (X : Stand p l e R s m args below meth c T locs cells slots) (hx : p.tables.exec = Jvm.exec) (hZ : Z.Warmed39 s.vm) (hown : s.vm.findClass own = some m.cls) (eT : T.heap = h) {a : Addr} {argsL rest : List Value} {W : Nat} (pc' : Nat) (hM : own_C l Z y bytes maxL ret [] rm (.ref a :: argsL).toArray h Q) (E : Exa Z h a y.cls) (w1 : (Jvm.Cond.methodLink own index y).before a0 Z = true) (w2 : (Jvm.Cond.declares y).before a0 Z = true) (w5 : (Jvm.Cond.selects y.cls y y).before a0 Z = true) (w6 : (Jvm.Cond.instanceMethod y).before a0 Z = true) (w3 : (Jvm.Cond.initialized y.cls).before a0 Z = true) (w4 : (Jvm.Cond.code y bytes maxL ret).before a0 Z = true)
    (hy : y.cls ≠ "java/lang/invoke/MethodHandle" ∧ y.cls ≠ "java/lang/invoke/VarHandle") (hsize : Ls.size = c.maxLocals) (hlen : ∀ sig, parseMethodDescriptor y.desc = some sig → argsL.length = sig.parameters.length) (hst : S = argsL.reverse ++ .ref a :: rest) (hd : decode c.code pc = .ok (.invokevirtual index, 3)) (hp : pc + 3 = pc')
    (hW : (rest.map fun v => v.category).sum = W) (hf : rm.frames + 1 ≤ R.frames) (hl : W + (maxL + 11) + rm.locals ≤ R.locals) (hc : cells + rm.cells ≤ R.cells) (hs : slots + rm.slots ≤ R.slots)
    (k : ∀ v T' L, Stand p l e R s m args below meth c T' (locs ++ L) (cells + rm.cells) (slots + rm.slots) → Q v T'.heap L → own_W p e below K T' (mkF m pc' Ls (v.toList ++ rest))) : own_W p e below K T (mkF m pc Ls S) := by
  subst hp hst
  obtain ⟨cq, kq, qa, qb, qc⟩ := isOf hZ eT E
  obtain ⟨v, vm₁, ⟨T', L', k', n'⟩, -, X', ⟨L, hQ, l1, y1, z1⟩, st⟩ := X.virtualBack hx (y := y) (z := y) hown (mvT hZ w1) (mvT hZ w2) (notFace_of_selects (args := #[]) (mvT hZ w5)) (mvT hZ w5) (mvT hZ w6) hy (backOf (W := W) hM hZ w4 w3 hf hl) qa qc (g := mkF m pc Ls (argsL.reverse ++ .ref a :: rest)) rfl hsize (Steps.refl _) (argsL := argsL) (rest := rest) hlen rfl (by show 2 * 0 + _ ≤ _; rw [hW]; omega) hd (fun _ _ => ⟨rfl, eT, hc, hs⟩)
  dsimp only [Pt.U, Pt.locs, Pt.cells, Pt.slots] at X' l1 y1 z1 st hQ
  subst l1 y1 z1
  exact own_s' st (k v T' L X' hQ)
/-- an array of ints (bytes, booleans): n places, place j holds f j -/
def own_AI (Z : State) (h : Heap) (a : Addr) (ty : FieldType) (n : Nat) (f : Nat → Int32) : Prop := ∃ c : Cell, Arr Z h a c ty ∧ c.slots.size = n ∧ ∀ j, j < n → c.slots[j]? = some (.int (f j))
def own_AJ (Z : State) (h : Heap) (a : Addr) (n : Nat) (f : Nat → Int64) : Prop := ∃ c : Cell, Arr Z h a c .long ∧ c.slots.size = n ∧ ∀ j, j < n → c.slots[j]? = some (.long (f j))
section Arrs
variable {a b : Addr} {n i : Nat} {ty : FieldType} {f : Nat → Int32} {fj : Nat → Int64} {j : Int32} {ws : List Addr} {v : Value} {sl : Nat}
theorem own_AI.lt (A : own_AI Z h a ty n f) : a < h.size := by obtain ⟨c, A, -⟩ := A; exact A.lt
theorem own_AJ.lt (A : own_AJ Z h a n fj) : a < h.size := by obtain ⟨c, A, -⟩ := A; exact A.lt
theorem own_AI.ext (A : own_AI Z h a ty n f) (E : Ext h h') : own_AI Z h' a ty n f := by obtain ⟨c, A, r⟩ := A; exact ⟨c, A.ext E, r⟩
theorem own_AJ.ext (A : own_AJ Z h a n fj) (E : Ext h h') : own_AJ Z h' a n fj := by obtain ⟨c, A, r⟩ := A; exact ⟨c, A.ext E, r⟩
theorem own_AI.other (A : own_AI Z h a ty n f) (W : Wr h h' b sl v) (q : a ≠ b) : own_AI Z h' a ty n f := by obtain ⟨c, A, r⟩ := A; exact ⟨c, A.other W q, r⟩
theorem own_AJ.other (A : own_AJ Z h a n fj) (W : Wr h h' b sl v) (q : a ≠ b) : own_AJ Z h' a n fj := by obtain ⟨c, A, r⟩ := A; exact ⟨c, A.other W q, r⟩
theorem own_AI.keep (A : own_AI Z h a ty n f) (K : Keep h h' ws) (q : a ∉ ws) : own_AI Z h' a ty n f := by obtain ⟨c, A, r⟩ := A; exact ⟨c, ⟨K.2.1 a c A.1 q, A.2⟩, r⟩
theorem own_AJ.keep (A : own_AJ Z h a n fj) (K : Keep h h' ws) (q : a ∉ ws) : own_AJ Z h' a n fj := by obtain ⟨c, A, r⟩ := A; exact ⟨c, ⟨K.2.1 a c A.1 q, A.2⟩, r⟩
theorem own_AI.set {x : Int32} (A : own_AI Z h a ty n f) (W : Wr h h' a i (.int x)) : own_AI Z h' a ty n (fun q => if q = i then x else f q) := by
  obtain ⟨c, A, S, H⟩ := A
  refine ⟨_, A.same W, by rw [sz_set]; exact S, fun q hq => ?_⟩
  by_cases e : q = i
  · subst e; simp [Cell.setSlot, S, hq]
  · simp only [Cell.setSlot, if_neg e]; rw [Array.getElem?_setIfInBounds_ne (Ne.symm e)]; exact H q hq
theorem own_AJ.set {x : Int64} (A : own_AJ Z h a n fj) (W : Wr h h' a i (.long x)) : own_AJ Z h' a n (fun q => if q = i then x else fj q) := by
  obtain ⟨c, A, S, H⟩ := A
  refine ⟨_, A.same W, by rw [sz_set]; exact S, fun q hq => ?_⟩
  by_cases e : q = i
  · subst e; simp [Cell.setSlot, S, hq]
  · simp only [Cell.setSlot, if_neg e]; rw [Array.getElem?_setIfInBounds_ne (Ne.symm e)]; exact H q hq
theorem own_AI.congr {g : Nat → Int32} (A : own_AI Z h a ty n f) (q : ∀ j, j < n → f j = g j) : own_AI Z h a ty n g := by obtain ⟨c, A, S, H⟩ := A; exact ⟨c, A, S, fun j hj => by rw [← q j hj]; exact H j hj⟩
theorem own_AJ.congr {g : Nat → Int64} (A : own_AJ Z h a n fj) (q : ∀ j, j < n → fj j = g j) : own_AJ Z h a n g := by obtain ⟨c, A, S, H⟩ := A; exact ⟨c, A, S, fun j hj => by rw [← q j hj]; exact H j hj⟩
theorem own_nat {j : Int32} {i : Nat} (q : j.toInt = i) : j.toNatClampNeg = i := by show j.toInt.toNat = i; rw [q]; exact Int.toNat_natCast i
theorem own_inb {j : Int32} {i n : Nat} (q : j.toInt = i) (r : i < n) {k : Nat} (e : k = n) : ¬ (j < 0 ∨ k ≤ j.toNatClampNeg) := by
  rw [own_nat q]; rintro (u | u)
  · rw [Int32.lt_iff_toInt_lt] at u; rw [q] at u; have : (0 : Int32).toInt = 0 := rfl; omega
  · omega
theorem own_iaload (X : Stand p l e R s m args below meth c T locs cells slots) (hx : p.tables.exec = Jvm.exec) (hZ : Z.Warmed39 s.vm) (eT : T.heap = h) (pc' : Nat) (i : Nat) (A : own_AI Z h a .int n f) (hj : j.toInt = i) (hi : i < n) (hd : decode c.code pc = .ok (.iaload, 1)) (hp : pc + 1 = pc') (k : own_W p e below K T (mkF m pc' Ls (.int (f i) :: S))) : own_W p e below K T (mkF m pc Ls (.int j :: .ref a :: S)) := by
  subst hp
  obtain ⟨cl, A, Sz, H⟩ := A
  exact own_s (fun t => X.iaload hx (j := j) (by rw [eT]; exact A.1) (State.isArrayOf_alike hZ.alike A.2.1) A.2.2 (own_inb hj hi Sz) (by rw [own_nat hj]; exact H i hi) (g := mkF m pc Ls (.int j :: .ref a :: S)) rfl rfl hd t) k
theorem own_baload (X : Stand p l e R s m args below meth c T locs cells slots) (hx : p.tables.exec = Jvm.exec) (hZ : Z.Warmed39 s.vm) (eT : T.heap = h) (pc' : Nat) (i : Nat) (A : own_AI Z h a .byte n f) (hj : j.toInt = i) (hi : i < n) (hd : decode c.code pc = .ok (.baload, 1)) (hp : pc + 1 = pc') (k : own_W p e below K T (mkF m pc' Ls (.int (f i) :: S))) : own_W p e below K T (mkF m pc Ls (.int j :: .ref a :: S)) := by
  subst hp
  obtain ⟨cl, A, Sz, H⟩ := A
  exact own_s (fun t => X.baloadBytes hx (j := j) (by rw [eT]; exact A.1) (State.isArrayOf_alike hZ.alike A.2.1) A.2.2 (own_inb hj hi Sz) (by rw [own_nat hj]; exact H i hi) (g := mkF m pc Ls (.int j :: .ref a :: S)) rfl rfl hd t) k
theorem own_laload (X : Stand p l e R s m args below meth c T locs cells slots) (hx : p.tables.exec = Jvm.exec) (hZ : Z.Warmed39 s.vm) (eT : T.heap = h) (pc' : Nat) (i : Nat) (A : own_AJ Z h a n fj) (hj : j.toInt = i) (hi : i < n) (hd : decode c.code pc = .ok (.laload, 1)) (hp : pc + 1 = pc') (k : own_W p e below K T (mkF m pc' Ls (.long (fj i) :: S))) : own_W p e below K T (mkF m pc Ls (.int j :: .ref a :: S)) := by
  subst hp
  obtain ⟨cl, A, Sz, H⟩ := A
  exact own_s (fun t => X.laload hx (j := j) (by rw [eT]; exact A.1) (State.isArrayOf_alike hZ.alike A.2.1) A.2.2 (own_inb hj hi Sz) (by rw [own_nat hj]; exact H i hi) (g := mkF m pc Ls (.int j :: .ref a :: S)) rfl rfl hd t) k
theorem own_iastore (X : Stand p l e R s m args below meth c T locs cells slots) (hx : p.tables.exec = Jvm.exec) (hZ : Z.Warmed39 s.vm) (eT : T.heap = h) {x : Int32} (pc' : Nat) (i : Nat) (A : own_AI Z h a .int n f) (hj : j.toInt = i) (hi : i < n) (hd : decode c.code pc = .ok (.iastore, 1)) (hp : pc + 1 = pc')
    (k : ∀ T' h', Stand p l e R s m args below meth c T' (locs ++ [⟨a, i⟩]) cells slots → T'.heap = h' → Wr h h' a i (.int x) → own_W p e below K T' (mkF m pc' Ls S)) : own_W p e below K T (mkF m pc Ls (.int x :: .int j :: .ref a :: S)) := by
  subst hp
  obtain ⟨cl, A, Sz, H⟩ := A
  obtain ⟨T', h', X', e', W, st⟩ := stI X hx hZ eT A (j := j) (own_inb hj hi Sz) (g := mkF m pc Ls (.int x :: .int j :: .ref a :: S)) rfl rfl hd
  rw [own_nat hj] at X' W
  exact own_s st (k T' h' X' e' W)
theorem own_bastore (X : Stand p l e R s m args below meth c T locs cells slots) (hx : p.tables.exec = Jvm.exec) (hZ : Z.Warmed39 s.vm) (eT : T.heap = h) {x : Int32} (pc' : Nat) (i : Nat) (A : own_AI Z h a .byte n f) (hj : j.toInt = i) (hi : i < n) (hd : decode c.code pc = .ok (.bastore, 1)) (hp : pc + 1 = pc')
    (k : ∀ T' h', Stand p l e R s m args below meth c T' (locs ++ [⟨a, i⟩]) cells slots → T'.heap = h' → Wr h h' a i (.int x.toInt8.toInt32) → own_W p e below K T' (mkF m pc' Ls S)) : own_W p e below K T (mkF m pc Ls (.int x :: .int j :: .ref a :: S)) := by
  subst hp
  obtain ⟨cl, A, Sz, H⟩ := A
  obtain ⟨T', h', X', e', W, st⟩ := stB X hx hZ eT A (j := j) (own_inb hj hi Sz) (g := mkF m pc Ls (.int x :: .int j :: .ref a :: S)) rfl rfl hd
  rw [own_nat hj] at X' W
  exact own_s st (k T' h' X' e' W)
theorem own_lastore (X : Stand p l e R s m args below meth c T locs cells slots) (hx : p.tables.exec = Jvm.exec) (hZ : Z.Warmed39 s.vm) (eT : T.heap = h) {x : Int64} (pc' : Nat) (i : Nat) (A : own_AJ Z h a n fj) (hj : j.toInt = i) (hi : i < n) (hd : decode c.code pc = .ok (.lastore, 1)) (hp : pc + 1 = pc')
    (k : ∀ T' h', Stand p l e R s m args below meth c T' (locs ++ [⟨a, i⟩]) cells slots → T'.heap = h' → Wr h h' a i (.long x) → own_W p e below K T' (mkF m pc' Ls S)) : own_W p e below K T (mkF m pc Ls (.long x :: .int j :: .ref a :: S)) := by
  subst hp
  obtain ⟨cl, A, Sz, H⟩ := A
  obtain ⟨T', h', X', e', W, st⟩ := stJ X hx hZ eT A (j := j) (own_inb hj hi Sz) (g := mkF m pc Ls (.long x :: .int j :: .ref a :: S)) rfl rfl hd
  rw [own_nat hj] at X' W
  exact own_s st (k T' h' X' e' W)
theorem own_arraylength (X : Stand p l e R s m args below meth c T locs cells slots) (hx : p.tables.exec = Jvm.exec) (hZ : Z.Warmed39 s.vm) (eT : T.heap = h) (pc' : Nat) {z : Int32} (A : own_AI Z h a ty n f) (hz : z.toInt = n) (hd : decode c.code pc = .ok (.arraylength, 1)) (hp : pc + 1 = pc') (k : own_W p e below K T (mkF m pc' Ls (.int z :: S))) : own_W p e below K T (mkF m pc Ls (.ref a :: S)) := by
  subst hp
  obtain ⟨cl, A, Sz, H⟩ := A
  have q : cl.slots.size.toInt32 = z := len_of (by rw [Sz, own_nat hz]) (fun u => by rw [Int32.lt_iff_toInt_lt, hz] at u; have : (0 : Int32).toInt = 0 := rfl; omega)
  rw [← q] at k
  exact own_s (fun t => X.arraylength hx (by rw [eT]; exact A.1) (State.isArrayOf_alike hZ.alike A.2.1) (g := mkF m pc Ls (.ref a :: S)) rfl rfl hd t) k
theorem own_arraylengthJ (X : Stand p l e R s m args below meth c T locs cells slots) (hx : p.tables.exec = Jvm.exec) (hZ : Z.Warmed39 s.vm) (eT : T.heap = h) (pc' : Nat) {z : Int32} (A : own_AJ Z h a n fj) (hz : z.toInt = n) (hd : decode c.code pc = .ok (.arraylength, 1)) (hp : pc + 1 = pc') (k : own_W p e below K T (mkF m pc' Ls (.int z :: S))) : own_W p e below K T (mkF m pc Ls (.ref a :: S)) := by
  subst hp
  obtain ⟨cl, A, Sz, H⟩ := A
  have q : cl.slots.size.toInt32 = z := len_of (by rw [Sz, own_nat hz]) (fun u => by rw [Int32.lt_iff_toInt_lt, hz] at u; have : (0 : Int32).toInt = 0 := rfl; omega)
  rw [← q] at k
  exact own_s (fun t => X.arraylength hx (by rw [eT]; exact A.1) (State.isArrayOf_alike hZ.alike A.2.1) (g := mkF m pc Ls (.ref a :: S)) rfl rfl hd t) k
theorem own_newI (X : Stand p l e R s m args below meth c T locs cells slots) (hx : p.tables.exec = Jvm.exec) (hZ : Z.Warmed39 s.vm) (eT : T.heap = h) {aty : ArrayType} {z : Int32} {n cap : Nat} (pc' : Nat) (ty : FieldType) (hty : newarray.typeOf aty = ty) (hdef : defaultValue ty = .int 0) (w : (Jvm.Cond.arrayClass ty).before a0 Z = true) (hz : z.toInt = n) (hcap : n ≤ cap) (hb : cap * 8 ≤ 536870912) (hd : decode c.code pc = .ok (.newarray aty, 2)) (hp : pc + 2 = pc') (hc : cells + 1 ≤ R.cells) (hl : slots + cap ≤ R.slots)
    (k : ∀ T' h' a, Stand p l e R s m args below meth c T' locs (cells + 1) (slots + cap) → T'.heap = h' → a = h.size → Ext h h' → own_AI Z h' a ty n (fun _ => 0) → own_W p e below K T' (mkF m pc' Ls (.ref a :: S))) : own_W p e below K T (mkF m pc Ls (.int z :: S)) := by
  subst hp hty
  obtain ⟨T', h', cA, X', e', E, A, st⟩ := newP X hx hZ w eT (g := mkF m pc Ls (.int z :: S)) rfl hd rfl (fun u => by rw [Int32.lt_iff_toInt_lt, hz] at u; have : (0 : Int32).toInt = 0 := rfl; omega) (cap := cap) (by rw [own_nat hz]; exact hcap) hb hc hl
  refine own_s st (k T' h' _ X' e' rfl E ⟨_, A, by rw [sz_new, own_nat hz], fun j hj => ?_⟩)
  simp [newA, own_nat hz, hj, hdef]
theorem own_newJ (X : Stand p l e R s m args below meth c T locs cells slots) (hx : p.tables.exec = Jvm.exec) (hZ : Z.Warmed39 s.vm) (eT : T.heap = h) {z : Int32} {n cap : Nat} (pc' : Nat) (w : (Jvm.Cond.arrayClass .long).before a0 Z = true) (hz : z.toInt = n) (hcap : n ≤ cap) (hb : cap * 8 ≤ 536870912) (hd : decode c.code pc = .ok (.newarray .long, 2)) (hp : pc + 2 = pc') (hc : cells + 1 ≤ R.cells) (hl : slots + cap ≤ R.slots)
    (k : ∀ T' h' a, Stand p l e R s m args below meth c T' locs (cells + 1) (slots + cap) → T'.heap = h' → a = h.size → Ext h h' → own_AJ Z h' a n (fun _ => 0) → own_W p e below K T' (mkF m pc' Ls (.ref a :: S))) : own_W p e below K T (mkF m pc Ls (.int z :: S)) := by
  subst hp
  obtain ⟨T', h', cA, X', e', E, A, st⟩ := newP X hx hZ (aty := .long) w eT (g := mkF m pc Ls (.int z :: S)) rfl hd rfl (fun u => by rw [Int32.lt_iff_toInt_lt, hz] at u; have : (0 : Int32).toInt = 0 := rfl; omega) (cap := cap) (by rw [own_nat hz]; exact hcap) hb hc hl
  refine own_s st (k T' h' _ X' e' rfl E ⟨_, A, by rw [sz_new, own_nat hz], fun j hj => ?_⟩)
  simp [newA, own_nat hz, hj, newarray.typeOf, defaultValue]
end Arrs
end Heaps
end OwnLayer
theorem own_toInt (x : Int32) : x.toInt = if x.toBitVec.toNat < 2147483648 then (x.toBitVec.toNat : Int) else (x.toBitVec.toNat : Int) - 4294967296 := by
  show x.toBitVec.toInt = _
  rw [BitVec.toInt_eq_toNat_cond]; split <;> split <;> omega
theorem own_toIntL (x : Int64) : x.toInt = if x.toBitVec.toNat < 9223372036854775808 then (x.toBitVec.toNat : Int) else (x.toBitVec.toNat : Int) - 18446744073709551616 := by
  show x.toBitVec.toInt = _
  rw [BitVec.toInt_eq_toNat_cond]; split <;> split <;> omega
theorem own_shl (x : Int64) (q : Int32) (k : Nat) (hk : q.toBitVec.toNat % 64 = k) : (x <<< (q &&& 0x3f).toInt64).toBitVec = x.toBitVec <<< k := by
  obtain ⟨h1, h2⟩ := sm64 q k hk
  show x.toBitVec <<< ((q &&& 0x3f).toInt64.toBitVec.smod 64) = _
  rw [h1, BitVec.shiftLeft_eq', smod64 k h2]
theorem own_ushr (x : Int64) (q : Int32) (k : Nat) (hk : q.toBitVec.toNat % 64 = k) : ((x.toUInt64 >>> (q &&& 0x3f).toInt64.toUInt64).toInt64).toBitVec = x.toBitVec >>> k := by
  obtain ⟨h1, h2⟩ := sm64 q k hk
  show x.toBitVec >>> ((q &&& 0x3f).toInt64.toBitVec % 64) = _
  rw [h1, BitVec.ushiftRight_eq']
  congr 1
  simp [BitVec.toNat_umod]; omega
theorem own_natL (c : Int64) (h : 0 ≤ c.toInt) : c.toBitVec.toNat = c.toInt.toNat := by
  have := own_toIntL c
  have := c.toBitVec.isLt
  split at * <;> omega
theorem own_l2iB (c : Int64) : c.toInt32.toBitVec.toNat = c.toBitVec.toNat % 4294967296 := by
  have h1 := c_l2i c
  have h2 := own_toInt c.toInt32
  have h3 := own_toIntL c
  have h4 := c.toBitVec.isLt
  have h5 := c.toInt32.toBitVec.isLt
  split at h2 <;> split at h3 <;> omega
theorem own_gshl (x : Int64) (q : Int32) (k : Nat) (hk : q.toInt = k) (hk2 : k < 64) (j : Nat) : (x <<< (q &&& 0x3f).toInt64).toBitVec.getLsbD j = (decide (j < 64) && !decide (j < k) && x.toBitVec.getLsbD (j - k)) := by
  have h := own_toInt q
  rw [own_shl x q k (by split at h <;> omega), BitVec.getLsbD_shiftLeft]
theorem own_gushr (x : Int64) (q : Int32) (k : Nat) (hk : q.toInt = k) (hk2 : k < 64) (j : Nat) : ((x.toUInt64 >>> (q &&& 0x3f).toInt64.toUInt64).toInt64).toBitVec.getLsbD j = x.toBitVec.getLsbD (k + j) := by
  have h := own_toInt q
  rw [own_ushr x q k (by split at h <;> omega), BitVec.getLsbD_ushiftRight]
theorem own_gand (x y : Int64) (j : Nat) : (x &&& y).toBitVec.getLsbD j = (x.toBitVec.getLsbD j && y.toBitVec.getLsbD j) := by
  show (x.toBitVec &&& y.toBitVec).getLsbD j = _; rw [BitVec.getLsbD_and]
theorem own_gor (x y : Int64) (j : Nat) : (x ||| y).toBitVec.getLsbD j = (x.toBitVec.getLsbD j || y.toBitVec.getLsbD j) := by
  show (x.toBitVec ||| y.toBitVec).getLsbD j = _; rw [BitVec.getLsbD_or]
theorem own_gnot (x : Int64) (j : Nat) (hj : j < 64) : (x ^^^ (-1 : Int64)).toBitVec.getLsbD j = !x.toBitVec.getLsbD j := by
  show (x.toBitVec ^^^ BitVec.allOnes 64).getLsbD j = _; rw [BitVec.getLsbD_xor, BitVec.getLsbD_allOnes, decide_eq_true hj, Bool.xor_true]
theorem own_ge (x : Int64) (j : Nat) (hj : 64 ≤ j) : x.toBitVec.getLsbD j = false := BitVec.getLsbD_of_ge _ _ hj
theorem own_ext (x y : Int64) (h : ∀ j, j < 64 → x.toBitVec.getLsbD j = y.toBitVec.getLsbD j) : x = y := by
  rw [← Int64.toBitVec_inj]; exact BitVec.eq_of_getLsbD_eq h
def own_size (q0 : Int64) : Int32 := (if q0 < (128 : Int64) then (1 : Int32) else (if q0 < (16384 : Int64) then (2 : Int32) else (if q0 < (2097152 : Int64) then (3 : Int32) else (if q0 < (268435456 : Int64) then (4 : Int32) else (if q0 < (34359738368 : Int64) then (5 : Int32) else (if q0 < (4398046511104 : Int64) then (6 : Int32) else (if q0 < (562949953421312 : Int64) then (7 : Int32) else (if q0 < (72057594037927936 : Int64) then (8 : Int32) else (9 : Int32)))))))))
def own_cell (x p1 p2 p3 : Int32) (q4 : Int64) (p6 : Int32) : Int32 := (if (p1 - p2) < (0 : Int32) then (if x = p6 then (1 : Int32) else (0 : Int32)) else (if (p1 - p2) < p3 then (if (p1 - p2) < (p3 - (1 : Int32)) then (if x = ((((((q4.toUInt64 >>> (((7 : Int32) * (p1 - p2)) &&& 0x3f).toInt64.toUInt64).toInt64) &&& (127 : Int64)) ||| (128 : Int64)).toInt32).toInt8.toInt32) then (1 : Int32) else (0 : Int32)) else (if x = ((((((q4.toUInt64 >>> (((7 : Int32) * (p1 - p2)) &&& 0x3f).toInt64.toUInt64).toInt64) &&& (127 : Int64)) ||| (0 : Int64)).toInt32).toInt8.toInt32) then (1 : Int32) else (0 : Int32))) else (if x = p6 then (1 : Int32) else (0 : Int32))))
def own_rs (v : Int64) (c : Nat) : Int64 := Int64.ofBitVec (v.toBitVec >>> (7 * c))
def own_hb (v : Int64) (c : Nat) : Int32 := ((((own_rs v c &&& (127 : Int64)) ||| (128 : Int64)).toInt32.toInt8.toInt32).toInt8.toInt32)
def own_lb (v : Int64) (c : Nat) : Int32 := (((own_rs v c).toInt32.toInt8.toInt32).toInt8.toInt32)
theorem own_rsB (v : Int64) (c : Nat) : (own_rs v c).toBitVec = v.toBitVec >>> (7 * c) := rfl
theorem own_rsN (v : Int64) (c : Nat) (h : 0 ≤ v.toInt) : (own_rs v c).toInt = ((v.toInt.toNat / 128 ^ c : Nat) : Int) := by
  have h1 := own_toIntL (own_rs v c)
  rw [own_rsB, BitVec.toNat_ushiftRight, own_natL v h, Nat.shiftRight_eq_div_pow] at h1
  have h2 : 2 ^ (7 * c) = 128 ^ c := by rw [Nat.pow_mul]
  rw [h2] at h1
  have h3 : v.toInt.toNat / 128 ^ c ≤ v.toInt.toNat := Nat.div_le_self _ _
  have h4 := rng64 v
  split at h1 <;> omega
theorem own_rs0 (v : Int64) : own_rs v 0 = v := by
  rw [← Int64.toBitVec_inj, own_rsB]; simp
theorem own_rsS (v : Int64) (c : Nat) : (((own_rs v c).toUInt64 >>> ((7 : Int32) &&& 0x3f).toInt64.toUInt64).toInt64) = own_rs v (c + 1) := by
  rw [← Int64.toBitVec_inj, own_ushr _ 7 7 rfl, own_rsB, own_rsB, show 7 * (c + 1) = 7 * c + 7 from by omega, BitVec.shiftRight_add]
theorem own_stop (x : Int64) (h : 0 ≤ x.toInt) : (x &&& (-128 : Int64) = 0) ↔ x.toInt < 128 := by
  have e : (x &&& (-128 : Int64) = 0) ↔ x.toBitVec >>> 7 = 0#64 := by
    rw [← Int64.toBitVec_inj]
    show x.toBitVec &&& (-128 : Int64).toBitVec = 0#64 ↔ _
    have hm : ∀ j, j < 64 → (-128 : Int64).toBitVec.getLsbD j = decide (7 ≤ j) := by decide
    constructor
    · intro q
      apply BitVec.eq_of_getLsbD_eq
      intro j hj
      rw [BitVec.getLsbD_ushiftRight]
      have r := congrArg (fun z => z.getLsbD (7 + j)) q
      simp only [BitVec.getLsbD_and] at r
      by_cases s : 7 + j < 64
      · rw [hm _ s] at r; simpa using r
      · rw [BitVec.getLsbD_of_ge _ _ (by omega)]; simp
    · intro q
      apply BitVec.eq_of_getLsbD_eq
      intro j hj
      rw [BitVec.getLsbD_and, hm _ hj]
      by_cases s : 7 ≤ j
      · have r := congrArg (fun z => z.getLsbD (j - 7)) q
        simp only [BitVec.getLsbD_ushiftRight] at r
        rw [show 7 + (j - 7) = j from by omega] at r
        simpa [s] using r
      · simp [s]
  rw [e]
  have h1 := own_natL x h
  constructor
  · intro q
    have r := congrArg BitVec.toNat q
    rw [BitVec.toNat_ushiftRight, Nat.shiftRight_eq_div_pow, h1] at r
    have r2 : x.toInt.toNat / 128 = 0 := r
    omega
  · intro q
    apply BitVec.eq_of_toNat_eq
    rw [BitVec.toNat_ushiftRight, Nat.shiftRight_eq_div_pow, h1]
    show x.toInt.toNat / 128 = 0
    omega
theorem own_ii (x : Int32) : x.toInt8.toInt32.toInt8.toInt32 = x.toInt8.toInt32 := by
  rw [← Int32.toInt_inj]
  have h1 := c_i2b x
  have h2 := c_i2b x.toInt8.toInt32
  omega
theorem own_inc (v w : Int32) (c : Nat) (hv : v.toInt = c) (hc : c < 1000) (h : w = v + (1 : Int32)) : w.toInt = ((c + 1 : Nat) : Int) := by
  have h1 := c_iadd v 1
  rw [← h] at h1
  have h2 := rng32 w
  have k : (1 : Int32).toInt = 1 := by decide
  omega
def own_arr (f : Nat → Int32) (at_ c : Nat) (v : Int64) : Nat → Int32 := fun q => if at_ ≤ q ∧ q < at_ + c then own_hb v (q - at_) else f q
theorem own_arrS (f : Nat → Int32) (at_ c : Nat) (v : Int64) : (fun q => if q = at_ + c then own_hb v c else own_arr f at_ c v q) = own_arr f at_ (c + 1) v := by
  funext q
  unfold own_arr
  by_cases r : q = at_ + c
  · subst r
    rw [if_pos rfl, if_pos (by omega)]
    congr 1; omega
  · rw [if_neg r]
    by_cases s : at_ ≤ q ∧ q < at_ + c
    · rw [if_pos s, if_pos (by omega)]
    · rw [if_neg s, if_neg (by omega)]
theorem own_arr0 (f : Nat → Int32) (at_ : Nat) (v : Int64) : f = own_arr f at_ 0 v := by
  funext q; unfold own_arr; rw [if_neg (by omega)]
def own_fin (f : Nat → Int32) (at_ c : Nat) (v : Int64) : Nat → Int32 := fun q => if q = at_ + c then own_lb v c else own_arr f at_ c v q
def own_cnt (v : Int64) (c : Nat) : Prop := c ≤ 8 ∧ (c = 0 ∨ 128 ^ c ≤ v.toInt.toNat) ∧ v.toInt.toNat < 128 ^ (c + 1)
theorem own_turn (v : Int64) (c k at_ : Nat) (vn : Int32) (vr : Int64) (vn' : Int32) (vr' : Int64) (hvn : vn.toInt = ((at_ + c : Nat) : Int)) (hvr : vr = own_rs v c) (hck : c + k = 9) (hlo : c = 0 ∨ 128 ^ c ≤ v.toInt.toNat) (hc8 : c ≤ 8) (h2 : 0 ≤ v.toInt) (h3 : at_ ≤ 6) (hrn : vr.toInt = ((v.toInt.toNat / 128 ^ c : Nat) : Int)) (h : ¬ vr.toInt < 128)
    (e1 : vn' = vn + (1 : Int32)) (e2 : vr' = ((vr.toUInt64 >>> ((7 : Int32) &&& 0x3f).toInt64.toUInt64).toInt64)) (g f : Nat → Int32) (hg : g = own_arr f at_ c v) (g' : Nat → Int32) (hg' : g' = fun q => if q = at_ + c then (((vr &&& (127 : Int64)) ||| (128 : Int64)).toInt32.toInt8.toInt32).toInt8.toInt32 else g q) :
    vn'.toInt = ((at_ + (c + 1) : Nat) : Int) ∧ vr' = own_rs v (c + 1) ∧ c + 1 + (k - 1) = 9 ∧ (c + 1 = 0 ∨ 128 ^ (c + 1) ≤ v.toInt.toNat) ∧ c + 1 ≤ 8 ∧ g' = own_arr f at_ (c + 1) v := by
  have hp : 0 < 128 ^ c := Nat.pos_of_ne_zero (by simp)
  have hd : 128 ≤ v.toInt.toNat / 128 ^ c := by omega
  have hm : 128 ^ (c + 1) ≤ v.toInt.toNat := by
    rw [Nat.pow_succ, Nat.mul_comm]; exact (Nat.le_div_iff_mul_le hp).mp hd
  have hc : c + 1 ≤ 8 := by
    rcases Nat.lt_or_ge c 8 with q | q
    · omega
    · exfalso
      have : c = 8 := by omega
      subst this
      have r := rng64 v
      have : 128 ^ (8 + 1) = 9223372036854775808 := by decide
      omega
  refine ⟨own_inc vn vn' (at_ + c) hvn (by omega) e1, ?_, by omega, Or.inr hm, hc, ?_⟩
  · rw [e2, hvr]; exact own_rsS v c
  · rw [hg', hg, hvr]; exact own_arrS f at_ c v
theorem own_top (v : Int64) (c : Nat) (vr : Int64) (hrn : vr.toInt = ((v.toInt.toNat / 128 ^ c : Nat) : Int)) (h : vr.toInt < 128) : v.toInt.toNat < 128 ^ (c + 1) := by
  have hp : 0 < 128 ^ c := Nat.pos_of_ne_zero (by simp)
  have hd : v.toInt.toNat / 128 ^ c < 128 := by omega
  rw [Nat.pow_succ, Nat.mul_comm]; exact (Nat.div_lt_iff_lt_mul hp).mp hd
theorem own_finE (v : Int64) (c at_ : Nat) (vr : Int64) (hvr : vr = own_rs v c) (g f : Nat → Int32) (hg : g = own_arr f at_ c v) : own_fin f at_ c v = fun q => if q = at_ + c then ((vr.toInt32.toInt8.toInt32).toInt8.toInt32) else g q := by
  rw [hg, hvr]; rfl
set_option maxHeartbeats 8000000 in
theorem own_sizeN (v : Int64) (c : Nat) (h : 0 ≤ v.toInt) (hc : own_cnt v c) : (own_size v).toInt = ((c + 1 : Nat) : Int) := by
  obtain ⟨h1, h2, h3⟩ := hc
  have k0 : (0 : Int32).toInt = 0 := rfl
  have k1 : (1 : Int32).toInt = 1 := rfl
  have k2 : (2 : Int32).toInt = 2 := rfl
  have k3 : (3 : Int32).toInt = 3 := rfl
  have k4 : (4 : Int32).toInt = 4 := rfl
  have k5 : (5 : Int32).toInt = 5 := rfl
  have k6 : (6 : Int32).toInt = 6 := rfl
  have k7 : (7 : Int32).toInt = 7 := rfl
  have k8 : (8 : Int32).toInt = 8 := rfl
  have k9 : (9 : Int32).toInt = 9 := rfl
  have k128 : (128 : Int64).toInt = 128 := rfl
  have k16384 : (16384 : Int64).toInt = 16384 := rfl
  have k2097152 : (2097152 : Int64).toInt = 2097152 := rfl
  have k268435456 : (268435456 : Int64).toInt = 268435456 := rfl
  have k34359738368 : (34359738368 : Int64).toInt = 34359738368 := rfl
  have k4398046511104 : (4398046511104 : Int64).toInt = 4398046511104 := rfl
  have k562949953421312 : (562949953421312 : Int64).toInt = 562949953421312 := rfl
  have k72057594037927936 : (72057594037927936 : Int64).toInt = 72057594037927936 := rfl
  unfold own_size
  simp only [Int64.lt_iff_toInt_lt, k0, k1, k2, k3, k4, k5, k6, k7, k8, k9, k128, k16384, k2097152, k268435456, k34359738368, k4398046511104, k562949953421312, k72057594037927936]
  generalize v.toInt = X at *
  rcases (by omega : c = 0 ∨ c = 1 ∨ c = 2 ∨ c = 3 ∨ c = 4 ∨ c = 5 ∨ c = 6 ∨ c = 7 ∨ c = 8) with rfl | rfl | rfl | rfl | rfl | rfl | rfl | rfl | rfl
  all_goals
    simp only [Nat.reducePow, Nat.reduceAdd] at h2 h3
    repeat' split
    all_goals first | rfl | (exfalso; omega)
theorem own_sh7 (vi : Int32) (j : Nat) (h : vi.toInt = j) (hj : j ≤ 8) : ((7 : Int32) * vi).toBitVec.toNat % 64 = 7 * j := by
  have h1 := c_imul 7 vi
  have h2 := rng32 (7 * vi)
  have h3 := own_toInt (7 * vi)
  have k : (7 : Int32).toInt = 7 := by decide
  rw [k, h] at h1
  split at h3 <;> omega
theorem own_grp (v : Int64) (vi : Int32) (j : Nat) (h : vi.toInt = j) (hj : j ≤ 8) : ((v.toUInt64 >>> (((7 : Int32) * vi) &&& 0x3f).toInt64.toUInt64).toInt64) = own_rs v j := by
  rw [← Int64.toBitVec_inj, own_ushr _ _ _ (own_sh7 vi j h hj)]; rfl
theorem own_small (x : Int64) (h : 0 ≤ x.toInt ∧ x.toInt < 128) : (x &&& (127 : Int64)) ||| (0 : Int64) = x := by
  have h1 := c_maskL x 127 7 (by decide) rfl
  have e : x &&& (127 : Int64) = x := by rw [← Int64.toInt_inj]; omega
  rw [e]
  refine own_ext _ _ fun j hj => ?_
  rw [own_gor]
  have : (0 : Int64).toBitVec.getLsbD j = false := by show (0#64).getLsbD j = false; simp
  rw [this, Bool.or_false]
theorem own_cellOk (v : Int64) (fill vt vn p1 : Int32) (at_ c i : Nat) (f : Nat → Int32) (h : 0 ≤ v.toInt) (hc : own_cnt v c) (ht : vt.toInt = at_) (hat : at_ ≤ 6) (hn : vn.toInt = ((c + 1 : Nat) : Int)) (hp : p1.toInt = i) (hi : i < 16) (hf : f i = fill) : own_cell (own_fin f at_ c v i) p1 vt vn v fill = 1 := by
  have e1 := c_isub p1 vt
  have r1 := rng32 (p1 - vt)
  have e2 := c_isub vn 1
  have r2 := rng32 (vn - 1)
  have k0 : (0 : Int32).toInt = 0 := by decide
  have k1 : (1 : Int32).toInt = 1 := by decide
  have hc8 := hc.1
  unfold own_cell
  by_cases q1 : p1 - vt < 0
  · rw [if_pos q1]
    rw [Int32.lt_iff_toInt_lt] at q1
    have : own_fin f at_ c v i = fill := by
      unfold own_fin own_arr; rw [if_neg (by omega), if_neg (by omega)]; exact hf
    rw [if_pos this]
  · rw [if_neg q1]
    rw [Int32.lt_iff_toInt_lt] at q1
    by_cases q2 : p1 - vt < vn
    · rw [if_pos q2]
      rw [Int32.lt_iff_toInt_lt] at q2
      have hj : (p1 - vt).toInt = ((i - at_ : Nat) : Int) := by omega
      rw [own_grp v _ (i - at_) hj (by omega)]
      by_cases q3 : p1 - vt < vn - 1
      · rw [if_pos q3]
        rw [Int32.lt_iff_toInt_lt] at q3
        rw [if_pos]
        unfold own_fin own_arr; rw [if_neg (by omega), if_pos (by omega)]
        exact own_ii _
      · rw [if_neg q3]
        rw [Int32.lt_iff_toInt_lt] at q3
        have hj2 : i - at_ = c := by omega
        rw [if_pos]
        unfold own_fin; rw [if_pos (by omega), hj2]
        have s1 := own_rsN v c h
        have hp : 0 < 128 ^ c := Nat.pos_of_ne_zero (by simp)
        have hd : v.toInt.toNat / 128 ^ c < 128 := (Nat.div_lt_iff_lt_mul hp).mpr (by rw [Nat.mul_comm, ← Nat.pow_succ]; exact hc.2.2)
        rw [own_small (own_rs v c) (by rw [s1]; generalize v.toInt.toNat / 128 ^ c = z at *; omega)]
        exact own_ii _
    · rw [if_neg q2]
      rw [Int32.lt_iff_toInt_lt] at q2
      have : own_fin f at_ c v i = fill := by
        unfold own_fin own_arr; rw [if_neg (by omega), if_neg (by omega)]; exact hf
      rw [if_pos this]
theorem own_val (x v : Int64) (s : Int32) (e : v = (((x &&& (9223372036854775807 : Int64)).toUInt64 >>> ((s &&& (63 : Int32)) &&& 0x3f).toInt64.toUInt64).toInt64)) : 0 ≤ v.toInt := by
  have hm := c_maskL x 9223372036854775807 63 (by decide) rfl
  rw [e]
  generalize x &&& (9223372036854775807 : Int64) = y at *
  generalize s &&& (63 : Int32) = k at *
  by_cases h0 : k.toBitVec.toNat % 64 = 0
  · have e := own_ushr y k 0 h0
    rw [BitVec.ushiftRight_zero] at e
    rw [Int64.toBitVec_inj.mp e]; omega
  · have h1 := c_lushr y k _ rfl (by omega)
    rw [h1]
    exact Int.ediv_nonneg (by omega) (by exact Int.natCast_nonneg _)
theorem own_at (x t : Int32) (e : t = (x &&& (2147483647 : Int32)) % (7 : Int32)) : ∃ a : Nat, t.toInt = a ∧ a ≤ 6 := by
  have h1 := c_mask x 2147483647 31 (by decide) rfl
  have h2 := (c_irem (x &&& 2147483647) 7 7 rfl).1
  rw [← e] at h2
  exact ⟨t.toInt.toNat, by omega, by omega⟩
theorem own_ret (vt vn r : Int32) (at_ c : Nat) (ht : vt.toInt = at_) (hat : at_ ≤ 6) (hc : c ≤ 8) (hn : vn.toInt = ((c + 1 : Nat) : Int)) (hr : r.toInt = ((at_ + c + 1 : Nat) : Int)) : r = vt + vn := by
  have h1 := c_iadd vt vn
  have h2 := rng32 (vt + vn)
  rw [← Int32.toInt_inj]; omega
theorem own_fz (fz : Nat → Int32) (vf : Int32) (hfill : vf.toInt8.toInt32 = vf) (e_fz : fz = (fun q => if q = 15 then vf.toInt8.toInt32 else (fun q => if q = 14 then vf.toInt8.toInt32 else (fun q => if q = 13 then vf.toInt8.toInt32 else (fun q => if q = 12 then vf.toInt8.toInt32 else (fun q => if q = 11 then vf.toInt8.toInt32 else (fun q => if q = 10 then vf.toInt8.toInt32 else (fun q => if q = 9 then vf.toInt8.toInt32 else (fun q => if q = 8 then vf.toInt8.toInt32 else (fun q => if q = 7 then vf.toInt8.toInt32 else (fun q => if q = 6 then vf.toInt8.toInt32 else (fun q => if q = 5 then vf.toInt8.toInt32 else (fun q => if q = 4 then vf.toInt8.toInt32 else (fun q => if q = 3 then vf.toInt8.toInt32 else (fun q => if q = 2 then vf.toInt8.toInt32 else (fun q => if q = 1 then vf.toInt8.toInt32 else (fun q => if q = 0 then vf.toInt8.toInt32 else (fun _ => 0) q) q) q) q) q) q) q) q) q) q) q) q) q) q) q) q)) (i : Nat) (hi : i < 16) : fz i = vf := by
  rw [e_fz]
  rcases (by omega : i = 0 ∨ i = 1 ∨ i = 2 ∨ i = 3 ∨ i = 4 ∨ i = 5 ∨ i = 6 ∨ i = 7 ∨ i = 8 ∨ i = 9 ∨ i = 10 ∨ i = 11 ∨ i = 12 ∨ i = 13 ∨ i = 14 ∨ i = 15) with rfl | rfl | rfl | rfl | rfl | rfl | rfl | rfl | rfl | rfl | rfl | rfl | rfl | rfl | rfl | rfl
  all_goals (simp only [hfill]; first | rfl | (simp; done))
theorem d1_0 : decode method_3_code 0 = .ok (.lload_n 0, 1) := by decide +kernel
theorem d1_1 : decode method_3_code 1 = .ok (.ldc2_w 28, 3) := by decide +kernel
theorem d1_4 : decode method_3_code 4 = .ok (.lcmp, 1) := by decide +kernel
theorem d1_5 : decode method_3_code 5 = .ok (.ifCond .ge 5, 3) := by decide +kernel
theorem d1_8 : decode method_3_code 8 = .ok (.iconst 1, 1) := by decide +kernel
theorem d1_9 : decode method_3_code 9 = .ok (.ireturn, 1) := by decide +kernel
theorem d1_10 : decode method_3_code 10 = .ok (.lload_n 0, 1) := by decide +kernel
theorem d1_11 : decode method_3_code 11 = .ok (.ldc2_w 30, 3) := by decide +kernel
theorem d1_14 : decode method_3_code 14 = .ok (.lcmp, 1) := by decide +kernel
theorem d1_15 : decode method_3_code 15 = .ok (.ifCond .ge 5, 3) := by decide +kernel
theorem d1_18 : decode method_3_code 18 = .ok (.iconst 2, 1) := by decide +kernel
theorem d1_19 : decode method_3_code 19 = .ok (.ireturn, 1) := by decide +kernel
theorem d1_20 : decode method_3_code 20 = .ok (.lload_n 0, 1) := by decide +kernel
theorem d1_21 : decode method_3_code 21 = .ok (.ldc2_w 32, 3) := by decide +kernel
theorem d1_24 : decode method_3_code 24 = .ok (.lcmp, 1) := by decide +kernel
theorem d1_25 : decode method_3_code 25 = .ok (.ifCond .ge 5, 3) := by decide +kernel
theorem d1_28 : decode method_3_code 28 = .ok (.iconst 3, 1) := by decide +kernel
theorem d1_29 : decode method_3_code 29 = .ok (.ireturn, 1) := by decide +kernel
theorem d1_30 : decode method_3_code 30 = .ok (.lload_n 0, 1) := by decide +kernel
theorem d1_31 : decode method_3_code 31 = .ok (.ldc2_w 34, 3) := by decide +kernel
theorem d1_34 : decode method_3_code 34 = .ok (.lcmp, 1) := by decide +kernel
theorem d1_35 : decode method_3_code 35 = .ok (.ifCond .ge 5, 3) := by decide +kernel
theorem d1_38 : decode method_3_code 38 = .ok (.iconst 4, 1) := by decide +kernel
theorem d1_39 : decode method_3_code 39 = .ok (.ireturn, 1) := by decide +kernel
theorem d1_40 : decode method_3_code 40 = .ok (.lload_n 0, 1) := by decide +kernel
theorem d1_41 : decode method_3_code 41 = .ok (.ldc2_w 36, 3) := by decide +kernel
theorem d1_44 : decode method_3_code 44 = .ok (.lcmp, 1) := by decide +kernel
theorem d1_45 : decode method_3_code 45 = .ok (.ifCond .ge 5, 3) := by decide +kernel
theorem d1_48 : decode method_3_code 48 = .ok (.iconst 5, 1) := by decide +kernel
theorem d1_49 : decode method_3_code 49 = .ok (.ireturn, 1) := by decide +kernel
theorem d1_50 : decode method_3_code 50 = .ok (.lload_n 0, 1) := by decide +kernel
theorem d1_51 : decode method_3_code 51 = .ok (.ldc2_w 38, 3) := by decide +kernel
theorem d1_54 : decode method_3_code 54 = .ok (.lcmp, 1) := by decide +kernel
theorem d1_55 : decode method_3_code 55 = .ok (.ifCond .ge 6, 3) := by decide +kernel
theorem d1_58 : decode method_3_code 58 = .ok (.bipush 6, 2) := by decide +kernel
theorem d1_60 : decode method_3_code 60 = .ok (.ireturn, 1) := by decide +kernel
theorem d1_61 : decode method_3_code 61 = .ok (.lload_n 0, 1) := by decide +kernel
theorem d1_62 : decode method_3_code 62 = .ok (.ldc2_w 40, 3) := by decide +kernel
theorem d1_65 : decode method_3_code 65 = .ok (.lcmp, 1) := by decide +kernel
theorem d1_66 : decode method_3_code 66 = .ok (.ifCond .ge 6, 3) := by decide +kernel
theorem d1_69 : decode method_3_code 69 = .ok (.bipush 7, 2) := by decide +kernel
theorem d1_71 : decode method_3_code 71 = .ok (.ireturn, 1) := by decide +kernel
theorem d1_72 : decode method_3_code 72 = .ok (.lload_n 0, 1) := by decide +kernel
theorem d1_73 : decode method_3_code 73 = .ok (.ldc2_w 42, 3) := by decide +kernel
theorem d1_76 : decode method_3_code 76 = .ok (.lcmp, 1) := by decide +kernel
theorem d1_77 : decode method_3_code 77 = .ok (.ifCond .ge 6, 3) := by decide +kernel
theorem d1_80 : decode method_3_code 80 = .ok (.bipush 8, 2) := by decide +kernel
theorem d1_82 : decode method_3_code 82 = .ok (.ireturn, 1) := by decide +kernel
theorem d1_83 : decode method_3_code 83 = .ok (.bipush 9, 2) := by decide +kernel
theorem d1_85 : decode method_3_code 85 = .ok (.ireturn, 1) := by decide +kernel
set_option maxRecDepth 65536 in
set_option maxHeartbeats 40000000 in
theorem rm1 (l : Launch) (Z : State) (a0 : Array Value) (hw : ∀ d ∈ tables_1, d.before a0 Z = true) (q0 : Int64) (h0 : Heap) (n0 : Nat) (Z0 : n0 ≤ h0.size)  :
    own_C l Z (⟨"indaga/index/IndexFormatPutVarintPinLaw", "size", "(J)I"⟩ : MethodName) method_3_code 2 (some .int) [] ({ frames := 0, cells := 0, slots := 0, locals := 0 } : Room) #[(.long q0)] h0 (fun v h L => v = some (.int (own_size q0)) ∧ Fr n0 L ∧ h = h0) := by
  refine own_body (by first | (simp [plainName, overriddenIn]; done) | decide +kernel) ?_
  intro p e s m below meth c T0 hx hby hml hown hnm hret hlk hZ X0 e0
  have N0 := Fr.nil n0
  refine own_eq (f' := (mkF m 0 #[.val (.long q0), .second] [])) (by first | (simp [entryFrame, mkF, argsToLocals, Value.category]; done) | rfl) ?_
  refine own_lloadN X0 hx 1 (hb hby d1_0) rfl rfl ?_
  refine own_ldc2 X0 hx hZ hown 4 (hw _ (List.mem_of_getElem? (i := 7) rfl)) (hb hby d1_1) rfl ?_
  refine own_lif_ge X0 hx 5 10 8 (hb hby d1_4) rfl (hb hby d1_5) (by decide) (by decide) rfl (fun h1 => ?_) (fun h1 => ?_)
  · show own_W p e below _ T0 (mkF m 10 #[.val (.long q0), .second] [])
    refine own_lloadN X0 hx 11 (hb hby d1_10) rfl rfl ?_
    refine own_ldc2 X0 hx hZ hown 14 (hw _ (List.mem_of_getElem? (i := 17) rfl)) (hb hby d1_11) rfl ?_
    refine own_lif_ge X0 hx 15 20 18 (hb hby d1_14) rfl (hb hby d1_15) (by decide) (by decide) rfl (fun h2 => ?_) (fun h2 => ?_)
    · show own_W p e below _ T0 (mkF m 20 #[.val (.long q0), .second] [])
      refine own_lloadN X0 hx 21 (hb hby d1_20) rfl rfl ?_
      refine own_ldc2 X0 hx hZ hown 24 (hw _ (List.mem_of_getElem? (i := 18) rfl)) (hb hby d1_21) rfl ?_
      refine own_lif_ge X0 hx 25 30 28 (hb hby d1_24) rfl (hb hby d1_25) (by decide) (by decide) rfl (fun h3 => ?_) (fun h3 => ?_)
      · show own_W p e below _ T0 (mkF m 30 #[.val (.long q0), .second] [])
        refine own_lloadN X0 hx 31 (hb hby d1_30) rfl rfl ?_
        refine own_ldc2 X0 hx hZ hown 34 (hw _ (List.mem_of_getElem? (i := 19) rfl)) (hb hby d1_31) rfl ?_
        refine own_lif_ge X0 hx 35 40 38 (hb hby d1_34) rfl (hb hby d1_35) (by decide) (by decide) rfl (fun h4 => ?_) (fun h4 => ?_)
        · show own_W p e below _ T0 (mkF m 40 #[.val (.long q0), .second] [])
          refine own_lloadN X0 hx 41 (hb hby d1_40) rfl rfl ?_
          refine own_ldc2 X0 hx hZ hown 44 (hw _ (List.mem_of_getElem? (i := 20) rfl)) (hb hby d1_41) rfl ?_
          refine own_lif_ge X0 hx 45 50 48 (hb hby d1_44) rfl (hb hby d1_45) (by decide) (by decide) rfl (fun h5 => ?_) (fun h5 => ?_)
          · show own_W p e below _ T0 (mkF m 50 #[.val (.long q0), .second] [])
            refine own_lloadN X0 hx 51 (hb hby d1_50) rfl rfl ?_
            refine own_ldc2 X0 hx hZ hown 54 (hw _ (List.mem_of_getElem? (i := 23) rfl)) (hb hby d1_51) rfl ?_
            refine own_lif_ge X0 hx 55 61 58 (hb hby d1_54) rfl (hb hby d1_55) (by decide) (by decide) rfl (fun h6 => ?_) (fun h6 => ?_)
            · show own_W p e below _ T0 (mkF m 61 #[.val (.long q0), .second] [])
              refine own_lloadN X0 hx 62 (hb hby d1_61) rfl rfl ?_
              refine own_ldc2 X0 hx hZ hown 65 (hw _ (List.mem_of_getElem? (i := 24) rfl)) (hb hby d1_62) rfl ?_
              refine own_lif_ge X0 hx 66 72 69 (hb hby d1_65) rfl (hb hby d1_66) (by decide) (by decide) rfl (fun h7 => ?_) (fun h7 => ?_)
              · show own_W p e below _ T0 (mkF m 72 #[.val (.long q0), .second] [])
                refine own_lloadN X0 hx 73 (hb hby d1_72) rfl rfl ?_
                refine own_ldc2 X0 hx hZ hown 76 (hw _ (List.mem_of_getElem? (i := 25) rfl)) (hb hby d1_73) rfl ?_
                refine own_lif_ge X0 hx 77 83 80 (hb hby d1_76) rfl (hb hby d1_77) (by decide) (by decide) rfl (fun h8 => ?_) (fun h8 => ?_)
                · show own_W p e below _ T0 (mkF m 83 #[.val (.long q0), .second] [])
                  refine own_bipush X0 hx 85 (9 : Int32) (by decide) (hb hby d1_83) rfl ?_
                  exact own_retI X0 hx hret hlk (hb hby d1_85) (by decide) (by decide) ⟨by unfold own_size; rw [if_neg h1, if_neg h2, if_neg h3, if_neg h4, if_neg h5, if_neg h6, if_neg h7, if_neg h8], N0, e0⟩
                · show own_W p e below _ T0 (mkF m 80 #[.val (.long q0), .second] [])
                  refine own_bipush X0 hx 82 (8 : Int32) (by decide) (hb hby d1_80) rfl ?_
                  exact own_retI X0 hx hret hlk (hb hby d1_82) (by decide) (by decide) ⟨by unfold own_size; rw [if_neg h1, if_neg h2, if_neg h3, if_neg h4, if_neg h5, if_neg h6, if_neg h7, if_pos h8], N0, e0⟩
              · show own_W p e below _ T0 (mkF m 69 #[.val (.long q0), .second] [])
                refine own_bipush X0 hx 71 (7 : Int32) (by decide) (hb hby d1_69) rfl ?_
                exact own_retI X0 hx hret hlk (hb hby d1_71) (by decide) (by decide) ⟨by unfold own_size; rw [if_neg h1, if_neg h2, if_neg h3, if_neg h4, if_neg h5, if_neg h6, if_pos h7], N0, e0⟩
            · show own_W p e below _ T0 (mkF m 58 #[.val (.long q0), .second] [])
              refine own_bipush X0 hx 60 (6 : Int32) (by decide) (hb hby d1_58) rfl ?_
              exact own_retI X0 hx hret hlk (hb hby d1_60) (by decide) (by decide) ⟨by unfold own_size; rw [if_neg h1, if_neg h2, if_neg h3, if_neg h4, if_neg h5, if_pos h6], N0, e0⟩
          · show own_W p e below _ T0 (mkF m 48 #[.val (.long q0), .second] [])
            refine own_iconst X0 hx 49 (5 : Int32) (by decide) (hb hby d1_48) rfl ?_
            exact own_retI X0 hx hret hlk (hb hby d1_49) (by decide) (by decide) ⟨by unfold own_size; rw [if_neg h1, if_neg h2, if_neg h3, if_neg h4, if_pos h5], N0, e0⟩
        · show own_W p e below _ T0 (mkF m 38 #[.val (.long q0), .second] [])
          refine own_iconst X0 hx 39 (4 : Int32) (by decide) (hb hby d1_38) rfl ?_
          exact own_retI X0 hx hret hlk (hb hby d1_39) (by decide) (by decide) ⟨by unfold own_size; rw [if_neg h1, if_neg h2, if_neg h3, if_pos h4], N0, e0⟩
      · show own_W p e below _ T0 (mkF m 28 #[.val (.long q0), .second] [])
        refine own_iconst X0 hx 29 (3 : Int32) (by decide) (hb hby d1_28) rfl ?_
        exact own_retI X0 hx hret hlk (hb hby d1_29) (by decide) (by decide) ⟨by unfold own_size; rw [if_neg h1, if_neg h2, if_pos h3], N0, e0⟩
    · show own_W p e below _ T0 (mkF m 18 #[.val (.long q0), .second] [])
      refine own_iconst X0 hx 19 (2 : Int32) (by decide) (hb hby d1_18) rfl ?_
      exact own_retI X0 hx hret hlk (hb hby d1_19) (by decide) (by decide) ⟨by unfold own_size; rw [if_neg h1, if_pos h2], N0, e0⟩
  · show own_W p e below _ T0 (mkF m 8 #[.val (.long q0), .second] [])
    refine own_iconst X0 hx 9 (1 : Int32) (by decide) (hb hby d1_8) rfl ?_
    exact own_retI X0 hx hret hlk (hb hby d1_9) (by decide) (by decide) ⟨by unfold own_size; rw [if_pos h1], N0, e0⟩
theorem d3_0 : decode method_4_code 0 = .ok (.iload_n 1, 1) := by decide +kernel
theorem d3_1 : decode method_4_code 1 = .ok (.iload_n 2, 1) := by decide +kernel
theorem d3_2 : decode method_4_code 2 = .ok (.isub, 1) := by decide +kernel
theorem d3_3 : decode method_4_code 3 = .ok (.istore 7, 2) := by decide +kernel
theorem d3_5 : decode method_4_code 5 = .ok (.iload 7, 2) := by decide +kernel
theorem d3_7 : decode method_4_code 7 = .ok (.ifCond .lt 9, 3) := by decide +kernel
theorem d3_10 : decode method_4_code 10 = .ok (.iload 7, 2) := by decide +kernel
theorem d3_12 : decode method_4_code 12 = .ok (.iload_n 3, 1) := by decide +kernel
theorem d3_13 : decode method_4_code 13 = .ok (.if_icmp .lt 10, 3) := by decide +kernel
theorem d3_16 : decode method_4_code 16 = .ok (.iload 6, 2) := by decide +kernel
theorem d3_18 : decode method_4_code 18 = .ok (.istore 8, 2) := by decide +kernel
theorem d3_20 : decode method_4_code 20 = .ok (.goto 44, 3) := by decide +kernel
theorem d3_23 : decode method_4_code 23 = .ok (.lload 4, 2) := by decide +kernel
theorem d3_25 : decode method_4_code 25 = .ok (.bipush 7, 2) := by decide +kernel
theorem d3_27 : decode method_4_code 27 = .ok (.iload 7, 2) := by decide +kernel
theorem d3_29 : decode method_4_code 29 = .ok (.imul, 1) := by decide +kernel
theorem d3_30 : decode method_4_code 30 = .ok (.lushr, 1) := by decide +kernel
theorem d3_31 : decode method_4_code 31 = .ok (.ldc2_w 44, 3) := by decide +kernel
theorem d3_34 : decode method_4_code 34 = .ok (.land, 1) := by decide +kernel
theorem d3_35 : decode method_4_code 35 = .ok (.lstore 9, 2) := by decide +kernel
theorem d3_37 : decode method_4_code 37 = .ok (.iload 7, 2) := by decide +kernel
theorem d3_39 : decode method_4_code 39 = .ok (.iload_n 3, 1) := by decide +kernel
theorem d3_40 : decode method_4_code 40 = .ok (.iconst 1, 1) := by decide +kernel
theorem d3_41 : decode method_4_code 41 = .ok (.isub, 1) := by decide +kernel
theorem d3_42 : decode method_4_code 42 = .ok (.if_icmp .ge 9, 3) := by decide +kernel
theorem d3_45 : decode method_4_code 45 = .ok (.sipush 128, 3) := by decide +kernel
theorem d3_48 : decode method_4_code 48 = .ok (.goto 4, 3) := by decide +kernel
theorem d3_51 : decode method_4_code 51 = .ok (.iconst 0, 1) := by decide +kernel
theorem d3_52 : decode method_4_code 52 = .ok (.istore 11, 2) := by decide +kernel
theorem d3_54 : decode method_4_code 54 = .ok (.lload 9, 2) := by decide +kernel
theorem d3_56 : decode method_4_code 56 = .ok (.iload 11, 2) := by decide +kernel
theorem d3_58 : decode method_4_code 58 = .ok (.i2l, 1) := by decide +kernel
theorem d3_59 : decode method_4_code 59 = .ok (.lor, 1) := by decide +kernel
theorem d3_60 : decode method_4_code 60 = .ok (.l2i, 1) := by decide +kernel
theorem d3_61 : decode method_4_code 61 = .ok (.i2b, 1) := by decide +kernel
theorem d3_62 : decode method_4_code 62 = .ok (.istore 8, 2) := by decide +kernel
theorem d3_64 : decode method_4_code 64 = .ok (.aload_n 0, 1) := by decide +kernel
theorem d3_65 : decode method_4_code 65 = .ok (.iload_n 1, 1) := by decide +kernel
theorem d3_66 : decode method_4_code 66 = .ok (.baload, 1) := by decide +kernel
theorem d3_67 : decode method_4_code 67 = .ok (.iload 8, 2) := by decide +kernel
theorem d3_69 : decode method_4_code 69 = .ok (.if_icmp .ne 7, 3) := by decide +kernel
theorem d3_72 : decode method_4_code 72 = .ok (.iconst 1, 1) := by decide +kernel
theorem d3_73 : decode method_4_code 73 = .ok (.goto 4, 3) := by decide +kernel
theorem d3_76 : decode method_4_code 76 = .ok (.iconst 0, 1) := by decide +kernel
theorem d3_77 : decode method_4_code 77 = .ok (.ireturn, 1) := by decide +kernel
set_option maxRecDepth 65536 in
set_option maxHeartbeats 40000000 in
theorem rm3 (l : Launch) (Z : State) (a0 : Array Value) (hw : ∀ d ∈ tables_1, d.before a0 Z = true) (t : Addr) (p1 p2 p3 p6 : Int32) (q4 : Int64) (i : Nat) (f : Nat → Int32) (h0 : Heap) (n0 : Nat) (Z0 : n0 ≤ h0.size) (hp : p1.toInt = i) (hi : i < 16) (hz : own_cell (f i) p1 p2 p3 q4 p6 = 1) (A_t : own_AI Z h0 t .byte 16 f) :
    own_C l Z (⟨"indaga/index/IndexFormatPutVarintPinLaw", "cell", "([BIIIJB)Z"⟩ : MethodName) method_4_code 12 (some .boolean) [] ({ frames := 0, cells := 0, slots := 0, locals := 0 } : Room) #[(.ref t), (.int p1), (.int p2), (.int p3), (.long q4), (.int p6)] h0 (fun v h L => v = some (.int 1) ∧ Fr n0 L ∧ h = h0) := by
  refine own_body (by first | (simp [plainName, overriddenIn]; done) | decide +kernel) ?_
  intro p e s m below meth c T0 hx hby hml hown hnm hret hlk hZ X0 e0
  have N0 := Fr.nil n0
  refine own_eq (f' := (mkF m 0 #[.val (.ref t), .val (.int p1), .val (.int p2), .val (.int p3), .val (.long q4), .second, .val (.int p6), .unset, .unset, .unset, .unset, .unset] [])) (by first | (simp [entryFrame, mkF, argsToLocals, Value.category]; done) | rfl) ?_
  refine own_iloadN X0 hx 1 (hb hby d3_0) rfl rfl ?_
  refine own_iloadN X0 hx 2 (hb hby d3_1) rfl rfl ?_
  refine own_isub X0 hx 3 (hb hby d3_2) rfl ?_
  refine own_istore X0 hx 5 #[.val (.ref t), .val (.int p1), .val (.int p2), .val (.int p3), .val (.long q4), .second, .val (.int p6), .val (.int (p1 - p2)), .unset, .unset, .unset, .unset] rfl (hb hby d3_3) rfl rfl ?_
  refine own_iload X0 hx 7 (hb hby d3_5) rfl rfl ?_
  refine own_if_lt X0 hx 16 10 (hb hby d3_7) (by decide) (by decide) rfl (fun h1 => ?_) (fun h1 => ?_)
  · show own_W p e below _ T0 (mkF m 16 #[.val (.ref t), .val (.int p1), .val (.int p2), .val (.int p3), .val (.long q4), .second, .val (.int p6), .val (.int (p1 - p2)), .unset, .unset, .unset, .unset] [])
    refine own_iload X0 hx 18 (hb hby d3_16) rfl rfl ?_
    refine own_istore X0 hx 20 #[.val (.ref t), .val (.int p1), .val (.int p2), .val (.int p3), .val (.long q4), .second, .val (.int p6), .val (.int (p1 - p2)), .val (.int p6), .unset, .unset, .unset] rfl (hb hby d3_18) rfl rfl ?_
    refine own_goto X0 hx 64 (hb hby d3_20) (by decide) (by decide) ?_
    refine own_aloadN X0 hx 65 (hb hby d3_64) rfl rfl ?_
    refine own_iloadN X0 hx 66 (hb hby d3_65) rfl rfl ?_
    refine own_baload X0 hx hZ e0 67 i A_t hp hi (hb hby d3_66) rfl ?_
    refine own_iload X0 hx 69 (hb hby d3_67) rfl rfl ?_
    refine own_icmp_ne X0 hx 76 72 (hb hby d3_69) (by decide) (by decide) rfl (fun h2 => ?_) (fun h2 => ?_)
    · show own_W p e below _ T0 (mkF m 76 #[.val (.ref t), .val (.int p1), .val (.int p2), .val (.int p3), .val (.long q4), .second, .val (.int p6), .val (.int (p1 - p2)), .val (.int p6), .unset, .unset, .unset] [])
      refine own_iconst X0 hx 77 (0 : Int32) (by decide) (hb hby d3_76) rfl ?_
      exact own_retZ X0 hx (0 : Int32) (by decide) hret hlk (hb hby d3_77) (by decide) (by decide) ⟨congrArg (fun z => some (Value.int z)) ((show (0 : Int32) = own_cell (f i) p1 p2 p3 q4 p6 from by unfold own_cell; rw [if_pos h1, if_neg h2]).trans hz), N0, e0⟩
    · show own_W p e below _ T0 (mkF m 72 #[.val (.ref t), .val (.int p1), .val (.int p2), .val (.int p3), .val (.long q4), .second, .val (.int p6), .val (.int (p1 - p2)), .val (.int p6), .unset, .unset, .unset] [])
      refine own_iconst X0 hx 73 (1 : Int32) (by decide) (hb hby d3_72) rfl ?_
      refine own_goto X0 hx 77 (hb hby d3_73) (by decide) (by decide) ?_
      exact own_retZ X0 hx (1 : Int32) (by decide) hret hlk (hb hby d3_77) (by decide) (by decide) ⟨congrArg (fun z => some (Value.int z)) ((show (1 : Int32) = own_cell (f i) p1 p2 p3 q4 p6 from by unfold own_cell; rw [if_pos h1, if_pos h2]).trans hz), N0, e0⟩
  · show own_W p e below _ T0 (mkF m 10 #[.val (.ref t), .val (.int p1), .val (.int p2), .val (.int p3), .val (.long q4), .second, .val (.int p6), .val (.int (p1 - p2)), .unset, .unset, .unset, .unset] [])
    refine own_iload X0 hx 12 (hb hby d3_10) rfl rfl ?_
    refine own_iloadN X0 hx 13 (hb hby d3_12) rfl rfl ?_
    refine own_icmp_lt X0 hx 23 16 (hb hby d3_13) (by decide) (by decide) rfl (fun h3 => ?_) (fun h3 => ?_)
    · show own_W p e below _ T0 (mkF m 23 #[.val (.ref t), .val (.int p1), .val (.int p2), .val (.int p3), .val (.long q4), .second, .val (.int p6), .val (.int (p1 - p2)), .unset, .unset, .unset, .unset] [])
      refine own_lload X0 hx 25 (hb hby d3_23) rfl rfl ?_
      refine own_bipush X0 hx 27 (7 : Int32) (by decide) (hb hby d3_25) rfl ?_
      refine own_iload X0 hx 29 (hb hby d3_27) rfl rfl ?_
      refine own_imul X0 hx 30 (hb hby d3_29) rfl ?_
      refine own_lushr X0 hx 31 (hb hby d3_30) rfl ?_
      refine own_ldc2 X0 hx hZ hown 34 (hw _ (List.mem_of_getElem? (i := 16) rfl)) (hb hby d3_31) rfl ?_
      refine own_land X0 hx 35 (hb hby d3_34) rfl ?_
      refine own_lstore X0 hx 37 #[.val (.ref t), .val (.int p1), .val (.int p2), .val (.int p3), .val (.long q4), .second, .val (.int p6), .val (.int (p1 - p2)), .unset, .val (.long (((q4.toUInt64 >>> (((7 : Int32) * (p1 - p2)) &&& 0x3f).toInt64.toUInt64).toInt64) &&& (127 : Int64))), .second, .unset] rfl (hb hby d3_35) rfl rfl ?_
      refine own_iload X0 hx 39 (hb hby d3_37) rfl rfl ?_
      refine own_iloadN X0 hx 40 (hb hby d3_39) rfl rfl ?_
      refine own_iconst X0 hx 41 (1 : Int32) (by decide) (hb hby d3_40) rfl ?_
      refine own_isub X0 hx 42 (hb hby d3_41) rfl ?_
      refine own_icmp_ge X0 hx 51 45 (hb hby d3_42) (by decide) (by decide) rfl (fun h4 => ?_) (fun h4 => ?_)
      · show own_W p e below _ T0 (mkF m 51 #[.val (.ref t), .val (.int p1), .val (.int p2), .val (.int p3), .val (.long q4), .second, .val (.int p6), .val (.int (p1 - p2)), .unset, .val (.long (((q4.toUInt64 >>> (((7 : Int32) * (p1 - p2)) &&& 0x3f).toInt64.toUInt64).toInt64) &&& (127 : Int64))), .second, .unset] [])
        refine own_iconst X0 hx 52 (0 : Int32) (by decide) (hb hby d3_51) rfl ?_
        refine own_istore X0 hx 54 #[.val (.ref t), .val (.int p1), .val (.int p2), .val (.int p3), .val (.long q4), .second, .val (.int p6), .val (.int (p1 - p2)), .unset, .val (.long (((q4.toUInt64 >>> (((7 : Int32) * (p1 - p2)) &&& 0x3f).toInt64.toUInt64).toInt64) &&& (127 : Int64))), .second, .val (.int (0 : Int32))] rfl (hb hby d3_52) rfl rfl ?_
        refine own_lload X0 hx 56 (hb hby d3_54) rfl rfl ?_
        refine own_iload X0 hx 58 (hb hby d3_56) rfl rfl ?_
        refine own_i2lz X0 hx 59 (z := (0 : Int64)) (by decide) (hb hby d3_58) rfl ?_
        refine own_lor X0 hx 60 (hb hby d3_59) rfl ?_
        refine own_l2i X0 hx 61 (hb hby d3_60) rfl ?_
        refine own_i2b X0 hx 62 (hb hby d3_61) rfl ?_
        refine own_istore X0 hx 64 #[.val (.ref t), .val (.int p1), .val (.int p2), .val (.int p3), .val (.long q4), .second, .val (.int p6), .val (.int (p1 - p2)), .val (.int ((((((q4.toUInt64 >>> (((7 : Int32) * (p1 - p2)) &&& 0x3f).toInt64.toUInt64).toInt64) &&& (127 : Int64)) ||| (0 : Int64)).toInt32).toInt8.toInt32)), .val (.long (((q4.toUInt64 >>> (((7 : Int32) * (p1 - p2)) &&& 0x3f).toInt64.toUInt64).toInt64) &&& (127 : Int64))), .second, .val (.int (0 : Int32))] rfl (hb hby d3_62) rfl rfl ?_
        refine own_aloadN X0 hx 65 (hb hby d3_64) rfl rfl ?_
        refine own_iloadN X0 hx 66 (hb hby d3_65) rfl rfl ?_
        refine own_baload X0 hx hZ e0 67 i A_t hp hi (hb hby d3_66) rfl ?_
        refine own_iload X0 hx 69 (hb hby d3_67) rfl rfl ?_
        refine own_icmp_ne X0 hx 76 72 (hb hby d3_69) (by decide) (by decide) rfl (fun h5 => ?_) (fun h5 => ?_)
        · show own_W p e below _ T0 (mkF m 76 #[.val (.ref t), .val (.int p1), .val (.int p2), .val (.int p3), .val (.long q4), .second, .val (.int p6), .val (.int (p1 - p2)), .val (.int ((((((q4.toUInt64 >>> (((7 : Int32) * (p1 - p2)) &&& 0x3f).toInt64.toUInt64).toInt64) &&& (127 : Int64)) ||| (0 : Int64)).toInt32).toInt8.toInt32)), .val (.long (((q4.toUInt64 >>> (((7 : Int32) * (p1 - p2)) &&& 0x3f).toInt64.toUInt64).toInt64) &&& (127 : Int64))), .second, .val (.int (0 : Int32))] [])
          refine own_iconst X0 hx 77 (0 : Int32) (by decide) (hb hby d3_76) rfl ?_
          exact own_retZ X0 hx (0 : Int32) (by decide) hret hlk (hb hby d3_77) (by decide) (by decide) ⟨congrArg (fun z => some (Value.int z)) ((show (0 : Int32) = own_cell (f i) p1 p2 p3 q4 p6 from by unfold own_cell; rw [if_neg h1, if_pos h3, if_neg h4, if_neg h5]).trans hz), N0, e0⟩
        · show own_W p e below _ T0 (mkF m 72 #[.val (.ref t), .val (.int p1), .val (.int p2), .val (.int p3), .val (.long q4), .second, .val (.int p6), .val (.int (p1 - p2)), .val (.int ((((((q4.toUInt64 >>> (((7 : Int32) * (p1 - p2)) &&& 0x3f).toInt64.toUInt64).toInt64) &&& (127 : Int64)) ||| (0 : Int64)).toInt32).toInt8.toInt32)), .val (.long (((q4.toUInt64 >>> (((7 : Int32) * (p1 - p2)) &&& 0x3f).toInt64.toUInt64).toInt64) &&& (127 : Int64))), .second, .val (.int (0 : Int32))] [])
          refine own_iconst X0 hx 73 (1 : Int32) (by decide) (hb hby d3_72) rfl ?_
          refine own_goto X0 hx 77 (hb hby d3_73) (by decide) (by decide) ?_
          exact own_retZ X0 hx (1 : Int32) (by decide) hret hlk (hb hby d3_77) (by decide) (by decide) ⟨congrArg (fun z => some (Value.int z)) ((show (1 : Int32) = own_cell (f i) p1 p2 p3 q4 p6 from by unfold own_cell; rw [if_neg h1, if_pos h3, if_neg h4, if_pos h5]).trans hz), N0, e0⟩
      · show own_W p e below _ T0 (mkF m 45 #[.val (.ref t), .val (.int p1), .val (.int p2), .val (.int p3), .val (.long q4), .second, .val (.int p6), .val (.int (p1 - p2)), .unset, .val (.long (((q4.toUInt64 >>> (((7 : Int32) * (p1 - p2)) &&& 0x3f).toInt64.toUInt64).toInt64) &&& (127 : Int64))), .second, .unset] [])
        refine own_sipush X0 hx 48 (128 : Int32) (by decide) (hb hby d3_45) rfl ?_
        refine own_goto X0 hx 52 (hb hby d3_48) (by decide) (by decide) ?_
        refine own_istore X0 hx 54 #[.val (.ref t), .val (.int p1), .val (.int p2), .val (.int p3), .val (.long q4), .second, .val (.int p6), .val (.int (p1 - p2)), .unset, .val (.long (((q4.toUInt64 >>> (((7 : Int32) * (p1 - p2)) &&& 0x3f).toInt64.toUInt64).toInt64) &&& (127 : Int64))), .second, .val (.int (128 : Int32))] rfl (hb hby d3_52) rfl rfl ?_
        refine own_lload X0 hx 56 (hb hby d3_54) rfl rfl ?_
        refine own_iload X0 hx 58 (hb hby d3_56) rfl rfl ?_
        refine own_i2lz X0 hx 59 (z := (128 : Int64)) (by decide) (hb hby d3_58) rfl ?_
        refine own_lor X0 hx 60 (hb hby d3_59) rfl ?_
        refine own_l2i X0 hx 61 (hb hby d3_60) rfl ?_
        refine own_i2b X0 hx 62 (hb hby d3_61) rfl ?_
        refine own_istore X0 hx 64 #[.val (.ref t), .val (.int p1), .val (.int p2), .val (.int p3), .val (.long q4), .second, .val (.int p6), .val (.int (p1 - p2)), .val (.int ((((((q4.toUInt64 >>> (((7 : Int32) * (p1 - p2)) &&& 0x3f).toInt64.toUInt64).toInt64) &&& (127 : Int64)) ||| (128 : Int64)).toInt32).toInt8.toInt32)), .val (.long (((q4.toUInt64 >>> (((7 : Int32) * (p1 - p2)) &&& 0x3f).toInt64.toUInt64).toInt64) &&& (127 : Int64))), .second, .val (.int (128 : Int32))] rfl (hb hby d3_62) rfl rfl ?_
        refine own_aloadN X0 hx 65 (hb hby d3_64) rfl rfl ?_
        refine own_iloadN X0 hx 66 (hb hby d3_65) rfl rfl ?_
        refine own_baload X0 hx hZ e0 67 i A_t hp hi (hb hby d3_66) rfl ?_
        refine own_iload X0 hx 69 (hb hby d3_67) rfl rfl ?_
        refine own_icmp_ne X0 hx 76 72 (hb hby d3_69) (by decide) (by decide) rfl (fun h6 => ?_) (fun h6 => ?_)
        · show own_W p e below _ T0 (mkF m 76 #[.val (.ref t), .val (.int p1), .val (.int p2), .val (.int p3), .val (.long q4), .second, .val (.int p6), .val (.int (p1 - p2)), .val (.int ((((((q4.toUInt64 >>> (((7 : Int32) * (p1 - p2)) &&& 0x3f).toInt64.toUInt64).toInt64) &&& (127 : Int64)) ||| (128 : Int64)).toInt32).toInt8.toInt32)), .val (.long (((q4.toUInt64 >>> (((7 : Int32) * (p1 - p2)) &&& 0x3f).toInt64.toUInt64).toInt64) &&& (127 : Int64))), .second, .val (.int (128 : Int32))] [])
          refine own_iconst X0 hx 77 (0 : Int32) (by decide) (hb hby d3_76) rfl ?_
          exact own_retZ X0 hx (0 : Int32) (by decide) hret hlk (hb hby d3_77) (by decide) (by decide) ⟨congrArg (fun z => some (Value.int z)) ((show (0 : Int32) = own_cell (f i) p1 p2 p3 q4 p6 from by unfold own_cell; rw [if_neg h1, if_pos h3, if_pos h4, if_neg h6]).trans hz), N0, e0⟩
        · show own_W p e below _ T0 (mkF m 72 #[.val (.ref t), .val (.int p1), .val (.int p2), .val (.int p3), .val (.long q4), .second, .val (.int p6), .val (.int (p1 - p2)), .val (.int ((((((q4.toUInt64 >>> (((7 : Int32) * (p1 - p2)) &&& 0x3f).toInt64.toUInt64).toInt64) &&& (127 : Int64)) ||| (128 : Int64)).toInt32).toInt8.toInt32)), .val (.long (((q4.toUInt64 >>> (((7 : Int32) * (p1 - p2)) &&& 0x3f).toInt64.toUInt64).toInt64) &&& (127 : Int64))), .second, .val (.int (128 : Int32))] [])
          refine own_iconst X0 hx 73 (1 : Int32) (by decide) (hb hby d3_72) rfl ?_
          refine own_goto X0 hx 77 (hb hby d3_73) (by decide) (by decide) ?_
          exact own_retZ X0 hx (1 : Int32) (by decide) hret hlk (hb hby d3_77) (by decide) (by decide) ⟨congrArg (fun z => some (Value.int z)) ((show (1 : Int32) = own_cell (f i) p1 p2 p3 q4 p6 from by unfold own_cell; rw [if_neg h1, if_pos h3, if_pos h4, if_pos h6]).trans hz), N0, e0⟩
    · show own_W p e below _ T0 (mkF m 16 #[.val (.ref t), .val (.int p1), .val (.int p2), .val (.int p3), .val (.long q4), .second, .val (.int p6), .val (.int (p1 - p2)), .unset, .unset, .unset, .unset] [])
      refine own_iload X0 hx 18 (hb hby d3_16) rfl rfl ?_
      refine own_istore X0 hx 20 #[.val (.ref t), .val (.int p1), .val (.int p2), .val (.int p3), .val (.long q4), .second, .val (.int p6), .val (.int (p1 - p2)), .val (.int p6), .unset, .unset, .unset] rfl (hb hby d3_18) rfl rfl ?_
      refine own_goto X0 hx 64 (hb hby d3_20) (by decide) (by decide) ?_
      refine own_aloadN X0 hx 65 (hb hby d3_64) rfl rfl ?_
      refine own_iloadN X0 hx 66 (hb hby d3_65) rfl rfl ?_
      refine own_baload X0 hx hZ e0 67 i A_t hp hi (hb hby d3_66) rfl ?_
      refine own_iload X0 hx 69 (hb hby d3_67) rfl rfl ?_
      refine own_icmp_ne X0 hx 76 72 (hb hby d3_69) (by decide) (by decide) rfl (fun h7 => ?_) (fun h7 => ?_)
      · show own_W p e below _ T0 (mkF m 76 #[.val (.ref t), .val (.int p1), .val (.int p2), .val (.int p3), .val (.long q4), .second, .val (.int p6), .val (.int (p1 - p2)), .val (.int p6), .unset, .unset, .unset] [])
        refine own_iconst X0 hx 77 (0 : Int32) (by decide) (hb hby d3_76) rfl ?_
        exact own_retZ X0 hx (0 : Int32) (by decide) hret hlk (hb hby d3_77) (by decide) (by decide) ⟨congrArg (fun z => some (Value.int z)) ((show (0 : Int32) = own_cell (f i) p1 p2 p3 q4 p6 from by unfold own_cell; rw [if_neg h1, if_neg h3, if_neg h7]).trans hz), N0, e0⟩
      · show own_W p e below _ T0 (mkF m 72 #[.val (.ref t), .val (.int p1), .val (.int p2), .val (.int p3), .val (.long q4), .second, .val (.int p6), .val (.int (p1 - p2)), .val (.int p6), .unset, .unset, .unset] [])
        refine own_iconst X0 hx 73 (1 : Int32) (by decide) (hb hby d3_72) rfl ?_
        refine own_goto X0 hx 77 (hb hby d3_73) (by decide) (by decide) ?_
        exact own_retZ X0 hx (1 : Int32) (by decide) hret hlk (hb hby d3_77) (by decide) (by decide) ⟨congrArg (fun z => some (Value.int z)) ((show (1 : Int32) = own_cell (f i) p1 p2 p3 q4 p6 from by unfold own_cell; rw [if_neg h1, if_neg h3, if_pos h7]).trans hz), N0, e0⟩
theorem d2_0 : decode prog_59_method_5_code 0 = .ok (.iload_n 1, 1) := by decide +kernel
theorem d2_1 : decode prog_59_method_5_code 1 = .ok (.istore 4, 2) := by decide +kernel
theorem d2_3 : decode prog_59_method_5_code 3 = .ok (.lload_n 2, 1) := by decide +kernel
theorem d2_4 : decode prog_59_method_5_code 4 = .ok (.lstore 5, 2) := by decide +kernel
theorem d2_6 : decode prog_59_method_5_code 6 = .ok (.lload 5, 2) := by decide +kernel
theorem d2_8 : decode prog_59_method_5_code 8 = .ok (.ldc2_w 125, 3) := by decide +kernel
theorem d2_11 : decode prog_59_method_5_code 11 = .ok (.land, 1) := by decide +kernel
theorem d2_12 : decode prog_59_method_5_code 12 = .ok (.lconst 0, 1) := by decide +kernel
theorem d2_13 : decode prog_59_method_5_code 13 = .ok (.lcmp, 1) := by decide +kernel
theorem d2_14 : decode prog_59_method_5_code 14 = .ok (.ifCond .eq 32, 3) := by decide +kernel
theorem d2_17 : decode prog_59_method_5_code 17 = .ok (.aload_n 0, 1) := by decide +kernel
theorem d2_18 : decode prog_59_method_5_code 18 = .ok (.iload 4, 2) := by decide +kernel
theorem d2_20 : decode prog_59_method_5_code 20 = .ok (.iinc 4 1, 3) := by decide +kernel
theorem d2_23 : decode prog_59_method_5_code 23 = .ok (.lload 5, 2) := by decide +kernel
theorem d2_25 : decode prog_59_method_5_code 25 = .ok (.ldc2_w 127, 3) := by decide +kernel
theorem d2_28 : decode prog_59_method_5_code 28 = .ok (.land, 1) := by decide +kernel
theorem d2_29 : decode prog_59_method_5_code 29 = .ok (.ldc2_w 129, 3) := by decide +kernel
theorem d2_32 : decode prog_59_method_5_code 32 = .ok (.lor, 1) := by decide +kernel
theorem d2_33 : decode prog_59_method_5_code 33 = .ok (.l2i, 1) := by decide +kernel
theorem d2_34 : decode prog_59_method_5_code 34 = .ok (.i2b, 1) := by decide +kernel
theorem d2_35 : decode prog_59_method_5_code 35 = .ok (.bastore, 1) := by decide +kernel
theorem d2_36 : decode prog_59_method_5_code 36 = .ok (.lload 5, 2) := by decide +kernel
theorem d2_38 : decode prog_59_method_5_code 38 = .ok (.bipush 7, 2) := by decide +kernel
theorem d2_40 : decode prog_59_method_5_code 40 = .ok (.lushr, 1) := by decide +kernel
theorem d2_41 : decode prog_59_method_5_code 41 = .ok (.lstore 5, 2) := by decide +kernel
theorem d2_43 : decode prog_59_method_5_code 43 = .ok (.goto (-37), 3) := by decide +kernel
theorem d2_46 : decode prog_59_method_5_code 46 = .ok (.aload_n 0, 1) := by decide +kernel
theorem d2_47 : decode prog_59_method_5_code 47 = .ok (.iload 4, 2) := by decide +kernel
theorem d2_49 : decode prog_59_method_5_code 49 = .ok (.iinc 4 1, 3) := by decide +kernel
theorem d2_52 : decode prog_59_method_5_code 52 = .ok (.lload 5, 2) := by decide +kernel
theorem d2_54 : decode prog_59_method_5_code 54 = .ok (.l2i, 1) := by decide +kernel
theorem d2_55 : decode prog_59_method_5_code 55 = .ok (.i2b, 1) := by decide +kernel
theorem d2_56 : decode prog_59_method_5_code 56 = .ok (.bastore, 1) := by decide +kernel
theorem d2_57 : decode prog_59_method_5_code 57 = .ok (.iload 4, 2) := by decide +kernel
theorem d2_59 : decode prog_59_method_5_code 59 = .ok (.ireturn, 1) := by decide +kernel
set_option maxRecDepth 65536 in
set_option maxHeartbeats 40000000 in
theorem rm2 (l : Launch) (Z : State) (a0 : Array Value) (hw : ∀ d ∈ tables_1, d.before a0 Z = true) (t : Addr) (p1 : Int32) (q2 : Int64) (at_ : Nat) (f : Nat → Int32) (h0 : Heap) (n0 : Nat) (Z0 : n0 ≤ h0.size) (hp1 : p1.toInt = ((at_ + 0 : Nat) : Int)) (hp2 : 0 ≤ q2.toInt) (hp3 : at_ ≤ 6) (gt : n0 ≤ t) (A_t : own_AI Z h0 t .byte 16 f) :
    own_C l Z (⟨"indaga/index/IndexFormat", "putVarint", "([BIJ)I"⟩ : MethodName) prog_59_method_5_code 7 (some .int) [] ({ frames := 0, cells := 0, slots := 0, locals := 0 } : Room) #[(.ref t), (.int p1), (.long q2)] h0 (fun v h L => ∃ cn, own_cnt q2 cn ∧ ∃ r, v = some (.int r) ∧ r.toInt = ((at_ + cn + 1 : Nat) : Int) ∧ Fr n0 L ∧ Keep h0 h [t] ∧ own_AI Z h t .byte 16 (own_fin f at_ cn q2)) := by
  refine own_body (by first | (simp [plainName, overriddenIn]; done) | decide +kernel) ?_
  intro p e s m below meth c T0 hx hby hml hown hnm hret hlk hZ X0 e0
  have N0 := Fr.nil n0
  refine own_eq (f' := (mkF m 0 #[.val (.ref t), .val (.int p1), .val (.long q2), .second, .unset, .unset, .unset] [])) (by first | (simp [entryFrame, mkF, argsToLocals, Value.category]; done) | rfl) ?_
  refine own_iloadN X0 hx 1 (hb hby d2_0) rfl rfl ?_
  refine own_istore X0 hx 3 #[.val (.ref t), .val (.int p1), .val (.long q2), .second, .val (.int p1), .unset, .unset] rfl (hb hby d2_1) rfl rfl ?_
  refine own_lloadN X0 hx 4 (hb hby d2_3) rfl rfl ?_
  refine own_lstore X0 hx 6 #[.val (.ref t), .val (.int p1), .val (.long q2), .second, .val (.int p1), .val (.long q2), .second] rfl (hb hby d2_4) rfl rfl ?_
  have J1 : ∀ (k : Nat) (vn : Int32) (vr : Int64) (cn : Nat) (T3 : State) (lc4 : List Loc) (h5 : Heap) (g1 : Nat → Int32) (X6 : Stand p l e ({ frames := 0, cells := 0, slots := 0, locals := 0 } : Room) s m #[(.ref t), (.int p1), (.long q2)] below meth c T3 lc4 0 0) (e7 : T3.heap = h5) (N8 : Fr n0 lc4) (Z9 : n0 ≤ h5.size) (f10 : own_AI Z h5 t .byte 16 g1) (K11 : Keep h0 h5 [t]) (hj12 : vn.toInt = ((at_ + cn : Nat) : Int) ∧ vr = own_rs q2 cn ∧ cn + k = 9 ∧ (cn = 0 ∨ 128 ^ cn ≤ q2.toInt.toNat) ∧ cn ≤ 8 ∧ g1 = own_arr f at_ cn q2), own_W p e below (own_K s ({ frames := 0, cells := 0, slots := 0, locals := 0 } : Room) (fun v h L => ∃ cn, own_cnt q2 cn ∧ ∃ r, v = some (.int r) ∧ r.toInt = ((at_ + cn + 1 : Nat) : Int) ∧ Fr n0 L ∧ Keep h0 h [t] ∧ own_AI Z h t .byte 16 (own_fin f at_ cn q2))) T3 (mkF m 6 #[.val (.ref t), .val (.int p1), .val (.long q2), .second, .val (.int vn), .val (.long vr), .second] []) := by
    intro k
    induction k using Nat.strongRecOn with
    | _ k ih2 =>
      intro vn vr cn T3 lc4 h5 g1 X6 e7 N8 Z9 f10 K11 hj12
      obtain ⟨hvn, hvr, hck, hlo, hc8, hg1⟩ := hj12
      have hrn : vr.toInt = ((q2.toInt.toNat / 128 ^ cn : Nat) : Int) := by rw [hvr]; exact own_rsN q2 cn hp2
      have hr0 : 0 ≤ vr.toInt := by rw [hrn]; exact Int.natCast_nonneg _
      have hstop := own_stop vr hr0
      refine own_lload X6 hx 8 (hb hby d2_6) rfl rfl ?_
      refine own_ldc2 X6 hx hZ hown 11 (hw _ (List.mem_of_getElem? (i := 12) rfl)) (hb hby d2_8) rfl ?_
      refine own_land X6 hx 12 (hb hby d2_11) rfl ?_
      refine own_lconst X6 hx 13 (0 : Int64) (by decide) (hb hby d2_12) rfl ?_
      refine own_lif_eq X6 hx 14 46 17 (hb hby d2_13) rfl (hb hby d2_14) (by decide) (by decide) rfl (fun h13 => ?_) (fun h13 => ?_)
      · show own_W p e below _ T3 (mkF m 46 #[.val (.ref t), .val (.int p1), .val (.long q2), .second, .val (.int vn), .val (.long vr), .second] [])
        refine own_aloadN X6 hx 47 (hb hby d2_46) rfl rfl ?_
        refine own_iload X6 hx 49 (hb hby d2_47) rfl rfl ?_
        obtain ⟨v14, e_v14⟩ : ∃ z : Int32, z = (vn + (1 : Int32)) := ⟨_, rfl⟩
        refine own_iinc X6 hx v14 52 #[.val (.ref t), .val (.int p1), .val (.long q2), .second, .val (.int v14), .val (.long vr), .second] e_v14 (hb hby d2_49) rfl rfl rfl ?_
        refine own_lload X6 hx 54 (hb hby d2_52) rfl rfl ?_
        refine own_l2i X6 hx 55 (hb hby d2_54) rfl ?_
        refine own_i2b X6 hx 56 (hb hby d2_55) rfl ?_
        refine own_bastore X6 hx hZ e7 57 (at_ + cn) f10 hvn (by omega) (hb hby d2_56) rfl (fun T15 h16 X17 e18 W19 => ?_)
        have f20 := f10.set W19
        have Z21 : n0 ≤ h16.size := Nat.le_trans Z9 (Keep.of_wr W19).1
        have K22 := K11.wr W19 (Or.inl (List.mem_of_getElem? (i := 0) rfl))
        have N23 := Fr.snoc X17 N8 gt
        refine own_iload X17 hx 59 (hb hby d2_57) rfl rfl ?_
        exact own_retI X17 hx hret hlk (hb hby d2_59) (by decide) (by decide) ⟨cn, ⟨hc8, hlo, own_top q2 cn vr hrn (hstop.mp h13)⟩, _, rfl, own_inc vn v14 (at_ + cn) hvn (by omega) e_v14, N23, by rw [e18]; exact ⟨K22, by rw [own_finE q2 cn at_ vr hvr g1 f hg1]; exact f20⟩⟩
      · show own_W p e below _ T3 (mkF m 17 #[.val (.ref t), .val (.int p1), .val (.long q2), .second, .val (.int vn), .val (.long vr), .second] [])
        refine own_aloadN X6 hx 18 (hb hby d2_17) rfl rfl ?_
        refine own_iload X6 hx 20 (hb hby d2_18) rfl rfl ?_
        obtain ⟨v24, e_v24⟩ : ∃ z : Int32, z = (vn + (1 : Int32)) := ⟨_, rfl⟩
        refine own_iinc X6 hx v24 23 #[.val (.ref t), .val (.int p1), .val (.long q2), .second, .val (.int v24), .val (.long vr), .second] e_v24 (hb hby d2_20) rfl rfl rfl ?_
        refine own_lload X6 hx 25 (hb hby d2_23) rfl rfl ?_
        refine own_ldc2 X6 hx hZ hown 28 (hw _ (List.mem_of_getElem? (i := 21) rfl)) (hb hby d2_25) rfl ?_
        refine own_land X6 hx 29 (hb hby d2_28) rfl ?_
        refine own_ldc2 X6 hx hZ hown 32 (hw _ (List.mem_of_getElem? (i := 22) rfl)) (hb hby d2_29) rfl ?_
        refine own_lor X6 hx 33 (hb hby d2_32) rfl ?_
        refine own_l2i X6 hx 34 (hb hby d2_33) rfl ?_
        refine own_i2b X6 hx 35 (hb hby d2_34) rfl ?_
        refine own_bastore X6 hx hZ e7 36 (at_ + cn) f10 hvn (by omega) (hb hby d2_35) rfl (fun T25 h26 X27 e28 W29 => ?_)
        have f30 := f10.set W29
        have Z31 : n0 ≤ h26.size := Nat.le_trans Z9 (Keep.of_wr W29).1
        have K32 := K11.wr W29 (Or.inl (List.mem_of_getElem? (i := 0) rfl))
        have N33 := Fr.snoc X27 N8 gt
        refine own_lload X27 hx 38 (hb hby d2_36) rfl rfl ?_
        refine own_bipush X27 hx 40 (7 : Int32) (by decide) (hb hby d2_38) rfl ?_
        refine own_lushr X27 hx 41 (hb hby d2_40) rfl ?_
        obtain ⟨w34, e_w34⟩ : ∃ z : Int64, z = ((vr.toUInt64 >>> ((7 : Int32) &&& 0x3f).toInt64.toUInt64).toInt64) := ⟨_, rfl⟩
        refine own_lstore X27 hx 43 #[.val (.ref t), .val (.int p1), .val (.long q2), .second, .val (.int v24), .val (.long w34), .second] e_w34 (hb hby d2_41) rfl rfl ?_
        refine own_goto X27 hx 6 (hb hby d2_43) (by decide) (by decide) ?_
        exact ih2 (k - 1) (by omega) v24 w34 (cn + 1) T25 _ _ (fun q => if q = (at_ + cn) then ((((vr &&& (127 : Int64)) ||| (128 : Int64)).toInt32).toInt8.toInt32).toInt8.toInt32 else g1 q) X27 e28 N33 Z31 f30 K32 (own_turn q2 cn k at_ vn vr v24 w34 hvn hvr hck hlo hc8 hp2 hp3 hrn (mt hstop.mpr h13) e_v24 e_w34 g1 f hg1 _ rfl)
  exact J1 9 p1 q2 0 T0 _ _ f X0 e0 N0 Z0 A_t (Keep.refl h0 [t]) (⟨hp1, (own_rs0 q2).symm, rfl, Or.inl rfl, by decide, own_arr0 f at_ q2⟩)
set_option maxRecDepth 65536 in
set_option maxHeartbeats 40000000 in
theorem rm0 (l : Launch) (Z : State) (a0 : Array Value) (hw : ∀ d ∈ tables_1, d.before a0 Z = true) (q0 : Int64) (p1 p2 p3 : Int32) (h0 : Heap) (n0 : Nat) (Z0 : n0 ≤ h0.size)  :
    own_C l Z x code maxLocals ret tables_1 room_1 #[(.long q0), (.int p1), (.int p2), (.int p3)] h0 (fun v h L => v = some (.int 1) ∧ Fr n0 L) := by
  refine own_body (by first | (simp [plainName, overriddenIn]; done) | decide +kernel) ?_
  intro p e s m below meth c T0 hx hby hml hown hnm hret hlk hZ X0 e0
  have N0 := Fr.nil n0
  refine own_eq (f' := (mkF m 0 #[.val (.long q0), .second, .val (.int p1), .val (.int p2), .val (.int p3), .unset, .unset, .unset, .unset, .unset, .unset, .unset, .unset] [])) (by first | (simp [entryFrame, mkF, argsToLocals, Value.category, maxLocals]; done) | rfl) ?_
  refine own_lloadN X0 hx 1 (hb hby at_0) rfl rfl ?_
  refine own_ldc2 X0 hx hZ hown 4 (hw _ (List.mem_of_getElem? (i := 0) rfl)) (hb hby at_1) rfl ?_
  refine own_land X0 hx 5 (hb hby at_4) rfl ?_
  refine own_iloadN X0 hx 6 (hb hby at_5) rfl rfl ?_
  refine own_bipush X0 hx 8 (63 : Int32) (by decide) (hb hby at_6) rfl ?_
  refine own_iand X0 hx 9 (hb hby at_8) rfl ?_
  refine own_lushr X0 hx 10 (hb hby at_9) rfl ?_
  obtain ⟨vv, e_vv⟩ : ∃ z : Int64, z = (((q0 &&& (9223372036854775807 : Int64)).toUInt64 >>> ((p1 &&& (63 : Int32)) &&& 0x3f).toInt64.toUInt64).toInt64) := ⟨_, rfl⟩
  refine own_lstore X0 hx 12 #[.val (.long q0), .second, .val (.int p1), .val (.int p2), .val (.int p3), .val (.long vv), .second, .unset, .unset, .unset, .unset, .unset, .unset] e_vv (hb hby at_10) rfl rfl ?_
  have hvv := own_val q0 vv p1 e_vv
  refine own_iloadN X0 hx 13 (hb hby at_12) rfl rfl ?_
  refine own_ldc X0 hx hZ hown 15 (hw _ (List.mem_of_getElem? (i := 1) rfl)) (hb hby at_13) rfl ?_
  refine own_iand X0 hx 16 (hb hby at_15) rfl ?_
  refine own_bipush X0 hx 18 (7 : Int32) (by decide) (hb hby at_16) rfl ?_
  refine own_irem X0 hx 19 (by decide) (hb hby at_18) rfl ?_
  obtain ⟨vt, e_vt⟩ : ∃ z : Int32, z = ((p2 &&& (2147483647 : Int32)) % (7 : Int32)) := ⟨_, rfl⟩
  refine own_istore X0 hx 21 #[.val (.long q0), .second, .val (.int p1), .val (.int p2), .val (.int p3), .val (.long vv), .second, .val (.int vt), .unset, .unset, .unset, .unset, .unset] e_vt (hb hby at_19) rfl rfl ?_
  obtain ⟨at_, hvt, hat⟩ := own_at p2 vt e_vt
  refine own_iload X0 hx 23 (hb hby at_21) rfl rfl ?_
  refine own_i2b X0 hx 24 (hb hby at_23) rfl ?_
  obtain ⟨vf, e_vf⟩ : ∃ z : Int32, z = (p3.toInt8.toInt32) := ⟨_, rfl⟩
  refine own_istore X0 hx 26 #[.val (.long q0), .second, .val (.int p1), .val (.int p2), .val (.int p3), .val (.long vv), .second, .val (.int vt), .val (.int vf), .unset, .unset, .unset, .unset] e_vf (hb hby at_24) rfl rfl ?_
  refine own_bipush X0 hx 28 (16 : Int32) (by decide) (hb hby at_26) rfl ?_
  refine own_newI X0 hx hZ e0 (n := 16) (cap := 16) 30 .byte rfl rfl (hw _ (List.mem_of_getElem? (i := 2) rfl)) rfl (by decide) (by decide) (hb hby at_28) rfl (by decide) (by decide) (fun T1 h2 a3 X4 e5 g6 E7 A8 => ?_)
  have ga9 : n0 ≤ a3 := by rw [g6]; exact Z0
  have Z10 : n0 ≤ h2.size := Nat.le_trans Z0 E7.1
  refine own_dup X4 hx 31 rfl (hb hby at_30) rfl ?_
  refine own_iconst X4 hx 32 (0 : Int32) (by decide) (hb hby at_31) rfl ?_
  refine own_iload X4 hx 34 (hb hby at_32) rfl rfl ?_
  refine own_bastore X4 hx hZ e5 35 0 A8 rfl (by decide) (hb hby at_34) rfl (fun T11 h12 X13 e14 W15 => ?_)
  have f16 := A8.set W15
  have Z17 : n0 ≤ h12.size := Nat.le_trans Z10 (Keep.of_wr W15).1
  have N18 := Fr.snoc X13 N0 ga9
  refine own_dup X13 hx 36 rfl (hb hby at_35) rfl ?_
  refine own_iconst X13 hx 37 (1 : Int32) (by decide) (hb hby at_36) rfl ?_
  refine own_iload X13 hx 39 (hb hby at_37) rfl rfl ?_
  refine own_bastore X13 hx hZ e14 40 1 f16 rfl (by decide) (hb hby at_39) rfl (fun T19 h20 X21 e22 W23 => ?_)
  have f24 := f16.set W23
  have Z25 : n0 ≤ h20.size := Nat.le_trans Z17 (Keep.of_wr W23).1
  have N26 := Fr.snoc X21 N18 ga9
  refine own_dup X21 hx 41 rfl (hb hby at_40) rfl ?_
  refine own_iconst X21 hx 42 (2 : Int32) (by decide) (hb hby at_41) rfl ?_
  refine own_iload X21 hx 44 (hb hby at_42) rfl rfl ?_
  refine own_bastore X21 hx hZ e22 45 2 f24 rfl (by decide) (hb hby at_44) rfl (fun T27 h28 X29 e30 W31 => ?_)
  have f32 := f24.set W31
  have Z33 : n0 ≤ h28.size := Nat.le_trans Z25 (Keep.of_wr W31).1
  have N34 := Fr.snoc X29 N26 ga9
  refine own_dup X29 hx 46 rfl (hb hby at_45) rfl ?_
  refine own_iconst X29 hx 47 (3 : Int32) (by decide) (hb hby at_46) rfl ?_
  refine own_iload X29 hx 49 (hb hby at_47) rfl rfl ?_
  refine own_bastore X29 hx hZ e30 50 3 f32 rfl (by decide) (hb hby at_49) rfl (fun T35 h36 X37 e38 W39 => ?_)
  have f40 := f32.set W39
  have Z41 : n0 ≤ h36.size := Nat.le_trans Z33 (Keep.of_wr W39).1
  have N42 := Fr.snoc X37 N34 ga9
  refine own_dup X37 hx 51 rfl (hb hby at_50) rfl ?_
  refine own_iconst X37 hx 52 (4 : Int32) (by decide) (hb hby at_51) rfl ?_
  refine own_iload X37 hx 54 (hb hby at_52) rfl rfl ?_
  refine own_bastore X37 hx hZ e38 55 4 f40 rfl (by decide) (hb hby at_54) rfl (fun T43 h44 X45 e46 W47 => ?_)
  have f48 := f40.set W47
  have Z49 : n0 ≤ h44.size := Nat.le_trans Z41 (Keep.of_wr W47).1
  have N50 := Fr.snoc X45 N42 ga9
  refine own_dup X45 hx 56 rfl (hb hby at_55) rfl ?_
  refine own_iconst X45 hx 57 (5 : Int32) (by decide) (hb hby at_56) rfl ?_
  refine own_iload X45 hx 59 (hb hby at_57) rfl rfl ?_
  refine own_bastore X45 hx hZ e46 60 5 f48 rfl (by decide) (hb hby at_59) rfl (fun T51 h52 X53 e54 W55 => ?_)
  have f56 := f48.set W55
  have Z57 : n0 ≤ h52.size := Nat.le_trans Z49 (Keep.of_wr W55).1
  have N58 := Fr.snoc X53 N50 ga9
  refine own_dup X53 hx 61 rfl (hb hby at_60) rfl ?_
  refine own_bipush X53 hx 63 (6 : Int32) (by decide) (hb hby at_61) rfl ?_
  refine own_iload X53 hx 65 (hb hby at_63) rfl rfl ?_
  refine own_bastore X53 hx hZ e54 66 6 f56 rfl (by decide) (hb hby at_65) rfl (fun T59 h60 X61 e62 W63 => ?_)
  have f64 := f56.set W63
  have Z65 : n0 ≤ h60.size := Nat.le_trans Z57 (Keep.of_wr W63).1
  have N66 := Fr.snoc X61 N58 ga9
  refine own_dup X61 hx 67 rfl (hb hby at_66) rfl ?_
  refine own_bipush X61 hx 69 (7 : Int32) (by decide) (hb hby at_67) rfl ?_
  refine own_iload X61 hx 71 (hb hby at_69) rfl rfl ?_
  refine own_bastore X61 hx hZ e62 72 7 f64 rfl (by decide) (hb hby at_71) rfl (fun T67 h68 X69 e70 W71 => ?_)
  have f72 := f64.set W71
  have Z73 : n0 ≤ h68.size := Nat.le_trans Z65 (Keep.of_wr W71).1
  have N74 := Fr.snoc X69 N66 ga9
  refine own_dup X69 hx 73 rfl (hb hby at_72) rfl ?_
  refine own_bipush X69 hx 75 (8 : Int32) (by decide) (hb hby at_73) rfl ?_
  refine own_iload X69 hx 77 (hb hby at_75) rfl rfl ?_
  refine own_bastore X69 hx hZ e70 78 8 f72 rfl (by decide) (hb hby at_77) rfl (fun T75 h76 X77 e78 W79 => ?_)
  have f80 := f72.set W79
  have Z81 : n0 ≤ h76.size := Nat.le_trans Z73 (Keep.of_wr W79).1
  have N82 := Fr.snoc X77 N74 ga9
  refine own_dup X77 hx 79 rfl (hb hby at_78) rfl ?_
  refine own_bipush X77 hx 81 (9 : Int32) (by decide) (hb hby at_79) rfl ?_
  refine own_iload X77 hx 83 (hb hby at_81) rfl rfl ?_
  refine own_bastore X77 hx hZ e78 84 9 f80 rfl (by decide) (hb hby at_83) rfl (fun T83 h84 X85 e86 W87 => ?_)
  have f88 := f80.set W87
  have Z89 : n0 ≤ h84.size := Nat.le_trans Z81 (Keep.of_wr W87).1
  have N90 := Fr.snoc X85 N82 ga9
  refine own_dup X85 hx 85 rfl (hb hby at_84) rfl ?_
  refine own_bipush X85 hx 87 (10 : Int32) (by decide) (hb hby at_85) rfl ?_
  refine own_iload X85 hx 89 (hb hby at_87) rfl rfl ?_
  refine own_bastore X85 hx hZ e86 90 10 f88 rfl (by decide) (hb hby at_89) rfl (fun T91 h92 X93 e94 W95 => ?_)
  have f96 := f88.set W95
  have Z97 : n0 ≤ h92.size := Nat.le_trans Z89 (Keep.of_wr W95).1
  have N98 := Fr.snoc X93 N90 ga9
  refine own_dup X93 hx 91 rfl (hb hby at_90) rfl ?_
  refine own_bipush X93 hx 93 (11 : Int32) (by decide) (hb hby at_91) rfl ?_
  refine own_iload X93 hx 95 (hb hby at_93) rfl rfl ?_
  refine own_bastore X93 hx hZ e94 96 11 f96 rfl (by decide) (hb hby at_95) rfl (fun T99 h100 X101 e102 W103 => ?_)
  have f104 := f96.set W103
  have Z105 : n0 ≤ h100.size := Nat.le_trans Z97 (Keep.of_wr W103).1
  have N106 := Fr.snoc X101 N98 ga9
  refine own_dup X101 hx 97 rfl (hb hby at_96) rfl ?_
  refine own_bipush X101 hx 99 (12 : Int32) (by decide) (hb hby at_97) rfl ?_
  refine own_iload X101 hx 101 (hb hby at_99) rfl rfl ?_
  refine own_bastore X101 hx hZ e102 102 12 f104 rfl (by decide) (hb hby at_101) rfl (fun T107 h108 X109 e110 W111 => ?_)
  have f112 := f104.set W111
  have Z113 : n0 ≤ h108.size := Nat.le_trans Z105 (Keep.of_wr W111).1
  have N114 := Fr.snoc X109 N106 ga9
  refine own_dup X109 hx 103 rfl (hb hby at_102) rfl ?_
  refine own_bipush X109 hx 105 (13 : Int32) (by decide) (hb hby at_103) rfl ?_
  refine own_iload X109 hx 107 (hb hby at_105) rfl rfl ?_
  refine own_bastore X109 hx hZ e110 108 13 f112 rfl (by decide) (hb hby at_107) rfl (fun T115 h116 X117 e118 W119 => ?_)
  have f120 := f112.set W119
  have Z121 : n0 ≤ h116.size := Nat.le_trans Z113 (Keep.of_wr W119).1
  have N122 := Fr.snoc X117 N114 ga9
  refine own_dup X117 hx 109 rfl (hb hby at_108) rfl ?_
  refine own_bipush X117 hx 111 (14 : Int32) (by decide) (hb hby at_109) rfl ?_
  refine own_iload X117 hx 113 (hb hby at_111) rfl rfl ?_
  refine own_bastore X117 hx hZ e118 114 14 f120 rfl (by decide) (hb hby at_113) rfl (fun T123 h124 X125 e126 W127 => ?_)
  have f128 := f120.set W127
  have Z129 : n0 ≤ h124.size := Nat.le_trans Z121 (Keep.of_wr W127).1
  have N130 := Fr.snoc X125 N122 ga9
  refine own_dup X125 hx 115 rfl (hb hby at_114) rfl ?_
  refine own_bipush X125 hx 117 (15 : Int32) (by decide) (hb hby at_115) rfl ?_
  refine own_iload X125 hx 119 (hb hby at_117) rfl rfl ?_
  refine own_bastore X125 hx hZ e126 120 15 f128 rfl (by decide) (hb hby at_119) rfl (fun T131 h132 X133 e134 W135 => ?_)
  have f136 := f128.set W135
  have Z137 : n0 ≤ h132.size := Nat.le_trans Z129 (Keep.of_wr W135).1
  have N138 := Fr.snoc X133 N130 ga9
  refine own_astore X133 hx 122 #[.val (.long q0), .second, .val (.int p1), .val (.int p2), .val (.int p3), .val (.long vv), .second, .val (.int vt), .val (.int vf), .val (.ref a3), .unset, .unset, .unset] rfl (hb hby at_120) rfl rfl ?_
  obtain ⟨fz, e_fz⟩ : ∃ z : Nat → Int32, z = (fun q => if q = 15 then vf.toInt8.toInt32 else (fun q => if q = 14 then vf.toInt8.toInt32 else (fun q => if q = 13 then vf.toInt8.toInt32 else (fun q => if q = 12 then vf.toInt8.toInt32 else (fun q => if q = 11 then vf.toInt8.toInt32 else (fun q => if q = 10 then vf.toInt8.toInt32 else (fun q => if q = 9 then vf.toInt8.toInt32 else (fun q => if q = 8 then vf.toInt8.toInt32 else (fun q => if q = 7 then vf.toInt8.toInt32 else (fun q => if q = 6 then vf.toInt8.toInt32 else (fun q => if q = 5 then vf.toInt8.toInt32 else (fun q => if q = 4 then vf.toInt8.toInt32 else (fun q => if q = 3 then vf.toInt8.toInt32 else (fun q => if q = 2 then vf.toInt8.toInt32 else (fun q => if q = 1 then vf.toInt8.toInt32 else (fun q => if q = 0 then vf.toInt8.toInt32 else (fun _ => 0) q) q) q) q) q) q) q) q) q) q) q) q) q) q) q) q) := ⟨_, rfl⟩
  rw [← e_fz] at f136
  have hfill : vf.toInt8.toInt32 = vf := by rw [e_vf]; exact own_ii _
  have hfz : ∀ i, i < 16 → fz i = vf := own_fz fz vf hfill e_fz
  refine own_lload X133 hx 124 (hb hby at_122) rfl rfl ?_
  refine own_callS X133 hx hZ hown e134 (y := (⟨"indaga/index/IndexFormatPutVarintPinLaw", "size", "(J)I"⟩ : MethodName)) (argsL := [(.long vv)]) (rest := []) 127 (rm1 l Z a0 hw vv h132 n0 Z137) (hw _ (List.mem_of_getElem? (i := 3) rfl)) (hw _ (List.mem_of_getElem? (i := 4) rfl)) (hw _ (List.mem_of_getElem? (i := 5) rfl)) (hw _ (List.mem_of_getElem? (i := 6) rfl)) (by decide) (by rw [hml]; rfl) (lenOf (by decide +kernel : parseMethodDescriptor "(J)I" = some ⟨[.long], some .int⟩) rfl) rfl (hb hby at_124) rfl (W := 0) rfl (by decide) (by decide) (by decide) (by decide) (fun r139 T140 L141 X142 q143 => ?_)
  obtain ⟨rfl, N144q, e145⟩ := q143
  have N144 := Fr.app N138 N144q
  show own_W p e below _ T140 (mkF m 127 #[.val (.long q0), .second, .val (.int p1), .val (.int p2), .val (.int p3), .val (.long vv), .second, .val (.int vt), .val (.int vf), .val (.ref a3), .unset, .unset, .unset] [(.int (own_size vv))])
  obtain ⟨vn, e_vn⟩ : ∃ z : Int32, z = (own_size vv) := ⟨_, rfl⟩
  refine own_istore X142 hx 129 #[.val (.long q0), .second, .val (.int p1), .val (.int p2), .val (.int p3), .val (.long vv), .second, .val (.int vt), .val (.int vf), .val (.ref a3), .val (.int vn), .unset, .unset] e_vn (hb hby at_127) rfl rfl ?_
  refine own_aload X142 hx 131 (hb hby at_129) rfl rfl ?_
  refine own_iload X142 hx 133 (hb hby at_131) rfl rfl ?_
  refine own_lload X142 hx 135 (hb hby at_133) rfl rfl ?_
  refine own_callS X142 hx hZ hown e145 (y := (⟨"indaga/index/IndexFormat", "putVarint", "([BIJ)I"⟩ : MethodName)) (argsL := [(.ref a3), (.int vt), (.long vv)]) (rest := []) 138 (rm2 l Z a0 hw a3 vt vv at_ fz h132 n0 Z137 hvt hvv hat ga9 f136) (hw _ (List.mem_of_getElem? (i := 8) rfl)) (hw _ (List.mem_of_getElem? (i := 9) rfl)) (hw _ (List.mem_of_getElem? (i := 10) rfl)) (hw _ (List.mem_of_getElem? (i := 11) rfl)) (by decide) (by rw [hml]; rfl) (lenOf (by decide +kernel : parseMethodDescriptor "([BIJ)I" = some ⟨[(.array .byte), .int, .long], some .int⟩) rfl) rfl (hb hby at_135) rfl (W := 0) rfl (by decide) (by decide) (by decide) (by decide) (fun r146 T147 L148 X149 q150 => ?_)
  obtain ⟨c, hcnt, rr, rfl, hrr, N151q, K152, f153⟩ := q150
  have N151 := Fr.app N144 N151q
  have Z155 : n0 ≤ T147.heap.size := Nat.le_trans Z137 K152.1
  have hvn : vn.toInt = ((c + 1 : Nat) : Int) := by rw [e_vn]; exact own_sizeN vv c hvv hcnt
  show own_W p e below _ T147 (mkF m 138 #[.val (.long q0), .second, .val (.int p1), .val (.int p2), .val (.int p3), .val (.long vv), .second, .val (.int vt), .val (.int vf), .val (.ref a3), .val (.int vn), .unset, .unset] [(.int rr)])
  refine own_istore X149 hx 140 #[.val (.long q0), .second, .val (.int p1), .val (.int p2), .val (.int p3), .val (.long vv), .second, .val (.int vt), .val (.int vf), .val (.ref a3), .val (.int vn), .val (.int rr), .unset] rfl (hb hby at_138) rfl rfl ?_
  refine own_iload X149 hx 142 (hb hby at_140) rfl rfl ?_
  refine own_iload X149 hx 144 (hb hby at_142) rfl rfl ?_
  refine own_iload X149 hx 146 (hb hby at_144) rfl rfl ?_
  refine own_iadd X149 hx 147 (hb hby at_146) rfl ?_
  refine own_icmp_ne X149 hx 154 150 (hb hby at_147) (by decide) (by decide) rfl (fun h156 => ?_) (fun h156 => ?_)
  · exact absurd (own_ret vt vn rr at_ c hvt hat hcnt.1 hvn hrr) h156
  · show own_W p e below _ T147 (mkF m 150 #[.val (.long q0), .second, .val (.int p1), .val (.int p2), .val (.int p3), .val (.long vv), .second, .val (.int vt), .val (.int vf), .val (.ref a3), .val (.int vn), .val (.int rr), .unset] [])
    refine own_iconst X149 hx 151 (1 : Int32) (by decide) (hb hby at_150) rfl ?_
    refine own_goto X149 hx 155 (hb hby at_151) (by decide) (by decide) ?_
    refine own_istore X149 hx 157 #[.val (.long q0), .second, .val (.int p1), .val (.int p2), .val (.int p3), .val (.long vv), .second, .val (.int vt), .val (.int vf), .val (.ref a3), .val (.int vn), .val (.int rr), .val (.int (1 : Int32))] rfl (hb hby at_155) rfl rfl ?_
    refine own_iload X149 hx 159 (hb hby at_157) rfl rfl ?_
    refine own_aload X149 hx 161 (hb hby at_159) rfl rfl ?_
    refine own_iconst X149 hx 162 (0 : Int32) (by decide) (hb hby at_161) rfl ?_
    refine own_iload X149 hx 164 (hb hby at_162) rfl rfl ?_
    refine own_iload X149 hx 166 (hb hby at_164) rfl rfl ?_
    refine own_lload X149 hx 168 (hb hby at_166) rfl rfl ?_
    refine own_iload X149 hx 170 (hb hby at_168) rfl rfl ?_
    refine own_callS X149 hx hZ hown rfl (y := (⟨"indaga/index/IndexFormatPutVarintPinLaw", "cell", "([BIIIJB)Z"⟩ : MethodName)) (argsL := [(.ref a3), (.int (0 : Int32)), (.int vt), (.int vn), (.long vv), (.int vf)]) (rest := [(.int (1 : Int32))]) 173 (rm3 l Z a0 hw a3 (0 : Int32) vt vn vf vv 0 (own_fin fz at_ c vv) T147.heap n0 Z155 rfl (by decide) (own_cellOk vv vf vt vn (0 : Int32) at_ c 0 fz hvv hcnt hvt hat hvn rfl (by decide) (hfz 0 (by decide))) f153) (hw _ (List.mem_of_getElem? (i := 13) rfl)) (hw _ (List.mem_of_getElem? (i := 14) rfl)) (hw _ (List.mem_of_getElem? (i := 5) rfl)) (hw _ (List.mem_of_getElem? (i := 15) rfl)) (by decide) (by rw [hml]; rfl) (lenOf (by decide +kernel : parseMethodDescriptor "([BIIIJB)Z" = some ⟨[(.array .byte), .int, .int, .int, .long, .byte], some .boolean⟩) rfl) rfl (hb hby at_170) rfl (W := 1) rfl (by decide) (by decide) (by decide) (by decide) (fun r157 T158 L159 X160 q161 => ?_)
    obtain ⟨rfl, N162q, e163⟩ := q161
    have N162 := Fr.app N151 N162q
    show own_W p e below _ T158 (mkF m 173 #[.val (.long q0), .second, .val (.int p1), .val (.int p2), .val (.int p3), .val (.long vv), .second, .val (.int vt), .val (.int vf), .val (.ref a3), .val (.int vn), .val (.int rr), .val (.int (1 : Int32))] [(.int (1 : Int32)), (.int (1 : Int32))])
    refine own_iandz X160 hx 174 (z := (1 : Int32)) (by decide) (hb hby at_173) rfl ?_
    refine own_istore X160 hx 176 #[.val (.long q0), .second, .val (.int p1), .val (.int p2), .val (.int p3), .val (.long vv), .second, .val (.int vt), .val (.int vf), .val (.ref a3), .val (.int vn), .val (.int rr), .val (.int (1 : Int32))] rfl (hb hby at_174) rfl rfl ?_
    refine own_iload X160 hx 178 (hb hby at_176) rfl rfl ?_
    refine own_aload X160 hx 180 (hb hby at_178) rfl rfl ?_
    refine own_iconst X160 hx 181 (1 : Int32) (by decide) (hb hby at_180) rfl ?_
    refine own_iload X160 hx 183 (hb hby at_181) rfl rfl ?_
    refine own_iload X160 hx 185 (hb hby at_183) rfl rfl ?_
    refine own_lload X160 hx 187 (hb hby at_185) rfl rfl ?_
    refine own_iload X160 hx 189 (hb hby at_187) rfl rfl ?_
    refine own_callS X160 hx hZ hown e163 (y := (⟨"indaga/index/IndexFormatPutVarintPinLaw", "cell", "([BIIIJB)Z"⟩ : MethodName)) (argsL := [(.ref a3), (.int (1 : Int32)), (.int vt), (.int vn), (.long vv), (.int vf)]) (rest := [(.int (1 : Int32))]) 192 (rm3 l Z a0 hw a3 (1 : Int32) vt vn vf vv 1 (own_fin fz at_ c vv) T147.heap n0 Z155 rfl (by decide) (own_cellOk vv vf vt vn (1 : Int32) at_ c 1 fz hvv hcnt hvt hat hvn rfl (by decide) (hfz 1 (by decide))) f153) (hw _ (List.mem_of_getElem? (i := 13) rfl)) (hw _ (List.mem_of_getElem? (i := 14) rfl)) (hw _ (List.mem_of_getElem? (i := 5) rfl)) (hw _ (List.mem_of_getElem? (i := 15) rfl)) (by decide) (by rw [hml]; rfl) (lenOf (by decide +kernel : parseMethodDescriptor "([BIIIJB)Z" = some ⟨[(.array .byte), .int, .int, .int, .long, .byte], some .boolean⟩) rfl) rfl (hb hby at_189) rfl (W := 1) rfl (by decide) (by decide) (by decide) (by decide) (fun r164 T165 L166 X167 q168 => ?_)
    obtain ⟨rfl, N169q, e170⟩ := q168
    have N169 := Fr.app N162 N169q
    show own_W p e below _ T165 (mkF m 192 #[.val (.long q0), .second, .val (.int p1), .val (.int p2), .val (.int p3), .val (.long vv), .second, .val (.int vt), .val (.int vf), .val (.ref a3), .val (.int vn), .val (.int rr), .val (.int (1 : Int32))] [(.int (1 : Int32)), (.int (1 : Int32))])
    refine own_iandz X167 hx 193 (z := (1 : Int32)) (by decide) (hb hby at_192) rfl ?_
    refine own_istore X167 hx 195 #[.val (.long q0), .second, .val (.int p1), .val (.int p2), .val (.int p3), .val (.long vv), .second, .val (.int vt), .val (.int vf), .val (.ref a3), .val (.int vn), .val (.int rr), .val (.int (1 : Int32))] rfl (hb hby at_193) rfl rfl ?_
    refine own_iload X167 hx 197 (hb hby at_195) rfl rfl ?_
    refine own_aload X167 hx 199 (hb hby at_197) rfl rfl ?_
    refine own_iconst X167 hx 200 (2 : Int32) (by decide) (hb hby at_199) rfl ?_
    refine own_iload X167 hx 202 (hb hby at_200) rfl rfl ?_
    refine own_iload X167 hx 204 (hb hby at_202) rfl rfl ?_
    refine own_lload X167 hx 206 (hb hby at_204) rfl rfl ?_
    refine own_iload X167 hx 208 (hb hby at_206) rfl rfl ?_
    refine own_callS X167 hx hZ hown e170 (y := (⟨"indaga/index/IndexFormatPutVarintPinLaw", "cell", "([BIIIJB)Z"⟩ : MethodName)) (argsL := [(.ref a3), (.int (2 : Int32)), (.int vt), (.int vn), (.long vv), (.int vf)]) (rest := [(.int (1 : Int32))]) 211 (rm3 l Z a0 hw a3 (2 : Int32) vt vn vf vv 2 (own_fin fz at_ c vv) T147.heap n0 Z155 rfl (by decide) (own_cellOk vv vf vt vn (2 : Int32) at_ c 2 fz hvv hcnt hvt hat hvn rfl (by decide) (hfz 2 (by decide))) f153) (hw _ (List.mem_of_getElem? (i := 13) rfl)) (hw _ (List.mem_of_getElem? (i := 14) rfl)) (hw _ (List.mem_of_getElem? (i := 5) rfl)) (hw _ (List.mem_of_getElem? (i := 15) rfl)) (by decide) (by rw [hml]; rfl) (lenOf (by decide +kernel : parseMethodDescriptor "([BIIIJB)Z" = some ⟨[(.array .byte), .int, .int, .int, .long, .byte], some .boolean⟩) rfl) rfl (hb hby at_208) rfl (W := 1) rfl (by decide) (by decide) (by decide) (by decide) (fun r171 T172 L173 X174 q175 => ?_)
    obtain ⟨rfl, N176q, e177⟩ := q175
    have N176 := Fr.app N169 N176q
    show own_W p e below _ T172 (mkF m 211 #[.val (.long q0), .second, .val (.int p1), .val (.int p2), .val (.int p3), .val (.long vv), .second, .val (.int vt), .val (.int vf), .val (.ref a3), .val (.int vn), .val (.int rr), .val (.int (1 : Int32))] [(.int (1 : Int32)), (.int (1 : Int32))])
    refine own_iandz X174 hx 212 (z := (1 : Int32)) (by decide) (hb hby at_211) rfl ?_
    refine own_istore X174 hx 214 #[.val (.long q0), .second, .val (.int p1), .val (.int p2), .val (.int p3), .val (.long vv), .second, .val (.int vt), .val (.int vf), .val (.ref a3), .val (.int vn), .val (.int rr), .val (.int (1 : Int32))] rfl (hb hby at_212) rfl rfl ?_
    refine own_iload X174 hx 216 (hb hby at_214) rfl rfl ?_
    refine own_aload X174 hx 218 (hb hby at_216) rfl rfl ?_
    refine own_iconst X174 hx 219 (3 : Int32) (by decide) (hb hby at_218) rfl ?_
    refine own_iload X174 hx 221 (hb hby at_219) rfl rfl ?_
    refine own_iload X174 hx 223 (hb hby at_221) rfl rfl ?_
    refine own_lload X174 hx 225 (hb hby at_223) rfl rfl ?_
    refine own_iload X174 hx 227 (hb hby at_225) rfl rfl ?_
    refine own_callS X174 hx hZ hown e177 (y := (⟨"indaga/index/IndexFormatPutVarintPinLaw", "cell", "([BIIIJB)Z"⟩ : MethodName)) (argsL := [(.ref a3), (.int (3 : Int32)), (.int vt), (.int vn), (.long vv), (.int vf)]) (rest := [(.int (1 : Int32))]) 230 (rm3 l Z a0 hw a3 (3 : Int32) vt vn vf vv 3 (own_fin fz at_ c vv) T147.heap n0 Z155 rfl (by decide) (own_cellOk vv vf vt vn (3 : Int32) at_ c 3 fz hvv hcnt hvt hat hvn rfl (by decide) (hfz 3 (by decide))) f153) (hw _ (List.mem_of_getElem? (i := 13) rfl)) (hw _ (List.mem_of_getElem? (i := 14) rfl)) (hw _ (List.mem_of_getElem? (i := 5) rfl)) (hw _ (List.mem_of_getElem? (i := 15) rfl)) (by decide) (by rw [hml]; rfl) (lenOf (by decide +kernel : parseMethodDescriptor "([BIIIJB)Z" = some ⟨[(.array .byte), .int, .int, .int, .long, .byte], some .boolean⟩) rfl) rfl (hb hby at_227) rfl (W := 1) rfl (by decide) (by decide) (by decide) (by decide) (fun r178 T179 L180 X181 q182 => ?_)
    obtain ⟨rfl, N183q, e184⟩ := q182
    have N183 := Fr.app N176 N183q
    show own_W p e below _ T179 (mkF m 230 #[.val (.long q0), .second, .val (.int p1), .val (.int p2), .val (.int p3), .val (.long vv), .second, .val (.int vt), .val (.int vf), .val (.ref a3), .val (.int vn), .val (.int rr), .val (.int (1 : Int32))] [(.int (1 : Int32)), (.int (1 : Int32))])
    refine own_iandz X181 hx 231 (z := (1 : Int32)) (by decide) (hb hby at_230) rfl ?_
    refine own_istore X181 hx 233 #[.val (.long q0), .second, .val (.int p1), .val (.int p2), .val (.int p3), .val (.long vv), .second, .val (.int vt), .val (.int vf), .val (.ref a3), .val (.int vn), .val (.int rr), .val (.int (1 : Int32))] rfl (hb hby at_231) rfl rfl ?_
    refine own_iload X181 hx 235 (hb hby at_233) rfl rfl ?_
    refine own_aload X181 hx 237 (hb hby at_235) rfl rfl ?_
    refine own_iconst X181 hx 238 (4 : Int32) (by decide) (hb hby at_237) rfl ?_
    refine own_iload X181 hx 240 (hb hby at_238) rfl rfl ?_
    refine own_iload X181 hx 242 (hb hby at_240) rfl rfl ?_
    refine own_lload X181 hx 244 (hb hby at_242) rfl rfl ?_
    refine own_iload X181 hx 246 (hb hby at_244) rfl rfl ?_
    refine own_callS X181 hx hZ hown e184 (y := (⟨"indaga/index/IndexFormatPutVarintPinLaw", "cell", "([BIIIJB)Z"⟩ : MethodName)) (argsL := [(.ref a3), (.int (4 : Int32)), (.int vt), (.int vn), (.long vv), (.int vf)]) (rest := [(.int (1 : Int32))]) 249 (rm3 l Z a0 hw a3 (4 : Int32) vt vn vf vv 4 (own_fin fz at_ c vv) T147.heap n0 Z155 rfl (by decide) (own_cellOk vv vf vt vn (4 : Int32) at_ c 4 fz hvv hcnt hvt hat hvn rfl (by decide) (hfz 4 (by decide))) f153) (hw _ (List.mem_of_getElem? (i := 13) rfl)) (hw _ (List.mem_of_getElem? (i := 14) rfl)) (hw _ (List.mem_of_getElem? (i := 5) rfl)) (hw _ (List.mem_of_getElem? (i := 15) rfl)) (by decide) (by rw [hml]; rfl) (lenOf (by decide +kernel : parseMethodDescriptor "([BIIIJB)Z" = some ⟨[(.array .byte), .int, .int, .int, .long, .byte], some .boolean⟩) rfl) rfl (hb hby at_246) rfl (W := 1) rfl (by decide) (by decide) (by decide) (by decide) (fun r185 T186 L187 X188 q189 => ?_)
    obtain ⟨rfl, N190q, e191⟩ := q189
    have N190 := Fr.app N183 N190q
    show own_W p e below _ T186 (mkF m 249 #[.val (.long q0), .second, .val (.int p1), .val (.int p2), .val (.int p3), .val (.long vv), .second, .val (.int vt), .val (.int vf), .val (.ref a3), .val (.int vn), .val (.int rr), .val (.int (1 : Int32))] [(.int (1 : Int32)), (.int (1 : Int32))])
    refine own_iandz X188 hx 250 (z := (1 : Int32)) (by decide) (hb hby at_249) rfl ?_
    refine own_istore X188 hx 252 #[.val (.long q0), .second, .val (.int p1), .val (.int p2), .val (.int p3), .val (.long vv), .second, .val (.int vt), .val (.int vf), .val (.ref a3), .val (.int vn), .val (.int rr), .val (.int (1 : Int32))] rfl (hb hby at_250) rfl rfl ?_
    refine own_iload X188 hx 254 (hb hby at_252) rfl rfl ?_
    refine own_aload X188 hx 256 (hb hby at_254) rfl rfl ?_
    refine own_iconst X188 hx 257 (5 : Int32) (by decide) (hb hby at_256) rfl ?_
    refine own_iload X188 hx 259 (hb hby at_257) rfl rfl ?_
    refine own_iload X188 hx 261 (hb hby at_259) rfl rfl ?_
    refine own_lload X188 hx 263 (hb hby at_261) rfl rfl ?_
    refine own_iload X188 hx 265 (hb hby at_263) rfl rfl ?_
    refine own_callS X188 hx hZ hown e191 (y := (⟨"indaga/index/IndexFormatPutVarintPinLaw", "cell", "([BIIIJB)Z"⟩ : MethodName)) (argsL := [(.ref a3), (.int (5 : Int32)), (.int vt), (.int vn), (.long vv), (.int vf)]) (rest := [(.int (1 : Int32))]) 268 (rm3 l Z a0 hw a3 (5 : Int32) vt vn vf vv 5 (own_fin fz at_ c vv) T147.heap n0 Z155 rfl (by decide) (own_cellOk vv vf vt vn (5 : Int32) at_ c 5 fz hvv hcnt hvt hat hvn rfl (by decide) (hfz 5 (by decide))) f153) (hw _ (List.mem_of_getElem? (i := 13) rfl)) (hw _ (List.mem_of_getElem? (i := 14) rfl)) (hw _ (List.mem_of_getElem? (i := 5) rfl)) (hw _ (List.mem_of_getElem? (i := 15) rfl)) (by decide) (by rw [hml]; rfl) (lenOf (by decide +kernel : parseMethodDescriptor "([BIIIJB)Z" = some ⟨[(.array .byte), .int, .int, .int, .long, .byte], some .boolean⟩) rfl) rfl (hb hby at_265) rfl (W := 1) rfl (by decide) (by decide) (by decide) (by decide) (fun r192 T193 L194 X195 q196 => ?_)
    obtain ⟨rfl, N197q, e198⟩ := q196
    have N197 := Fr.app N190 N197q
    show own_W p e below _ T193 (mkF m 268 #[.val (.long q0), .second, .val (.int p1), .val (.int p2), .val (.int p3), .val (.long vv), .second, .val (.int vt), .val (.int vf), .val (.ref a3), .val (.int vn), .val (.int rr), .val (.int (1 : Int32))] [(.int (1 : Int32)), (.int (1 : Int32))])
    refine own_iandz X195 hx 269 (z := (1 : Int32)) (by decide) (hb hby at_268) rfl ?_
    refine own_istore X195 hx 271 #[.val (.long q0), .second, .val (.int p1), .val (.int p2), .val (.int p3), .val (.long vv), .second, .val (.int vt), .val (.int vf), .val (.ref a3), .val (.int vn), .val (.int rr), .val (.int (1 : Int32))] rfl (hb hby at_269) rfl rfl ?_
    refine own_iload X195 hx 273 (hb hby at_271) rfl rfl ?_
    refine own_aload X195 hx 275 (hb hby at_273) rfl rfl ?_
    refine own_bipush X195 hx 277 (6 : Int32) (by decide) (hb hby at_275) rfl ?_
    refine own_iload X195 hx 279 (hb hby at_277) rfl rfl ?_
    refine own_iload X195 hx 281 (hb hby at_279) rfl rfl ?_
    refine own_lload X195 hx 283 (hb hby at_281) rfl rfl ?_
    refine own_iload X195 hx 285 (hb hby at_283) rfl rfl ?_
    refine own_callS X195 hx hZ hown e198 (y := (⟨"indaga/index/IndexFormatPutVarintPinLaw", "cell", "([BIIIJB)Z"⟩ : MethodName)) (argsL := [(.ref a3), (.int (6 : Int32)), (.int vt), (.int vn), (.long vv), (.int vf)]) (rest := [(.int (1 : Int32))]) 288 (rm3 l Z a0 hw a3 (6 : Int32) vt vn vf vv 6 (own_fin fz at_ c vv) T147.heap n0 Z155 rfl (by decide) (own_cellOk vv vf vt vn (6 : Int32) at_ c 6 fz hvv hcnt hvt hat hvn rfl (by decide) (hfz 6 (by decide))) f153) (hw _ (List.mem_of_getElem? (i := 13) rfl)) (hw _ (List.mem_of_getElem? (i := 14) rfl)) (hw _ (List.mem_of_getElem? (i := 5) rfl)) (hw _ (List.mem_of_getElem? (i := 15) rfl)) (by decide) (by rw [hml]; rfl) (lenOf (by decide +kernel : parseMethodDescriptor "([BIIIJB)Z" = some ⟨[(.array .byte), .int, .int, .int, .long, .byte], some .boolean⟩) rfl) rfl (hb hby at_285) rfl (W := 1) rfl (by decide) (by decide) (by decide) (by decide) (fun r199 T200 L201 X202 q203 => ?_)
    obtain ⟨rfl, N204q, e205⟩ := q203
    have N204 := Fr.app N197 N204q
    show own_W p e below _ T200 (mkF m 288 #[.val (.long q0), .second, .val (.int p1), .val (.int p2), .val (.int p3), .val (.long vv), .second, .val (.int vt), .val (.int vf), .val (.ref a3), .val (.int vn), .val (.int rr), .val (.int (1 : Int32))] [(.int (1 : Int32)), (.int (1 : Int32))])
    refine own_iandz X202 hx 289 (z := (1 : Int32)) (by decide) (hb hby at_288) rfl ?_
    refine own_istore X202 hx 291 #[.val (.long q0), .second, .val (.int p1), .val (.int p2), .val (.int p3), .val (.long vv), .second, .val (.int vt), .val (.int vf), .val (.ref a3), .val (.int vn), .val (.int rr), .val (.int (1 : Int32))] rfl (hb hby at_289) rfl rfl ?_
    refine own_iload X202 hx 293 (hb hby at_291) rfl rfl ?_
    refine own_aload X202 hx 295 (hb hby at_293) rfl rfl ?_
    refine own_bipush X202 hx 297 (7 : Int32) (by decide) (hb hby at_295) rfl ?_
    refine own_iload X202 hx 299 (hb hby at_297) rfl rfl ?_
    refine own_iload X202 hx 301 (hb hby at_299) rfl rfl ?_
    refine own_lload X202 hx 303 (hb hby at_301) rfl rfl ?_
    refine own_iload X202 hx 305 (hb hby at_303) rfl rfl ?_
    refine own_callS X202 hx hZ hown e205 (y := (⟨"indaga/index/IndexFormatPutVarintPinLaw", "cell", "([BIIIJB)Z"⟩ : MethodName)) (argsL := [(.ref a3), (.int (7 : Int32)), (.int vt), (.int vn), (.long vv), (.int vf)]) (rest := [(.int (1 : Int32))]) 308 (rm3 l Z a0 hw a3 (7 : Int32) vt vn vf vv 7 (own_fin fz at_ c vv) T147.heap n0 Z155 rfl (by decide) (own_cellOk vv vf vt vn (7 : Int32) at_ c 7 fz hvv hcnt hvt hat hvn rfl (by decide) (hfz 7 (by decide))) f153) (hw _ (List.mem_of_getElem? (i := 13) rfl)) (hw _ (List.mem_of_getElem? (i := 14) rfl)) (hw _ (List.mem_of_getElem? (i := 5) rfl)) (hw _ (List.mem_of_getElem? (i := 15) rfl)) (by decide) (by rw [hml]; rfl) (lenOf (by decide +kernel : parseMethodDescriptor "([BIIIJB)Z" = some ⟨[(.array .byte), .int, .int, .int, .long, .byte], some .boolean⟩) rfl) rfl (hb hby at_305) rfl (W := 1) rfl (by decide) (by decide) (by decide) (by decide) (fun r206 T207 L208 X209 q210 => ?_)
    obtain ⟨rfl, N211q, e212⟩ := q210
    have N211 := Fr.app N204 N211q
    show own_W p e below _ T207 (mkF m 308 #[.val (.long q0), .second, .val (.int p1), .val (.int p2), .val (.int p3), .val (.long vv), .second, .val (.int vt), .val (.int vf), .val (.ref a3), .val (.int vn), .val (.int rr), .val (.int (1 : Int32))] [(.int (1 : Int32)), (.int (1 : Int32))])
    refine own_iandz X209 hx 309 (z := (1 : Int32)) (by decide) (hb hby at_308) rfl ?_
    refine own_istore X209 hx 311 #[.val (.long q0), .second, .val (.int p1), .val (.int p2), .val (.int p3), .val (.long vv), .second, .val (.int vt), .val (.int vf), .val (.ref a3), .val (.int vn), .val (.int rr), .val (.int (1 : Int32))] rfl (hb hby at_309) rfl rfl ?_
    refine own_iload X209 hx 313 (hb hby at_311) rfl rfl ?_
    refine own_aload X209 hx 315 (hb hby at_313) rfl rfl ?_
    refine own_bipush X209 hx 317 (8 : Int32) (by decide) (hb hby at_315) rfl ?_
    refine own_iload X209 hx 319 (hb hby at_317) rfl rfl ?_
    refine own_iload X209 hx 321 (hb hby at_319) rfl rfl ?_
    refine own_lload X209 hx 323 (hb hby at_321) rfl rfl ?_
    refine own_iload X209 hx 325 (hb hby at_323) rfl rfl ?_
    refine own_callS X209 hx hZ hown e212 (y := (⟨"indaga/index/IndexFormatPutVarintPinLaw", "cell", "([BIIIJB)Z"⟩ : MethodName)) (argsL := [(.ref a3), (.int (8 : Int32)), (.int vt), (.int vn), (.long vv), (.int vf)]) (rest := [(.int (1 : Int32))]) 328 (rm3 l Z a0 hw a3 (8 : Int32) vt vn vf vv 8 (own_fin fz at_ c vv) T147.heap n0 Z155 rfl (by decide) (own_cellOk vv vf vt vn (8 : Int32) at_ c 8 fz hvv hcnt hvt hat hvn rfl (by decide) (hfz 8 (by decide))) f153) (hw _ (List.mem_of_getElem? (i := 13) rfl)) (hw _ (List.mem_of_getElem? (i := 14) rfl)) (hw _ (List.mem_of_getElem? (i := 5) rfl)) (hw _ (List.mem_of_getElem? (i := 15) rfl)) (by decide) (by rw [hml]; rfl) (lenOf (by decide +kernel : parseMethodDescriptor "([BIIIJB)Z" = some ⟨[(.array .byte), .int, .int, .int, .long, .byte], some .boolean⟩) rfl) rfl (hb hby at_325) rfl (W := 1) rfl (by decide) (by decide) (by decide) (by decide) (fun r213 T214 L215 X216 q217 => ?_)
    obtain ⟨rfl, N218q, e219⟩ := q217
    have N218 := Fr.app N211 N218q
    show own_W p e below _ T214 (mkF m 328 #[.val (.long q0), .second, .val (.int p1), .val (.int p2), .val (.int p3), .val (.long vv), .second, .val (.int vt), .val (.int vf), .val (.ref a3), .val (.int vn), .val (.int rr), .val (.int (1 : Int32))] [(.int (1 : Int32)), (.int (1 : Int32))])
    refine own_iandz X216 hx 329 (z := (1 : Int32)) (by decide) (hb hby at_328) rfl ?_
    refine own_istore X216 hx 331 #[.val (.long q0), .second, .val (.int p1), .val (.int p2), .val (.int p3), .val (.long vv), .second, .val (.int vt), .val (.int vf), .val (.ref a3), .val (.int vn), .val (.int rr), .val (.int (1 : Int32))] rfl (hb hby at_329) rfl rfl ?_
    refine own_iload X216 hx 333 (hb hby at_331) rfl rfl ?_
    refine own_aload X216 hx 335 (hb hby at_333) rfl rfl ?_
    refine own_bipush X216 hx 337 (9 : Int32) (by decide) (hb hby at_335) rfl ?_
    refine own_iload X216 hx 339 (hb hby at_337) rfl rfl ?_
    refine own_iload X216 hx 341 (hb hby at_339) rfl rfl ?_
    refine own_lload X216 hx 343 (hb hby at_341) rfl rfl ?_
    refine own_iload X216 hx 345 (hb hby at_343) rfl rfl ?_
    refine own_callS X216 hx hZ hown e219 (y := (⟨"indaga/index/IndexFormatPutVarintPinLaw", "cell", "([BIIIJB)Z"⟩ : MethodName)) (argsL := [(.ref a3), (.int (9 : Int32)), (.int vt), (.int vn), (.long vv), (.int vf)]) (rest := [(.int (1 : Int32))]) 348 (rm3 l Z a0 hw a3 (9 : Int32) vt vn vf vv 9 (own_fin fz at_ c vv) T147.heap n0 Z155 rfl (by decide) (own_cellOk vv vf vt vn (9 : Int32) at_ c 9 fz hvv hcnt hvt hat hvn rfl (by decide) (hfz 9 (by decide))) f153) (hw _ (List.mem_of_getElem? (i := 13) rfl)) (hw _ (List.mem_of_getElem? (i := 14) rfl)) (hw _ (List.mem_of_getElem? (i := 5) rfl)) (hw _ (List.mem_of_getElem? (i := 15) rfl)) (by decide) (by rw [hml]; rfl) (lenOf (by decide +kernel : parseMethodDescriptor "([BIIIJB)Z" = some ⟨[(.array .byte), .int, .int, .int, .long, .byte], some .boolean⟩) rfl) rfl (hb hby at_345) rfl (W := 1) rfl (by decide) (by decide) (by decide) (by decide) (fun r220 T221 L222 X223 q224 => ?_)
    obtain ⟨rfl, N225q, e226⟩ := q224
    have N225 := Fr.app N218 N225q
    show own_W p e below _ T221 (mkF m 348 #[.val (.long q0), .second, .val (.int p1), .val (.int p2), .val (.int p3), .val (.long vv), .second, .val (.int vt), .val (.int vf), .val (.ref a3), .val (.int vn), .val (.int rr), .val (.int (1 : Int32))] [(.int (1 : Int32)), (.int (1 : Int32))])
    refine own_iandz X223 hx 349 (z := (1 : Int32)) (by decide) (hb hby at_348) rfl ?_
    refine own_istore X223 hx 351 #[.val (.long q0), .second, .val (.int p1), .val (.int p2), .val (.int p3), .val (.long vv), .second, .val (.int vt), .val (.int vf), .val (.ref a3), .val (.int vn), .val (.int rr), .val (.int (1 : Int32))] rfl (hb hby at_349) rfl rfl ?_
    refine own_iload X223 hx 353 (hb hby at_351) rfl rfl ?_
    refine own_aload X223 hx 355 (hb hby at_353) rfl rfl ?_
    refine own_bipush X223 hx 357 (10 : Int32) (by decide) (hb hby at_355) rfl ?_
    refine own_iload X223 hx 359 (hb hby at_357) rfl rfl ?_
    refine own_iload X223 hx 361 (hb hby at_359) rfl rfl ?_
    refine own_lload X223 hx 363 (hb hby at_361) rfl rfl ?_
    refine own_iload X223 hx 365 (hb hby at_363) rfl rfl ?_
    refine own_callS X223 hx hZ hown e226 (y := (⟨"indaga/index/IndexFormatPutVarintPinLaw", "cell", "([BIIIJB)Z"⟩ : MethodName)) (argsL := [(.ref a3), (.int (10 : Int32)), (.int vt), (.int vn), (.long vv), (.int vf)]) (rest := [(.int (1 : Int32))]) 368 (rm3 l Z a0 hw a3 (10 : Int32) vt vn vf vv 10 (own_fin fz at_ c vv) T147.heap n0 Z155 rfl (by decide) (own_cellOk vv vf vt vn (10 : Int32) at_ c 10 fz hvv hcnt hvt hat hvn rfl (by decide) (hfz 10 (by decide))) f153) (hw _ (List.mem_of_getElem? (i := 13) rfl)) (hw _ (List.mem_of_getElem? (i := 14) rfl)) (hw _ (List.mem_of_getElem? (i := 5) rfl)) (hw _ (List.mem_of_getElem? (i := 15) rfl)) (by decide) (by rw [hml]; rfl) (lenOf (by decide +kernel : parseMethodDescriptor "([BIIIJB)Z" = some ⟨[(.array .byte), .int, .int, .int, .long, .byte], some .boolean⟩) rfl) rfl (hb hby at_365) rfl (W := 1) rfl (by decide) (by decide) (by decide) (by decide) (fun r227 T228 L229 X230 q231 => ?_)
    obtain ⟨rfl, N232q, e233⟩ := q231
    have N232 := Fr.app N225 N232q
    show own_W p e below _ T228 (mkF m 368 #[.val (.long q0), .second, .val (.int p1), .val (.int p2), .val (.int p3), .val (.long vv), .second, .val (.int vt), .val (.int vf), .val (.ref a3), .val (.int vn), .val (.int rr), .val (.int (1 : Int32))] [(.int (1 : Int32)), (.int (1 : Int32))])
    refine own_iandz X230 hx 369 (z := (1 : Int32)) (by decide) (hb hby at_368) rfl ?_
    refine own_istore X230 hx 371 #[.val (.long q0), .second, .val (.int p1), .val (.int p2), .val (.int p3), .val (.long vv), .second, .val (.int vt), .val (.int vf), .val (.ref a3), .val (.int vn), .val (.int rr), .val (.int (1 : Int32))] rfl (hb hby at_369) rfl rfl ?_
    refine own_iload X230 hx 373 (hb hby at_371) rfl rfl ?_
    refine own_aload X230 hx 375 (hb hby at_373) rfl rfl ?_
    refine own_bipush X230 hx 377 (11 : Int32) (by decide) (hb hby at_375) rfl ?_
    refine own_iload X230 hx 379 (hb hby at_377) rfl rfl ?_
    refine own_iload X230 hx 381 (hb hby at_379) rfl rfl ?_
    refine own_lload X230 hx 383 (hb hby at_381) rfl rfl ?_
    refine own_iload X230 hx 385 (hb hby at_383) rfl rfl ?_
    refine own_callS X230 hx hZ hown e233 (y := (⟨"indaga/index/IndexFormatPutVarintPinLaw", "cell", "([BIIIJB)Z"⟩ : MethodName)) (argsL := [(.ref a3), (.int (11 : Int32)), (.int vt), (.int vn), (.long vv), (.int vf)]) (rest := [(.int (1 : Int32))]) 388 (rm3 l Z a0 hw a3 (11 : Int32) vt vn vf vv 11 (own_fin fz at_ c vv) T147.heap n0 Z155 rfl (by decide) (own_cellOk vv vf vt vn (11 : Int32) at_ c 11 fz hvv hcnt hvt hat hvn rfl (by decide) (hfz 11 (by decide))) f153) (hw _ (List.mem_of_getElem? (i := 13) rfl)) (hw _ (List.mem_of_getElem? (i := 14) rfl)) (hw _ (List.mem_of_getElem? (i := 5) rfl)) (hw _ (List.mem_of_getElem? (i := 15) rfl)) (by decide) (by rw [hml]; rfl) (lenOf (by decide +kernel : parseMethodDescriptor "([BIIIJB)Z" = some ⟨[(.array .byte), .int, .int, .int, .long, .byte], some .boolean⟩) rfl) rfl (hb hby at_385) rfl (W := 1) rfl (by decide) (by decide) (by decide) (by decide) (fun r234 T235 L236 X237 q238 => ?_)
    obtain ⟨rfl, N239q, e240⟩ := q238
    have N239 := Fr.app N232 N239q
    show own_W p e below _ T235 (mkF m 388 #[.val (.long q0), .second, .val (.int p1), .val (.int p2), .val (.int p3), .val (.long vv), .second, .val (.int vt), .val (.int vf), .val (.ref a3), .val (.int vn), .val (.int rr), .val (.int (1 : Int32))] [(.int (1 : Int32)), (.int (1 : Int32))])
    refine own_iandz X237 hx 389 (z := (1 : Int32)) (by decide) (hb hby at_388) rfl ?_
    refine own_istore X237 hx 391 #[.val (.long q0), .second, .val (.int p1), .val (.int p2), .val (.int p3), .val (.long vv), .second, .val (.int vt), .val (.int vf), .val (.ref a3), .val (.int vn), .val (.int rr), .val (.int (1 : Int32))] rfl (hb hby at_389) rfl rfl ?_
    refine own_iload X237 hx 393 (hb hby at_391) rfl rfl ?_
    refine own_aload X237 hx 395 (hb hby at_393) rfl rfl ?_
    refine own_bipush X237 hx 397 (12 : Int32) (by decide) (hb hby at_395) rfl ?_
    refine own_iload X237 hx 399 (hb hby at_397) rfl rfl ?_
    refine own_iload X237 hx 401 (hb hby at_399) rfl rfl ?_
    refine own_lload X237 hx 403 (hb hby at_401) rfl rfl ?_
    refine own_iload X237 hx 405 (hb hby at_403) rfl rfl ?_
    refine own_callS X237 hx hZ hown e240 (y := (⟨"indaga/index/IndexFormatPutVarintPinLaw", "cell", "([BIIIJB)Z"⟩ : MethodName)) (argsL := [(.ref a3), (.int (12 : Int32)), (.int vt), (.int vn), (.long vv), (.int vf)]) (rest := [(.int (1 : Int32))]) 408 (rm3 l Z a0 hw a3 (12 : Int32) vt vn vf vv 12 (own_fin fz at_ c vv) T147.heap n0 Z155 rfl (by decide) (own_cellOk vv vf vt vn (12 : Int32) at_ c 12 fz hvv hcnt hvt hat hvn rfl (by decide) (hfz 12 (by decide))) f153) (hw _ (List.mem_of_getElem? (i := 13) rfl)) (hw _ (List.mem_of_getElem? (i := 14) rfl)) (hw _ (List.mem_of_getElem? (i := 5) rfl)) (hw _ (List.mem_of_getElem? (i := 15) rfl)) (by decide) (by rw [hml]; rfl) (lenOf (by decide +kernel : parseMethodDescriptor "([BIIIJB)Z" = some ⟨[(.array .byte), .int, .int, .int, .long, .byte], some .boolean⟩) rfl) rfl (hb hby at_405) rfl (W := 1) rfl (by decide) (by decide) (by decide) (by decide) (fun r241 T242 L243 X244 q245 => ?_)
    obtain ⟨rfl, N246q, e247⟩ := q245
    have N246 := Fr.app N239 N246q
    show own_W p e below _ T242 (mkF m 408 #[.val (.long q0), .second, .val (.int p1), .val (.int p2), .val (.int p3), .val (.long vv), .second, .val (.int vt), .val (.int vf), .val (.ref a3), .val (.int vn), .val (.int rr), .val (.int (1 : Int32))] [(.int (1 : Int32)), (.int (1 : Int32))])
    refine own_iandz X244 hx 409 (z := (1 : Int32)) (by decide) (hb hby at_408) rfl ?_
    refine own_istore X244 hx 411 #[.val (.long q0), .second, .val (.int p1), .val (.int p2), .val (.int p3), .val (.long vv), .second, .val (.int vt), .val (.int vf), .val (.ref a3), .val (.int vn), .val (.int rr), .val (.int (1 : Int32))] rfl (hb hby at_409) rfl rfl ?_
    refine own_iload X244 hx 413 (hb hby at_411) rfl rfl ?_
    refine own_aload X244 hx 415 (hb hby at_413) rfl rfl ?_
    refine own_bipush X244 hx 417 (13 : Int32) (by decide) (hb hby at_415) rfl ?_
    refine own_iload X244 hx 419 (hb hby at_417) rfl rfl ?_
    refine own_iload X244 hx 421 (hb hby at_419) rfl rfl ?_
    refine own_lload X244 hx 423 (hb hby at_421) rfl rfl ?_
    refine own_iload X244 hx 425 (hb hby at_423) rfl rfl ?_
    refine own_callS X244 hx hZ hown e247 (y := (⟨"indaga/index/IndexFormatPutVarintPinLaw", "cell", "([BIIIJB)Z"⟩ : MethodName)) (argsL := [(.ref a3), (.int (13 : Int32)), (.int vt), (.int vn), (.long vv), (.int vf)]) (rest := [(.int (1 : Int32))]) 428 (rm3 l Z a0 hw a3 (13 : Int32) vt vn vf vv 13 (own_fin fz at_ c vv) T147.heap n0 Z155 rfl (by decide) (own_cellOk vv vf vt vn (13 : Int32) at_ c 13 fz hvv hcnt hvt hat hvn rfl (by decide) (hfz 13 (by decide))) f153) (hw _ (List.mem_of_getElem? (i := 13) rfl)) (hw _ (List.mem_of_getElem? (i := 14) rfl)) (hw _ (List.mem_of_getElem? (i := 5) rfl)) (hw _ (List.mem_of_getElem? (i := 15) rfl)) (by decide) (by rw [hml]; rfl) (lenOf (by decide +kernel : parseMethodDescriptor "([BIIIJB)Z" = some ⟨[(.array .byte), .int, .int, .int, .long, .byte], some .boolean⟩) rfl) rfl (hb hby at_425) rfl (W := 1) rfl (by decide) (by decide) (by decide) (by decide) (fun r248 T249 L250 X251 q252 => ?_)
    obtain ⟨rfl, N253q, e254⟩ := q252
    have N253 := Fr.app N246 N253q
    show own_W p e below _ T249 (mkF m 428 #[.val (.long q0), .second, .val (.int p1), .val (.int p2), .val (.int p3), .val (.long vv), .second, .val (.int vt), .val (.int vf), .val (.ref a3), .val (.int vn), .val (.int rr), .val (.int (1 : Int32))] [(.int (1 : Int32)), (.int (1 : Int32))])
    refine own_iandz X251 hx 429 (z := (1 : Int32)) (by decide) (hb hby at_428) rfl ?_
    refine own_istore X251 hx 431 #[.val (.long q0), .second, .val (.int p1), .val (.int p2), .val (.int p3), .val (.long vv), .second, .val (.int vt), .val (.int vf), .val (.ref a3), .val (.int vn), .val (.int rr), .val (.int (1 : Int32))] rfl (hb hby at_429) rfl rfl ?_
    refine own_iload X251 hx 433 (hb hby at_431) rfl rfl ?_
    refine own_aload X251 hx 435 (hb hby at_433) rfl rfl ?_
    refine own_bipush X251 hx 437 (14 : Int32) (by decide) (hb hby at_435) rfl ?_
    refine own_iload X251 hx 439 (hb hby at_437) rfl rfl ?_
    refine own_iload X251 hx 441 (hb hby at_439) rfl rfl ?_
    refine own_lload X251 hx 443 (hb hby at_441) rfl rfl ?_
    refine own_iload X251 hx 445 (hb hby at_443) rfl rfl ?_
    refine own_callS X251 hx hZ hown e254 (y := (⟨"indaga/index/IndexFormatPutVarintPinLaw", "cell", "([BIIIJB)Z"⟩ : MethodName)) (argsL := [(.ref a3), (.int (14 : Int32)), (.int vt), (.int vn), (.long vv), (.int vf)]) (rest := [(.int (1 : Int32))]) 448 (rm3 l Z a0 hw a3 (14 : Int32) vt vn vf vv 14 (own_fin fz at_ c vv) T147.heap n0 Z155 rfl (by decide) (own_cellOk vv vf vt vn (14 : Int32) at_ c 14 fz hvv hcnt hvt hat hvn rfl (by decide) (hfz 14 (by decide))) f153) (hw _ (List.mem_of_getElem? (i := 13) rfl)) (hw _ (List.mem_of_getElem? (i := 14) rfl)) (hw _ (List.mem_of_getElem? (i := 5) rfl)) (hw _ (List.mem_of_getElem? (i := 15) rfl)) (by decide) (by rw [hml]; rfl) (lenOf (by decide +kernel : parseMethodDescriptor "([BIIIJB)Z" = some ⟨[(.array .byte), .int, .int, .int, .long, .byte], some .boolean⟩) rfl) rfl (hb hby at_445) rfl (W := 1) rfl (by decide) (by decide) (by decide) (by decide) (fun r255 T256 L257 X258 q259 => ?_)
    obtain ⟨rfl, N260q, e261⟩ := q259
    have N260 := Fr.app N253 N260q
    show own_W p e below _ T256 (mkF m 448 #[.val (.long q0), .second, .val (.int p1), .val (.int p2), .val (.int p3), .val (.long vv), .second, .val (.int vt), .val (.int vf), .val (.ref a3), .val (.int vn), .val (.int rr), .val (.int (1 : Int32))] [(.int (1 : Int32)), (.int (1 : Int32))])
    refine own_iandz X258 hx 449 (z := (1 : Int32)) (by decide) (hb hby at_448) rfl ?_
    refine own_istore X258 hx 451 #[.val (.long q0), .second, .val (.int p1), .val (.int p2), .val (.int p3), .val (.long vv), .second, .val (.int vt), .val (.int vf), .val (.ref a3), .val (.int vn), .val (.int rr), .val (.int (1 : Int32))] rfl (hb hby at_449) rfl rfl ?_
    refine own_iload X258 hx 453 (hb hby at_451) rfl rfl ?_
    refine own_aload X258 hx 455 (hb hby at_453) rfl rfl ?_
    refine own_bipush X258 hx 457 (15 : Int32) (by decide) (hb hby at_455) rfl ?_
    refine own_iload X258 hx 459 (hb hby at_457) rfl rfl ?_
    refine own_iload X258 hx 461 (hb hby at_459) rfl rfl ?_
    refine own_lload X258 hx 463 (hb hby at_461) rfl rfl ?_
    refine own_iload X258 hx 465 (hb hby at_463) rfl rfl ?_
    refine own_callS X258 hx hZ hown e261 (y := (⟨"indaga/index/IndexFormatPutVarintPinLaw", "cell", "([BIIIJB)Z"⟩ : MethodName)) (argsL := [(.ref a3), (.int (15 : Int32)), (.int vt), (.int vn), (.long vv), (.int vf)]) (rest := [(.int (1 : Int32))]) 468 (rm3 l Z a0 hw a3 (15 : Int32) vt vn vf vv 15 (own_fin fz at_ c vv) T147.heap n0 Z155 rfl (by decide) (own_cellOk vv vf vt vn (15 : Int32) at_ c 15 fz hvv hcnt hvt hat hvn rfl (by decide) (hfz 15 (by decide))) f153) (hw _ (List.mem_of_getElem? (i := 13) rfl)) (hw _ (List.mem_of_getElem? (i := 14) rfl)) (hw _ (List.mem_of_getElem? (i := 5) rfl)) (hw _ (List.mem_of_getElem? (i := 15) rfl)) (by decide) (by rw [hml]; rfl) (lenOf (by decide +kernel : parseMethodDescriptor "([BIIIJB)Z" = some ⟨[(.array .byte), .int, .int, .int, .long, .byte], some .boolean⟩) rfl) rfl (hb hby at_465) rfl (W := 1) rfl (by decide) (by decide) (by decide) (by decide) (fun r262 T263 L264 X265 q266 => ?_)
    obtain ⟨rfl, N267q, e268⟩ := q266
    have N267 := Fr.app N260 N267q
    show own_W p e below _ T263 (mkF m 468 #[.val (.long q0), .second, .val (.int p1), .val (.int p2), .val (.int p3), .val (.long vv), .second, .val (.int vt), .val (.int vf), .val (.ref a3), .val (.int vn), .val (.int rr), .val (.int (1 : Int32))] [(.int (1 : Int32)), (.int (1 : Int32))])
    refine own_iandz X265 hx 469 (z := (1 : Int32)) (by decide) (hb hby at_468) rfl ?_
    refine own_istore X265 hx 471 #[.val (.long q0), .second, .val (.int p1), .val (.int p2), .val (.int p3), .val (.long vv), .second, .val (.int vt), .val (.int vf), .val (.ref a3), .val (.int vn), .val (.int rr), .val (.int (1 : Int32))] rfl (hb hby at_469) rfl rfl ?_
    refine own_iload X265 hx 473 (hb hby at_471) rfl rfl ?_
    exact own_retZ X265 hx (1 : Int32) (by decide) hret hlk (hb hby at_473) (by decide) (by decide) ⟨rfl, N267⟩
set_option maxRecDepth 65536 in
set_option maxHeartbeats 40000000 in
theorem comes_1 {Post : Tables → Env → Array Value → State → Outcome → State → Prop} (hpost : ∀ tb e args s v u, (limb_1_1.after args s (.returned v) u = true ∧ limb_1_2.after args s (.returned v) u = true ∧ True) → FrameEnd s (.returned v) u (Jvm.fieldLocs frame_1_writes args s ++ Jvm.arrayLocs frame_1_arrays args s ++ Jvm.staticLocs frame_1_statics s) 16 128 → Post tb e args s (.returned v) u) :
    ArmFor flags0 classFile x code maxLocals ret World_1 tables_1 room_1 Calls_1 rest_1 Pre_1 Post := by
  intro l hfl _ _ p e ha hc hk s m args below hf hA hF happ hP
  obtain ⟨hcalls, hrest, hpre⟩ := hP
  obtain ⟨-, -, -, hnamed, -, -, -, hat⟩ := (Spec.applies_iff hf).mp happ
  obtain ⟨hg, hn⟩ := and_e (Cond.before_iff.mp (show (Jvm.Cond.and given_1 narrow_1).before args s = true from hpre))
  obtain ⟨g0, gr0⟩ := and_e hg
  obtain ⟨g1, gr1⟩ := and_e gr0
  obtain ⟨g2, gr2⟩ := and_e gr1
  obtain ⟨g3, gr3⟩ := and_e gr2
  obtain ⟨w0, w1, w2, w3, rfl⟩ : ∃ w0 w1 w2 w3 : Value, args = #[w0, w1, w2, w3] := by
    have hs : args.size = 4 := by simpa [Cond.value, given_1] using g0
    obtain ⟨L⟩ := args
    match L, hs with
    | [w0, w1, w2, w3], _ => exact ⟨w0, w1, w2, w3, rfl⟩
  have hw := fun d (hd : d ∈ tables_1) => atoms_spec (ws := Jvm.Cond.code x code maxLocals ret :: tables_1) hat d (List.mem_cons_of_mem _ hd)
  obtain ⟨i0, ei0⟩ := isL_v g1
  obtain rfl : w0 = (.long i0) := Option.some.inj ei0
  obtain ⟨i1, ei1⟩ := is_v g2
  obtain rfl : w1 = (.int i1) := Option.some.inj ei1
  obtain ⟨i2, ei2⟩ := is_v g3
  obtain rfl : w2 = (.int i2) := Option.some.inj ei2
  obtain ⟨i3, ei3⟩ := is_v gr3
  obtain rfl : w3 = (.int i3) := Option.some.inj ei3
  obtain ⟨n, o, h1, h2, h3, _, L, rfl, ⟨rfl, N⟩, hq⟩ := rm0 l s _ hw i0 i1 i2 i3 s.heap s.heap.size (Nat.le_refl _) p e ha hc hk s m _ below hf ((Spec.applies_iff_loose hf).mp happ).1 ⟨rfl, State.Warmed39.refl s, rfl⟩ trivial
  refine ⟨n, _, h1, h2, h3, hpost _ _ _ _ _ _ ⟨Cond.after_iff.mpr rfl, Cond.after_iff.mpr (eq_i res_at (Term.int_eval (1)) rfl), trivial⟩ ⟨hq.1, hq.2.1, (hq.2.2.sift fun y hy => Or.inr (N y hy)).mono (by decide) (by decide)⟩⟩
theorem main_1_1 : Claimed_1_1 := comes_1 fun _ _ _ _ _ _ h hF => ⟨h.1, hF⟩
theorem main_1_2 : Claimed_1_2 := comes_1 fun _ _ _ _ _ _ h hF => ⟨h.2.1, hF⟩
end Jvm.Pilot.@@N@@
namespace Jvm.Pilot.@@N@@
open Jvm Jvm.ClassFile Sem Op Lib Jvm.Free Jvm.Stand Jvm.Pilot.@@N@@.Jvm.D
/-! MADE BY PROGRAM (witnessworld.py) out of the Statement's table words and the real class files: 9 classes; the members and pool entries that the words name. The judged class is class 1, her method 1. -/
namespace start1
open Jvm.ClassFile
def u (s : String) : CpInfo := .utf8 (stringToUtf16 s)
/-- a pool by its gaps: so many unusable entries, then the entry; so many at the end -/
def gap : Nat → List CpInfo → List CpInfo
  | 0, r => r
  | n + 1, r => .unusable :: gap n r
def poolList (es : List (Nat × CpInfo)) (last : Nat) : List CpInfo := es.foldr (fun e r => gap e.1 (e.2 :: r)) (gap last [])
def pool (es : List (Nat × CpInfo)) (last : Nat) : Array CpInfo := ⟨poolList es last⟩
def fileOf (pool : Array CpInfo) (this : Nat) (attrs : Array Attribute := #[]) (ms : Array MethodInfo := #[]) (fl : Nat := 33) (sup : Nat := 0) (ifs : Array Nat := #[]) (fds : Array FieldInfo := #[]) : ClassFile where
  minorVersion := 0
  majorVersion := 65
  constantPool := pool
  accessFlags := fl
  thisClass := this
  superClass := sup
  interfaces := ifs
  fields := fds
  methods := ms
  attributes := attrs
def plain (name : String) (sup : Option ClassId) : Class where
  name := name
  kind := .ordinary
  loader := none
  accessFlags := 33
  super := sup
  interfaces := #[]
  cf := none
  fields := #[]
  methods := #[]
  instanceTypes := #[]
  staticTypes := #[]
  resolved := #[]
  callSites := []
  init := .initialized
  statics := none
  mirror := none

def pool0 : Array CpInfo := pool [(5, u "<init>"), (0, u "()V"), (1, .class_ 10), (1, u "java/lang/Object")] 113

def k0m0 : Method := { name := "<init>", desc := "()V", sig := { parameters := [], returnType := none }, accessFlags := 1, code := none }
/-- java/lang/Object -/
def k0 : Class := { plain "java/lang/Object" none with
  accessFlags := 33
  interfaces := #[]
  cf := some (fileOf pool0 8 #[] #[{ accessFlags := 1, nameIndex := 5, descriptorIndex := 6, attributes := #[] }] 33 0 #[] #[])
  fields := #[]
  methods := #[k0m0]
  instanceTypes := #[]
  staticTypes := #[]
  resolved := Array.replicate 124 none
  statics := none }

def pool1 : Array CpInfo := pool [(2, .class_ 4), (1, u "java/lang/Object"), (0, u "<init>"), (0, u "()V"), (2, .long 9223372036854775807), (1, .integer 2147483647), (0, .methodref 13 14), (0, .class_ 15), (0, .nameAndType 16 17), (0, u "indaga/index/IndexFormatPutVarintPinLaw"), (0, u "size"), (0, u "(J)I"), (0, .methodref 19 20), (0, .class_ 21), (0, .nameAndType 22 23), (0, u "indaga/index/IndexFormat"), (0, u "putVarint"), (0, u "([BIJ)I"), (0, .methodref 13 25), (0, .nameAndType 26 27), (0, u "cell"), (0, u "([BIIIJB)Z"), (0, .long 128), (1, .long 16384), (1, .long 2097152), (1, .long 268435456), (1, .long 34359738368), (1, .long 4398046511104), (1, .long 562949953421312), (1, .long 72057594037927936), (1, .long 127), (3, u "law"), (0, u "(JIII)Z")] 5

def k1m0 : Method := { name := "<init>", desc := "()V", sig := { parameters := [], returnType := none }, accessFlags := 1, code := none }
def k1c1 : Code := { maxStack := 8, maxLocals := 13, code := code, exceptionTable := #[], attributes := #[] }
def k1m1 : Method := { name := "law", desc := "(JIII)Z", sig := { parameters := [.long, .int, .int, .int], returnType := some .boolean }, accessFlags := 9, code := some k1c1 }
def k1c2 : Code := { maxStack := 4, maxLocals := 2, code := method_3_code, exceptionTable := #[], attributes := #[] }
def k1m2 : Method := { name := "size", desc := "(J)I", sig := { parameters := [.long], returnType := some .int }, accessFlags := 10, code := some k1c2 }
def k1c3 : Code := { maxStack := 4, maxLocals := 12, code := method_4_code, exceptionTable := #[], attributes := #[] }
def k1m3 : Method := { name := "cell", desc := "([BIIIJB)Z", sig := { parameters := [(.array .byte), .int, .int, .int, .long, .byte], returnType := some .boolean }, accessFlags := 10, code := some k1c3 }
/-- indaga/index/IndexFormatPutVarintPinLaw -/
def k1 : Class := { plain "indaga/index/IndexFormatPutVarintPinLaw" (some 0) with
  accessFlags := 49
  interfaces := #[]
  cf := some (fileOf pool1 13 #[] #[{ accessFlags := 1, nameIndex := 5, descriptorIndex := 6, attributes := #[] }, { accessFlags := 9, nameIndex := 48, descriptorIndex := 49, attributes := #[] }, { accessFlags := 10, nameIndex := 16, descriptorIndex := 17, attributes := #[] }, { accessFlags := 10, nameIndex := 26, descriptorIndex := 27, attributes := #[] }] 49 2 #[] #[])
  fields := #[]
  methods := #[k1m0, k1m1, k1m2, k1m3]
  instanceTypes := #[]
  staticTypes := #[]
  resolved := Array.replicate 55 none
  statics := none }

def pool2 : Array CpInfo := pool [(1, .class_ 2), (0, u "indaga/index/IndexFormat"), (1, .class_ 6), (1, u "java/lang/Object"), (0, u "<init>"), (0, u "()V"), (116, .long 18446744073709551488), (1, .long 127), (1, .long 128), (68, u "DOCUMENT_FREQUENCY_LETTERS"), (0, u "I"), (32, u "MAGIC"), (0, u "[B"), (4, u "TRANSLATION_MARK"), (2, u "TRANSLATION_HEADER"), (9, u "BOUNDED_PAIRS"), (0, u "FILE"), (0, u "Ljava/lang/String;"), (3, u "NEW_FILE"), (2, u "SCRATCH_PREFIX"), (2, u "CLAIM_FILE"), (2, u "VERSION"), (1, u "DOCNOS"), (1, u "DOCNO_STARTS"), (1, u "LENGTHS"), (1, u "MAX_FREQUENCIES"), (1, u "DISTINCT_TERMS"), (1, u "POSTINGS"), (1, u "TERMS"), (1, u "TERM_STARTS"), (1, u "POSTINGS_STARTS"), (1, u "DOCUMENT_TERMS"), (0, u "DOCUMENT_TERM_STARTS"), (1, u "COMMON_TERMS"), (1, u "VECTOR_LENGTH_BOUNDS"), (1, u "CHECKSUMS"), (1, u "END"), (1, u "SECTIONS"), (1, u "SECTION_STARTS"), (1, u "FIXED_HEADER"), (1, u "MAX_ANALYSIS"), (1, u "STOP_WORD_MARK"), (0, u "QUERY_WORDS"), (0, u "QUERY_WORD_STARTS"), (0, u "ROW_STARTS"), (0, u "DOCUMENT_WORDS"), (0, u "DOCUMENT_WORD_STARTS"), (0, u "ROWS"), (0, u "TRANSLATION_PARTS"), (0, u "TRANSLATION_BLOCK"), (1, u "BLOCK_BITS"), (0, u "BLOCK"), (1, u "DOCNO_BLOCK"), (0, u "TERM_BLOCK"), (0, u "POSTINGS_BLOCK"), (1, u "GROUP"), (1, u "MAX_WIDTH"), (1, u "MAX_RICE_PARAMETER"), (1, u "MAX_POSTING"), (0, u "LEAST_BOUND_EXPONENT"), (1, u "BOUND_STEPS"), (0, u "MAX_BOUND_CODE"), (1, u "BOUND_MARGIN"), (0, u "D"), (12, u "putVarint"), (0, u "([BIJ)I")] 34

def k2m0 : Method := { name := "<init>", desc := "()V", sig := { parameters := [], returnType := none }, accessFlags := 2, code := none }
def k2c1 : Code := { maxStack := 6, maxLocals := 7, code := prog_59_method_5_code, exceptionTable := #[], attributes := #[] }
def k2m1 : Method := { name := "putVarint", desc := "([BIJ)I", sig := { parameters := [(.array .byte), .int, .long], returnType := some .int }, accessFlags := 8, code := some k2c1 }
/-- indaga/index/IndexFormat -/
def k2 : Class := { plain "indaga/index/IndexFormat" (some 0) with
  accessFlags := 48
  interfaces := #[]
  cf := some (fileOf pool2 1 #[] #[{ accessFlags := 2, nameIndex := 7, descriptorIndex := 8, attributes := #[] }, { accessFlags := 8, nameIndex := 348, descriptorIndex := 349, attributes := #[] }] 48 4 #[] #[{ accessFlags := 24, nameIndex := 252, descriptorIndex := 253, attributes := #[] }, { accessFlags := 24, nameIndex := 257, descriptorIndex := 253, attributes := #[] }, { accessFlags := 24, nameIndex := 260, descriptorIndex := 253, attributes := #[] }, { accessFlags := 24, nameIndex := 263, descriptorIndex := 253, attributes := #[] }, { accessFlags := 24, nameIndex := 232, descriptorIndex := 233, attributes := #[] }, { accessFlags := 24, nameIndex := 266, descriptorIndex := 199, attributes := #[] }, { accessFlags := 24, nameIndex := 268, descriptorIndex := 199, attributes := #[] }, { accessFlags := 24, nameIndex := 270, descriptorIndex := 199, attributes := #[] }, { accessFlags := 24, nameIndex := 272, descriptorIndex := 199, attributes := #[] }, { accessFlags := 24, nameIndex := 274, descriptorIndex := 199, attributes := #[] }, { accessFlags := 24, nameIndex := 276, descriptorIndex := 199, attributes := #[] }, { accessFlags := 24, nameIndex := 278, descriptorIndex := 199, attributes := #[] }, { accessFlags := 24, nameIndex := 280, descriptorIndex := 199, attributes := #[] }, { accessFlags := 24, nameIndex := 282, descriptorIndex := 199, attributes := #[] }, { accessFlags := 24, nameIndex := 284, descriptorIndex := 199, attributes := #[] }, { accessFlags := 24, nameIndex := 286, descriptorIndex := 199, attributes := #[] }, { accessFlags := 24, nameIndex := 287, descriptorIndex := 199, attributes := #[] }, { accessFlags := 24, nameIndex := 289, descriptorIndex := 199, attributes := #[] }, { accessFlags := 24, nameIndex := 291, descriptorIndex := 199, attributes := #[] }, { accessFlags := 24, nameIndex := 293, descriptorIndex := 199, attributes := #[] }, { accessFlags := 24, nameIndex := 295, descriptorIndex := 199, attributes := #[] }, { accessFlags := 24, nameIndex := 297, descriptorIndex := 199, attributes := #[] }, { accessFlags := 26, nameIndex := 299, descriptorIndex := 199, attributes := #[] }, { accessFlags := 24, nameIndex := 301, descriptorIndex := 199, attributes := #[] }, { accessFlags := 24, nameIndex := 303, descriptorIndex := 199, attributes := #[] }, { accessFlags := 26, nameIndex := 305, descriptorIndex := 253, attributes := #[] }, { accessFlags := 24, nameIndex := 238, descriptorIndex := 233, attributes := #[] }, { accessFlags := 24, nameIndex := 306, descriptorIndex := 199, attributes := #[] }, { accessFlags := 24, nameIndex := 307, descriptorIndex := 199, attributes := #[] }, { accessFlags := 24, nameIndex := 308, descriptorIndex := 199, attributes := #[] }, { accessFlags := 24, nameIndex := 309, descriptorIndex := 199, attributes := #[] }, { accessFlags := 24, nameIndex := 310, descriptorIndex := 199, attributes := #[] }, { accessFlags := 24, nameIndex := 311, descriptorIndex := 199, attributes := #[] }, { accessFlags := 24, nameIndex := 312, descriptorIndex := 199, attributes := #[] }, { accessFlags := 24, nameIndex := 241, descriptorIndex := 199, attributes := #[] }, { accessFlags := 24, nameIndex := 313, descriptorIndex := 199, attributes := #[] }, { accessFlags := 24, nameIndex := 315, descriptorIndex := 199, attributes := #[] }, { accessFlags := 24, nameIndex := 316, descriptorIndex := 199, attributes := #[] }, { accessFlags := 24, nameIndex := 318, descriptorIndex := 199, attributes := #[] }, { accessFlags := 24, nameIndex := 319, descriptorIndex := 199, attributes := #[] }, { accessFlags := 24, nameIndex := 320, descriptorIndex := 199, attributes := #[] }, { accessFlags := 24, nameIndex := 322, descriptorIndex := 199, attributes := #[] }, { accessFlags := 24, nameIndex := 324, descriptorIndex := 199, attributes := #[] }, { accessFlags := 24, nameIndex := 326, descriptorIndex := 199, attributes := #[] }, { accessFlags := 24, nameIndex := 328, descriptorIndex := 199, attributes := #[] }, { accessFlags := 26, nameIndex := 198, descriptorIndex := 199, attributes := #[] }, { accessFlags := 24, nameIndex := 251, descriptorIndex := 199, attributes := #[] }, { accessFlags := 26, nameIndex := 329, descriptorIndex := 199, attributes := #[] }, { accessFlags := 26, nameIndex := 331, descriptorIndex := 199, attributes := #[] }, { accessFlags := 26, nameIndex := 332, descriptorIndex := 199, attributes := #[] }, { accessFlags := 26, nameIndex := 334, descriptorIndex := 335, attributes := #[] }])
  fields := #[{ name := "FILE", type := (.object "java/lang/String"), accessFlags := 24, slot := 0, constantValue := 0 }, { name := "NEW_FILE", type := (.object "java/lang/String"), accessFlags := 24, slot := 1, constantValue := 0 }, { name := "SCRATCH_PREFIX", type := (.object "java/lang/String"), accessFlags := 24, slot := 2, constantValue := 0 }, { name := "CLAIM_FILE", type := (.object "java/lang/String"), accessFlags := 24, slot := 3, constantValue := 0 }, { name := "MAGIC", type := (.array .byte), accessFlags := 24, slot := 4, constantValue := 0 }, { name := "VERSION", type := .int, accessFlags := 24, slot := 5, constantValue := 0 }, { name := "DOCNOS", type := .int, accessFlags := 24, slot := 6, constantValue := 0 }, { name := "DOCNO_STARTS", type := .int, accessFlags := 24, slot := 7, constantValue := 0 }, { name := "LENGTHS", type := .int, accessFlags := 24, slot := 8, constantValue := 0 }, { name := "MAX_FREQUENCIES", type := .int, accessFlags := 24, slot := 9, constantValue := 0 }, { name := "DISTINCT_TERMS", type := .int, accessFlags := 24, slot := 10, constantValue := 0 }, { name := "POSTINGS", type := .int, accessFlags := 24, slot := 11, constantValue := 0 }, { name := "TERMS", type := .int, accessFlags := 24, slot := 12, constantValue := 0 }, { name := "TERM_STARTS", type := .int, accessFlags := 24, slot := 13, constantValue := 0 }, { name := "POSTINGS_STARTS", type := .int, accessFlags := 24, slot := 14, constantValue := 0 }, { name := "DOCUMENT_TERMS", type := .int, accessFlags := 24, slot := 15, constantValue := 0 }, { name := "DOCUMENT_TERM_STARTS", type := .int, accessFlags := 24, slot := 16, constantValue := 0 }, { name := "COMMON_TERMS", type := .int, accessFlags := 24, slot := 17, constantValue := 0 }, { name := "VECTOR_LENGTH_BOUNDS", type := .int, accessFlags := 24, slot := 18, constantValue := 0 }, { name := "CHECKSUMS", type := .int, accessFlags := 24, slot := 19, constantValue := 0 }, { name := "END", type := .int, accessFlags := 24, slot := 20, constantValue := 0 }, { name := "SECTIONS", type := .int, accessFlags := 24, slot := 21, constantValue := 0 }, { name := "SECTION_STARTS", type := .int, accessFlags := 26, slot := 22, constantValue := 0 }, { name := "FIXED_HEADER", type := .int, accessFlags := 24, slot := 23, constantValue := 0 }, { name := "MAX_ANALYSIS", type := .int, accessFlags := 24, slot := 24, constantValue := 0 }, { name := "STOP_WORD_MARK", type := (.object "java/lang/String"), accessFlags := 26, slot := 25, constantValue := 0 }, { name := "TRANSLATION_MARK", type := (.array .byte), accessFlags := 24, slot := 26, constantValue := 0 }, { name := "QUERY_WORDS", type := .int, accessFlags := 24, slot := 27, constantValue := 0 }, { name := "QUERY_WORD_STARTS", type := .int, accessFlags := 24, slot := 28, constantValue := 0 }, { name := "ROW_STARTS", type := .int, accessFlags := 24, slot := 29, constantValue := 0 }, { name := "DOCUMENT_WORDS", type := .int, accessFlags := 24, slot := 30, constantValue := 0 }, { name := "DOCUMENT_WORD_STARTS", type := .int, accessFlags := 24, slot := 31, constantValue := 0 }, { name := "ROWS", type := .int, accessFlags := 24, slot := 32, constantValue := 0 }, { name := "TRANSLATION_PARTS", type := .int, accessFlags := 24, slot := 33, constantValue := 0 }, { name := "TRANSLATION_HEADER", type := .int, accessFlags := 24, slot := 34, constantValue := 0 }, { name := "TRANSLATION_BLOCK", type := .int, accessFlags := 24, slot := 35, constantValue := 0 }, { name := "BLOCK_BITS", type := .int, accessFlags := 24, slot := 36, constantValue := 0 }, { name := "BLOCK", type := .int, accessFlags := 24, slot := 37, constantValue := 0 }, { name := "DOCNO_BLOCK", type := .int, accessFlags := 24, slot := 38, constantValue := 0 }, { name := "TERM_BLOCK", type := .int, accessFlags := 24, slot := 39, constantValue := 0 }, { name := "POSTINGS_BLOCK", type := .int, accessFlags := 24, slot := 40, constantValue := 0 }, { name := "GROUP", type := .int, accessFlags := 24, slot := 41, constantValue := 0 }, { name := "MAX_WIDTH", type := .int, accessFlags := 24, slot := 42, constantValue := 0 }, { name := "MAX_RICE_PARAMETER", type := .int, accessFlags := 24, slot := 43, constantValue := 0 }, { name := "MAX_POSTING", type := .int, accessFlags := 24, slot := 44, constantValue := 0 }, { name := "DOCUMENT_FREQUENCY_LETTERS", type := .int, accessFlags := 26, slot := 45, constantValue := 0 }, { name := "BOUNDED_PAIRS", type := .int, accessFlags := 24, slot := 46, constantValue := 0 }, { name := "LEAST_BOUND_EXPONENT", type := .int, accessFlags := 26, slot := 47, constantValue := 0 }, { name := "BOUND_STEPS", type := .int, accessFlags := 26, slot := 48, constantValue := 0 }, { name := "MAX_BOUND_CODE", type := .int, accessFlags := 26, slot := 49, constantValue := 0 }, { name := "BOUND_MARGIN", type := .double, accessFlags := 26, slot := 50, constantValue := 0 }]
  methods := #[k2m0, k2m1]
  instanceTypes := #[]
  staticTypes := #[(.object "java/lang/String"), (.object "java/lang/String"), (.object "java/lang/String"), (.object "java/lang/String"), (.array .byte), .int, .int, .int, .int, .int, .int, .int, .int, .int, .int, .int, .int, .int, .int, .int, .int, .int, .int, .int, .int, (.object "java/lang/String"), (.array .byte), .int, .int, .int, .int, .int, .int, .int, .int, .int, .int, .int, .int, .int, .int, .int, .int, .int, .int, .int, .int, .int, .int, .int, .double]
  resolved := Array.replicate 384 none
  statics := none }

def pool3 : Array CpInfo := pool [(1, u "java/lang/Cloneable"), (0, .class_ 1), (0, u "java/lang/Object"), (0, .class_ 3)] 3

/-- java/lang/Cloneable -/
def k3 : Class := { plain "java/lang/Cloneable" (some 0) with
  accessFlags := 1537
  interfaces := #[]
  cf := some (fileOf pool3 2 #[] #[] 1537 4 #[] #[])
  fields := #[]
  methods := #[]
  instanceTypes := #[]
  staticTypes := #[]
  resolved := Array.replicate 8 none
  statics := none }

def pool4 : Array CpInfo := pool [(1, u "java/io/Serializable"), (0, .class_ 1), (0, u "java/lang/Object"), (0, .class_ 3)] 3

/-- java/io/Serializable -/
def k4 : Class := { plain "java/io/Serializable" (some 0) with
  accessFlags := 1537
  interfaces := #[]
  cf := some (fileOf pool4 2 #[] #[] 1537 4 #[] #[])
  fields := #[]
  methods := #[]
  instanceTypes := #[]
  staticTypes := #[]
  resolved := Array.replicate 8 none
  statics := none }

/-- the primitive byte -/
def k5 : Class := { plain "byte" none with kind := .primitive 'B', accessFlags := 0x411 }
/-- [B -/
def k6 : Class := { plain "[B" (some 0) with kind := .array 5 .byte, interfaces := #[3, 4], accessFlags := 1041 }

/-- the primitive int -/
def k7 : Class := { plain "int" none with kind := .primitive 'I', accessFlags := 0x411 }
/-- [I -/
def k8 : Class := { plain "[I" (some 0) with kind := .array 7 .int, interfaces := #[3, 4], accessFlags := 1041 }

def heap : Heap := #[]
def classes : Array Class := #[k0, k1, k2, k3, k4, k5, k6, k7, k8]
def interned : List (Array UInt16 × Addr) := []
def slotsUsed : Nat := 0
def theMethod : MethodId := ⟨1, 1⟩
def args0 : Array Value := #[.long 7, .int 8, .int 9, .int 1]
def aboutOver (below : List Frame) : State where
  vm := { classes := classes, interned := interned.toArray }
  heap := heap
  slotsUsed := slotsUsed
  threads := #[{ frames := .invoking theMethod args0 :: below }]
def below0 : List Frame := [.native { method := ⟨0, 0⟩, args := #[] }]
def about1 : State := aboutOver below0
def p0 : Program := .bare "" "" ""
def e0 : Env := launch0.env 0 0 0
theorem w_frames : about1.frames = Frame.invoking theMethod args0 :: below0 := rfl
set_option maxRecDepth 65536 in
theorem w_args : argsFit about1.vm theMethod args0 = true := by decide +kernel
set_option maxRecDepth 65536 in
theorem w_heap : heapFits about1 = true := by decide +kernel
set_option maxRecDepth 65536 in
theorem w_runnable : about1.curStatus? = some .runnable := by decide +kernel
set_option maxRecDepth 65536 in
theorem w_alone : about1.alone = true := by decide +kernel
set_option maxRecDepth 65536 in
theorem w_named : about1.methodNamed? x = some theMethod := by decide +kernel
set_option maxRecDepth 65536 in
theorem w_hears : about1.hears theMethod below0 = true := by decide +kernel
set_option maxRecDepth 65536 in
theorem w_ripe : about1.ripe theMethod args0 below0 = true := by decide +kernel
theorem w_running : about1.status = .running := rfl
set_option maxRecDepth 65536 in
theorem w_room : about1.hasRoom e0.platform room_1 = true :=
  launch0.hasRoom_least _ room_1 (by decide +kernel) (by decide +kernel) (by decide +kernel) (by decide +kernel) (by decide +kernel) (by decide +kernel)
theorem allAtoms_all (ts : List Jvm.Cond) (a : Array Jvm.Value) (st : Jvm.State) : (allAtoms ts).before a st = ts.all (fun c => c.before a st) := by
  induction ts with
  | nil => rfl
  | cons c t ih =>
    show (Jvm.Cond.and c (allAtoms t)).before a st = _
    rw [Jvm.Cond.before_and, ih, List.all_cons]
def words1 : List Jvm.Cond := Jvm.Cond.code x code maxLocals ret :: tables_1
/-- a 'code' word, met by the world's own term for the bytes: nothing is compared byte by byte -/
theorem code_word {y : MethodName} {bytes : ByteArray} {mx : Nat} {rt : Option FieldType} {a : Array Value} {s : State} {m : MethodId} {meth : Method} {c : Code} (h1 : s.methodNamed? y = some m) (h2 : s.vm.method? m = some meth) (h3 : meth.code = some c) (h4 : c.code = bytes)
    (h5 : (c.maxLocals == mx && c.exceptionTable.isEmpty && decide (c.maxStack ≤ mostOperands) && decide (meth.sig.returnType = rt) && !meth.locks && decide (parseMethodDescriptor y.desc = some meth.sig)) = true) : (Jvm.Cond.code y bytes mx rt).before a s = true := by
  simp only [Bool.and_eq_true, beq_iff_eq, Bool.not_eq_true', decide_eq_true_eq] at h5
  obtain ⟨⟨⟨⟨⟨g1, g2⟩, g3⟩, g4⟩, g5⟩, g6⟩ := h5
  simp [Cond.before, Cond.holds, Cond.value, h1, h2, h3, h4, g1, g2, g3, g4, g5, g6]
def isCode : Jvm.Cond → Bool
  | .code _ _ _ _ => true
  | _ => false
theorem all_split {L : List Jvm.Cond} {P : Jvm.Cond → Bool} (h1 : L.all (fun c => isCode c || P c) = true) (h2 : ∀ c ∈ L.filter isCode, P c = true) : L.all P = true := by
  refine List.all_eq_true.mpr fun c hc => ?_
  have h := List.all_eq_true.mp h1 c hc
  rcases Bool.eq_false_or_eq_true (isCode c) with hi | hi
  · exact h2 c (List.mem_filter.mpr ⟨hc, hi⟩)
  · simpa [hi] using h
set_option maxRecDepth 65536 in
theorem w_c0 : (Jvm.Cond.code x code maxLocals ret).before args0 about1 = true := code_word (m := ⟨1, 1⟩) (meth := k1m1) (c := k1c1) (by decide +kernel) rfl rfl rfl (by decide +kernel)
set_option maxRecDepth 65536 in
theorem w_c1 : (Jvm.Cond.code ({ cls := "indaga/index/IndexFormatPutVarintPinLaw", name := "size", desc := "(J)I" } : Jvm.MethodName) method_3_code (2 : Nat) (Option.some Jvm.ClassFile.FieldType.int)).before args0 about1 = true := code_word (m := ⟨1, 2⟩) (meth := k1m2) (c := k1c2) (by decide +kernel) rfl rfl rfl (by decide +kernel)
set_option maxRecDepth 65536 in
theorem w_c2 : (Jvm.Cond.code ({ cls := "indaga/index/IndexFormat", name := "putVarint", desc := "([BIJ)I" } : Jvm.MethodName) prog_59_method_5_code (7 : Nat) (Option.some Jvm.ClassFile.FieldType.int)).before args0 about1 = true := code_word (m := ⟨2, 1⟩) (meth := k2m1) (c := k2c1) (by decide +kernel) rfl rfl rfl (by decide +kernel)
set_option maxRecDepth 65536 in
theorem w_c3 : (Jvm.Cond.code ({ cls := "indaga/index/IndexFormatPutVarintPinLaw", name := "cell", desc := "([BIIIJB)Z" } : Jvm.MethodName) method_4_code (12 : Nat) (Option.some Jvm.ClassFile.FieldType.boolean)).before args0 about1 = true := code_word (m := ⟨1, 3⟩) (meth := k1m3) (c := k1c3) (by decide +kernel) rfl rfl rfl (by decide +kernel)
def codes1 : List Jvm.Cond := [Jvm.Cond.code x code maxLocals ret, Jvm.Cond.code ({ cls := "indaga/index/IndexFormatPutVarintPinLaw", name := "size", desc := "(J)I" } : Jvm.MethodName) method_3_code (2 : Nat) (Option.some Jvm.ClassFile.FieldType.int), Jvm.Cond.code ({ cls := "indaga/index/IndexFormat", name := "putVarint", desc := "([BIJ)I" } : Jvm.MethodName) prog_59_method_5_code (7 : Nat) (Option.some Jvm.ClassFile.FieldType.int), Jvm.Cond.code ({ cls := "indaga/index/IndexFormatPutVarintPinLaw", name := "cell", desc := "([BIIIJB)Z" } : Jvm.MethodName) method_4_code (12 : Nat) (Option.some Jvm.ClassFile.FieldType.boolean)]
set_option maxRecDepth 65536 in
theorem codes_eq : words1.filter isCode = codes1 := rfl
theorem w_codes : ∀ c ∈ words1.filter isCode, c.before args0 about1 = true := by
  rw [codes_eq]
  intro c hc
  simp only [codes1, List.mem_cons, List.not_mem_nil, or_false] at hc
  rcases hc with rfl | rfl | rfl | rfl
  · exact w_c0
  · exact w_c1
  · exact w_c2
  · exact w_c3
set_option maxRecDepth 65536 in
theorem w_t1 : (words1.take 24).all (fun c => isCode c || c.before args0 about1) = true := by decide +kernel
set_option maxRecDepth 65536 in
theorem w_t2 : (words1.drop 24).all (fun c => isCode c || c.before args0 about1) = true := by decide +kernel
theorem w_tables : (allAtoms (Jvm.Cond.code x code maxLocals ret :: tables_1)).before args0 about1 = true := by
  rw [allAtoms_all]
  show words1.all (fun c => c.before args0 about1) = true
  refine all_split ?_ w_codes
  rw [← List.take_append_drop 24 words1, List.all_append, w_t1, w_t2]
  rfl
set_option maxRecDepth 65536 in
theorem w_case : (Jvm.Cond.and given_1 narrow_1).before args0 about1 = true := by decide +kernel
theorem w_applies : (headSpec (Jvm.Cond.code x code maxLocals ret :: tables_1) room_1).applies x e0.platform about1 = true :=
  (Spec.applies_iff w_frames).mpr ⟨w_running, w_runnable, w_alone, w_named, w_hears, w_ripe, w_room, w_tables⟩
theorem atStart : AtStart classFile x code maxLocals ret World_1 tables_1 room_1 Calls_1 rest_1 Pre_1 launch0 p0 e0 about1 theMethod args0 below0 :=
  ⟨lists_1, trivial, launch0.admits_env _ _ _, launch0.least_env, fairChoices_fair.cas, fairChoices_fair.clock, w_frames, w_args, w_heap, w_applies, trivial, trivial, w_case⟩
end start1
theorem witness_1 : WitnessClaimed_1 := ⟨start1.p0, start1.e0, start1.about1, start1.theMethod, start1.args0, start1.below0, start1.atStart⟩
end Jvm.Pilot.@@N@@
