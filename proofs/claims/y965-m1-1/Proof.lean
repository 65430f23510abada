import JvmDerived
import JvmDerived.Pilot.@@N@@Statement
import JvmDerived.Pilot.@@N@@Code
set_option linter.unusedVariables false
set_option linter.unusedSimpArgs false
namespace Jvm.RoadKit
open Sem ClassFile Op Lib Jvm.Stand Jvm.Free Jvm.LawKit
section New
variable {p : Program} {l : Launch} {e : Env} {R : Room} {s : State} {m : MethodId} {args : Array Value} {below : List Frame} {meth : Method} {c : Code} {T : State} {locs : List Loc} {cells slots : Nat}
theorem retI (X : Stand p l e R s m args below meth c T locs cells slots) (hx : p.tables.exec = Jvm.exec) {pc : Nat} {Ls : Array Slot} {z : Int32} {rest : List Value} (hret : meth.sig.returnType = some .int) (hd : decode c.code pc = .ok (.ireturn, 1)) {fs : List Frame}
    (hl : ∀ (f : JFrame) (acts : List Action), f.method = m → f.locked = none → f.entered = [] → (doReturn e (T.setTop f) acts (some (.int z))).1 = T.setFrames fs) : Steps p.tables e below (T.setTop (mkF m pc Ls (.int z :: rest))) (T.setFrames fs) := by
  have hm' : T.vm.method? m = some meth := X.method'
  have hn : narrow .int (.int z) = .int z := rfl
  show Steps p.tables e below (T.setTop { method := m, pc := pc, locals := Ls, stack := _ :: rest, locked := none }) _
  jvm_step X.here [X.here.top, hx, hd, hm', hret, hn]
  first | (intro acts; rw [hl _ acts rfl rfl rfl]) | rw [hl _ _ rfl rfl rfl]
  exact Steps.refl _
end New
end Jvm.RoadKit
namespace Jvm.Pilot.@@N@@
open Jvm Jvm.ClassFile Sem Op Lib Jvm.Free Jvm.Stand Jvm.LawKit Jvm.RoadKit Bundle Jvm.Pilot.@@N@@.Jvm.D
section OwnLayer
variable {p : Program} {l : Launch} {e : Env} {R : Room} {s : State} {m : MethodId} {args : Array Value} {below : List Frame} {meth : Method} {c : Code} {T : State} {locs : List Loc} {cells slots : Nat} {Z : State} {a0 : Array Value} {h h' : Heap} {K : State → Outcome → Prop} {Q : Option Value → Heap → List Loc → Prop} {pc : Nat} {Ls : Array Slot} {S : List Value} {own : String} {index : Nat} {y : MethodName} {bytes : ByteArray} {maxL : Nat} {ret : Option FieldType} {rm : Room} {as' : Array Value} {h0 : Heap} {ws : List Jvm.Cond}
/-- from here the body comes to its end, and K holds of it -/
def own_W (p : Program) (e : Env) (below : List Frame) (K : State → Outcome → Prop) (T : State) (f : JFrame) : Prop :=
  ∃ s₂ o, Steps p.tables e below (T.setTop f) s₂ ∧ s₂.status = .running ∧ Ended s₂ below o ∧ K s₂ o
def own_K (s : State) (R : Room) (Q : Option Value → Heap → List Loc → Prop) (s₂ : State) (o : Outcome) : Prop :=
  ∃ v L, o = .returned v ∧ Q v s₂.heap L ∧ FrameEnd s o s₂ L R.cells R.slots
/-- a body's contract -/
def own_C (l : Launch) (Z : State) (y : MethodName) (bytes : ByteArray) (maxL : Nat) (ret : Option FieldType) (ws : List Jvm.Cond) (rm : Room) (as' : Array Value) (h0 : Heap) (Q : Option Value → Heap → List Loc → Prop) : Prop :=
  MetFree l y (head1 (Jvm.Cond.code y bytes maxL ret :: ws) rm) (fun a U => a = as' ∧ Z.Warmed39 U.vm ∧ U.heap = h0) (fun _ _ _ _ _ => True) (fun _ U o U' => ∃ v L, o = .returned v ∧ Q v U'.heap L ∧ FrameEnd U o U' L rm.cells rm.slots)
theorem own_bodyF (hpl : plainFor y = true)
    (body : ∀ (p : Program) (e : Env) (s : State) (m : MethodId) (below : List Frame) (meth : Method) (c : Code) (T : State), p.tables.exec = Jvm.exec → c.code = bytes → c.maxLocals = maxL → s.vm.findClass y.cls = some m.cls → meth.name = y.name → meth.sig.returnType = ret → meth.locks = false → Z.Warmed39 s.vm →
      Stand p l e rm s m as' below meth c T [] 0 0 → T.heap = h0 → own_W p e below (own_K s rm Q) T (entryFrame m as' maxL)) : own_C l Z y bytes maxL ret ws rm as' h0 Q := by
  refine MetFree.of_bodySF hpl hisR ?_
  intro p e s m args below meth c s₁ Bd hml0 hP hK
  obtain ⟨rfl, hZ, hh⟩ := hP
  exact body p e s m below meth c s₁ Bd.exec Bd.bytes hml0 (findClass_of_methodNamed Bd.named) (name_of_methodNamed Bd.named Bd.method).1 Bd.returns (BodyLoose.notSynchronized Bd) hZ (Stand.of_body Bd) (by rw [← hh, Bd.state]; rfl)
theorem own_body (hpn : plainName y.cls = true)
    (body : ∀ (p : Program) (e : Env) (s : State) (m : MethodId) (below : List Frame) (meth : Method) (c : Code) (T : State), p.tables.exec = Jvm.exec → c.code = bytes → c.maxLocals = maxL → s.vm.findClass y.cls = some m.cls → meth.name = y.name → meth.sig.returnType = ret → meth.locks = false → Z.Warmed39 s.vm →
      Stand p l e rm s m as' below meth c T [] 0 0 → T.heap = h0 → own_W p e below (own_K s rm Q) T (entryFrame m as' maxL)) : own_C l Z y bytes maxL ret ws rm as' h0 Q := own_bodyF (plainFor_of_name hpn) body
theorem own_s {f f' : JFrame} {T' : State} (hs : ∀ t, Steps p.tables e below (T'.setTop f') t → Steps p.tables e below (T.setTop f) t) (k : own_W p e below K T' f') : own_W p e below K T f := by
  obtain ⟨s₂, o, h1, r⟩ := k; exact ⟨s₂, o, hs _ h1, r⟩
theorem own_s' {f f' : JFrame} {T' : State} (hs : Steps p.tables e below (T.setTop f) (T'.setTop f')) (k : own_W p e below K T' f') : own_W p e below K T f := by
  obtain ⟨s₂, o, h1, r⟩ := k; exact ⟨s₂, o, hs.trans h1, r⟩
theorem own_eq {f f' : JFrame} (q : f = f') (k : own_W p e below K T f') : own_W p e below K T f := q ▸ k
section Plain
theorem own_iloadN (X : Stand p l e R s m args below meth c T locs cells slots) (hx : p.tables.exec = Jvm.exec) {i : Fin 4} {v : Int32} (pc' : Nat) (hd : decode c.code pc = .ok (.iload_n i, 1)) (hp : pc + 1 = pc') (hl : Ls[i.val]? = some (.val (.int v))) (k : own_W p e below K T (mkF m pc' Ls (.int v :: S))) : own_W p e below K T (mkF m pc Ls S) := by subst hp; exact own_s (fun _ => XS.iloadN X.here hx rfl hd hl) k
theorem own_iload (X : Stand p l e R s m args below meth c T locs cells slots) (hx : p.tables.exec = Jvm.exec) {i : Nat} {v : Int32} (pc' : Nat) (hd : decode c.code pc = .ok (.iload i, 2)) (hp : pc + 2 = pc') (hl : Ls[i]? = some (.val (.int v))) (k : own_W p e below K T (mkF m pc' Ls (.int v :: S))) : own_W p e below K T (mkF m pc Ls S) := by subst hp; exact own_s (fun _ => XS.iload X.here hx rfl hd hl) k
theorem own_lloadN (X : Stand p l e R s m args below meth c T locs cells slots) (hx : p.tables.exec = Jvm.exec) {i : Fin 4} {v : Int64} (pc' : Nat) (hd : decode c.code pc = .ok (.lload_n i, 1)) (hp : pc + 1 = pc') (hl : Ls[i.val]? = some (.val (.long v))) (k : own_W p e below K T (mkF m pc' Ls (.long v :: S))) : own_W p e below K T (mkF m pc Ls S) := by subst hp; exact own_s (fun _ => XS.lloadN X.here hx rfl hd hl) k
theorem own_lload (X : Stand p l e R s m args below meth c T locs cells slots) (hx : p.tables.exec = Jvm.exec) {i : Nat} {v : Int64} (pc' : Nat) (hd : decode c.code pc = .ok (.lload i, 2)) (hp : pc + 2 = pc') (hl : Ls[i]? = some (.val (.long v))) (k : own_W p e below K T (mkF m pc' Ls (.long v :: S))) : own_W p e below K T (mkF m pc Ls S) := by subst hp; exact own_s (fun _ => XS.lload X.here hx rfl hd hl) k
theorem own_aloadN (X : Stand p l e R s m args below meth c T locs cells slots) (hx : p.tables.exec = Jvm.exec) {i : Fin 4} {v : Addr} (pc' : Nat) (hd : decode c.code pc = .ok (.aload_n i, 1)) (hp : pc + 1 = pc') (hl : Ls[i.val]? = some (.val (.ref v))) (k : own_W p e below K T (mkF m pc' Ls (.ref v :: S))) : own_W p e below K T (mkF m pc Ls S) := by subst hp; exact own_s (fun _ => XS.aloadN X.here hx rfl hd hl rfl) k
theorem own_aload (X : Stand p l e R s m args below meth c T locs cells slots) (hx : p.tables.exec = Jvm.exec) {i : Nat} {v : Addr} (pc' : Nat) (hd : decode c.code pc = .ok (.aload i, 2)) (hp : pc + 2 = pc') (hl : Ls[i]? = some (.val (.ref v))) (k : own_W p e below K T (mkF m pc' Ls (.ref v :: S))) : own_W p e below K T (mkF m pc Ls S) := by subst hp; exact own_s (fun _ => XS.aload X.here hx rfl hd hl rfl) k
theorem own_istoreN (X : Stand p l e R s m args below meth c T locs cells slots) (hx : p.tables.exec = Jvm.exec) {i : Fin 4} {x y : Int32} (pc' : Nat) (l' : Array Slot) (hy : y = x) (hd : decode c.code pc = .ok (.istore_n i, 1)) (hp : pc + 1 = pc') (hl : storeLocals Ls i.val (.int y) = some l') (k : own_W p e below K T (mkF m pc' l' S)) : own_W p e below K T (mkF m pc Ls (.int x :: S)) := by subst hp hy; exact own_s (fun _ => XS.istoreN X.here hx rfl hd rfl hl) k
theorem own_istore (X : Stand p l e R s m args below meth c T locs cells slots) (hx : p.tables.exec = Jvm.exec) {i : Nat} {x y : Int32} (pc' : Nat) (l' : Array Slot) (hy : y = x) (hd : decode c.code pc = .ok (.istore i, 2)) (hp : pc + 2 = pc') (hl : storeLocals Ls i (.int y) = some l') (k : own_W p e below K T (mkF m pc' l' S)) : own_W p e below K T (mkF m pc Ls (.int x :: S)) := by subst hp hy; exact own_s (fun _ => XS.istore X.here hx rfl hd rfl hl) k
theorem own_lstoreN (X : Stand p l e R s m args below meth c T locs cells slots) (hx : p.tables.exec = Jvm.exec) {i : Fin 4} {x y : Int64} (pc' : Nat) (l' : Array Slot) (hy : y = x) (hd : decode c.code pc = .ok (.lstore_n i, 1)) (hp : pc + 1 = pc') (hl : storeLocals Ls i.val (.long y) = some l') (k : own_W p e below K T (mkF m pc' l' S)) : own_W p e below K T (mkF m pc Ls (.long x :: S)) := by subst hp hy; exact own_s (fun _ => XS.lstoreN X.here hx rfl hd rfl hl) k
theorem own_lstore (X : Stand p l e R s m args below meth c T locs cells slots) (hx : p.tables.exec = Jvm.exec) {i : Nat} {x y : Int64} (pc' : Nat) (l' : Array Slot) (hy : y = x) (hd : decode c.code pc = .ok (.lstore i, 2)) (hp : pc + 2 = pc') (hl : storeLocals Ls i (.long y) = some l') (k : own_W p e below K T (mkF m pc' l' S)) : own_W p e below K T (mkF m pc Ls (.long x :: S)) := by subst hp hy; exact own_s (fun _ => XS.lstore X.here hx rfl hd rfl hl) k
theorem own_astoreN (X : Stand p l e R s m args below meth c T locs cells slots) (hx : p.tables.exec = Jvm.exec) {i : Fin 4} {x y : Addr} (pc' : Nat) (l' : Array Slot) (hy : y = x) (hd : decode c.code pc = .ok (.astore_n i, 1)) (hp : pc + 1 = pc') (hl : storeLocals Ls i.val (.ref y) = some l') (k : own_W p e below K T (mkF m pc' l' S)) : own_W p e below K T (mkF m pc Ls (.ref x :: S)) := by subst hp hy; exact own_s (fun _ => XS.astoreN X.here hx rfl hd rfl rfl hl) k
theorem own_astore (X : Stand p l e R s m args below meth c T locs cells slots) (hx : p.tables.exec = Jvm.exec) {i : Nat} {x y : Addr} (pc' : Nat) (l' : Array Slot) (hy : y = x) (hd : decode c.code pc = .ok (.astore i, 2)) (hp : pc + 2 = pc') (hl : storeLocals Ls i (.ref y) = some l') (k : own_W p e below K T (mkF m pc' l' S)) : own_W p e below K T (mkF m pc Ls (.ref x :: S)) := by subst hp hy; exact own_s (fun _ => XS.astore X.here hx rfl hd rfl rfl hl) k
theorem own_iinc (X : Stand p l e R s m args below meth c T locs cells slots) (hx : p.tables.exec = Jvm.exec) {i : Nat} {cst : Int} {x : Int32} (y : Int32) (pc' : Nat) (l' : Array Slot) (hy : y = x + Int32.ofInt cst) (hd : decode c.code pc = .ok (.iinc i cst, 3)) (hp : pc + 3 = pc') (hl : Ls[i]? = some (.val (.int x))) (hl' : storeLocals Ls i (.int y) = some l') (k : own_W p e below K T (mkF m pc' l' S)) : own_W p e below K T (mkF m pc Ls S) := by subst hp hy; exact own_s (fun _ => XS.iinc X.here hx rfl hd hl hl') k
theorem own_iconst (X : Stand p l e R s m args below meth c T locs cells slots) (hx : p.tables.exec = Jvm.exec) {i : Int} (pc' : Nat) (z : Int32) (hz : Int32.ofInt i = z) (hd : decode c.code pc = .ok (.iconst i, 1)) (hp : pc + 1 = pc') (k : own_W p e below K T (mkF m pc' Ls (.int z :: S))) : own_W p e below K T (mkF m pc Ls S) := by subst hp hz; exact own_s (fun _ => XS.iconst X.here hx rfl hd) k
theorem own_bipush (X : Stand p l e R s m args below meth c T locs cells slots) (hx : p.tables.exec = Jvm.exec) {i : Int} (pc' : Nat) (z : Int32) (hz : (Int8.ofInt i).toInt32 = z) (hd : decode c.code pc = .ok (.bipush i, 2)) (hp : pc + 2 = pc') (k : own_W p e below K T (mkF m pc' Ls (.int z :: S))) : own_W p e below K T (mkF m pc Ls S) := by subst hp hz; exact own_s (fun _ => XS.bipush X.here hx rfl hd) k
theorem own_sipush (X : Stand p l e R s m args below meth c T locs cells slots) (hx : p.tables.exec = Jvm.exec) {i : Int} (pc' : Nat) (z : Int32) (hz : (Int16.ofInt i).toInt32 = z) (hd : decode c.code pc = .ok (.sipush i, 3)) (hp : pc + 3 = pc') (k : own_W p e below K T (mkF m pc' Ls (.int z :: S))) : own_W p e below K T (mkF m pc Ls S) := by subst hp hz; exact own_s (fun _ => XS.sipush X.here hx rfl hd) k
theorem own_lconst (X : Stand p l e R s m args below meth c T locs cells slots) (hx : p.tables.exec = Jvm.exec) {i : Fin 2} (pc' : Nat) (z : Int64) (hz : Int64.ofNat i = z) (hd : decode c.code pc = .ok (.lconst i, 1)) (hp : pc + 1 = pc') (k : own_W p e below K T (mkF m pc' Ls (.long z :: S))) : own_W p e below K T (mkF m pc Ls S) := by subst hp hz; exact own_s (fun _ => XS.lconst X.here hx rfl hd) k
theorem own_ldc (X : Stand p l e R s m args below meth c T locs cells slots) (hx : p.tables.exec = Jvm.exec) {v : Int32} (hZ : Z.Warmed39 s.vm) (hown : s.vm.findClass own = some m.cls) (pc' : Nat) (w : (Jvm.Cond.constant own index v).before a0 Z = true) (hd : decode c.code pc = .ok (.ldc index, 2)) (hp : pc + 2 = pc') (k : own_W p e below K T (mkF m pc' Ls (.int v :: S))) : own_W p e below K T (mkF m pc Ls S) := by subst hp; exact own_s (X.ldcInt hx hown (mvT hZ w) (g := mkF m pc Ls S) rfl hd) k
theorem own_ldc2 (X : Stand p l e R s m args below meth c T locs cells slots) (hx : p.tables.exec = Jvm.exec) {v : Int64} (hZ : Z.Warmed39 s.vm) (hown : s.vm.findClass own = some m.cls) (pc' : Nat) (w : (Jvm.Cond.constantLong own index v).before a0 Z = true) (hd : decode c.code pc = .ok (.ldc2_w index, 3)) (hp : pc + 3 = pc') (k : own_W p e below K T (mkF m pc' Ls (.long v :: S))) : own_W p e below K T (mkF m pc Ls S) := by subst hp; exact own_s (X.ldc2Long hx hown (mvT hZ w) (g := mkF m pc Ls S) rfl hd) k
theorem own_goto (X : Stand p l e R s m args below meth c T locs cells slots) (hx : p.tables.exec = Jvm.exec) {o : Int} (pc' : Nat) (hd : decode c.code pc = .ok (.goto o, 3)) (ho : 0 ≤ (pc : Int) + o) (hp : ((pc : Int) + o).toNat = pc') (k : own_W p e below K T (mkF m pc' Ls S)) : own_W p e below K T (mkF m pc Ls S) := own_s (fun _ => XS.goto X.here hx (g := mkF m pc Ls S) rfl rfl hd ho hp) k
theorem own_dup (X : Stand p l e R s m args below meth c T locs cells slots) (hx : p.tables.exec = Jvm.exec) {x : Value} (pc' : Nat) (hc : x.category = 1) (hd : decode c.code pc = .ok (.dup, 1)) (hp : pc + 1 = pc') (k : own_W p e below K T (mkF m pc' Ls (x :: x :: S))) : own_W p e below K T (mkF m pc Ls (x :: S)) := by subst hp; exact own_s (fun _ => XS.dup X.here hx rfl hd rfl hc) k
theorem own_pop (X : Stand p l e R s m args below meth c T locs cells slots) (hx : p.tables.exec = Jvm.exec) {x : Value} (pc' : Nat) (hc : x.category = 1) (hd : decode c.code pc = .ok (.pop, 1)) (hp : pc + 1 = pc') (k : own_W p e below K T (mkF m pc' Ls S)) : own_W p e below K T (mkF m pc Ls (x :: S)) := by subst hp; exact own_s (fun _ => XS.pop X.here hx rfl hd rfl hc) k
theorem own_dupX1 (X : Stand p l e R s m args below meth c T locs cells slots) (hx : p.tables.exec = Jvm.exec) {x y : Value} (pc' : Nat) (hc : x.category = 1) (hc2 : y.category = 1) (hd : decode c.code pc = .ok (.dup_x1, 1)) (hp : pc + 1 = pc') (k : own_W p e below K T (mkF m pc' Ls (x :: y :: x :: S))) : own_W p e below K T (mkF m pc Ls (x :: y :: S)) := by subst hp; exact own_s (fun _ => XS.dupX1 X.here hx rfl hd rfl hc hc2) k
theorem own_dup2 (X : Stand p l e R s m args below meth c T locs cells slots) (hx : p.tables.exec = Jvm.exec) {x y : Value} (pc' : Nat) (hc : x.category = 1) (hc2 : y.category = 1) (hd : decode c.code pc = .ok (.dup2, 1)) (hp : pc + 1 = pc') (k : own_W p e below K T (mkF m pc' Ls (x :: y :: x :: y :: S))) : own_W p e below K T (mkF m pc Ls (x :: y :: S)) := by subst hp; exact own_s (fun _ => XT.dup2 X.here hx rfl hd rfl hc hc2) k
theorem own_iadd (X : Stand p l e R s m args below meth c T locs cells slots) (hx : p.tables.exec = Jvm.exec) {x y : Int32} (pc' : Nat) (hd : decode c.code pc = .ok (.iadd, 1)) (hp : pc + 1 = pc') (k : own_W p e below K T (mkF m pc' Ls (.int (x + y) :: S))) : own_W p e below K T (mkF m pc Ls (.int y :: .int x :: S)) := by subst hp; exact own_s (fun _ => XS.iadd X.here hx rfl hd rfl) k
theorem own_ladd (X : Stand p l e R s m args below meth c T locs cells slots) (hx : p.tables.exec = Jvm.exec) {x y : Int64} (pc' : Nat) (hd : decode c.code pc = .ok (.ladd, 1)) (hp : pc + 1 = pc') (k : own_W p e below K T (mkF m pc' Ls (.long (x + y) :: S))) : own_W p e below K T (mkF m pc Ls (.long y :: .long x :: S)) := by subst hp; exact own_s (fun _ => XS.ladd X.here hx rfl hd rfl) k
theorem own_isub (X : Stand p l e R s m args below meth c T locs cells slots) (hx : p.tables.exec = Jvm.exec) {x y : Int32} (pc' : Nat) (hd : decode c.code pc = .ok (.isub, 1)) (hp : pc + 1 = pc') (k : own_W p e below K T (mkF m pc' Ls (.int (x - y) :: S))) : own_W p e below K T (mkF m pc Ls (.int y :: .int x :: S)) := by subst hp; exact own_s (fun _ => XS.isub X.here hx rfl hd rfl) k
theorem own_lsub (X : Stand p l e R s m args below meth c T locs cells slots) (hx : p.tables.exec = Jvm.exec) {x y : Int64} (pc' : Nat) (hd : decode c.code pc = .ok (.lsub, 1)) (hp : pc + 1 = pc') (k : own_W p e below K T (mkF m pc' Ls (.long (x - y) :: S))) : own_W p e below K T (mkF m pc Ls (.long y :: .long x :: S)) := by subst hp; exact own_s (fun _ => XS.lsub X.here hx rfl hd rfl) k
theorem own_imul (X : Stand p l e R s m args below meth c T locs cells slots) (hx : p.tables.exec = Jvm.exec) {x y : Int32} (pc' : Nat) (hd : decode c.code pc = .ok (.imul, 1)) (hp : pc + 1 = pc') (k : own_W p e below K T (mkF m pc' Ls (.int (x * y) :: S))) : own_W p e below K T (mkF m pc Ls (.int y :: .int x :: S)) := by subst hp; exact own_s (fun _ => XS.imul X.here hx rfl hd rfl) k
theorem own_lmul (X : Stand p l e R s m args below meth c T locs cells slots) (hx : p.tables.exec = Jvm.exec) {x y : Int64} (pc' : Nat) (hd : decode c.code pc = .ok (.lmul, 1)) (hp : pc + 1 = pc') (k : own_W p e below K T (mkF m pc' Ls (.long (x * y) :: S))) : own_W p e below K T (mkF m pc Ls (.long y :: .long x :: S)) := by subst hp; exact own_s (fun _ => XS.lmul X.here hx rfl hd rfl) k
theorem own_iand (X : Stand p l e R s m args below meth c T locs cells slots) (hx : p.tables.exec = Jvm.exec) {x y : Int32} (pc' : Nat) (hd : decode c.code pc = .ok (.iand, 1)) (hp : pc + 1 = pc') (k : own_W p e below K T (mkF m pc' Ls (.int (x &&& y) :: S))) : own_W p e below K T (mkF m pc Ls (.int y :: .int x :: S)) := by subst hp; exact own_s (fun _ => XS.iand X.here hx rfl hd rfl) k
theorem own_land (X : Stand p l e R s m args below meth c T locs cells slots) (hx : p.tables.exec = Jvm.exec) {x y : Int64} (pc' : Nat) (hd : decode c.code pc = .ok (.land, 1)) (hp : pc + 1 = pc') (k : own_W p e below K T (mkF m pc' Ls (.long (x &&& y) :: S))) : own_W p e below K T (mkF m pc Ls (.long y :: .long x :: S)) := by subst hp; exact own_s (fun _ => XS.land X.here hx rfl hd rfl) k
theorem own_ior (X : Stand p l e R s m args below meth c T locs cells slots) (hx : p.tables.exec = Jvm.exec) {x y : Int32} (pc' : Nat) (hd : decode c.code pc = .ok (.ior, 1)) (hp : pc + 1 = pc') (k : own_W p e below K T (mkF m pc' Ls (.int (x ||| y) :: S))) : own_W p e below K T (mkF m pc Ls (.int y :: .int x :: S)) := by subst hp; exact own_s (fun _ => XS.ior X.here hx rfl hd rfl) k
theorem own_lor (X : Stand p l e R s m args below meth c T locs cells slots) (hx : p.tables.exec = Jvm.exec) {x y : Int64} (pc' : Nat) (hd : decode c.code pc = .ok (.lor, 1)) (hp : pc + 1 = pc') (k : own_W p e below K T (mkF m pc' Ls (.long (x ||| y) :: S))) : own_W p e below K T (mkF m pc Ls (.long y :: .long x :: S)) := by subst hp; exact own_s (fun _ => XS.lor X.here hx rfl hd rfl) k
theorem own_ixor (X : Stand p l e R s m args below meth c T locs cells slots) (hx : p.tables.exec = Jvm.exec) {x y : Int32} (pc' : Nat) (hd : decode c.code pc = .ok (.ixor, 1)) (hp : pc + 1 = pc') (k : own_W p e below K T (mkF m pc' Ls (.int (x ^^^ y) :: S))) : own_W p e below K T (mkF m pc Ls (.int y :: .int x :: S)) := by subst hp; exact own_s (fun _ => XS.ixor X.here hx rfl hd rfl) k
theorem own_lxor (X : Stand p l e R s m args below meth c T locs cells slots) (hx : p.tables.exec = Jvm.exec) {x y : Int64} (pc' : Nat) (hd : decode c.code pc = .ok (.lxor, 1)) (hp : pc + 1 = pc') (k : own_W p e below K T (mkF m pc' Ls (.long (x ^^^ y) :: S))) : own_W p e below K T (mkF m pc Ls (.long y :: .long x :: S)) := by subst hp; exact own_s (fun _ => XS.lxor X.here hx rfl hd rfl) k
theorem own_iaddz (X : Stand p l e R s m args below meth c T locs cells slots) (hx : p.tables.exec = Jvm.exec) {x y z : Int32} (pc' : Nat) (hz : x + y = z) (hd : decode c.code pc = .ok (.iadd, 1)) (hp : pc + 1 = pc') (k : own_W p e below K T (mkF m pc' Ls (.int z :: S))) : own_W p e below K T (mkF m pc Ls (.int y :: .int x :: S)) := by subst hz; exact own_iadd X hx pc' hd hp k
theorem own_laddz (X : Stand p l e R s m args below meth c T locs cells slots) (hx : p.tables.exec = Jvm.exec) {x y z : Int64} (pc' : Nat) (hz : x + y = z) (hd : decode c.code pc = .ok (.ladd, 1)) (hp : pc + 1 = pc') (k : own_W p e below K T (mkF m pc' Ls (.long z :: S))) : own_W p e below K T (mkF m pc Ls (.long y :: .long x :: S)) := by subst hz; exact own_ladd X hx pc' hd hp k
theorem own_isubz (X : Stand p l e R s m args below meth c T locs cells slots) (hx : p.tables.exec = Jvm.exec) {x y z : Int32} (pc' : Nat) (hz : x - y = z) (hd : decode c.code pc = .ok (.isub, 1)) (hp : pc + 1 = pc') (k : own_W p e below K T (mkF m pc' Ls (.int z :: S))) : own_W p e below K T (mkF m pc Ls (.int y :: .int x :: S)) := by subst hz; exact own_isub X hx pc' hd hp k
theorem own_lsubz (X : Stand p l e R s m args below meth c T locs cells slots) (hx : p.tables.exec = Jvm.exec) {x y z : Int64} (pc' : Nat) (hz : x - y = z) (hd : decode c.code pc = .ok (.lsub, 1)) (hp : pc + 1 = pc') (k : own_W p e below K T (mkF m pc' Ls (.long z :: S))) : own_W p e below K T (mkF m pc Ls (.long y :: .long x :: S)) := by subst hz; exact own_lsub X hx pc' hd hp k
theorem own_imulz (X : Stand p l e R s m args below meth c T locs cells slots) (hx : p.tables.exec = Jvm.exec) {x y z : Int32} (pc' : Nat) (hz : x * y = z) (hd : decode c.code pc = .ok (.imul, 1)) (hp : pc + 1 = pc') (k : own_W p e below K T (mkF m pc' Ls (.int z :: S))) : own_W p e below K T (mkF m pc Ls (.int y :: .int x :: S)) := by subst hz; exact own_imul X hx pc' hd hp k
theorem own_lmulz (X : Stand p l e R s m args below meth c T locs cells slots) (hx : p.tables.exec = Jvm.exec) {x y z : Int64} (pc' : Nat) (hz : x * y = z) (hd : decode c.code pc = .ok (.lmul, 1)) (hp : pc + 1 = pc') (k : own_W p e below K T (mkF m pc' Ls (.long z :: S))) : own_W p e below K T (mkF m pc Ls (.long y :: .long x :: S)) := by subst hz; exact own_lmul X hx pc' hd hp k
theorem own_iandz (X : Stand p l e R s m args below meth c T locs cells slots) (hx : p.tables.exec = Jvm.exec) {x y z : Int32} (pc' : Nat) (hz : x &&& y = z) (hd : decode c.code pc = .ok (.iand, 1)) (hp : pc + 1 = pc') (k : own_W p e below K T (mkF m pc' Ls (.int z :: S))) : own_W p e below K T (mkF m pc Ls (.int y :: .int x :: S)) := by subst hz; exact own_iand X hx pc' hd hp k
theorem own_landz (X : Stand p l e R s m args below meth c T locs cells slots) (hx : p.tables.exec = Jvm.exec) {x y z : Int64} (pc' : Nat) (hz : x &&& y = z) (hd : decode c.code pc = .ok (.land, 1)) (hp : pc + 1 = pc') (k : own_W p e below K T (mkF m pc' Ls (.long z :: S))) : own_W p e below K T (mkF m pc Ls (.long y :: .long x :: S)) := by subst hz; exact own_land X hx pc' hd hp k
theorem own_iorz (X : Stand p l e R s m args below meth c T locs cells slots) (hx : p.tables.exec = Jvm.exec) {x y z : Int32} (pc' : Nat) (hz : x ||| y = z) (hd : decode c.code pc = .ok (.ior, 1)) (hp : pc + 1 = pc') (k : own_W p e below K T (mkF m pc' Ls (.int z :: S))) : own_W p e below K T (mkF m pc Ls (.int y :: .int x :: S)) := by subst hz; exact own_ior X hx pc' hd hp k
theorem own_lorz (X : Stand p l e R s m args below meth c T locs cells slots) (hx : p.tables.exec = Jvm.exec) {x y z : Int64} (pc' : Nat) (hz : x ||| y = z) (hd : decode c.code pc = .ok (.lor, 1)) (hp : pc + 1 = pc') (k : own_W p e below K T (mkF m pc' Ls (.long z :: S))) : own_W p e below K T (mkF m pc Ls (.long y :: .long x :: S)) := by subst hz; exact own_lor X hx pc' hd hp k
theorem own_ixorz (X : Stand p l e R s m args below meth c T locs cells slots) (hx : p.tables.exec = Jvm.exec) {x y z : Int32} (pc' : Nat) (hz : x ^^^ y = z) (hd : decode c.code pc = .ok (.ixor, 1)) (hp : pc + 1 = pc') (k : own_W p e below K T (mkF m pc' Ls (.int z :: S))) : own_W p e below K T (mkF m pc Ls (.int y :: .int x :: S)) := by subst hz; exact own_ixor X hx pc' hd hp k
theorem own_lxorz (X : Stand p l e R s m args below meth c T locs cells slots) (hx : p.tables.exec = Jvm.exec) {x y z : Int64} (pc' : Nat) (hz : x ^^^ y = z) (hd : decode c.code pc = .ok (.lxor, 1)) (hp : pc + 1 = pc') (k : own_W p e below K T (mkF m pc' Ls (.long z :: S))) : own_W p e below K T (mkF m pc Ls (.long y :: .long x :: S)) := by subst hz; exact own_lxor X hx pc' hd hp k
theorem own_ishl (X : Stand p l e R s m args below meth c T locs cells slots) (hx : p.tables.exec = Jvm.exec) {x : Int32} {y : Int32} (pc' : Nat) (hd : decode c.code pc = .ok (.ishl, 1)) (hp : pc + 1 = pc') (k : own_W p e below K T (mkF m pc' Ls (.int (x <<< (y &&& 31)) :: S))) : own_W p e below K T (mkF m pc Ls (.int y :: .int x :: S)) := by subst hp; exact own_s (fun _ => XS.ishl X.here hx rfl hd rfl) k
theorem own_ishr (X : Stand p l e R s m args below meth c T locs cells slots) (hx : p.tables.exec = Jvm.exec) {x : Int32} {y : Int32} (pc' : Nat) (hd : decode c.code pc = .ok (.ishr, 1)) (hp : pc + 1 = pc') (k : own_W p e below K T (mkF m pc' Ls (.int (x >>> (y &&& 31)) :: S))) : own_W p e below K T (mkF m pc Ls (.int y :: .int x :: S)) := by subst hp; exact own_s (fun _ => XS.ishr X.here hx rfl hd rfl) k
theorem own_iushr (X : Stand p l e R s m args below meth c T locs cells slots) (hx : p.tables.exec = Jvm.exec) {x : Int32} {y : Int32} (pc' : Nat) (hd : decode c.code pc = .ok (.iushr, 1)) (hp : pc + 1 = pc') (k : own_W p e below K T (mkF m pc' Ls (.int ((x.toUInt32 >>> (y &&& 31).toUInt32).toInt32) :: S))) : own_W p e below K T (mkF m pc Ls (.int y :: .int x :: S)) := by subst hp; exact own_s (fun _ => XS.iushr X.here hx rfl hd rfl) k
theorem own_lshl (X : Stand p l e R s m args below meth c T locs cells slots) (hx : p.tables.exec = Jvm.exec) {x : Int64} {y : Int32} (pc' : Nat) (hd : decode c.code pc = .ok (.lshl, 1)) (hp : pc + 1 = pc') (k : own_W p e below K T (mkF m pc' Ls (.long (x <<< (y &&& 0x3f).toInt64) :: S))) : own_W p e below K T (mkF m pc Ls (.int y :: .long x :: S)) := by subst hp; exact own_s (fun _ => XS.lshl X.here hx rfl hd rfl) k
theorem own_lshr (X : Stand p l e R s m args below meth c T locs cells slots) (hx : p.tables.exec = Jvm.exec) {x : Int64} {y : Int32} (pc' : Nat) (hd : decode c.code pc = .ok (.lshr, 1)) (hp : pc + 1 = pc') (k : own_W p e below K T (mkF m pc' Ls (.long (x >>> (y &&& 0x3f).toInt64) :: S))) : own_W p e below K T (mkF m pc Ls (.int y :: .long x :: S)) := by subst hp; exact own_s (fun _ => XS.lshr X.here hx rfl hd rfl) k
theorem own_lushr (X : Stand p l e R s m args below meth c T locs cells slots) (hx : p.tables.exec = Jvm.exec) {x : Int64} {y : Int32} (pc' : Nat) (hd : decode c.code pc = .ok (.lushr, 1)) (hp : pc + 1 = pc') (k : own_W p e below K T (mkF m pc' Ls (.long ((x.toUInt64 >>> (y &&& 0x3f).toInt64.toUInt64).toInt64) :: S))) : own_W p e below K T (mkF m pc Ls (.int y :: .long x :: S)) := by subst hp; exact own_s (fun _ => XS.lushr X.here hx rfl hd rfl) k
theorem own_ineg (X : Stand p l e R s m args below meth c T locs cells slots) (hx : p.tables.exec = Jvm.exec) {x : Int32} (pc' : Nat) (hd : decode c.code pc = .ok (.ineg, 1)) (hp : pc + 1 = pc') (k : own_W p e below K T (mkF m pc' Ls (.int ((-x)) :: S))) : own_W p e below K T (mkF m pc Ls (.int x :: S)) := by subst hp; exact own_s (fun _ => XS.ineg X.here hx rfl hd rfl) k
theorem own_lneg (X : Stand p l e R s m args below meth c T locs cells slots) (hx : p.tables.exec = Jvm.exec) {x : Int64} (pc' : Nat) (hd : decode c.code pc = .ok (.lneg, 1)) (hp : pc + 1 = pc') (k : own_W p e below K T (mkF m pc' Ls (.long ((-x)) :: S))) : own_W p e below K T (mkF m pc Ls (.long x :: S)) := by subst hp; exact own_s (fun _ => XS.lneg X.here hx rfl hd rfl) k
theorem own_i2l (X : Stand p l e R s m args below meth c T locs cells slots) (hx : p.tables.exec = Jvm.exec) {x : Int32} (pc' : Nat) (hd : decode c.code pc = .ok (.i2l, 1)) (hp : pc + 1 = pc') (k : own_W p e below K T (mkF m pc' Ls (.long (x.toInt64) :: S))) : own_W p e below K T (mkF m pc Ls (.int x :: S)) := by subst hp; exact own_s (fun _ => XS.i2l X.here hx rfl hd rfl) k
theorem own_l2i (X : Stand p l e R s m args below meth c T locs cells slots) (hx : p.tables.exec = Jvm.exec) {x : Int64} (pc' : Nat) (hd : decode c.code pc = .ok (.l2i, 1)) (hp : pc + 1 = pc') (k : own_W p e below K T (mkF m pc' Ls (.int (x.toInt32) :: S))) : own_W p e below K T (mkF m pc Ls (.long x :: S)) := by subst hp; exact own_s (fun _ => XS.l2i X.here hx rfl hd rfl) k
theorem own_i2b (X : Stand p l e R s m args below meth c T locs cells slots) (hx : p.tables.exec = Jvm.exec) {x : Int32} (pc' : Nat) (hd : decode c.code pc = .ok (.i2b, 1)) (hp : pc + 1 = pc') (k : own_W p e below K T (mkF m pc' Ls (.int (x.toInt8.toInt32) :: S))) : own_W p e below K T (mkF m pc Ls (.int x :: S)) := by subst hp; exact own_s (fun _ => XS.i2b X.here hx rfl hd rfl) k
theorem own_i2s (X : Stand p l e R s m args below meth c T locs cells slots) (hx : p.tables.exec = Jvm.exec) {x : Int32} (pc' : Nat) (hd : decode c.code pc = .ok (.i2s, 1)) (hp : pc + 1 = pc') (k : own_W p e below K T (mkF m pc' Ls (.int (x.toInt16.toInt32) :: S))) : own_W p e below K T (mkF m pc Ls (.int x :: S)) := by subst hp; exact own_s (fun _ => XS.i2s X.here hx rfl hd rfl) k
theorem own_i2c (X : Stand p l e R s m args below meth c T locs cells slots) (hx : p.tables.exec = Jvm.exec) {x : Int32} (pc' : Nat) (hd : decode c.code pc = .ok (.i2c, 1)) (hp : pc + 1 = pc') (k : own_W p e below K T (mkF m pc' Ls (.int (x.toUInt32.toUInt16.toUInt32.toInt32) :: S))) : own_W p e below K T (mkF m pc Ls (.int x :: S)) := by subst hp; exact own_s (fun _ => XS.i2c X.here hx rfl hd rfl) k
theorem own_i2lz (X : Stand p l e R s m args below meth c T locs cells slots) (hx : p.tables.exec = Jvm.exec) {x : Int32} {z : Int64} (pc' : Nat) (hz : x.toInt64 = z) (hd : decode c.code pc = .ok (.i2l, 1)) (hp : pc + 1 = pc') (k : own_W p e below K T (mkF m pc' Ls (.long z :: S))) : own_W p e below K T (mkF m pc Ls (.int x :: S)) := by subst hz; exact own_i2l X hx pc' hd hp k
theorem own_l2iz (X : Stand p l e R s m args below meth c T locs cells slots) (hx : p.tables.exec = Jvm.exec) {x : Int64} {z : Int32} (pc' : Nat) (hz : x.toInt32 = z) (hd : decode c.code pc = .ok (.l2i, 1)) (hp : pc + 1 = pc') (k : own_W p e below K T (mkF m pc' Ls (.int z :: S))) : own_W p e below K T (mkF m pc Ls (.long x :: S)) := by subst hz; exact own_l2i X hx pc' hd hp k
theorem own_idiv (X : Stand p l e R s m args below meth c T locs cells slots) (hx : p.tables.exec = Jvm.exec) {x y : Int32} (pc' : Nat) (hy : y ≠ 0) (hd : decode c.code pc = .ok (.idiv, 1)) (hp : pc + 1 = pc') (k : own_W p e below K T (mkF m pc' Ls (.int (x / y) :: S))) : own_W p e below K T (mkF m pc Ls (.int y :: .int x :: S)) := by subst hp; exact own_s (fun _ => XS.idiv X.here hx rfl hd rfl hy) k
theorem own_irem (X : Stand p l e R s m args below meth c T locs cells slots) (hx : p.tables.exec = Jvm.exec) {x y : Int32} (pc' : Nat) (hy : y ≠ 0) (hd : decode c.code pc = .ok (.irem, 1)) (hp : pc + 1 = pc') (k : own_W p e below K T (mkF m pc' Ls (.int (x % y) :: S))) : own_W p e below K T (mkF m pc Ls (.int y :: .int x :: S)) := by subst hp; exact own_s (fun _ => iremM X hx rfl hd rfl hy) k
theorem own_ldiv (X : Stand p l e R s m args below meth c T locs cells slots) (hx : p.tables.exec = Jvm.exec) {x y : Int64} (pc' : Nat) (hy : y ≠ 0) (hd : decode c.code pc = .ok (.ldiv, 1)) (hp : pc + 1 = pc') (k : own_W p e below K T (mkF m pc' Ls (.long (x / y) :: S))) : own_W p e below K T (mkF m pc Ls (.long y :: .long x :: S)) := by subst hp; exact own_s (fun _ => XS.ldiv X.here hx rfl hd rfl hy) k
theorem own_lrem (X : Stand p l e R s m args below meth c T locs cells slots) (hx : p.tables.exec = Jvm.exec) {x y : Int64} (pc' : Nat) (hy : y ≠ 0) (hd : decode c.code pc = .ok (.lrem, 1)) (hp : pc + 1 = pc') (k : own_W p e below K T (mkF m pc' Ls (.long (x % y) :: S))) : own_W p e below K T (mkF m pc Ls (.long y :: .long x :: S)) := by subst hp; rw [← lrem_mod] at k; exact own_s (fun _ => XS.lrem X.here hx rfl hd rfl hy) k
theorem own_icmp (X : Stand p l e R s m args below meth c T locs cells slots) (hx : p.tables.exec = Jvm.exec) {cd : ClassFile.Cond} {x y : Int32} {o : Int} (pcT pcF : Nat) (P : Prop) [Decidable P] (hT : P → if_icmp.holds cd x y = true) (hF : ¬ P → if_icmp.holds cd x y = false) (hd : decode c.code pc = .ok (.if_icmp cd o, 3)) (ho : 0 ≤ (pc : Int) + o) (hp : ((pc : Int) + o).toNat = pcT) (hp' : pc + 3 = pcF)
    (kT : P → own_W p e below K T (mkF m pcT Ls S)) (kF : ¬ P → own_W p e below K T (mkF m pcF Ls S)) : own_W p e below K T (mkF m pc Ls (.int y :: .int x :: S)) := by
  subst hp'
  by_cases q : P
  · exact own_s (fun _ => XS.icmpYes X.here hx (g := mkF m pc Ls (.int y :: .int x :: S)) rfl rfl hd rfl (hT q) ho hp) (kT q)
  · exact own_s (fun _ => XS.icmpNo X.here hx (g := mkF m pc Ls (.int y :: .int x :: S)) rfl hd rfl (hF q)) (kF q)
theorem own_if (X : Stand p l e R s m args below meth c T locs cells slots) (hx : p.tables.exec = Jvm.exec) {cd : ClassFile.Cond} {x : Int32} {o : Int} (pcT pcF : Nat) (P : Prop) [Decidable P] (hT : P → if_icmp.holds cd x 0 = true) (hF : ¬ P → if_icmp.holds cd x 0 = false) (hd : decode c.code pc = .ok (.ifCond cd o, 3)) (ho : 0 ≤ (pc : Int) + o) (hp : ((pc : Int) + o).toNat = pcT) (hp' : pc + 3 = pcF)
    (kT : P → own_W p e below K T (mkF m pcT Ls S)) (kF : ¬ P → own_W p e below K T (mkF m pcF Ls S)) : own_W p e below K T (mkF m pc Ls (.int x :: S)) := by
  subst hp'
  by_cases q : P
  · exact own_s (fun _ => XS.ifYes X.here hx (g := mkF m pc Ls (.int x :: S)) rfl rfl hd rfl ((if0 cd x).trans (hT q)) ho hp) (kT q)
  · exact own_s (fun _ => XS.ifNo X.here hx (g := mkF m pc Ls (.int x :: S)) rfl hd rfl ((if0 cd x).trans (hF q))) (kF q)
theorem own_lcmp (X : Stand p l e R s m args below meth c T locs cells slots) (hx : p.tables.exec = Jvm.exec) {x y : Int64} (pc' : Nat) (hd : decode c.code pc = .ok (.lcmp, 1)) (hp : pc + 1 = pc') (k : own_W p e below K T (mkF m pc' Ls (.int (lcmpW x y) :: S))) : own_W p e below K T (mkF m pc Ls (.long y :: .long x :: S)) := by subst hp; exact own_s (fun _ => XS.lcmp X.here hx rfl hd rfl) k
theorem own_icmp_lt (X : Stand p l e R s m args below meth c T locs cells slots) (hx : p.tables.exec = Jvm.exec) {x y : Int32} {o : Int} (pcT pcF : Nat) (hd : decode c.code pc = .ok (.if_icmp .lt o, 3)) (ho : 0 ≤ (pc : Int) + o) (hp : ((pc : Int) + o).toNat = pcT) (hp' : pc + 3 = pcF) (kT : x < y → own_W p e below K T (mkF m pcT Ls S)) (kF : ¬ x < y → own_W p e below K T (mkF m pcF Ls S)) : own_W p e below K T (mkF m pc Ls (.int y :: .int x :: S)) := own_icmp X hx pcT pcF (x < y) (fun q => (tlt q).1) (fun q => (flt q).1) hd ho hp hp' kT kF
theorem own_if_lt (X : Stand p l e R s m args below meth c T locs cells slots) (hx : p.tables.exec = Jvm.exec) {x : Int32} {o : Int} (pcT pcF : Nat) (hd : decode c.code pc = .ok (.ifCond .lt o, 3)) (ho : 0 ≤ (pc : Int) + o) (hp : ((pc : Int) + o).toNat = pcT) (hp' : pc + 3 = pcF) (kT : x < 0 → own_W p e below K T (mkF m pcT Ls S)) (kF : ¬ x < 0 → own_W p e below K T (mkF m pcF Ls S)) : own_W p e below K T (mkF m pc Ls (.int x :: S)) := own_if X hx pcT pcF (x < 0) (fun q => (tlt q).1) (fun q => (flt q).1) hd ho hp hp' kT kF
theorem own_lif_lt (X : Stand p l e R s m args below meth c T locs cells slots) (hx : p.tables.exec = Jvm.exec) {x y : Int64} {o : Int} (pc1 pcT pcF : Nat) (hd1 : decode c.code pc = .ok (.lcmp, 1)) (hp1 : pc + 1 = pc1) (hd : decode c.code pc1 = .ok (.ifCond .lt o, 3)) (ho : 0 ≤ (pc1 : Int) + o) (hp : ((pc1 : Int) + o).toNat = pcT) (hp' : pc1 + 3 = pcF) (kT : x < y → own_W p e below K T (mkF m pcT Ls S)) (kF : ¬ x < y → own_W p e below K T (mkF m pcF Ls S)) : own_W p e below K T (mkF m pc Ls (.long y :: .long x :: S)) := own_lcmp X hx pc1 hd1 hp1 (own_if_lt X hx pcT pcF hd ho hp hp' (fun q => kT ((lw_lt x y).mp q)) (fun q => kF (fun r => q ((lw_lt x y).mpr r))))
theorem own_icmp_ge (X : Stand p l e R s m args below meth c T locs cells slots) (hx : p.tables.exec = Jvm.exec) {x y : Int32} {o : Int} (pcT pcF : Nat) (hd : decode c.code pc = .ok (.if_icmp .ge o, 3)) (ho : 0 ≤ (pc : Int) + o) (hp : ((pc : Int) + o).toNat = pcT) (hp' : pc + 3 = pcF) (kT : ¬ x < y → own_W p e below K T (mkF m pcT Ls S)) (kF : x < y → own_W p e below K T (mkF m pcF Ls S)) : own_W p e below K T (mkF m pc Ls (.int y :: .int x :: S)) := own_icmp X hx pcT pcF (¬ x < y) (fun q => (flt q).2.1) (fun q => (tlt (Decidable.not_not.mp q)).2.1) hd ho hp hp' kT (fun q => kF (Decidable.not_not.mp q))
theorem own_if_ge (X : Stand p l e R s m args below meth c T locs cells slots) (hx : p.tables.exec = Jvm.exec) {x : Int32} {o : Int} (pcT pcF : Nat) (hd : decode c.code pc = .ok (.ifCond .ge o, 3)) (ho : 0 ≤ (pc : Int) + o) (hp : ((pc : Int) + o).toNat = pcT) (hp' : pc + 3 = pcF) (kT : ¬ x < 0 → own_W p e below K T (mkF m pcT Ls S)) (kF : x < 0 → own_W p e below K T (mkF m pcF Ls S)) : own_W p e below K T (mkF m pc Ls (.int x :: S)) := own_if X hx pcT pcF (¬ x < 0) (fun q => (flt q).2.1) (fun q => (tlt (Decidable.not_not.mp q)).2.1) hd ho hp hp' kT (fun q => kF (Decidable.not_not.mp q))
theorem own_lif_ge (X : Stand p l e R s m args below meth c T locs cells slots) (hx : p.tables.exec = Jvm.exec) {x y : Int64} {o : Int} (pc1 pcT pcF : Nat) (hd1 : decode c.code pc = .ok (.lcmp, 1)) (hp1 : pc + 1 = pc1) (hd : decode c.code pc1 = .ok (.ifCond .ge o, 3)) (ho : 0 ≤ (pc1 : Int) + o) (hp : ((pc1 : Int) + o).toNat = pcT) (hp' : pc1 + 3 = pcF) (kT : ¬ x < y → own_W p e below K T (mkF m pcT Ls S)) (kF : x < y → own_W p e below K T (mkF m pcF Ls S)) : own_W p e below K T (mkF m pc Ls (.long y :: .long x :: S)) := own_lcmp X hx pc1 hd1 hp1 (own_if_ge X hx pcT pcF hd ho hp hp' (fun q => kT (fun r => q ((lw_lt x y).mpr r))) (fun q => kF ((lw_lt x y).mp q)))
theorem own_icmp_gt (X : Stand p l e R s m args below meth c T locs cells slots) (hx : p.tables.exec = Jvm.exec) {x y : Int32} {o : Int} (pcT pcF : Nat) (hd : decode c.code pc = .ok (.if_icmp .gt o, 3)) (ho : 0 ≤ (pc : Int) + o) (hp : ((pc : Int) + o).toNat = pcT) (hp' : pc + 3 = pcF) (kT : y < x → own_W p e below K T (mkF m pcT Ls S)) (kF : ¬ y < x → own_W p e below K T (mkF m pcF Ls S)) : own_W p e below K T (mkF m pc Ls (.int y :: .int x :: S)) := own_icmp X hx pcT pcF (y < x) (fun q => (tlt q).2.2.1) (fun q => (flt q).2.2.1) hd ho hp hp' kT kF
theorem own_if_gt (X : Stand p l e R s m args below meth c T locs cells slots) (hx : p.tables.exec = Jvm.exec) {x : Int32} {o : Int} (pcT pcF : Nat) (hd : decode c.code pc = .ok (.ifCond .gt o, 3)) (ho : 0 ≤ (pc : Int) + o) (hp : ((pc : Int) + o).toNat = pcT) (hp' : pc + 3 = pcF) (kT : 0 < x → own_W p e below K T (mkF m pcT Ls S)) (kF : ¬ 0 < x → own_W p e below K T (mkF m pcF Ls S)) : own_W p e below K T (mkF m pc Ls (.int x :: S)) := own_if X hx pcT pcF (0 < x) (fun q => (tlt q).2.2.1) (fun q => (flt q).2.2.1) hd ho hp hp' kT kF
theorem own_lif_gt (X : Stand p l e R s m args below meth c T locs cells slots) (hx : p.tables.exec = Jvm.exec) {x y : Int64} {o : Int} (pc1 pcT pcF : Nat) (hd1 : decode c.code pc = .ok (.lcmp, 1)) (hp1 : pc + 1 = pc1) (hd : decode c.code pc1 = .ok (.ifCond .gt o, 3)) (ho : 0 ≤ (pc1 : Int) + o) (hp : ((pc1 : Int) + o).toNat = pcT) (hp' : pc1 + 3 = pcF) (kT : y < x → own_W p e below K T (mkF m pcT Ls S)) (kF : ¬ y < x → own_W p e below K T (mkF m pcF Ls S)) : own_W p e below K T (mkF m pc Ls (.long y :: .long x :: S)) := own_lcmp X hx pc1 hd1 hp1 (own_if_gt X hx pcT pcF hd ho hp hp' (fun q => kT ((lw_gt x y).mp q)) (fun q => kF (fun r => q ((lw_gt x y).mpr r))))
theorem own_icmp_le (X : Stand p l e R s m args below meth c T locs cells slots) (hx : p.tables.exec = Jvm.exec) {x y : Int32} {o : Int} (pcT pcF : Nat) (hd : decode c.code pc = .ok (.if_icmp .le o, 3)) (ho : 0 ≤ (pc : Int) + o) (hp : ((pc : Int) + o).toNat = pcT) (hp' : pc + 3 = pcF) (kT : ¬ y < x → own_W p e below K T (mkF m pcT Ls S)) (kF : y < x → own_W p e below K T (mkF m pcF Ls S)) : own_W p e below K T (mkF m pc Ls (.int y :: .int x :: S)) := own_icmp X hx pcT pcF (¬ y < x) (fun q => (flt q).2.2.2) (fun q => (tlt (Decidable.not_not.mp q)).2.2.2) hd ho hp hp' kT (fun q => kF (Decidable.not_not.mp q))
theorem own_if_le (X : Stand p l e R s m args below meth c T locs cells slots) (hx : p.tables.exec = Jvm.exec) {x : Int32} {o : Int} (pcT pcF : Nat) (hd : decode c.code pc = .ok (.ifCond .le o, 3)) (ho : 0 ≤ (pc : Int) + o) (hp : ((pc : Int) + o).toNat = pcT) (hp' : pc + 3 = pcF) (kT : ¬ 0 < x → own_W p e below K T (mkF m pcT Ls S)) (kF : 0 < x → own_W p e below K T (mkF m pcF Ls S)) : own_W p e below K T (mkF m pc Ls (.int x :: S)) := own_if X hx pcT pcF (¬ 0 < x) (fun q => (flt q).2.2.2) (fun q => (tlt (Decidable.not_not.mp q)).2.2.2) hd ho hp hp' kT (fun q => kF (Decidable.not_not.mp q))
theorem own_lif_le (X : Stand p l e R s m args below meth c T locs cells slots) (hx : p.tables.exec = Jvm.exec) {x y : Int64} {o : Int} (pc1 pcT pcF : Nat) (hd1 : decode c.code pc = .ok (.lcmp, 1)) (hp1 : pc + 1 = pc1) (hd : decode c.code pc1 = .ok (.ifCond .le o, 3)) (ho : 0 ≤ (pc1 : Int) + o) (hp : ((pc1 : Int) + o).toNat = pcT) (hp' : pc1 + 3 = pcF) (kT : ¬ y < x → own_W p e below K T (mkF m pcT Ls S)) (kF : y < x → own_W p e below K T (mkF m pcF Ls S)) : own_W p e below K T (mkF m pc Ls (.long y :: .long x :: S)) := own_lcmp X hx pc1 hd1 hp1 (own_if_le X hx pcT pcF hd ho hp hp' (fun q => kT (fun r => q ((lw_gt x y).mpr r))) (fun q => kF ((lw_gt x y).mp q)))
theorem own_icmp_eq (X : Stand p l e R s m args below meth c T locs cells slots) (hx : p.tables.exec = Jvm.exec) {x y : Int32} {o : Int} (pcT pcF : Nat) (hd : decode c.code pc = .ok (.if_icmp .eq o, 3)) (ho : 0 ≤ (pc : Int) + o) (hp : ((pc : Int) + o).toNat = pcT) (hp' : pc + 3 = pcF) (kT : x = y → own_W p e below K T (mkF m pcT Ls S)) (kF : ¬ x = y → own_W p e below K T (mkF m pcF Ls S)) : own_W p e below K T (mkF m pc Ls (.int y :: .int x :: S)) := own_icmp X hx pcT pcF (x = y) (fun q => (teq q).1) (fun q => (feq q).1) hd ho hp hp' kT kF
theorem own_if_eq (X : Stand p l e R s m args below meth c T locs cells slots) (hx : p.tables.exec = Jvm.exec) {x : Int32} {o : Int} (pcT pcF : Nat) (hd : decode c.code pc = .ok (.ifCond .eq o, 3)) (ho : 0 ≤ (pc : Int) + o) (hp : ((pc : Int) + o).toNat = pcT) (hp' : pc + 3 = pcF) (kT : x = 0 → own_W p e below K T (mkF m pcT Ls S)) (kF : ¬ x = 0 → own_W p e below K T (mkF m pcF Ls S)) : own_W p e below K T (mkF m pc Ls (.int x :: S)) := own_if X hx pcT pcF (x = 0) (fun q => (teq q).1) (fun q => (feq q).1) hd ho hp hp' kT kF
theorem own_lif_eq (X : Stand p l e R s m args below meth c T locs cells slots) (hx : p.tables.exec = Jvm.exec) {x y : Int64} {o : Int} (pc1 pcT pcF : Nat) (hd1 : decode c.code pc = .ok (.lcmp, 1)) (hp1 : pc + 1 = pc1) (hd : decode c.code pc1 = .ok (.ifCond .eq o, 3)) (ho : 0 ≤ (pc1 : Int) + o) (hp : ((pc1 : Int) + o).toNat = pcT) (hp' : pc1 + 3 = pcF) (kT : x = y → own_W p e below K T (mkF m pcT Ls S)) (kF : ¬ x = y → own_W p e below K T (mkF m pcF Ls S)) : own_W p e below K T (mkF m pc Ls (.long y :: .long x :: S)) := own_lcmp X hx pc1 hd1 hp1 (own_if_eq X hx pcT pcF hd ho hp hp' (fun q => kT ((lw_eq x y).mp q)) (fun q => kF (fun r => q ((lw_eq x y).mpr r))))
theorem own_icmp_ne (X : Stand p l e R s m args below meth c T locs cells slots) (hx : p.tables.exec = Jvm.exec) {x y : Int32} {o : Int} (pcT pcF : Nat) (hd : decode c.code pc = .ok (.if_icmp .ne o, 3)) (ho : 0 ≤ (pc : Int) + o) (hp : ((pc : Int) + o).toNat = pcT) (hp' : pc + 3 = pcF) (kT : ¬ x = y → own_W p e below K T (mkF m pcT Ls S)) (kF : x = y → own_W p e below K T (mkF m pcF Ls S)) : own_W p e below K T (mkF m pc Ls (.int y :: .int x :: S)) := own_icmp X hx pcT pcF (¬ x = y) (fun q => (feq q).2) (fun q => (teq (Decidable.not_not.mp q)).2) hd ho hp hp' kT (fun q => kF (Decidable.not_not.mp q))
theorem own_if_ne (X : Stand p l e R s m args below meth c T locs cells slots) (hx : p.tables.exec = Jvm.exec) {x : Int32} {o : Int} (pcT pcF : Nat) (hd : decode c.code pc = .ok (.ifCond .ne o, 3)) (ho : 0 ≤ (pc : Int) + o) (hp : ((pc : Int) + o).toNat = pcT) (hp' : pc + 3 = pcF) (kT : ¬ x = 0 → own_W p e below K T (mkF m pcT Ls S)) (kF : x = 0 → own_W p e below K T (mkF m pcF Ls S)) : own_W p e below K T (mkF m pc Ls (.int x :: S)) := own_if X hx pcT pcF (¬ x = 0) (fun q => (feq q).2) (fun q => (teq (Decidable.not_not.mp q)).2) hd ho hp hp' kT (fun q => kF (Decidable.not_not.mp q))
theorem own_lif_ne (X : Stand p l e R s m args below meth c T locs cells slots) (hx : p.tables.exec = Jvm.exec) {x y : Int64} {o : Int} (pc1 pcT pcF : Nat) (hd1 : decode c.code pc = .ok (.lcmp, 1)) (hp1 : pc + 1 = pc1) (hd : decode c.code pc1 = .ok (.ifCond .ne o, 3)) (ho : 0 ≤ (pc1 : Int) + o) (hp : ((pc1 : Int) + o).toNat = pcT) (hp' : pc1 + 3 = pcF) (kT : ¬ x = y → own_W p e below K T (mkF m pcT Ls S)) (kF : x = y → own_W p e below K T (mkF m pcF Ls S)) : own_W p e below K T (mkF m pc Ls (.long y :: .long x :: S)) := own_lcmp X hx pc1 hd1 hp1 (own_if_ne X hx pcT pcF hd ho hp hp' (fun q => kT (fun r => q ((lw_eq x y).mpr r))) (fun q => kF ((lw_eq x y).mp q)))
end Plain
section Rets
theorem own_retI (X : Stand p l e R s m args below meth c T locs cells slots) (hx : p.tables.exec = Jvm.exec) {z : Int32} (hret : meth.sig.returnType = some .int) (hlk : meth.locks = false) (hd : decode c.code pc = .ok (.ireturn, 1)) (hc : cells ≤ R.cells) (hl : slots ≤ R.slots) (q : Q (some (.int z)) T.heap locs) : own_W p e below (own_K s R Q) T (mkF m pc Ls (.int z :: S)) := by
  obtain ⟨fs, hr, hrun, hended, hW, hsame⟩ := X.leave (v := some (.int z)) (fun h => by rw [hret] at h; cases h) hlk
  exact ⟨_, _, retI X hx hret hd hr, hrun, hended, _, _, rfl, q, ⟨_, rfl⟩, hW, hsame.mono hc hl⟩
theorem own_retZ (X : Stand p l e R s m args below meth c T locs cells slots) (hx : p.tables.exec = Jvm.exec) {z : Int32} (z' : Int32) (hz : z &&& 1 = z') (hret : meth.sig.returnType = some .boolean) (hlk : meth.locks = false) (hd : decode c.code pc = .ok (.ireturn, 1)) (hc : cells ≤ R.cells) (hl : slots ≤ R.slots) (q : Q (some (.int z')) T.heap locs) : own_W p e below (own_K s R Q) T (mkF m pc Ls (.int z :: S)) := by
  subst hz
  obtain ⟨fs, hr, hrun, hended, hW, hsame⟩ := X.leave (v := some (.int (nar .boolean z))) (fun h => by rw [hret] at h; cases h) hlk
  exact ⟨_, _, retN X hx (t := .boolean) hret (by simp) hd hr, hrun, hended, _, _, rfl, q, ⟨_, rfl⟩, hW, hsame.mono hc hl⟩
theorem own_retJ (X : Stand p l e R s m args below meth c T locs cells slots) (hx : p.tables.exec = Jvm.exec) {z : Int64} (hret : meth.sig.returnType = some .long) (hlk : meth.locks = false) (hd : decode c.code pc = .ok (.lreturn, 1)) (hc : cells ≤ R.cells) (hl : slots ≤ R.slots) (q : Q (some (.long z)) T.heap locs) : own_W p e below (own_K s R Q) T (mkF m pc Ls [.long z]) := by
  obtain ⟨fs, hr, hrun, hended, hW, hsame⟩ := X.leave (v := some (.long z)) (fun h => by rw [hret] at h; cases h) hlk
  exact ⟨_, _, X.lreturnOut hx hret hd hr, hrun, hended, _, _, rfl, q, ⟨_, rfl⟩, hW, hsame.mono hc hl⟩
theorem own_retA (X : Stand p l e R s m args below meth c T locs cells slots) (hx : p.tables.exec = Jvm.exec) {z : Addr} {t : FieldType} (hret : meth.sig.returnType = some t) (ht : t.isReference = true) (hlk : meth.locks = false) (hd : decode c.code pc = .ok (.areturn, 1)) (hc : cells ≤ R.cells) (hl : slots ≤ R.slots) (q : Q (some (.ref z)) T.heap locs) : own_W p e below (own_K s R Q) T (mkF m pc Ls [.ref z]) := by
  obtain ⟨fs, hr, hrun, hended, hW, hsame⟩ := X.leave (v := some (.ref z)) (fun h => by rw [hret] at h; cases h) hlk
  exact ⟨_, _, X.areturnOut hx rfl hret ht hd hr, hrun, hended, _, _, rfl, q, ⟨_, rfl⟩, hW, hsame.mono hc hl⟩
theorem own_retV (X : Stand p l e R s m args below meth c T locs cells slots) (hx : p.tables.exec = Jvm.exec) (hret : meth.sig.returnType = none) (hlk : meth.locks = false) (hd : decode c.code pc = .ok (.return_, 1)) (hc : cells ≤ R.cells) (hl : slots ≤ R.slots) (q : Q none T.heap locs) : own_W p e below (own_K s R Q) T (mkF m pc Ls []) := by
  obtain ⟨fs, hr, hrun, hended, hW, hsame⟩ := X.leave (v := none) (fun _ => rfl) hlk
  exact ⟨_, _, X.returnOut hx hret hd hr, hrun, hended, _, _, rfl, q, ⟨_, rfl⟩, hW, hsame.mono hc hl⟩
end Rets
section Heaps
theorem own_getF (X : Stand p l e R s m args below meth c T locs cells slots) (hx : p.tables.exec = Jvm.exec) (hZ : Z.Warmed39 s.vm) (hown : s.vm.findClass own = some m.cls) (eT : T.heap = h) {O n d : String} {a : Addr} {v : Value} (pc' : Nat) (w : (Jvm.Cond.fieldLink own index O n d).before a0 Z = true) (F : Fld Z h a O n d v) (hd : decode c.code pc = .ok (.getfield index, 3)) (hp : pc + 3 = pc')
    (k : ∀ T', Stand p l e R s m args below meth c T' locs cells slots → T'.heap = h → own_W p e below K T' (mkF m pc' Ls (v :: S))) : own_W p e below K T (mkF m pc Ls (.ref a :: S)) := by
  subst hp
  obtain ⟨T', X', e', st⟩ := getF X hx hZ hown (host := "") (Or.inl w) Via.refl eT F (g := mkF m pc Ls (.ref a :: S)) rfl rfl hd
  exact own_s st (k T' X' e')
theorem own_putF (X : Stand p l e R s m args below meth c T locs cells slots) (hx : p.tables.exec = Jvm.exec) (hZ : Z.Warmed39 s.vm) (hown : s.vm.findClass own = some m.cls) (eT : T.heap = h) {O n d C : String} {a : Addr} {v old : Value} {kk : Nat} {ty : FieldType} (pc' : Nat) (w : (Jvm.Cond.fieldLink own index O n d).before a0 Z = true) (F : Fld Z h a O n d old) (E : Exa Z h a C) (L : (Jvm.Cond.lays C O n d).before a0 Z = true ∨ ((Jvm.Cond.laysFinal C O n d).before a0 Z = true ∧ own = O ∧ meth.name = "<init>")) (wi : (Jvm.Cond.instantiable C kk).before a0 Z = true)
    (hty : parseFieldDescriptor d = some ty) (hn : narrow ty v = v) (hf : fits ty v = true) (hd : decode c.code pc = .ok (.putfield index, 3)) (hp : pc + 3 = pc')
    (k : ∀ T' h', Stand p l e R s m args below meth c T' (locs ++ [⟨a, Jvm.RoadKit.slotOf Z O n d⟩]) cells slots → T'.heap = h' → Wr h h' a (Jvm.RoadKit.slotOf Z O n d) v → own_W p e below K T' (mkF m pc' Ls S)) : own_W p e below K T (mkF m pc Ls (v :: .ref a :: S)) := by
  subst hp
  obtain ⟨T', h', X', e', W, st⟩ := putF X hx hZ hown (host := "") (Or.inl w) Via.refl eT F E L wi hty hn hf (g := mkF m pc Ls (v :: .ref a :: S)) rfl rfl hd
  exact own_s st (k T' h' X' e' W)
theorem own_putZ (X : Stand p l e R s m args below meth c T locs cells slots) (hx : p.tables.exec = Jvm.exec) (hZ : Z.Warmed39 s.vm) (hown : s.vm.findClass own = some m.cls) (eT : T.heap = h) {O n d C : String} {a : Addr} {v : Int32} {old : Value} {kk : Nat} (pc' : Nat) (w : (Jvm.Cond.fieldLink own index O n d).before a0 Z = true) (F : Fld Z h a O n d old) (E : Exa Z h a C) (L : (Jvm.Cond.lays C O n d).before a0 Z = true ∨ ((Jvm.Cond.laysFinal C O n d).before a0 Z = true ∧ own = O ∧ meth.name = "<init>")) (wi : (Jvm.Cond.instantiable C kk).before a0 Z = true)
    (hty : parseFieldDescriptor d = some .boolean) (hd : decode c.code pc = .ok (.putfield index, 3)) (hp : pc + 3 = pc')
    (k : ∀ T' h', Stand p l e R s m args below meth c T' (locs ++ [⟨a, Jvm.RoadKit.slotOf Z O n d⟩]) cells slots → T'.heap = h' → Wr h h' a (Jvm.RoadKit.slotOf Z O n d) (.int (v &&& 1)) → own_W p e below K T' (mkF m pc' Ls S)) : own_W p e below K T (mkF m pc Ls (.int v :: .ref a :: S)) := by
  subst hp
  obtain ⟨T', h', X', e', W, st⟩ := putFN X hx hZ hown w Via.refl eT F E L wi (ty := .boolean) (v' := .int (nar .boolean v)) hty rfl (fits_nar_bool _) (g := mkF m pc Ls (.int v :: .ref a :: S)) rfl rfl hd
  exact own_s st (k T' h' X' e' W)
theorem own_new (X : Stand p l e R s m args below meth c T locs cells slots) (hx : p.tables.exec = Jvm.exec) (hZ : Z.Warmed39 s.vm) (hown : s.vm.findClass own = some m.cls) (eT : T.heap = h) {C : String} {n : Nat} (pc' : Nat) (w : (Jvm.Cond.classLink own index C).before a0 Z = true) (wi : (Jvm.Cond.instantiable C n).before a0 Z = true) (wz : (Jvm.Cond.initialized C).before a0 Z = true) (hd : decode c.code pc = .ok (.new index, 3)) (hp : pc + 3 = pc') (hc : cells + 1 ≤ R.cells) (hl : slots + n ≤ R.slots)
    (k : ∀ T' h' a, Stand p l e R s m args below meth c T' locs (cells + 1) (slots + n) → T'.heap = h' → a = h.size → Ext h h' → Exa Z h' a C → (∀ {O nm d : String} {ty : FieldType}, Laid Z a0 C O nm d → parseFieldDescriptor d = some ty → Fld Z h' a O nm d (defaultValue ty)) → own_W p e below K T' (mkF m pc' Ls (.ref a :: S))) : own_W p e below K T (mkF m pc Ls S) := by
  subst hp
  obtain ⟨T', h', X', e', E, A, D, -, st⟩ := newO X hx hZ hown w wi wz eT (g := mkF m pc Ls S) rfl hd hc hl
  exact own_s st (k T' h' _ X' e' rfl E A D)
theorem own_initO (X : Stand p l e R s m args below meth c T locs cells slots) (hx : p.tables.exec = Jvm.exec) (hZ : Z.Warmed39 s.vm) (hown : s.vm.findClass own = some m.cls) (eT : T.heap = h) {a : Addr} {W : Nat} (pc' : Nat) (w1 : (Jvm.Cond.methodLink own index Lib.objectInit).before a0 Z = true) (w2 : (Jvm.Cond.instanceMethod Lib.objectInit).before a0 Z = true) (w3 : (Jvm.Cond.code Lib.objectInit ⟨#[0xb1]⟩ 1 none).before a0 Z = true) (hsize : Ls.size = c.maxLocals) (hd : decode c.code pc = .ok (.invokespecial index, 3)) (hp : pc + 3 = pc')
    (hf : 1 ≤ R.frames) (hW : (S.map fun v => v.category).sum = W) (hl : W + 12 ≤ R.locals)
    (k : ∀ T', Stand p l e R s m args below meth c T' locs cells slots → T'.heap = h → own_W p e below K T' (mkF m pc' Ls S)) : own_W p e below K T (mkF m pc Ls (.ref a :: S)) := by
  subst hp
  obtain ⟨T', X', e', st⟩ := initO X hx hZ hown w1 w2 w3 eT (g := mkF m pc Ls (.ref a :: S)) rfl hsize rfl hd hf (W := W) (by show 2 * 0 + _ ≤ _; rw [hW]; omega) hl
  exact own_s st (k T' X' e')
theorem own_callS (X : Stand p l e R s m args below meth c T locs cells slots) (hx : p.tables.exec = Jvm.exec) (hZ : Z.Warmed39 s.vm) (hown : s.vm.findClass own = some m.cls) (eT : T.heap = h) {argsL rest : List Value} {W : Nat} (pc' : Nat) (hM : own_C l Z y bytes maxL ret [] rm argsL.toArray h Q) (w1 : (Jvm.Cond.methodLink own index y).before a0 Z = true) (w2 : (Jvm.Cond.static y).before a0 Z = true) (w3 : (Jvm.Cond.initialized y.cls).before a0 Z = true) (w4 : (Jvm.Cond.code y bytes maxL ret).before a0 Z = true)
    (hy : y.cls ≠ "java/lang/invoke/MethodHandle" ∧ y.cls ≠ "java/lang/invoke/VarHandle") (hsize : Ls.size = c.maxLocals) (hlen : ∀ sig, parseMethodDescriptor y.desc = some sig → argsL.length = sig.parameters.length) (hst : S = argsL.reverse ++ rest) (hd : decode c.code pc = .ok (.invokestatic index, 3)) (hp : pc + 3 = pc')
    (hW : (rest.map fun v => v.category).sum = W) (hf : rm.frames + 1 ≤ R.frames) (hl : W + (maxL + 11) + rm.locals ≤ R.locals) (hc : cells + rm.cells ≤ R.cells) (hs : slots + rm.slots ≤ R.slots)
    (k : ∀ v T' L, Stand p l e R s m args below meth c T' (locs ++ L) (cells + rm.cells) (slots + rm.slots) → Q v T'.heap L → own_W p e below K T' (mkF m pc' Ls (v.toList ++ rest))) : own_W p e below K T (mkF m pc Ls S) := by
  subst hp hst
  obtain ⟨v, vm₁, ⟨T', L', k', n'⟩, -, X', ⟨L, hQ, l1, y1, z1⟩, st⟩ := Jvm.LawKit.callS X hx (y := y) hown (mvT hZ w1) (mvT hZ w2) (mvT hZ w3) (mvT hZ w4) hy (backOf (W := W) hM hZ w4 w3 hf hl) (g := mkF m pc Ls (argsL.reverse ++ rest)) rfl hsize (argsL := argsL) (rest := rest) hlen rfl (by show 2 * 0 + _ ≤ _; rw [hW]; omega) hd (fun _ _ => ⟨rfl, eT, hc, hs⟩)
  dsimp only [Pt.U, Pt.locs, Pt.cells, Pt.slots] at X' l1 y1 z1 st hQ
  subst l1 y1 z1
  exact own_s st (k v T' L X' hQ)
theorem own_callI (X : Stand p l e R s m args below meth c T locs cells slots) (hx : p.tables.exec = Jvm.exec) (hZ : Z.Warmed39 s.vm) (hown : s.vm.findClass own = some m.cls) (eT : T.heap = h) {a : Addr} {argsL rest : List Value} {W : Nat} (pc' : Nat) (hM : own_C l Z y bytes maxL none [] rm (.ref a :: argsL).toArray h Q) (hn : y.name = "<init>") (w1 : (Jvm.Cond.methodLink own index y).before a0 Z = true) (w2 : (Jvm.Cond.instanceMethod y).before a0 Z = true) (w3 : (Jvm.Cond.initialized y.cls).before a0 Z = true) (w4 : (Jvm.Cond.code y bytes maxL none).before a0 Z = true)
    (hy : y.cls ≠ "java/lang/invoke/MethodHandle" ∧ y.cls ≠ "java/lang/invoke/VarHandle") (hsize : Ls.size = c.maxLocals) (hlen : ∀ sig, parseMethodDescriptor y.desc = some sig → argsL.length = sig.parameters.length) (hst : S = argsL.reverse ++ .ref a :: rest) (hd : decode c.code pc = .ok (.invokespecial index, 3)) (hp : pc + 3 = pc')
    (hW : (rest.map fun v => v.category).sum = W) (hf : rm.frames + 1 ≤ R.frames) (hl : W + (maxL + 11) + rm.locals ≤ R.locals) (hc : cells + rm.cells ≤ R.cells) (hs : slots + rm.slots ≤ R.slots)
    (k : ∀ v T' L, Stand p l e R s m args below meth c T' (locs ++ L) (cells + rm.cells) (slots + rm.slots) → Q v T'.heap L → own_W p e below K T' (mkF m pc' Ls (v.toList ++ rest))) : own_W p e below K T (mkF m pc Ls S) := by
  subst hp hst
  obtain ⟨v, vm₁, ⟨T', L', k', n'⟩, -, X', ⟨L, hQ, l1, y1, z1⟩, st⟩ := X.specialBack hx (y := y) hn hown (mvT hZ w1) (mvT hZ w2) (mvT hZ w4) hy (backOf (W := W) hM hZ w4 w3 hf hl) (g := mkF m pc Ls (argsL.reverse ++ .ref a :: rest)) rfl hsize (Steps.refl _) (a := a) (argsL := argsL) (rest := rest) hlen rfl (by show 2 * 0 + _ ≤ _; rw [hW]; omega) hd (fun _ _ => ⟨rfl, eT, hc, hs⟩)
  dsimp only [Pt.U, Pt.locs, Pt.cells, Pt.slots] at X' l1 y1 z1 st hQ
  subst l1 y1 z1
  exact own_s' st (k v T' L X' hQ)
theorem own_callV (X : Stand p l e R s m args below meth c T locs cells slots) (hx : p.tables.exec = Jvm.exec) (hZ : Z.Warmed39 s.vm) (hown : s.vm.findClass own = some m.cls) (eT : T.heap = h) {a : Addr} {argsL rest : List Value} {W : Nat} (pc' : Nat) (hM : own_C l Z y bytes maxL ret [] rm (.ref a :: argsL).toArray h Q) (E : Exa Z h a y.cls) (w1 : (Jvm.Cond.methodLink own index y).before a0 Z = true) (w2 : (Jvm.Cond.declares y).before a0 Z = true) (w5 : (Jvm.Cond.selects y.cls y y).before a0 Z = true) (w6 : (Jvm.Cond.instanceMethod y).before a0 Z = true) (w3 : (Jvm.Cond.initialized y.cls).before a0 Z = true) (w4 : (Jvm.Cond.code y bytes maxL ret).before a0 Z = true)
    (hy : y.cls ≠ "java/lang/invoke/MethodHandle" ∧ y.cls ≠ "java/lang/invoke/VarHandle") (hsize : Ls.size = c.maxLocals) (hlen : ∀ sig, parseMethodDescriptor y.desc = some sig → argsL.length = sig.parameters.length) (hst : S = argsL.reverse ++ .ref a :: rest) (hd : decode c.code pc = .ok (.invokevirtual index, 3)) (hp : pc + 3 = pc')
    (hW : (rest.map fun v => v.category).sum = W) (hf : rm.frames + 1 ≤ R.frames) (hl : W + (maxL + 11) + rm.locals ≤ R.locals) (hc : cells + rm.cells ≤ R.cells) (hs : slots + rm.slots ≤ R.slots)
    (k : ∀ v T' L, Stand p l e R s m args below meth c T' (locs ++ L) (cells + rm.cells) (slots + rm.slots) → Q v T'.heap L → own_W p e below K T' (mkF m pc' Ls (v.toList ++ rest))) : own_W p e below K T (mkF m pc Ls S) := by
  subst hp hst
  obtain ⟨cq, kq, qa, qb, qc⟩ := isOf hZ eT E
  obtain ⟨v, vm₁, ⟨T', L', k', n'⟩, -, X', ⟨L, hQ, l1, y1, z1⟩, st⟩ := X.virtualBack hx (y := y) (z := y) hown (mvT hZ w1) (mvT hZ w2) (notFace_of_selects (args := #[]) (mvT hZ w5)) (mvT hZ w5) (mvT hZ w6) hy (backOf (W := W) hM hZ w4 w3 hf hl) qa qc (g := mkF m pc Ls (argsL.reverse ++ .ref a :: rest)) rfl hsize (Steps.refl _) (argsL := argsL) (rest := rest) hlen rfl (by show 2 * 0 + _ ≤ _; rw [hW]; omega) hd (fun _ _ => ⟨rfl, eT, hc, hs⟩)
  dsimp only [Pt.U, Pt.locs, Pt.cells, Pt.slots] at X' l1 y1 z1 st hQ
  subst l1 y1 z1
  exact own_s' st (k v T' L X' hQ)
/-- an array of ints (bytes, booleans): n places, place j holds f j -/
def own_AI (Z : State) (h : Heap) (a : Addr) (ty : FieldType) (n : Nat) (f : Nat → Int32) : Prop := ∃ c : Cell, Arr Z h a c ty ∧ c.slots.size = n ∧ ∀ j, j < n → c.slots[j]? = some (.int (f j))
def own_AJ (Z : State) (h : Heap) (a : Addr) (n : Nat) (f : Nat → Int64) : Prop := ∃ c : Cell, Arr Z h a c .long ∧ c.slots.size = n ∧ ∀ j, j < n → c.slots[j]? = some (.long (f j))
section Arrs
variable {a b : Addr} {n i : Nat} {ty : FieldType} {f : Nat → Int32} {fj : Nat → Int64} {j : Int32} {ws : List Addr} {v : Value} {sl : Nat}
theorem own_AI.lt (A : own_AI Z h a ty n f) : a < h.size := by obtain ⟨c, A, -⟩ := A; exact A.lt
theorem own_AJ.lt (A : own_AJ Z h a n fj) : a < h.size := by obtain ⟨c, A, -⟩ := A; exact A.lt
theorem own_AI.ext (A : own_AI Z h a ty n f) (E : Ext h h') : own_AI Z h' a ty n f := by obtain ⟨c, A, r⟩ := A; exact ⟨c, A.ext E, r⟩
theorem own_AJ.ext (A : own_AJ Z h a n fj) (E : Ext h h') : own_AJ Z h' a n fj := by obtain ⟨c, A, r⟩ := A; exact ⟨c, A.ext E, r⟩
theorem own_AI.other (A : own_AI Z h a ty n f) (W : Wr h h' b sl v) (q : a ≠ b) : own_AI Z h' a ty n f := by obtain ⟨c, A, r⟩ := A; exact ⟨c, A.other W q, r⟩
theorem own_AJ.other (A : own_AJ Z h a n fj) (W : Wr h h' b sl v) (q : a ≠ b) : own_AJ Z h' a n fj := by obtain ⟨c, A, r⟩ := A; exact ⟨c, A.other W q, r⟩
theorem own_AI.keep (A : own_AI Z h a ty n f) (K : Keep h h' ws) (q : a ∉ ws) : own_AI Z h' a ty n f := by obtain ⟨c, A, r⟩ := A; exact ⟨c, ⟨K.2.1 a c A.1 q, A.2⟩, r⟩
theorem own_AJ.keep (A : own_AJ Z h a n fj) (K : Keep h h' ws) (q : a ∉ ws) : own_AJ Z h' a n fj := by obtain ⟨c, A, r⟩ := A; exact ⟨c, ⟨K.2.1 a c A.1 q, A.2⟩, r⟩
theorem own_AI.set {x : Int32} (A : own_AI Z h a ty n f) (W : Wr h h' a i (.int x)) : own_AI Z h' a ty n (fun q => if q = i then x else f q) := by
  obtain ⟨c, A, S, H⟩ := A
  refine ⟨_, A.same W, by rw [sz_set]; exact S, fun q hq => ?_⟩
  by_cases e : q = i
  · subst e; simp [Cell.setSlot, S, hq]
  · simp only [Cell.setSlot, if_neg e]; rw [Array.getElem?_setIfInBounds_ne (Ne.symm e)]; exact H q hq
theorem own_AJ.set {x : Int64} (A : own_AJ Z h a n fj) (W : Wr h h' a i (.long x)) : own_AJ Z h' a n (fun q => if q = i then x else fj q) := by
  obtain ⟨c, A, S, H⟩ := A
  refine ⟨_, A.same W, by rw [sz_set]; exact S, fun q hq => ?_⟩
  by_cases e : q = i
  · subst e; simp [Cell.setSlot, S, hq]
  · simp only [Cell.setSlot, if_neg e]; rw [Array.getElem?_setIfInBounds_ne (Ne.symm e)]; exact H q hq
theorem own_AI.congr {g : Nat → Int32} (A : own_AI Z h a ty n f) (q : ∀ j, j < n → f j = g j) : own_AI Z h a ty n g := by obtain ⟨c, A, S, H⟩ := A; exact ⟨c, A, S, fun j hj => by rw [← q j hj]; exact H j hj⟩
theorem own_AJ.congr {g : Nat → Int64} (A : own_AJ Z h a n fj) (q : ∀ j, j < n → fj j = g j) : own_AJ Z h a n g := by obtain ⟨c, A, S, H⟩ := A; exact ⟨c, A, S, fun j hj => by rw [← q j hj]; exact H j hj⟩
theorem own_nat {j : Int32} {i : Nat} (q : j.toInt = i) : j.toNatClampNeg = i := by show j.toInt.toNat = i; rw [q]; exact Int.toNat_natCast i
theorem own_inb {j : Int32} {i n : Nat} (q : j.toInt = i) (r : i < n) {k : Nat} (e : k = n) : ¬ (j < 0 ∨ k ≤ j.toNatClampNeg) := by
  rw [own_nat q]; rintro (u | u)
  · rw [Int32.lt_iff_toInt_lt] at u; rw [q] at u; have : (0 : Int32).toInt = 0 := rfl; omega
  · omega
theorem own_iaload (X : Stand p l e R s m args below meth c T locs cells slots) (hx : p.tables.exec = Jvm.exec) (hZ : Z.Warmed39 s.vm) (eT : T.heap = h) (pc' : Nat) (i : Nat) (A : own_AI Z h a .int n f) (hj : j.toInt = i) (hi : i < n) (hd : decode c.code pc = .ok (.iaload, 1)) (hp : pc + 1 = pc') (k : own_W p e below K T (mkF m pc' Ls (.int (f i) :: S))) : own_W p e below K T (mkF m pc Ls (.int j :: .ref a :: S)) := by
  subst hp
  obtain ⟨cl, A, Sz, H⟩ := A
  exact own_s (fun t => X.iaload hx (j := j) (by rw [eT]; exact A.1) (State.isArrayOf_alike hZ.alike A.2.1) A.2.2 (own_inb hj hi Sz) (by rw [own_nat hj]; exact H i hi) (g := mkF m pc Ls (.int j :: .ref a :: S)) rfl rfl hd t) k
theorem own_baload (X : Stand p l e R s m args below meth c T locs cells slots) (hx : p.tables.exec = Jvm.exec) (hZ : Z.Warmed39 s.vm) (eT : T.heap = h) (pc' : Nat) (i : Nat) (A : own_AI Z h a .byte n f) (hj : j.toInt = i) (hi : i < n) (hd : decode c.code pc = .ok (.baload, 1)) (hp : pc + 1 = pc') (k : own_W p e below K T (mkF m pc' Ls (.int (f i) :: S))) : own_W p e below K T (mkF m pc Ls (.int j :: .ref a :: S)) := by
  subst hp
  obtain ⟨cl, A, Sz, H⟩ := A
  exact own_s (fun t => X.baloadBytes hx (j := j) (by rw [eT]; exact A.1) (State.isArrayOf_alike hZ.alike A.2.1) A.2.2 (own_inb hj hi Sz) (by rw [own_nat hj]; exact H i hi) (g := mkF m pc Ls (.int j :: .ref a :: S)) rfl rfl hd t) k
theorem own_laload (X : Stand p l e R s m args below meth c T locs cells slots) (hx : p.tables.exec = Jvm.exec) (hZ : Z.Warmed39 s.vm) (eT : T.heap = h) (pc' : Nat) (i : Nat) (A : own_AJ Z h a n fj) (hj : j.toInt = i) (hi : i < n) (hd : decode c.code pc = .ok (.laload, 1)) (hp : pc + 1 = pc') (k : own_W p e below K T (mkF m pc' Ls (.long (fj i) :: S))) : own_W p e below K T (mkF m pc Ls (.int j :: .ref a :: S)) := by
  subst hp
  obtain ⟨cl, A, Sz, H⟩ := A
  exact own_s (fun t => X.laload hx (j := j) (by rw [eT]; exact A.1) (State.isArrayOf_alike hZ.alike A.2.1) A.2.2 (own_inb hj hi Sz) (by rw [own_nat hj]; exact H i hi) (g := mkF m pc Ls (.int j :: .ref a :: S)) rfl rfl hd t) k
theorem own_iastore (X : Stand p l e R s m args below meth c T locs cells slots) (hx : p.tables.exec = Jvm.exec) (hZ : Z.Warmed39 s.vm) (eT : T.heap = h) {x : Int32} (pc' : Nat) (i : Nat) (A : own_AI Z h a .int n f) (hj : j.toInt = i) (hi : i < n) (hd : decode c.code pc = .ok (.iastore, 1)) (hp : pc + 1 = pc')
    (k : ∀ T' h', Stand p l e R s m args below meth c T' (locs ++ [⟨a, i⟩]) cells slots → T'.heap = h' → Wr h h' a i (.int x) → own_W p e below K T' (mkF m pc' Ls S)) : own_W p e below K T (mkF m pc Ls (.int x :: .int j :: .ref a :: S)) := by
  subst hp
  obtain ⟨cl, A, Sz, H⟩ := A
  obtain ⟨T', h', X', e', W, st⟩ := stI X hx hZ eT A (j := j) (own_inb hj hi Sz) (g := mkF m pc Ls (.int x :: .int j :: .ref a :: S)) rfl rfl hd
  rw [own_nat hj] at X' W
  exact own_s st (k T' h' X' e' W)
theorem own_bastore (X : Stand p l e R s m args below meth c T locs cells slots) (hx : p.tables.exec = Jvm.exec) (hZ : Z.Warmed39 s.vm) (eT : T.heap = h) {x : Int32} (pc' : Nat) (i : Nat) (A : own_AI Z h a .byte n f) (hj : j.toInt = i) (hi : i < n) (hd : decode c.code pc = .ok (.bastore, 1)) (hp : pc + 1 = pc')
    (k : ∀ T' h', Stand p l e R s m args below meth c T' (locs ++ [⟨a, i⟩]) cells slots → T'.heap = h' → Wr h h' a i (.int x.toInt8.toInt32) → own_W p e below K T' (mkF m pc' Ls S)) : own_W p e below K T (mkF m pc Ls (.int x :: .int j :: .ref a :: S)) := by
  subst hp
  obtain ⟨cl, A, Sz, H⟩ := A
  obtain ⟨T', h', X', e', W, st⟩ := stB X hx hZ eT A (j := j) (own_inb hj hi Sz) (g := mkF m pc Ls (.int x :: .int j :: .ref a :: S)) rfl rfl hd
  rw [own_nat hj] at X' W
  exact own_s st (k T' h' X' e' W)
theorem own_lastore (X : Stand p l e R s m args below meth c T locs cells slots) (hx : p.tables.exec = Jvm.exec) (hZ : Z.Warmed39 s.vm) (eT : T.heap = h) {x : Int64} (pc' : Nat) (i : Nat) (A : own_AJ Z h a n fj) (hj : j.toInt = i) (hi : i < n) (hd : decode c.code pc = .ok (.lastore, 1)) (hp : pc + 1 = pc')
    (k : ∀ T' h', Stand p l e R s m args below meth c T' (locs ++ [⟨a, i⟩]) cells slots → T'.heap = h' → Wr h h' a i (.long x) → own_W p e below K T' (mkF m pc' Ls S)) : own_W p e below K T (mkF m pc Ls (.long x :: .int j :: .ref a :: S)) := by
  subst hp
  obtain ⟨cl, A, Sz, H⟩ := A
  obtain ⟨T', h', X', e', W, st⟩ := stJ X hx hZ eT A (j := j) (own_inb hj hi Sz) (g := mkF m pc Ls (.long x :: .int j :: .ref a :: S)) rfl rfl hd
  rw [own_nat hj] at X' W
  exact own_s st (k T' h' X' e' W)
theorem own_arraylength (X : Stand p l e R s m args below meth c T locs cells slots) (hx : p.tables.exec = Jvm.exec) (hZ : Z.Warmed39 s.vm) (eT : T.heap = h) (pc' : Nat) {z : Int32} (A : own_AI Z h a ty n f) (hz : z.toInt = n) (hd : decode c.code pc = .ok (.arraylength, 1)) (hp : pc + 1 = pc') (k : own_W p e below K T (mkF m pc' Ls (.int z :: S))) : own_W p e below K T (mkF m pc Ls (.ref a :: S)) := by
  subst hp
  obtain ⟨cl, A, Sz, H⟩ := A
  have q : cl.slots.size.toInt32 = z := len_of (by rw [Sz, own_nat hz]) (fun u => by rw [Int32.lt_iff_toInt_lt, hz] at u; have : (0 : Int32).toInt = 0 := rfl; omega)
  rw [← q] at k
  exact own_s (fun t => X.arraylength hx (by rw [eT]; exact A.1) (State.isArrayOf_alike hZ.alike A.2.1) (g := mkF m pc Ls (.ref a :: S)) rfl rfl hd t) k
theorem own_arraylengthJ (X : Stand p l e R s m args below meth c T locs cells slots) (hx : p.tables.exec = Jvm.exec) (hZ : Z.Warmed39 s.vm) (eT : T.heap = h) (pc' : Nat) {z : Int32} (A : own_AJ Z h a n fj) (hz : z.toInt = n) (hd : decode c.code pc = .ok (.arraylength, 1)) (hp : pc + 1 = pc') (k : own_W p e below K T (mkF m pc' Ls (.int z :: S))) : own_W p e below K T (mkF m pc Ls (.ref a :: S)) := by
  subst hp
  obtain ⟨cl, A, Sz, H⟩ := A
  have q : cl.slots.size.toInt32 = z := len_of (by rw [Sz, own_nat hz]) (fun u => by rw [Int32.lt_iff_toInt_lt, hz] at u; have : (0 : Int32).toInt = 0 := rfl; omega)
  rw [← q] at k
  exact own_s (fun t => X.arraylength hx (by rw [eT]; exact A.1) (State.isArrayOf_alike hZ.alike A.2.1) (g := mkF m pc Ls (.ref a :: S)) rfl rfl hd t) k
theorem own_newI (X : Stand p l e R s m args below meth c T locs cells slots) (hx : p.tables.exec = Jvm.exec) (hZ : Z.Warmed39 s.vm) (eT : T.heap = h) {aty : ArrayType} {z : Int32} {n cap : Nat} (pc' : Nat) (ty : FieldType) (hty : newarray.typeOf aty = ty) (hdef : defaultValue ty = .int 0) (w : (Jvm.Cond.arrayClass ty).before a0 Z = true) (hz : z.toInt = n) (hcap : n ≤ cap) (hb : cap * 8 ≤ 536870912) (hd : decode c.code pc = .ok (.newarray aty, 2)) (hp : pc + 2 = pc') (hc : cells + 1 ≤ R.cells) (hl : slots + cap ≤ R.slots)
    (k : ∀ T' h' a, Stand p l e R s m args below meth c T' locs (cells + 1) (slots + cap) → T'.heap = h' → a = h.size → Ext h h' → own_AI Z h' a ty n (fun _ => 0) → own_W p e below K T' (mkF m pc' Ls (.ref a :: S))) : own_W p e below K T (mkF m pc Ls (.int z :: S)) := by
  subst hp hty
  obtain ⟨T', h', cA, X', e', E, A, st⟩ := newP X hx hZ w eT (g := mkF m pc Ls (.int z :: S)) rfl hd rfl (fun u => by rw [Int32.lt_iff_toInt_lt, hz] at u; have : (0 : Int32).toInt = 0 := rfl; omega) (cap := cap) (by rw [own_nat hz]; exact hcap) hb hc hl
  refine own_s st (k T' h' _ X' e' rfl E ⟨_, A, by rw [sz_new, own_nat hz], fun j hj => ?_⟩)
  simp [newA, own_nat hz, hj, hdef]
theorem own_newJ (X : Stand p l e R s m args below meth c T locs cells slots) (hx : p.tables.exec = Jvm.exec) (hZ : Z.Warmed39 s.vm) (eT : T.heap = h) {z : Int32} {n cap : Nat} (pc' : Nat) (w : (Jvm.Cond.arrayClass .long).before a0 Z = true) (hz : z.toInt = n) (hcap : n ≤ cap) (hb : cap * 8 ≤ 536870912) (hd : decode c.code pc = .ok (.newarray .long, 2)) (hp : pc + 2 = pc') (hc : cells + 1 ≤ R.cells) (hl : slots + cap ≤ R.slots)
    (k : ∀ T' h' a, Stand p l e R s m args below meth c T' locs (cells + 1) (slots + cap) → T'.heap = h' → a = h.size → Ext h h' → own_AJ Z h' a n (fun _ => 0) → own_W p e below K T' (mkF m pc' Ls (.ref a :: S))) : own_W p e below K T (mkF m pc Ls (.int z :: S)) := by
  subst hp
  obtain ⟨T', h', cA, X', e', E, A, st⟩ := newP X hx hZ (aty := .long) w eT (g := mkF m pc Ls (.int z :: S)) rfl hd rfl (fun u => by rw [Int32.lt_iff_toInt_lt, hz] at u; have : (0 : Int32).toInt = 0 := rfl; omega) (cap := cap) (by rw [own_nat hz]; exact hcap) hb hc hl
  refine own_s st (k T' h' _ X' e' rfl E ⟨_, A, by rw [sz_new, own_nat hz], fun j hj => ?_⟩)
  simp [newA, own_nat hz, hj, newarray.typeOf, defaultValue]
end Arrs
end Heaps
end OwnLayer
def own_min (p0 : Int32) (p1 : Int32) : Int32 := (if p1 < p0 then p1 else p0)
def own_pc1 (p0 : Int32) : Int32 := (((((p0.toUInt32 >>> ((3 : Int32) &&& 31).toUInt32).toInt32) &&& (7 : Int32)) % (2 : Int32)) - (1 : Int32))
def own_mf1 (f g : Nat → Int32) (q2 : Int64) : Int32 := (if (f 1) < (0 : Int32) then (0 : Int32) else (((g (f 1).toInt.toNat) + (1 : Int32)) + ((((q2.toUInt64 >>> ((4 : Int32) &&& 0x3f).toInt64.toUInt64).toInt64) &&& (3 : Int64)).toInt32)))
def own_pc2 (p0 : Int32) : Int32 := (((((p0.toUInt32 >>> ((6 : Int32) &&& 31).toUInt32).toInt32) &&& (7 : Int32)) % (3 : Int32)) - (1 : Int32))
def own_mf2 (f g : Nat → Int32) (q2 : Int64) : Int32 := (if (f 2) < (0 : Int32) then (0 : Int32) else (((g (f 2).toInt.toNat) + (1 : Int32)) + ((((q2.toUInt64 >>> ((8 : Int32) &&& 0x3f).toInt64.toUInt64).toInt64) &&& (3 : Int64)).toInt32)))
def own_pc3 (p0 : Int32) : Int32 := (((((p0.toUInt32 >>> ((9 : Int32) &&& 31).toUInt32).toInt32) &&& (7 : Int32)) % (4 : Int32)) - (1 : Int32))
def own_mf3 (f g : Nat → Int32) (q2 : Int64) : Int32 := (if (f 3) < (0 : Int32) then (0 : Int32) else (((g (f 3).toInt.toNat) + (1 : Int32)) + ((((q2.toUInt64 >>> ((12 : Int32) &&& 0x3f).toInt64.toUInt64).toInt64) &&& (3 : Int64)).toInt32)))
def own_pc4 (p0 : Int32) : Int32 := (((((p0.toUInt32 >>> ((12 : Int32) &&& 31).toUInt32).toInt32) &&& (7 : Int32)) % (5 : Int32)) - (1 : Int32))
def own_mf4 (f g : Nat → Int32) (q2 : Int64) : Int32 := (if (f 4) < (0 : Int32) then (0 : Int32) else (((g (f 4).toInt.toNat) + (1 : Int32)) + ((((q2.toUInt64 >>> ((16 : Int32) &&& 0x3f).toInt64.toUInt64).toInt64) &&& (3 : Int64)).toInt32)))
def own_up (par : Nat → Int32) (p1 : Int32) : Int32 := (if p1 < (0 : Int32) then (-1 : Int32) else (par p1.toInt.toNat))
def own_ch (par : Nat → Int32) (c : Int32) : Nat → Int32
  | 0 => c
  | k + 1 => own_up par (own_ch par c k)
def own_ix (f : Nat → Int32) (p1 : Int32) : Int32 := (if p1 < (0 : Int32) then (-1 : Int32) else (if (f 0) = p1 then (0 : Int32) else (if (f 1) = p1 then (1 : Int32) else (if (f 2) = p1 then (2 : Int32) else (if (f 3) = p1 then (3 : Int32) else (if (f 4) = p1 then (4 : Int32) else (-1 : Int32)))))))
def own_ok (par made : Nat → Int32) : Prop := ∀ i : Nat, i < 5 → -1 ≤ (par i).toInt ∧ (par i).toInt < i ∧ ((par i).toInt = -1 → (made i).toInt = 0) ∧ (0 ≤ (par i).toInt → (made (par i).toInt.toNat).toInt < (made i).toInt)
def own_mx : Int32 := 2147483647
def own_ref (made : Nat → Int32) (ca cb : Nat → Int32) (p q : Nat) : Int32 := if 0 < q then own_min (if 0 < p then made (ca (p - 1)).toInt.toNat else own_mx) (made (cb (q - 1)).toInt.toNat) else (if 0 < p then made (ca (p - 1)).toInt.toNat else own_mx)
def own_apart (ca cb : Nat → Int32) (p q : Nat) : Prop := (∀ p', p' < p → ∀ j, ca p' ≠ cb j) ∧ (∀ q', q' < q → ∀ i, cb q' ≠ ca i)
def own_inv (par made : Nat → Int32) (a b : Int32) (p q : Nat) (one two rd : Int32) : Prop := one = own_ch par a p ∧ two = own_ch par b q ∧ own_apart (own_ch par a) (own_ch par b) p q ∧ rd = own_ref made (own_ch par a) (own_ch par b) p q ∧ (0 ≤ one.toInt → ¬ rd < made one.toInt.toNat) ∧ (0 ≤ two.toInt → ¬ rd < made two.toInt.toNat) ∧ (0 ≤ one.toInt ∨ 0 ≤ two.toInt)
def own_out (par made : Nat → Int32) (a b r : Int32) : Prop := (∃ p q, own_ch par a p = own_ch par b q ∧ 0 ≤ (own_ch par a p).toInt ∧ own_apart (own_ch par a) (own_ch par b) p q ∧ r = own_ref made (own_ch par a) (own_ch par b) p q) ∨ (r = 0 ∧ ∀ i j, 0 ≤ (own_ch par a i).toInt → own_ch par a i ≠ own_ch par b j)
def own_ms (x y : Int32) : Nat := (x.toInt + y.toInt + 2).toNat
theorem own_nn {x : Int32} (h : 0 ≤ x.toInt) : x.toInt = (x.toInt.toNat : Int) := by omega
theorem own_lt5 {x : Int32} (h : x.toInt < 5) : x.toInt.toNat < 5 := by omega
theorem own_k0 : (0 : Int32).toInt = 0 := rfl
theorem own_km : (-1 : Int32).toInt = -1 := rfl
theorem own_ge0 {x : Int32} (h : ¬ x < 0) : 0 ≤ x.toInt := by
  rw [Int32.lt_iff_toInt_lt, own_k0] at h; omega
theorem own_neg {d : Int32} (h : d.toInt < 0) : d < 0 := by rw [Int32.lt_iff_toInt_lt, own_k0]; exact h
theorem own_nneg {d : Int32} (h : 0 ≤ d.toInt) : ¬ d < 0 := by rw [Int32.lt_iff_toInt_lt, own_k0]; omega
theorem own_upN {par : Nat → Int32} {c : Int32} (h : c < 0) : own_up par c = -1 := by unfold own_up; rw [if_pos h]
theorem own_upP {par : Nat → Int32} {c : Int32} (h : ¬ c < 0) : own_up par c = par c.toInt.toNat := by unfold own_up; rw [if_neg h]
theorem own_upv {par made : Nat → Int32} (ok : own_ok par made) {c : Int32} (hc : 0 ≤ c.toInt ∧ c.toInt < 5) : -1 ≤ (own_up par c).toInt ∧ (own_up par c).toInt < c.toInt ∧ (0 ≤ (own_up par c).toInt → (made (own_up par c).toInt.toNat).toInt < (made c.toInt.toNat).toInt) := by
  rw [own_upP (own_nneg hc.1)]
  have o := ok c.toInt.toNat (by omega)
  refine ⟨o.1, by omega, o.2.2.2⟩
theorem own_chv {par made : Nat → Int32} (ok : own_ok par made) (a : Int32) (ha : a.toInt < 5) (k : Nat) : (own_ch par a k).toInt < 5 ∧ (0 ≤ (own_ch par a k).toInt → (own_ch par a k).toInt + k < 5) := by
  induction k with
  | zero => exact ⟨ha, fun _ => by show a.toInt + ((0 : Nat) : Int) < 5; omega⟩
  | succ k ih =>
    show (own_up par (own_ch par a k)).toInt < 5 ∧ (0 ≤ (own_up par (own_ch par a k)).toInt → (own_up par (own_ch par a k)).toInt + ((k + 1 : Nat) : Int) < 5)
    by_cases q : (own_ch par a k).toInt < 0
    · rw [own_upN (own_neg q), own_km]; omega
    · have u := own_upv ok (c := own_ch par a k) ⟨by omega, ih.1⟩
      have i2 := ih.2 (by omega)
      omega
theorem own_chlt {par made : Nat → Int32} (ok : own_ok par made) (a : Int32) (ha : a.toInt < 5) (k : Nat) : (own_ch par a k).toInt < 5 := (own_chv ok a ha k).1
theorem own_chdec {par made : Nat → Int32} (ok : own_ok par made) (a : Int32) (ha : a.toInt < 5) (j d : Nat) (h : 0 ≤ (own_ch par a (j + d)).toInt) : 0 ≤ (own_ch par a j).toInt ∧ (0 < d → (made (own_ch par a (j + d)).toInt.toNat).toInt < (made (own_ch par a j).toInt.toNat).toInt) := by
  induction d with
  | zero => exact ⟨h, fun q => absurd q (by omega)⟩
  | succ d ih =>
    have e : own_ch par a (j + (d + 1)) = own_up par (own_ch par a (j + d)) := rfl
    rw [e] at h ⊢
    have q : 0 ≤ (own_ch par a (j + d)).toInt := by
      by_cases q : (own_ch par a (j + d)).toInt < 0
      · rw [own_upN (own_neg q), own_km] at h; omega
      · omega
    have i := ih q
    have u := own_upv ok (c := own_ch par a (j + d)) ⟨q, own_chlt ok a ha _⟩
    refine ⟨i.1, fun _ => ?_⟩
    have u3 := u.2.2 h
    by_cases z : 0 < d
    · have := i.2 z; omega
    · have : d = 0 := by omega
      subst this
      exact u3
theorem own_chc (par : Nat → Int32) (p1 : Int32) : ∀ j, j < 5 → (fun q => if q = 4 then (own_ch par p1 4) else (fun q => if q = 3 then (own_ch par p1 3) else (fun q => if q = 2 then (own_ch par p1 2) else (fun q => if q = 1 then (own_ch par p1 1) else (fun q => if q = 0 then p1 else (fun _ => 0) q) q) q) q) q) j = own_ch par p1 j := fun j hj => by
  rcases (by omega : j = 0 ∨ j = 1 ∨ j = 2 ∨ j = 3 ∨ j = 4) with rfl | rfl | rfl | rfl | rfl <;> rfl
theorem own_minL (x y : Int32) : (own_min x y).toInt ≤ x.toInt ∧ (own_min x y).toInt ≤ y.toInt := by
  unfold own_min
  by_cases q : y < x
  · rw [if_pos q]; rw [Int32.lt_iff_toInt_lt] at q; omega
  · rw [if_neg q]; rw [Int32.lt_iff_toInt_lt] at q; omega
theorem own_minE (x y : Int32) : (x.toInt ≤ y.toInt → own_min x y = x) ∧ (y.toInt ≤ x.toInt → own_min x y = y) := by
  unfold own_min
  by_cases q : y < x
  · rw [if_pos q]; rw [Int32.lt_iff_toInt_lt] at q; exact ⟨fun h => by omega, fun _ => rfl⟩
  · rw [if_neg q]; rw [Int32.lt_iff_toInt_lt] at q; exact ⟨fun _ => rfl, fun h => by rw [← Int32.toInt_inj]; omega⟩
theorem own_refL (made ca cb : Nat → Int32) (p q : Nat) : (0 < p → (own_ref made ca cb p q).toInt ≤ (made (ca (p - 1)).toInt.toNat).toInt) ∧ (0 < q → (own_ref made ca cb p q).toInt ≤ (made (cb (q - 1)).toInt.toNat).toInt) := by
  unfold own_ref
  by_cases hq : 0 < q
  · rw [if_pos hq]
    refine ⟨fun hp => ?_, fun _ => (own_minL _ _).2⟩
    rw [if_pos hp]; exact (own_minL _ _).1
  · rw [if_neg hq]
    refine ⟨fun hp => ?_, fun h => absurd h hq⟩
    rw [if_pos hp]; omega
theorem own_mxL (x : Int32) : x.toInt ≤ own_mx.toInt := by
  have := rng32 x
  have k : own_mx.toInt = 2147483647 := rfl
  omega
theorem own_inv0 (par made : Nat → Int32) (a b : Int32) (ha : 0 ≤ a.toInt ∧ a.toInt < 5) : own_inv par made a b 0 0 a b 2147483647 :=
  ⟨rfl, rfl, ⟨fun _ h => absurd h (by omega), fun _ h => absurd h (by omega)⟩, rfl, fun _ => by have := own_mxL (made a.toInt.toNat); rw [Int32.lt_iff_toInt_lt]; show ¬ own_mx.toInt < _; omega, fun _ => by have := own_mxL (made b.toInt.toNat); rw [Int32.lt_iff_toInt_lt]; show ¬ own_mx.toInt < _; omega, Or.inl ha.1⟩
section Inv
variable {par made : Nat → Int32} {a b : Int32} {p q : Nat} {one two rd : Int32}
theorem own_dec1 (ok : own_ok par made) (h1 : one.toInt < 5) (g1 : ¬ one < 0) (g2 : ¬ two < 0) {x : Int32} (e : x = par one.toInt.toNat) : own_ms x two < own_ms one two := by
  have u := own_upv ok (c := one) ⟨own_ge0 g1, h1⟩
  rw [own_upP g1, ← e] at u
  have := own_ge0 g1
  have := own_ge0 g2
  unfold own_ms; omega
theorem own_dec2 (ok : own_ok par made) (h1 : two.toInt < 5) (g1 : ¬ one < 0) (g2 : ¬ two < 0) {x : Int32} (e : x = par two.toInt.toNat) : own_ms one x < own_ms one two := by
  have u := own_upv ok (c := two) ⟨own_ge0 g2, h1⟩
  rw [own_upP g2, ← e] at u
  have := own_ge0 g1
  have := own_ge0 g2
  unfold own_ms; omega
theorem own_inv1 (ok : own_ok par made) (ha : 0 ≤ a.toInt ∧ a.toInt < 5) (hb : 0 ≤ b.toInt ∧ b.toInt < 5) (I : own_inv par made a b p q one two rd) (ne : ¬ one = two) (g1 : ¬ one < 0) (g2 : ¬ two < 0) (hm : ¬ made one.toInt.toNat < made two.toInt.toNat) {x r : Int32} (e : x = par one.toInt.toNat) (er : r = made one.toInt.toNat) : own_inv par made a b (p + 1) q x two r := by
  obtain ⟨i1, i2, ⟨i3, i4⟩, i5, i6, i7, i8⟩ := I
  have z1 := own_ge0 g1
  have z2 := own_ge0 g2
  have l1 : one.toInt < 5 := by rw [i1]; exact own_chlt ok a ha.2 p
  have u := own_upv ok (c := one) ⟨z1, l1⟩
  rw [own_upP g1, ← e] at u
  have ex : x = own_ch par a (p + 1) := by
    show x = own_up par (own_ch par a p)
    rw [← i1, own_upP g1]; exact e
  rw [Int32.lt_iff_toInt_lt] at hm
  refine ⟨ex, i2, ⟨fun p' hp' j hj => ?_, fun q' hq' i => i4 q' hq' i⟩, ?_, fun h => ?_, fun _ => ?_, Or.inr z2⟩
  · by_cases hp : p' < p
    · exact i3 p' hp j hj
    · have : p' = p := by omega
      subst this
      rw [← i1] at hj
      rcases Nat.lt_trichotomy j q with h | h | h
      · exact i4 j h p' (by rw [← hj, ← i1])
      · subst h; exact ne (hj.trans i2.symm)
      · obtain ⟨d, rfl⟩ : ∃ d, j = q + d := ⟨j - q, by omega⟩
        have w := (own_chdec ok b hb.2 q d (by rw [← hj]; exact z1)).2 (by omega)
        rw [← hj, ← i2] at w
        omega
  · have f1 := (own_refL made (own_ch par a) (own_ch par b) p q).2
    rw [← i5] at f1
    have f2 := i6 z1
    rw [Int32.lt_iff_toInt_lt] at f2
    unfold own_ref
    rw [if_pos (show 0 < p + 1 by omega), Nat.add_sub_cancel, ← i1, er]
    by_cases hq : 0 < q
    · rw [if_pos hq]
      have := f1 hq
      exact ((own_minE _ _).1 (by omega)).symm
    · rw [if_neg hq]
  · have := u.2.2 h
    rw [Int32.lt_iff_toInt_lt, er]; omega
  · rw [Int32.lt_iff_toInt_lt, er]; omega
theorem own_inv2 (ok : own_ok par made) (ha : 0 ≤ a.toInt ∧ a.toInt < 5) (hb : 0 ≤ b.toInt ∧ b.toInt < 5) (I : own_inv par made a b p q one two rd) (ne : ¬ one = two) (g1 : ¬ one < 0) (g2 : ¬ two < 0) (hm : made one.toInt.toNat < made two.toInt.toNat) {x r : Int32} (e : x = par two.toInt.toNat) (er : r = made two.toInt.toNat) : own_inv par made a b p (q + 1) one x r := by
  obtain ⟨i1, i2, ⟨i3, i4⟩, i5, i6, i7, i8⟩ := I
  have z1 := own_ge0 g1
  have z2 := own_ge0 g2
  have l2 : two.toInt < 5 := by rw [i2]; exact own_chlt ok b hb.2 q
  have u := own_upv ok (c := two) ⟨z2, l2⟩
  rw [own_upP g2, ← e] at u
  have ex : x = own_ch par b (q + 1) := by
    show x = own_up par (own_ch par b q)
    rw [← i2, own_upP g2]; exact e
  rw [Int32.lt_iff_toInt_lt] at hm
  refine ⟨i1, ex, ⟨fun p' hp' j => i3 p' hp' j, fun q' hq' i hi => ?_⟩, ?_, fun _ => ?_, fun h => ?_, Or.inl z1⟩
  · by_cases hp : q' < q
    · exact i4 q' hp i hi
    · have : q' = q := by omega
      subst this
      rw [← i2] at hi
      rcases Nat.lt_trichotomy i p with h | h | h
      · exact i3 i h q' (by rw [← hi, ← i2])
      · subst h; exact ne (i1.trans hi.symm)
      · obtain ⟨d, rfl⟩ : ∃ d, i = p + d := ⟨i - p, by omega⟩
        have w := (own_chdec ok a ha.2 p d (by rw [← hi]; exact z2)).2 (by omega)
        rw [← hi, ← i1] at w
        omega
  · have f1 := (own_refL made (own_ch par a) (own_ch par b) p q).1
    rw [← i5] at f1
    have f2 := i7 z2
    rw [Int32.lt_iff_toInt_lt] at f2
    unfold own_ref
    rw [if_pos (show 0 < q + 1 by omega), Nat.add_sub_cancel, ← i2, er]
    refine ((own_minE _ _).2 ?_).symm
    by_cases hp : 0 < p
    · rw [if_pos hp]; have := f1 hp; omega
    · rw [if_neg hp]; exact own_mxL _
  · rw [Int32.lt_iff_toInt_lt, er]; omega
  · have := u.2.2 h
    rw [Int32.lt_iff_toInt_lt, er]; omega
theorem own_end0 (I : own_inv par made a b p q one two rd) (h : one = two) : own_out par made a b rd := by
  obtain ⟨i1, i2, i3, i5, i6, i7, i8⟩ := I
  refine Or.inl ⟨p, q, by rw [← i1, ← i2, h], ?_, i3, i5⟩
  rw [← i1]
  rcases i8 with z | z
  · exact z
  · rw [h]; exact z
theorem own_pos (ok : own_ok par made) (ha : a.toInt < 5) (i k : Nat) (h : 0 ≤ (own_ch par a i).toInt) (hk : ¬ 0 ≤ (own_ch par a k).toInt) : i < k := by
  rcases Nat.lt_or_ge i k with z | z
  · exact z
  · obtain ⟨d, rfl⟩ : ∃ d, i = k + d := ⟨i - k, by omega⟩
    exact absurd (own_chdec ok a ha k d h).1 hk
theorem own_end1 (ok : own_ok par made) (ha : 0 ≤ a.toInt ∧ a.toInt < 5) (I : own_inv par made a b p q one two rd) (h : one < 0) : own_out par made a b 0 := by
  obtain ⟨i1, i2, i3, i5, i6, i7, i8⟩ := I
  rw [Int32.lt_iff_toInt_lt, own_k0, i1] at h
  exact Or.inr ⟨rfl, fun i j hi => i3.1 i (own_pos ok ha.2 i p hi (by omega)) j⟩
theorem own_end2 (ok : own_ok par made) (hb : 0 ≤ b.toInt ∧ b.toInt < 5) (I : own_inv par made a b p q one two rd) (h : two < 0) : own_out par made a b 0 := by
  obtain ⟨i1, i2, i3, i5, i6, i7, i8⟩ := I
  rw [Int32.lt_iff_toInt_lt, own_k0, i2] at h
  exact Or.inr ⟨rfl, fun i j hi e => i3.2 j (own_pos ok hb.2 j q (by rw [← e]; exact hi) (by omega)) i e.symm⟩
end Inv
theorem own_ixV (f : Nat → Int32) (v : Int32) : (own_ix f v = -1 ∧ (v < 0 ∨ ∀ j, j < 5 → f j ≠ v)) ∨ (∃ j, j < 5 ∧ (own_ix f v).toInt = (j : Nat) ∧ ¬ v < 0 ∧ f j = v ∧ ∀ i, i < j → f i ≠ v) := by
  unfold own_ix
  by_cases q : v < 0
  · left; rw [if_pos q]; exact ⟨rfl, Or.inl q⟩
  · rw [if_neg q]
    by_cases h0 : f 0 = v
    · right; rw [if_pos h0]; exact ⟨0, by decide, rfl, q, h0, fun i hi => absurd hi (by omega)⟩
    · rw [if_neg h0]
      by_cases h1 : f 1 = v
      · right; rw [if_pos h1]; exact ⟨1, by decide, rfl, q, h1, fun i hi => by rcases (by omega : i = 0) with rfl; exact h0⟩
      · rw [if_neg h1]
        by_cases h2 : f 2 = v
        · right; rw [if_pos h2]; exact ⟨2, by decide, rfl, q, h2, fun i hi => by rcases (by omega : i = 0 ∨ i = 1) with rfl | rfl <;> assumption⟩
        · rw [if_neg h2]
          by_cases h3 : f 3 = v
          · right; rw [if_pos h3]; exact ⟨3, by decide, rfl, q, h3, fun i hi => by rcases (by omega : i = 0 ∨ i = 1 ∨ i = 2) with rfl | rfl | rfl <;> assumption⟩
          · rw [if_neg h3]
            by_cases h4 : f 4 = v
            · right; rw [if_pos h4]; exact ⟨4, by decide, rfl, q, h4, fun i hi => by rcases (by omega : i = 0 ∨ i = 1 ∨ i = 2 ∨ i = 3) with rfl | rfl | rfl | rfl <;> assumption⟩
            · left; rw [if_neg h4]; exact ⟨rfl, Or.inr fun j hj => by rcases (by omega : j = 0 ∨ j = 1 ∨ j = 2 ∨ j = 3 ∨ j = 4) with rfl | rfl | rfl | rfl | rfl <;> assumption⟩
theorem own_ixY (f : Nat → Int32) (v : Int32) (h : ¬ own_ix f v < 0) : ∃ j, j < 5 ∧ (own_ix f v).toInt = (j : Nat) ∧ ¬ v < 0 ∧ f j = v ∧ ∀ i, i < j → f i ≠ v := by
  rcases own_ixV f v with ⟨e, -⟩ | r
  · rw [e] at h; exact absurd (by decide) h
  · exact r
theorem own_ixN (f : Nat → Int32) (v : Int32) (h : own_ix f v < 0) : v < 0 ∨ ∀ j, j < 5 → f j ≠ v := by
  rcases own_ixV f v with ⟨-, r⟩ | ⟨j, h1, h2, -⟩
  · exact r
  · rw [Int32.lt_iff_toInt_lt, h2, own_k0] at h; omega
theorem own_le4 {par made : Nat → Int32} (ok : own_ok par made) (a : Int32) (ha : a.toInt < 5) (k : Nat) (h : 0 ≤ (own_ch par a k).toInt) : k < 5 := by
  have := (own_chv ok a ha k).2 h; omega
theorem own_same (par made : Nat → Int32) (a b r : Int32) (ha : 0 ≤ a.toInt) (e : a = b) (o : own_out par made a b r) : r = 2147483647 := by
  subst e
  rcases o with ⟨p, q, h1, h2, ⟨h3, h4⟩, h5⟩ | ⟨-, h⟩
  · have p0 : p = 0 := by
      rcases Nat.eq_zero_or_pos p with z | z
      · exact z
      · exact absurd rfl (h3 0 z 0)
    have q0 : q = 0 := by
      rcases Nat.eq_zero_or_pos q with z | z
      · exact z
      · exact absurd rfl (h4 0 z 0)
    subst p0 q0
    exact h5
  · exact absurd rfl (h 0 0 ha)
theorem own_none {par made : Nat → Int32} (ok : own_ok par made) (a b r : Int32) (ha : a.toInt < 5) (hb : b.toInt < 5) (o : own_out par made a b r) (h : ∀ k, k < 5 → own_ix (own_ch par b) (own_ch par a k) < 0) : r = 0 := by
  rcases o with ⟨p, q, h1, h2, -, -⟩ | ⟨h, -⟩
  · exfalso
    have hp := own_le4 ok a ha p h2
    have hq := own_le4 ok b hb q (by rw [← h1]; exact h2)
    rcases own_ixN _ _ (h p hp) with z | z
    · exact own_nneg h2 z
    · exact z q hq h1.symm
  · exact h
theorem own_some {par made : Nat → Int32} (ok : own_ok par made) (a b r : Int32) (ha : a.toInt < 5) (hb : b.toInt < 5) (o : own_out par made a b r) (k j : Nat) (hk : k < 5) (h : ∀ i, i < k → own_ix (own_ch par b) (own_ch par a i) < 0) (hj5 : j < 5) (hv : ¬ own_ch par a k < 0) (hj : own_ch par b j = own_ch par a k) (hl : ∀ i, i < j → own_ch par b i ≠ own_ch par a k) : r = own_ref made (own_ch par a) (own_ch par b) k j := by
  rcases o with ⟨p, q, h1, h2, ⟨h3, h4⟩, h5⟩ | ⟨-, h6⟩
  · have hp := own_le4 ok a ha p h2
    have hq := own_le4 ok b hb q (by rw [← h1]; exact h2)
    have e1 : p = k := by
      rcases Nat.lt_trichotomy p k with z | z | z
      · exfalso
        rcases own_ixN _ _ (h p z) with y | y
        · exact own_nneg h2 y
        · exact y q hq h1.symm
      · exact z
      · exact absurd hj.symm (h3 k z j)
    subst e1
    have e2 : q = j := by
      rcases Nat.lt_trichotomy q j with z | z | z
      · exact absurd h1.symm (hl q z)
      · exact z
      · exact absurd hj (h4 j z p)
    subst e2
    exact h5
  · exact absurd hj.symm (h6 k j (own_ge0 hv))
theorem own_prev {par made : Nat → Int32} (ok : own_ok par made) (a : Int32) (ha : a.toInt < 5) (k : Nat) (h : ¬ own_ch par a (k + 1) < 0) : 0 ≤ (own_ch par a k).toInt ∧ (own_ch par a k).toInt < 5 := ⟨(own_chdec ok a ha k 1 (own_ge0 h)).1, own_chlt ok a ha k⟩
def own_st (p m : Int32) (g : Nat → Int32) (b : Int) : Prop := (p.toInt = -1 → m.toInt = 0) ∧ (0 ≤ p.toInt → (g p.toInt.toNat).toInt < m.toInt) ∧ 0 ≤ m.toInt ∧ m.toInt ≤ b
theorem own_stM (p m x : Int32) (g : Nat → Int32) (b c : Int) (y : Int64) (hc : c + 4 ≤ b) (hb : b ≤ 100) (hc0 : 0 ≤ c) (hg : ∀ j, 0 ≤ (g j).toInt ∧ (g j).toInt ≤ c) (hx : x = (y &&& (3 : Int64)).toInt32) (e : m = if p < 0 then 0 else g p.toInt.toNat + 1 + x) : own_st p m g b := by
  unfold own_st
  by_cases q : p < 0
  · rw [if_pos q] at e
    rw [Int32.lt_iff_toInt_lt, own_k0] at q
    rw [e, own_k0]; omega
  · rw [if_neg q] at e
    have z := own_ge0 q
    have h0 := hg p.toInt.toNat
    have h1 := c_maskL y 3 2 (by decide) rfl
    generalize y &&& (3 : Int64) = y' at *
    have h2 := c_l2i y'
    rw [← hx] at h2
    have rx := rng32 x
    have h3 := c_iadd (g p.toInt.toNat) 1
    have r3 := rng32 (g p.toInt.toNat + 1)
    have h4 := c_iadd (g p.toInt.toNat + 1) x
    rw [← e] at h4
    have r4 := rng32 m
    have k1 : (1 : Int32).toInt = 1 := rfl
    omega
theorem own_bz (g : Nat → Int32) (e : g = fun q => if q = 0 then 0 else (fun _ => 0) q) (j : Nat) : 0 ≤ (g j).toInt ∧ (g j).toInt ≤ 0 := by
  rw [e]; simp only; have := own_k0; split <;> omega
theorem own_bN (g h : Nat → Int32) (i : Nat) (m : Int32) (b c : Int) (hb : ∀ j, 0 ≤ (g j).toInt ∧ (g j).toInt ≤ b) (hm : 0 ≤ m.toInt ∧ m.toInt ≤ c) (hc : b ≤ c) (e : h = fun q => if q = i then m else g q) (j : Nat) : 0 ≤ (h j).toInt ∧ (h j).toInt ≤ c := by
  have := hb j
  rw [e]; simp only; split <;> omega
theorem own_ok1 (n : Nat) (par made par' made' : Nat → Int32) (p m : Int32) (b : Int) (h : ∀ i : Nat, i < n → -1 ≤ (par i).toInt ∧ (par i).toInt < i ∧ ((par i).toInt = -1 → (made i).toInt = 0) ∧ (0 ≤ (par i).toInt → (made (par i).toInt.toNat).toInt < (made i).toInt))
    (hp : -1 ≤ p.toInt ∧ p.toInt < n) (s : own_st p m made b) (e1 : par' = fun q => if q = n then p else par q) (e2 : made' = fun q => if q = n then m else made q) : ∀ i : Nat, i < n + 1 → -1 ≤ (par' i).toInt ∧ (par' i).toInt < i ∧ ((par' i).toInt = -1 → (made' i).toInt = 0) ∧ (0 ≤ (par' i).toInt → (made' (par' i).toInt.toNat).toInt < (made' i).toInt) := by
  intro i hi
  have z : ∀ j, j < n → made' j = made j := fun j hj => by rw [e2]; exact if_neg (by omega)
  by_cases q : i = n
  · subst q
    have a1 : par' i = p := by rw [e1]; exact if_pos rfl
    have a2 : made' i = m := by rw [e2]; exact if_pos rfl
    rw [a1, a2]
    refine ⟨hp.1, hp.2, s.1, fun h0 => ?_⟩
    rw [z _ (by omega)]; exact s.2.1 h0
  · have a1 : par' i = par i := by rw [e1]; exact if_neg q
    have hh := h i (by omega)
    rw [a1, z i (by omega)]
    refine ⟨hh.1, hh.2.1, hh.2.2.1, fun h0 => ?_⟩
    rw [z _ (by omega)]; exact hh.2.2.2 h0
theorem own_ok0 (par made : Nat → Int32) (e1 : par = fun q => if q = 0 then -1 else (fun _ => 0) q) (e2 : made = fun q => if q = 0 then 0 else (fun _ => 0) q) : ∀ i : Nat, i < 1 → -1 ≤ (par i).toInt ∧ (par i).toInt < i ∧ ((par i).toInt = -1 → (made i).toInt = 0) ∧ (0 ≤ (par i).toInt → (made (par i).toInt.toNat).toInt < (made i).toInt) := by
  intro i hi
  obtain rfl : i = 0 := by omega
  have a1 : par 0 = -1 := by rw [e1]; rfl
  have a2 : made 0 = 0 := by rw [e2]; rfl
  rw [a1, a2, own_km, own_k0]; omega
theorem own_pcV (y x p d : Int32) (n : Int) (hd : d.toInt = n + 1) (hn : 1 ≤ n ∧ n ≤ 4) (hx : x = y &&& 7) (e : p = x % d - 1) : -1 ≤ p.toInt ∧ p.toInt < n := by
  have h1 := c_mask y 7 3 (by decide) rfl
  rw [← hx] at h1
  have h2 := (c_iremV x d).1 (by omega) (by omega)
  have h3 := c_isub (x % d) 1
  rw [← e] at h3
  have r := rng32 p
  have k1 : (1 : Int32).toInt = 1 := rfl
  omega
theorem own_abV (x v : Int32) (e : v = (x &&& 2147483647) % 5) : 0 ≤ v.toInt ∧ v.toInt < 5 := by
  have h1 := c_mask x 2147483647 31 (by decide) rfl
  have h2 := (c_irem (x &&& 2147483647) 5 5 rfl).1
  rw [← e] at h2; omega
theorem own_d1 (v : Int32) (j : Nat) (h : v.toInt = j) (h0 : 0 < j) (h5 : j < 5) : (v - (1 : Int32)).toInt = ((j - 1 : Nat) : Int) := by
  have h1 := c_isub v 1
  have r := rng32 (v - 1)
  have k1 : (1 : Int32).toInt = 1 := rfl
  omega
theorem own_jp (v : Int32) (j : Nat) (h : v.toInt = j) (q : 0 < v) : 0 < j := by
  rw [Int32.lt_iff_toInt_lt, own_k0] at q; omega
theorem own_prevj {par made : Nat → Int32} (ok : own_ok par made) (b : Int32) (hb : b.toInt < 5) (j : Nat) (h0 : 0 < j) (h : ¬ own_ch par b j < 0) : 0 ≤ (own_ch par b (j - 1)).toInt ∧ (own_ch par b (j - 1)).toInt < 5 := by
  obtain ⟨i, rfl⟩ : ∃ i, j = i + 1 := ⟨j - 1, by omega⟩
  exact own_prev ok b hb i h
theorem own_ref1P (made ca cb : Nat → Int32) (k j : Nat) (v : Int32) (h : v.toInt = j) (q : 0 < v) : own_ref made ca cb (k + 1) j = own_min (made (ca k).toInt.toNat) (made (cb (j - 1)).toInt.toNat) := by
  unfold own_ref
  rw [Int32.lt_iff_toInt_lt, own_k0, h] at q
  rw [if_pos (show 0 < j by omega), if_pos (show 0 < k + 1 by omega), Nat.add_sub_cancel]
theorem own_ref1N (made ca cb : Nat → Int32) (k j : Nat) (v : Int32) (h : v.toInt = j) (q : ¬ 0 < v) : own_ref made ca cb (k + 1) j = made (ca k).toInt.toNat := by
  unfold own_ref
  rw [Int32.lt_iff_toInt_lt, own_k0, h] at q
  rw [if_neg (show ¬ 0 < j by omega), if_pos (show 0 < k + 1 by omega), Nat.add_sub_cancel]
theorem own_ref0P (made ca cb : Nat → Int32) (j : Nat) (v : Int32) (h : v.toInt = j) (q : 0 < v) : own_ref made ca cb 0 j = own_min 2147483647 (made (cb (j - 1)).toInt.toNat) := by
  unfold own_ref
  rw [Int32.lt_iff_toInt_lt, own_k0, h] at q
  rw [if_pos (show 0 < j by omega), if_neg (show ¬ 0 < 0 by omega)]; rfl
theorem own_ref0N (made ca cb : Nat → Int32) (j : Nat) (v : Int32) (h : v.toInt = j) (q : ¬ 0 < v) : own_ref made ca cb 0 j = 2147483647 := by
  unfold own_ref
  rw [Int32.lt_iff_toInt_lt, own_k0, h] at q
  rw [if_neg (show ¬ 0 < j by omega), if_neg (show ¬ 0 < 0 by omega)]; rfl
theorem own_all0 {P : Nat → Prop}  : ∀ i, i < 0 → P i := fun i hi => by
  exact absurd hi (by omega)
theorem own_all1 {P : Nat → Prop} (h0 : P 0) : ∀ i, i < 1 → P i := fun i hi => by
  obtain rfl : i = 0 := by omega
  exact h0
theorem own_all2 {P : Nat → Prop} (h0 : P 0) (h1 : P 1) : ∀ i, i < 2 → P i := fun i hi => by
  rcases (by omega : i = 0 ∨ i = 1) with rfl | rfl
  · exact h0
  · exact h1
theorem own_all3 {P : Nat → Prop} (h0 : P 0) (h1 : P 1) (h2 : P 2) : ∀ i, i < 3 → P i := fun i hi => by
  rcases (by omega : i = 0 ∨ i = 1 ∨ i = 2) with rfl | rfl | rfl
  · exact h0
  · exact h1
  · exact h2
theorem own_all4 {P : Nat → Prop} (h0 : P 0) (h1 : P 1) (h2 : P 2) (h3 : P 3) : ∀ i, i < 4 → P i := fun i hi => by
  rcases (by omega : i = 0 ∨ i = 1 ∨ i = 2 ∨ i = 3) with rfl | rfl | rfl | rfl
  · exact h0
  · exact h1
  · exact h2
  · exact h3
theorem own_all5 {P : Nat → Prop} (h0 : P 0) (h1 : P 1) (h2 : P 2) (h3 : P 3) (h4 : P 4) : ∀ i, i < 5 → P i := fun i hi => by
  rcases (by omega : i = 0 ∨ i = 1 ∨ i = 2 ∨ i = 3 ∨ i = 4) with rfl | rfl | rfl | rfl | rfl
  · exact h0
  · exact h1
  · exact h2
  · exact h3
  · exact h4
theorem d8_0 : decode jdk_29_method_69_code 0 = .ok (.iload_n 0, 1) := by decide +kernel
theorem d8_1 : decode jdk_29_method_69_code 1 = .ok (.iload_n 1, 1) := by decide +kernel
theorem d8_2 : decode jdk_29_method_69_code 2 = .ok (.if_icmp .gt 7, 3) := by decide +kernel
theorem d8_5 : decode jdk_29_method_69_code 5 = .ok (.iload_n 0, 1) := by decide +kernel
theorem d8_6 : decode jdk_29_method_69_code 6 = .ok (.goto 4, 3) := by decide +kernel
theorem d8_9 : decode jdk_29_method_69_code 9 = .ok (.iload_n 1, 1) := by decide +kernel
theorem d8_10 : decode jdk_29_method_69_code 10 = .ok (.ireturn, 1) := by decide +kernel
set_option maxRecDepth 65536 in
set_option maxHeartbeats 40000000 in
theorem rm8 (l : Launch) (Z : State) (a0 : Array Value) (hw : ∀ d ∈ tables_1, d.before a0 Z = true) (p0 : Int32) (p1 : Int32) (h0 : Heap) (n0 : Nat) (Z0 : n0 ≤ h0.size)  :
    own_C l Z (⟨"java/lang/Math", "min", "(II)I"⟩ : MethodName) jdk_29_method_69_code 2 (some .int) [] ({ frames := 0, cells := 0, slots := 0, locals := 0 } : Room) #[(.int p0), (.int p1)] h0 (fun v h L => v = some (.int (own_min p0 p1)) ∧ Fr n0 L ∧ h = h0) := by
  refine own_bodyF (by decide +kernel) ?_
  intro p e s m below meth c T0 hx hby hml hown hnm hret hlk hZ X0 e0
  have N0 := Fr.nil n0
  refine own_eq (f' := (mkF m 0 #[.val (.int p0), .val (.int p1)] [])) (by first | (simp [entryFrame, mkF, argsToLocals, Value.category]; done) | rfl) ?_
  refine own_iloadN X0 hx 1 (hb hby d8_0) rfl rfl ?_
  refine own_iloadN X0 hx 2 (hb hby d8_1) rfl rfl ?_
  refine own_icmp_gt X0 hx 9 5 (hb hby d8_2) (by decide) (by decide) rfl (fun h1 => ?_) (fun h1 => ?_)
  · show own_W p e below _ T0 (mkF m 9 #[.val (.int p0), .val (.int p1)] [])
    refine own_iloadN X0 hx 10 (hb hby d8_9) rfl rfl ?_
    exact own_retI X0 hx hret hlk (hb hby d8_10) (by decide) (by decide) ⟨by unfold own_min; rw [if_pos h1], N0, e0⟩
  · show own_W p e below _ T0 (mkF m 5 #[.val (.int p0), .val (.int p1)] [])
    refine own_iloadN X0 hx 6 (hb hby d8_5) rfl rfl ?_
    refine own_goto X0 hx 10 (hb hby d8_6) (by decide) (by decide) ?_
    exact own_retI X0 hx hret hlk (hb hby d8_10) (by decide) (by decide) ⟨by unfold own_min; rw [if_neg h1], N0, e0⟩
theorem d11_0 : decode method_3_code 0 = .ok (.iload_n 0, 1) := by decide +kernel
theorem d11_1 : decode method_3_code 1 = .ok (.iconst 3, 1) := by decide +kernel
theorem d11_2 : decode method_3_code 2 = .ok (.iload_n 1, 1) := by decide +kernel
theorem d11_3 : decode method_3_code 3 = .ok (.imul, 1) := by decide +kernel
theorem d11_4 : decode method_3_code 4 = .ok (.iushr, 1) := by decide +kernel
theorem d11_5 : decode method_3_code 5 = .ok (.bipush 7, 2) := by decide +kernel
theorem d11_7 : decode method_3_code 7 = .ok (.iand, 1) := by decide +kernel
theorem d11_8 : decode method_3_code 8 = .ok (.iload_n 1, 1) := by decide +kernel
theorem d11_9 : decode method_3_code 9 = .ok (.iconst 1, 1) := by decide +kernel
theorem d11_10 : decode method_3_code 10 = .ok (.iadd, 1) := by decide +kernel
theorem d11_11 : decode method_3_code 11 = .ok (.irem, 1) := by decide +kernel
theorem d11_12 : decode method_3_code 12 = .ok (.iconst 1, 1) := by decide +kernel
theorem d11_13 : decode method_3_code 13 = .ok (.isub, 1) := by decide +kernel
theorem d11_14 : decode method_3_code 14 = .ok (.ireturn, 1) := by decide +kernel
set_option maxRecDepth 65536 in
set_option maxHeartbeats 40000000 in
theorem rm1_1 (l : Launch) (Z : State) (a0 : Array Value) (hw : ∀ d ∈ tables_1, d.before a0 Z = true) (p0 : Int32) (h0 : Heap) (n0 : Nat) (Z0 : n0 ≤ h0.size)  :
    own_C l Z (⟨"com/example/trubis/trubis/equivalence/BlockHistoryPartedPinLaw", "parentChoice", "(II)I"⟩ : MethodName) method_3_code 2 (some .int) [] ({ frames := 0, cells := 0, slots := 0, locals := 0 } : Room) #[(.int p0), (.int (1 : Int32))] h0 (fun v h L => v = some (.int (own_pc1 p0)) ∧ Fr n0 L ∧ h = h0) := by
  refine own_body (by first | (simp [plainName, overriddenIn]; done) | decide +kernel) ?_
  intro p e s m below meth c T0 hx hby hml hown hnm hret hlk hZ X0 e0
  have N0 := Fr.nil n0
  refine own_eq (f' := (mkF m 0 #[.val (.int p0), .val (.int (1 : Int32))] [])) (by first | (simp [entryFrame, mkF, argsToLocals, Value.category]; done) | rfl) ?_
  refine own_iloadN X0 hx 1 (hb hby d11_0) rfl rfl ?_
  refine own_iconst X0 hx 2 (3 : Int32) (by decide) (hb hby d11_1) rfl ?_
  refine own_iloadN X0 hx 3 (hb hby d11_2) rfl rfl ?_
  refine own_imulz X0 hx 4 (z := (3 : Int32)) (by decide) (hb hby d11_3) rfl ?_
  refine own_iushr X0 hx 5 (hb hby d11_4) rfl ?_
  refine own_bipush X0 hx 7 (7 : Int32) (by decide) (hb hby d11_5) rfl ?_
  refine own_iand X0 hx 8 (hb hby d11_7) rfl ?_
  refine own_iloadN X0 hx 9 (hb hby d11_8) rfl rfl ?_
  refine own_iconst X0 hx 10 (1 : Int32) (by decide) (hb hby d11_9) rfl ?_
  refine own_iaddz X0 hx 11 (z := (2 : Int32)) (by decide) (hb hby d11_10) rfl ?_
  refine own_irem X0 hx 12 (by decide) (hb hby d11_11) rfl ?_
  refine own_iconst X0 hx 13 (1 : Int32) (by decide) (hb hby d11_12) rfl ?_
  refine own_isub X0 hx 14 (hb hby d11_13) rfl ?_
  exact own_retI X0 hx hret hlk (hb hby d11_14) (by decide) (by decide) ⟨by unfold own_pc1; rfl, N0, e0⟩
theorem d21_0 : decode method_4_code 0 = .ok (.aload_n 0, 1) := by decide +kernel
theorem d21_1 : decode method_4_code 1 = .ok (.iload 4, 2) := by decide +kernel
theorem d21_3 : decode method_4_code 3 = .ok (.iaload, 1) := by decide +kernel
theorem d21_4 : decode method_4_code 4 = .ok (.istore 5, 2) := by decide +kernel
theorem d21_6 : decode method_4_code 6 = .ok (.iload 5, 2) := by decide +kernel
theorem d21_8 : decode method_4_code 8 = .ok (.ifCond .ge 5, 3) := by decide +kernel
theorem d21_11 : decode method_4_code 11 = .ok (.iconst 0, 1) := by decide +kernel
theorem d21_12 : decode method_4_code 12 = .ok (.ireturn, 1) := by decide +kernel
theorem d21_13 : decode method_4_code 13 = .ok (.aload_n 1, 1) := by decide +kernel
theorem d21_14 : decode method_4_code 14 = .ok (.iload 5, 2) := by decide +kernel
theorem d21_16 : decode method_4_code 16 = .ok (.iaload, 1) := by decide +kernel
theorem d21_17 : decode method_4_code 17 = .ok (.iconst 1, 1) := by decide +kernel
theorem d21_18 : decode method_4_code 18 = .ok (.iadd, 1) := by decide +kernel
theorem d21_19 : decode method_4_code 19 = .ok (.lload_n 2, 1) := by decide +kernel
theorem d21_20 : decode method_4_code 20 = .ok (.iconst 4, 1) := by decide +kernel
theorem d21_21 : decode method_4_code 21 = .ok (.iload 4, 2) := by decide +kernel
theorem d21_23 : decode method_4_code 23 = .ok (.imul, 1) := by decide +kernel
theorem d21_24 : decode method_4_code 24 = .ok (.lushr, 1) := by decide +kernel
theorem d21_25 : decode method_4_code 25 = .ok (.ldc2_w 41, 3) := by decide +kernel
theorem d21_28 : decode method_4_code 28 = .ok (.land, 1) := by decide +kernel
theorem d21_29 : decode method_4_code 29 = .ok (.l2i, 1) := by decide +kernel
theorem d21_30 : decode method_4_code 30 = .ok (.iadd, 1) := by decide +kernel
theorem d21_31 : decode method_4_code 31 = .ok (.ireturn, 1) := by decide +kernel
set_option maxRecDepth 65536 in
set_option maxHeartbeats 40000000 in
theorem rm2_1 (l : Launch) (Z : State) (a0 : Array Value) (hw : ∀ d ∈ tables_1, d.before a0 Z = true) (t1 t2 : Addr) (q2 : Int64) (f g : Nat → Int32) (h0 : Heap) (n0 : Nat) (Z0 : n0 ≤ h0.size) (hf : (f 1).toInt < 5) (A_1 : own_AI Z h0 t1 .int 5 f) (A_2 : own_AI Z h0 t2 .int 5 g) :
    own_C l Z (⟨"com/example/trubis/trubis/equivalence/BlockHistoryPartedPinLaw", "madeFor", "([I[IJI)I"⟩ : MethodName) method_4_code 6 (some .int) [] ({ frames := 0, cells := 0, slots := 0, locals := 0 } : Room) #[(.ref t1), (.ref t2), (.long q2), (.int (1 : Int32))] h0 (fun v h L => v = some (.int (own_mf1 f g q2)) ∧ Fr n0 L ∧ h = h0) := by
  refine own_body (by first | (simp [plainName, overriddenIn]; done) | decide +kernel) ?_
  intro p e s m below meth c T0 hx hby hml hown hnm hret hlk hZ X0 e0
  have N0 := Fr.nil n0
  refine own_eq (f' := (mkF m 0 #[.val (.ref t1), .val (.ref t2), .val (.long q2), .second, .val (.int (1 : Int32)), .unset] [])) (by first | (simp [entryFrame, mkF, argsToLocals, Value.category]; done) | rfl) ?_
  refine own_aloadN X0 hx 1 (hb hby d21_0) rfl rfl ?_
  refine own_iload X0 hx 3 (hb hby d21_1) rfl rfl ?_
  refine own_iaload X0 hx hZ e0 4 1 A_1 rfl (by decide) (hb hby d21_3) rfl ?_
  refine own_istore X0 hx 6 #[.val (.ref t1), .val (.ref t2), .val (.long q2), .second, .val (.int (1 : Int32)), .val (.int (f 1))] rfl (hb hby d21_4) rfl rfl ?_
  refine own_iload X0 hx 8 (hb hby d21_6) rfl rfl ?_
  refine own_if_ge X0 hx 13 11 (hb hby d21_8) (by decide) (by decide) rfl (fun h1 => ?_) (fun h1 => ?_)
  · show own_W p e below _ T0 (mkF m 13 #[.val (.ref t1), .val (.ref t2), .val (.long q2), .second, .val (.int (1 : Int32)), .val (.int (f 1))] [])
    refine own_aloadN X0 hx 14 (hb hby d21_13) rfl rfl ?_
    refine own_iload X0 hx 16 (hb hby d21_14) rfl rfl ?_
    refine own_iaload X0 hx hZ e0 17 (f 1).toInt.toNat A_2 (own_nn (own_ge0 h1)) (own_lt5 hf) (hb hby d21_16) rfl ?_
    refine own_iconst X0 hx 18 (1 : Int32) (by decide) (hb hby d21_17) rfl ?_
    refine own_iadd X0 hx 19 (hb hby d21_18) rfl ?_
    refine own_lloadN X0 hx 20 (hb hby d21_19) rfl rfl ?_
    refine own_iconst X0 hx 21 (4 : Int32) (by decide) (hb hby d21_20) rfl ?_
    refine own_iload X0 hx 23 (hb hby d21_21) rfl rfl ?_
    refine own_imulz X0 hx 24 (z := (4 : Int32)) (by decide) (hb hby d21_23) rfl ?_
    refine own_lushr X0 hx 25 (hb hby d21_24) rfl ?_
    refine own_ldc2 X0 hx hZ hown 28 (hw _ (List.mem_of_getElem? (i := 39) rfl)) (hb hby d21_25) rfl ?_
    refine own_land X0 hx 29 (hb hby d21_28) rfl ?_
    refine own_l2i X0 hx 30 (hb hby d21_29) rfl ?_
    refine own_iadd X0 hx 31 (hb hby d21_30) rfl ?_
    exact own_retI X0 hx hret hlk (hb hby d21_31) (by decide) (by decide) ⟨by unfold own_mf1; rw [if_neg h1], N0, e0⟩
  · show own_W p e below _ T0 (mkF m 11 #[.val (.ref t1), .val (.ref t2), .val (.long q2), .second, .val (.int (1 : Int32)), .val (.int (f 1))] [])
    refine own_iconst X0 hx 12 (0 : Int32) (by decide) (hb hby d21_11) rfl ?_
    exact own_retI X0 hx hret hlk (hb hby d21_12) (by decide) (by decide) ⟨by unfold own_mf1; rw [if_pos h1], N0, e0⟩
theorem d12_0 : decode method_3_code 0 = .ok (.iload_n 0, 1) := by decide +kernel
theorem d12_1 : decode method_3_code 1 = .ok (.iconst 3, 1) := by decide +kernel
theorem d12_2 : decode method_3_code 2 = .ok (.iload_n 1, 1) := by decide +kernel
theorem d12_3 : decode method_3_code 3 = .ok (.imul, 1) := by decide +kernel
theorem d12_4 : decode method_3_code 4 = .ok (.iushr, 1) := by decide +kernel
theorem d12_5 : decode method_3_code 5 = .ok (.bipush 7, 2) := by decide +kernel
theorem d12_7 : decode method_3_code 7 = .ok (.iand, 1) := by decide +kernel
theorem d12_8 : decode method_3_code 8 = .ok (.iload_n 1, 1) := by decide +kernel
theorem d12_9 : decode method_3_code 9 = .ok (.iconst 1, 1) := by decide +kernel
theorem d12_10 : decode method_3_code 10 = .ok (.iadd, 1) := by decide +kernel
theorem d12_11 : decode method_3_code 11 = .ok (.irem, 1) := by decide +kernel
theorem d12_12 : decode method_3_code 12 = .ok (.iconst 1, 1) := by decide +kernel
theorem d12_13 : decode method_3_code 13 = .ok (.isub, 1) := by decide +kernel
theorem d12_14 : decode method_3_code 14 = .ok (.ireturn, 1) := by decide +kernel
set_option maxRecDepth 65536 in
set_option maxHeartbeats 40000000 in
theorem rm1_2 (l : Launch) (Z : State) (a0 : Array Value) (hw : ∀ d ∈ tables_1, d.before a0 Z = true) (p0 : Int32) (h0 : Heap) (n0 : Nat) (Z0 : n0 ≤ h0.size)  :
    own_C l Z (⟨"com/example/trubis/trubis/equivalence/BlockHistoryPartedPinLaw", "parentChoice", "(II)I"⟩ : MethodName) method_3_code 2 (some .int) [] ({ frames := 0, cells := 0, slots := 0, locals := 0 } : Room) #[(.int p0), (.int (2 : Int32))] h0 (fun v h L => v = some (.int (own_pc2 p0)) ∧ Fr n0 L ∧ h = h0) := by
  refine own_body (by first | (simp [plainName, overriddenIn]; done) | decide +kernel) ?_
  intro p e s m below meth c T0 hx hby hml hown hnm hret hlk hZ X0 e0
  have N0 := Fr.nil n0
  refine own_eq (f' := (mkF m 0 #[.val (.int p0), .val (.int (2 : Int32))] [])) (by first | (simp [entryFrame, mkF, argsToLocals, Value.category]; done) | rfl) ?_
  refine own_iloadN X0 hx 1 (hb hby d12_0) rfl rfl ?_
  refine own_iconst X0 hx 2 (3 : Int32) (by decide) (hb hby d12_1) rfl ?_
  refine own_iloadN X0 hx 3 (hb hby d12_2) rfl rfl ?_
  refine own_imulz X0 hx 4 (z := (6 : Int32)) (by decide) (hb hby d12_3) rfl ?_
  refine own_iushr X0 hx 5 (hb hby d12_4) rfl ?_
  refine own_bipush X0 hx 7 (7 : Int32) (by decide) (hb hby d12_5) rfl ?_
  refine own_iand X0 hx 8 (hb hby d12_7) rfl ?_
  refine own_iloadN X0 hx 9 (hb hby d12_8) rfl rfl ?_
  refine own_iconst X0 hx 10 (1 : Int32) (by decide) (hb hby d12_9) rfl ?_
  refine own_iaddz X0 hx 11 (z := (3 : Int32)) (by decide) (hb hby d12_10) rfl ?_
  refine own_irem X0 hx 12 (by decide) (hb hby d12_11) rfl ?_
  refine own_iconst X0 hx 13 (1 : Int32) (by decide) (hb hby d12_12) rfl ?_
  refine own_isub X0 hx 14 (hb hby d12_13) rfl ?_
  exact own_retI X0 hx hret hlk (hb hby d12_14) (by decide) (by decide) ⟨by unfold own_pc2; rfl, N0, e0⟩
theorem d22_0 : decode method_4_code 0 = .ok (.aload_n 0, 1) := by decide +kernel
theorem d22_1 : decode method_4_code 1 = .ok (.iload 4, 2) := by decide +kernel
theorem d22_3 : decode method_4_code 3 = .ok (.iaload, 1) := by decide +kernel
theorem d22_4 : decode method_4_code 4 = .ok (.istore 5, 2) := by decide +kernel
theorem d22_6 : decode method_4_code 6 = .ok (.iload 5, 2) := by decide +kernel
theorem d22_8 : decode method_4_code 8 = .ok (.ifCond .ge 5, 3) := by decide +kernel
theorem d22_11 : decode method_4_code 11 = .ok (.iconst 0, 1) := by decide +kernel
theorem d22_12 : decode method_4_code 12 = .ok (.ireturn, 1) := by decide +kernel
theorem d22_13 : decode method_4_code 13 = .ok (.aload_n 1, 1) := by decide +kernel
theorem d22_14 : decode method_4_code 14 = .ok (.iload 5, 2) := by decide +kernel
theorem d22_16 : decode method_4_code 16 = .ok (.iaload, 1) := by decide +kernel
theorem d22_17 : decode method_4_code 17 = .ok (.iconst 1, 1) := by decide +kernel
theorem d22_18 : decode method_4_code 18 = .ok (.iadd, 1) := by decide +kernel
theorem d22_19 : decode method_4_code 19 = .ok (.lload_n 2, 1) := by decide +kernel
theorem d22_20 : decode method_4_code 20 = .ok (.iconst 4, 1) := by decide +kernel
theorem d22_21 : decode method_4_code 21 = .ok (.iload 4, 2) := by decide +kernel
theorem d22_23 : decode method_4_code 23 = .ok (.imul, 1) := by decide +kernel
theorem d22_24 : decode method_4_code 24 = .ok (.lushr, 1) := by decide +kernel
theorem d22_25 : decode method_4_code 25 = .ok (.ldc2_w 41, 3) := by decide +kernel
theorem d22_28 : decode method_4_code 28 = .ok (.land, 1) := by decide +kernel
theorem d22_29 : decode method_4_code 29 = .ok (.l2i, 1) := by decide +kernel
theorem d22_30 : decode method_4_code 30 = .ok (.iadd, 1) := by decide +kernel
theorem d22_31 : decode method_4_code 31 = .ok (.ireturn, 1) := by decide +kernel
set_option maxRecDepth 65536 in
set_option maxHeartbeats 40000000 in
theorem rm2_2 (l : Launch) (Z : State) (a0 : Array Value) (hw : ∀ d ∈ tables_1, d.before a0 Z = true) (t1 t2 : Addr) (q2 : Int64) (f g : Nat → Int32) (h0 : Heap) (n0 : Nat) (Z0 : n0 ≤ h0.size) (hf : (f 2).toInt < 5) (A_1 : own_AI Z h0 t1 .int 5 f) (A_2 : own_AI Z h0 t2 .int 5 g) :
    own_C l Z (⟨"com/example/trubis/trubis/equivalence/BlockHistoryPartedPinLaw", "madeFor", "([I[IJI)I"⟩ : MethodName) method_4_code 6 (some .int) [] ({ frames := 0, cells := 0, slots := 0, locals := 0 } : Room) #[(.ref t1), (.ref t2), (.long q2), (.int (2 : Int32))] h0 (fun v h L => v = some (.int (own_mf2 f g q2)) ∧ Fr n0 L ∧ h = h0) := by
  refine own_body (by first | (simp [plainName, overriddenIn]; done) | decide +kernel) ?_
  intro p e s m below meth c T0 hx hby hml hown hnm hret hlk hZ X0 e0
  have N0 := Fr.nil n0
  refine own_eq (f' := (mkF m 0 #[.val (.ref t1), .val (.ref t2), .val (.long q2), .second, .val (.int (2 : Int32)), .unset] [])) (by first | (simp [entryFrame, mkF, argsToLocals, Value.category]; done) | rfl) ?_
  refine own_aloadN X0 hx 1 (hb hby d22_0) rfl rfl ?_
  refine own_iload X0 hx 3 (hb hby d22_1) rfl rfl ?_
  refine own_iaload X0 hx hZ e0 4 2 A_1 rfl (by decide) (hb hby d22_3) rfl ?_
  refine own_istore X0 hx 6 #[.val (.ref t1), .val (.ref t2), .val (.long q2), .second, .val (.int (2 : Int32)), .val (.int (f 2))] rfl (hb hby d22_4) rfl rfl ?_
  refine own_iload X0 hx 8 (hb hby d22_6) rfl rfl ?_
  refine own_if_ge X0 hx 13 11 (hb hby d22_8) (by decide) (by decide) rfl (fun h1 => ?_) (fun h1 => ?_)
  · show own_W p e below _ T0 (mkF m 13 #[.val (.ref t1), .val (.ref t2), .val (.long q2), .second, .val (.int (2 : Int32)), .val (.int (f 2))] [])
    refine own_aloadN X0 hx 14 (hb hby d22_13) rfl rfl ?_
    refine own_iload X0 hx 16 (hb hby d22_14) rfl rfl ?_
    refine own_iaload X0 hx hZ e0 17 (f 2).toInt.toNat A_2 (own_nn (own_ge0 h1)) (own_lt5 hf) (hb hby d22_16) rfl ?_
    refine own_iconst X0 hx 18 (1 : Int32) (by decide) (hb hby d22_17) rfl ?_
    refine own_iadd X0 hx 19 (hb hby d22_18) rfl ?_
    refine own_lloadN X0 hx 20 (hb hby d22_19) rfl rfl ?_
    refine own_iconst X0 hx 21 (4 : Int32) (by decide) (hb hby d22_20) rfl ?_
    refine own_iload X0 hx 23 (hb hby d22_21) rfl rfl ?_
    refine own_imulz X0 hx 24 (z := (8 : Int32)) (by decide) (hb hby d22_23) rfl ?_
    refine own_lushr X0 hx 25 (hb hby d22_24) rfl ?_
    refine own_ldc2 X0 hx hZ hown 28 (hw _ (List.mem_of_getElem? (i := 39) rfl)) (hb hby d22_25) rfl ?_
    refine own_land X0 hx 29 (hb hby d22_28) rfl ?_
    refine own_l2i X0 hx 30 (hb hby d22_29) rfl ?_
    refine own_iadd X0 hx 31 (hb hby d22_30) rfl ?_
    exact own_retI X0 hx hret hlk (hb hby d22_31) (by decide) (by decide) ⟨by unfold own_mf2; rw [if_neg h1], N0, e0⟩
  · show own_W p e below _ T0 (mkF m 11 #[.val (.ref t1), .val (.ref t2), .val (.long q2), .second, .val (.int (2 : Int32)), .val (.int (f 2))] [])
    refine own_iconst X0 hx 12 (0 : Int32) (by decide) (hb hby d22_11) rfl ?_
    exact own_retI X0 hx hret hlk (hb hby d22_12) (by decide) (by decide) ⟨by unfold own_mf2; rw [if_pos h1], N0, e0⟩
theorem d13_0 : decode method_3_code 0 = .ok (.iload_n 0, 1) := by decide +kernel
theorem d13_1 : decode method_3_code 1 = .ok (.iconst 3, 1) := by decide +kernel
theorem d13_2 : decode method_3_code 2 = .ok (.iload_n 1, 1) := by decide +kernel
theorem d13_3 : decode method_3_code 3 = .ok (.imul, 1) := by decide +kernel
theorem d13_4 : decode method_3_code 4 = .ok (.iushr, 1) := by decide +kernel
theorem d13_5 : decode method_3_code 5 = .ok (.bipush 7, 2) := by decide +kernel
theorem d13_7 : decode method_3_code 7 = .ok (.iand, 1) := by decide +kernel
theorem d13_8 : decode method_3_code 8 = .ok (.iload_n 1, 1) := by decide +kernel
theorem d13_9 : decode method_3_code 9 = .ok (.iconst 1, 1) := by decide +kernel
theorem d13_10 : decode method_3_code 10 = .ok (.iadd, 1) := by decide +kernel
theorem d13_11 : decode method_3_code 11 = .ok (.irem, 1) := by decide +kernel
theorem d13_12 : decode method_3_code 12 = .ok (.iconst 1, 1) := by decide +kernel
theorem d13_13 : decode method_3_code 13 = .ok (.isub, 1) := by decide +kernel
theorem d13_14 : decode method_3_code 14 = .ok (.ireturn, 1) := by decide +kernel
set_option maxRecDepth 65536 in
set_option maxHeartbeats 40000000 in
theorem rm1_3 (l : Launch) (Z : State) (a0 : Array Value) (hw : ∀ d ∈ tables_1, d.before a0 Z = true) (p0 : Int32) (h0 : Heap) (n0 : Nat) (Z0 : n0 ≤ h0.size)  :
    own_C l Z (⟨"com/example/trubis/trubis/equivalence/BlockHistoryPartedPinLaw", "parentChoice", "(II)I"⟩ : MethodName) method_3_code 2 (some .int) [] ({ frames := 0, cells := 0, slots := 0, locals := 0 } : Room) #[(.int p0), (.int (3 : Int32))] h0 (fun v h L => v = some (.int (own_pc3 p0)) ∧ Fr n0 L ∧ h = h0) := by
  refine own_body (by first | (simp [plainName, overriddenIn]; done) | decide +kernel) ?_
  intro p e s m below meth c T0 hx hby hml hown hnm hret hlk hZ X0 e0
  have N0 := Fr.nil n0
  refine own_eq (f' := (mkF m 0 #[.val (.int p0), .val (.int (3 : Int32))] [])) (by first | (simp [entryFrame, mkF, argsToLocals, Value.category]; done) | rfl) ?_
  refine own_iloadN X0 hx 1 (hb hby d13_0) rfl rfl ?_
  refine own_iconst X0 hx 2 (3 : Int32) (by decide) (hb hby d13_1) rfl ?_
  refine own_iloadN X0 hx 3 (hb hby d13_2) rfl rfl ?_
  refine own_imulz X0 hx 4 (z := (9 : Int32)) (by decide) (hb hby d13_3) rfl ?_
  refine own_iushr X0 hx 5 (hb hby d13_4) rfl ?_
  refine own_bipush X0 hx 7 (7 : Int32) (by decide) (hb hby d13_5) rfl ?_
  refine own_iand X0 hx 8 (hb hby d13_7) rfl ?_
  refine own_iloadN X0 hx 9 (hb hby d13_8) rfl rfl ?_
  refine own_iconst X0 hx 10 (1 : Int32) (by decide) (hb hby d13_9) rfl ?_
  refine own_iaddz X0 hx 11 (z := (4 : Int32)) (by decide) (hb hby d13_10) rfl ?_
  refine own_irem X0 hx 12 (by decide) (hb hby d13_11) rfl ?_
  refine own_iconst X0 hx 13 (1 : Int32) (by decide) (hb hby d13_12) rfl ?_
  refine own_isub X0 hx 14 (hb hby d13_13) rfl ?_
  exact own_retI X0 hx hret hlk (hb hby d13_14) (by decide) (by decide) ⟨by unfold own_pc3; rfl, N0, e0⟩
theorem d23_0 : decode method_4_code 0 = .ok (.aload_n 0, 1) := by decide +kernel
theorem d23_1 : decode method_4_code 1 = .ok (.iload 4, 2) := by decide +kernel
theorem d23_3 : decode method_4_code 3 = .ok (.iaload, 1) := by decide +kernel
theorem d23_4 : decode method_4_code 4 = .ok (.istore 5, 2) := by decide +kernel
theorem d23_6 : decode method_4_code 6 = .ok (.iload 5, 2) := by decide +kernel
theorem d23_8 : decode method_4_code 8 = .ok (.ifCond .ge 5, 3) := by decide +kernel
theorem d23_11 : decode method_4_code 11 = .ok (.iconst 0, 1) := by decide +kernel
theorem d23_12 : decode method_4_code 12 = .ok (.ireturn, 1) := by decide +kernel
theorem d23_13 : decode method_4_code 13 = .ok (.aload_n 1, 1) := by decide +kernel
theorem d23_14 : decode method_4_code 14 = .ok (.iload 5, 2) := by decide +kernel
theorem d23_16 : decode method_4_code 16 = .ok (.iaload, 1) := by decide +kernel
theorem d23_17 : decode method_4_code 17 = .ok (.iconst 1, 1) := by decide +kernel
theorem d23_18 : decode method_4_code 18 = .ok (.iadd, 1) := by decide +kernel
theorem d23_19 : decode method_4_code 19 = .ok (.lload_n 2, 1) := by decide +kernel
theorem d23_20 : decode method_4_code 20 = .ok (.iconst 4, 1) := by decide +kernel
theorem d23_21 : decode method_4_code 21 = .ok (.iload 4, 2) := by decide +kernel
theorem d23_23 : decode method_4_code 23 = .ok (.imul, 1) := by decide +kernel
theorem d23_24 : decode method_4_code 24 = .ok (.lushr, 1) := by decide +kernel
theorem d23_25 : decode method_4_code 25 = .ok (.ldc2_w 41, 3) := by decide +kernel
theorem d23_28 : decode method_4_code 28 = .ok (.land, 1) := by decide +kernel
theorem d23_29 : decode method_4_code 29 = .ok (.l2i, 1) := by decide +kernel
theorem d23_30 : decode method_4_code 30 = .ok (.iadd, 1) := by decide +kernel
theorem d23_31 : decode method_4_code 31 = .ok (.ireturn, 1) := by decide +kernel
set_option maxRecDepth 65536 in
set_option maxHeartbeats 40000000 in
theorem rm2_3 (l : Launch) (Z : State) (a0 : Array Value) (hw : ∀ d ∈ tables_1, d.before a0 Z = true) (t1 t2 : Addr) (q2 : Int64) (f g : Nat → Int32) (h0 : Heap) (n0 : Nat) (Z0 : n0 ≤ h0.size) (hf : (f 3).toInt < 5) (A_1 : own_AI Z h0 t1 .int 5 f) (A_2 : own_AI Z h0 t2 .int 5 g) :
    own_C l Z (⟨"com/example/trubis/trubis/equivalence/BlockHistoryPartedPinLaw", "madeFor", "([I[IJI)I"⟩ : MethodName) method_4_code 6 (some .int) [] ({ frames := 0, cells := 0, slots := 0, locals := 0 } : Room) #[(.ref t1), (.ref t2), (.long q2), (.int (3 : Int32))] h0 (fun v h L => v = some (.int (own_mf3 f g q2)) ∧ Fr n0 L ∧ h = h0) := by
  refine own_body (by first | (simp [plainName, overriddenIn]; done) | decide +kernel) ?_
  intro p e s m below meth c T0 hx hby hml hown hnm hret hlk hZ X0 e0
  have N0 := Fr.nil n0
  refine own_eq (f' := (mkF m 0 #[.val (.ref t1), .val (.ref t2), .val (.long q2), .second, .val (.int (3 : Int32)), .unset] [])) (by first | (simp [entryFrame, mkF, argsToLocals, Value.category]; done) | rfl) ?_
  refine own_aloadN X0 hx 1 (hb hby d23_0) rfl rfl ?_
  refine own_iload X0 hx 3 (hb hby d23_1) rfl rfl ?_
  refine own_iaload X0 hx hZ e0 4 3 A_1 rfl (by decide) (hb hby d23_3) rfl ?_
  refine own_istore X0 hx 6 #[.val (.ref t1), .val (.ref t2), .val (.long q2), .second, .val (.int (3 : Int32)), .val (.int (f 3))] rfl (hb hby d23_4) rfl rfl ?_
  refine own_iload X0 hx 8 (hb hby d23_6) rfl rfl ?_
  refine own_if_ge X0 hx 13 11 (hb hby d23_8) (by decide) (by decide) rfl (fun h1 => ?_) (fun h1 => ?_)
  · show own_W p e below _ T0 (mkF m 13 #[.val (.ref t1), .val (.ref t2), .val (.long q2), .second, .val (.int (3 : Int32)), .val (.int (f 3))] [])
    refine own_aloadN X0 hx 14 (hb hby d23_13) rfl rfl ?_
    refine own_iload X0 hx 16 (hb hby d23_14) rfl rfl ?_
    refine own_iaload X0 hx hZ e0 17 (f 3).toInt.toNat A_2 (own_nn (own_ge0 h1)) (own_lt5 hf) (hb hby d23_16) rfl ?_
    refine own_iconst X0 hx 18 (1 : Int32) (by decide) (hb hby d23_17) rfl ?_
    refine own_iadd X0 hx 19 (hb hby d23_18) rfl ?_
    refine own_lloadN X0 hx 20 (hb hby d23_19) rfl rfl ?_
    refine own_iconst X0 hx 21 (4 : Int32) (by decide) (hb hby d23_20) rfl ?_
    refine own_iload X0 hx 23 (hb hby d23_21) rfl rfl ?_
    refine own_imulz X0 hx 24 (z := (12 : Int32)) (by decide) (hb hby d23_23) rfl ?_
    refine own_lushr X0 hx 25 (hb hby d23_24) rfl ?_
    refine own_ldc2 X0 hx hZ hown 28 (hw _ (List.mem_of_getElem? (i := 39) rfl)) (hb hby d23_25) rfl ?_
    refine own_land X0 hx 29 (hb hby d23_28) rfl ?_
    refine own_l2i X0 hx 30 (hb hby d23_29) rfl ?_
    refine own_iadd X0 hx 31 (hb hby d23_30) rfl ?_
    exact own_retI X0 hx hret hlk (hb hby d23_31) (by decide) (by decide) ⟨by unfold own_mf3; rw [if_neg h1], N0, e0⟩
  · show own_W p e below _ T0 (mkF m 11 #[.val (.ref t1), .val (.ref t2), .val (.long q2), .second, .val (.int (3 : Int32)), .val (.int (f 3))] [])
    refine own_iconst X0 hx 12 (0 : Int32) (by decide) (hb hby d23_11) rfl ?_
    exact own_retI X0 hx hret hlk (hb hby d23_12) (by decide) (by decide) ⟨by unfold own_mf3; rw [if_pos h1], N0, e0⟩
theorem d14_0 : decode method_3_code 0 = .ok (.iload_n 0, 1) := by decide +kernel
theorem d14_1 : decode method_3_code 1 = .ok (.iconst 3, 1) := by decide +kernel
theorem d14_2 : decode method_3_code 2 = .ok (.iload_n 1, 1) := by decide +kernel
theorem d14_3 : decode method_3_code 3 = .ok (.imul, 1) := by decide +kernel
theorem d14_4 : decode method_3_code 4 = .ok (.iushr, 1) := by decide +kernel
theorem d14_5 : decode method_3_code 5 = .ok (.bipush 7, 2) := by decide +kernel
theorem d14_7 : decode method_3_code 7 = .ok (.iand, 1) := by decide +kernel
theorem d14_8 : decode method_3_code 8 = .ok (.iload_n 1, 1) := by decide +kernel
theorem d14_9 : decode method_3_code 9 = .ok (.iconst 1, 1) := by decide +kernel
theorem d14_10 : decode method_3_code 10 = .ok (.iadd, 1) := by decide +kernel
theorem d14_11 : decode method_3_code 11 = .ok (.irem, 1) := by decide +kernel
theorem d14_12 : decode method_3_code 12 = .ok (.iconst 1, 1) := by decide +kernel
theorem d14_13 : decode method_3_code 13 = .ok (.isub, 1) := by decide +kernel
theorem d14_14 : decode method_3_code 14 = .ok (.ireturn, 1) := by decide +kernel
set_option maxRecDepth 65536 in
set_option maxHeartbeats 40000000 in
theorem rm1_4 (l : Launch) (Z : State) (a0 : Array Value) (hw : ∀ d ∈ tables_1, d.before a0 Z = true) (p0 : Int32) (h0 : Heap) (n0 : Nat) (Z0 : n0 ≤ h0.size)  :
    own_C l Z (⟨"com/example/trubis/trubis/equivalence/BlockHistoryPartedPinLaw", "parentChoice", "(II)I"⟩ : MethodName) method_3_code 2 (some .int) [] ({ frames := 0, cells := 0, slots := 0, locals := 0 } : Room) #[(.int p0), (.int (4 : Int32))] h0 (fun v h L => v = some (.int (own_pc4 p0)) ∧ Fr n0 L ∧ h = h0) := by
  refine own_body (by first | (simp [plainName, overriddenIn]; done) | decide +kernel) ?_
  intro p e s m below meth c T0 hx hby hml hown hnm hret hlk hZ X0 e0
  have N0 := Fr.nil n0
  refine own_eq (f' := (mkF m 0 #[.val (.int p0), .val (.int (4 : Int32))] [])) (by first | (simp [entryFrame, mkF, argsToLocals, Value.category]; done) | rfl) ?_
  refine own_iloadN X0 hx 1 (hb hby d14_0) rfl rfl ?_
  refine own_iconst X0 hx 2 (3 : Int32) (by decide) (hb hby d14_1) rfl ?_
  refine own_iloadN X0 hx 3 (hb hby d14_2) rfl rfl ?_
  refine own_imulz X0 hx 4 (z := (12 : Int32)) (by decide) (hb hby d14_3) rfl ?_
  refine own_iushr X0 hx 5 (hb hby d14_4) rfl ?_
  refine own_bipush X0 hx 7 (7 : Int32) (by decide) (hb hby d14_5) rfl ?_
  refine own_iand X0 hx 8 (hb hby d14_7) rfl ?_
  refine own_iloadN X0 hx 9 (hb hby d14_8) rfl rfl ?_
  refine own_iconst X0 hx 10 (1 : Int32) (by decide) (hb hby d14_9) rfl ?_
  refine own_iaddz X0 hx 11 (z := (5 : Int32)) (by decide) (hb hby d14_10) rfl ?_
  refine own_irem X0 hx 12 (by decide) (hb hby d14_11) rfl ?_
  refine own_iconst X0 hx 13 (1 : Int32) (by decide) (hb hby d14_12) rfl ?_
  refine own_isub X0 hx 14 (hb hby d14_13) rfl ?_
  exact own_retI X0 hx hret hlk (hb hby d14_14) (by decide) (by decide) ⟨by unfold own_pc4; rfl, N0, e0⟩
theorem d24_0 : decode method_4_code 0 = .ok (.aload_n 0, 1) := by decide +kernel
theorem d24_1 : decode method_4_code 1 = .ok (.iload 4, 2) := by decide +kernel
theorem d24_3 : decode method_4_code 3 = .ok (.iaload, 1) := by decide +kernel
theorem d24_4 : decode method_4_code 4 = .ok (.istore 5, 2) := by decide +kernel
theorem d24_6 : decode method_4_code 6 = .ok (.iload 5, 2) := by decide +kernel
theorem d24_8 : decode method_4_code 8 = .ok (.ifCond .ge 5, 3) := by decide +kernel
theorem d24_11 : decode method_4_code 11 = .ok (.iconst 0, 1) := by decide +kernel
theorem d24_12 : decode method_4_code 12 = .ok (.ireturn, 1) := by decide +kernel
theorem d24_13 : decode method_4_code 13 = .ok (.aload_n 1, 1) := by decide +kernel
theorem d24_14 : decode method_4_code 14 = .ok (.iload 5, 2) := by decide +kernel
theorem d24_16 : decode method_4_code 16 = .ok (.iaload, 1) := by decide +kernel
theorem d24_17 : decode method_4_code 17 = .ok (.iconst 1, 1) := by decide +kernel
theorem d24_18 : decode method_4_code 18 = .ok (.iadd, 1) := by decide +kernel
theorem d24_19 : decode method_4_code 19 = .ok (.lload_n 2, 1) := by decide +kernel
theorem d24_20 : decode method_4_code 20 = .ok (.iconst 4, 1) := by decide +kernel
theorem d24_21 : decode method_4_code 21 = .ok (.iload 4, 2) := by decide +kernel
theorem d24_23 : decode method_4_code 23 = .ok (.imul, 1) := by decide +kernel
theorem d24_24 : decode method_4_code 24 = .ok (.lushr, 1) := by decide +kernel
theorem d24_25 : decode method_4_code 25 = .ok (.ldc2_w 41, 3) := by decide +kernel
theorem d24_28 : decode method_4_code 28 = .ok (.land, 1) := by decide +kernel
theorem d24_29 : decode method_4_code 29 = .ok (.l2i, 1) := by decide +kernel
theorem d24_30 : decode method_4_code 30 = .ok (.iadd, 1) := by decide +kernel
theorem d24_31 : decode method_4_code 31 = .ok (.ireturn, 1) := by decide +kernel
set_option maxRecDepth 65536 in
set_option maxHeartbeats 40000000 in
theorem rm2_4 (l : Launch) (Z : State) (a0 : Array Value) (hw : ∀ d ∈ tables_1, d.before a0 Z = true) (t1 t2 : Addr) (q2 : Int64) (f g : Nat → Int32) (h0 : Heap) (n0 : Nat) (Z0 : n0 ≤ h0.size) (hf : (f 4).toInt < 5) (A_1 : own_AI Z h0 t1 .int 5 f) (A_2 : own_AI Z h0 t2 .int 5 g) :
    own_C l Z (⟨"com/example/trubis/trubis/equivalence/BlockHistoryPartedPinLaw", "madeFor", "([I[IJI)I"⟩ : MethodName) method_4_code 6 (some .int) [] ({ frames := 0, cells := 0, slots := 0, locals := 0 } : Room) #[(.ref t1), (.ref t2), (.long q2), (.int (4 : Int32))] h0 (fun v h L => v = some (.int (own_mf4 f g q2)) ∧ Fr n0 L ∧ h = h0) := by
  refine own_body (by first | (simp [plainName, overriddenIn]; done) | decide +kernel) ?_
  intro p e s m below meth c T0 hx hby hml hown hnm hret hlk hZ X0 e0
  have N0 := Fr.nil n0
  refine own_eq (f' := (mkF m 0 #[.val (.ref t1), .val (.ref t2), .val (.long q2), .second, .val (.int (4 : Int32)), .unset] [])) (by first | (simp [entryFrame, mkF, argsToLocals, Value.category]; done) | rfl) ?_
  refine own_aloadN X0 hx 1 (hb hby d24_0) rfl rfl ?_
  refine own_iload X0 hx 3 (hb hby d24_1) rfl rfl ?_
  refine own_iaload X0 hx hZ e0 4 4 A_1 rfl (by decide) (hb hby d24_3) rfl ?_
  refine own_istore X0 hx 6 #[.val (.ref t1), .val (.ref t2), .val (.long q2), .second, .val (.int (4 : Int32)), .val (.int (f 4))] rfl (hb hby d24_4) rfl rfl ?_
  refine own_iload X0 hx 8 (hb hby d24_6) rfl rfl ?_
  refine own_if_ge X0 hx 13 11 (hb hby d24_8) (by decide) (by decide) rfl (fun h1 => ?_) (fun h1 => ?_)
  · show own_W p e below _ T0 (mkF m 13 #[.val (.ref t1), .val (.ref t2), .val (.long q2), .second, .val (.int (4 : Int32)), .val (.int (f 4))] [])
    refine own_aloadN X0 hx 14 (hb hby d24_13) rfl rfl ?_
    refine own_iload X0 hx 16 (hb hby d24_14) rfl rfl ?_
    refine own_iaload X0 hx hZ e0 17 (f 4).toInt.toNat A_2 (own_nn (own_ge0 h1)) (own_lt5 hf) (hb hby d24_16) rfl ?_
    refine own_iconst X0 hx 18 (1 : Int32) (by decide) (hb hby d24_17) rfl ?_
    refine own_iadd X0 hx 19 (hb hby d24_18) rfl ?_
    refine own_lloadN X0 hx 20 (hb hby d24_19) rfl rfl ?_
    refine own_iconst X0 hx 21 (4 : Int32) (by decide) (hb hby d24_20) rfl ?_
    refine own_iload X0 hx 23 (hb hby d24_21) rfl rfl ?_
    refine own_imulz X0 hx 24 (z := (16 : Int32)) (by decide) (hb hby d24_23) rfl ?_
    refine own_lushr X0 hx 25 (hb hby d24_24) rfl ?_
    refine own_ldc2 X0 hx hZ hown 28 (hw _ (List.mem_of_getElem? (i := 39) rfl)) (hb hby d24_25) rfl ?_
    refine own_land X0 hx 29 (hb hby d24_28) rfl ?_
    refine own_l2i X0 hx 30 (hb hby d24_29) rfl ?_
    refine own_iadd X0 hx 31 (hb hby d24_30) rfl ?_
    exact own_retI X0 hx hret hlk (hb hby d24_31) (by decide) (by decide) ⟨by unfold own_mf4; rw [if_neg h1], N0, e0⟩
  · show own_W p e below _ T0 (mkF m 11 #[.val (.ref t1), .val (.ref t2), .val (.long q2), .second, .val (.int (4 : Int32)), .val (.int (f 4))] [])
    refine own_iconst X0 hx 12 (0 : Int32) (by decide) (hb hby d24_11) rfl ?_
    exact own_retI X0 hx hret hlk (hb hby d24_12) (by decide) (by decide) ⟨by unfold own_mf4; rw [if_pos h1], N0, e0⟩
theorem d3_0 : decode prog_1_method_1_code 0 = .ok (.aload_n 0, 1) := by decide +kernel
theorem d3_1 : decode prog_1_method_1_code 1 = .ok (.invokespecial 1, 3) := by decide +kernel
theorem d3_4 : decode prog_1_method_1_code 4 = .ok (.aload_n 0, 1) := by decide +kernel
theorem d3_5 : decode prog_1_method_1_code 5 = .ok (.aload_n 1, 1) := by decide +kernel
theorem d3_6 : decode prog_1_method_1_code 6 = .ok (.putfield 7, 3) := by decide +kernel
theorem d3_9 : decode prog_1_method_1_code 9 = .ok (.aload_n 0, 1) := by decide +kernel
theorem d3_10 : decode prog_1_method_1_code 10 = .ok (.aload_n 2, 1) := by decide +kernel
theorem d3_11 : decode prog_1_method_1_code 11 = .ok (.putfield 13, 3) := by decide +kernel
theorem d3_14 : decode prog_1_method_1_code 14 = .ok (.aload_n 0, 1) := by decide +kernel
theorem d3_15 : decode prog_1_method_1_code 15 = .ok (.aload_n 3, 1) := by decide +kernel
theorem d3_16 : decode prog_1_method_1_code 16 = .ok (.putfield 16, 3) := by decide +kernel
theorem d3_19 : decode prog_1_method_1_code 19 = .ok (.return_, 1) := by decide +kernel
set_option maxRecDepth 65536 in
set_option maxHeartbeats 40000000 in
theorem rm3 (l : Launch) (Z : State) (a0 : Array Value) (hw : ∀ d ∈ tables_1, d.before a0 Z = true) (a t1 t2 t3 : Addr) (h0 : Heap) (n0 : Nat) (Z0 : n0 ≤ h0.size) (ga : n0 ≤ a) (E_a : Exa Z h0 a "com/example/trubis/trubis/equivalence/BlockHistory") (F_blockOf : Fld Z h0 a "com/example/trubis/trubis/equivalence/BlockHistory" "blockOf" "[I" .null) (F_parentOf : Fld Z h0 a "com/example/trubis/trubis/equivalence/BlockHistory" "parentOf" "[I" .null) (F_madeIn : Fld Z h0 a "com/example/trubis/trubis/equivalence/BlockHistory" "madeIn" "[I" .null) :
    own_C l Z (⟨"com/example/trubis/trubis/equivalence/BlockHistory", "<init>", "([I[I[I)V"⟩ : MethodName) prog_1_method_1_code 4 none [] ({ frames := 1, cells := 0, slots := 0, locals := 12 } : Room) #[(.ref a), (.ref t1), (.ref t2), (.ref t3)] h0 (fun v h L => v = none ∧ Fr n0 L ∧ Keep h0 h [a] ∧ Fld Z h a "com/example/trubis/trubis/equivalence/BlockHistory" "blockOf" "[I" (.ref t1) ∧ Fld Z h a "com/example/trubis/trubis/equivalence/BlockHistory" "parentOf" "[I" (.ref t2) ∧ Fld Z h a "com/example/trubis/trubis/equivalence/BlockHistory" "madeIn" "[I" (.ref t3)) := by
  refine own_body (by first | (simp [plainName, overriddenIn]; done) | decide +kernel) ?_
  intro p e s m below meth c T0 hx hby hml hown hnm hret hlk hZ X0 e0
  have N0 := Fr.nil n0
  refine own_eq (f' := (mkF m 0 #[.val (.ref a), .val (.ref t1), .val (.ref t2), .val (.ref t3)] [])) (by first | (simp [entryFrame, mkF, argsToLocals, Value.category]; done) | rfl) ?_
  refine own_aloadN X0 hx 1 (hb hby d3_0) rfl rfl ?_
  refine own_initO X0 hx hZ hown e0 (W := 0) 4 (hw _ (List.mem_of_getElem? (i := 15) rfl)) (hw _ (List.mem_of_getElem? (i := 16) rfl)) (hw _ (List.mem_of_getElem? (i := 17) rfl)) (by rw [hml]; rfl) (hb hby d3_1) rfl (by decide) rfl (by decide) (fun T1 X2 e3 => ?_)
  refine own_aloadN X2 hx 5 (hb hby d3_4) rfl rfl ?_
  refine own_aloadN X2 hx 6 (hb hby d3_5) rfl rfl ?_
  refine own_putF X2 hx hZ hown e3 9 (hw _ (List.mem_of_getElem? (i := 18) rfl)) F_blockOf E_a (Or.inr ⟨(hw _ (List.mem_of_getElem? (i := 19) rfl)), rfl, hnm⟩) (hw _ (List.mem_of_getElem? (i := 10) rfl)) (ty := (.array .int)) (by decide) rfl rfl (hb hby d3_6) rfl (fun T4 h5 X6 e7 W8 => ?_)
  have f9 := E_a.wr W8
  have f10 := F_blockOf.same W8
  have f11 := F_parentOf.other W8 (Or.inr (slot_ne (Or.inr (hw _ (List.mem_of_getElem? (i := 21) rfl))) (Or.inr (hw _ (List.mem_of_getElem? (i := 19) rfl))) (by decide) (t := (.array .int)) (t' := (.array .int)) (by decide) (by decide)))
  have f12 := F_madeIn.other W8 (Or.inr (slot_ne (Or.inr (hw _ (List.mem_of_getElem? (i := 23) rfl))) (Or.inr (hw _ (List.mem_of_getElem? (i := 19) rfl))) (by decide) (t := (.array .int)) (t' := (.array .int)) (by decide) (by decide)))
  have Z13 : n0 ≤ h5.size := Nat.le_trans Z0 (Keep.of_wr W8).1
  have K14 := (Keep.refl h0 [a]).wr W8 (Or.inl (List.mem_of_getElem? (i := 0) rfl))
  have N15 := Fr.snoc X6 N0 ga
  refine own_aloadN X6 hx 10 (hb hby d3_9) rfl rfl ?_
  refine own_aloadN X6 hx 11 (hb hby d3_10) rfl rfl ?_
  refine own_putF X6 hx hZ hown e7 14 (hw _ (List.mem_of_getElem? (i := 20) rfl)) f11 f9 (Or.inr ⟨(hw _ (List.mem_of_getElem? (i := 21) rfl)), rfl, hnm⟩) (hw _ (List.mem_of_getElem? (i := 10) rfl)) (ty := (.array .int)) (by decide) rfl rfl (hb hby d3_11) rfl (fun T16 h17 X18 e19 W20 => ?_)
  have f21 := f9.wr W20
  have f22 := f10.other W20 (Or.inr (slot_ne (Or.inr (hw _ (List.mem_of_getElem? (i := 19) rfl))) (Or.inr (hw _ (List.mem_of_getElem? (i := 21) rfl))) (by decide) (t := (.array .int)) (t' := (.array .int)) (by decide) (by decide)))
  have f23 := f11.same W20
  have f24 := f12.other W20 (Or.inr (slot_ne (Or.inr (hw _ (List.mem_of_getElem? (i := 23) rfl))) (Or.inr (hw _ (List.mem_of_getElem? (i := 21) rfl))) (by decide) (t := (.array .int)) (t' := (.array .int)) (by decide) (by decide)))
  have Z25 : n0 ≤ h17.size := Nat.le_trans Z13 (Keep.of_wr W20).1
  have K26 := K14.wr W20 (Or.inl (List.mem_of_getElem? (i := 0) rfl))
  have N27 := Fr.snoc X18 N15 ga
  refine own_aloadN X18 hx 15 (hb hby d3_14) rfl rfl ?_
  refine own_aloadN X18 hx 16 (hb hby d3_15) rfl rfl ?_
  refine own_putF X18 hx hZ hown e19 19 (hw _ (List.mem_of_getElem? (i := 22) rfl)) f24 f21 (Or.inr ⟨(hw _ (List.mem_of_getElem? (i := 23) rfl)), rfl, hnm⟩) (hw _ (List.mem_of_getElem? (i := 10) rfl)) (ty := (.array .int)) (by decide) rfl rfl (hb hby d3_16) rfl (fun T28 h29 X30 e31 W32 => ?_)
  have f33 := f21.wr W32
  have f34 := f22.other W32 (Or.inr (slot_ne (Or.inr (hw _ (List.mem_of_getElem? (i := 19) rfl))) (Or.inr (hw _ (List.mem_of_getElem? (i := 23) rfl))) (by decide) (t := (.array .int)) (t' := (.array .int)) (by decide) (by decide)))
  have f35 := f23.other W32 (Or.inr (slot_ne (Or.inr (hw _ (List.mem_of_getElem? (i := 21) rfl))) (Or.inr (hw _ (List.mem_of_getElem? (i := 23) rfl))) (by decide) (t := (.array .int)) (t' := (.array .int)) (by decide) (by decide)))
  have f36 := f24.same W32
  have Z37 : n0 ≤ h29.size := Nat.le_trans Z25 (Keep.of_wr W32).1
  have K38 := K26.wr W32 (Or.inl (List.mem_of_getElem? (i := 0) rfl))
  have N39 := Fr.snoc X30 N27 ga
  exact own_retV X30 hx hret hlk (hb hby d3_19) (by decide) (by decide) ⟨rfl, N39, by rw [e31]; exact ⟨K38, f34, f35, f36⟩⟩
theorem d5_0 : decode method_5_code 0 = .ok (.iload_n 1, 1) := by decide +kernel
theorem d5_1 : decode method_5_code 1 = .ok (.ifCond .ge 7, 3) := by decide +kernel
theorem d5_4 : decode method_5_code 4 = .ok (.iconst (-1), 1) := by decide +kernel
theorem d5_5 : decode method_5_code 5 = .ok (.goto 6, 3) := by decide +kernel
theorem d5_8 : decode method_5_code 8 = .ok (.aload_n 0, 1) := by decide +kernel
theorem d5_9 : decode method_5_code 9 = .ok (.iload_n 1, 1) := by decide +kernel
theorem d5_10 : decode method_5_code 10 = .ok (.iaload, 1) := by decide +kernel
theorem d5_11 : decode method_5_code 11 = .ok (.ireturn, 1) := by decide +kernel
set_option maxRecDepth 65536 in
set_option maxHeartbeats 40000000 in
theorem rm5 (l : Launch) (Z : State) (a0 : Array Value) (hw : ∀ d ∈ tables_1, d.before a0 Z = true) (t1 : Addr) (p1 : Int32) (par : Nat → Int32) (h0 : Heap) (n0 : Nat) (Z0 : n0 ≤ h0.size) (hv : p1.toInt < 5) (A_1 : own_AI Z h0 t1 .int 5 par) :
    own_C l Z (⟨"com/example/trubis/trubis/equivalence/BlockHistoryPartedPinLaw", "up", "([II)I"⟩ : MethodName) method_5_code 2 (some .int) [] ({ frames := 0, cells := 0, slots := 0, locals := 0 } : Room) #[(.ref t1), (.int p1)] h0 (fun v h L => v = some (.int (own_up par p1)) ∧ Fr n0 L ∧ h = h0) := by
  refine own_body (by first | (simp [plainName, overriddenIn]; done) | decide +kernel) ?_
  intro p e s m below meth c T0 hx hby hml hown hnm hret hlk hZ X0 e0
  have N0 := Fr.nil n0
  refine own_eq (f' := (mkF m 0 #[.val (.ref t1), .val (.int p1)] [])) (by first | (simp [entryFrame, mkF, argsToLocals, Value.category]; done) | rfl) ?_
  refine own_iloadN X0 hx 1 (hb hby d5_0) rfl rfl ?_
  refine own_if_ge X0 hx 8 4 (hb hby d5_1) (by decide) (by decide) rfl (fun h1 => ?_) (fun h1 => ?_)
  · show own_W p e below _ T0 (mkF m 8 #[.val (.ref t1), .val (.int p1)] [])
    refine own_aloadN X0 hx 9 (hb hby d5_8) rfl rfl ?_
    refine own_iloadN X0 hx 10 (hb hby d5_9) rfl rfl ?_
    refine own_iaload X0 hx hZ e0 11 p1.toInt.toNat A_1 (own_nn (own_ge0 h1)) (own_lt5 hv) (hb hby d5_10) rfl ?_
    exact own_retI X0 hx hret hlk (hb hby d5_11) (by decide) (by decide) ⟨by unfold own_up; rw [if_neg h1], N0, e0⟩
  · show own_W p e below _ T0 (mkF m 4 #[.val (.ref t1), .val (.int p1)] [])
    refine own_iconst X0 hx 5 (-1 : Int32) (by decide) (hb hby d5_4) rfl ?_
    refine own_goto X0 hx 11 (hb hby d5_5) (by decide) (by decide) ?_
    exact own_retI X0 hx hret hlk (hb hby d5_11) (by decide) (by decide) ⟨by unfold own_up; rw [if_pos h1], N0, e0⟩
theorem d6_0 : decode method_6_code 0 = .ok (.iconst 5, 1) := by decide +kernel
theorem d6_1 : decode method_6_code 1 = .ok (.newarray .int, 2) := by decide +kernel
theorem d6_3 : decode method_6_code 3 = .ok (.astore_n 2, 1) := by decide +kernel
theorem d6_4 : decode method_6_code 4 = .ok (.aload_n 2, 1) := by decide +kernel
theorem d6_5 : decode method_6_code 5 = .ok (.iconst 0, 1) := by decide +kernel
theorem d6_6 : decode method_6_code 6 = .ok (.iload_n 1, 1) := by decide +kernel
theorem d6_7 : decode method_6_code 7 = .ok (.iastore, 1) := by decide +kernel
theorem d6_8 : decode method_6_code 8 = .ok (.aload_n 2, 1) := by decide +kernel
theorem d6_9 : decode method_6_code 9 = .ok (.iconst 1, 1) := by decide +kernel
theorem d6_10 : decode method_6_code 10 = .ok (.aload_n 0, 1) := by decide +kernel
theorem d6_11 : decode method_6_code 11 = .ok (.aload_n 2, 1) := by decide +kernel
theorem d6_12 : decode method_6_code 12 = .ok (.iconst 0, 1) := by decide +kernel
theorem d6_13 : decode method_6_code 13 = .ok (.iaload, 1) := by decide +kernel
theorem d6_14 : decode method_6_code 14 = .ok (.invokestatic 43, 3) := by decide +kernel
theorem d6_17 : decode method_6_code 17 = .ok (.iastore, 1) := by decide +kernel
theorem d6_18 : decode method_6_code 18 = .ok (.aload_n 2, 1) := by decide +kernel
theorem d6_19 : decode method_6_code 19 = .ok (.iconst 2, 1) := by decide +kernel
theorem d6_20 : decode method_6_code 20 = .ok (.aload_n 0, 1) := by decide +kernel
theorem d6_21 : decode method_6_code 21 = .ok (.aload_n 2, 1) := by decide +kernel
theorem d6_22 : decode method_6_code 22 = .ok (.iconst 1, 1) := by decide +kernel
theorem d6_23 : decode method_6_code 23 = .ok (.iaload, 1) := by decide +kernel
theorem d6_24 : decode method_6_code 24 = .ok (.invokestatic 43, 3) := by decide +kernel
theorem d6_27 : decode method_6_code 27 = .ok (.iastore, 1) := by decide +kernel
theorem d6_28 : decode method_6_code 28 = .ok (.aload_n 2, 1) := by decide +kernel
theorem d6_29 : decode method_6_code 29 = .ok (.iconst 3, 1) := by decide +kernel
theorem d6_30 : decode method_6_code 30 = .ok (.aload_n 0, 1) := by decide +kernel
theorem d6_31 : decode method_6_code 31 = .ok (.aload_n 2, 1) := by decide +kernel
theorem d6_32 : decode method_6_code 32 = .ok (.iconst 2, 1) := by decide +kernel
theorem d6_33 : decode method_6_code 33 = .ok (.iaload, 1) := by decide +kernel
theorem d6_34 : decode method_6_code 34 = .ok (.invokestatic 43, 3) := by decide +kernel
theorem d6_37 : decode method_6_code 37 = .ok (.iastore, 1) := by decide +kernel
theorem d6_38 : decode method_6_code 38 = .ok (.aload_n 2, 1) := by decide +kernel
theorem d6_39 : decode method_6_code 39 = .ok (.iconst 4, 1) := by decide +kernel
theorem d6_40 : decode method_6_code 40 = .ok (.aload_n 0, 1) := by decide +kernel
theorem d6_41 : decode method_6_code 41 = .ok (.aload_n 2, 1) := by decide +kernel
theorem d6_42 : decode method_6_code 42 = .ok (.iconst 3, 1) := by decide +kernel
theorem d6_43 : decode method_6_code 43 = .ok (.iaload, 1) := by decide +kernel
theorem d6_44 : decode method_6_code 44 = .ok (.invokestatic 43, 3) := by decide +kernel
theorem d6_47 : decode method_6_code 47 = .ok (.iastore, 1) := by decide +kernel
theorem d6_48 : decode method_6_code 48 = .ok (.aload_n 2, 1) := by decide +kernel
theorem d6_49 : decode method_6_code 49 = .ok (.areturn, 1) := by decide +kernel
set_option maxRecDepth 65536 in
set_option maxHeartbeats 40000000 in
theorem rm6 (l : Launch) (Z : State) (a0 : Array Value) (hw : ∀ d ∈ tables_1, d.before a0 Z = true) (t1 : Addr) (p1 : Int32) (par made : Nat → Int32) (h0 : Heap) (n0 : Nat) (Z0 : n0 ≤ h0.size) (ok : own_ok par made) (hv : p1.toInt < 5) (A_1 : own_AI Z h0 t1 .int 5 par) :
    own_C l Z (⟨"com/example/trubis/trubis/equivalence/BlockHistoryPartedPinLaw", "chain", "([II)[I"⟩ : MethodName) method_6_code 3 (some (.array .int)) [] ({ frames := 1, cells := 1, slots := 5, locals := 15 } : Room) #[(.ref t1), (.int p1)] h0 (fun v h L => ∃ t, v = some (.ref t) ∧ n0 ≤ t ∧ h0.size ≤ t ∧ Fr n0 L ∧ Keep h0 h [] ∧ own_AI Z h t .int 5 (own_ch par p1)) := by
  refine own_body (by first | (simp [plainName, overriddenIn]; done) | decide +kernel) ?_
  intro p e s m below meth c T0 hx hby hml hown hnm hret hlk hZ X0 e0
  have N0 := Fr.nil n0
  refine own_eq (f' := (mkF m 0 #[.val (.ref t1), .val (.int p1), .unset] [])) (by first | (simp [entryFrame, mkF, argsToLocals, Value.category]; done) | rfl) ?_
  refine own_iconst X0 hx 1 (5 : Int32) (by decide) (hb hby d6_0) rfl ?_
  refine own_newI X0 hx hZ e0 (n := 5) (cap := 5) 3 .int rfl rfl (hw _ (List.mem_of_getElem? (i := 0) rfl)) rfl (by decide) (by decide) (hb hby d6_1) rfl (by decide) (by decide) (fun T1 h2 a3 X4 e5 g6 E7 A8 => ?_)
  have ne9 : t1 ≠ a3 := fun q => absurd (A_1.lt) (by rw [q, g6]; exact Nat.lt_irrefl _)
  have ga10 : n0 ≤ a3 := by rw [g6]; exact Z0
  have bo11 : h0.size ≤ a3 := by rw [g6]; exact (Keep.refl h0 []).1
  have f12 := A_1.ext E7
  have Z13 : n0 ≤ h2.size := Nat.le_trans Z0 E7.1
  have K14 := (Keep.refl h0 []).ext E7
  refine own_astoreN X4 hx 4 #[.val (.ref t1), .val (.int p1), .val (.ref a3)] rfl (hb hby d6_3) rfl rfl ?_
  refine own_aloadN X4 hx 5 (hb hby d6_4) rfl rfl ?_
  refine own_iconst X4 hx 6 (0 : Int32) (by decide) (hb hby d6_5) rfl ?_
  refine own_iloadN X4 hx 7 (hb hby d6_6) rfl rfl ?_
  refine own_iastore X4 hx hZ e5 8 0 A8 rfl (by decide) (hb hby d6_7) rfl (fun T15 h16 X17 e18 W19 => ?_)
  have f20 := f12.other W19 ne9
  have f21 := A8.set W19
  have Z22 : n0 ≤ h16.size := Nat.le_trans Z13 (Keep.of_wr W19).1
  have K23 := K14.wr W19 (Or.inr bo11)
  have N24 := Fr.snoc X17 N0 ga10
  refine own_aloadN X17 hx 9 (hb hby d6_8) rfl rfl ?_
  refine own_iconst X17 hx 10 (1 : Int32) (by decide) (hb hby d6_9) rfl ?_
  refine own_aloadN X17 hx 11 (hb hby d6_10) rfl rfl ?_
  refine own_aloadN X17 hx 12 (hb hby d6_11) rfl rfl ?_
  refine own_iconst X17 hx 13 (0 : Int32) (by decide) (hb hby d6_12) rfl ?_
  refine own_iaload X17 hx hZ e18 14 0 f21 rfl (by decide) (hb hby d6_13) rfl ?_
  show own_W p e below _ T15 (mkF m 14 #[.val (.ref t1), .val (.int p1), .val (.ref a3)] [(.int p1), (.ref t1), (.int (1 : Int32)), (.ref a3)])
  refine own_callS X17 hx hZ hown e18 (y := (⟨"com/example/trubis/trubis/equivalence/BlockHistoryPartedPinLaw", "up", "([II)I"⟩ : MethodName)) (argsL := [(.ref t1), (.int p1)]) (rest := [(.int (1 : Int32)), (.ref a3)]) 17 (rm5 l Z a0 hw t1 p1 par h16 n0 Z22 (own_chlt ok p1 hv 0) f20) (hw _ (List.mem_of_getElem? (i := 33) rfl)) (hw _ (List.mem_of_getElem? (i := 34) rfl)) (hw _ (List.mem_of_getElem? (i := 3) rfl)) (hw _ (List.mem_of_getElem? (i := 35) rfl)) (by decide) (by rw [hml]; rfl) (lenOf (by decide +kernel : parseMethodDescriptor "([II)I" = some ⟨[(.array .int), .int], some .int⟩) rfl) rfl (hb hby d6_14) rfl (W := 2) rfl (by decide) (by decide) (by decide) (by decide) (fun r25 T26 L27 X28 q29 => ?_)
  obtain ⟨rfl, N30q, e31⟩ := q29
  have N30 := Fr.app N24 N30q
  show own_W p e below _ T26 (mkF m 17 #[.val (.ref t1), .val (.int p1), .val (.ref a3)] [(.int (own_ch par p1 1)), (.int (1 : Int32)), (.ref a3)])
  refine own_iastore X28 hx hZ e31 18 1 f21 rfl (by decide) (hb hby d6_17) rfl (fun T32 h33 X34 e35 W36 => ?_)
  have f37 := f20.other W36 ne9
  have f38 := f21.set W36
  have Z39 : n0 ≤ h33.size := Nat.le_trans Z22 (Keep.of_wr W36).1
  have K40 := K23.wr W36 (Or.inr bo11)
  have N41 := Fr.snoc X34 N30 ga10
  refine own_aloadN X34 hx 19 (hb hby d6_18) rfl rfl ?_
  refine own_iconst X34 hx 20 (2 : Int32) (by decide) (hb hby d6_19) rfl ?_
  refine own_aloadN X34 hx 21 (hb hby d6_20) rfl rfl ?_
  refine own_aloadN X34 hx 22 (hb hby d6_21) rfl rfl ?_
  refine own_iconst X34 hx 23 (1 : Int32) (by decide) (hb hby d6_22) rfl ?_
  refine own_iaload X34 hx hZ e35 24 1 f38 rfl (by decide) (hb hby d6_23) rfl ?_
  show own_W p e below _ T32 (mkF m 24 #[.val (.ref t1), .val (.int p1), .val (.ref a3)] [(.int (own_ch par p1 1)), (.ref t1), (.int (2 : Int32)), (.ref a3)])
  refine own_callS X34 hx hZ hown e35 (y := (⟨"com/example/trubis/trubis/equivalence/BlockHistoryPartedPinLaw", "up", "([II)I"⟩ : MethodName)) (argsL := [(.ref t1), (.int (own_ch par p1 1))]) (rest := [(.int (2 : Int32)), (.ref a3)]) 27 (rm5 l Z a0 hw t1 (own_ch par p1 1) par h33 n0 Z39 (own_chlt ok p1 hv 1) f37) (hw _ (List.mem_of_getElem? (i := 33) rfl)) (hw _ (List.mem_of_getElem? (i := 34) rfl)) (hw _ (List.mem_of_getElem? (i := 3) rfl)) (hw _ (List.mem_of_getElem? (i := 35) rfl)) (by decide) (by rw [hml]; rfl) (lenOf (by decide +kernel : parseMethodDescriptor "([II)I" = some ⟨[(.array .int), .int], some .int⟩) rfl) rfl (hb hby d6_24) rfl (W := 2) rfl (by decide) (by decide) (by decide) (by decide) (fun r42 T43 L44 X45 q46 => ?_)
  obtain ⟨rfl, N47q, e48⟩ := q46
  have N47 := Fr.app N41 N47q
  show own_W p e below _ T43 (mkF m 27 #[.val (.ref t1), .val (.int p1), .val (.ref a3)] [(.int (own_ch par p1 2)), (.int (2 : Int32)), (.ref a3)])
  refine own_iastore X45 hx hZ e48 28 2 f38 rfl (by decide) (hb hby d6_27) rfl (fun T49 h50 X51 e52 W53 => ?_)
  have f54 := f37.other W53 ne9
  have f55 := f38.set W53
  have Z56 : n0 ≤ h50.size := Nat.le_trans Z39 (Keep.of_wr W53).1
  have K57 := K40.wr W53 (Or.inr bo11)
  have N58 := Fr.snoc X51 N47 ga10
  refine own_aloadN X51 hx 29 (hb hby d6_28) rfl rfl ?_
  refine own_iconst X51 hx 30 (3 : Int32) (by decide) (hb hby d6_29) rfl ?_
  refine own_aloadN X51 hx 31 (hb hby d6_30) rfl rfl ?_
  refine own_aloadN X51 hx 32 (hb hby d6_31) rfl rfl ?_
  refine own_iconst X51 hx 33 (2 : Int32) (by decide) (hb hby d6_32) rfl ?_
  refine own_iaload X51 hx hZ e52 34 2 f55 rfl (by decide) (hb hby d6_33) rfl ?_
  show own_W p e below _ T49 (mkF m 34 #[.val (.ref t1), .val (.int p1), .val (.ref a3)] [(.int (own_ch par p1 2)), (.ref t1), (.int (3 : Int32)), (.ref a3)])
  refine own_callS X51 hx hZ hown e52 (y := (⟨"com/example/trubis/trubis/equivalence/BlockHistoryPartedPinLaw", "up", "([II)I"⟩ : MethodName)) (argsL := [(.ref t1), (.int (own_ch par p1 2))]) (rest := [(.int (3 : Int32)), (.ref a3)]) 37 (rm5 l Z a0 hw t1 (own_ch par p1 2) par h50 n0 Z56 (own_chlt ok p1 hv 2) f54) (hw _ (List.mem_of_getElem? (i := 33) rfl)) (hw _ (List.mem_of_getElem? (i := 34) rfl)) (hw _ (List.mem_of_getElem? (i := 3) rfl)) (hw _ (List.mem_of_getElem? (i := 35) rfl)) (by decide) (by rw [hml]; rfl) (lenOf (by decide +kernel : parseMethodDescriptor "([II)I" = some ⟨[(.array .int), .int], some .int⟩) rfl) rfl (hb hby d6_34) rfl (W := 2) rfl (by decide) (by decide) (by decide) (by decide) (fun r59 T60 L61 X62 q63 => ?_)
  obtain ⟨rfl, N64q, e65⟩ := q63
  have N64 := Fr.app N58 N64q
  show own_W p e below _ T60 (mkF m 37 #[.val (.ref t1), .val (.int p1), .val (.ref a3)] [(.int (own_ch par p1 3)), (.int (3 : Int32)), (.ref a3)])
  refine own_iastore X62 hx hZ e65 38 3 f55 rfl (by decide) (hb hby d6_37) rfl (fun T66 h67 X68 e69 W70 => ?_)
  have f71 := f54.other W70 ne9
  have f72 := f55.set W70
  have Z73 : n0 ≤ h67.size := Nat.le_trans Z56 (Keep.of_wr W70).1
  have K74 := K57.wr W70 (Or.inr bo11)
  have N75 := Fr.snoc X68 N64 ga10
  refine own_aloadN X68 hx 39 (hb hby d6_38) rfl rfl ?_
  refine own_iconst X68 hx 40 (4 : Int32) (by decide) (hb hby d6_39) rfl ?_
  refine own_aloadN X68 hx 41 (hb hby d6_40) rfl rfl ?_
  refine own_aloadN X68 hx 42 (hb hby d6_41) rfl rfl ?_
  refine own_iconst X68 hx 43 (3 : Int32) (by decide) (hb hby d6_42) rfl ?_
  refine own_iaload X68 hx hZ e69 44 3 f72 rfl (by decide) (hb hby d6_43) rfl ?_
  show own_W p e below _ T66 (mkF m 44 #[.val (.ref t1), .val (.int p1), .val (.ref a3)] [(.int (own_ch par p1 3)), (.ref t1), (.int (4 : Int32)), (.ref a3)])
  refine own_callS X68 hx hZ hown e69 (y := (⟨"com/example/trubis/trubis/equivalence/BlockHistoryPartedPinLaw", "up", "([II)I"⟩ : MethodName)) (argsL := [(.ref t1), (.int (own_ch par p1 3))]) (rest := [(.int (4 : Int32)), (.ref a3)]) 47 (rm5 l Z a0 hw t1 (own_ch par p1 3) par h67 n0 Z73 (own_chlt ok p1 hv 3) f71) (hw _ (List.mem_of_getElem? (i := 33) rfl)) (hw _ (List.mem_of_getElem? (i := 34) rfl)) (hw _ (List.mem_of_getElem? (i := 3) rfl)) (hw _ (List.mem_of_getElem? (i := 35) rfl)) (by decide) (by rw [hml]; rfl) (lenOf (by decide +kernel : parseMethodDescriptor "([II)I" = some ⟨[(.array .int), .int], some .int⟩) rfl) rfl (hb hby d6_44) rfl (W := 2) rfl (by decide) (by decide) (by decide) (by decide) (fun r76 T77 L78 X79 q80 => ?_)
  obtain ⟨rfl, N81q, e82⟩ := q80
  have N81 := Fr.app N75 N81q
  show own_W p e below _ T77 (mkF m 47 #[.val (.ref t1), .val (.int p1), .val (.ref a3)] [(.int (own_ch par p1 4)), (.int (4 : Int32)), (.ref a3)])
  refine own_iastore X79 hx hZ e82 48 4 f72 rfl (by decide) (hb hby d6_47) rfl (fun T83 h84 X85 e86 W87 => ?_)
  have f88 := f71.other W87 ne9
  have f89 := f72.set W87
  have Z90 : n0 ≤ h84.size := Nat.le_trans Z73 (Keep.of_wr W87).1
  have K91 := K74.wr W87 (Or.inr bo11)
  have N92 := Fr.snoc X85 N81 ga10
  refine own_aloadN X85 hx 49 (hb hby d6_48) rfl rfl ?_
  exact own_retA X85 hx hret rfl hlk (hb hby d6_49) (by decide) (by decide) ⟨_, rfl, ga10, bo11, N92, by rw [e86]; exact ⟨K91, f89.congr (own_chc par p1)⟩⟩
theorem d7_0 : decode method_7_code 0 = .ok (.iload_n 1, 1) := by decide +kernel
theorem d7_1 : decode method_7_code 1 = .ok (.ifCond .ge 5, 3) := by decide +kernel
theorem d7_4 : decode method_7_code 4 = .ok (.iconst (-1), 1) := by decide +kernel
theorem d7_5 : decode method_7_code 5 = .ok (.ireturn, 1) := by decide +kernel
theorem d7_6 : decode method_7_code 6 = .ok (.aload_n 0, 1) := by decide +kernel
theorem d7_7 : decode method_7_code 7 = .ok (.iconst 0, 1) := by decide +kernel
theorem d7_8 : decode method_7_code 8 = .ok (.iaload, 1) := by decide +kernel
theorem d7_9 : decode method_7_code 9 = .ok (.iload_n 1, 1) := by decide +kernel
theorem d7_10 : decode method_7_code 10 = .ok (.if_icmp .ne 5, 3) := by decide +kernel
theorem d7_13 : decode method_7_code 13 = .ok (.iconst 0, 1) := by decide +kernel
theorem d7_14 : decode method_7_code 14 = .ok (.ireturn, 1) := by decide +kernel
theorem d7_15 : decode method_7_code 15 = .ok (.aload_n 0, 1) := by decide +kernel
theorem d7_16 : decode method_7_code 16 = .ok (.iconst 1, 1) := by decide +kernel
theorem d7_17 : decode method_7_code 17 = .ok (.iaload, 1) := by decide +kernel
theorem d7_18 : decode method_7_code 18 = .ok (.iload_n 1, 1) := by decide +kernel
theorem d7_19 : decode method_7_code 19 = .ok (.if_icmp .ne 5, 3) := by decide +kernel
theorem d7_22 : decode method_7_code 22 = .ok (.iconst 1, 1) := by decide +kernel
theorem d7_23 : decode method_7_code 23 = .ok (.ireturn, 1) := by decide +kernel
theorem d7_24 : decode method_7_code 24 = .ok (.aload_n 0, 1) := by decide +kernel
theorem d7_25 : decode method_7_code 25 = .ok (.iconst 2, 1) := by decide +kernel
theorem d7_26 : decode method_7_code 26 = .ok (.iaload, 1) := by decide +kernel
theorem d7_27 : decode method_7_code 27 = .ok (.iload_n 1, 1) := by decide +kernel
theorem d7_28 : decode method_7_code 28 = .ok (.if_icmp .ne 5, 3) := by decide +kernel
theorem d7_31 : decode method_7_code 31 = .ok (.iconst 2, 1) := by decide +kernel
theorem d7_32 : decode method_7_code 32 = .ok (.ireturn, 1) := by decide +kernel
theorem d7_33 : decode method_7_code 33 = .ok (.aload_n 0, 1) := by decide +kernel
theorem d7_34 : decode method_7_code 34 = .ok (.iconst 3, 1) := by decide +kernel
theorem d7_35 : decode method_7_code 35 = .ok (.iaload, 1) := by decide +kernel
theorem d7_36 : decode method_7_code 36 = .ok (.iload_n 1, 1) := by decide +kernel
theorem d7_37 : decode method_7_code 37 = .ok (.if_icmp .ne 5, 3) := by decide +kernel
theorem d7_40 : decode method_7_code 40 = .ok (.iconst 3, 1) := by decide +kernel
theorem d7_41 : decode method_7_code 41 = .ok (.ireturn, 1) := by decide +kernel
theorem d7_42 : decode method_7_code 42 = .ok (.aload_n 0, 1) := by decide +kernel
theorem d7_43 : decode method_7_code 43 = .ok (.iconst 4, 1) := by decide +kernel
theorem d7_44 : decode method_7_code 44 = .ok (.iaload, 1) := by decide +kernel
theorem d7_45 : decode method_7_code 45 = .ok (.iload_n 1, 1) := by decide +kernel
theorem d7_46 : decode method_7_code 46 = .ok (.if_icmp .ne 5, 3) := by decide +kernel
theorem d7_49 : decode method_7_code 49 = .ok (.iconst 4, 1) := by decide +kernel
theorem d7_50 : decode method_7_code 50 = .ok (.ireturn, 1) := by decide +kernel
theorem d7_51 : decode method_7_code 51 = .ok (.iconst (-1), 1) := by decide +kernel
theorem d7_52 : decode method_7_code 52 = .ok (.ireturn, 1) := by decide +kernel
set_option maxRecDepth 65536 in
set_option maxHeartbeats 40000000 in
theorem rm7 (l : Launch) (Z : State) (a0 : Array Value) (hw : ∀ d ∈ tables_1, d.before a0 Z = true) (t1 : Addr) (p1 : Int32) (f : Nat → Int32) (h0 : Heap) (n0 : Nat) (Z0 : n0 ≤ h0.size) (A_1 : own_AI Z h0 t1 .int 5 f) :
    own_C l Z (⟨"com/example/trubis/trubis/equivalence/BlockHistoryPartedPinLaw", "indexIn", "([II)I"⟩ : MethodName) method_7_code 2 (some .int) [] ({ frames := 0, cells := 0, slots := 0, locals := 0 } : Room) #[(.ref t1), (.int p1)] h0 (fun v h L => v = some (.int (own_ix f p1)) ∧ Fr n0 L ∧ h = h0) := by
  refine own_body (by first | (simp [plainName, overriddenIn]; done) | decide +kernel) ?_
  intro p e s m below meth c T0 hx hby hml hown hnm hret hlk hZ X0 e0
  have N0 := Fr.nil n0
  refine own_eq (f' := (mkF m 0 #[.val (.ref t1), .val (.int p1)] [])) (by first | (simp [entryFrame, mkF, argsToLocals, Value.category]; done) | rfl) ?_
  refine own_iloadN X0 hx 1 (hb hby d7_0) rfl rfl ?_
  refine own_if_ge X0 hx 6 4 (hb hby d7_1) (by decide) (by decide) rfl (fun h1 => ?_) (fun h1 => ?_)
  · show own_W p e below _ T0 (mkF m 6 #[.val (.ref t1), .val (.int p1)] [])
    refine own_aloadN X0 hx 7 (hb hby d7_6) rfl rfl ?_
    refine own_iconst X0 hx 8 (0 : Int32) (by decide) (hb hby d7_7) rfl ?_
    refine own_iaload X0 hx hZ e0 9 0 A_1 rfl (by decide) (hb hby d7_8) rfl ?_
    refine own_iloadN X0 hx 10 (hb hby d7_9) rfl rfl ?_
    refine own_icmp_ne X0 hx 15 13 (hb hby d7_10) (by decide) (by decide) rfl (fun h2 => ?_) (fun h2 => ?_)
    · show own_W p e below _ T0 (mkF m 15 #[.val (.ref t1), .val (.int p1)] [])
      refine own_aloadN X0 hx 16 (hb hby d7_15) rfl rfl ?_
      refine own_iconst X0 hx 17 (1 : Int32) (by decide) (hb hby d7_16) rfl ?_
      refine own_iaload X0 hx hZ e0 18 1 A_1 rfl (by decide) (hb hby d7_17) rfl ?_
      refine own_iloadN X0 hx 19 (hb hby d7_18) rfl rfl ?_
      refine own_icmp_ne X0 hx 24 22 (hb hby d7_19) (by decide) (by decide) rfl (fun h3 => ?_) (fun h3 => ?_)
      · show own_W p e below _ T0 (mkF m 24 #[.val (.ref t1), .val (.int p1)] [])
        refine own_aloadN X0 hx 25 (hb hby d7_24) rfl rfl ?_
        refine own_iconst X0 hx 26 (2 : Int32) (by decide) (hb hby d7_25) rfl ?_
        refine own_iaload X0 hx hZ e0 27 2 A_1 rfl (by decide) (hb hby d7_26) rfl ?_
        refine own_iloadN X0 hx 28 (hb hby d7_27) rfl rfl ?_
        refine own_icmp_ne X0 hx 33 31 (hb hby d7_28) (by decide) (by decide) rfl (fun h4 => ?_) (fun h4 => ?_)
        · show own_W p e below _ T0 (mkF m 33 #[.val (.ref t1), .val (.int p1)] [])
          refine own_aloadN X0 hx 34 (hb hby d7_33) rfl rfl ?_
          refine own_iconst X0 hx 35 (3 : Int32) (by decide) (hb hby d7_34) rfl ?_
          refine own_iaload X0 hx hZ e0 36 3 A_1 rfl (by decide) (hb hby d7_35) rfl ?_
          refine own_iloadN X0 hx 37 (hb hby d7_36) rfl rfl ?_
          refine own_icmp_ne X0 hx 42 40 (hb hby d7_37) (by decide) (by decide) rfl (fun h5 => ?_) (fun h5 => ?_)
          · show own_W p e below _ T0 (mkF m 42 #[.val (.ref t1), .val (.int p1)] [])
            refine own_aloadN X0 hx 43 (hb hby d7_42) rfl rfl ?_
            refine own_iconst X0 hx 44 (4 : Int32) (by decide) (hb hby d7_43) rfl ?_
            refine own_iaload X0 hx hZ e0 45 4 A_1 rfl (by decide) (hb hby d7_44) rfl ?_
            refine own_iloadN X0 hx 46 (hb hby d7_45) rfl rfl ?_
            refine own_icmp_ne X0 hx 51 49 (hb hby d7_46) (by decide) (by decide) rfl (fun h6 => ?_) (fun h6 => ?_)
            · show own_W p e below _ T0 (mkF m 51 #[.val (.ref t1), .val (.int p1)] [])
              refine own_iconst X0 hx 52 (-1 : Int32) (by decide) (hb hby d7_51) rfl ?_
              exact own_retI X0 hx hret hlk (hb hby d7_52) (by decide) (by decide) ⟨by unfold own_ix; rw [if_neg h1, if_neg h2, if_neg h3, if_neg h4, if_neg h5, if_neg h6], N0, e0⟩
            · show own_W p e below _ T0 (mkF m 49 #[.val (.ref t1), .val (.int p1)] [])
              refine own_iconst X0 hx 50 (4 : Int32) (by decide) (hb hby d7_49) rfl ?_
              exact own_retI X0 hx hret hlk (hb hby d7_50) (by decide) (by decide) ⟨by unfold own_ix; rw [if_neg h1, if_neg h2, if_neg h3, if_neg h4, if_neg h5, if_pos h6], N0, e0⟩
          · show own_W p e below _ T0 (mkF m 40 #[.val (.ref t1), .val (.int p1)] [])
            refine own_iconst X0 hx 41 (3 : Int32) (by decide) (hb hby d7_40) rfl ?_
            exact own_retI X0 hx hret hlk (hb hby d7_41) (by decide) (by decide) ⟨by unfold own_ix; rw [if_neg h1, if_neg h2, if_neg h3, if_neg h4, if_pos h5], N0, e0⟩
        · show own_W p e below _ T0 (mkF m 31 #[.val (.ref t1), .val (.int p1)] [])
          refine own_iconst X0 hx 32 (2 : Int32) (by decide) (hb hby d7_31) rfl ?_
          exact own_retI X0 hx hret hlk (hb hby d7_32) (by decide) (by decide) ⟨by unfold own_ix; rw [if_neg h1, if_neg h2, if_neg h3, if_pos h4], N0, e0⟩
      · show own_W p e below _ T0 (mkF m 22 #[.val (.ref t1), .val (.int p1)] [])
        refine own_iconst X0 hx 23 (1 : Int32) (by decide) (hb hby d7_22) rfl ?_
        exact own_retI X0 hx hret hlk (hb hby d7_23) (by decide) (by decide) ⟨by unfold own_ix; rw [if_neg h1, if_neg h2, if_pos h3], N0, e0⟩
    · show own_W p e below _ T0 (mkF m 13 #[.val (.ref t1), .val (.int p1)] [])
      refine own_iconst X0 hx 14 (0 : Int32) (by decide) (hb hby d7_13) rfl ?_
      exact own_retI X0 hx hret hlk (hb hby d7_14) (by decide) (by decide) ⟨by unfold own_ix; rw [if_neg h1, if_pos h2], N0, e0⟩
  · show own_W p e below _ T0 (mkF m 4 #[.val (.ref t1), .val (.int p1)] [])
    refine own_iconst X0 hx 5 (-1 : Int32) (by decide) (hb hby d7_4) rfl ?_
    exact own_retI X0 hx hret hlk (hb hby d7_5) (by decide) (by decide) ⟨by unfold own_ix; rw [if_pos h1], N0, e0⟩
theorem d4_0 : decode prog_1_method_5_code 0 = .ok (.iload_n 1, 1) := by decide +kernel
theorem d4_1 : decode prog_1_method_5_code 1 = .ok (.istore_n 3, 1) := by decide +kernel
theorem d4_2 : decode prog_1_method_5_code 2 = .ok (.iload_n 2, 1) := by decide +kernel
theorem d4_3 : decode prog_1_method_5_code 3 = .ok (.istore 4, 2) := by decide +kernel
theorem d4_5 : decode prog_1_method_5_code 5 = .ok (.ldc 21, 2) := by decide +kernel
theorem d4_7 : decode prog_1_method_5_code 7 = .ok (.istore 5, 2) := by decide +kernel
theorem d4_9 : decode prog_1_method_5_code 9 = .ok (.iload_n 3, 1) := by decide +kernel
theorem d4_10 : decode prog_1_method_5_code 10 = .ok (.iload 4, 2) := by decide +kernel
theorem d4_12 : decode prog_1_method_5_code 12 = .ok (.if_icmp .eq 67, 3) := by decide +kernel
theorem d4_15 : decode prog_1_method_5_code 15 = .ok (.iload_n 3, 1) := by decide +kernel
theorem d4_16 : decode prog_1_method_5_code 16 = .ok (.ifCond .lt 63, 3) := by decide +kernel
theorem d4_19 : decode prog_1_method_5_code 19 = .ok (.iload 4, 2) := by decide +kernel
theorem d4_21 : decode prog_1_method_5_code 21 = .ok (.ifCond .lt 58, 3) := by decide +kernel
theorem d4_24 : decode prog_1_method_5_code 24 = .ok (.aload_n 0, 1) := by decide +kernel
theorem d4_25 : decode prog_1_method_5_code 25 = .ok (.getfield 16, 3) := by decide +kernel
theorem d4_28 : decode prog_1_method_5_code 28 = .ok (.iload_n 3, 1) := by decide +kernel
theorem d4_29 : decode prog_1_method_5_code 29 = .ok (.iaload, 1) := by decide +kernel
theorem d4_30 : decode prog_1_method_5_code 30 = .ok (.aload_n 0, 1) := by decide +kernel
theorem d4_31 : decode prog_1_method_5_code 31 = .ok (.getfield 16, 3) := by decide +kernel
theorem d4_34 : decode prog_1_method_5_code 34 = .ok (.iload 4, 2) := by decide +kernel
theorem d4_36 : decode prog_1_method_5_code 36 = .ok (.iaload, 1) := by decide +kernel
theorem d4_37 : decode prog_1_method_5_code 37 = .ok (.if_icmp .lt 21, 3) := by decide +kernel
theorem d4_40 : decode prog_1_method_5_code 40 = .ok (.aload_n 0, 1) := by decide +kernel
theorem d4_41 : decode prog_1_method_5_code 41 = .ok (.getfield 16, 3) := by decide +kernel
theorem d4_44 : decode prog_1_method_5_code 44 = .ok (.iload_n 3, 1) := by decide +kernel
theorem d4_45 : decode prog_1_method_5_code 45 = .ok (.iaload, 1) := by decide +kernel
theorem d4_46 : decode prog_1_method_5_code 46 = .ok (.istore 5, 2) := by decide +kernel
theorem d4_48 : decode prog_1_method_5_code 48 = .ok (.aload_n 0, 1) := by decide +kernel
theorem d4_49 : decode prog_1_method_5_code 49 = .ok (.getfield 13, 3) := by decide +kernel
theorem d4_52 : decode prog_1_method_5_code 52 = .ok (.iload_n 3, 1) := by decide +kernel
theorem d4_53 : decode prog_1_method_5_code 53 = .ok (.iaload, 1) := by decide +kernel
theorem d4_54 : decode prog_1_method_5_code 54 = .ok (.istore_n 3, 1) := by decide +kernel
theorem d4_55 : decode prog_1_method_5_code 55 = .ok (.goto (-46), 3) := by decide +kernel
theorem d4_58 : decode prog_1_method_5_code 58 = .ok (.aload_n 0, 1) := by decide +kernel
theorem d4_59 : decode prog_1_method_5_code 59 = .ok (.getfield 16, 3) := by decide +kernel
theorem d4_62 : decode prog_1_method_5_code 62 = .ok (.iload 4, 2) := by decide +kernel
theorem d4_64 : decode prog_1_method_5_code 64 = .ok (.iaload, 1) := by decide +kernel
theorem d4_65 : decode prog_1_method_5_code 65 = .ok (.istore 5, 2) := by decide +kernel
theorem d4_67 : decode prog_1_method_5_code 67 = .ok (.aload_n 0, 1) := by decide +kernel
theorem d4_68 : decode prog_1_method_5_code 68 = .ok (.getfield 13, 3) := by decide +kernel
theorem d4_71 : decode prog_1_method_5_code 71 = .ok (.iload 4, 2) := by decide +kernel
theorem d4_73 : decode prog_1_method_5_code 73 = .ok (.iaload, 1) := by decide +kernel
theorem d4_74 : decode prog_1_method_5_code 74 = .ok (.istore 4, 2) := by decide +kernel
theorem d4_76 : decode prog_1_method_5_code 76 = .ok (.goto (-67), 3) := by decide +kernel
theorem d4_79 : decode prog_1_method_5_code 79 = .ok (.iload_n 3, 1) := by decide +kernel
theorem d4_80 : decode prog_1_method_5_code 80 = .ok (.iload 4, 2) := by decide +kernel
theorem d4_82 : decode prog_1_method_5_code 82 = .ok (.if_icmp .ne 8, 3) := by decide +kernel
theorem d4_85 : decode prog_1_method_5_code 85 = .ok (.iload 5, 2) := by decide +kernel
theorem d4_87 : decode prog_1_method_5_code 87 = .ok (.goto 4, 3) := by decide +kernel
theorem d4_90 : decode prog_1_method_5_code 90 = .ok (.iconst 0, 1) := by decide +kernel
theorem d4_91 : decode prog_1_method_5_code 91 = .ok (.ireturn, 1) := by decide +kernel
set_option maxRecDepth 65536 in
set_option maxHeartbeats 40000000 in
theorem rm4 (l : Launch) (Z : State) (a0 : Array Value) (hw : ∀ d ∈ tables_1, d.before a0 Z = true) (a t2 t3 : Addr) (p1 p2 : Int32) (par made : Nat → Int32) (h0 : Heap) (n0 : Nat) (Z0 : n0 ≤ h0.size) (ok : own_ok par made) (hp1 : 0 ≤ p1.toInt ∧ p1.toInt < 5) (hp2 : 0 ≤ p2.toInt ∧ p2.toInt < 5) (F_parentOf : Fld Z h0 a "com/example/trubis/trubis/equivalence/BlockHistory" "parentOf" "[I" (.ref t2)) (F_madeIn : Fld Z h0 a "com/example/trubis/trubis/equivalence/BlockHistory" "madeIn" "[I" (.ref t3)) (A_par : own_AI Z h0 t2 .int 5 par) (A_made : own_AI Z h0 t3 .int 5 made) :
    own_C l Z (⟨"com/example/trubis/trubis/equivalence/BlockHistory", "parted", "(II)I"⟩ : MethodName) prog_1_method_5_code 6 (some .int) [] ({ frames := 0, cells := 0, slots := 0, locals := 0 } : Room) #[(.ref a), (.int p1), (.int p2)] h0 (fun v h L => ∃ r, v = some (.int r) ∧ own_out par made p1 p2 r ∧ Fr n0 L ∧ h = h0) := by
  refine own_body (by first | (simp [plainName, overriddenIn]; done) | decide +kernel) ?_
  intro p e s m below meth c T0 hx hby hml hown hnm hret hlk hZ X0 e0
  have N0 := Fr.nil n0
  refine own_eq (f' := (mkF m 0 #[.val (.ref a), .val (.int p1), .val (.int p2), .unset, .unset, .unset] [])) (by first | (simp [entryFrame, mkF, argsToLocals, Value.category]; done) | rfl) ?_
  refine own_iloadN X0 hx 1 (hb hby d4_0) rfl rfl ?_
  refine own_istoreN X0 hx 2 #[.val (.ref a), .val (.int p1), .val (.int p2), .val (.int p1), .unset, .unset] rfl (hb hby d4_1) rfl rfl ?_
  refine own_iloadN X0 hx 3 (hb hby d4_2) rfl rfl ?_
  refine own_istore X0 hx 5 #[.val (.ref a), .val (.int p1), .val (.int p2), .val (.int p1), .val (.int p2), .unset] rfl (hb hby d4_3) rfl rfl ?_
  refine own_ldc X0 hx hZ hown 7 (hw _ (List.mem_of_getElem? (i := 29) rfl)) (hb hby d4_5) rfl ?_
  refine own_istore X0 hx 9 #[.val (.ref a), .val (.int p1), .val (.int p2), .val (.int p1), .val (.int p2), .val (.int (2147483647 : Int32))] rfl (hb hby d4_7) rfl rfl ?_
  have J1 : ∀ (k : Nat) (one : Int32) (two : Int32) (rd : Int32) (pp : Nat) (qq : Nat) (T3 : State) (X4 : Stand p l e ({ frames := 0, cells := 0, slots := 0, locals := 0 } : Room) s m #[(.ref a), (.int p1), (.int p2)] below meth c T3 [] 0 0) (e5 : T3.heap = h0) (hj6 : k = own_ms one two ∧ own_inv par made p1 p2 pp qq one two rd), own_W p e below (own_K s ({ frames := 0, cells := 0, slots := 0, locals := 0 } : Room) (fun v h L => ∃ r, v = some (.int r) ∧ own_out par made p1 p2 r ∧ Fr n0 L ∧ h = h0)) T3 (mkF m 9 #[.val (.ref a), .val (.int p1), .val (.int p2), .val (.int one), .val (.int two), .val (.int rd)] []) := by
    intro k
    induction k using Nat.strongRecOn with
    | _ k ih2 =>
      intro one two rd pp qq T3 X4 e5 hj6
      obtain ⟨hk, hinv⟩ := hj6
      have hone : one.toInt < 5 := by rw [hinv.1]; exact own_chlt ok p1 hp1.2 pp
      have htwo : two.toInt < 5 := by rw [hinv.2.1]; exact own_chlt ok p2 hp2.2 qq
      refine own_iloadN X4 hx 10 (hb hby d4_9) rfl rfl ?_
      refine own_iload X4 hx 12 (hb hby d4_10) rfl rfl ?_
      refine own_icmp_eq X4 hx 79 15 (hb hby d4_12) (by decide) (by decide) rfl (fun h7 => ?_) (fun h7 => ?_)
      · show own_W p e below _ T3 (mkF m 79 #[.val (.ref a), .val (.int p1), .val (.int p2), .val (.int one), .val (.int two), .val (.int rd)] [])
        refine own_iloadN X4 hx 80 (hb hby d4_79) rfl rfl ?_
        refine own_iload X4 hx 82 (hb hby d4_80) rfl rfl ?_
        refine own_icmp_ne X4 hx 90 85 (hb hby d4_82) (by decide) (by decide) rfl (fun h8 => ?_) (fun h8 => ?_)
        · exact absurd h7 h8
        · show own_W p e below _ T3 (mkF m 85 #[.val (.ref a), .val (.int p1), .val (.int p2), .val (.int one), .val (.int two), .val (.int rd)] [])
          refine own_iload X4 hx 87 (hb hby d4_85) rfl rfl ?_
          refine own_goto X4 hx 91 (hb hby d4_87) (by decide) (by decide) ?_
          exact own_retI X4 hx hret hlk (hb hby d4_91) (by decide) (by decide) ⟨_, rfl, own_end0 hinv h8, N0, e5⟩
      · show own_W p e below _ T3 (mkF m 15 #[.val (.ref a), .val (.int p1), .val (.int p2), .val (.int one), .val (.int two), .val (.int rd)] [])
        refine own_iloadN X4 hx 16 (hb hby d4_15) rfl rfl ?_
        refine own_if_lt X4 hx 79 19 (hb hby d4_16) (by decide) (by decide) rfl (fun h9 => ?_) (fun h9 => ?_)
        · show own_W p e below _ T3 (mkF m 79 #[.val (.ref a), .val (.int p1), .val (.int p2), .val (.int one), .val (.int two), .val (.int rd)] [])
          refine own_iloadN X4 hx 80 (hb hby d4_79) rfl rfl ?_
          refine own_iload X4 hx 82 (hb hby d4_80) rfl rfl ?_
          refine own_icmp_ne X4 hx 90 85 (hb hby d4_82) (by decide) (by decide) rfl (fun h10 => ?_) (fun h10 => ?_)
          · show own_W p e below _ T3 (mkF m 90 #[.val (.ref a), .val (.int p1), .val (.int p2), .val (.int one), .val (.int two), .val (.int rd)] [])
            refine own_iconst X4 hx 91 (0 : Int32) (by decide) (hb hby d4_90) rfl ?_
            exact own_retI X4 hx hret hlk (hb hby d4_91) (by decide) (by decide) ⟨_, rfl, own_end1 ok hp1 hinv h9, N0, e5⟩
          · exact absurd h10 h7
        · show own_W p e below _ T3 (mkF m 19 #[.val (.ref a), .val (.int p1), .val (.int p2), .val (.int one), .val (.int two), .val (.int rd)] [])
          refine own_iload X4 hx 21 (hb hby d4_19) rfl rfl ?_
          refine own_if_lt X4 hx 79 24 (hb hby d4_21) (by decide) (by decide) rfl (fun h11 => ?_) (fun h11 => ?_)
          · show own_W p e below _ T3 (mkF m 79 #[.val (.ref a), .val (.int p1), .val (.int p2), .val (.int one), .val (.int two), .val (.int rd)] [])
            refine own_iloadN X4 hx 80 (hb hby d4_79) rfl rfl ?_
            refine own_iload X4 hx 82 (hb hby d4_80) rfl rfl ?_
            refine own_icmp_ne X4 hx 90 85 (hb hby d4_82) (by decide) (by decide) rfl (fun h12 => ?_) (fun h12 => ?_)
            · show own_W p e below _ T3 (mkF m 90 #[.val (.ref a), .val (.int p1), .val (.int p2), .val (.int one), .val (.int two), .val (.int rd)] [])
              refine own_iconst X4 hx 91 (0 : Int32) (by decide) (hb hby d4_90) rfl ?_
              exact own_retI X4 hx hret hlk (hb hby d4_91) (by decide) (by decide) ⟨_, rfl, own_end2 ok hp2 hinv h11, N0, e5⟩
            · exact absurd h12 h7
          · show own_W p e below _ T3 (mkF m 24 #[.val (.ref a), .val (.int p1), .val (.int p2), .val (.int one), .val (.int two), .val (.int rd)] [])
            refine own_aloadN X4 hx 25 (hb hby d4_24) rfl rfl ?_
            refine own_getF X4 hx hZ hown e5 28 (hw _ (List.mem_of_getElem? (i := 22) rfl)) F_madeIn (hb hby d4_25) rfl (fun T13 X14 e15 => ?_)
            refine own_iloadN X14 hx 29 (hb hby d4_28) rfl rfl ?_
            refine own_iaload X14 hx hZ e15 30 one.toInt.toNat A_made (own_nn (own_ge0 h9)) (own_lt5 hone) (hb hby d4_29) rfl ?_
            refine own_aloadN X14 hx 31 (hb hby d4_30) rfl rfl ?_
            refine own_getF X14 hx hZ hown e15 34 (hw _ (List.mem_of_getElem? (i := 22) rfl)) F_madeIn (hb hby d4_31) rfl (fun T16 X17 e18 => ?_)
            refine own_iload X17 hx 36 (hb hby d4_34) rfl rfl ?_
            refine own_iaload X17 hx hZ e18 37 two.toInt.toNat A_made (own_nn (own_ge0 h11)) (own_lt5 htwo) (hb hby d4_36) rfl ?_
            refine own_icmp_lt X17 hx 58 40 (hb hby d4_37) (by decide) (by decide) rfl (fun h19 => ?_) (fun h19 => ?_)
            · show own_W p e below _ T16 (mkF m 58 #[.val (.ref a), .val (.int p1), .val (.int p2), .val (.int one), .val (.int two), .val (.int rd)] [])
              refine own_aloadN X17 hx 59 (hb hby d4_58) rfl rfl ?_
              refine own_getF X17 hx hZ hown e18 62 (hw _ (List.mem_of_getElem? (i := 22) rfl)) F_madeIn (hb hby d4_59) rfl (fun T20 X21 e22 => ?_)
              refine own_iload X21 hx 64 (hb hby d4_62) rfl rfl ?_
              refine own_iaload X21 hx hZ e22 65 two.toInt.toNat A_made (own_nn (own_ge0 h11)) (own_lt5 htwo) (hb hby d4_64) rfl ?_
              obtain ⟨v23, e_v23⟩ : ∃ z : Int32, z = (made two.toInt.toNat) := ⟨_, rfl⟩
              refine own_istore X21 hx 67 #[.val (.ref a), .val (.int p1), .val (.int p2), .val (.int one), .val (.int two), .val (.int v23)] e_v23 (hb hby d4_65) rfl rfl ?_
              refine own_aloadN X21 hx 68 (hb hby d4_67) rfl rfl ?_
              refine own_getF X21 hx hZ hown e22 71 (hw _ (List.mem_of_getElem? (i := 20) rfl)) F_parentOf (hb hby d4_68) rfl (fun T24 X25 e26 => ?_)
              refine own_iload X25 hx 73 (hb hby d4_71) rfl rfl ?_
              refine own_iaload X25 hx hZ e26 74 two.toInt.toNat A_par (own_nn (own_ge0 h11)) (own_lt5 htwo) (hb hby d4_73) rfl ?_
              obtain ⟨v27, e_v27⟩ : ∃ z : Int32, z = (par two.toInt.toNat) := ⟨_, rfl⟩
              refine own_istore X25 hx 76 #[.val (.ref a), .val (.int p1), .val (.int p2), .val (.int one), .val (.int v27), .val (.int v23)] e_v27 (hb hby d4_74) rfl rfl ?_
              refine own_goto X25 hx 9 (hb hby d4_76) (by decide) (by decide) ?_
              exact ih2 (own_ms one v27) (by rw [hk]; exact own_dec2 ok htwo h9 h11 e_v27) one v27 v23 pp (qq + 1) T24 X25 e26 (⟨rfl, own_inv2 ok hp1 hp2 hinv h7 h9 h11 h19 e_v27 e_v23⟩)
            · show own_W p e below _ T16 (mkF m 40 #[.val (.ref a), .val (.int p1), .val (.int p2), .val (.int one), .val (.int two), .val (.int rd)] [])
              refine own_aloadN X17 hx 41 (hb hby d4_40) rfl rfl ?_
              refine own_getF X17 hx hZ hown e18 44 (hw _ (List.mem_of_getElem? (i := 22) rfl)) F_madeIn (hb hby d4_41) rfl (fun T28 X29 e30 => ?_)
              refine own_iloadN X29 hx 45 (hb hby d4_44) rfl rfl ?_
              refine own_iaload X29 hx hZ e30 46 one.toInt.toNat A_made (own_nn (own_ge0 h9)) (own_lt5 hone) (hb hby d4_45) rfl ?_
              obtain ⟨v31, e_v31⟩ : ∃ z : Int32, z = (made one.toInt.toNat) := ⟨_, rfl⟩
              refine own_istore X29 hx 48 #[.val (.ref a), .val (.int p1), .val (.int p2), .val (.int one), .val (.int two), .val (.int v31)] e_v31 (hb hby d4_46) rfl rfl ?_
              refine own_aloadN X29 hx 49 (hb hby d4_48) rfl rfl ?_
              refine own_getF X29 hx hZ hown e30 52 (hw _ (List.mem_of_getElem? (i := 20) rfl)) F_parentOf (hb hby d4_49) rfl (fun T32 X33 e34 => ?_)
              refine own_iloadN X33 hx 53 (hb hby d4_52) rfl rfl ?_
              refine own_iaload X33 hx hZ e34 54 one.toInt.toNat A_par (own_nn (own_ge0 h9)) (own_lt5 hone) (hb hby d4_53) rfl ?_
              obtain ⟨v35, e_v35⟩ : ∃ z : Int32, z = (par one.toInt.toNat) := ⟨_, rfl⟩
              refine own_istoreN X33 hx 55 #[.val (.ref a), .val (.int p1), .val (.int p2), .val (.int v35), .val (.int two), .val (.int v31)] e_v35 (hb hby d4_54) rfl rfl ?_
              refine own_goto X33 hx 9 (hb hby d4_55) (by decide) (by decide) ?_
              exact ih2 (own_ms v35 two) (by rw [hk]; exact own_dec1 ok hone h9 h11 e_v35) v35 two v31 (pp + 1) qq T32 X33 e34 (⟨rfl, own_inv1 ok hp1 hp2 hinv h7 h9 h11 h19 e_v35 e_v31⟩)
  exact J1 (own_ms p1 p2) p1 p2 (2147483647 : Int32) 0 0 T0 X0 e0 (⟨rfl, own_inv0 par made p1 p2 hp1⟩)
set_option maxRecDepth 65536 in
set_option maxHeartbeats 40000000 in
theorem rm0 (l : Launch) (Z : State) (a0 : Array Value) (hw : ∀ d ∈ tables_1, d.before a0 Z = true) (p0 : Int32) (q1 : Int64) (p2 p3 : Int32) (h0 : Heap) (n0 : Nat) (Z0 : n0 ≤ h0.size)  :
    own_C l Z x code maxLocals ret tables_1 room_1 #[(.int p0), (.long q1), (.int p2), (.int p3)] h0 (fun v h L => v = some (.int 1) ∧ Fr n0 L) := by
  refine own_body (by first | (simp [plainName, overriddenIn]; done) | decide +kernel) ?_
  intro p e s m below meth c T0 hx hby hml hown hnm hret hlk hZ X0 e0
  have N0 := Fr.nil n0
  refine own_eq (f' := (mkF m 0 #[.val (.int p0), .val (.long q1), .second, .val (.int p2), .val (.int p3), .unset, .unset, .unset, .unset, .unset, .unset, .unset, .unset, .unset, .unset, .unset] [])) (by first | (simp [entryFrame, mkF, argsToLocals, Value.category, maxLocals]; done) | rfl) ?_
  refine own_iconst X0 hx 1 (5 : Int32) (by decide) (hb hby at_0) rfl ?_
  refine own_newI X0 hx hZ e0 (n := 5) (cap := 5) 3 .int rfl rfl (hw _ (List.mem_of_getElem? (i := 0) rfl)) rfl (by decide) (by decide) (hb hby at_1) rfl (by decide) (by decide) (fun T1 h2 a3 X4 e5 g6 E7 A8 => ?_)
  have ga9 : n0 ≤ a3 := by rw [g6]; exact Z0
  have Z10 : n0 ≤ h2.size := Nat.le_trans Z0 E7.1
  refine own_astore X4 hx 5 #[.val (.int p0), .val (.long q1), .second, .val (.int p2), .val (.int p3), .val (.ref a3), .unset, .unset, .unset, .unset, .unset, .unset, .unset, .unset, .unset, .unset] rfl (hb hby at_3) rfl rfl ?_
  refine own_iconst X4 hx 6 (5 : Int32) (by decide) (hb hby at_5) rfl ?_
  refine own_newI X4 hx hZ e5 (n := 5) (cap := 5) 8 .int rfl rfl (hw _ (List.mem_of_getElem? (i := 0) rfl)) rfl (by decide) (by decide) (hb hby at_6) rfl (by decide) (by decide) (fun T11 h12 a13 X14 e15 g16 E17 A18 => ?_)
  have ne19 : a3 ≠ a13 := fun q => absurd (A8.lt) (by rw [q, g16]; exact Nat.lt_irrefl _)
  have ga20 : n0 ≤ a13 := by rw [g16]; exact Z10
  have f21 := A8.ext E17
  have Z22 : n0 ≤ h12.size := Nat.le_trans Z10 E17.1
  refine own_astore X14 hx 10 #[.val (.int p0), .val (.long q1), .second, .val (.int p2), .val (.int p3), .val (.ref a3), .val (.ref a13), .unset, .unset, .unset, .unset, .unset, .unset, .unset, .unset, .unset] rfl (hb hby at_8) rfl rfl ?_
  refine own_aload X14 hx 12 (hb hby at_10) rfl rfl ?_
  refine own_iconst X14 hx 13 (0 : Int32) (by decide) (hb hby at_12) rfl ?_
  refine own_iconst X14 hx 14 (-1 : Int32) (by decide) (hb hby at_13) rfl ?_
  refine own_iastore X14 hx hZ e15 15 0 f21 rfl (by decide) (hb hby at_14) rfl (fun T23 h24 X25 e26 W27 => ?_)
  have f28 := f21.set W27
  have f29 := A18.other W27 (Ne.symm ne19)
  have Z30 : n0 ≤ h24.size := Nat.le_trans Z22 (Keep.of_wr W27).1
  have N31 := Fr.snoc X25 N0 ga9
  refine own_aload X25 hx 17 (hb hby at_15) rfl rfl ?_
  refine own_iconst X25 hx 18 (0 : Int32) (by decide) (hb hby at_17) rfl ?_
  refine own_iconst X25 hx 19 (0 : Int32) (by decide) (hb hby at_18) rfl ?_
  refine own_iastore X25 hx hZ e26 20 0 f29 rfl (by decide) (hb hby at_19) rfl (fun T32 h33 X34 e35 W36 => ?_)
  have f37 := f28.other W36 ne19
  have f38 := f29.set W36
  have Z39 : n0 ≤ h33.size := Nat.le_trans Z30 (Keep.of_wr W36).1
  have N40 := Fr.snoc X34 N31 ga20
  obtain ⟨r0, e_r0⟩ : ∃ z : Nat → Int32, z = (fun q => if q = 0 then (-1 : Int32) else (fun _ => 0) q) := ⟨_, rfl⟩
  rw [← e_r0] at f37
  obtain ⟨g0, e_g0⟩ : ∃ z : Nat → Int32, z = (fun q => if q = 0 then (0 : Int32) else (fun _ => 0) q) := ⟨_, rfl⟩
  rw [← e_g0] at f38
  have bg0 := own_bz g0 e_g0
  have k0 := own_ok0 r0 g0 e_r0 e_g0
  refine own_aload X34 hx 22 (hb hby at_20) rfl rfl ?_
  refine own_iconst X34 hx 23 (1 : Int32) (by decide) (hb hby at_22) rfl ?_
  refine own_iloadN X34 hx 24 (hb hby at_23) rfl rfl ?_
  refine own_iconst X34 hx 25 (1 : Int32) (by decide) (hb hby at_24) rfl ?_
  refine own_callS X34 hx hZ hown e35 (y := (⟨"com/example/trubis/trubis/equivalence/BlockHistoryPartedPinLaw", "parentChoice", "(II)I"⟩ : MethodName)) (argsL := [(.int p0), (.int (1 : Int32))]) (rest := [(.int (1 : Int32)), (.ref a3)]) 28 (rm1_1 l Z a0 hw p0 h33 n0 Z39) (hw _ (List.mem_of_getElem? (i := 1) rfl)) (hw _ (List.mem_of_getElem? (i := 2) rfl)) (hw _ (List.mem_of_getElem? (i := 3) rfl)) (hw _ (List.mem_of_getElem? (i := 4) rfl)) (by decide) (by rw [hml]; rfl) (lenOf (by decide +kernel : parseMethodDescriptor "(II)I" = some ⟨[.int, .int], some .int⟩) rfl) rfl (hb hby at_25) rfl (W := 2) rfl (by decide) (by decide) (by decide) (by decide) (fun r41 T42 L43 X44 q45 => ?_)
  obtain ⟨rfl, N46q, e47⟩ := q45
  have N46 := Fr.app N40 N46q
  obtain ⟨v1, e_v1⟩ : ∃ z : Int32, z = own_pc1 p0 := ⟨_, rfl⟩
  rw [← e_v1]
  have hv1 := own_pcV _ _ v1 (2 : Int32) 1 rfl (by decide) rfl e_v1
  show own_W p e below _ T42 (mkF m 28 #[.val (.int p0), .val (.long q1), .second, .val (.int p2), .val (.int p3), .val (.ref a3), .val (.ref a13), .unset, .unset, .unset, .unset, .unset, .unset, .unset, .unset, .unset] [(.int v1), (.int (1 : Int32)), (.ref a3)])
  refine own_iastore X44 hx hZ e47 29 1 f37 rfl (by decide) (hb hby at_28) rfl (fun T48 h49 X50 e51 W52 => ?_)
  have f53 := f37.set W52
  have f54 := f38.other W52 (Ne.symm ne19)
  have Z55 : n0 ≤ h49.size := Nat.le_trans Z39 (Keep.of_wr W52).1
  have N56 := Fr.snoc X50 N46 ga9
  obtain ⟨r1, e_r1⟩ : ∃ z : Nat → Int32, z = (fun q => if q = 1 then v1 else r0 q) := ⟨_, rfl⟩
  rw [← e_r1] at f53
  have hr1 : r1 1 = v1 := by rw [e_r1]; rfl
  refine own_aload X50 hx 31 (hb hby at_29) rfl rfl ?_
  refine own_iconst X50 hx 32 (1 : Int32) (by decide) (hb hby at_31) rfl ?_
  refine own_aload X50 hx 34 (hb hby at_32) rfl rfl ?_
  refine own_aload X50 hx 36 (hb hby at_34) rfl rfl ?_
  refine own_lloadN X50 hx 37 (hb hby at_36) rfl rfl ?_
  refine own_iconst X50 hx 38 (1 : Int32) (by decide) (hb hby at_37) rfl ?_
  refine own_callS X50 hx hZ hown e51 (y := (⟨"com/example/trubis/trubis/equivalence/BlockHistoryPartedPinLaw", "madeFor", "([I[IJI)I"⟩ : MethodName)) (argsL := [(.ref a3), (.ref a13), (.long q1), (.int (1 : Int32))]) (rest := [(.int (1 : Int32)), (.ref a13)]) 41 (rm2_1 l Z a0 hw a3 a13 q1 r1 g0 h49 n0 Z55 (by rw [hr1]; omega) f53 f54) (hw _ (List.mem_of_getElem? (i := 5) rfl)) (hw _ (List.mem_of_getElem? (i := 6) rfl)) (hw _ (List.mem_of_getElem? (i := 3) rfl)) (hw _ (List.mem_of_getElem? (i := 7) rfl)) (by decide) (by rw [hml]; rfl) (lenOf (by decide +kernel : parseMethodDescriptor "([I[IJI)I" = some ⟨[(.array .int), (.array .int), .long, .int], some .int⟩) rfl) rfl (hb hby at_38) rfl (W := 2) rfl (by decide) (by decide) (by decide) (by decide) (fun r57 T58 L59 X60 q61 => ?_)
  obtain ⟨rfl, N62q, e63⟩ := q61
  have N62 := Fr.app N56 N62q
  obtain ⟨m1, e_m1⟩ : ∃ z : Int32, z = own_mf1 r1 g0 q1 := ⟨_, rfl⟩
  rw [← e_m1]
  have s1 : own_st v1 m1 g0 4 := own_stM v1 m1 _ g0 4 0 _ (by decide) (by decide) (by decide) bg0 rfl (by rw [e_m1]; unfold own_mf1; rw [hr1])
  show own_W p e below _ T58 (mkF m 41 #[.val (.int p0), .val (.long q1), .second, .val (.int p2), .val (.int p3), .val (.ref a3), .val (.ref a13), .unset, .unset, .unset, .unset, .unset, .unset, .unset, .unset, .unset] [(.int m1), (.int (1 : Int32)), (.ref a13)])
  refine own_iastore X60 hx hZ e63 42 1 f54 rfl (by decide) (hb hby at_41) rfl (fun T64 h65 X66 e67 W68 => ?_)
  have f69 := f53.other W68 ne19
  have f70 := f54.set W68
  have Z71 : n0 ≤ h65.size := Nat.le_trans Z55 (Keep.of_wr W68).1
  have N72 := Fr.snoc X66 N62 ga20
  obtain ⟨g1, e_g1⟩ : ∃ z : Nat → Int32, z = (fun q => if q = 1 then m1 else g0 q) := ⟨_, rfl⟩
  rw [← e_g1] at f70
  have bg1 := own_bN g0 g1 1 m1 0 4 bg0 ⟨s1.2.2.1, s1.2.2.2⟩ (by decide) e_g1
  have k1 := own_ok1 1 r0 g0 r1 g1 v1 m1 4 k0 (by omega) s1 e_r1 e_g1
  refine own_aload X66 hx 44 (hb hby at_42) rfl rfl ?_
  refine own_iconst X66 hx 45 (2 : Int32) (by decide) (hb hby at_44) rfl ?_
  refine own_iloadN X66 hx 46 (hb hby at_45) rfl rfl ?_
  refine own_iconst X66 hx 47 (2 : Int32) (by decide) (hb hby at_46) rfl ?_
  refine own_callS X66 hx hZ hown e67 (y := (⟨"com/example/trubis/trubis/equivalence/BlockHistoryPartedPinLaw", "parentChoice", "(II)I"⟩ : MethodName)) (argsL := [(.int p0), (.int (2 : Int32))]) (rest := [(.int (2 : Int32)), (.ref a3)]) 50 (rm1_2 l Z a0 hw p0 h65 n0 Z71) (hw _ (List.mem_of_getElem? (i := 1) rfl)) (hw _ (List.mem_of_getElem? (i := 2) rfl)) (hw _ (List.mem_of_getElem? (i := 3) rfl)) (hw _ (List.mem_of_getElem? (i := 4) rfl)) (by decide) (by rw [hml]; rfl) (lenOf (by decide +kernel : parseMethodDescriptor "(II)I" = some ⟨[.int, .int], some .int⟩) rfl) rfl (hb hby at_47) rfl (W := 2) rfl (by decide) (by decide) (by decide) (by decide) (fun r73 T74 L75 X76 q77 => ?_)
  obtain ⟨rfl, N78q, e79⟩ := q77
  have N78 := Fr.app N72 N78q
  obtain ⟨v2, e_v2⟩ : ∃ z : Int32, z = own_pc2 p0 := ⟨_, rfl⟩
  rw [← e_v2]
  have hv2 := own_pcV _ _ v2 (3 : Int32) 2 rfl (by decide) rfl e_v2
  show own_W p e below _ T74 (mkF m 50 #[.val (.int p0), .val (.long q1), .second, .val (.int p2), .val (.int p3), .val (.ref a3), .val (.ref a13), .unset, .unset, .unset, .unset, .unset, .unset, .unset, .unset, .unset] [(.int v2), (.int (2 : Int32)), (.ref a3)])
  refine own_iastore X76 hx hZ e79 51 2 f69 rfl (by decide) (hb hby at_50) rfl (fun T80 h81 X82 e83 W84 => ?_)
  have f85 := f69.set W84
  have f86 := f70.other W84 (Ne.symm ne19)
  have Z87 : n0 ≤ h81.size := Nat.le_trans Z71 (Keep.of_wr W84).1
  have N88 := Fr.snoc X82 N78 ga9
  obtain ⟨r2, e_r2⟩ : ∃ z : Nat → Int32, z = (fun q => if q = 2 then v2 else r1 q) := ⟨_, rfl⟩
  rw [← e_r2] at f85
  have hr2 : r2 2 = v2 := by rw [e_r2]; rfl
  refine own_aload X82 hx 53 (hb hby at_51) rfl rfl ?_
  refine own_iconst X82 hx 54 (2 : Int32) (by decide) (hb hby at_53) rfl ?_
  refine own_aload X82 hx 56 (hb hby at_54) rfl rfl ?_
  refine own_aload X82 hx 58 (hb hby at_56) rfl rfl ?_
  refine own_lloadN X82 hx 59 (hb hby at_58) rfl rfl ?_
  refine own_iconst X82 hx 60 (2 : Int32) (by decide) (hb hby at_59) rfl ?_
  refine own_callS X82 hx hZ hown e83 (y := (⟨"com/example/trubis/trubis/equivalence/BlockHistoryPartedPinLaw", "madeFor", "([I[IJI)I"⟩ : MethodName)) (argsL := [(.ref a3), (.ref a13), (.long q1), (.int (2 : Int32))]) (rest := [(.int (2 : Int32)), (.ref a13)]) 63 (rm2_2 l Z a0 hw a3 a13 q1 r2 g1 h81 n0 Z87 (by rw [hr2]; omega) f85 f86) (hw _ (List.mem_of_getElem? (i := 5) rfl)) (hw _ (List.mem_of_getElem? (i := 6) rfl)) (hw _ (List.mem_of_getElem? (i := 3) rfl)) (hw _ (List.mem_of_getElem? (i := 7) rfl)) (by decide) (by rw [hml]; rfl) (lenOf (by decide +kernel : parseMethodDescriptor "([I[IJI)I" = some ⟨[(.array .int), (.array .int), .long, .int], some .int⟩) rfl) rfl (hb hby at_60) rfl (W := 2) rfl (by decide) (by decide) (by decide) (by decide) (fun r89 T90 L91 X92 q93 => ?_)
  obtain ⟨rfl, N94q, e95⟩ := q93
  have N94 := Fr.app N88 N94q
  obtain ⟨m2, e_m2⟩ : ∃ z : Int32, z = own_mf2 r2 g1 q1 := ⟨_, rfl⟩
  rw [← e_m2]
  have s2 : own_st v2 m2 g1 8 := own_stM v2 m2 _ g1 8 4 _ (by decide) (by decide) (by decide) bg1 rfl (by rw [e_m2]; unfold own_mf2; rw [hr2])
  show own_W p e below _ T90 (mkF m 63 #[.val (.int p0), .val (.long q1), .second, .val (.int p2), .val (.int p3), .val (.ref a3), .val (.ref a13), .unset, .unset, .unset, .unset, .unset, .unset, .unset, .unset, .unset] [(.int m2), (.int (2 : Int32)), (.ref a13)])
  refine own_iastore X92 hx hZ e95 64 2 f86 rfl (by decide) (hb hby at_63) rfl (fun T96 h97 X98 e99 W100 => ?_)
  have f101 := f85.other W100 ne19
  have f102 := f86.set W100
  have Z103 : n0 ≤ h97.size := Nat.le_trans Z87 (Keep.of_wr W100).1
  have N104 := Fr.snoc X98 N94 ga20
  obtain ⟨g2, e_g2⟩ : ∃ z : Nat → Int32, z = (fun q => if q = 2 then m2 else g1 q) := ⟨_, rfl⟩
  rw [← e_g2] at f102
  have bg2 := own_bN g1 g2 2 m2 4 8 bg1 ⟨s2.2.2.1, s2.2.2.2⟩ (by decide) e_g2
  have k2 := own_ok1 2 r1 g1 r2 g2 v2 m2 8 k1 (by omega) s2 e_r2 e_g2
  refine own_aload X98 hx 66 (hb hby at_64) rfl rfl ?_
  refine own_iconst X98 hx 67 (3 : Int32) (by decide) (hb hby at_66) rfl ?_
  refine own_iloadN X98 hx 68 (hb hby at_67) rfl rfl ?_
  refine own_iconst X98 hx 69 (3 : Int32) (by decide) (hb hby at_68) rfl ?_
  refine own_callS X98 hx hZ hown e99 (y := (⟨"com/example/trubis/trubis/equivalence/BlockHistoryPartedPinLaw", "parentChoice", "(II)I"⟩ : MethodName)) (argsL := [(.int p0), (.int (3 : Int32))]) (rest := [(.int (3 : Int32)), (.ref a3)]) 72 (rm1_3 l Z a0 hw p0 h97 n0 Z103) (hw _ (List.mem_of_getElem? (i := 1) rfl)) (hw _ (List.mem_of_getElem? (i := 2) rfl)) (hw _ (List.mem_of_getElem? (i := 3) rfl)) (hw _ (List.mem_of_getElem? (i := 4) rfl)) (by decide) (by rw [hml]; rfl) (lenOf (by decide +kernel : parseMethodDescriptor "(II)I" = some ⟨[.int, .int], some .int⟩) rfl) rfl (hb hby at_69) rfl (W := 2) rfl (by decide) (by decide) (by decide) (by decide) (fun r105 T106 L107 X108 q109 => ?_)
  obtain ⟨rfl, N110q, e111⟩ := q109
  have N110 := Fr.app N104 N110q
  obtain ⟨v3, e_v3⟩ : ∃ z : Int32, z = own_pc3 p0 := ⟨_, rfl⟩
  rw [← e_v3]
  have hv3 := own_pcV _ _ v3 (4 : Int32) 3 rfl (by decide) rfl e_v3
  show own_W p e below _ T106 (mkF m 72 #[.val (.int p0), .val (.long q1), .second, .val (.int p2), .val (.int p3), .val (.ref a3), .val (.ref a13), .unset, .unset, .unset, .unset, .unset, .unset, .unset, .unset, .unset] [(.int v3), (.int (3 : Int32)), (.ref a3)])
  refine own_iastore X108 hx hZ e111 73 3 f101 rfl (by decide) (hb hby at_72) rfl (fun T112 h113 X114 e115 W116 => ?_)
  have f117 := f101.set W116
  have f118 := f102.other W116 (Ne.symm ne19)
  have Z119 : n0 ≤ h113.size := Nat.le_trans Z103 (Keep.of_wr W116).1
  have N120 := Fr.snoc X114 N110 ga9
  obtain ⟨r3, e_r3⟩ : ∃ z : Nat → Int32, z = (fun q => if q = 3 then v3 else r2 q) := ⟨_, rfl⟩
  rw [← e_r3] at f117
  have hr3 : r3 3 = v3 := by rw [e_r3]; rfl
  refine own_aload X114 hx 75 (hb hby at_73) rfl rfl ?_
  refine own_iconst X114 hx 76 (3 : Int32) (by decide) (hb hby at_75) rfl ?_
  refine own_aload X114 hx 78 (hb hby at_76) rfl rfl ?_
  refine own_aload X114 hx 80 (hb hby at_78) rfl rfl ?_
  refine own_lloadN X114 hx 81 (hb hby at_80) rfl rfl ?_
  refine own_iconst X114 hx 82 (3 : Int32) (by decide) (hb hby at_81) rfl ?_
  refine own_callS X114 hx hZ hown e115 (y := (⟨"com/example/trubis/trubis/equivalence/BlockHistoryPartedPinLaw", "madeFor", "([I[IJI)I"⟩ : MethodName)) (argsL := [(.ref a3), (.ref a13), (.long q1), (.int (3 : Int32))]) (rest := [(.int (3 : Int32)), (.ref a13)]) 85 (rm2_3 l Z a0 hw a3 a13 q1 r3 g2 h113 n0 Z119 (by rw [hr3]; omega) f117 f118) (hw _ (List.mem_of_getElem? (i := 5) rfl)) (hw _ (List.mem_of_getElem? (i := 6) rfl)) (hw _ (List.mem_of_getElem? (i := 3) rfl)) (hw _ (List.mem_of_getElem? (i := 7) rfl)) (by decide) (by rw [hml]; rfl) (lenOf (by decide +kernel : parseMethodDescriptor "([I[IJI)I" = some ⟨[(.array .int), (.array .int), .long, .int], some .int⟩) rfl) rfl (hb hby at_82) rfl (W := 2) rfl (by decide) (by decide) (by decide) (by decide) (fun r121 T122 L123 X124 q125 => ?_)
  obtain ⟨rfl, N126q, e127⟩ := q125
  have N126 := Fr.app N120 N126q
  obtain ⟨m3, e_m3⟩ : ∃ z : Int32, z = own_mf3 r3 g2 q1 := ⟨_, rfl⟩
  rw [← e_m3]
  have s3 : own_st v3 m3 g2 12 := own_stM v3 m3 _ g2 12 8 _ (by decide) (by decide) (by decide) bg2 rfl (by rw [e_m3]; unfold own_mf3; rw [hr3])
  show own_W p e below _ T122 (mkF m 85 #[.val (.int p0), .val (.long q1), .second, .val (.int p2), .val (.int p3), .val (.ref a3), .val (.ref a13), .unset, .unset, .unset, .unset, .unset, .unset, .unset, .unset, .unset] [(.int m3), (.int (3 : Int32)), (.ref a13)])
  refine own_iastore X124 hx hZ e127 86 3 f118 rfl (by decide) (hb hby at_85) rfl (fun T128 h129 X130 e131 W132 => ?_)
  have f133 := f117.other W132 ne19
  have f134 := f118.set W132
  have Z135 : n0 ≤ h129.size := Nat.le_trans Z119 (Keep.of_wr W132).1
  have N136 := Fr.snoc X130 N126 ga20
  obtain ⟨g3, e_g3⟩ : ∃ z : Nat → Int32, z = (fun q => if q = 3 then m3 else g2 q) := ⟨_, rfl⟩
  rw [← e_g3] at f134
  have bg3 := own_bN g2 g3 3 m3 8 12 bg2 ⟨s3.2.2.1, s3.2.2.2⟩ (by decide) e_g3
  have k3 := own_ok1 3 r2 g2 r3 g3 v3 m3 12 k2 (by omega) s3 e_r3 e_g3
  refine own_aload X130 hx 88 (hb hby at_86) rfl rfl ?_
  refine own_iconst X130 hx 89 (4 : Int32) (by decide) (hb hby at_88) rfl ?_
  refine own_iloadN X130 hx 90 (hb hby at_89) rfl rfl ?_
  refine own_iconst X130 hx 91 (4 : Int32) (by decide) (hb hby at_90) rfl ?_
  refine own_callS X130 hx hZ hown e131 (y := (⟨"com/example/trubis/trubis/equivalence/BlockHistoryPartedPinLaw", "parentChoice", "(II)I"⟩ : MethodName)) (argsL := [(.int p0), (.int (4 : Int32))]) (rest := [(.int (4 : Int32)), (.ref a3)]) 94 (rm1_4 l Z a0 hw p0 h129 n0 Z135) (hw _ (List.mem_of_getElem? (i := 1) rfl)) (hw _ (List.mem_of_getElem? (i := 2) rfl)) (hw _ (List.mem_of_getElem? (i := 3) rfl)) (hw _ (List.mem_of_getElem? (i := 4) rfl)) (by decide) (by rw [hml]; rfl) (lenOf (by decide +kernel : parseMethodDescriptor "(II)I" = some ⟨[.int, .int], some .int⟩) rfl) rfl (hb hby at_91) rfl (W := 2) rfl (by decide) (by decide) (by decide) (by decide) (fun r137 T138 L139 X140 q141 => ?_)
  obtain ⟨rfl, N142q, e143⟩ := q141
  have N142 := Fr.app N136 N142q
  obtain ⟨v4, e_v4⟩ : ∃ z : Int32, z = own_pc4 p0 := ⟨_, rfl⟩
  rw [← e_v4]
  have hv4 := own_pcV _ _ v4 (5 : Int32) 4 rfl (by decide) rfl e_v4
  show own_W p e below _ T138 (mkF m 94 #[.val (.int p0), .val (.long q1), .second, .val (.int p2), .val (.int p3), .val (.ref a3), .val (.ref a13), .unset, .unset, .unset, .unset, .unset, .unset, .unset, .unset, .unset] [(.int v4), (.int (4 : Int32)), (.ref a3)])
  refine own_iastore X140 hx hZ e143 95 4 f133 rfl (by decide) (hb hby at_94) rfl (fun T144 h145 X146 e147 W148 => ?_)
  have f149 := f133.set W148
  have f150 := f134.other W148 (Ne.symm ne19)
  have Z151 : n0 ≤ h145.size := Nat.le_trans Z135 (Keep.of_wr W148).1
  have N152 := Fr.snoc X146 N142 ga9
  obtain ⟨r4, e_r4⟩ : ∃ z : Nat → Int32, z = (fun q => if q = 4 then v4 else r3 q) := ⟨_, rfl⟩
  rw [← e_r4] at f149
  have hr4 : r4 4 = v4 := by rw [e_r4]; rfl
  refine own_aload X146 hx 97 (hb hby at_95) rfl rfl ?_
  refine own_iconst X146 hx 98 (4 : Int32) (by decide) (hb hby at_97) rfl ?_
  refine own_aload X146 hx 100 (hb hby at_98) rfl rfl ?_
  refine own_aload X146 hx 102 (hb hby at_100) rfl rfl ?_
  refine own_lloadN X146 hx 103 (hb hby at_102) rfl rfl ?_
  refine own_iconst X146 hx 104 (4 : Int32) (by decide) (hb hby at_103) rfl ?_
  refine own_callS X146 hx hZ hown e147 (y := (⟨"com/example/trubis/trubis/equivalence/BlockHistoryPartedPinLaw", "madeFor", "([I[IJI)I"⟩ : MethodName)) (argsL := [(.ref a3), (.ref a13), (.long q1), (.int (4 : Int32))]) (rest := [(.int (4 : Int32)), (.ref a13)]) 107 (rm2_4 l Z a0 hw a3 a13 q1 r4 g3 h145 n0 Z151 (by rw [hr4]; omega) f149 f150) (hw _ (List.mem_of_getElem? (i := 5) rfl)) (hw _ (List.mem_of_getElem? (i := 6) rfl)) (hw _ (List.mem_of_getElem? (i := 3) rfl)) (hw _ (List.mem_of_getElem? (i := 7) rfl)) (by decide) (by rw [hml]; rfl) (lenOf (by decide +kernel : parseMethodDescriptor "([I[IJI)I" = some ⟨[(.array .int), (.array .int), .long, .int], some .int⟩) rfl) rfl (hb hby at_104) rfl (W := 2) rfl (by decide) (by decide) (by decide) (by decide) (fun r153 T154 L155 X156 q157 => ?_)
  obtain ⟨rfl, N158q, e159⟩ := q157
  have N158 := Fr.app N152 N158q
  obtain ⟨m4, e_m4⟩ : ∃ z : Int32, z = own_mf4 r4 g3 q1 := ⟨_, rfl⟩
  rw [← e_m4]
  have s4 : own_st v4 m4 g3 16 := own_stM v4 m4 _ g3 16 12 _ (by decide) (by decide) (by decide) bg3 rfl (by rw [e_m4]; unfold own_mf4; rw [hr4])
  show own_W p e below _ T154 (mkF m 107 #[.val (.int p0), .val (.long q1), .second, .val (.int p2), .val (.int p3), .val (.ref a3), .val (.ref a13), .unset, .unset, .unset, .unset, .unset, .unset, .unset, .unset, .unset] [(.int m4), (.int (4 : Int32)), (.ref a13)])
  refine own_iastore X156 hx hZ e159 108 4 f150 rfl (by decide) (hb hby at_107) rfl (fun T160 h161 X162 e163 W164 => ?_)
  have f165 := f149.other W164 ne19
  have f166 := f150.set W164
  have Z167 : n0 ≤ h161.size := Nat.le_trans Z151 (Keep.of_wr W164).1
  have N168 := Fr.snoc X162 N158 ga20
  obtain ⟨g4, e_g4⟩ : ∃ z : Nat → Int32, z = (fun q => if q = 4 then m4 else g3 q) := ⟨_, rfl⟩
  rw [← e_g4] at f166
  have bg4 := own_bN g3 g4 4 m4 12 16 bg3 ⟨s4.2.2.1, s4.2.2.2⟩ (by decide) e_g4
  have k4 := own_ok1 4 r3 g3 r4 g4 v4 m4 16 k3 (by omega) s4 e_r4 e_g4
  refine own_iloadN X162 hx 109 (hb hby at_108) rfl rfl ?_
  refine own_ldc X162 hx hZ hown 111 (hw _ (List.mem_of_getElem? (i := 8) rfl)) (hb hby at_109) rfl ?_
  refine own_iand X162 hx 112 (hb hby at_111) rfl ?_
  refine own_iconst X162 hx 113 (5 : Int32) (by decide) (hb hby at_112) rfl ?_
  refine own_irem X162 hx 114 (by decide) (hb hby at_113) rfl ?_
  obtain ⟨va, e_va⟩ : ∃ z : Int32, z = ((p2 &&& (2147483647 : Int32)) % (5 : Int32)) := ⟨_, rfl⟩
  refine own_istore X162 hx 116 #[.val (.int p0), .val (.long q1), .second, .val (.int p2), .val (.int p3), .val (.ref a3), .val (.ref a13), .val (.int va), .unset, .unset, .unset, .unset, .unset, .unset, .unset, .unset] e_va (hb hby at_114) rfl rfl ?_
  refine own_iload X162 hx 118 (hb hby at_116) rfl rfl ?_
  refine own_ldc X162 hx hZ hown 120 (hw _ (List.mem_of_getElem? (i := 8) rfl)) (hb hby at_118) rfl ?_
  refine own_iand X162 hx 121 (hb hby at_120) rfl ?_
  refine own_iconst X162 hx 122 (5 : Int32) (by decide) (hb hby at_121) rfl ?_
  refine own_irem X162 hx 123 (by decide) (hb hby at_122) rfl ?_
  obtain ⟨vb, e_vb⟩ : ∃ z : Int32, z = ((p3 &&& (2147483647 : Int32)) % (5 : Int32)) := ⟨_, rfl⟩
  refine own_istore X162 hx 125 #[.val (.int p0), .val (.long q1), .second, .val (.int p2), .val (.int p3), .val (.ref a3), .val (.ref a13), .val (.int va), .val (.int vb), .unset, .unset, .unset, .unset, .unset, .unset, .unset] e_vb (hb hby at_123) rfl rfl ?_
  have ok : own_ok r4 g4 := k4
  have hva := own_abV p2 va e_va
  have hvb := own_abV p3 vb e_vb
  refine own_new X162 hx hZ hown e163 128 (hw _ (List.mem_of_getElem? (i := 9) rfl)) (hw _ (List.mem_of_getElem? (i := 10) rfl)) (hw _ (List.mem_of_getElem? (i := 11) rfl)) (hb hby at_125) rfl (by decide) (by decide) (fun T169 h170 a171 X172 e173 g174 E175 A176 D177 => ?_)
  have ne178 : a3 ≠ a171 := fun q => absurd (f165.lt) (by rw [q, g174]; exact Nat.lt_irrefl _)
  have ne179 : a13 ≠ a171 := fun q => absurd (f166.lt) (by rw [q, g174]; exact Nat.lt_irrefl _)
  have ga180 : n0 ≤ a171 := by rw [g174]; exact Z167
  have f181 := f165.ext E175
  have f182 := f166.ext E175
  have Z183 : n0 ≤ h170.size := Nat.le_trans Z167 E175.1
  have f184 : Fld Z h170 a171 "com/example/trubis/trubis/equivalence/BlockHistory" "blockOf" "[I" .null := D177 (Or.inr (hw _ (List.mem_of_getElem? (i := 19) rfl))) (ty := (.array .int)) (by decide)
  have f185 : Fld Z h170 a171 "com/example/trubis/trubis/equivalence/BlockHistory" "parentOf" "[I" .null := D177 (Or.inr (hw _ (List.mem_of_getElem? (i := 21) rfl))) (ty := (.array .int)) (by decide)
  have f186 : Fld Z h170 a171 "com/example/trubis/trubis/equivalence/BlockHistory" "madeIn" "[I" .null := D177 (Or.inr (hw _ (List.mem_of_getElem? (i := 23) rfl))) (ty := (.array .int)) (by decide)
  refine own_dup X172 hx 129 rfl (hb hby at_128) rfl ?_
  refine own_iconst X172 hx 130 (0 : Int32) (by decide) (hb hby at_129) rfl ?_
  refine own_newI X172 hx hZ e173 (n := 0) (cap := 0) 132 .int rfl rfl (hw _ (List.mem_of_getElem? (i := 0) rfl)) rfl (by decide) (by decide) (hb hby at_130) rfl (by decide) (by decide) (fun T187 h188 a189 X190 e191 g192 E193 A194 => ?_)
  have ne195 : a3 ≠ a189 := fun q => absurd (f181.lt) (by rw [q, g192]; exact Nat.lt_irrefl _)
  have ne196 : a13 ≠ a189 := fun q => absurd (f182.lt) (by rw [q, g192]; exact Nat.lt_irrefl _)
  have ne197 : a171 ≠ a189 := fun q => absurd (A176.lt) (by rw [q, g192]; exact Nat.lt_irrefl _)
  have ga198 : n0 ≤ a189 := by rw [g192]; exact Z183
  have f199 := f181.ext E193
  have f200 := f182.ext E193
  have f201 := A176.ext E193
  have f202 := f184.ext E193
  have f203 := f185.ext E193
  have f204 := f186.ext E193
  have Z205 : n0 ≤ h188.size := Nat.le_trans Z183 E193.1
  refine own_aload X190 hx 134 (hb hby at_132) rfl rfl ?_
  refine own_aload X190 hx 136 (hb hby at_134) rfl rfl ?_
  refine own_callI X190 hx hZ hown e191 (y := (⟨"com/example/trubis/trubis/equivalence/BlockHistory", "<init>", "([I[I[I)V"⟩ : MethodName)) (a := a171) (argsL := [(.ref a189), (.ref a3), (.ref a13)]) (rest := [(.ref a171)]) 139 (rm3 l Z a0 hw a171 a189 a3 a13 h188 n0 Z205 ga180 f201 f202 f203 f204) rfl (hw _ (List.mem_of_getElem? (i := 12) rfl)) (hw _ (List.mem_of_getElem? (i := 13) rfl)) (hw _ (List.mem_of_getElem? (i := 11) rfl)) (hw _ (List.mem_of_getElem? (i := 14) rfl)) (by decide) (by rw [hml]; rfl) (lenOf (by decide +kernel : parseMethodDescriptor "([I[I[I)V" = some ⟨[(.array .int), (.array .int), (.array .int)], none⟩) rfl) rfl (hb hby at_136) rfl (W := 1) rfl (by decide) (by decide) (by decide) (by decide) (fun r206 T207 L208 X209 q210 => ?_)
  obtain ⟨rfl, N211q, K212, f213, f214, f215⟩ := q210
  have N211 := Fr.app N168 N211q
  have f216 := f199.keep K212 (ninS ne178 nin0)
  have f217 := f200.keep K212 (ninS ne179 nin0)
  have f218 := f201.keep K212
  have f222 := A194.keep K212 (ninS (Ne.symm ne197) nin0)
  have Z223 : n0 ≤ T207.heap.size := Nat.le_trans Z205 K212.1
  show own_W p e below _ T207 (mkF m 139 #[.val (.int p0), .val (.long q1), .second, .val (.int p2), .val (.int p3), .val (.ref a3), .val (.ref a13), .val (.int va), .val (.int vb), .unset, .unset, .unset, .unset, .unset, .unset, .unset] [(.ref a171)])
  refine own_astore X209 hx 141 #[.val (.int p0), .val (.long q1), .second, .val (.int p2), .val (.int p3), .val (.ref a3), .val (.ref a13), .val (.int va), .val (.int vb), .val (.ref a171), .unset, .unset, .unset, .unset, .unset, .unset] rfl (hb hby at_139) rfl rfl ?_
  refine own_aload X209 hx 143 (hb hby at_141) rfl rfl ?_
  refine own_iload X209 hx 145 (hb hby at_143) rfl rfl ?_
  refine own_iload X209 hx 147 (hb hby at_145) rfl rfl ?_
  refine own_callV X209 hx hZ hown rfl (y := (⟨"com/example/trubis/trubis/equivalence/BlockHistory", "parted", "(II)I"⟩ : MethodName)) (a := a171) (argsL := [(.int va), (.int vb)]) (rest := []) 150 (rm4 l Z a0 hw a171 a3 a13 va vb r4 g4 T207.heap n0 Z223 ok hva hvb f214 f215 f216 f217) f218 (hw _ (List.mem_of_getElem? (i := 24) rfl)) (hw _ (List.mem_of_getElem? (i := 25) rfl)) (hw _ (List.mem_of_getElem? (i := 27) rfl)) (hw _ (List.mem_of_getElem? (i := 26) rfl)) (hw _ (List.mem_of_getElem? (i := 11) rfl)) (hw _ (List.mem_of_getElem? (i := 28) rfl)) (by decide) (by rw [hml]; rfl) (lenOf (by decide +kernel : parseMethodDescriptor "(II)I" = some ⟨[.int, .int], some .int⟩) rfl) rfl (hb hby at_147) rfl (W := 0) rfl (by decide) (by decide) (by decide) (by decide) (fun r224 T225 L226 X227 q228 => ?_)
  obtain ⟨got, rfl, hout, N229q, e230⟩ := q228
  have N229 := Fr.app N211 N229q
  show own_W p e below _ T225 (mkF m 150 #[.val (.int p0), .val (.long q1), .second, .val (.int p2), .val (.int p3), .val (.ref a3), .val (.ref a13), .val (.int va), .val (.int vb), .val (.ref a171), .unset, .unset, .unset, .unset, .unset, .unset] [(.int got)])
  refine own_istore X227 hx 152 #[.val (.int p0), .val (.long q1), .second, .val (.int p2), .val (.int p3), .val (.ref a3), .val (.ref a13), .val (.int va), .val (.int vb), .val (.ref a171), .val (.int got), .unset, .unset, .unset, .unset, .unset] rfl (hb hby at_150) rfl rfl ?_
  refine own_iload X227 hx 154 (hb hby at_152) rfl rfl ?_
  refine own_iload X227 hx 156 (hb hby at_154) rfl rfl ?_
  refine own_icmp_ne X227 hx 172 159 (hb hby at_156) (by decide) (by decide) rfl (fun h231 => ?_) (fun h231 => ?_)
  · show own_W p e below _ T225 (mkF m 172 #[.val (.int p0), .val (.long q1), .second, .val (.int p2), .val (.int p3), .val (.ref a3), .val (.ref a13), .val (.int va), .val (.int vb), .val (.ref a171), .val (.int got), .unset, .unset, .unset, .unset, .unset] [])
    refine own_aload X227 hx 174 (hb hby at_172) rfl rfl ?_
    refine own_iload X227 hx 176 (hb hby at_174) rfl rfl ?_
    refine own_callS X227 hx hZ hown e230 (y := (⟨"com/example/trubis/trubis/equivalence/BlockHistoryPartedPinLaw", "chain", "([II)[I"⟩ : MethodName)) (argsL := [(.ref a3), (.int va)]) (rest := []) 179 (rm6 l Z a0 hw a3 va r4 g4 T207.heap n0 Z223 ok hva.2 f216) (hw _ (List.mem_of_getElem? (i := 30) rfl)) (hw _ (List.mem_of_getElem? (i := 31) rfl)) (hw _ (List.mem_of_getElem? (i := 3) rfl)) (hw _ (List.mem_of_getElem? (i := 32) rfl)) (by decide) (by rw [hml]; rfl) (lenOf (by decide +kernel : parseMethodDescriptor "([II)[I" = some ⟨[(.array .int), .int], some (.array .int)⟩) rfl) rfl (hb hby at_176) rfl (W := 0) rfl (by decide) (by decide) (by decide) (by decide) (fun r232 T233 L234 X235 q236 => ?_)
    obtain ⟨a237, rfl, ga240, gb241, N238q, K239, f242⟩ := q236
    have N238 := Fr.app N229 N238q
    have ne243 : a3 ≠ a237 := Nat.ne_of_lt (Nat.lt_of_lt_of_le f216.lt gb241)
    have ne244 : a13 ≠ a237 := Nat.ne_of_lt (Nat.lt_of_lt_of_le f217.lt gb241)
    have ne245 : a171 ≠ a237 := Nat.ne_of_lt (Nat.lt_of_lt_of_le f218.lt gb241)
    have ne246 : a189 ≠ a237 := Nat.ne_of_lt (Nat.lt_of_lt_of_le f222.lt gb241)
    have f247 := f216.keep K239 nin0
    have f248 := f217.keep K239 nin0
    have f249 := f218.keep K239
    have f250 := f222.keep K239 nin0
    have f251 := f213.keep K239 nin0
    have f252 := f214.keep K239 nin0
    have f253 := f215.keep K239 nin0
    have Z254 : n0 ≤ T233.heap.size := Nat.le_trans Z223 K239.1
    show own_W p e below _ T233 (mkF m 179 #[.val (.int p0), .val (.long q1), .second, .val (.int p2), .val (.int p3), .val (.ref a3), .val (.ref a13), .val (.int va), .val (.int vb), .val (.ref a171), .val (.int got), .unset, .unset, .unset, .unset, .unset] [(.ref a237)])
    refine own_astore X235 hx 181 #[.val (.int p0), .val (.long q1), .second, .val (.int p2), .val (.int p3), .val (.ref a3), .val (.ref a13), .val (.int va), .val (.int vb), .val (.ref a171), .val (.int got), .val (.ref a237), .unset, .unset, .unset, .unset] rfl (hb hby at_179) rfl rfl ?_
    refine own_aload X235 hx 183 (hb hby at_181) rfl rfl ?_
    refine own_iload X235 hx 185 (hb hby at_183) rfl rfl ?_
    refine own_callS X235 hx hZ hown rfl (y := (⟨"com/example/trubis/trubis/equivalence/BlockHistoryPartedPinLaw", "chain", "([II)[I"⟩ : MethodName)) (argsL := [(.ref a3), (.int vb)]) (rest := []) 188 (rm6 l Z a0 hw a3 vb r4 g4 T233.heap n0 Z254 ok hvb.2 f247) (hw _ (List.mem_of_getElem? (i := 30) rfl)) (hw _ (List.mem_of_getElem? (i := 31) rfl)) (hw _ (List.mem_of_getElem? (i := 3) rfl)) (hw _ (List.mem_of_getElem? (i := 32) rfl)) (by decide) (by rw [hml]; rfl) (lenOf (by decide +kernel : parseMethodDescriptor "([II)[I" = some ⟨[(.array .int), .int], some (.array .int)⟩) rfl) rfl (hb hby at_185) rfl (W := 0) rfl (by decide) (by decide) (by decide) (by decide) (fun r255 T256 L257 X258 q259 => ?_)
    obtain ⟨a260, rfl, ga263, gb264, N261q, K262, f265⟩ := q259
    have N261 := Fr.app N238 N261q
    have ne266 : a3 ≠ a260 := Nat.ne_of_lt (Nat.lt_of_lt_of_le f247.lt gb264)
    have ne267 : a13 ≠ a260 := Nat.ne_of_lt (Nat.lt_of_lt_of_le f248.lt gb264)
    have ne268 : a171 ≠ a260 := Nat.ne_of_lt (Nat.lt_of_lt_of_le f249.lt gb264)
    have ne269 : a189 ≠ a260 := Nat.ne_of_lt (Nat.lt_of_lt_of_le f250.lt gb264)
    have ne270 : a237 ≠ a260 := Nat.ne_of_lt (Nat.lt_of_lt_of_le f242.lt gb264)
    have f271 := f247.keep K262 nin0
    have f272 := f248.keep K262 nin0
    have f273 := f249.keep K262
    have f274 := f250.keep K262 nin0
    have f275 := f251.keep K262 nin0
    have f276 := f252.keep K262 nin0
    have f277 := f253.keep K262 nin0
    have f278 := f242.keep K262 nin0
    have Z279 : n0 ≤ T256.heap.size := Nat.le_trans Z254 K262.1
    show own_W p e below _ T256 (mkF m 188 #[.val (.int p0), .val (.long q1), .second, .val (.int p2), .val (.int p3), .val (.ref a3), .val (.ref a13), .val (.int va), .val (.int vb), .val (.ref a171), .val (.int got), .val (.ref a237), .unset, .unset, .unset, .unset] [(.ref a260)])
    refine own_astore X258 hx 190 #[.val (.int p0), .val (.long q1), .second, .val (.int p2), .val (.int p3), .val (.ref a3), .val (.ref a13), .val (.int va), .val (.int vb), .val (.ref a171), .val (.int got), .val (.ref a237), .val (.ref a260), .unset, .unset, .unset] rfl (hb hby at_188) rfl rfl ?_
    refine own_iconst X258 hx 191 (-1 : Int32) (by decide) (hb hby at_190) rfl ?_
    refine own_istore X258 hx 193 #[.val (.int p0), .val (.long q1), .second, .val (.int p2), .val (.int p3), .val (.ref a3), .val (.ref a13), .val (.int va), .val (.int vb), .val (.ref a171), .val (.int got), .val (.ref a237), .val (.ref a260), .val (.int (-1 : Int32)), .unset, .unset] rfl (hb hby at_191) rfl rfl ?_
    refine own_aload X258 hx 195 (hb hby at_193) rfl rfl ?_
    refine own_aload X258 hx 197 (hb hby at_195) rfl rfl ?_
    refine own_iconst X258 hx 198 (0 : Int32) (by decide) (hb hby at_197) rfl ?_
    refine own_iaload X258 hx hZ rfl 199 0 f278 rfl (by decide) (hb hby at_198) rfl ?_
    refine own_callS X258 hx hZ hown rfl (y := (⟨"com/example/trubis/trubis/equivalence/BlockHistoryPartedPinLaw", "indexIn", "([II)I"⟩ : MethodName)) (argsL := [(.ref a260), (.int ((own_ch r4 va) 0))]) (rest := []) 202 (rm7 l Z a0 hw a260 ((own_ch r4 va) 0) (own_ch r4 vb) T256.heap n0 Z279 f265) (hw _ (List.mem_of_getElem? (i := 36) rfl)) (hw _ (List.mem_of_getElem? (i := 37) rfl)) (hw _ (List.mem_of_getElem? (i := 3) rfl)) (hw _ (List.mem_of_getElem? (i := 38) rfl)) (by decide) (by rw [hml]; rfl) (lenOf (by decide +kernel : parseMethodDescriptor "([II)I" = some ⟨[(.array .int), .int], some .int⟩) rfl) rfl (hb hby at_199) rfl (W := 0) rfl (by decide) (by decide) (by decide) (by decide) (fun r280 T281 L282 X283 q284 => ?_)
    obtain ⟨rfl, N285q, e286⟩ := q284
    have N285 := Fr.app N261 N285q
    show own_W p e below _ T281 (mkF m 202 #[.val (.int p0), .val (.long q1), .second, .val (.int p2), .val (.int p3), .val (.ref a3), .val (.ref a13), .val (.int va), .val (.int vb), .val (.ref a171), .val (.int got), .val (.ref a237), .val (.ref a260), .val (.int (-1 : Int32)), .unset, .unset] [(.int (own_ix (own_ch r4 vb) ((own_ch r4 va) 0)))])
    refine own_if_lt X283 hx 211 205 (hb hby at_202) (by decide) (by decide) rfl (fun h287 => ?_) (fun h287 => ?_)
    · show own_W p e below _ T281 (mkF m 211 #[.val (.int p0), .val (.long q1), .second, .val (.int p2), .val (.int p3), .val (.ref a3), .val (.ref a13), .val (.int va), .val (.int vb), .val (.ref a171), .val (.int got), .val (.ref a237), .val (.ref a260), .val (.int (-1 : Int32)), .unset, .unset] [])
      refine own_aload X283 hx 213 (hb hby at_211) rfl rfl ?_
      refine own_aload X283 hx 215 (hb hby at_213) rfl rfl ?_
      refine own_iconst X283 hx 216 (1 : Int32) (by decide) (hb hby at_215) rfl ?_
      refine own_iaload X283 hx hZ e286 217 1 f278 rfl (by decide) (hb hby at_216) rfl ?_
      refine own_callS X283 hx hZ hown e286 (y := (⟨"com/example/trubis/trubis/equivalence/BlockHistoryPartedPinLaw", "indexIn", "([II)I"⟩ : MethodName)) (argsL := [(.ref a260), (.int ((own_ch r4 va) 1))]) (rest := []) 220 (rm7 l Z a0 hw a260 ((own_ch r4 va) 1) (own_ch r4 vb) T256.heap n0 Z279 f265) (hw _ (List.mem_of_getElem? (i := 36) rfl)) (hw _ (List.mem_of_getElem? (i := 37) rfl)) (hw _ (List.mem_of_getElem? (i := 3) rfl)) (hw _ (List.mem_of_getElem? (i := 38) rfl)) (by decide) (by rw [hml]; rfl) (lenOf (by decide +kernel : parseMethodDescriptor "([II)I" = some ⟨[(.array .int), .int], some .int⟩) rfl) rfl (hb hby at_217) rfl (W := 0) rfl (by decide) (by decide) (by decide) (by decide) (fun r288 T289 L290 X291 q292 => ?_)
      obtain ⟨rfl, N293q, e294⟩ := q292
      have N293 := Fr.app N285 N293q
      show own_W p e below _ T289 (mkF m 220 #[.val (.int p0), .val (.long q1), .second, .val (.int p2), .val (.int p3), .val (.ref a3), .val (.ref a13), .val (.int va), .val (.int vb), .val (.ref a171), .val (.int got), .val (.ref a237), .val (.ref a260), .val (.int (-1 : Int32)), .unset, .unset] [(.int (own_ix (own_ch r4 vb) ((own_ch r4 va) 1)))])
      refine own_if_lt X291 hx 229 223 (hb hby at_220) (by decide) (by decide) rfl (fun h295 => ?_) (fun h295 => ?_)
      · show own_W p e below _ T289 (mkF m 229 #[.val (.int p0), .val (.long q1), .second, .val (.int p2), .val (.int p3), .val (.ref a3), .val (.ref a13), .val (.int va), .val (.int vb), .val (.ref a171), .val (.int got), .val (.ref a237), .val (.ref a260), .val (.int (-1 : Int32)), .unset, .unset] [])
        refine own_aload X291 hx 231 (hb hby at_229) rfl rfl ?_
        refine own_aload X291 hx 233 (hb hby at_231) rfl rfl ?_
        refine own_iconst X291 hx 234 (2 : Int32) (by decide) (hb hby at_233) rfl ?_
        refine own_iaload X291 hx hZ e294 235 2 f278 rfl (by decide) (hb hby at_234) rfl ?_
        refine own_callS X291 hx hZ hown e294 (y := (⟨"com/example/trubis/trubis/equivalence/BlockHistoryPartedPinLaw", "indexIn", "([II)I"⟩ : MethodName)) (argsL := [(.ref a260), (.int ((own_ch r4 va) 2))]) (rest := []) 238 (rm7 l Z a0 hw a260 ((own_ch r4 va) 2) (own_ch r4 vb) T256.heap n0 Z279 f265) (hw _ (List.mem_of_getElem? (i := 36) rfl)) (hw _ (List.mem_of_getElem? (i := 37) rfl)) (hw _ (List.mem_of_getElem? (i := 3) rfl)) (hw _ (List.mem_of_getElem? (i := 38) rfl)) (by decide) (by rw [hml]; rfl) (lenOf (by decide +kernel : parseMethodDescriptor "([II)I" = some ⟨[(.array .int), .int], some .int⟩) rfl) rfl (hb hby at_235) rfl (W := 0) rfl (by decide) (by decide) (by decide) (by decide) (fun r296 T297 L298 X299 q300 => ?_)
        obtain ⟨rfl, N301q, e302⟩ := q300
        have N301 := Fr.app N293 N301q
        show own_W p e below _ T297 (mkF m 238 #[.val (.int p0), .val (.long q1), .second, .val (.int p2), .val (.int p3), .val (.ref a3), .val (.ref a13), .val (.int va), .val (.int vb), .val (.ref a171), .val (.int got), .val (.ref a237), .val (.ref a260), .val (.int (-1 : Int32)), .unset, .unset] [(.int (own_ix (own_ch r4 vb) ((own_ch r4 va) 2)))])
        refine own_if_lt X299 hx 247 241 (hb hby at_238) (by decide) (by decide) rfl (fun h303 => ?_) (fun h303 => ?_)
        · show own_W p e below _ T297 (mkF m 247 #[.val (.int p0), .val (.long q1), .second, .val (.int p2), .val (.int p3), .val (.ref a3), .val (.ref a13), .val (.int va), .val (.int vb), .val (.ref a171), .val (.int got), .val (.ref a237), .val (.ref a260), .val (.int (-1 : Int32)), .unset, .unset] [])
          refine own_aload X299 hx 249 (hb hby at_247) rfl rfl ?_
          refine own_aload X299 hx 251 (hb hby at_249) rfl rfl ?_
          refine own_iconst X299 hx 252 (3 : Int32) (by decide) (hb hby at_251) rfl ?_
          refine own_iaload X299 hx hZ e302 253 3 f278 rfl (by decide) (hb hby at_252) rfl ?_
          refine own_callS X299 hx hZ hown e302 (y := (⟨"com/example/trubis/trubis/equivalence/BlockHistoryPartedPinLaw", "indexIn", "([II)I"⟩ : MethodName)) (argsL := [(.ref a260), (.int ((own_ch r4 va) 3))]) (rest := []) 256 (rm7 l Z a0 hw a260 ((own_ch r4 va) 3) (own_ch r4 vb) T256.heap n0 Z279 f265) (hw _ (List.mem_of_getElem? (i := 36) rfl)) (hw _ (List.mem_of_getElem? (i := 37) rfl)) (hw _ (List.mem_of_getElem? (i := 3) rfl)) (hw _ (List.mem_of_getElem? (i := 38) rfl)) (by decide) (by rw [hml]; rfl) (lenOf (by decide +kernel : parseMethodDescriptor "([II)I" = some ⟨[(.array .int), .int], some .int⟩) rfl) rfl (hb hby at_253) rfl (W := 0) rfl (by decide) (by decide) (by decide) (by decide) (fun r304 T305 L306 X307 q308 => ?_)
          obtain ⟨rfl, N309q, e310⟩ := q308
          have N309 := Fr.app N301 N309q
          show own_W p e below _ T305 (mkF m 256 #[.val (.int p0), .val (.long q1), .second, .val (.int p2), .val (.int p3), .val (.ref a3), .val (.ref a13), .val (.int va), .val (.int vb), .val (.ref a171), .val (.int got), .val (.ref a237), .val (.ref a260), .val (.int (-1 : Int32)), .unset, .unset] [(.int (own_ix (own_ch r4 vb) ((own_ch r4 va) 3)))])
          refine own_if_lt X307 hx 265 259 (hb hby at_256) (by decide) (by decide) rfl (fun h311 => ?_) (fun h311 => ?_)
          · show own_W p e below _ T305 (mkF m 265 #[.val (.int p0), .val (.long q1), .second, .val (.int p2), .val (.int p3), .val (.ref a3), .val (.ref a13), .val (.int va), .val (.int vb), .val (.ref a171), .val (.int got), .val (.ref a237), .val (.ref a260), .val (.int (-1 : Int32)), .unset, .unset] [])
            refine own_aload X307 hx 267 (hb hby at_265) rfl rfl ?_
            refine own_aload X307 hx 269 (hb hby at_267) rfl rfl ?_
            refine own_iconst X307 hx 270 (4 : Int32) (by decide) (hb hby at_269) rfl ?_
            refine own_iaload X307 hx hZ e310 271 4 f278 rfl (by decide) (hb hby at_270) rfl ?_
            refine own_callS X307 hx hZ hown e310 (y := (⟨"com/example/trubis/trubis/equivalence/BlockHistoryPartedPinLaw", "indexIn", "([II)I"⟩ : MethodName)) (argsL := [(.ref a260), (.int ((own_ch r4 va) 4))]) (rest := []) 274 (rm7 l Z a0 hw a260 ((own_ch r4 va) 4) (own_ch r4 vb) T256.heap n0 Z279 f265) (hw _ (List.mem_of_getElem? (i := 36) rfl)) (hw _ (List.mem_of_getElem? (i := 37) rfl)) (hw _ (List.mem_of_getElem? (i := 3) rfl)) (hw _ (List.mem_of_getElem? (i := 38) rfl)) (by decide) (by rw [hml]; rfl) (lenOf (by decide +kernel : parseMethodDescriptor "([II)I" = some ⟨[(.array .int), .int], some .int⟩) rfl) rfl (hb hby at_271) rfl (W := 0) rfl (by decide) (by decide) (by decide) (by decide) (fun r312 T313 L314 X315 q316 => ?_)
            obtain ⟨rfl, N317q, e318⟩ := q316
            have N317 := Fr.app N309 N317q
            show own_W p e below _ T313 (mkF m 274 #[.val (.int p0), .val (.long q1), .second, .val (.int p2), .val (.int p3), .val (.ref a3), .val (.ref a13), .val (.int va), .val (.int vb), .val (.ref a171), .val (.int got), .val (.ref a237), .val (.ref a260), .val (.int (-1 : Int32)), .unset, .unset] [(.int (own_ix (own_ch r4 vb) ((own_ch r4 va) 4)))])
            refine own_if_lt X315 hx 280 277 (hb hby at_274) (by decide) (by decide) rfl (fun h319 => ?_) (fun h319 => ?_)
            · show own_W p e below _ T313 (mkF m 280 #[.val (.int p0), .val (.long q1), .second, .val (.int p2), .val (.int p3), .val (.ref a3), .val (.ref a13), .val (.int va), .val (.int vb), .val (.ref a171), .val (.int got), .val (.ref a237), .val (.ref a260), .val (.int (-1 : Int32)), .unset, .unset] [])
              refine own_iload X315 hx 282 (hb hby at_280) rfl rfl ?_
              refine own_if_ge X315 hx 296 285 (hb hby at_282) (by decide) (by decide) rfl (fun h320 => ?_) (fun h320 => ?_)
              · exact absurd h320 (by decide)
              · show own_W p e below _ T313 (mkF m 285 #[.val (.int p0), .val (.long q1), .second, .val (.int p2), .val (.int p3), .val (.ref a3), .val (.ref a13), .val (.int va), .val (.int vb), .val (.ref a171), .val (.int got), .val (.ref a237), .val (.ref a260), .val (.int (-1 : Int32)), .unset, .unset] [])
                refine own_iload X315 hx 287 (hb hby at_285) rfl rfl ?_
                refine own_if_ne X315 hx 294 290 (hb hby at_287) (by decide) (by decide) rfl (fun h321 => ?_) (fun h321 => ?_)
                · exact absurd (own_none ok va vb got hva.2 hvb.2 hout (own_all5 h287 h295 h303 h311 h319)) h321
                · show own_W p e below _ T313 (mkF m 290 #[.val (.int p0), .val (.long q1), .second, .val (.int p2), .val (.int p3), .val (.ref a3), .val (.ref a13), .val (.int va), .val (.int vb), .val (.ref a171), .val (.int got), .val (.ref a237), .val (.ref a260), .val (.int (-1 : Int32)), .unset, .unset] [])
                  refine own_iconst X315 hx 291 (1 : Int32) (by decide) (hb hby at_290) rfl ?_
                  refine own_goto X315 hx 295 (hb hby at_291) (by decide) (by decide) ?_
                  exact own_retZ X315 hx (1 : Int32) (by decide) hret hlk (hb hby at_295) (by decide) (by decide) ⟨rfl, N317⟩
            · show own_W p e below _ T313 (mkF m 277 #[.val (.int p0), .val (.long q1), .second, .val (.int p2), .val (.int p3), .val (.ref a3), .val (.ref a13), .val (.int va), .val (.int vb), .val (.ref a171), .val (.int got), .val (.ref a237), .val (.ref a260), .val (.int (-1 : Int32)), .unset, .unset] [])
              refine own_iconst X315 hx 278 (4 : Int32) (by decide) (hb hby at_277) rfl ?_
              refine own_istore X315 hx 280 #[.val (.int p0), .val (.long q1), .second, .val (.int p2), .val (.int p3), .val (.ref a3), .val (.ref a13), .val (.int va), .val (.int vb), .val (.ref a171), .val (.int got), .val (.ref a237), .val (.ref a260), .val (.int (4 : Int32)), .unset, .unset] rfl (hb hby at_278) rfl rfl ?_
              refine own_iload X315 hx 282 (hb hby at_280) rfl rfl ?_
              refine own_if_ge X315 hx 296 285 (hb hby at_282) (by decide) (by decide) rfl (fun h322 => ?_) (fun h322 => ?_)
              · show own_W p e below _ T313 (mkF m 296 #[.val (.int p0), .val (.long q1), .second, .val (.int p2), .val (.int p3), .val (.ref a3), .val (.ref a13), .val (.int va), .val (.int vb), .val (.ref a171), .val (.int got), .val (.ref a237), .val (.ref a260), .val (.int (4 : Int32)), .unset, .unset] [])
                obtain ⟨j, hj5, hjv, hjp, hje, hjl⟩ := own_ixY _ _ h319
                refine own_aload X315 hx 298 (hb hby at_296) rfl rfl ?_
                refine own_aload X315 hx 300 (hb hby at_298) rfl rfl ?_
                refine own_iload X315 hx 302 (hb hby at_300) rfl rfl ?_
                refine own_iaload X315 hx hZ e318 303 4 f278 rfl (by decide) (hb hby at_302) rfl ?_
                refine own_callS X315 hx hZ hown e318 (y := (⟨"com/example/trubis/trubis/equivalence/BlockHistoryPartedPinLaw", "indexIn", "([II)I"⟩ : MethodName)) (argsL := [(.ref a260), (.int ((own_ch r4 va) 4))]) (rest := []) 306 (rm7 l Z a0 hw a260 ((own_ch r4 va) 4) (own_ch r4 vb) T256.heap n0 Z279 f265) (hw _ (List.mem_of_getElem? (i := 36) rfl)) (hw _ (List.mem_of_getElem? (i := 37) rfl)) (hw _ (List.mem_of_getElem? (i := 3) rfl)) (hw _ (List.mem_of_getElem? (i := 38) rfl)) (by decide) (by rw [hml]; rfl) (lenOf (by decide +kernel : parseMethodDescriptor "([II)I" = some ⟨[(.array .int), .int], some .int⟩) rfl) rfl (hb hby at_303) rfl (W := 0) rfl (by decide) (by decide) (by decide) (by decide) (fun r323 T324 L325 X326 q327 => ?_)
                obtain ⟨rfl, N328q, e329⟩ := q327
                have N328 := Fr.app N317 N328q
                show own_W p e below _ T324 (mkF m 306 #[.val (.int p0), .val (.long q1), .second, .val (.int p2), .val (.int p3), .val (.ref a3), .val (.ref a13), .val (.int va), .val (.int vb), .val (.ref a171), .val (.int got), .val (.ref a237), .val (.ref a260), .val (.int (4 : Int32)), .unset, .unset] [(.int (own_ix (own_ch r4 vb) ((own_ch r4 va) 4)))])
                obtain ⟨vj, e_vj⟩ : ∃ z : Int32, z = (own_ix (own_ch r4 vb) ((own_ch r4 va) 4)) := ⟨_, rfl⟩
                refine own_istore X326 hx 308 #[.val (.int p0), .val (.long q1), .second, .val (.int p2), .val (.int p3), .val (.ref a3), .val (.ref a13), .val (.int va), .val (.int vb), .val (.ref a171), .val (.int got), .val (.ref a237), .val (.ref a260), .val (.int (4 : Int32)), .val (.int vj), .unset] e_vj (hb hby at_306) rfl rfl ?_
                rw [← e_vj] at hjv
                refine own_ldc X326 hx hZ hown 310 (hw _ (List.mem_of_getElem? (i := 8) rfl)) (hb hby at_308) rfl ?_
                refine own_istore X326 hx 312 #[.val (.int p0), .val (.long q1), .second, .val (.int p2), .val (.int p3), .val (.ref a3), .val (.ref a13), .val (.int va), .val (.int vb), .val (.ref a171), .val (.int got), .val (.ref a237), .val (.ref a260), .val (.int (4 : Int32)), .val (.int vj), .val (.int (2147483647 : Int32))] rfl (hb hby at_310) rfl rfl ?_
                refine own_iload X326 hx 314 (hb hby at_312) rfl rfl ?_
                refine own_if_le X326 hx 329 317 (hb hby at_314) (by decide) (by decide) rfl (fun h330 => ?_) (fun h330 => ?_)
                · exact absurd h330 (by decide)
                · show own_W p e below _ T324 (mkF m 317 #[.val (.int p0), .val (.long q1), .second, .val (.int p2), .val (.int p3), .val (.ref a3), .val (.ref a13), .val (.int va), .val (.int vb), .val (.ref a171), .val (.int got), .val (.ref a237), .val (.ref a260), .val (.int (4 : Int32)), .val (.int vj), .val (.int (2147483647 : Int32))] [])
                  refine own_aload X326 hx 319 (hb hby at_317) rfl rfl ?_
                  refine own_aload X326 hx 321 (hb hby at_319) rfl rfl ?_
                  refine own_iload X326 hx 323 (hb hby at_321) rfl rfl ?_
                  refine own_iconst X326 hx 324 (1 : Int32) (by decide) (hb hby at_323) rfl ?_
                  refine own_isubz X326 hx 325 (z := (3 : Int32)) (by decide) (hb hby at_324) rfl ?_
                  refine own_iaload X326 hx hZ e329 326 3 f278 rfl (by decide) (hb hby at_325) rfl ?_
                  refine own_iaload X326 hx hZ e329 327 ((own_ch r4 va) 3).toInt.toNat f272 (own_nn (own_prev ok va hva.2 3 hjp).1) (own_lt5 (own_prev ok va hva.2 3 hjp).2) (hb hby at_326) rfl ?_
                  refine own_istore X326 hx 329 #[.val (.int p0), .val (.long q1), .second, .val (.int p2), .val (.int p3), .val (.ref a3), .val (.ref a13), .val (.int va), .val (.int vb), .val (.ref a171), .val (.int got), .val (.ref a237), .val (.ref a260), .val (.int (4 : Int32)), .val (.int vj), .val (.int (g4 ((own_ch r4 va) 3).toInt.toNat))] rfl (hb hby at_327) rfl rfl ?_
                  refine own_iload X326 hx 331 (hb hby at_329) rfl rfl ?_
                  refine own_if_le X326 hx 351 334 (hb hby at_331) (by decide) (by decide) rfl (fun h331 => ?_) (fun h331 => ?_)
                  · show own_W p e below _ T324 (mkF m 351 #[.val (.int p0), .val (.long q1), .second, .val (.int p2), .val (.int p3), .val (.ref a3), .val (.ref a13), .val (.int va), .val (.int vb), .val (.ref a171), .val (.int got), .val (.ref a237), .val (.ref a260), .val (.int (4 : Int32)), .val (.int vj), .val (.int (g4 ((own_ch r4 va) 3).toInt.toNat))] [])
                    refine own_iload X326 hx 353 (hb hby at_351) rfl rfl ?_
                    refine own_iload X326 hx 355 (hb hby at_353) rfl rfl ?_
                    refine own_icmp_ne X326 hx 362 358 (hb hby at_355) (by decide) (by decide) rfl (fun h332 => ?_) (fun h332 => ?_)
                    · exact absurd ((own_some ok va vb got hva.2 hvb.2 hout 4 j (by decide) (own_all4 h287 h295 h303 h311) hj5 hjp hje hjl).trans (own_ref1N g4 (own_ch r4 va) (own_ch r4 vb) 3 j vj hjv h331)) h332
                    · show own_W p e below _ T324 (mkF m 358 #[.val (.int p0), .val (.long q1), .second, .val (.int p2), .val (.int p3), .val (.ref a3), .val (.ref a13), .val (.int va), .val (.int vb), .val (.ref a171), .val (.int got), .val (.ref a237), .val (.ref a260), .val (.int (4 : Int32)), .val (.int vj), .val (.int (g4 ((own_ch r4 va) 3).toInt.toNat))] [])
                      refine own_iconst X326 hx 359 (1 : Int32) (by decide) (hb hby at_358) rfl ?_
                      refine own_goto X326 hx 363 (hb hby at_359) (by decide) (by decide) ?_
                      exact own_retZ X326 hx (1 : Int32) (by decide) hret hlk (hb hby at_363) (by decide) (by decide) ⟨rfl, N328⟩
                  · show own_W p e below _ T324 (mkF m 334 #[.val (.int p0), .val (.long q1), .second, .val (.int p2), .val (.int p3), .val (.ref a3), .val (.ref a13), .val (.int va), .val (.int vb), .val (.ref a171), .val (.int got), .val (.ref a237), .val (.ref a260), .val (.int (4 : Int32)), .val (.int vj), .val (.int (g4 ((own_ch r4 va) 3).toInt.toNat))] [])
                    refine own_iload X326 hx 336 (hb hby at_334) rfl rfl ?_
                    refine own_aload X326 hx 338 (hb hby at_336) rfl rfl ?_
                    refine own_aload X326 hx 340 (hb hby at_338) rfl rfl ?_
                    refine own_iload X326 hx 342 (hb hby at_340) rfl rfl ?_
                    refine own_iconst X326 hx 343 (1 : Int32) (by decide) (hb hby at_342) rfl ?_
                    refine own_isub X326 hx 344 (hb hby at_343) rfl ?_
                    refine own_iaload X326 hx hZ e329 345 (j - 1) f265 (own_d1 vj j hjv (own_jp vj j hjv h331) hj5) (by omega) (hb hby at_344) rfl ?_
                    refine own_iaload X326 hx hZ e329 346 ((own_ch r4 vb) (j - 1)).toInt.toNat f272 (own_nn (own_prevj ok vb hvb.2 j (own_jp vj j hjv h331) (by rw [hje]; exact hjp)).1) (own_lt5 (own_prevj ok vb hvb.2 j (own_jp vj j hjv h331) (by rw [hje]; exact hjp)).2) (hb hby at_345) rfl ?_
                    refine own_callS X326 hx hZ hown e329 (y := (⟨"java/lang/Math", "min", "(II)I"⟩ : MethodName)) (argsL := [(.int (g4 ((own_ch r4 va) 3).toInt.toNat)), (.int (g4 ((own_ch r4 vb) (j - 1)).toInt.toNat))]) (rest := []) 349 (rm8 l Z a0 hw (g4 ((own_ch r4 va) 3).toInt.toNat) (g4 ((own_ch r4 vb) (j - 1)).toInt.toNat) T256.heap n0 Z279) (hw _ (List.mem_of_getElem? (i := 40) rfl)) (hw _ (List.mem_of_getElem? (i := 41) rfl)) (hw _ (List.mem_of_getElem? (i := 42) rfl)) (hw _ (List.mem_of_getElem? (i := 43) rfl)) (by decide) (by rw [hml]; rfl) (lenOf (by decide +kernel : parseMethodDescriptor "(II)I" = some ⟨[.int, .int], some .int⟩) rfl) rfl (hb hby at_346) rfl (W := 0) rfl (by decide) (by decide) (by decide) (by decide) (fun r333 T334 L335 X336 q337 => ?_)
                    obtain ⟨rfl, N338q, e339⟩ := q337
                    have N338 := Fr.app N328 N338q
                    show own_W p e below _ T334 (mkF m 349 #[.val (.int p0), .val (.long q1), .second, .val (.int p2), .val (.int p3), .val (.ref a3), .val (.ref a13), .val (.int va), .val (.int vb), .val (.ref a171), .val (.int got), .val (.ref a237), .val (.ref a260), .val (.int (4 : Int32)), .val (.int vj), .val (.int (g4 ((own_ch r4 va) 3).toInt.toNat))] [(.int (own_min (g4 ((own_ch r4 va) 3).toInt.toNat) (g4 ((own_ch r4 vb) (j - 1)).toInt.toNat)))])
                    refine own_istore X336 hx 351 #[.val (.int p0), .val (.long q1), .second, .val (.int p2), .val (.int p3), .val (.ref a3), .val (.ref a13), .val (.int va), .val (.int vb), .val (.ref a171), .val (.int got), .val (.ref a237), .val (.ref a260), .val (.int (4 : Int32)), .val (.int vj), .val (.int (own_min (g4 ((own_ch r4 va) 3).toInt.toNat) (g4 ((own_ch r4 vb) (j - 1)).toInt.toNat)))] rfl (hb hby at_349) rfl rfl ?_
                    refine own_iload X336 hx 353 (hb hby at_351) rfl rfl ?_
                    refine own_iload X336 hx 355 (hb hby at_353) rfl rfl ?_
                    refine own_icmp_ne X336 hx 362 358 (hb hby at_355) (by decide) (by decide) rfl (fun h340 => ?_) (fun h340 => ?_)
                    · exact absurd ((own_some ok va vb got hva.2 hvb.2 hout 4 j (by decide) (own_all4 h287 h295 h303 h311) hj5 hjp hje hjl).trans (own_ref1P g4 (own_ch r4 va) (own_ch r4 vb) 3 j vj hjv h331)) h340
                    · show own_W p e below _ T334 (mkF m 358 #[.val (.int p0), .val (.long q1), .second, .val (.int p2), .val (.int p3), .val (.ref a3), .val (.ref a13), .val (.int va), .val (.int vb), .val (.ref a171), .val (.int got), .val (.ref a237), .val (.ref a260), .val (.int (4 : Int32)), .val (.int vj), .val (.int (own_min (g4 ((own_ch r4 va) 3).toInt.toNat) (g4 ((own_ch r4 vb) (j - 1)).toInt.toNat)))] [])
                      refine own_iconst X336 hx 359 (1 : Int32) (by decide) (hb hby at_358) rfl ?_
                      refine own_goto X336 hx 363 (hb hby at_359) (by decide) (by decide) ?_
                      exact own_retZ X336 hx (1 : Int32) (by decide) hret hlk (hb hby at_363) (by decide) (by decide) ⟨rfl, N338⟩
              · exact absurd h322 (by decide)
          · show own_W p e below _ T305 (mkF m 259 #[.val (.int p0), .val (.long q1), .second, .val (.int p2), .val (.int p3), .val (.ref a3), .val (.ref a13), .val (.int va), .val (.int vb), .val (.ref a171), .val (.int got), .val (.ref a237), .val (.ref a260), .val (.int (-1 : Int32)), .unset, .unset] [])
            refine own_iconst X307 hx 260 (3 : Int32) (by decide) (hb hby at_259) rfl ?_
            refine own_istore X307 hx 262 #[.val (.int p0), .val (.long q1), .second, .val (.int p2), .val (.int p3), .val (.ref a3), .val (.ref a13), .val (.int va), .val (.int vb), .val (.ref a171), .val (.int got), .val (.ref a237), .val (.ref a260), .val (.int (3 : Int32)), .unset, .unset] rfl (hb hby at_260) rfl rfl ?_
            refine own_goto X307 hx 280 (hb hby at_262) (by decide) (by decide) ?_
            refine own_iload X307 hx 282 (hb hby at_280) rfl rfl ?_
            refine own_if_ge X307 hx 296 285 (hb hby at_282) (by decide) (by decide) rfl (fun h341 => ?_) (fun h341 => ?_)
            · show own_W p e below _ T305 (mkF m 296 #[.val (.int p0), .val (.long q1), .second, .val (.int p2), .val (.int p3), .val (.ref a3), .val (.ref a13), .val (.int va), .val (.int vb), .val (.ref a171), .val (.int got), .val (.ref a237), .val (.ref a260), .val (.int (3 : Int32)), .unset, .unset] [])
              obtain ⟨j, hj5, hjv, hjp, hje, hjl⟩ := own_ixY _ _ h311
              refine own_aload X307 hx 298 (hb hby at_296) rfl rfl ?_
              refine own_aload X307 hx 300 (hb hby at_298) rfl rfl ?_
              refine own_iload X307 hx 302 (hb hby at_300) rfl rfl ?_
              refine own_iaload X307 hx hZ e310 303 3 f278 rfl (by decide) (hb hby at_302) rfl ?_
              refine own_callS X307 hx hZ hown e310 (y := (⟨"com/example/trubis/trubis/equivalence/BlockHistoryPartedPinLaw", "indexIn", "([II)I"⟩ : MethodName)) (argsL := [(.ref a260), (.int ((own_ch r4 va) 3))]) (rest := []) 306 (rm7 l Z a0 hw a260 ((own_ch r4 va) 3) (own_ch r4 vb) T256.heap n0 Z279 f265) (hw _ (List.mem_of_getElem? (i := 36) rfl)) (hw _ (List.mem_of_getElem? (i := 37) rfl)) (hw _ (List.mem_of_getElem? (i := 3) rfl)) (hw _ (List.mem_of_getElem? (i := 38) rfl)) (by decide) (by rw [hml]; rfl) (lenOf (by decide +kernel : parseMethodDescriptor "([II)I" = some ⟨[(.array .int), .int], some .int⟩) rfl) rfl (hb hby at_303) rfl (W := 0) rfl (by decide) (by decide) (by decide) (by decide) (fun r342 T343 L344 X345 q346 => ?_)
              obtain ⟨rfl, N347q, e348⟩ := q346
              have N347 := Fr.app N309 N347q
              show own_W p e below _ T343 (mkF m 306 #[.val (.int p0), .val (.long q1), .second, .val (.int p2), .val (.int p3), .val (.ref a3), .val (.ref a13), .val (.int va), .val (.int vb), .val (.ref a171), .val (.int got), .val (.ref a237), .val (.ref a260), .val (.int (3 : Int32)), .unset, .unset] [(.int (own_ix (own_ch r4 vb) ((own_ch r4 va) 3)))])
              obtain ⟨vj, e_vj⟩ : ∃ z : Int32, z = (own_ix (own_ch r4 vb) ((own_ch r4 va) 3)) := ⟨_, rfl⟩
              refine own_istore X345 hx 308 #[.val (.int p0), .val (.long q1), .second, .val (.int p2), .val (.int p3), .val (.ref a3), .val (.ref a13), .val (.int va), .val (.int vb), .val (.ref a171), .val (.int got), .val (.ref a237), .val (.ref a260), .val (.int (3 : Int32)), .val (.int vj), .unset] e_vj (hb hby at_306) rfl rfl ?_
              rw [← e_vj] at hjv
              refine own_ldc X345 hx hZ hown 310 (hw _ (List.mem_of_getElem? (i := 8) rfl)) (hb hby at_308) rfl ?_
              refine own_istore X345 hx 312 #[.val (.int p0), .val (.long q1), .second, .val (.int p2), .val (.int p3), .val (.ref a3), .val (.ref a13), .val (.int va), .val (.int vb), .val (.ref a171), .val (.int got), .val (.ref a237), .val (.ref a260), .val (.int (3 : Int32)), .val (.int vj), .val (.int (2147483647 : Int32))] rfl (hb hby at_310) rfl rfl ?_
              refine own_iload X345 hx 314 (hb hby at_312) rfl rfl ?_
              refine own_if_le X345 hx 329 317 (hb hby at_314) (by decide) (by decide) rfl (fun h349 => ?_) (fun h349 => ?_)
              · exact absurd h349 (by decide)
              · show own_W p e below _ T343 (mkF m 317 #[.val (.int p0), .val (.long q1), .second, .val (.int p2), .val (.int p3), .val (.ref a3), .val (.ref a13), .val (.int va), .val (.int vb), .val (.ref a171), .val (.int got), .val (.ref a237), .val (.ref a260), .val (.int (3 : Int32)), .val (.int vj), .val (.int (2147483647 : Int32))] [])
                refine own_aload X345 hx 319 (hb hby at_317) rfl rfl ?_
                refine own_aload X345 hx 321 (hb hby at_319) rfl rfl ?_
                refine own_iload X345 hx 323 (hb hby at_321) rfl rfl ?_
                refine own_iconst X345 hx 324 (1 : Int32) (by decide) (hb hby at_323) rfl ?_
                refine own_isubz X345 hx 325 (z := (2 : Int32)) (by decide) (hb hby at_324) rfl ?_
                refine own_iaload X345 hx hZ e348 326 2 f278 rfl (by decide) (hb hby at_325) rfl ?_
                refine own_iaload X345 hx hZ e348 327 ((own_ch r4 va) 2).toInt.toNat f272 (own_nn (own_prev ok va hva.2 2 hjp).1) (own_lt5 (own_prev ok va hva.2 2 hjp).2) (hb hby at_326) rfl ?_
                refine own_istore X345 hx 329 #[.val (.int p0), .val (.long q1), .second, .val (.int p2), .val (.int p3), .val (.ref a3), .val (.ref a13), .val (.int va), .val (.int vb), .val (.ref a171), .val (.int got), .val (.ref a237), .val (.ref a260), .val (.int (3 : Int32)), .val (.int vj), .val (.int (g4 ((own_ch r4 va) 2).toInt.toNat))] rfl (hb hby at_327) rfl rfl ?_
                refine own_iload X345 hx 331 (hb hby at_329) rfl rfl ?_
                refine own_if_le X345 hx 351 334 (hb hby at_331) (by decide) (by decide) rfl (fun h350 => ?_) (fun h350 => ?_)
                · show own_W p e below _ T343 (mkF m 351 #[.val (.int p0), .val (.long q1), .second, .val (.int p2), .val (.int p3), .val (.ref a3), .val (.ref a13), .val (.int va), .val (.int vb), .val (.ref a171), .val (.int got), .val (.ref a237), .val (.ref a260), .val (.int (3 : Int32)), .val (.int vj), .val (.int (g4 ((own_ch r4 va) 2).toInt.toNat))] [])
                  refine own_iload X345 hx 353 (hb hby at_351) rfl rfl ?_
                  refine own_iload X345 hx 355 (hb hby at_353) rfl rfl ?_
                  refine own_icmp_ne X345 hx 362 358 (hb hby at_355) (by decide) (by decide) rfl (fun h351 => ?_) (fun h351 => ?_)
                  · exact absurd ((own_some ok va vb got hva.2 hvb.2 hout 3 j (by decide) (own_all3 h287 h295 h303) hj5 hjp hje hjl).trans (own_ref1N g4 (own_ch r4 va) (own_ch r4 vb) 2 j vj hjv h350)) h351
                  · show own_W p e below _ T343 (mkF m 358 #[.val (.int p0), .val (.long q1), .second, .val (.int p2), .val (.int p3), .val (.ref a3), .val (.ref a13), .val (.int va), .val (.int vb), .val (.ref a171), .val (.int got), .val (.ref a237), .val (.ref a260), .val (.int (3 : Int32)), .val (.int vj), .val (.int (g4 ((own_ch r4 va) 2).toInt.toNat))] [])
                    refine own_iconst X345 hx 359 (1 : Int32) (by decide) (hb hby at_358) rfl ?_
                    refine own_goto X345 hx 363 (hb hby at_359) (by decide) (by decide) ?_
                    exact own_retZ X345 hx (1 : Int32) (by decide) hret hlk (hb hby at_363) (by decide) (by decide) ⟨rfl, N347⟩
                · show own_W p e below _ T343 (mkF m 334 #[.val (.int p0), .val (.long q1), .second, .val (.int p2), .val (.int p3), .val (.ref a3), .val (.ref a13), .val (.int va), .val (.int vb), .val (.ref a171), .val (.int got), .val (.ref a237), .val (.ref a260), .val (.int (3 : Int32)), .val (.int vj), .val (.int (g4 ((own_ch r4 va) 2).toInt.toNat))] [])
                  refine own_iload X345 hx 336 (hb hby at_334) rfl rfl ?_
                  refine own_aload X345 hx 338 (hb hby at_336) rfl rfl ?_
                  refine own_aload X345 hx 340 (hb hby at_338) rfl rfl ?_
                  refine own_iload X345 hx 342 (hb hby at_340) rfl rfl ?_
                  refine own_iconst X345 hx 343 (1 : Int32) (by decide) (hb hby at_342) rfl ?_
                  refine own_isub X345 hx 344 (hb hby at_343) rfl ?_
                  refine own_iaload X345 hx hZ e348 345 (j - 1) f265 (own_d1 vj j hjv (own_jp vj j hjv h350) hj5) (by omega) (hb hby at_344) rfl ?_
                  refine own_iaload X345 hx hZ e348 346 ((own_ch r4 vb) (j - 1)).toInt.toNat f272 (own_nn (own_prevj ok vb hvb.2 j (own_jp vj j hjv h350) (by rw [hje]; exact hjp)).1) (own_lt5 (own_prevj ok vb hvb.2 j (own_jp vj j hjv h350) (by rw [hje]; exact hjp)).2) (hb hby at_345) rfl ?_
                  refine own_callS X345 hx hZ hown e348 (y := (⟨"java/lang/Math", "min", "(II)I"⟩ : MethodName)) (argsL := [(.int (g4 ((own_ch r4 va) 2).toInt.toNat)), (.int (g4 ((own_ch r4 vb) (j - 1)).toInt.toNat))]) (rest := []) 349 (rm8 l Z a0 hw (g4 ((own_ch r4 va) 2).toInt.toNat) (g4 ((own_ch r4 vb) (j - 1)).toInt.toNat) T256.heap n0 Z279) (hw _ (List.mem_of_getElem? (i := 40) rfl)) (hw _ (List.mem_of_getElem? (i := 41) rfl)) (hw _ (List.mem_of_getElem? (i := 42) rfl)) (hw _ (List.mem_of_getElem? (i := 43) rfl)) (by decide) (by rw [hml]; rfl) (lenOf (by decide +kernel : parseMethodDescriptor "(II)I" = some ⟨[.int, .int], some .int⟩) rfl) rfl (hb hby at_346) rfl (W := 0) rfl (by decide) (by decide) (by decide) (by decide) (fun r352 T353 L354 X355 q356 => ?_)
                  obtain ⟨rfl, N357q, e358⟩ := q356
                  have N357 := Fr.app N347 N357q
                  show own_W p e below _ T353 (mkF m 349 #[.val (.int p0), .val (.long q1), .second, .val (.int p2), .val (.int p3), .val (.ref a3), .val (.ref a13), .val (.int va), .val (.int vb), .val (.ref a171), .val (.int got), .val (.ref a237), .val (.ref a260), .val (.int (3 : Int32)), .val (.int vj), .val (.int (g4 ((own_ch r4 va) 2).toInt.toNat))] [(.int (own_min (g4 ((own_ch r4 va) 2).toInt.toNat) (g4 ((own_ch r4 vb) (j - 1)).toInt.toNat)))])
                  refine own_istore X355 hx 351 #[.val (.int p0), .val (.long q1), .second, .val (.int p2), .val (.int p3), .val (.ref a3), .val (.ref a13), .val (.int va), .val (.int vb), .val (.ref a171), .val (.int got), .val (.ref a237), .val (.ref a260), .val (.int (3 : Int32)), .val (.int vj), .val (.int (own_min (g4 ((own_ch r4 va) 2).toInt.toNat) (g4 ((own_ch r4 vb) (j - 1)).toInt.toNat)))] rfl (hb hby at_349) rfl rfl ?_
                  refine own_iload X355 hx 353 (hb hby at_351) rfl rfl ?_
                  refine own_iload X355 hx 355 (hb hby at_353) rfl rfl ?_
                  refine own_icmp_ne X355 hx 362 358 (hb hby at_355) (by decide) (by decide) rfl (fun h359 => ?_) (fun h359 => ?_)
                  · exact absurd ((own_some ok va vb got hva.2 hvb.2 hout 3 j (by decide) (own_all3 h287 h295 h303) hj5 hjp hje hjl).trans (own_ref1P g4 (own_ch r4 va) (own_ch r4 vb) 2 j vj hjv h350)) h359
                  · show own_W p e below _ T353 (mkF m 358 #[.val (.int p0), .val (.long q1), .second, .val (.int p2), .val (.int p3), .val (.ref a3), .val (.ref a13), .val (.int va), .val (.int vb), .val (.ref a171), .val (.int got), .val (.ref a237), .val (.ref a260), .val (.int (3 : Int32)), .val (.int vj), .val (.int (own_min (g4 ((own_ch r4 va) 2).toInt.toNat) (g4 ((own_ch r4 vb) (j - 1)).toInt.toNat)))] [])
                    refine own_iconst X355 hx 359 (1 : Int32) (by decide) (hb hby at_358) rfl ?_
                    refine own_goto X355 hx 363 (hb hby at_359) (by decide) (by decide) ?_
                    exact own_retZ X355 hx (1 : Int32) (by decide) hret hlk (hb hby at_363) (by decide) (by decide) ⟨rfl, N357⟩
            · exact absurd h341 (by decide)
        · show own_W p e below _ T297 (mkF m 241 #[.val (.int p0), .val (.long q1), .second, .val (.int p2), .val (.int p3), .val (.ref a3), .val (.ref a13), .val (.int va), .val (.int vb), .val (.ref a171), .val (.int got), .val (.ref a237), .val (.ref a260), .val (.int (-1 : Int32)), .unset, .unset] [])
          refine own_iconst X299 hx 242 (2 : Int32) (by decide) (hb hby at_241) rfl ?_
          refine own_istore X299 hx 244 #[.val (.int p0), .val (.long q1), .second, .val (.int p2), .val (.int p3), .val (.ref a3), .val (.ref a13), .val (.int va), .val (.int vb), .val (.ref a171), .val (.int got), .val (.ref a237), .val (.ref a260), .val (.int (2 : Int32)), .unset, .unset] rfl (hb hby at_242) rfl rfl ?_
          refine own_goto X299 hx 280 (hb hby at_244) (by decide) (by decide) ?_
          refine own_iload X299 hx 282 (hb hby at_280) rfl rfl ?_
          refine own_if_ge X299 hx 296 285 (hb hby at_282) (by decide) (by decide) rfl (fun h360 => ?_) (fun h360 => ?_)
          · show own_W p e below _ T297 (mkF m 296 #[.val (.int p0), .val (.long q1), .second, .val (.int p2), .val (.int p3), .val (.ref a3), .val (.ref a13), .val (.int va), .val (.int vb), .val (.ref a171), .val (.int got), .val (.ref a237), .val (.ref a260), .val (.int (2 : Int32)), .unset, .unset] [])
            obtain ⟨j, hj5, hjv, hjp, hje, hjl⟩ := own_ixY _ _ h303
            refine own_aload X299 hx 298 (hb hby at_296) rfl rfl ?_
            refine own_aload X299 hx 300 (hb hby at_298) rfl rfl ?_
            refine own_iload X299 hx 302 (hb hby at_300) rfl rfl ?_
            refine own_iaload X299 hx hZ e302 303 2 f278 rfl (by decide) (hb hby at_302) rfl ?_
            refine own_callS X299 hx hZ hown e302 (y := (⟨"com/example/trubis/trubis/equivalence/BlockHistoryPartedPinLaw", "indexIn", "([II)I"⟩ : MethodName)) (argsL := [(.ref a260), (.int ((own_ch r4 va) 2))]) (rest := []) 306 (rm7 l Z a0 hw a260 ((own_ch r4 va) 2) (own_ch r4 vb) T256.heap n0 Z279 f265) (hw _ (List.mem_of_getElem? (i := 36) rfl)) (hw _ (List.mem_of_getElem? (i := 37) rfl)) (hw _ (List.mem_of_getElem? (i := 3) rfl)) (hw _ (List.mem_of_getElem? (i := 38) rfl)) (by decide) (by rw [hml]; rfl) (lenOf (by decide +kernel : parseMethodDescriptor "([II)I" = some ⟨[(.array .int), .int], some .int⟩) rfl) rfl (hb hby at_303) rfl (W := 0) rfl (by decide) (by decide) (by decide) (by decide) (fun r361 T362 L363 X364 q365 => ?_)
            obtain ⟨rfl, N366q, e367⟩ := q365
            have N366 := Fr.app N301 N366q
            show own_W p e below _ T362 (mkF m 306 #[.val (.int p0), .val (.long q1), .second, .val (.int p2), .val (.int p3), .val (.ref a3), .val (.ref a13), .val (.int va), .val (.int vb), .val (.ref a171), .val (.int got), .val (.ref a237), .val (.ref a260), .val (.int (2 : Int32)), .unset, .unset] [(.int (own_ix (own_ch r4 vb) ((own_ch r4 va) 2)))])
            obtain ⟨vj, e_vj⟩ : ∃ z : Int32, z = (own_ix (own_ch r4 vb) ((own_ch r4 va) 2)) := ⟨_, rfl⟩
            refine own_istore X364 hx 308 #[.val (.int p0), .val (.long q1), .second, .val (.int p2), .val (.int p3), .val (.ref a3), .val (.ref a13), .val (.int va), .val (.int vb), .val (.ref a171), .val (.int got), .val (.ref a237), .val (.ref a260), .val (.int (2 : Int32)), .val (.int vj), .unset] e_vj (hb hby at_306) rfl rfl ?_
            rw [← e_vj] at hjv
            refine own_ldc X364 hx hZ hown 310 (hw _ (List.mem_of_getElem? (i := 8) rfl)) (hb hby at_308) rfl ?_
            refine own_istore X364 hx 312 #[.val (.int p0), .val (.long q1), .second, .val (.int p2), .val (.int p3), .val (.ref a3), .val (.ref a13), .val (.int va), .val (.int vb), .val (.ref a171), .val (.int got), .val (.ref a237), .val (.ref a260), .val (.int (2 : Int32)), .val (.int vj), .val (.int (2147483647 : Int32))] rfl (hb hby at_310) rfl rfl ?_
            refine own_iload X364 hx 314 (hb hby at_312) rfl rfl ?_
            refine own_if_le X364 hx 329 317 (hb hby at_314) (by decide) (by decide) rfl (fun h368 => ?_) (fun h368 => ?_)
            · exact absurd h368 (by decide)
            · show own_W p e below _ T362 (mkF m 317 #[.val (.int p0), .val (.long q1), .second, .val (.int p2), .val (.int p3), .val (.ref a3), .val (.ref a13), .val (.int va), .val (.int vb), .val (.ref a171), .val (.int got), .val (.ref a237), .val (.ref a260), .val (.int (2 : Int32)), .val (.int vj), .val (.int (2147483647 : Int32))] [])
              refine own_aload X364 hx 319 (hb hby at_317) rfl rfl ?_
              refine own_aload X364 hx 321 (hb hby at_319) rfl rfl ?_
              refine own_iload X364 hx 323 (hb hby at_321) rfl rfl ?_
              refine own_iconst X364 hx 324 (1 : Int32) (by decide) (hb hby at_323) rfl ?_
              refine own_isubz X364 hx 325 (z := (1 : Int32)) (by decide) (hb hby at_324) rfl ?_
              refine own_iaload X364 hx hZ e367 326 1 f278 rfl (by decide) (hb hby at_325) rfl ?_
              refine own_iaload X364 hx hZ e367 327 ((own_ch r4 va) 1).toInt.toNat f272 (own_nn (own_prev ok va hva.2 1 hjp).1) (own_lt5 (own_prev ok va hva.2 1 hjp).2) (hb hby at_326) rfl ?_
              refine own_istore X364 hx 329 #[.val (.int p0), .val (.long q1), .second, .val (.int p2), .val (.int p3), .val (.ref a3), .val (.ref a13), .val (.int va), .val (.int vb), .val (.ref a171), .val (.int got), .val (.ref a237), .val (.ref a260), .val (.int (2 : Int32)), .val (.int vj), .val (.int (g4 ((own_ch r4 va) 1).toInt.toNat))] rfl (hb hby at_327) rfl rfl ?_
              refine own_iload X364 hx 331 (hb hby at_329) rfl rfl ?_
              refine own_if_le X364 hx 351 334 (hb hby at_331) (by decide) (by decide) rfl (fun h369 => ?_) (fun h369 => ?_)
              · show own_W p e below _ T362 (mkF m 351 #[.val (.int p0), .val (.long q1), .second, .val (.int p2), .val (.int p3), .val (.ref a3), .val (.ref a13), .val (.int va), .val (.int vb), .val (.ref a171), .val (.int got), .val (.ref a237), .val (.ref a260), .val (.int (2 : Int32)), .val (.int vj), .val (.int (g4 ((own_ch r4 va) 1).toInt.toNat))] [])
                refine own_iload X364 hx 353 (hb hby at_351) rfl rfl ?_
                refine own_iload X364 hx 355 (hb hby at_353) rfl rfl ?_
                refine own_icmp_ne X364 hx 362 358 (hb hby at_355) (by decide) (by decide) rfl (fun h370 => ?_) (fun h370 => ?_)
                · exact absurd ((own_some ok va vb got hva.2 hvb.2 hout 2 j (by decide) (own_all2 h287 h295) hj5 hjp hje hjl).trans (own_ref1N g4 (own_ch r4 va) (own_ch r4 vb) 1 j vj hjv h369)) h370
                · show own_W p e below _ T362 (mkF m 358 #[.val (.int p0), .val (.long q1), .second, .val (.int p2), .val (.int p3), .val (.ref a3), .val (.ref a13), .val (.int va), .val (.int vb), .val (.ref a171), .val (.int got), .val (.ref a237), .val (.ref a260), .val (.int (2 : Int32)), .val (.int vj), .val (.int (g4 ((own_ch r4 va) 1).toInt.toNat))] [])
                  refine own_iconst X364 hx 359 (1 : Int32) (by decide) (hb hby at_358) rfl ?_
                  refine own_goto X364 hx 363 (hb hby at_359) (by decide) (by decide) ?_
                  exact own_retZ X364 hx (1 : Int32) (by decide) hret hlk (hb hby at_363) (by decide) (by decide) ⟨rfl, N366⟩
              · show own_W p e below _ T362 (mkF m 334 #[.val (.int p0), .val (.long q1), .second, .val (.int p2), .val (.int p3), .val (.ref a3), .val (.ref a13), .val (.int va), .val (.int vb), .val (.ref a171), .val (.int got), .val (.ref a237), .val (.ref a260), .val (.int (2 : Int32)), .val (.int vj), .val (.int (g4 ((own_ch r4 va) 1).toInt.toNat))] [])
                refine own_iload X364 hx 336 (hb hby at_334) rfl rfl ?_
                refine own_aload X364 hx 338 (hb hby at_336) rfl rfl ?_
                refine own_aload X364 hx 340 (hb hby at_338) rfl rfl ?_
                refine own_iload X364 hx 342 (hb hby at_340) rfl rfl ?_
                refine own_iconst X364 hx 343 (1 : Int32) (by decide) (hb hby at_342) rfl ?_
                refine own_isub X364 hx 344 (hb hby at_343) rfl ?_
                refine own_iaload X364 hx hZ e367 345 (j - 1) f265 (own_d1 vj j hjv (own_jp vj j hjv h369) hj5) (by omega) (hb hby at_344) rfl ?_
                refine own_iaload X364 hx hZ e367 346 ((own_ch r4 vb) (j - 1)).toInt.toNat f272 (own_nn (own_prevj ok vb hvb.2 j (own_jp vj j hjv h369) (by rw [hje]; exact hjp)).1) (own_lt5 (own_prevj ok vb hvb.2 j (own_jp vj j hjv h369) (by rw [hje]; exact hjp)).2) (hb hby at_345) rfl ?_
                refine own_callS X364 hx hZ hown e367 (y := (⟨"java/lang/Math", "min", "(II)I"⟩ : MethodName)) (argsL := [(.int (g4 ((own_ch r4 va) 1).toInt.toNat)), (.int (g4 ((own_ch r4 vb) (j - 1)).toInt.toNat))]) (rest := []) 349 (rm8 l Z a0 hw (g4 ((own_ch r4 va) 1).toInt.toNat) (g4 ((own_ch r4 vb) (j - 1)).toInt.toNat) T256.heap n0 Z279) (hw _ (List.mem_of_getElem? (i := 40) rfl)) (hw _ (List.mem_of_getElem? (i := 41) rfl)) (hw _ (List.mem_of_getElem? (i := 42) rfl)) (hw _ (List.mem_of_getElem? (i := 43) rfl)) (by decide) (by rw [hml]; rfl) (lenOf (by decide +kernel : parseMethodDescriptor "(II)I" = some ⟨[.int, .int], some .int⟩) rfl) rfl (hb hby at_346) rfl (W := 0) rfl (by decide) (by decide) (by decide) (by decide) (fun r371 T372 L373 X374 q375 => ?_)
                obtain ⟨rfl, N376q, e377⟩ := q375
                have N376 := Fr.app N366 N376q
                show own_W p e below _ T372 (mkF m 349 #[.val (.int p0), .val (.long q1), .second, .val (.int p2), .val (.int p3), .val (.ref a3), .val (.ref a13), .val (.int va), .val (.int vb), .val (.ref a171), .val (.int got), .val (.ref a237), .val (.ref a260), .val (.int (2 : Int32)), .val (.int vj), .val (.int (g4 ((own_ch r4 va) 1).toInt.toNat))] [(.int (own_min (g4 ((own_ch r4 va) 1).toInt.toNat) (g4 ((own_ch r4 vb) (j - 1)).toInt.toNat)))])
                refine own_istore X374 hx 351 #[.val (.int p0), .val (.long q1), .second, .val (.int p2), .val (.int p3), .val (.ref a3), .val (.ref a13), .val (.int va), .val (.int vb), .val (.ref a171), .val (.int got), .val (.ref a237), .val (.ref a260), .val (.int (2 : Int32)), .val (.int vj), .val (.int (own_min (g4 ((own_ch r4 va) 1).toInt.toNat) (g4 ((own_ch r4 vb) (j - 1)).toInt.toNat)))] rfl (hb hby at_349) rfl rfl ?_
                refine own_iload X374 hx 353 (hb hby at_351) rfl rfl ?_
                refine own_iload X374 hx 355 (hb hby at_353) rfl rfl ?_
                refine own_icmp_ne X374 hx 362 358 (hb hby at_355) (by decide) (by decide) rfl (fun h378 => ?_) (fun h378 => ?_)
                · exact absurd ((own_some ok va vb got hva.2 hvb.2 hout 2 j (by decide) (own_all2 h287 h295) hj5 hjp hje hjl).trans (own_ref1P g4 (own_ch r4 va) (own_ch r4 vb) 1 j vj hjv h369)) h378
                · show own_W p e below _ T372 (mkF m 358 #[.val (.int p0), .val (.long q1), .second, .val (.int p2), .val (.int p3), .val (.ref a3), .val (.ref a13), .val (.int va), .val (.int vb), .val (.ref a171), .val (.int got), .val (.ref a237), .val (.ref a260), .val (.int (2 : Int32)), .val (.int vj), .val (.int (own_min (g4 ((own_ch r4 va) 1).toInt.toNat) (g4 ((own_ch r4 vb) (j - 1)).toInt.toNat)))] [])
                  refine own_iconst X374 hx 359 (1 : Int32) (by decide) (hb hby at_358) rfl ?_
                  refine own_goto X374 hx 363 (hb hby at_359) (by decide) (by decide) ?_
                  exact own_retZ X374 hx (1 : Int32) (by decide) hret hlk (hb hby at_363) (by decide) (by decide) ⟨rfl, N376⟩
          · exact absurd h360 (by decide)
      · show own_W p e below _ T289 (mkF m 223 #[.val (.int p0), .val (.long q1), .second, .val (.int p2), .val (.int p3), .val (.ref a3), .val (.ref a13), .val (.int va), .val (.int vb), .val (.ref a171), .val (.int got), .val (.ref a237), .val (.ref a260), .val (.int (-1 : Int32)), .unset, .unset] [])
        refine own_iconst X291 hx 224 (1 : Int32) (by decide) (hb hby at_223) rfl ?_
        refine own_istore X291 hx 226 #[.val (.int p0), .val (.long q1), .second, .val (.int p2), .val (.int p3), .val (.ref a3), .val (.ref a13), .val (.int va), .val (.int vb), .val (.ref a171), .val (.int got), .val (.ref a237), .val (.ref a260), .val (.int (1 : Int32)), .unset, .unset] rfl (hb hby at_224) rfl rfl ?_
        refine own_goto X291 hx 280 (hb hby at_226) (by decide) (by decide) ?_
        refine own_iload X291 hx 282 (hb hby at_280) rfl rfl ?_
        refine own_if_ge X291 hx 296 285 (hb hby at_282) (by decide) (by decide) rfl (fun h379 => ?_) (fun h379 => ?_)
        · show own_W p e below _ T289 (mkF m 296 #[.val (.int p0), .val (.long q1), .second, .val (.int p2), .val (.int p3), .val (.ref a3), .val (.ref a13), .val (.int va), .val (.int vb), .val (.ref a171), .val (.int got), .val (.ref a237), .val (.ref a260), .val (.int (1 : Int32)), .unset, .unset] [])
          obtain ⟨j, hj5, hjv, hjp, hje, hjl⟩ := own_ixY _ _ h295
          refine own_aload X291 hx 298 (hb hby at_296) rfl rfl ?_
          refine own_aload X291 hx 300 (hb hby at_298) rfl rfl ?_
          refine own_iload X291 hx 302 (hb hby at_300) rfl rfl ?_
          refine own_iaload X291 hx hZ e294 303 1 f278 rfl (by decide) (hb hby at_302) rfl ?_
          refine own_callS X291 hx hZ hown e294 (y := (⟨"com/example/trubis/trubis/equivalence/BlockHistoryPartedPinLaw", "indexIn", "([II)I"⟩ : MethodName)) (argsL := [(.ref a260), (.int ((own_ch r4 va) 1))]) (rest := []) 306 (rm7 l Z a0 hw a260 ((own_ch r4 va) 1) (own_ch r4 vb) T256.heap n0 Z279 f265) (hw _ (List.mem_of_getElem? (i := 36) rfl)) (hw _ (List.mem_of_getElem? (i := 37) rfl)) (hw _ (List.mem_of_getElem? (i := 3) rfl)) (hw _ (List.mem_of_getElem? (i := 38) rfl)) (by decide) (by rw [hml]; rfl) (lenOf (by decide +kernel : parseMethodDescriptor "([II)I" = some ⟨[(.array .int), .int], some .int⟩) rfl) rfl (hb hby at_303) rfl (W := 0) rfl (by decide) (by decide) (by decide) (by decide) (fun r380 T381 L382 X383 q384 => ?_)
          obtain ⟨rfl, N385q, e386⟩ := q384
          have N385 := Fr.app N293 N385q
          show own_W p e below _ T381 (mkF m 306 #[.val (.int p0), .val (.long q1), .second, .val (.int p2), .val (.int p3), .val (.ref a3), .val (.ref a13), .val (.int va), .val (.int vb), .val (.ref a171), .val (.int got), .val (.ref a237), .val (.ref a260), .val (.int (1 : Int32)), .unset, .unset] [(.int (own_ix (own_ch r4 vb) ((own_ch r4 va) 1)))])
          obtain ⟨vj, e_vj⟩ : ∃ z : Int32, z = (own_ix (own_ch r4 vb) ((own_ch r4 va) 1)) := ⟨_, rfl⟩
          refine own_istore X383 hx 308 #[.val (.int p0), .val (.long q1), .second, .val (.int p2), .val (.int p3), .val (.ref a3), .val (.ref a13), .val (.int va), .val (.int vb), .val (.ref a171), .val (.int got), .val (.ref a237), .val (.ref a260), .val (.int (1 : Int32)), .val (.int vj), .unset] e_vj (hb hby at_306) rfl rfl ?_
          rw [← e_vj] at hjv
          refine own_ldc X383 hx hZ hown 310 (hw _ (List.mem_of_getElem? (i := 8) rfl)) (hb hby at_308) rfl ?_
          refine own_istore X383 hx 312 #[.val (.int p0), .val (.long q1), .second, .val (.int p2), .val (.int p3), .val (.ref a3), .val (.ref a13), .val (.int va), .val (.int vb), .val (.ref a171), .val (.int got), .val (.ref a237), .val (.ref a260), .val (.int (1 : Int32)), .val (.int vj), .val (.int (2147483647 : Int32))] rfl (hb hby at_310) rfl rfl ?_
          refine own_iload X383 hx 314 (hb hby at_312) rfl rfl ?_
          refine own_if_le X383 hx 329 317 (hb hby at_314) (by decide) (by decide) rfl (fun h387 => ?_) (fun h387 => ?_)
          · exact absurd h387 (by decide)
          · show own_W p e below _ T381 (mkF m 317 #[.val (.int p0), .val (.long q1), .second, .val (.int p2), .val (.int p3), .val (.ref a3), .val (.ref a13), .val (.int va), .val (.int vb), .val (.ref a171), .val (.int got), .val (.ref a237), .val (.ref a260), .val (.int (1 : Int32)), .val (.int vj), .val (.int (2147483647 : Int32))] [])
            refine own_aload X383 hx 319 (hb hby at_317) rfl rfl ?_
            refine own_aload X383 hx 321 (hb hby at_319) rfl rfl ?_
            refine own_iload X383 hx 323 (hb hby at_321) rfl rfl ?_
            refine own_iconst X383 hx 324 (1 : Int32) (by decide) (hb hby at_323) rfl ?_
            refine own_isubz X383 hx 325 (z := (0 : Int32)) (by decide) (hb hby at_324) rfl ?_
            refine own_iaload X383 hx hZ e386 326 0 f278 rfl (by decide) (hb hby at_325) rfl ?_
            refine own_iaload X383 hx hZ e386 327 ((own_ch r4 va) 0).toInt.toNat f272 (own_nn (own_prev ok va hva.2 0 hjp).1) (own_lt5 (own_prev ok va hva.2 0 hjp).2) (hb hby at_326) rfl ?_
            refine own_istore X383 hx 329 #[.val (.int p0), .val (.long q1), .second, .val (.int p2), .val (.int p3), .val (.ref a3), .val (.ref a13), .val (.int va), .val (.int vb), .val (.ref a171), .val (.int got), .val (.ref a237), .val (.ref a260), .val (.int (1 : Int32)), .val (.int vj), .val (.int (g4 ((own_ch r4 va) 0).toInt.toNat))] rfl (hb hby at_327) rfl rfl ?_
            refine own_iload X383 hx 331 (hb hby at_329) rfl rfl ?_
            refine own_if_le X383 hx 351 334 (hb hby at_331) (by decide) (by decide) rfl (fun h388 => ?_) (fun h388 => ?_)
            · show own_W p e below _ T381 (mkF m 351 #[.val (.int p0), .val (.long q1), .second, .val (.int p2), .val (.int p3), .val (.ref a3), .val (.ref a13), .val (.int va), .val (.int vb), .val (.ref a171), .val (.int got), .val (.ref a237), .val (.ref a260), .val (.int (1 : Int32)), .val (.int vj), .val (.int (g4 ((own_ch r4 va) 0).toInt.toNat))] [])
              refine own_iload X383 hx 353 (hb hby at_351) rfl rfl ?_
              refine own_iload X383 hx 355 (hb hby at_353) rfl rfl ?_
              refine own_icmp_ne X383 hx 362 358 (hb hby at_355) (by decide) (by decide) rfl (fun h389 => ?_) (fun h389 => ?_)
              · exact absurd ((own_some ok va vb got hva.2 hvb.2 hout 1 j (by decide) (own_all1 h287) hj5 hjp hje hjl).trans (own_ref1N g4 (own_ch r4 va) (own_ch r4 vb) 0 j vj hjv h388)) h389
              · show own_W p e below _ T381 (mkF m 358 #[.val (.int p0), .val (.long q1), .second, .val (.int p2), .val (.int p3), .val (.ref a3), .val (.ref a13), .val (.int va), .val (.int vb), .val (.ref a171), .val (.int got), .val (.ref a237), .val (.ref a260), .val (.int (1 : Int32)), .val (.int vj), .val (.int (g4 ((own_ch r4 va) 0).toInt.toNat))] [])
                refine own_iconst X383 hx 359 (1 : Int32) (by decide) (hb hby at_358) rfl ?_
                refine own_goto X383 hx 363 (hb hby at_359) (by decide) (by decide) ?_
                exact own_retZ X383 hx (1 : Int32) (by decide) hret hlk (hb hby at_363) (by decide) (by decide) ⟨rfl, N385⟩
            · show own_W p e below _ T381 (mkF m 334 #[.val (.int p0), .val (.long q1), .second, .val (.int p2), .val (.int p3), .val (.ref a3), .val (.ref a13), .val (.int va), .val (.int vb), .val (.ref a171), .val (.int got), .val (.ref a237), .val (.ref a260), .val (.int (1 : Int32)), .val (.int vj), .val (.int (g4 ((own_ch r4 va) 0).toInt.toNat))] [])
              refine own_iload X383 hx 336 (hb hby at_334) rfl rfl ?_
              refine own_aload X383 hx 338 (hb hby at_336) rfl rfl ?_
              refine own_aload X383 hx 340 (hb hby at_338) rfl rfl ?_
              refine own_iload X383 hx 342 (hb hby at_340) rfl rfl ?_
              refine own_iconst X383 hx 343 (1 : Int32) (by decide) (hb hby at_342) rfl ?_
              refine own_isub X383 hx 344 (hb hby at_343) rfl ?_
              refine own_iaload X383 hx hZ e386 345 (j - 1) f265 (own_d1 vj j hjv (own_jp vj j hjv h388) hj5) (by omega) (hb hby at_344) rfl ?_
              refine own_iaload X383 hx hZ e386 346 ((own_ch r4 vb) (j - 1)).toInt.toNat f272 (own_nn (own_prevj ok vb hvb.2 j (own_jp vj j hjv h388) (by rw [hje]; exact hjp)).1) (own_lt5 (own_prevj ok vb hvb.2 j (own_jp vj j hjv h388) (by rw [hje]; exact hjp)).2) (hb hby at_345) rfl ?_
              refine own_callS X383 hx hZ hown e386 (y := (⟨"java/lang/Math", "min", "(II)I"⟩ : MethodName)) (argsL := [(.int (g4 ((own_ch r4 va) 0).toInt.toNat)), (.int (g4 ((own_ch r4 vb) (j - 1)).toInt.toNat))]) (rest := []) 349 (rm8 l Z a0 hw (g4 ((own_ch r4 va) 0).toInt.toNat) (g4 ((own_ch r4 vb) (j - 1)).toInt.toNat) T256.heap n0 Z279) (hw _ (List.mem_of_getElem? (i := 40) rfl)) (hw _ (List.mem_of_getElem? (i := 41) rfl)) (hw _ (List.mem_of_getElem? (i := 42) rfl)) (hw _ (List.mem_of_getElem? (i := 43) rfl)) (by decide) (by rw [hml]; rfl) (lenOf (by decide +kernel : parseMethodDescriptor "(II)I" = some ⟨[.int, .int], some .int⟩) rfl) rfl (hb hby at_346) rfl (W := 0) rfl (by decide) (by decide) (by decide) (by decide) (fun r390 T391 L392 X393 q394 => ?_)
              obtain ⟨rfl, N395q, e396⟩ := q394
              have N395 := Fr.app N385 N395q
              show own_W p e below _ T391 (mkF m 349 #[.val (.int p0), .val (.long q1), .second, .val (.int p2), .val (.int p3), .val (.ref a3), .val (.ref a13), .val (.int va), .val (.int vb), .val (.ref a171), .val (.int got), .val (.ref a237), .val (.ref a260), .val (.int (1 : Int32)), .val (.int vj), .val (.int (g4 ((own_ch r4 va) 0).toInt.toNat))] [(.int (own_min (g4 ((own_ch r4 va) 0).toInt.toNat) (g4 ((own_ch r4 vb) (j - 1)).toInt.toNat)))])
              refine own_istore X393 hx 351 #[.val (.int p0), .val (.long q1), .second, .val (.int p2), .val (.int p3), .val (.ref a3), .val (.ref a13), .val (.int va), .val (.int vb), .val (.ref a171), .val (.int got), .val (.ref a237), .val (.ref a260), .val (.int (1 : Int32)), .val (.int vj), .val (.int (own_min (g4 ((own_ch r4 va) 0).toInt.toNat) (g4 ((own_ch r4 vb) (j - 1)).toInt.toNat)))] rfl (hb hby at_349) rfl rfl ?_
              refine own_iload X393 hx 353 (hb hby at_351) rfl rfl ?_
              refine own_iload X393 hx 355 (hb hby at_353) rfl rfl ?_
              refine own_icmp_ne X393 hx 362 358 (hb hby at_355) (by decide) (by decide) rfl (fun h397 => ?_) (fun h397 => ?_)
              · exact absurd ((own_some ok va vb got hva.2 hvb.2 hout 1 j (by decide) (own_all1 h287) hj5 hjp hje hjl).trans (own_ref1P g4 (own_ch r4 va) (own_ch r4 vb) 0 j vj hjv h388)) h397
              · show own_W p e below _ T391 (mkF m 358 #[.val (.int p0), .val (.long q1), .second, .val (.int p2), .val (.int p3), .val (.ref a3), .val (.ref a13), .val (.int va), .val (.int vb), .val (.ref a171), .val (.int got), .val (.ref a237), .val (.ref a260), .val (.int (1 : Int32)), .val (.int vj), .val (.int (own_min (g4 ((own_ch r4 va) 0).toInt.toNat) (g4 ((own_ch r4 vb) (j - 1)).toInt.toNat)))] [])
                refine own_iconst X393 hx 359 (1 : Int32) (by decide) (hb hby at_358) rfl ?_
                refine own_goto X393 hx 363 (hb hby at_359) (by decide) (by decide) ?_
                exact own_retZ X393 hx (1 : Int32) (by decide) hret hlk (hb hby at_363) (by decide) (by decide) ⟨rfl, N395⟩
        · exact absurd h379 (by decide)
    · show own_W p e below _ T281 (mkF m 205 #[.val (.int p0), .val (.long q1), .second, .val (.int p2), .val (.int p3), .val (.ref a3), .val (.ref a13), .val (.int va), .val (.int vb), .val (.ref a171), .val (.int got), .val (.ref a237), .val (.ref a260), .val (.int (-1 : Int32)), .unset, .unset] [])
      refine own_iconst X283 hx 206 (0 : Int32) (by decide) (hb hby at_205) rfl ?_
      refine own_istore X283 hx 208 #[.val (.int p0), .val (.long q1), .second, .val (.int p2), .val (.int p3), .val (.ref a3), .val (.ref a13), .val (.int va), .val (.int vb), .val (.ref a171), .val (.int got), .val (.ref a237), .val (.ref a260), .val (.int (0 : Int32)), .unset, .unset] rfl (hb hby at_206) rfl rfl ?_
      refine own_goto X283 hx 280 (hb hby at_208) (by decide) (by decide) ?_
      refine own_iload X283 hx 282 (hb hby at_280) rfl rfl ?_
      refine own_if_ge X283 hx 296 285 (hb hby at_282) (by decide) (by decide) rfl (fun h398 => ?_) (fun h398 => ?_)
      · show own_W p e below _ T281 (mkF m 296 #[.val (.int p0), .val (.long q1), .second, .val (.int p2), .val (.int p3), .val (.ref a3), .val (.ref a13), .val (.int va), .val (.int vb), .val (.ref a171), .val (.int got), .val (.ref a237), .val (.ref a260), .val (.int (0 : Int32)), .unset, .unset] [])
        obtain ⟨j, hj5, hjv, hjp, hje, hjl⟩ := own_ixY _ _ h287
        refine own_aload X283 hx 298 (hb hby at_296) rfl rfl ?_
        refine own_aload X283 hx 300 (hb hby at_298) rfl rfl ?_
        refine own_iload X283 hx 302 (hb hby at_300) rfl rfl ?_
        refine own_iaload X283 hx hZ e286 303 0 f278 rfl (by decide) (hb hby at_302) rfl ?_
        refine own_callS X283 hx hZ hown e286 (y := (⟨"com/example/trubis/trubis/equivalence/BlockHistoryPartedPinLaw", "indexIn", "([II)I"⟩ : MethodName)) (argsL := [(.ref a260), (.int ((own_ch r4 va) 0))]) (rest := []) 306 (rm7 l Z a0 hw a260 ((own_ch r4 va) 0) (own_ch r4 vb) T256.heap n0 Z279 f265) (hw _ (List.mem_of_getElem? (i := 36) rfl)) (hw _ (List.mem_of_getElem? (i := 37) rfl)) (hw _ (List.mem_of_getElem? (i := 3) rfl)) (hw _ (List.mem_of_getElem? (i := 38) rfl)) (by decide) (by rw [hml]; rfl) (lenOf (by decide +kernel : parseMethodDescriptor "([II)I" = some ⟨[(.array .int), .int], some .int⟩) rfl) rfl (hb hby at_303) rfl (W := 0) rfl (by decide) (by decide) (by decide) (by decide) (fun r399 T400 L401 X402 q403 => ?_)
        obtain ⟨rfl, N404q, e405⟩ := q403
        have N404 := Fr.app N285 N404q
        show own_W p e below _ T400 (mkF m 306 #[.val (.int p0), .val (.long q1), .second, .val (.int p2), .val (.int p3), .val (.ref a3), .val (.ref a13), .val (.int va), .val (.int vb), .val (.ref a171), .val (.int got), .val (.ref a237), .val (.ref a260), .val (.int (0 : Int32)), .unset, .unset] [(.int (own_ix (own_ch r4 vb) ((own_ch r4 va) 0)))])
        obtain ⟨vj, e_vj⟩ : ∃ z : Int32, z = (own_ix (own_ch r4 vb) ((own_ch r4 va) 0)) := ⟨_, rfl⟩
        refine own_istore X402 hx 308 #[.val (.int p0), .val (.long q1), .second, .val (.int p2), .val (.int p3), .val (.ref a3), .val (.ref a13), .val (.int va), .val (.int vb), .val (.ref a171), .val (.int got), .val (.ref a237), .val (.ref a260), .val (.int (0 : Int32)), .val (.int vj), .unset] e_vj (hb hby at_306) rfl rfl ?_
        rw [← e_vj] at hjv
        refine own_ldc X402 hx hZ hown 310 (hw _ (List.mem_of_getElem? (i := 8) rfl)) (hb hby at_308) rfl ?_
        refine own_istore X402 hx 312 #[.val (.int p0), .val (.long q1), .second, .val (.int p2), .val (.int p3), .val (.ref a3), .val (.ref a13), .val (.int va), .val (.int vb), .val (.ref a171), .val (.int got), .val (.ref a237), .val (.ref a260), .val (.int (0 : Int32)), .val (.int vj), .val (.int (2147483647 : Int32))] rfl (hb hby at_310) rfl rfl ?_
        refine own_iload X402 hx 314 (hb hby at_312) rfl rfl ?_
        refine own_if_le X402 hx 329 317 (hb hby at_314) (by decide) (by decide) rfl (fun h406 => ?_) (fun h406 => ?_)
        · show own_W p e below _ T400 (mkF m 329 #[.val (.int p0), .val (.long q1), .second, .val (.int p2), .val (.int p3), .val (.ref a3), .val (.ref a13), .val (.int va), .val (.int vb), .val (.ref a171), .val (.int got), .val (.ref a237), .val (.ref a260), .val (.int (0 : Int32)), .val (.int vj), .val (.int (2147483647 : Int32))] [])
          refine own_iload X402 hx 331 (hb hby at_329) rfl rfl ?_
          refine own_if_le X402 hx 351 334 (hb hby at_331) (by decide) (by decide) rfl (fun h407 => ?_) (fun h407 => ?_)
          · show own_W p e below _ T400 (mkF m 351 #[.val (.int p0), .val (.long q1), .second, .val (.int p2), .val (.int p3), .val (.ref a3), .val (.ref a13), .val (.int va), .val (.int vb), .val (.ref a171), .val (.int got), .val (.ref a237), .val (.ref a260), .val (.int (0 : Int32)), .val (.int vj), .val (.int (2147483647 : Int32))] [])
            refine own_iload X402 hx 353 (hb hby at_351) rfl rfl ?_
            refine own_iload X402 hx 355 (hb hby at_353) rfl rfl ?_
            refine own_icmp_ne X402 hx 362 358 (hb hby at_355) (by decide) (by decide) rfl (fun h408 => ?_) (fun h408 => ?_)
            · exact absurd ((own_some ok va vb got hva.2 hvb.2 hout 0 j (by decide) (own_all0) hj5 hjp hje hjl).trans (own_ref0N g4 (own_ch r4 va) (own_ch r4 vb)  j vj hjv h407)) h408
            · show own_W p e below _ T400 (mkF m 358 #[.val (.int p0), .val (.long q1), .second, .val (.int p2), .val (.int p3), .val (.ref a3), .val (.ref a13), .val (.int va), .val (.int vb), .val (.ref a171), .val (.int got), .val (.ref a237), .val (.ref a260), .val (.int (0 : Int32)), .val (.int vj), .val (.int (2147483647 : Int32))] [])
              refine own_iconst X402 hx 359 (1 : Int32) (by decide) (hb hby at_358) rfl ?_
              refine own_goto X402 hx 363 (hb hby at_359) (by decide) (by decide) ?_
              exact own_retZ X402 hx (1 : Int32) (by decide) hret hlk (hb hby at_363) (by decide) (by decide) ⟨rfl, N404⟩
          · show own_W p e below _ T400 (mkF m 334 #[.val (.int p0), .val (.long q1), .second, .val (.int p2), .val (.int p3), .val (.ref a3), .val (.ref a13), .val (.int va), .val (.int vb), .val (.ref a171), .val (.int got), .val (.ref a237), .val (.ref a260), .val (.int (0 : Int32)), .val (.int vj), .val (.int (2147483647 : Int32))] [])
            refine own_iload X402 hx 336 (hb hby at_334) rfl rfl ?_
            refine own_aload X402 hx 338 (hb hby at_336) rfl rfl ?_
            refine own_aload X402 hx 340 (hb hby at_338) rfl rfl ?_
            refine own_iload X402 hx 342 (hb hby at_340) rfl rfl ?_
            refine own_iconst X402 hx 343 (1 : Int32) (by decide) (hb hby at_342) rfl ?_
            refine own_isub X402 hx 344 (hb hby at_343) rfl ?_
            refine own_iaload X402 hx hZ e405 345 (j - 1) f265 (own_d1 vj j hjv (own_jp vj j hjv h407) hj5) (by omega) (hb hby at_344) rfl ?_
            refine own_iaload X402 hx hZ e405 346 ((own_ch r4 vb) (j - 1)).toInt.toNat f272 (own_nn (own_prevj ok vb hvb.2 j (own_jp vj j hjv h407) (by rw [hje]; exact hjp)).1) (own_lt5 (own_prevj ok vb hvb.2 j (own_jp vj j hjv h407) (by rw [hje]; exact hjp)).2) (hb hby at_345) rfl ?_
            refine own_callS X402 hx hZ hown e405 (y := (⟨"java/lang/Math", "min", "(II)I"⟩ : MethodName)) (argsL := [(.int (2147483647 : Int32)), (.int (g4 ((own_ch r4 vb) (j - 1)).toInt.toNat))]) (rest := []) 349 (rm8 l Z a0 hw (2147483647 : Int32) (g4 ((own_ch r4 vb) (j - 1)).toInt.toNat) T256.heap n0 Z279) (hw _ (List.mem_of_getElem? (i := 40) rfl)) (hw _ (List.mem_of_getElem? (i := 41) rfl)) (hw _ (List.mem_of_getElem? (i := 42) rfl)) (hw _ (List.mem_of_getElem? (i := 43) rfl)) (by decide) (by rw [hml]; rfl) (lenOf (by decide +kernel : parseMethodDescriptor "(II)I" = some ⟨[.int, .int], some .int⟩) rfl) rfl (hb hby at_346) rfl (W := 0) rfl (by decide) (by decide) (by decide) (by decide) (fun r409 T410 L411 X412 q413 => ?_)
            obtain ⟨rfl, N414q, e415⟩ := q413
            have N414 := Fr.app N404 N414q
            show own_W p e below _ T410 (mkF m 349 #[.val (.int p0), .val (.long q1), .second, .val (.int p2), .val (.int p3), .val (.ref a3), .val (.ref a13), .val (.int va), .val (.int vb), .val (.ref a171), .val (.int got), .val (.ref a237), .val (.ref a260), .val (.int (0 : Int32)), .val (.int vj), .val (.int (2147483647 : Int32))] [(.int (own_min (2147483647 : Int32) (g4 ((own_ch r4 vb) (j - 1)).toInt.toNat)))])
            refine own_istore X412 hx 351 #[.val (.int p0), .val (.long q1), .second, .val (.int p2), .val (.int p3), .val (.ref a3), .val (.ref a13), .val (.int va), .val (.int vb), .val (.ref a171), .val (.int got), .val (.ref a237), .val (.ref a260), .val (.int (0 : Int32)), .val (.int vj), .val (.int (own_min (2147483647 : Int32) (g4 ((own_ch r4 vb) (j - 1)).toInt.toNat)))] rfl (hb hby at_349) rfl rfl ?_
            refine own_iload X412 hx 353 (hb hby at_351) rfl rfl ?_
            refine own_iload X412 hx 355 (hb hby at_353) rfl rfl ?_
            refine own_icmp_ne X412 hx 362 358 (hb hby at_355) (by decide) (by decide) rfl (fun h416 => ?_) (fun h416 => ?_)
            · exact absurd ((own_some ok va vb got hva.2 hvb.2 hout 0 j (by decide) (own_all0) hj5 hjp hje hjl).trans (own_ref0P g4 (own_ch r4 va) (own_ch r4 vb)  j vj hjv h407)) h416
            · show own_W p e below _ T410 (mkF m 358 #[.val (.int p0), .val (.long q1), .second, .val (.int p2), .val (.int p3), .val (.ref a3), .val (.ref a13), .val (.int va), .val (.int vb), .val (.ref a171), .val (.int got), .val (.ref a237), .val (.ref a260), .val (.int (0 : Int32)), .val (.int vj), .val (.int (own_min (2147483647 : Int32) (g4 ((own_ch r4 vb) (j - 1)).toInt.toNat)))] [])
              refine own_iconst X412 hx 359 (1 : Int32) (by decide) (hb hby at_358) rfl ?_
              refine own_goto X412 hx 363 (hb hby at_359) (by decide) (by decide) ?_
              exact own_retZ X412 hx (1 : Int32) (by decide) hret hlk (hb hby at_363) (by decide) (by decide) ⟨rfl, N414⟩
        · exact absurd h406 (by decide)
      · exact absurd h398 (by decide)
  · show own_W p e below _ T225 (mkF m 159 #[.val (.int p0), .val (.long q1), .second, .val (.int p2), .val (.int p3), .val (.ref a3), .val (.ref a13), .val (.int va), .val (.int vb), .val (.ref a171), .val (.int got), .unset, .unset, .unset, .unset, .unset] [])
    refine own_iload X227 hx 161 (hb hby at_159) rfl rfl ?_
    refine own_ldc X227 hx hZ hown 163 (hw _ (List.mem_of_getElem? (i := 8) rfl)) (hb hby at_161) rfl ?_
    refine own_icmp_ne X227 hx 170 166 (hb hby at_163) (by decide) (by decide) rfl (fun h417 => ?_) (fun h417 => ?_)
    · exact absurd (own_same r4 g4 va vb got hva.1 h231 hout) h417
    · show own_W p e below _ T225 (mkF m 166 #[.val (.int p0), .val (.long q1), .second, .val (.int p2), .val (.int p3), .val (.ref a3), .val (.ref a13), .val (.int va), .val (.int vb), .val (.ref a171), .val (.int got), .unset, .unset, .unset, .unset, .unset] [])
      refine own_iconst X227 hx 167 (1 : Int32) (by decide) (hb hby at_166) rfl ?_
      refine own_goto X227 hx 171 (hb hby at_167) (by decide) (by decide) ?_
      exact own_retZ X227 hx (1 : Int32) (by decide) hret hlk (hb hby at_171) (by decide) (by decide) ⟨rfl, N229⟩
set_option maxRecDepth 65536 in
set_option maxHeartbeats 40000000 in
theorem comes_1 {Post : Tables → Env → Array Value → State → Outcome → State → Prop} (hpost : ∀ tb e args s v u, (limb_1_1.after args s (.returned v) u = true ∧ limb_1_2.after args s (.returned v) u = true ∧ True) → FrameEnd s (.returned v) u (Jvm.fieldLocs frame_1_writes args s ++ Jvm.arrayLocs frame_1_arrays args s ++ Jvm.staticLocs frame_1_statics s) 24 128 → Post tb e args s (.returned v) u) :
    ArmFor flags0 classFile x code maxLocals ret World_1 tables_1 room_1 Calls_1 rest_1 Pre_1 Post := by
  intro l hfl _ _ p e ha hc hk s m args below hf hA hF happ hP
  obtain ⟨hcalls, hrest, hpre⟩ := hP
  obtain ⟨-, -, -, hnamed, -, -, -, hat⟩ := (Spec.applies_iff hf).mp happ
  obtain ⟨hg, hn⟩ := and_e (Cond.before_iff.mp (show (Jvm.Cond.and given_1 narrow_1).before args s = true from hpre))
  obtain ⟨g0, gr0⟩ := and_e hg
  obtain ⟨g1, gr1⟩ := and_e gr0
  obtain ⟨g2, gr2⟩ := and_e gr1
  obtain ⟨g3, gr3⟩ := and_e gr2
  obtain ⟨w0, w1, w2, w3, rfl⟩ : ∃ w0 w1 w2 w3 : Value, args = #[w0, w1, w2, w3] := by
    have hs : args.size = 4 := by simpa [Cond.value, given_1] using g0
    obtain ⟨L⟩ := args
    match L, hs with
    | [w0, w1, w2, w3], _ => exact ⟨w0, w1, w2, w3, rfl⟩
  have hw := fun d (hd : d ∈ tables_1) => atoms_spec (ws := Jvm.Cond.code x code maxLocals ret :: tables_1) hat d (List.mem_cons_of_mem _ hd)
  obtain ⟨i0, ei0⟩ := is_v g1
  obtain rfl : w0 = (.int i0) := Option.some.inj ei0
  obtain ⟨i1, ei1⟩ := isL_v g2
  obtain rfl : w1 = (.long i1) := Option.some.inj ei1
  obtain ⟨i2, ei2⟩ := is_v g3
  obtain rfl : w2 = (.int i2) := Option.some.inj ei2
  obtain ⟨i3, ei3⟩ := is_v gr3
  obtain rfl : w3 = (.int i3) := Option.some.inj ei3
  obtain ⟨n, o, h1, h2, h3, _, L, rfl, ⟨rfl, N⟩, hq⟩ := rm0 l s _ hw i0 i1 i2 i3 s.heap s.heap.size (Nat.le_refl _) p e ha hc hk s m _ below hf ((Spec.applies_iff_loose hf).mp happ).1 ⟨rfl, State.Warmed39.refl s, rfl⟩ trivial
  refine ⟨n, _, h1, h2, h3, hpost _ _ _ _ _ _ ⟨Cond.after_iff.mpr rfl, Cond.after_iff.mpr (eq_i res_at (Term.int_eval (1)) rfl), trivial⟩ ⟨hq.1, hq.2.1, (hq.2.2.sift fun y hy => Or.inr (N y hy)).mono (by decide) (by decide)⟩⟩
theorem main_1_1 : Claimed_1_1 := comes_1 fun _ _ _ _ _ _ h hF => ⟨h.1, hF⟩
theorem main_1_2 : Claimed_1_2 := comes_1 fun _ _ _ _ _ _ h hF => ⟨h.2.1, hF⟩
end Jvm.Pilot.@@N@@
namespace Jvm.Pilot.@@N@@
open Jvm Jvm.ClassFile Sem Op Lib Jvm.Free Jvm.Stand Jvm.Pilot.@@N@@.Jvm.D
/-! MADE BY PROGRAM (witnessworld.py) out of the Statement's table words and the real class files: 10 classes; the members and pool entries that the words name. The judged class is class 1, her method 1. -/
namespace start1
open Jvm.ClassFile
def u (s : String) : CpInfo := .utf8 (stringToUtf16 s)
/-- a pool by its gaps: so many unusable entries, then the entry; so many at the end -/
def gap : Nat → List CpInfo → List CpInfo
  | 0, r => r
  | n + 1, r => .unusable :: gap n r
def poolList (es : List (Nat × CpInfo)) (last : Nat) : List CpInfo := es.foldr (fun e r => gap e.1 (e.2 :: r)) (gap last [])
def pool (es : List (Nat × CpInfo)) (last : Nat) : Array CpInfo := ⟨poolList es last⟩
def fileOf (pool : Array CpInfo) (this : Nat) (attrs : Array Attribute := #[]) (ms : Array MethodInfo := #[]) (fl : Nat := 33) (sup : Nat := 0) (ifs : Array Nat := #[]) (fds : Array FieldInfo := #[]) : ClassFile where
  minorVersion := 0
  majorVersion := 65
  constantPool := pool
  accessFlags := fl
  thisClass := this
  superClass := sup
  interfaces := ifs
  fields := fds
  methods := ms
  attributes := attrs
def plain (name : String) (sup : Option ClassId) : Class where
  name := name
  kind := .ordinary
  loader := none
  accessFlags := 33
  super := sup
  interfaces := #[]
  cf := none
  fields := #[]
  methods := #[]
  instanceTypes := #[]
  staticTypes := #[]
  resolved := #[]
  callSites := []
  init := .initialized
  statics := none
  mirror := none

def pool0 : Array CpInfo := pool [(5, u "<init>"), (0, u "()V"), (1, .class_ 10), (1, u "java/lang/Object")] 113

def k0c0 : Code := { maxStack := 0, maxLocals := 1, code := object_method_1_code, exceptionTable := #[], attributes := #[] }
def k0m0 : Method := { name := "<init>", desc := "()V", sig := { parameters := [], returnType := none }, accessFlags := 1, code := some k0c0 }
/-- java/lang/Object -/
def k0 : Class := { plain "java/lang/Object" none with
  accessFlags := 33
  interfaces := #[]
  cf := some (fileOf pool0 8 #[] #[{ accessFlags := 1, nameIndex := 5, descriptorIndex := 6, attributes := #[] }] 33 0 #[] #[])
  fields := #[]
  methods := #[k0m0]
  instanceTypes := #[]
  staticTypes := #[]
  resolved := Array.replicate 124 none
  statics := none }

def pool1 : Array CpInfo := pool [(2, .class_ 4), (1, u "java/lang/Object"), (0, u "<init>"), (0, u "()V"), (0, .methodref 8 9), (0, .class_ 10), (0, .nameAndType 11 12), (0, u "com/example/trubis/trubis/equivalence/BlockHistoryPartedPinLaw"), (0, u "parentChoice"), (0, u "(II)I"), (0, .methodref 8 14), (0, .nameAndType 15 16), (0, u "madeFor"), (0, u "([I[IJI)I"), (0, .integer 2147483647), (0, .class_ 19), (0, u "com/example/trubis/trubis/equivalence/BlockHistory"), (0, .methodref 18 21), (0, .nameAndType 5 22), (0, u "([I[I[I)V"), (0, .methodref 18 24), (0, .nameAndType 25 12), (0, u "parted"), (2, .methodref 8 29), (0, .nameAndType 30 31), (0, u "chain"), (0, u "([II)[I"), (0, .methodref 8 33), (0, .nameAndType 34 35), (0, u "indexIn"), (0, u "([II)I"), (0, .methodref 37 38), (0, .class_ 39), (0, .nameAndType 40 12), (0, u "java/lang/Math"), (0, u "min"), (0, .long 3), (1, .methodref 8 44), (0, .nameAndType 45 35), (0, u "up"), (2, u "law"), (0, u "(IJII)Z")] 5

def k1m0 : Method := { name := "<init>", desc := "()V", sig := { parameters := [], returnType := none }, accessFlags := 1, code := none }
def k1c1 : Code := { maxStack := 7, maxLocals := 16, code := code, exceptionTable := #[], attributes := #[] }
def k1m1 : Method := { name := "law", desc := "(IJII)Z", sig := { parameters := [.int, .long, .int, .int], returnType := some .boolean }, accessFlags := 9, code := some k1c1 }
def k1c2 : Code := { maxStack := 3, maxLocals := 2, code := method_3_code, exceptionTable := #[], attributes := #[] }
def k1m2 : Method := { name := "parentChoice", desc := "(II)I", sig := { parameters := [.int, .int], returnType := some .int }, accessFlags := 10, code := some k1c2 }
def k1c3 : Code := { maxStack := 5, maxLocals := 6, code := method_4_code, exceptionTable := #[], attributes := #[] }
def k1m3 : Method := { name := "madeFor", desc := "([I[IJI)I", sig := { parameters := [(.array .int), (.array .int), .long, .int], returnType := some .int }, accessFlags := 10, code := some k1c3 }
def k1c4 : Code := { maxStack := 2, maxLocals := 2, code := method_5_code, exceptionTable := #[], attributes := #[] }
def k1m4 : Method := { name := "up", desc := "([II)I", sig := { parameters := [(.array .int), .int], returnType := some .int }, accessFlags := 10, code := some k1c4 }
def k1c5 : Code := { maxStack := 5, maxLocals := 3, code := method_6_code, exceptionTable := #[], attributes := #[] }
def k1m5 : Method := { name := "chain", desc := "([II)[I", sig := { parameters := [(.array .int), .int], returnType := some (.array .int) }, accessFlags := 10, code := some k1c5 }
def k1c6 : Code := { maxStack := 2, maxLocals := 2, code := method_7_code, exceptionTable := #[], attributes := #[] }
def k1m6 : Method := { name := "indexIn", desc := "([II)I", sig := { parameters := [(.array .int), .int], returnType := some .int }, accessFlags := 10, code := some k1c6 }
/-- com/example/trubis/trubis/equivalence/BlockHistoryPartedPinLaw -/
def k1 : Class := { plain "com/example/trubis/trubis/equivalence/BlockHistoryPartedPinLaw" (some 0) with
  accessFlags := 49
  interfaces := #[]
  cf := some (fileOf pool1 8 #[] #[{ accessFlags := 1, nameIndex := 5, descriptorIndex := 6, attributes := #[] }, { accessFlags := 9, nameIndex := 48, descriptorIndex := 49, attributes := #[] }, { accessFlags := 10, nameIndex := 11, descriptorIndex := 12, attributes := #[] }, { accessFlags := 10, nameIndex := 15, descriptorIndex := 16, attributes := #[] }, { accessFlags := 10, nameIndex := 45, descriptorIndex := 35, attributes := #[] }, { accessFlags := 10, nameIndex := 30, descriptorIndex := 31, attributes := #[] }, { accessFlags := 10, nameIndex := 34, descriptorIndex := 35, attributes := #[] }] 49 2 #[] #[])
  fields := #[]
  methods := #[k1m0, k1m1, k1m2, k1m3, k1m4, k1m5, k1m6]
  instanceTypes := #[]
  staticTypes := #[]
  resolved := Array.replicate 55 none
  statics := none }

def pool2 : Array CpInfo := pool [(1, .methodref 2 3), (0, .class_ 4), (0, .nameAndType 5 6), (0, u "java/lang/Object"), (0, u "<init>"), (0, u "()V"), (0, .fieldref 8 9), (0, .class_ 10), (0, .nameAndType 11 12), (0, u "com/example/trubis/trubis/equivalence/BlockHistory"), (0, u "blockOf"), (0, u "[I"), (0, .fieldref 8 14), (0, .nameAndType 15 12), (0, u "parentOf"), (0, .fieldref 8 17), (0, .nameAndType 18 12), (0, u "madeIn"), (2, .integer 2147483647), (0, u "([I[I[I)V"), (6, u "(II)I"), (1, u "parted")] 2

def k2c0 : Code := { maxStack := 2, maxLocals := 4, code := prog_1_method_1_code, exceptionTable := #[], attributes := #[] }
def k2m0 : Method := { name := "<init>", desc := "([I[I[I)V", sig := { parameters := [(.array .int), (.array .int), (.array .int)], returnType := none }, accessFlags := 0, code := some k2c0 }
def k2c1 : Code := { maxStack := 3, maxLocals := 6, code := prog_1_method_5_code, exceptionTable := #[], attributes := #[] }
def k2m1 : Method := { name := "parted", desc := "(II)I", sig := { parameters := [.int, .int], returnType := some .int }, accessFlags := 0, code := some k2c1 }
/-- com/example/trubis/trubis/equivalence/BlockHistory -/
def k2 : Class := { plain "com/example/trubis/trubis/equivalence/BlockHistory" (some 0) with
  accessFlags := 32
  interfaces := #[]
  cf := some (fileOf pool2 8 #[] #[{ accessFlags := 0, nameIndex := 5, descriptorIndex := 22, attributes := #[] }, { accessFlags := 0, nameIndex := 31, descriptorIndex := 29, attributes := #[] }] 32 2 #[] #[{ accessFlags := 18, nameIndex := 11, descriptorIndex := 12, attributes := #[] }, { accessFlags := 18, nameIndex := 15, descriptorIndex := 12, attributes := #[] }, { accessFlags := 18, nameIndex := 18, descriptorIndex := 12, attributes := #[] }])
  fields := #[{ name := "blockOf", type := (.array .int), accessFlags := 18, slot := 0, constantValue := 0 }, { name := "parentOf", type := (.array .int), accessFlags := 18, slot := 1, constantValue := 0 }, { name := "madeIn", type := (.array .int), accessFlags := 18, slot := 2, constantValue := 0 }]
  methods := #[k2m0, k2m1]
  instanceTypes := #[(.array .int), (.array .int), (.array .int)]
  staticTypes := #[]
  resolved := Array.replicate 34 none
  statics := none }

def pool3 : Array CpInfo := pool [(1, .class_ 2), (0, u "java/lang/Math"), (1, .class_ 6), (1, u "java/lang/Object"), (0, u "<init>"), (0, u "()V"), (89, .class_ 100), (1, u "java/lang/Math$RandomNumberGeneratorHolder"), (71, u "negativeZeroFloatBits"), (0, u "J"), (2, u "negativeZeroDoubleBits"), (24, u "min"), (43, u "$assertionsDisabled"), (0, u "Z"), (88, u "(II)I"), (2, u "twoToTheDoubleScaleDown"), (0, u "D"), (4, u "twoToTheDoubleScaleUp"), (9, u "E"), (3, u "PI"), (2, u "TAU"), (2, u "DEGREES_TO_RADIANS"), (0, u "RADIANS_TO_DEGREES")] 94

def k3m0 : Method := { name := "<init>", desc := "()V", sig := { parameters := [], returnType := none }, accessFlags := 2, code := none }
def k3c1 : Code := { maxStack := 2, maxLocals := 2, code := jdk_29_method_69_code, exceptionTable := #[], attributes := #[] }
def k3m1 : Method := { name := "min", desc := "(II)I", sig := { parameters := [.int, .int], returnType := some .int }, accessFlags := 9, code := some k3c1 }
/-- java/lang/Math -/
def k3 : Class := { plain "java/lang/Math" (some 0) with
  accessFlags := 49
  interfaces := #[]
  cf := some (fileOf pool3 1 #[.nestMembers #[98]] #[{ accessFlags := 2, nameIndex := 7, descriptorIndex := 8, attributes := #[] }, { accessFlags := 9, nameIndex := 201, descriptorIndex := 335, attributes := #[] }] 49 4 #[] #[{ accessFlags := 25, nameIndex := 354, descriptorIndex := 339, attributes := #[] }, { accessFlags := 25, nameIndex := 358, descriptorIndex := 339, attributes := #[] }, { accessFlags := 25, nameIndex := 361, descriptorIndex := 339, attributes := #[] }, { accessFlags := 26, nameIndex := 364, descriptorIndex := 339, attributes := #[] }, { accessFlags := 26, nameIndex := 365, descriptorIndex := 339, attributes := #[] }, { accessFlags := 26, nameIndex := 172, descriptorIndex := 173, attributes := #[] }, { accessFlags := 26, nameIndex := 176, descriptorIndex := 173, attributes := #[] }, { accessFlags := 8, nameIndex := 344, descriptorIndex := 339, attributes := #[] }, { accessFlags := 8, nameIndex := 338, descriptorIndex := 339, attributes := #[] }, { accessFlags := 4120, nameIndex := 245, descriptorIndex := 246, attributes := #[] }])
  fields := #[{ name := "E", type := .double, accessFlags := 25, slot := 0, constantValue := 0 }, { name := "PI", type := .double, accessFlags := 25, slot := 1, constantValue := 0 }, { name := "TAU", type := .double, accessFlags := 25, slot := 2, constantValue := 0 }, { name := "DEGREES_TO_RADIANS", type := .double, accessFlags := 26, slot := 3, constantValue := 0 }, { name := "RADIANS_TO_DEGREES", type := .double, accessFlags := 26, slot := 4, constantValue := 0 }, { name := "negativeZeroFloatBits", type := .long, accessFlags := 26, slot := 5, constantValue := 0 }, { name := "negativeZeroDoubleBits", type := .long, accessFlags := 26, slot := 6, constantValue := 0 }, { name := "twoToTheDoubleScaleUp", type := .double, accessFlags := 8, slot := 7, constantValue := 0 }, { name := "twoToTheDoubleScaleDown", type := .double, accessFlags := 8, slot := 8, constantValue := 0 }, { name := "$assertionsDisabled", type := .boolean, accessFlags := 4120, slot := 9, constantValue := 0 }]
  methods := #[k3m0, k3m1]
  instanceTypes := #[]
  staticTypes := #[.double, .double, .double, .double, .double, .long, .long, .double, .double, .boolean]
  resolved := Array.replicate 460 none
  statics := none }

def pool4 : Array CpInfo := pool [(1, u "java/lang/Cloneable"), (0, .class_ 1), (0, u "java/lang/Object"), (0, .class_ 3)] 3

/-- java/lang/Cloneable -/
def k4 : Class := { plain "java/lang/Cloneable" (some 0) with
  accessFlags := 1537
  interfaces := #[]
  cf := some (fileOf pool4 2 #[] #[] 1537 4 #[] #[])
  fields := #[]
  methods := #[]
  instanceTypes := #[]
  staticTypes := #[]
  resolved := Array.replicate 8 none
  statics := none }

def pool5 : Array CpInfo := pool [(1, u "java/io/Serializable"), (0, .class_ 1), (0, u "java/lang/Object"), (0, .class_ 3)] 3

/-- java/io/Serializable -/
def k5 : Class := { plain "java/io/Serializable" (some 0) with
  accessFlags := 1537
  interfaces := #[]
  cf := some (fileOf pool5 2 #[] #[] 1537 4 #[] #[])
  fields := #[]
  methods := #[]
  instanceTypes := #[]
  staticTypes := #[]
  resolved := Array.replicate 8 none
  statics := none }

/-- the primitive byte -/
def k6 : Class := { plain "byte" none with kind := .primitive 'B', accessFlags := 0x411 }
/-- [B -/
def k7 : Class := { plain "[B" (some 0) with kind := .array 6 .byte, interfaces := #[4, 5], accessFlags := 1041 }

/-- the primitive int -/
def k8 : Class := { plain "int" none with kind := .primitive 'I', accessFlags := 0x411 }
/-- [I -/
def k9 : Class := { plain "[I" (some 0) with kind := .array 8 .int, interfaces := #[4, 5], accessFlags := 1041 }

def heap : Heap := #[]
def classes : Array Class := #[k0, k1, k2, k3, k4, k5, k6, k7, k8, k9]
def interned : List (Array UInt16 × Addr) := []
def slotsUsed : Nat := 0
def theMethod : MethodId := ⟨1, 1⟩
def args0 : Array Value := #[.int 7, .long 8, .int 9, .int 1]
def aboutOver (below : List Frame) : State where
  vm := { classes := classes, interned := interned.toArray }
  heap := heap
  slotsUsed := slotsUsed
  threads := #[{ frames := .invoking theMethod args0 :: below }]
def below0 : List Frame := [.native { method := ⟨0, 0⟩, args := #[] }]
def about1 : State := aboutOver below0
def p0 : Program := .bare "" "" ""
def e0 : Env := launch0.env 0 0 0
theorem w_frames : about1.frames = Frame.invoking theMethod args0 :: below0 := rfl
set_option maxRecDepth 65536 in
theorem w_args : argsFit about1.vm theMethod args0 = true := by decide +kernel
set_option maxRecDepth 65536 in
theorem w_heap : heapFits about1 = true := by decide +kernel
set_option maxRecDepth 65536 in
theorem w_runnable : about1.curStatus? = some .runnable := by decide +kernel
set_option maxRecDepth 65536 in
theorem w_alone : about1.alone = true := by decide +kernel
set_option maxRecDepth 65536 in
theorem w_named : about1.methodNamed? x = some theMethod := by decide +kernel
set_option maxRecDepth 65536 in
theorem w_hears : about1.hears theMethod below0 = true := by decide +kernel
set_option maxRecDepth 65536 in
theorem w_ripe : about1.ripe theMethod args0 below0 = true := by decide +kernel
theorem w_running : about1.status = .running := rfl
set_option maxRecDepth 65536 in
theorem w_room : about1.hasRoom e0.platform room_1 = true :=
  launch0.hasRoom_least _ room_1 (by decide +kernel) (by decide +kernel) (by decide +kernel) (by decide +kernel) (by decide +kernel) (by decide +kernel)
theorem allAtoms_all (ts : List Jvm.Cond) (a : Array Jvm.Value) (st : Jvm.State) : (allAtoms ts).before a st = ts.all (fun c => c.before a st) := by
  induction ts with
  | nil => rfl
  | cons c t ih =>
    show (Jvm.Cond.and c (allAtoms t)).before a st = _
    rw [Jvm.Cond.before_and, ih, List.all_cons]
def words1 : List Jvm.Cond := Jvm.Cond.code x code maxLocals ret :: tables_1
/-- a 'code' word, met by the world's own term for the bytes: nothing is compared byte by byte -/
theorem code_word {y : MethodName} {bytes : ByteArray} {mx : Nat} {rt : Option FieldType} {a : Array Value} {s : State} {m : MethodId} {meth : Method} {c : Code} (h1 : s.methodNamed? y = some m) (h2 : s.vm.method? m = some meth) (h3 : meth.code = some c) (h4 : c.code = bytes)
    (h5 : (c.maxLocals == mx && c.exceptionTable.isEmpty && decide (c.maxStack ≤ mostOperands) && decide (meth.sig.returnType = rt) && !meth.locks && decide (parseMethodDescriptor y.desc = some meth.sig)) = true) : (Jvm.Cond.code y bytes mx rt).before a s = true := by
  simp only [Bool.and_eq_true, beq_iff_eq, Bool.not_eq_true', decide_eq_true_eq] at h5
  obtain ⟨⟨⟨⟨⟨g1, g2⟩, g3⟩, g4⟩, g5⟩, g6⟩ := h5
  simp [Cond.before, Cond.holds, Cond.value, h1, h2, h3, h4, g1, g2, g3, g4, g5, g6]
def isCode : Jvm.Cond → Bool
  | .code _ _ _ _ => true
  | _ => false
theorem all_split {L : List Jvm.Cond} {P : Jvm.Cond → Bool} (h1 : L.all (fun c => isCode c || P c) = true) (h2 : ∀ c ∈ L.filter isCode, P c = true) : L.all P = true := by
  refine List.all_eq_true.mpr fun c hc => ?_
  have h := List.all_eq_true.mp h1 c hc
  rcases Bool.eq_false_or_eq_true (isCode c) with hi | hi
  · exact h2 c (List.mem_filter.mpr ⟨hc, hi⟩)
  · simpa [hi] using h
set_option maxRecDepth 65536 in
theorem w_c0 : (Jvm.Cond.code x code maxLocals ret).before args0 about1 = true := code_word (m := ⟨1, 1⟩) (meth := k1m1) (c := k1c1) (by decide +kernel) rfl rfl rfl (by decide +kernel)
set_option maxRecDepth 65536 in
theorem w_c1 : (Jvm.Cond.code ({ cls := "com/example/trubis/trubis/equivalence/BlockHistoryPartedPinLaw", name := "parentChoice", desc := "(II)I" } : Jvm.MethodName) method_3_code (2 : Nat) (Option.some Jvm.ClassFile.FieldType.int)).before args0 about1 = true := code_word (m := ⟨1, 2⟩) (meth := k1m2) (c := k1c2) (by decide +kernel) rfl rfl rfl (by decide +kernel)
set_option maxRecDepth 65536 in
theorem w_c2 : (Jvm.Cond.code ({ cls := "com/example/trubis/trubis/equivalence/BlockHistoryPartedPinLaw", name := "madeFor", desc := "([I[IJI)I" } : Jvm.MethodName) method_4_code (6 : Nat) (Option.some Jvm.ClassFile.FieldType.int)).before args0 about1 = true := code_word (m := ⟨1, 3⟩) (meth := k1m3) (c := k1c3) (by decide +kernel) rfl rfl rfl (by decide +kernel)
set_option maxRecDepth 65536 in
theorem w_c3 : (Jvm.Cond.code ({ cls := "com/example/trubis/trubis/equivalence/BlockHistory", name := "<init>", desc := "([I[I[I)V" } : Jvm.MethodName) prog_1_method_1_code (4 : Nat) (Option.none : Option Jvm.ClassFile.FieldType)).before args0 about1 = true := code_word (m := ⟨2, 0⟩) (meth := k2m0) (c := k2c0) (by decide +kernel) rfl rfl rfl (by decide +kernel)
set_option maxRecDepth 65536 in
theorem w_c4 : (Jvm.Cond.code ({ cls := "java/lang/Object", name := "<init>", desc := "()V" } : Jvm.MethodName) object_method_1_code (1 : Nat) (Option.none : Option Jvm.ClassFile.FieldType)).before args0 about1 = true := code_word (m := ⟨0, 0⟩) (meth := k0m0) (c := k0c0) (by decide +kernel) rfl rfl rfl (by decide +kernel)
set_option maxRecDepth 65536 in
theorem w_c5 : (Jvm.Cond.code ({ cls := "com/example/trubis/trubis/equivalence/BlockHistory", name := "parted", desc := "(II)I" } : Jvm.MethodName) prog_1_method_5_code (6 : Nat) (Option.some Jvm.ClassFile.FieldType.int)).before args0 about1 = true := code_word (m := ⟨2, 1⟩) (meth := k2m1) (c := k2c1) (by decide +kernel) rfl rfl rfl (by decide +kernel)
set_option maxRecDepth 65536 in
theorem w_c6 : (Jvm.Cond.code ({ cls := "com/example/trubis/trubis/equivalence/BlockHistoryPartedPinLaw", name := "chain", desc := "([II)[I" } : Jvm.MethodName) method_6_code (3 : Nat) (Option.some (Jvm.ClassFile.FieldType.array Jvm.ClassFile.FieldType.int))).before args0 about1 = true := code_word (m := ⟨1, 5⟩) (meth := k1m5) (c := k1c5) (by decide +kernel) rfl rfl rfl (by decide +kernel)
set_option maxRecDepth 65536 in
theorem w_c7 : (Jvm.Cond.code ({ cls := "com/example/trubis/trubis/equivalence/BlockHistoryPartedPinLaw", name := "up", desc := "([II)I" } : Jvm.MethodName) method_5_code (2 : Nat) (Option.some Jvm.ClassFile.FieldType.int)).before args0 about1 = true := code_word (m := ⟨1, 4⟩) (meth := k1m4) (c := k1c4) (by decide +kernel) rfl rfl rfl (by decide +kernel)
set_option maxRecDepth 65536 in
theorem w_c8 : (Jvm.Cond.code ({ cls := "com/example/trubis/trubis/equivalence/BlockHistoryPartedPinLaw", name := "indexIn", desc := "([II)I" } : Jvm.MethodName) method_7_code (2 : Nat) (Option.some Jvm.ClassFile.FieldType.int)).before args0 about1 = true := code_word (m := ⟨1, 6⟩) (meth := k1m6) (c := k1c6) (by decide +kernel) rfl rfl rfl (by decide +kernel)
set_option maxRecDepth 65536 in
theorem w_c9 : (Jvm.Cond.code ({ cls := "java/lang/Math", name := "min", desc := "(II)I" } : Jvm.MethodName) jdk_29_method_69_code (2 : Nat) (Option.some Jvm.ClassFile.FieldType.int)).before args0 about1 = true := code_word (m := ⟨3, 1⟩) (meth := k3m1) (c := k3c1) (by decide +kernel) rfl rfl rfl (by decide +kernel)
def codes1 : List Jvm.Cond := [Jvm.Cond.code x code maxLocals ret, Jvm.Cond.code ({ cls := "com/example/trubis/trubis/equivalence/BlockHistoryPartedPinLaw", name := "parentChoice", desc := "(II)I" } : Jvm.MethodName) method_3_code (2 : Nat) (Option.some Jvm.ClassFile.FieldType.int), Jvm.Cond.code ({ cls := "com/example/trubis/trubis/equivalence/BlockHistoryPartedPinLaw", name := "madeFor", desc := "([I[IJI)I" } : Jvm.MethodName) method_4_code (6 : Nat) (Option.some Jvm.ClassFile.FieldType.int), Jvm.Cond.code ({ cls := "com/example/trubis/trubis/equivalence/BlockHistory", name := "<init>", desc := "([I[I[I)V" } : Jvm.MethodName) prog_1_method_1_code (4 : Nat) (Option.none : Option Jvm.ClassFile.FieldType), Jvm.Cond.code ({ cls := "java/lang/Object", name := "<init>", desc := "()V" } : Jvm.MethodName) object_method_1_code (1 : Nat) (Option.none : Option Jvm.ClassFile.FieldType), Jvm.Cond.code ({ cls := "com/example/trubis/trubis/equivalence/BlockHistory", name := "parted", desc := "(II)I" } : Jvm.MethodName) prog_1_method_5_code (6 : Nat) (Option.some Jvm.ClassFile.FieldType.int), Jvm.Cond.code ({ cls := "com/example/trubis/trubis/equivalence/BlockHistoryPartedPinLaw", name := "chain", desc := "([II)[I" } : Jvm.MethodName) method_6_code (3 : Nat) (Option.some (Jvm.ClassFile.FieldType.array Jvm.ClassFile.FieldType.int)), Jvm.Cond.code ({ cls := "com/example/trubis/trubis/equivalence/BlockHistoryPartedPinLaw", name := "up", desc := "([II)I" } : Jvm.MethodName) method_5_code (2 : Nat) (Option.some Jvm.ClassFile.FieldType.int), Jvm.Cond.code ({ cls := "com/example/trubis/trubis/equivalence/BlockHistoryPartedPinLaw", name := "indexIn", desc := "([II)I" } : Jvm.MethodName) method_7_code (2 : Nat) (Option.some Jvm.ClassFile.FieldType.int), Jvm.Cond.code ({ cls := "java/lang/Math", name := "min", desc := "(II)I" } : Jvm.MethodName) jdk_29_method_69_code (2 : Nat) (Option.some Jvm.ClassFile.FieldType.int)]
set_option maxRecDepth 65536 in
theorem codes_eq : words1.filter isCode = codes1 := rfl
theorem w_codes : ∀ c ∈ words1.filter isCode, c.before args0 about1 = true := by
  rw [codes_eq]
  intro c hc
  simp only [codes1, List.mem_cons, List.not_mem_nil, or_false] at hc
  rcases hc with rfl | rfl | rfl | rfl | rfl | rfl | rfl | rfl | rfl | rfl
  · exact w_c0
  · exact w_c1
  · exact w_c2
  · exact w_c3
  · exact w_c4
  · exact w_c5
  · exact w_c6
  · exact w_c7
  · exact w_c8
  · exact w_c9
set_option maxRecDepth 65536 in
theorem w_t1 : (words1.take 24).all (fun c => isCode c || c.before args0 about1) = true := by decide +kernel
set_option maxRecDepth 65536 in
theorem w_t2 : (words1.drop 24).all (fun c => isCode c || c.before args0 about1) = true := by decide +kernel
theorem w_tables : (allAtoms (Jvm.Cond.code x code maxLocals ret :: tables_1)).before args0 about1 = true := by
  rw [allAtoms_all]
  show words1.all (fun c => c.before args0 about1) = true
  refine all_split ?_ w_codes
  rw [← List.take_append_drop 24 words1, List.all_append, w_t1, w_t2]
  rfl
set_option maxRecDepth 65536 in
theorem w_case : (Jvm.Cond.and given_1 narrow_1).before args0 about1 = true := by decide +kernel
theorem w_applies : (headSpec (Jvm.Cond.code x code maxLocals ret :: tables_1) room_1).applies x e0.platform about1 = true :=
  (Spec.applies_iff w_frames).mpr ⟨w_running, w_runnable, w_alone, w_named, w_hears, w_ripe, w_room, w_tables⟩
theorem atStart : AtStart classFile x code maxLocals ret World_1 tables_1 room_1 Calls_1 rest_1 Pre_1 launch0 p0 e0 about1 theMethod args0 below0 :=
  ⟨lists_1, trivial, launch0.admits_env _ _ _, launch0.least_env, fairChoices_fair.cas, fairChoices_fair.clock, w_frames, w_args, w_heap, w_applies, trivial, trivial, w_case⟩
end start1
theorem witness_1 : WitnessClaimed_1 := ⟨start1.p0, start1.e0, start1.about1, start1.theMethod, start1.args0, start1.below0, start1.atStart⟩
end Jvm.Pilot.@@N@@
