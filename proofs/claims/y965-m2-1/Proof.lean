import JvmDerived
import JvmDerived.Pilot.@@N@@Statement
import JvmDerived.Pilot.@@N@@Code
set_option linter.unusedVariables false
set_option linter.unusedSimpArgs false
namespace Jvm.RoadKit
open Sem ClassFile Op Lib Jvm.Stand Jvm.Free Jvm.LawKit
section New
variable {p : Program} {l : Launch} {e : Env} {R : Room} {s : State} {m : MethodId} {args : Array Value} {below : List Frame} {meth : Method} {c : Code} {T : State} {locs : List Loc} {cells slots : Nat}
theorem retI (X : Stand p l e R s m args below meth c T locs cells slots) (hx : p.tables.exec = Jvm.exec) {pc : Nat} {Ls : Array Slot} {z : Int32} {rest : List Value} (hret : meth.sig.returnType = some .int) (hd : decode c.code pc = .ok (.ireturn, 1)) {fs : List Frame}
    (hl : ∀ (f : JFrame) (acts : List Action), f.method = m → f.locked = none → f.entered = [] → (doReturn e (T.setTop f) acts (some (.int z))).1 = T.setFrames fs) : Steps p.tables e below (T.setTop (mkF m pc Ls (.int z :: rest))) (T.setFrames fs) := by
  have hm' : T.vm.method? m = some meth := X.method'
  have hn : narrow .int (.int z) = .int z := rfl
  show Steps p.tables e below (T.setTop { method := m, pc := pc, locals := Ls, stack := _ :: rest, locked := none }) _
  jvm_step X.here [X.here.top, hx, hd, hm', hret, hn]
  first | (intro acts; rw [hl _ acts rfl rfl rfl]) | rw [hl _ _ rfl rfl rfl]
  exact Steps.refl _
end New
end Jvm.RoadKit
namespace Jvm.Pilot.@@N@@
open Jvm Jvm.ClassFile Sem Op Lib Jvm.Free Jvm.Stand Jvm.LawKit Jvm.RoadKit Bundle Jvm.Pilot.@@N@@.Jvm.D
section OwnLayer
variable {p : Program} {l : Launch} {e : Env} {R : Room} {s : State} {m : MethodId} {args : Array Value} {below : List Frame} {meth : Method} {c : Code} {T : State} {locs : List Loc} {cells slots : Nat} {Z : State} {a0 : Array Value} {h h' : Heap} {K : State → Outcome → Prop} {Q : Option Value → Heap → List Loc → Prop} {pc : Nat} {Ls : Array Slot} {S : List Value} {own : String} {index : Nat} {y : MethodName} {bytes : ByteArray} {maxL : Nat} {ret : Option FieldType} {rm : Room} {as' : Array Value} {h0 : Heap} {ws : List Jvm.Cond}
/-- from here the body comes to its end, and K holds of it -/
def own_W (p : Program) (e : Env) (below : List Frame) (K : State → Outcome → Prop) (T : State) (f : JFrame) : Prop :=
  ∃ s₂ o, Steps p.tables e below (T.setTop f) s₂ ∧ s₂.status = .running ∧ Ended s₂ below o ∧ K s₂ o
def own_K (s : State) (R : Room) (Q : Option Value → Heap → List Loc → Prop) (s₂ : State) (o : Outcome) : Prop :=
  ∃ v L, o = .returned v ∧ Q v s₂.heap L ∧ FrameEnd s o s₂ L R.cells R.slots
/-- a body's contract -/
def own_C (l : Launch) (Z : State) (y : MethodName) (bytes : ByteArray) (maxL : Nat) (ret : Option FieldType) (ws : List Jvm.Cond) (rm : Room) (as' : Array Value) (h0 : Heap) (Q : Option Value → Heap → List Loc → Prop) : Prop :=
  MetFree l y (head1 (Jvm.Cond.code y bytes maxL ret :: ws) rm) (fun a U => a = as' ∧ Z.Warmed39 U.vm ∧ U.heap = h0) (fun _ _ _ _ _ => True) (fun _ U o U' => ∃ v L, o = .returned v ∧ Q v U'.heap L ∧ FrameEnd U o U' L rm.cells rm.slots)
theorem own_bodyF (hpl : plainFor y = true)
    (body : ∀ (p : Program) (e : Env) (s : State) (m : MethodId) (below : List Frame) (meth : Method) (c : Code) (T : State), p.tables.exec = Jvm.exec → c.code = bytes → c.maxLocals = maxL → s.vm.findClass y.cls = some m.cls → meth.name = y.name → meth.sig.returnType = ret → meth.locks = false → Z.Warmed39 s.vm →
      Stand p l e rm s m as' below meth c T [] 0 0 → T.heap = h0 → own_W p e below (own_K s rm Q) T (entryFrame m as' maxL)) : own_C l Z y bytes maxL ret ws rm as' h0 Q := by
  refine MetFree.of_bodySF hpl hisR ?_
  intro p e s m args below meth c s₁ Bd hml0 hP hK
  obtain ⟨rfl, hZ, hh⟩ := hP
  exact body p e s m below meth c s₁ Bd.exec Bd.bytes hml0 (findClass_of_methodNamed Bd.named) (name_of_methodNamed Bd.named Bd.method).1 Bd.returns (BodyLoose.notSynchronized Bd) hZ (Stand.of_body Bd) (by rw [← hh, Bd.state]; rfl)
theorem own_body (hpn : plainName y.cls = true)
    (body : ∀ (p : Program) (e : Env) (s : State) (m : MethodId) (below : List Frame) (meth : Method) (c : Code) (T : State), p.tables.exec = Jvm.exec → c.code = bytes → c.maxLocals = maxL → s.vm.findClass y.cls = some m.cls → meth.name = y.name → meth.sig.returnType = ret → meth.locks = false → Z.Warmed39 s.vm →
      Stand p l e rm s m as' below meth c T [] 0 0 → T.heap = h0 → own_W p e below (own_K s rm Q) T (entryFrame m as' maxL)) : own_C l Z y bytes maxL ret ws rm as' h0 Q := own_bodyF (plainFor_of_name hpn) body
theorem own_s {f f' : JFrame} {T' : State} (hs : ∀ t, Steps p.tables e below (T'.setTop f') t → Steps p.tables e below (T.setTop f) t) (k : own_W p e below K T' f') : own_W p e below K T f := by
  obtain ⟨s₂, o, h1, r⟩ := k; exact ⟨s₂, o, hs _ h1, r⟩
theorem own_s' {f f' : JFrame} {T' : State} (hs : Steps p.tables e below (T.setTop f) (T'.setTop f')) (k : own_W p e below K T' f') : own_W p e below K T f := by
  obtain ⟨s₂, o, h1, r⟩ := k; exact ⟨s₂, o, hs.trans h1, r⟩
theorem own_eq {f f' : JFrame} (q : f = f') (k : own_W p e below K T f') : own_W p e below K T f := q ▸ k
section Plain
theorem own_iloadN (X : Stand p l e R s m args below meth c T locs cells slots) (hx : p.tables.exec = Jvm.exec) {i : Fin 4} {v : Int32} (pc' : Nat) (hd : decode c.code pc = .ok (.iload_n i, 1)) (hp : pc + 1 = pc') (hl : Ls[i.val]? = some (.val (.int v))) (k : own_W p e below K T (mkF m pc' Ls (.int v :: S))) : own_W p e below K T (mkF m pc Ls S) := by subst hp; exact own_s (fun _ => XS.iloadN X.here hx rfl hd hl) k
theorem own_iload (X : Stand p l e R s m args below meth c T locs cells slots) (hx : p.tables.exec = Jvm.exec) {i : Nat} {v : Int32} (pc' : Nat) (hd : decode c.code pc = .ok (.iload i, 2)) (hp : pc + 2 = pc') (hl : Ls[i]? = some (.val (.int v))) (k : own_W p e below K T (mkF m pc' Ls (.int v :: S))) : own_W p e below K T (mkF m pc Ls S) := by subst hp; exact own_s (fun _ => XS.iload X.here hx rfl hd hl) k
theorem own_lloadN (X : Stand p l e R s m args below meth c T locs cells slots) (hx : p.tables.exec = Jvm.exec) {i : Fin 4} {v : Int64} (pc' : Nat) (hd : decode c.code pc = .ok (.lload_n i, 1)) (hp : pc + 1 = pc') (hl : Ls[i.val]? = some (.val (.long v))) (k : own_W p e below K T (mkF m pc' Ls (.long v :: S))) : own_W p e below K T (mkF m pc Ls S) := by subst hp; exact own_s (fun _ => XS.lloadN X.here hx rfl hd hl) k
theorem own_lload (X : Stand p l e R s m args below meth c T locs cells slots) (hx : p.tables.exec = Jvm.exec) {i : Nat} {v : Int64} (pc' : Nat) (hd : decode c.code pc = .ok (.lload i, 2)) (hp : pc + 2 = pc') (hl : Ls[i]? = some (.val (.long v))) (k : own_W p e below K T (mkF m pc' Ls (.long v :: S))) : own_W p e below K T (mkF m pc Ls S) := by subst hp; exact own_s (fun _ => XS.lload X.here hx rfl hd hl) k
theorem own_aloadN (X : Stand p l e R s m args below meth c T locs cells slots) (hx : p.tables.exec = Jvm.exec) {i : Fin 4} {v : Addr} (pc' : Nat) (hd : decode c.code pc = .ok (.aload_n i, 1)) (hp : pc + 1 = pc') (hl : Ls[i.val]? = some (.val (.ref v))) (k : own_W p e below K T (mkF m pc' Ls (.ref v :: S))) : own_W p e below K T (mkF m pc Ls S) := by subst hp; exact own_s (fun _ => XS.aloadN X.here hx rfl hd hl rfl) k
theorem own_aload (X : Stand p l e R s m args below meth c T locs cells slots) (hx : p.tables.exec = Jvm.exec) {i : Nat} {v : Addr} (pc' : Nat) (hd : decode c.code pc = .ok (.aload i, 2)) (hp : pc + 2 = pc') (hl : Ls[i]? = some (.val (.ref v))) (k : own_W p e below K T (mkF m pc' Ls (.ref v :: S))) : own_W p e below K T (mkF m pc Ls S) := by subst hp; exact own_s (fun _ => XS.aload X.here hx rfl hd hl rfl) k
theorem own_istoreN (X : Stand p l e R s m args below meth c T locs cells slots) (hx : p.tables.exec = Jvm.exec) {i : Fin 4} {x y : Int32} (pc' : Nat) (l' : Array Slot) (hy : y = x) (hd : decode c.code pc = .ok (.istore_n i, 1)) (hp : pc + 1 = pc') (hl : storeLocals Ls i.val (.int y) = some l') (k : own_W p e below K T (mkF m pc' l' S)) : own_W p e below K T (mkF m pc Ls (.int x :: S)) := by subst hp hy; exact own_s (fun _ => XS.istoreN X.here hx rfl hd rfl hl) k
theorem own_istore (X : Stand p l e R s m args below meth c T locs cells slots) (hx : p.tables.exec = Jvm.exec) {i : Nat} {x y : Int32} (pc' : Nat) (l' : Array Slot) (hy : y = x) (hd : decode c.code pc = .ok (.istore i, 2)) (hp : pc + 2 = pc') (hl : storeLocals Ls i (.int y) = some l') (k : own_W p e below K T (mkF m pc' l' S)) : own_W p e below K T (mkF m pc Ls (.int x :: S)) := by subst hp hy; exact own_s (fun _ => XS.istore X.here hx rfl hd rfl hl) k
theorem own_lstoreN (X : Stand p l e R s m args below meth c T locs cells slots) (hx : p.tables.exec = Jvm.exec) {i : Fin 4} {x y : Int64} (pc' : Nat) (l' : Array Slot) (hy : y = x) (hd : decode c.code pc = .ok (.lstore_n i, 1)) (hp : pc + 1 = pc') (hl : storeLocals Ls i.val (.long y) = some l') (k : own_W p e below K T (mkF m pc' l' S)) : own_W p e below K T (mkF m pc Ls (.long x :: S)) := by subst hp hy; exact own_s (fun _ => XS.lstoreN X.here hx rfl hd rfl hl) k
theorem own_lstore (X : Stand p l e R s m args below meth c T locs cells slots) (hx : p.tables.exec = Jvm.exec) {i : Nat} {x y : Int64} (pc' : Nat) (l' : Array Slot) (hy : y = x) (hd : decode c.code pc = .ok (.lstore i, 2)) (hp : pc + 2 = pc') (hl : storeLocals Ls i (.long y) = some l') (k : own_W p e below K T (mkF m pc' l' S)) : own_W p e below K T (mkF m pc Ls (.long x :: S)) := by subst hp hy; exact own_s (fun _ => XS.lstore X.here hx rfl hd rfl hl) k
theorem own_astoreN (X : Stand p l e R s m args below meth c T locs cells slots) (hx : p.tables.exec = Jvm.exec) {i : Fin 4} {x y : Addr} (pc' : Nat) (l' : Array Slot) (hy : y = x) (hd : decode c.code pc = .ok (.astore_n i, 1)) (hp : pc + 1 = pc') (hl : storeLocals Ls i.val (.ref y) = some l') (k : own_W p e below K T (mkF m pc' l' S)) : own_W p e below K T (mkF m pc Ls (.ref x :: S)) := by subst hp hy; exact own_s (fun _ => XS.astoreN X.here hx rfl hd rfl rfl hl) k
theorem own_astore (X : Stand p l e R s m args below meth c T locs cells slots) (hx : p.tables.exec = Jvm.exec) {i : Nat} {x y : Addr} (pc' : Nat) (l' : Array Slot) (hy : y = x) (hd : decode c.code pc = .ok (.astore i, 2)) (hp : pc + 2 = pc') (hl : storeLocals Ls i (.ref y) = some l') (k : own_W p e below K T (mkF m pc' l' S)) : own_W p e below K T (mkF m pc Ls (.ref x :: S)) := by subst hp hy; exact own_s (fun _ => XS.astore X.here hx rfl hd rfl rfl hl) k
theorem own_iinc (X : Stand p l e R s m args below meth c T locs cells slots) (hx : p.tables.exec = Jvm.exec) {i : Nat} {cst : Int} {x : Int32} (y : Int32) (pc' : Nat) (l' : Array Slot) (hy : y = x + Int32.ofInt cst) (hd : decode c.code pc = .ok (.iinc i cst, 3)) (hp : pc + 3 = pc') (hl : Ls[i]? = some (.val (.int x))) (hl' : storeLocals Ls i (.int y) = some l') (k : own_W p e below K T (mkF m pc' l' S)) : own_W p e below K T (mkF m pc Ls S) := by subst hp hy; exact own_s (fun _ => XS.iinc X.here hx rfl hd hl hl') k
theorem own_iconst (X : Stand p l e R s m args below meth c T locs cells slots) (hx : p.tables.exec = Jvm.exec) {i : Int} (pc' : Nat) (z : Int32) (hz : Int32.ofInt i = z) (hd : decode c.code pc = .ok (.iconst i, 1)) (hp : pc + 1 = pc') (k : own_W p e below K T (mkF m pc' Ls (.int z :: S))) : own_W p e below K T (mkF m pc Ls S) := by subst hp hz; exact own_s (fun _ => XS.iconst X.here hx rfl hd) k
theorem own_bipush (X : Stand p l e R s m args below meth c T locs cells slots) (hx : p.tables.exec = Jvm.exec) {i : Int} (pc' : Nat) (z : Int32) (hz : (Int8.ofInt i).toInt32 = z) (hd : decode c.code pc = .ok (.bipush i, 2)) (hp : pc + 2 = pc') (k : own_W p e below K T (mkF m pc' Ls (.int z :: S))) : own_W p e below K T (mkF m pc Ls S) := by subst hp hz; exact own_s (fun _ => XS.bipush X.here hx rfl hd) k
theorem own_sipush (X : Stand p l e R s m args below meth c T locs cells slots) (hx : p.tables.exec = Jvm.exec) {i : Int} (pc' : Nat) (z : Int32) (hz : (Int16.ofInt i).toInt32 = z) (hd : decode c.code pc = .ok (.sipush i, 3)) (hp : pc + 3 = pc') (k : own_W p e below K T (mkF m pc' Ls (.int z :: S))) : own_W p e below K T (mkF m pc Ls S) := by subst hp hz; exact own_s (fun _ => XS.sipush X.here hx rfl hd) k
theorem own_lconst (X : Stand p l e R s m args below meth c T locs cells slots) (hx : p.tables.exec = Jvm.exec) {i : Fin 2} (pc' : Nat) (z : Int64) (hz : Int64.ofNat i = z) (hd : decode c.code pc = .ok (.lconst i, 1)) (hp : pc + 1 = pc') (k : own_W p e below K T (mkF m pc' Ls (.long z :: S))) : own_W p e below K T (mkF m pc Ls S) := by subst hp hz; exact own_s (fun _ => XS.lconst X.here hx rfl hd) k
theorem own_ldc (X : Stand p l e R s m args below meth c T locs cells slots) (hx : p.tables.exec = Jvm.exec) {v : Int32} (hZ : Z.Warmed39 s.vm) (hown : s.vm.findClass own = some m.cls) (pc' : Nat) (w : (Jvm.Cond.constant own index v).before a0 Z = true) (hd : decode c.code pc = .ok (.ldc index, 2)) (hp : pc + 2 = pc') (k : own_W p e below K T (mkF m pc' Ls (.int v :: S))) : own_W p e below K T (mkF m pc Ls S) := by subst hp; exact own_s (X.ldcInt hx hown (mvT hZ w) (g := mkF m pc Ls S) rfl hd) k
theorem own_ldc2 (X : Stand p l e R s m args below meth c T locs cells slots) (hx : p.tables.exec = Jvm.exec) {v : Int64} (hZ : Z.Warmed39 s.vm) (hown : s.vm.findClass own = some m.cls) (pc' : Nat) (w : (Jvm.Cond.constantLong own index v).before a0 Z = true) (hd : decode c.code pc = .ok (.ldc2_w index, 3)) (hp : pc + 3 = pc') (k : own_W p e below K T (mkF m pc' Ls (.long v :: S))) : own_W p e below K T (mkF m pc Ls S) := by subst hp; exact own_s (X.ldc2Long hx hown (mvT hZ w) (g := mkF m pc Ls S) rfl hd) k
theorem own_goto (X : Stand p l e R s m args below meth c T locs cells slots) (hx : p.tables.exec = Jvm.exec) {o : Int} (pc' : Nat) (hd : decode c.code pc = .ok (.goto o, 3)) (ho : 0 ≤ (pc : Int) + o) (hp : ((pc : Int) + o).toNat = pc') (k : own_W p e below K T (mkF m pc' Ls S)) : own_W p e below K T (mkF m pc Ls S) := own_s (fun _ => XS.goto X.here hx (g := mkF m pc Ls S) rfl rfl hd ho hp) k
theorem own_dup (X : Stand p l e R s m args below meth c T locs cells slots) (hx : p.tables.exec = Jvm.exec) {x : Value} (pc' : Nat) (hc : x.category = 1) (hd : decode c.code pc = .ok (.dup, 1)) (hp : pc + 1 = pc') (k : own_W p e below K T (mkF m pc' Ls (x :: x :: S))) : own_W p e below K T (mkF m pc Ls (x :: S)) := by subst hp; exact own_s (fun _ => XS.dup X.here hx rfl hd rfl hc) k
theorem own_pop (X : Stand p l e R s m args below meth c T locs cells slots) (hx : p.tables.exec = Jvm.exec) {x : Value} (pc' : Nat) (hc : x.category = 1) (hd : decode c.code pc = .ok (.pop, 1)) (hp : pc + 1 = pc') (k : own_W p e below K T (mkF m pc' Ls S)) : own_W p e below K T (mkF m pc Ls (x :: S)) := by subst hp; exact own_s (fun _ => XS.pop X.here hx rfl hd rfl hc) k
theorem own_dupX1 (X : Stand p l e R s m args below meth c T locs cells slots) (hx : p.tables.exec = Jvm.exec) {x y : Value} (pc' : Nat) (hc : x.category = 1) (hc2 : y.category = 1) (hd : decode c.code pc = .ok (.dup_x1, 1)) (hp : pc + 1 = pc') (k : own_W p e below K T (mkF m pc' Ls (x :: y :: x :: S))) : own_W p e below K T (mkF m pc Ls (x :: y :: S)) := by subst hp; exact own_s (fun _ => XS.dupX1 X.here hx rfl hd rfl hc hc2) k
theorem own_dup2 (X : Stand p l e R s m args below meth c T locs cells slots) (hx : p.tables.exec = Jvm.exec) {x y : Value} (pc' : Nat) (hc : x.category = 1) (hc2 : y.category = 1) (hd : decode c.code pc = .ok (.dup2, 1)) (hp : pc + 1 = pc') (k : own_W p e below K T (mkF m pc' Ls (x :: y :: x :: y :: S))) : own_W p e below K T (mkF m pc Ls (x :: y :: S)) := by subst hp; exact own_s (fun _ => XT.dup2 X.here hx rfl hd rfl hc hc2) k
theorem own_iadd (X : Stand p l e R s m args below meth c T locs cells slots) (hx : p.tables.exec = Jvm.exec) {x y : Int32} (pc' : Nat) (hd : decode c.code pc = .ok (.iadd, 1)) (hp : pc + 1 = pc') (k : own_W p e below K T (mkF m pc' Ls (.int (x + y) :: S))) : own_W p e below K T (mkF m pc Ls (.int y :: .int x :: S)) := by subst hp; exact own_s (fun _ => XS.iadd X.here hx rfl hd rfl) k
theorem own_ladd (X : Stand p l e R s m args below meth c T locs cells slots) (hx : p.tables.exec = Jvm.exec) {x y : Int64} (pc' : Nat) (hd : decode c.code pc = .ok (.ladd, 1)) (hp : pc + 1 = pc') (k : own_W p e below K T (mkF m pc' Ls (.long (x + y) :: S))) : own_W p e below K T (mkF m pc Ls (.long y :: .long x :: S)) := by subst hp; exact own_s (fun _ => XS.ladd X.here hx rfl hd rfl) k
theorem own_isub (X : Stand p l e R s m args below meth c T locs cells slots) (hx : p.tables.exec = Jvm.exec) {x y : Int32} (pc' : Nat) (hd : decode c.code pc = .ok (.isub, 1)) (hp : pc + 1 = pc') (k : own_W p e below K T (mkF m pc' Ls (.int (x - y) :: S))) : own_W p e below K T (mkF m pc Ls (.int y :: .int x :: S)) := by subst hp; exact own_s (fun _ => XS.isub X.here hx rfl hd rfl) k
theorem own_lsub (X : Stand p l e R s m args below meth c T locs cells slots) (hx : p.tables.exec = Jvm.exec) {x y : Int64} (pc' : Nat) (hd : decode c.code pc = .ok (.lsub, 1)) (hp : pc + 1 = pc') (k : own_W p e below K T (mkF m pc' Ls (.long (x - y) :: S))) : own_W p e below K T (mkF m pc Ls (.long y :: .long x :: S)) := by subst hp; exact own_s (fun _ => XS.lsub X.here hx rfl hd rfl) k
theorem own_imul (X : Stand p l e R s m args below meth c T locs cells slots) (hx : p.tables.exec = Jvm.exec) {x y : Int32} (pc' : Nat) (hd : decode c.code pc = .ok (.imul, 1)) (hp : pc + 1 = pc') (k : own_W p e below K T (mkF m pc' Ls (.int (x * y) :: S))) : own_W p e below K T (mkF m pc Ls (.int y :: .int x :: S)) := by subst hp; exact own_s (fun _ => XS.imul X.here hx rfl hd rfl) k
theorem own_lmul (X : Stand p l e R s m args below meth c T locs cells slots) (hx : p.tables.exec = Jvm.exec) {x y : Int64} (pc' : Nat) (hd : decode c.code pc = .ok (.lmul, 1)) (hp : pc + 1 = pc') (k : own_W p e below K T (mkF m pc' Ls (.long (x * y) :: S))) : own_W p e below K T (mkF m pc Ls (.long y :: .long x :: S)) := by subst hp; exact own_s (fun _ => XS.lmul X.here hx rfl hd rfl) k
theorem own_iand (X : Stand p l e R s m args below meth c T locs cells slots) (hx : p.tables.exec = Jvm.exec) {x y : Int32} (pc' : Nat) (hd : decode c.code pc = .ok (.iand, 1)) (hp : pc + 1 = pc') (k : own_W p e below K T (mkF m pc' Ls (.int (x &&& y) :: S))) : own_W p e below K T (mkF m pc Ls (.int y :: .int x :: S)) := by subst hp; exact own_s (fun _ => XS.iand X.here hx rfl hd rfl) k
theorem own_land (X : Stand p l e R s m args below meth c T locs cells slots) (hx : p.tables.exec = Jvm.exec) {x y : Int64} (pc' : Nat) (hd : decode c.code pc = .ok (.land, 1)) (hp : pc + 1 = pc') (k : own_W p e below K T (mkF m pc' Ls (.long (x &&& y) :: S))) : own_W p e below K T (mkF m pc Ls (.long y :: .long x :: S)) := by subst hp; exact own_s (fun _ => XS.land X.here hx rfl hd rfl) k
theorem own_ior (X : Stand p l e R s m args below meth c T locs cells slots) (hx : p.tables.exec = Jvm.exec) {x y : Int32} (pc' : Nat) (hd : decode c.code pc = .ok (.ior, 1)) (hp : pc + 1 = pc') (k : own_W p e below K T (mkF m pc' Ls (.int (x ||| y) :: S))) : own_W p e below K T (mkF m pc Ls (.int y :: .int x :: S)) := by subst hp; exact own_s (fun _ => XS.ior X.here hx rfl hd rfl) k
theorem own_lor (X : Stand p l e R s m args below meth c T locs cells slots) (hx : p.tables.exec = Jvm.exec) {x y : Int64} (pc' : Nat) (hd : decode c.code pc = .ok (.lor, 1)) (hp : pc + 1 = pc') (k : own_W p e below K T (mkF m pc' Ls (.long (x ||| y) :: S))) : own_W p e below K T (mkF m pc Ls (.long y :: .long x :: S)) := by subst hp; exact own_s (fun _ => XS.lor X.here hx rfl hd rfl) k
theorem own_ixor (X : Stand p l e R s m args below meth c T locs cells slots) (hx : p.tables.exec = Jvm.exec) {x y : Int32} (pc' : Nat) (hd : decode c.code pc = .ok (.ixor, 1)) (hp : pc + 1 = pc') (k : own_W p e below K T (mkF m pc' Ls (.int (x ^^^ y) :: S))) : own_W p e below K T (mkF m pc Ls (.int y :: .int x :: S)) := by subst hp; exact own_s (fun _ => XS.ixor X.here hx rfl hd rfl) k
theorem own_lxor (X : Stand p l e R s m args below meth c T locs cells slots) (hx : p.tables.exec = Jvm.exec) {x y : Int64} (pc' : Nat) (hd : decode c.code pc = .ok (.lxor, 1)) (hp : pc + 1 = pc') (k : own_W p e below K T (mkF m pc' Ls (.long (x ^^^ y) :: S))) : own_W p e below K T (mkF m pc Ls (.long y :: .long x :: S)) := by subst hp; exact own_s (fun _ => XS.lxor X.here hx rfl hd rfl) k
theorem own_iaddz (X : Stand p l e R s m args below meth c T locs cells slots) (hx : p.tables.exec = Jvm.exec) {x y z : Int32} (pc' : Nat) (hz : x + y = z) (hd : decode c.code pc = .ok (.iadd, 1)) (hp : pc + 1 = pc') (k : own_W p e below K T (mkF m pc' Ls (.int z :: S))) : own_W p e below K T (mkF m pc Ls (.int y :: .int x :: S)) := by subst hz; exact own_iadd X hx pc' hd hp k
theorem own_laddz (X : Stand p l e R s m args below meth c T locs cells slots) (hx : p.tables.exec = Jvm.exec) {x y z : Int64} (pc' : Nat) (hz : x + y = z) (hd : decode c.code pc = .ok (.ladd, 1)) (hp : pc + 1 = pc') (k : own_W p e below K T (mkF m pc' Ls (.long z :: S))) : own_W p e below K T (mkF m pc Ls (.long y :: .long x :: S)) := by subst hz; exact own_ladd X hx pc' hd hp k
theorem own_isubz (X : Stand p l e R s m args below meth c T locs cells slots) (hx : p.tables.exec = Jvm.exec) {x y z : Int32} (pc' : Nat) (hz : x - y = z) (hd : decode c.code pc = .ok (.isub, 1)) (hp : pc + 1 = pc') (k : own_W p e below K T (mkF m pc' Ls (.int z :: S))) : own_W p e below K T (mkF m pc Ls (.int y :: .int x :: S)) := by subst hz; exact own_isub X hx pc' hd hp k
theorem own_lsubz (X : Stand p l e R s m args below meth c T locs cells slots) (hx : p.tables.exec = Jvm.exec) {x y z : Int64} (pc' : Nat) (hz : x - y = z) (hd : decode c.code pc = .ok (.lsub, 1)) (hp : pc + 1 = pc') (k : own_W p e below K T (mkF m pc' Ls (.long z :: S))) : own_W p e below K T (mkF m pc Ls (.long y :: .long x :: S)) := by subst hz; exact own_lsub X hx pc' hd hp k
theorem own_imulz (X : Stand p l e R s m args below meth c T locs cells slots) (hx : p.tables.exec = Jvm.exec) {x y z : Int32} (pc' : Nat) (hz : x * y = z) (hd : decode c.code pc = .ok (.imul, 1)) (hp : pc + 1 = pc') (k : own_W p e below K T (mkF m pc' Ls (.int z :: S))) : own_W p e below K T (mkF m pc Ls (.int y :: .int x :: S)) := by subst hz; exact own_imul X hx pc' hd hp k
theorem own_lmulz (X : Stand p l e R s m args below meth c T locs cells slots) (hx : p.tables.exec = Jvm.exec) {x y z : Int64} (pc' : Nat) (hz : x * y = z) (hd : decode c.code pc = .ok (.lmul, 1)) (hp : pc + 1 = pc') (k : own_W p e below K T (mkF m pc' Ls (.long z :: S))) : own_W p e below K T (mkF m pc Ls (.long y :: .long x :: S)) := by subst hz; exact own_lmul X hx pc' hd hp k
theorem own_iandz (X : Stand p l e R s m args below meth c T locs cells slots) (hx : p.tables.exec = Jvm.exec) {x y z : Int32} (pc' : Nat) (hz : x &&& y = z) (hd : decode c.code pc = .ok (.iand, 1)) (hp : pc + 1 = pc') (k : own_W p e below K T (mkF m pc' Ls (.int z :: S))) : own_W p e below K T (mkF m pc Ls (.int y :: .int x :: S)) := by subst hz; exact own_iand X hx pc' hd hp k
theorem own_landz (X : Stand p l e R s m args below meth c T locs cells slots) (hx : p.tables.exec = Jvm.exec) {x y z : Int64} (pc' : Nat) (hz : x &&& y = z) (hd : decode c.code pc = .ok (.land, 1)) (hp : pc + 1 = pc') (k : own_W p e below K T (mkF m pc' Ls (.long z :: S))) : own_W p e below K T (mkF m pc Ls (.long y :: .long x :: S)) := by subst hz; exact own_land X hx pc' hd hp k
theorem own_iorz (X : Stand p l e R s m args below meth c T locs cells slots) (hx : p.tables.exec = Jvm.exec) {x y z : Int32} (pc' : Nat) (hz : x ||| y = z) (hd : decode c.code pc = .ok (.ior, 1)) (hp : pc + 1 = pc') (k : own_W p e below K T (mkF m pc' Ls (.int z :: S))) : own_W p e below K T (mkF m pc Ls (.int y :: .int x :: S)) := by subst hz; exact own_ior X hx pc' hd hp k
theorem own_lorz (X : Stand p l e R s m args below meth c T locs cells slots) (hx : p.tables.exec = Jvm.exec) {x y z : Int64} (pc' : Nat) (hz : x ||| y = z) (hd : decode c.code pc = .ok (.lor, 1)) (hp : pc + 1 = pc') (k : own_W p e below K T (mkF m pc' Ls (.long z :: S))) : own_W p e below K T (mkF m pc Ls (.long y :: .long x :: S)) := by subst hz; exact own_lor X hx pc' hd hp k
theorem own_ixorz (X : Stand p l e R s m args below meth c T locs cells slots) (hx : p.tables.exec = Jvm.exec) {x y z : Int32} (pc' : Nat) (hz : x ^^^ y = z) (hd : decode c.code pc = .ok (.ixor, 1)) (hp : pc + 1 = pc') (k : own_W p e below K T (mkF m pc' Ls (.int z :: S))) : own_W p e below K T (mkF m pc Ls (.int y :: .int x :: S)) := by subst hz; exact own_ixor X hx pc' hd hp k
theorem own_lxorz (X : Stand p l e R s m args below meth c T locs cells slots) (hx : p.tables.exec = Jvm.exec) {x y z : Int64} (pc' : Nat) (hz : x ^^^ y = z) (hd : decode c.code pc = .ok (.lxor, 1)) (hp : pc + 1 = pc') (k : own_W p e below K T (mkF m pc' Ls (.long z :: S))) : own_W p e below K T (mkF m pc Ls (.long y :: .long x :: S)) := by subst hz; exact own_lxor X hx pc' hd hp k
theorem own_ishl (X : Stand p l e R s m args below meth c T locs cells slots) (hx : p.tables.exec = Jvm.exec) {x : Int32} {y : Int32} (pc' : Nat) (hd : decode c.code pc = .ok (.ishl, 1)) (hp : pc + 1 = pc') (k : own_W p e below K T (mkF m pc' Ls (.int (x <<< (y &&& 31)) :: S))) : own_W p e below K T (mkF m pc Ls (.int y :: .int x :: S)) := by subst hp; exact own_s (fun _ => XS.ishl X.here hx rfl hd rfl) k
theorem own_ishr (X : Stand p l e R s m args below meth c T locs cells slots) (hx : p.tables.exec = Jvm.exec) {x : Int32} {y : Int32} (pc' : Nat) (hd : decode c.code pc = .ok (.ishr, 1)) (hp : pc + 1 = pc') (k : own_W p e below K T (mkF m pc' Ls (.int (x >>> (y &&& 31)) :: S))) : own_W p e below K T (mkF m pc Ls (.int y :: .int x :: S)) := by subst hp; exact own_s (fun _ => XS.ishr X.here hx rfl hd rfl) k
theorem own_iushr (X : Stand p l e R s m args below meth c T locs cells slots) (hx : p.tables.exec = Jvm.exec) {x : Int32} {y : Int32} (pc' : Nat) (hd : decode c.code pc = .ok (.iushr, 1)) (hp : pc + 1 = pc') (k : own_W p e below K T (mkF m pc' Ls (.int ((x.toUInt32 >>> (y &&& 31).toUInt32).toInt32) :: S))) : own_W p e below K T (mkF m pc Ls (.int y :: .int x :: S)) := by subst hp; exact own_s (fun _ => XS.iushr X.here hx rfl hd rfl) k
theorem own_lshl (X : Stand p l e R s m args below meth c T locs cells slots) (hx : p.tables.exec = Jvm.exec) {x : Int64} {y : Int32} (pc' : Nat) (hd : decode c.code pc = .ok (.lshl, 1)) (hp : pc + 1 = pc') (k : own_W p e below K T (mkF m pc' Ls (.long (x <<< (y &&& 0x3f).toInt64) :: S))) : own_W p e below K T (mkF m pc Ls (.int y :: .long x :: S)) := by subst hp; exact own_s (fun _ => XS.lshl X.here hx rfl hd rfl) k
theorem own_lshr (X : Stand p l e R s m args below meth c T locs cells slots) (hx : p.tables.exec = Jvm.exec) {x : Int64} {y : Int32} (pc' : Nat) (hd : decode c.code pc = .ok (.lshr, 1)) (hp : pc + 1 = pc') (k : own_W p e below K T (mkF m pc' Ls (.long (x >>> (y &&& 0x3f).toInt64) :: S))) : own_W p e below K T (mkF m pc Ls (.int y :: .long x :: S)) := by subst hp; exact own_s (fun _ => XS.lshr X.here hx rfl hd rfl) k
theorem own_lushr (X : Stand p l e R s m args below meth c T locs cells slots) (hx : p.tables.exec = Jvm.exec) {x : Int64} {y : Int32} (pc' : Nat) (hd : decode c.code pc = .ok (.lushr, 1)) (hp : pc + 1 = pc') (k : own_W p e below K T (mkF m pc' Ls (.long ((x.toUInt64 >>> (y &&& 0x3f).toInt64.toUInt64).toInt64) :: S))) : own_W p e below K T (mkF m pc Ls (.int y :: .long x :: S)) := by subst hp; exact own_s (fun _ => XS.lushr X.here hx rfl hd rfl) k
theorem own_ineg (X : Stand p l e R s m args below meth c T locs cells slots) (hx : p.tables.exec = Jvm.exec) {x : Int32} (pc' : Nat) (hd : decode c.code pc = .ok (.ineg, 1)) (hp : pc + 1 = pc') (k : own_W p e below K T (mkF m pc' Ls (.int ((-x)) :: S))) : own_W p e below K T (mkF m pc Ls (.int x :: S)) := by subst hp; exact own_s (fun _ => XS.ineg X.here hx rfl hd rfl) k
theorem own_lneg (X : Stand p l e R s m args below meth c T locs cells slots) (hx : p.tables.exec = Jvm.exec) {x : Int64} (pc' : Nat) (hd : decode c.code pc = .ok (.lneg, 1)) (hp : pc + 1 = pc') (k : own_W p e below K T (mkF m pc' Ls (.long ((-x)) :: S))) : own_W p e below K T (mkF m pc Ls (.long x :: S)) := by subst hp; exact own_s (fun _ => XS.lneg X.here hx rfl hd rfl) k
theorem own_i2l (X : Stand p l e R s m args below meth c T locs cells slots) (hx : p.tables.exec = Jvm.exec) {x : Int32} (pc' : Nat) (hd : decode c.code pc = .ok (.i2l, 1)) (hp : pc + 1 = pc') (k : own_W p e below K T (mkF m pc' Ls (.long (x.toInt64) :: S))) : own_W p e below K T (mkF m pc Ls (.int x :: S)) := by subst hp; exact own_s (fun _ => XS.i2l X.here hx rfl hd rfl) k
theorem own_l2i (X : Stand p l e R s m args below meth c T locs cells slots) (hx : p.tables.exec = Jvm.exec) {x : Int64} (pc' : Nat) (hd : decode c.code pc = .ok (.l2i, 1)) (hp : pc + 1 = pc') (k : own_W p e below K T (mkF m pc' Ls (.int (x.toInt32) :: S))) : own_W p e below K T (mkF m pc Ls (.long x :: S)) := by subst hp; exact own_s (fun _ => XS.l2i X.here hx rfl hd rfl) k
theorem own_i2b (X : Stand p l e R s m args below meth c T locs cells slots) (hx : p.tables.exec = Jvm.exec) {x : Int32} (pc' : Nat) (hd : decode c.code pc = .ok (.i2b, 1)) (hp : pc + 1 = pc') (k : own_W p e below K T (mkF m pc' Ls (.int (x.toInt8.toInt32) :: S))) : own_W p e below K T (mkF m pc Ls (.int x :: S)) := by subst hp; exact own_s (fun _ => XS.i2b X.here hx rfl hd rfl) k
theorem own_i2s (X : Stand p l e R s m args below meth c T locs cells slots) (hx : p.tables.exec = Jvm.exec) {x : Int32} (pc' : Nat) (hd : decode c.code pc = .ok (.i2s, 1)) (hp : pc + 1 = pc') (k : own_W p e below K T (mkF m pc' Ls (.int (x.toInt16.toInt32) :: S))) : own_W p e below K T (mkF m pc Ls (.int x :: S)) := by subst hp; exact own_s (fun _ => XS.i2s X.here hx rfl hd rfl) k
theorem own_i2c (X : Stand p l e R s m args below meth c T locs cells slots) (hx : p.tables.exec = Jvm.exec) {x : Int32} (pc' : Nat) (hd : decode c.code pc = .ok (.i2c, 1)) (hp : pc + 1 = pc') (k : own_W p e below K T (mkF m pc' Ls (.int (x.toUInt32.toUInt16.toUInt32.toInt32) :: S))) : own_W p e below K T (mkF m pc Ls (.int x :: S)) := by subst hp; exact own_s (fun _ => XS.i2c X.here hx rfl hd rfl) k
theorem own_i2lz (X : Stand p l e R s m args below meth c T locs cells slots) (hx : p.tables.exec = Jvm.exec) {x : Int32} {z : Int64} (pc' : Nat) (hz : x.toInt64 = z) (hd : decode c.code pc = .ok (.i2l, 1)) (hp : pc + 1 = pc') (k : own_W p e below K T (mkF m pc' Ls (.long z :: S))) : own_W p e below K T (mkF m pc Ls (.int x :: S)) := by subst hz; exact own_i2l X hx pc' hd hp k
theorem own_l2iz (X : Stand p l e R s m args below meth c T locs cells slots) (hx : p.tables.exec = Jvm.exec) {x : Int64} {z : Int32} (pc' : Nat) (hz : x.toInt32 = z) (hd : decode c.code pc = .ok (.l2i, 1)) (hp : pc + 1 = pc') (k : own_W p e below K T (mkF m pc' Ls (.int z :: S))) : own_W p e below K T (mkF m pc Ls (.long x :: S)) := by subst hz; exact own_l2i X hx pc' hd hp k
theorem own_idiv (X : Stand p l e R s m args below meth c T locs cells slots) (hx : p.tables.exec = Jvm.exec) {x y : Int32} (pc' : Nat) (hy : y ≠ 0) (hd : decode c.code pc = .ok (.idiv, 1)) (hp : pc + 1 = pc') (k : own_W p e below K T (mkF m pc' Ls (.int (x / y) :: S))) : own_W p e below K T (mkF m pc Ls (.int y :: .int x :: S)) := by subst hp; exact own_s (fun _ => XS.idiv X.here hx rfl hd rfl hy) k
theorem own_irem (X : Stand p l e R s m args below meth c T locs cells slots) (hx : p.tables.exec = Jvm.exec) {x y : Int32} (pc' : Nat) (hy : y ≠ 0) (hd : decode c.code pc = .ok (.irem, 1)) (hp : pc + 1 = pc') (k : own_W p e below K T (mkF m pc' Ls (.int (x % y) :: S))) : own_W p e below K T (mkF m pc Ls (.int y :: .int x :: S)) := by subst hp; exact own_s (fun _ => iremM X hx rfl hd rfl hy) k
theorem own_ldiv (X : Stand p l e R s m args below meth c T locs cells slots) (hx : p.tables.exec = Jvm.exec) {x y : Int64} (pc' : Nat) (hy : y ≠ 0) (hd : decode c.code pc = .ok (.ldiv, 1)) (hp : pc + 1 = pc') (k : own_W p e below K T (mkF m pc' Ls (.long (x / y) :: S))) : own_W p e below K T (mkF m pc Ls (.long y :: .long x :: S)) := by subst hp; exact own_s (fun _ => XS.ldiv X.here hx rfl hd rfl hy) k
theorem own_lrem (X : Stand p l e R s m args below meth c T locs cells slots) (hx : p.tables.exec = Jvm.exec) {x y : Int64} (pc' : Nat) (hy : y ≠ 0) (hd : decode c.code pc = .ok (.lrem, 1)) (hp : pc + 1 = pc') (k : own_W p e below K T (mkF m pc' Ls (.long (x % y) :: S))) : own_W p e below K T (mkF m pc Ls (.long y :: .long x :: S)) := by subst hp; rw [← lrem_mod] at k; exact own_s (fun _ => XS.lrem X.here hx rfl hd rfl hy) k
theorem own_icmp (X : Stand p l e R s m args below meth c T locs cells slots) (hx : p.tables.exec = Jvm.exec) {cd : ClassFile.Cond} {x y : Int32} {o : Int} (pcT pcF : Nat) (P : Prop) [Decidable P] (hT : P → if_icmp.holds cd x y = true) (hF : ¬ P → if_icmp.holds cd x y = false) (hd : decode c.code pc = .ok (.if_icmp cd o, 3)) (ho : 0 ≤ (pc : Int) + o) (hp : ((pc : Int) + o).toNat = pcT) (hp' : pc + 3 = pcF)
    (kT : P → own_W p e below K T (mkF m pcT Ls S)) (kF : ¬ P → own_W p e below K T (mkF m pcF Ls S)) : own_W p e below K T (mkF m pc Ls (.int y :: .int x :: S)) := by
  subst hp'
  by_cases q : P
  · exact own_s (fun _ => XS.icmpYes X.here hx (g := mkF m pc Ls (.int y :: .int x :: S)) rfl rfl hd rfl (hT q) ho hp) (kT q)
  · exact own_s (fun _ => XS.icmpNo X.here hx (g := mkF m pc Ls (.int y :: .int x :: S)) rfl hd rfl (hF q)) (kF q)
theorem own_if (X : Stand p l e R s m args below meth c T locs cells slots) (hx : p.tables.exec = Jvm.exec) {cd : ClassFile.Cond} {x : Int32} {o : Int} (pcT pcF : Nat) (P : Prop) [Decidable P] (hT : P → if_icmp.holds cd x 0 = true) (hF : ¬ P → if_icmp.holds cd x 0 = false) (hd : decode c.code pc = .ok (.ifCond cd o, 3)) (ho : 0 ≤ (pc : Int) + o) (hp : ((pc : Int) + o).toNat = pcT) (hp' : pc + 3 = pcF)
    (kT : P → own_W p e below K T (mkF m pcT Ls S)) (kF : ¬ P → own_W p e below K T (mkF m pcF Ls S)) : own_W p e below K T (mkF m pc Ls (.int x :: S)) := by
  subst hp'
  by_cases q : P
  · exact own_s (fun _ => XS.ifYes X.here hx (g := mkF m pc Ls (.int x :: S)) rfl rfl hd rfl ((if0 cd x).trans (hT q)) ho hp) (kT q)
  · exact own_s (fun _ => XS.ifNo X.here hx (g := mkF m pc Ls (.int x :: S)) rfl hd rfl ((if0 cd x).trans (hF q))) (kF q)
theorem own_lcmp (X : Stand p l e R s m args below meth c T locs cells slots) (hx : p.tables.exec = Jvm.exec) {x y : Int64} (pc' : Nat) (hd : decode c.code pc = .ok (.lcmp, 1)) (hp : pc + 1 = pc') (k : own_W p e below K T (mkF m pc' Ls (.int (lcmpW x y) :: S))) : own_W p e below K T (mkF m pc Ls (.long y :: .long x :: S)) := by subst hp; exact own_s (fun _ => XS.lcmp X.here hx rfl hd rfl) k
theorem own_icmp_lt (X : Stand p l e R s m args below meth c T locs cells slots) (hx : p.tables.exec = Jvm.exec) {x y : Int32} {o : Int} (pcT pcF : Nat) (hd : decode c.code pc = .ok (.if_icmp .lt o, 3)) (ho : 0 ≤ (pc : Int) + o) (hp : ((pc : Int) + o).toNat = pcT) (hp' : pc + 3 = pcF) (kT : x < y → own_W p e below K T (mkF m pcT Ls S)) (kF : ¬ x < y → own_W p e below K T (mkF m pcF Ls S)) : own_W p e below K T (mkF m pc Ls (.int y :: .int x :: S)) := own_icmp X hx pcT pcF (x < y) (fun q => (tlt q).1) (fun q => (flt q).1) hd ho hp hp' kT kF
theorem own_if_lt (X : Stand p l e R s m args below meth c T locs cells slots) (hx : p.tables.exec = Jvm.exec) {x : Int32} {o : Int} (pcT pcF : Nat) (hd : decode c.code pc = .ok (.ifCond .lt o, 3)) (ho : 0 ≤ (pc : Int) + o) (hp : ((pc : Int) + o).toNat = pcT) (hp' : pc + 3 = pcF) (kT : x < 0 → own_W p e below K T (mkF m pcT Ls S)) (kF : ¬ x < 0 → own_W p e below K T (mkF m pcF Ls S)) : own_W p e below K T (mkF m pc Ls (.int x :: S)) := own_if X hx pcT pcF (x < 0) (fun q => (tlt q).1) (fun q => (flt q).1) hd ho hp hp' kT kF
theorem own_lif_lt (X : Stand p l e R s m args below meth c T locs cells slots) (hx : p.tables.exec = Jvm.exec) {x y : Int64} {o : Int} (pc1 pcT pcF : Nat) (hd1 : decode c.code pc = .ok (.lcmp, 1)) (hp1 : pc + 1 = pc1) (hd : decode c.code pc1 = .ok (.ifCond .lt o, 3)) (ho : 0 ≤ (pc1 : Int) + o) (hp : ((pc1 : Int) + o).toNat = pcT) (hp' : pc1 + 3 = pcF) (kT : x < y → own_W p e below K T (mkF m pcT Ls S)) (kF : ¬ x < y → own_W p e below K T (mkF m pcF Ls S)) : own_W p e below K T (mkF m pc Ls (.long y :: .long x :: S)) := own_lcmp X hx pc1 hd1 hp1 (own_if_lt X hx pcT pcF hd ho hp hp' (fun q => kT ((lw_lt x y).mp q)) (fun q => kF (fun r => q ((lw_lt x y).mpr r))))
theorem own_icmp_ge (X : Stand p l e R s m args below meth c T locs cells slots) (hx : p.tables.exec = Jvm.exec) {x y : Int32} {o : Int} (pcT pcF : Nat) (hd : decode c.code pc = .ok (.if_icmp .ge o, 3)) (ho : 0 ≤ (pc : Int) + o) (hp : ((pc : Int) + o).toNat = pcT) (hp' : pc + 3 = pcF) (kT : ¬ x < y → own_W p e below K T (mkF m pcT Ls S)) (kF : x < y → own_W p e below K T (mkF m pcF Ls S)) : own_W p e below K T (mkF m pc Ls (.int y :: .int x :: S)) := own_icmp X hx pcT pcF (¬ x < y) (fun q => (flt q).2.1) (fun q => (tlt (Decidable.not_not.mp q)).2.1) hd ho hp hp' kT (fun q => kF (Decidable.not_not.mp q))
theorem own_if_ge (X : Stand p l e R s m args below meth c T locs cells slots) (hx : p.tables.exec = Jvm.exec) {x : Int32} {o : Int} (pcT pcF : Nat) (hd : decode c.code pc = .ok (.ifCond .ge o, 3)) (ho : 0 ≤ (pc : Int) + o) (hp : ((pc : Int) + o).toNat = pcT) (hp' : pc + 3 = pcF) (kT : ¬ x < 0 → own_W p e below K T (mkF m pcT Ls S)) (kF : x < 0 → own_W p e below K T (mkF m pcF Ls S)) : own_W p e below K T (mkF m pc Ls (.int x :: S)) := own_if X hx pcT pcF (¬ x < 0) (fun q => (flt q).2.1) (fun q => (tlt (Decidable.not_not.mp q)).2.1) hd ho hp hp' kT (fun q => kF (Decidable.not_not.mp q))
theorem own_lif_ge (X : Stand p l e R s m args below meth c T locs cells slots) (hx : p.tables.exec = Jvm.exec) {x y : Int64} {o : Int} (pc1 pcT pcF : Nat) (hd1 : decode c.code pc = .ok (.lcmp, 1)) (hp1 : pc + 1 = pc1) (hd : decode c.code pc1 = .ok (.ifCond .ge o, 3)) (ho : 0 ≤ (pc1 : Int) + o) (hp : ((pc1 : Int) + o).toNat = pcT) (hp' : pc1 + 3 = pcF) (kT : ¬ x < y → own_W p e below K T (mkF m pcT Ls S)) (kF : x < y → own_W p e below K T (mkF m pcF Ls S)) : own_W p e below K T (mkF m pc Ls (.long y :: .long x :: S)) := own_lcmp X hx pc1 hd1 hp1 (own_if_ge X hx pcT pcF hd ho hp hp' (fun q => kT (fun r => q ((lw_lt x y).mpr r))) (fun q => kF ((lw_lt x y).mp q)))
theorem own_icmp_gt (X : Stand p l e R s m args below meth c T locs cells slots) (hx : p.tables.exec = Jvm.exec) {x y : Int32} {o : Int} (pcT pcF : Nat) (hd : decode c.code pc = .ok (.if_icmp .gt o, 3)) (ho : 0 ≤ (pc : Int) + o) (hp : ((pc : Int) + o).toNat = pcT) (hp' : pc + 3 = pcF) (kT : y < x → own_W p e below K T (mkF m pcT Ls S)) (kF : ¬ y < x → own_W p e below K T (mkF m pcF Ls S)) : own_W p e below K T (mkF m pc Ls (.int y :: .int x :: S)) := own_icmp X hx pcT pcF (y < x) (fun q => (tlt q).2.2.1) (fun q => (flt q).2.2.1) hd ho hp hp' kT kF
theorem own_if_gt (X : Stand p l e R s m args below meth c T locs cells slots) (hx : p.tables.exec = Jvm.exec) {x : Int32} {o : Int} (pcT pcF : Nat) (hd : decode c.code pc = .ok (.ifCond .gt o, 3)) (ho : 0 ≤ (pc : Int) + o) (hp : ((pc : Int) + o).toNat = pcT) (hp' : pc + 3 = pcF) (kT : 0 < x → own_W p e below K T (mkF m pcT Ls S)) (kF : ¬ 0 < x → own_W p e below K T (mkF m pcF Ls S)) : own_W p e below K T (mkF m pc Ls (.int x :: S)) := own_if X hx pcT pcF (0 < x) (fun q => (tlt q).2.2.1) (fun q => (flt q).2.2.1) hd ho hp hp' kT kF
theorem own_lif_gt (X : Stand p l e R s m args below meth c T locs cells slots) (hx : p.tables.exec = Jvm.exec) {x y : Int64} {o : Int} (pc1 pcT pcF : Nat) (hd1 : decode c.code pc = .ok (.lcmp, 1)) (hp1 : pc + 1 = pc1) (hd : decode c.code pc1 = .ok (.ifCond .gt o, 3)) (ho : 0 ≤ (pc1 : Int) + o) (hp : ((pc1 : Int) + o).toNat = pcT) (hp' : pc1 + 3 = pcF) (kT : y < x → own_W p e below K T (mkF m pcT Ls S)) (kF : ¬ y < x → own_W p e below K T (mkF m pcF Ls S)) : own_W p e below K T (mkF m pc Ls (.long y :: .long x :: S)) := own_lcmp X hx pc1 hd1 hp1 (own_if_gt X hx pcT pcF hd ho hp hp' (fun q => kT ((lw_gt x y).mp q)) (fun q => kF (fun r => q ((lw_gt x y).mpr r))))
theorem own_icmp_le (X : Stand p l e R s m args below meth c T locs cells slots) (hx : p.tables.exec = Jvm.exec) {x y : Int32} {o : Int} (pcT pcF : Nat) (hd : decode c.code pc = .ok (.if_icmp .le o, 3)) (ho : 0 ≤ (pc : Int) + o) (hp : ((pc : Int) + o).toNat = pcT) (hp' : pc + 3 = pcF) (kT : ¬ y < x → own_W p e below K T (mkF m pcT Ls S)) (kF : y < x → own_W p e below K T (mkF m pcF Ls S)) : own_W p e below K T (mkF m pc Ls (.int y :: .int x :: S)) := own_icmp X hx pcT pcF (¬ y < x) (fun q => (flt q).2.2.2) (fun q => (tlt (Decidable.not_not.mp q)).2.2.2) hd ho hp hp' kT (fun q => kF (Decidable.not_not.mp q))
theorem own_if_le (X : Stand p l e R s m args below meth c T locs cells slots) (hx : p.tables.exec = Jvm.exec) {x : Int32} {o : Int} (pcT pcF : Nat) (hd : decode c.code pc = .ok (.ifCond .le o, 3)) (ho : 0 ≤ (pc : Int) + o) (hp : ((pc : Int) + o).toNat = pcT) (hp' : pc + 3 = pcF) (kT : ¬ 0 < x → own_W p e below K T (mkF m pcT Ls S)) (kF : 0 < x → own_W p e below K T (mkF m pcF Ls S)) : own_W p e below K T (mkF m pc Ls (.int x :: S)) := own_if X hx pcT pcF (¬ 0 < x) (fun q => (flt q).2.2.2) (fun q => (tlt (Decidable.not_not.mp q)).2.2.2) hd ho hp hp' kT (fun q => kF (Decidable.not_not.mp q))
theorem own_lif_le (X : Stand p l e R s m args below meth c T locs cells slots) (hx : p.tables.exec = Jvm.exec) {x y : Int64} {o : Int} (pc1 pcT pcF : Nat) (hd1 : decode c.code pc = .ok (.lcmp, 1)) (hp1 : pc + 1 = pc1) (hd : decode c.code pc1 = .ok (.ifCond .le o, 3)) (ho : 0 ≤ (pc1 : Int) + o) (hp : ((pc1 : Int) + o).toNat = pcT) (hp' : pc1 + 3 = pcF) (kT : ¬ y < x → own_W p e below K T (mkF m pcT Ls S)) (kF : y < x → own_W p e below K T (mkF m pcF Ls S)) : own_W p e below K T (mkF m pc Ls (.long y :: .long x :: S)) := own_lcmp X hx pc1 hd1 hp1 (own_if_le X hx pcT pcF hd ho hp hp' (fun q => kT (fun r => q ((lw_gt x y).mpr r))) (fun q => kF ((lw_gt x y).mp q)))
theorem own_icmp_eq (X : Stand p l e R s m args below meth c T locs cells slots) (hx : p.tables.exec = Jvm.exec) {x y : Int32} {o : Int} (pcT pcF : Nat) (hd : decode c.code pc = .ok (.if_icmp .eq o, 3)) (ho : 0 ≤ (pc : Int) + o) (hp : ((pc : Int) + o).toNat = pcT) (hp' : pc + 3 = pcF) (kT : x = y → own_W p e below K T (mkF m pcT Ls S)) (kF : ¬ x = y → own_W p e below K T (mkF m pcF Ls S)) : own_W p e below K T (mkF m pc Ls (.int y :: .int x :: S)) := own_icmp X hx pcT pcF (x = y) (fun q => (teq q).1) (fun q => (feq q).1) hd ho hp hp' kT kF
theorem own_if_eq (X : Stand p l e R s m args below meth c T locs cells slots) (hx : p.tables.exec = Jvm.exec) {x : Int32} {o : Int} (pcT pcF : Nat) (hd : decode c.code pc = .ok (.ifCond .eq o, 3)) (ho : 0 ≤ (pc : Int) + o) (hp : ((pc : Int) + o).toNat = pcT) (hp' : pc + 3 = pcF) (kT : x = 0 → own_W p e below K T (mkF m pcT Ls S)) (kF : ¬ x = 0 → own_W p e below K T (mkF m pcF Ls S)) : own_W p e below K T (mkF m pc Ls (.int x :: S)) := own_if X hx pcT pcF (x = 0) (fun q => (teq q).1) (fun q => (feq q).1) hd ho hp hp' kT kF
theorem own_lif_eq (X : Stand p l e R s m args below meth c T locs cells slots) (hx : p.tables.exec = Jvm.exec) {x y : Int64} {o : Int} (pc1 pcT pcF : Nat) (hd1 : decode c.code pc = .ok (.lcmp, 1)) (hp1 : pc + 1 = pc1) (hd : decode c.code pc1 = .ok (.ifCond .eq o, 3)) (ho : 0 ≤ (pc1 : Int) + o) (hp : ((pc1 : Int) + o).toNat = pcT) (hp' : pc1 + 3 = pcF) (kT : x = y → own_W p e below K T (mkF m pcT Ls S)) (kF : ¬ x = y → own_W p e below K T (mkF m pcF Ls S)) : own_W p e below K T (mkF m pc Ls (.long y :: .long x :: S)) := own_lcmp X hx pc1 hd1 hp1 (own_if_eq X hx pcT pcF hd ho hp hp' (fun q => kT ((lw_eq x y).mp q)) (fun q => kF (fun r => q ((lw_eq x y).mpr r))))
theorem own_icmp_ne (X : Stand p l e R s m args below meth c T locs cells slots) (hx : p.tables.exec = Jvm.exec) {x y : Int32} {o : Int} (pcT pcF : Nat) (hd : decode c.code pc = .ok (.if_icmp .ne o, 3)) (ho : 0 ≤ (pc : Int) + o) (hp : ((pc : Int) + o).toNat = pcT) (hp' : pc + 3 = pcF) (kT : ¬ x = y → own_W p e below K T (mkF m pcT Ls S)) (kF : x = y → own_W p e below K T (mkF m pcF Ls S)) : own_W p e below K T (mkF m pc Ls (.int y :: .int x :: S)) := own_icmp X hx pcT pcF (¬ x = y) (fun q => (feq q).2) (fun q => (teq (Decidable.not_not.mp q)).2) hd ho hp hp' kT (fun q => kF (Decidable.not_not.mp q))
theorem own_if_ne (X : Stand p l e R s m args below meth c T locs cells slots) (hx : p.tables.exec = Jvm.exec) {x : Int32} {o : Int} (pcT pcF : Nat) (hd : decode c.code pc = .ok (.ifCond .ne o, 3)) (ho : 0 ≤ (pc : Int) + o) (hp : ((pc : Int) + o).toNat = pcT) (hp' : pc + 3 = pcF) (kT : ¬ x = 0 → own_W p e below K T (mkF m pcT Ls S)) (kF : x = 0 → own_W p e below K T (mkF m pcF Ls S)) : own_W p e below K T (mkF m pc Ls (.int x :: S)) := own_if X hx pcT pcF (¬ x = 0) (fun q => (feq q).2) (fun q => (teq (Decidable.not_not.mp q)).2) hd ho hp hp' kT (fun q => kF (Decidable.not_not.mp q))
theorem own_lif_ne (X : Stand p l e R s m args below meth c T locs cells slots) (hx : p.tables.exec = Jvm.exec) {x y : Int64} {o : Int} (pc1 pcT pcF : Nat) (hd1 : decode c.code pc = .ok (.lcmp, 1)) (hp1 : pc + 1 = pc1) (hd : decode c.code pc1 = .ok (.ifCond .ne o, 3)) (ho : 0 ≤ (pc1 : Int) + o) (hp : ((pc1 : Int) + o).toNat = pcT) (hp' : pc1 + 3 = pcF) (kT : ¬ x = y → own_W p e below K T (mkF m pcT Ls S)) (kF : x = y → own_W p e below K T (mkF m pcF Ls S)) : own_W p e below K T (mkF m pc Ls (.long y :: .long x :: S)) := own_lcmp X hx pc1 hd1 hp1 (own_if_ne X hx pcT pcF hd ho hp hp' (fun q => kT (fun r => q ((lw_eq x y).mpr r))) (fun q => kF ((lw_eq x y).mp q)))
end Plain
section Rets
theorem own_retI (X : Stand p l e R s m args below meth c T locs cells slots) (hx : p.tables.exec = Jvm.exec) {z : Int32} (hret : meth.sig.returnType = some .int) (hlk : meth.locks = false) (hd : decode c.code pc = .ok (.ireturn, 1)) (hc : cells ≤ R.cells) (hl : slots ≤ R.slots) (q : Q (some (.int z)) T.heap locs) : own_W p e below (own_K s R Q) T (mkF m pc Ls (.int z :: S)) := by
  obtain ⟨fs, hr, hrun, hended, hW, hsame⟩ := X.leave (v := some (.int z)) (fun h => by rw [hret] at h; cases h) hlk
  exact ⟨_, _, retI X hx hret hd hr, hrun, hended, _, _, rfl, q, ⟨_, rfl⟩, hW, hsame.mono hc hl⟩
theorem own_retZ (X : Stand p l e R s m args below meth c T locs cells slots) (hx : p.tables.exec = Jvm.exec) {z : Int32} (z' : Int32) (hz : z &&& 1 = z') (hret : meth.sig.returnType = some .boolean) (hlk : meth.locks = false) (hd : decode c.code pc = .ok (.ireturn, 1)) (hc : cells ≤ R.cells) (hl : slots ≤ R.slots) (q : Q (some (.int z')) T.heap locs) : own_W p e below (own_K s R Q) T (mkF m pc Ls (.int z :: S)) := by
  subst hz
  obtain ⟨fs, hr, hrun, hended, hW, hsame⟩ := X.leave (v := some (.int (nar .boolean z))) (fun h => by rw [hret] at h; cases h) hlk
  exact ⟨_, _, retN X hx (t := .boolean) hret (by simp) hd hr, hrun, hended, _, _, rfl, q, ⟨_, rfl⟩, hW, hsame.mono hc hl⟩
theorem own_retJ (X : Stand p l e R s m args below meth c T locs cells slots) (hx : p.tables.exec = Jvm.exec) {z : Int64} (hret : meth.sig.returnType = some .long) (hlk : meth.locks = false) (hd : decode c.code pc = .ok (.lreturn, 1)) (hc : cells ≤ R.cells) (hl : slots ≤ R.slots) (q : Q (some (.long z)) T.heap locs) : own_W p e below (own_K s R Q) T (mkF m pc Ls [.long z]) := by
  obtain ⟨fs, hr, hrun, hended, hW, hsame⟩ := X.leave (v := some (.long z)) (fun h => by rw [hret] at h; cases h) hlk
  exact ⟨_, _, X.lreturnOut hx hret hd hr, hrun, hended, _, _, rfl, q, ⟨_, rfl⟩, hW, hsame.mono hc hl⟩
theorem own_retA (X : Stand p l e R s m args below meth c T locs cells slots) (hx : p.tables.exec = Jvm.exec) {z : Addr} {t : FieldType} (hret : meth.sig.returnType = some t) (ht : t.isReference = true) (hlk : meth.locks = false) (hd : decode c.code pc = .ok (.areturn, 1)) (hc : cells ≤ R.cells) (hl : slots ≤ R.slots) (q : Q (some (.ref z)) T.heap locs) : own_W p e below (own_K s R Q) T (mkF m pc Ls [.ref z]) := by
  obtain ⟨fs, hr, hrun, hended, hW, hsame⟩ := X.leave (v := some (.ref z)) (fun h => by rw [hret] at h; cases h) hlk
  exact ⟨_, _, X.areturnOut hx rfl hret ht hd hr, hrun, hended, _, _, rfl, q, ⟨_, rfl⟩, hW, hsame.mono hc hl⟩
theorem own_retV (X : Stand p l e R s m args below meth c T locs cells slots) (hx : p.tables.exec = Jvm.exec) (hret : meth.sig.returnType = none) (hlk : meth.locks = false) (hd : decode c.code pc = .ok (.return_, 1)) (hc : cells ≤ R.cells) (hl : slots ≤ R.slots) (q : Q none T.heap locs) : own_W p e below (own_K s R Q) T (mkF m pc Ls []) := by
  obtain ⟨fs, hr, hrun, hended, hW, hsame⟩ := X.leave (v := none) (fun _ => rfl) hlk
  exact ⟨_, _, X.returnOut hx hret hd hr, hrun, hended, _, _, rfl, q, ⟨_, rfl⟩, hW, hsame.mono hc hl⟩
end Rets
section Heaps
theorem own_getF (X : Stand p l e R s m args below meth c T locs cells slots) (hx : p.tables.exec = Jvm.exec) (hZ : Z.Warmed39 s.vm) (hown : s.vm.findClass own = some m.cls) (eT : T.heap = h) {O n d : String} {a : Addr} {v : Value} (pc' : Nat) (w : (Jvm.Cond.fieldLink own index O n d).before a0 Z = true) (F : Fld Z h a O n d v) (hd : decode c.code pc = .ok (.getfield index, 3)) (hp : pc + 3 = pc')
    (k : ∀ T', Stand p l e R s m args below meth c T' locs cells slots → T'.heap = h → own_W p e below K T' (mkF m pc' Ls (v :: S))) : own_W p e below K T (mkF m pc Ls (.ref a :: S)) := by
  subst hp
  obtain ⟨T', X', e', st⟩ := getF X hx hZ hown (host := "") (Or.inl w) Via.refl eT F (g := mkF m pc Ls (.ref a :: S)) rfl rfl hd
  exact own_s st (k T' X' e')
theorem own_putF (X : Stand p l e R s m args below meth c T locs cells slots) (hx : p.tables.exec = Jvm.exec) (hZ : Z.Warmed39 s.vm) (hown : s.vm.findClass own = some m.cls) (eT : T.heap = h) {O n d C : String} {a : Addr} {v old : Value} {kk : Nat} {ty : FieldType} (pc' : Nat) (w : (Jvm.Cond.fieldLink own index O n d).before a0 Z = true) (F : Fld Z h a O n d old) (E : Exa Z h a C) (L : (Jvm.Cond.lays C O n d).before a0 Z = true ∨ ((Jvm.Cond.laysFinal C O n d).before a0 Z = true ∧ own = O ∧ meth.name = "<init>")) (wi : (Jvm.Cond.instantiable C kk).before a0 Z = true)
    (hty : parseFieldDescriptor d = some ty) (hn : narrow ty v = v) (hf : fits ty v = true) (hd : decode c.code pc = .ok (.putfield index, 3)) (hp : pc + 3 = pc')
    (k : ∀ T' h', Stand p l e R s m args below meth c T' (locs ++ [⟨a, Jvm.RoadKit.slotOf Z O n d⟩]) cells slots → T'.heap = h' → Wr h h' a (Jvm.RoadKit.slotOf Z O n d) v → own_W p e below K T' (mkF m pc' Ls S)) : own_W p e below K T (mkF m pc Ls (v :: .ref a :: S)) := by
  subst hp
  obtain ⟨T', h', X', e', W, st⟩ := putF X hx hZ hown (host := "") (Or.inl w) Via.refl eT F E L wi hty hn hf (g := mkF m pc Ls (v :: .ref a :: S)) rfl rfl hd
  exact own_s st (k T' h' X' e' W)
theorem own_putZ (X : Stand p l e R s m args below meth c T locs cells slots) (hx : p.tables.exec = Jvm.exec) (hZ : Z.Warmed39 s.vm) (hown : s.vm.findClass own = some m.cls) (eT : T.heap = h) {O n d C : String} {a : Addr} {v : Int32} {old : Value} {kk : Nat} (pc' : Nat) (w : (Jvm.Cond.fieldLink own index O n d).before a0 Z = true) (F : Fld Z h a O n d old) (E : Exa Z h a C) (L : (Jvm.Cond.lays C O n d).before a0 Z = true ∨ ((Jvm.Cond.laysFinal C O n d).before a0 Z = true ∧ own = O ∧ meth.name = "<init>")) (wi : (Jvm.Cond.instantiable C kk).before a0 Z = true)
    (hty : parseFieldDescriptor d = some .boolean) (hd : decode c.code pc = .ok (.putfield index, 3)) (hp : pc + 3 = pc')
    (k : ∀ T' h', Stand p l e R s m args below meth c T' (locs ++ [⟨a, Jvm.RoadKit.slotOf Z O n d⟩]) cells slots → T'.heap = h' → Wr h h' a (Jvm.RoadKit.slotOf Z O n d) (.int (v &&& 1)) → own_W p e below K T' (mkF m pc' Ls S)) : own_W p e below K T (mkF m pc Ls (.int v :: .ref a :: S)) := by
  subst hp
  obtain ⟨T', h', X', e', W, st⟩ := putFN X hx hZ hown w Via.refl eT F E L wi (ty := .boolean) (v' := .int (nar .boolean v)) hty rfl (fits_nar_bool _) (g := mkF m pc Ls (.int v :: .ref a :: S)) rfl rfl hd
  exact own_s st (k T' h' X' e' W)
theorem own_new (X : Stand p l e R s m args below meth c T locs cells slots) (hx : p.tables.exec = Jvm.exec) (hZ : Z.Warmed39 s.vm) (hown : s.vm.findClass own = some m.cls) (eT : T.heap = h) {C : String} {n : Nat} (pc' : Nat) (w : (Jvm.Cond.classLink own index C).before a0 Z = true) (wi : (Jvm.Cond.instantiable C n).before a0 Z = true) (wz : (Jvm.Cond.initialized C).before a0 Z = true) (hd : decode c.code pc = .ok (.new index, 3)) (hp : pc + 3 = pc') (hc : cells + 1 ≤ R.cells) (hl : slots + n ≤ R.slots)
    (k : ∀ T' h' a, Stand p l e R s m args below meth c T' locs (cells + 1) (slots + n) → T'.heap = h' → a = h.size → Ext h h' → Exa Z h' a C → (∀ {O nm d : String} {ty : FieldType}, Laid Z a0 C O nm d → parseFieldDescriptor d = some ty → Fld Z h' a O nm d (defaultValue ty)) → own_W p e below K T' (mkF m pc' Ls (.ref a :: S))) : own_W p e below K T (mkF m pc Ls S) := by
  subst hp
  obtain ⟨T', h', X', e', E, A, D, -, st⟩ := newO X hx hZ hown w wi wz eT (g := mkF m pc Ls S) rfl hd hc hl
  exact own_s st (k T' h' _ X' e' rfl E A D)
theorem own_initO (X : Stand p l e R s m args below meth c T locs cells slots) (hx : p.tables.exec = Jvm.exec) (hZ : Z.Warmed39 s.vm) (hown : s.vm.findClass own = some m.cls) (eT : T.heap = h) {a : Addr} {W : Nat} (pc' : Nat) (w1 : (Jvm.Cond.methodLink own index Lib.objectInit).before a0 Z = true) (w2 : (Jvm.Cond.instanceMethod Lib.objectInit).before a0 Z = true) (w3 : (Jvm.Cond.code Lib.objectInit ⟨#[0xb1]⟩ 1 none).before a0 Z = true) (hsize : Ls.size = c.maxLocals) (hd : decode c.code pc = .ok (.invokespecial index, 3)) (hp : pc + 3 = pc')
    (hf : 1 ≤ R.frames) (hW : (S.map fun v => v.category).sum = W) (hl : W + 12 ≤ R.locals)
    (k : ∀ T', Stand p l e R s m args below meth c T' locs cells slots → T'.heap = h → own_W p e below K T' (mkF m pc' Ls S)) : own_W p e below K T (mkF m pc Ls (.ref a :: S)) := by
  subst hp
  obtain ⟨T', X', e', st⟩ := initO X hx hZ hown w1 w2 w3 eT (g := mkF m pc Ls (.ref a :: S)) rfl hsize rfl hd hf (W := W) (by show 2 * 0 + _ ≤ _; rw [hW]; omega) hl
  exact own_s st (k T' X' e')
theorem own_callS (X : Stand p l e R s m args below meth c T locs cells slots) (hx : p.tables.exec = Jvm.exec) (hZ : Z.Warmed39 s.vm) (hown : s.vm.findClass own = some m.cls) (eT : T.heap = h) {argsL rest : List Value} {W : Nat} (pc' : Nat) (hM : own_C l Z y bytes maxL ret [] rm argsL.toArray h Q) (w1 : (Jvm.Cond.methodLink own index y).before a0 Z = true) (w2 : (Jvm.Cond.static y).before a0 Z = true) (w3 : (Jvm.Cond.initialized y.cls).before a0 Z = true) (w4 : (Jvm.Cond.code y bytes maxL ret).before a0 Z = true)
    (hy : y.cls ≠ "java/lang/invoke/MethodHandle" ∧ y.cls ≠ "java/lang/invoke/VarHandle") (hsize : Ls.size = c.maxLocals) (hlen : ∀ sig, parseMethodDescriptor y.desc = some sig → argsL.length = sig.parameters.length) (hst : S = argsL.reverse ++ rest) (hd : decode c.code pc = .ok (.invokestatic index, 3)) (hp : pc + 3 = pc')
    (hW : (rest.map fun v => v.category).sum = W) (hf : rm.frames + 1 ≤ R.frames) (hl : W + (maxL + 11) + rm.locals ≤ R.locals) (hc : cells + rm.cells ≤ R.cells) (hs : slots + rm.slots ≤ R.slots)
    (k : ∀ v T' L, Stand p l e R s m args below meth c T' (locs ++ L) (cells + rm.cells) (slots + rm.slots) → Q v T'.heap L → own_W p e below K T' (mkF m pc' Ls (v.toList ++ rest))) : own_W p e below K T (mkF m pc Ls S) := by
  subst hp hst
  obtain ⟨v, vm₁, ⟨T', L', k', n'⟩, -, X', ⟨L, hQ, l1, y1, z1⟩, st⟩ := Jvm.LawKit.callS X hx (y := y) hown (mvT hZ w1) (mvT hZ w2) (mvT hZ w3) (mvT hZ w4) hy (backOf (W := W) hM hZ w4 w3 hf hl) (g := mkF m pc Ls (argsL.reverse ++ rest)) rfl hsize (argsL := argsL) (rest := rest) hlen rfl (by show 2 * 0 + _ ≤ _; rw [hW]; omega) hd (fun _ _ => ⟨rfl, eT, hc, hs⟩)
  dsimp only [Pt.U, Pt.locs, Pt.cells, Pt.slots] at X' l1 y1 z1 st hQ
  subst l1 y1 z1
  exact own_s st (k v T' L X' hQ)
theorem own_callI (X : Stand p l e R s m args below meth c T locs cells slots) (hx : p.tables.exec = Jvm.exec) (hZ : Z.Warmed39 s.vm) (hown : s.vm.findClass own = some m.cls) (eT : T.heap = h) {a : Addr} {argsL rest : List Value} {W : Nat} (pc' : Nat) (hM : own_C l Z y bytes maxL none [] rm (.ref a :: argsL).toArray h Q) (hn : y.name = "<init>") (w1 : (Jvm.Cond.methodLink own index y).before a0 Z = true) (w2 : (Jvm.Cond.instanceMethod y).before a0 Z = true) (w3 : (Jvm.Cond.initialized y.cls).before a0 Z = true) (w4 : (Jvm.Cond.code y bytes maxL none).before a0 Z = true)
    (hy : y.cls ≠ "java/lang/invoke/MethodHandle" ∧ y.cls ≠ "java/lang/invoke/VarHandle") (hsize : Ls.size = c.maxLocals) (hlen : ∀ sig, parseMethodDescriptor y.desc = some sig → argsL.length = sig.parameters.length) (hst : S = argsL.reverse ++ .ref a :: rest) (hd : decode c.code pc = .ok (.invokespecial index, 3)) (hp : pc + 3 = pc')
    (hW : (rest.map fun v => v.category).sum = W) (hf : rm.frames + 1 ≤ R.frames) (hl : W + (maxL + 11) + rm.locals ≤ R.locals) (hc : cells + rm.cells ≤ R.cells) (hs : slots + rm.slots ≤ R.slots)
    (k : ∀ v T' L, Stand p l e R s m args below meth c T' (locs ++ L) (cells + rm.cells) (slots + rm.slots) → Q v T'.heap L → own_W p e below K T' (mkF m pc' Ls (v.toList ++ rest))) : own_W p e below K T (mkF m pc Ls S) := by
  subst hp hst
  obtain ⟨v, vm₁, ⟨T', L', k', n'⟩, -, X', ⟨L, hQ, l1, y1, z1⟩, st⟩ := X.specialBack hx (y := y) hn hown (mvT hZ w1) (mvT hZ w2) (mvT hZ w4) hy (backOf (W := W) hM hZ w4 w3 hf hl) (g := mkF m pc Ls (argsL.reverse ++ .ref a :: rest)) rfl hsize (Steps.refl _) (a := a) (argsL := argsL) (rest := rest) hlen rfl (by show 2 * 0 + _ ≤ _; rw [hW]; omega) hd (fun _ _ => ⟨rfl, eT, hc, hs⟩)
  dsimp only [Pt.U, Pt.locs, Pt.cells, Pt.slots] at X' l1 y1 z1 st hQ
  subst l1 y1 z1
  exact own_s' st (k v T' L X' hQ)
theorem own_callV (X : Stand p l e R s m args below meth c T locs cells slots) (hx : p.tables.exec = Jvm.exec) (hZ : Z.Warmed39 s.vm) (hown : s.vm.findClass own = some m.cls) (eT : T.heap = h) {a : Addr} {argsL rest : List Value} {W : Nat} (pc' : Nat) (hM : own_C l Z y bytes maxL ret [] rm (.ref a :: argsL).toArray h Q) (E : Exa Z h a y.cls) (w1 : (Jvm.Cond.methodLink own index y).before a0 Z = true) (w2 : (Jvm.Cond.declares y).before a0 Z = true) (w5 : (Jvm.Cond.selects y.cls y y).before a0 Z = true) (w6 : (Jvm.Cond.instanceMethod y).before a0 Z = true) (w3 : (Jvm.Cond.initialized y.cls).before a0 Z = true) (w4 : (Jvm.Cond.code y bytes maxL ret).before a0 Z = true)
    (hy : y.cls ≠ "java/lang/invoke/MethodHandle" ∧ y.cls ≠ "java/lang/invoke/VarHandle") (hsize : Ls.size = c.maxLocals) (hlen : ∀ sig, parseMethodDescriptor y.desc = some sig → argsL.length = sig.parameters.length) (hst : S = argsL.reverse ++ .ref a :: rest) (hd : decode c.code pc = .ok (.invokevirtual index, 3)) (hp : pc + 3 = pc')
    (hW : (rest.map fun v => v.category).sum = W) (hf : rm.frames + 1 ≤ R.frames) (hl : W + (maxL + 11) + rm.locals ≤ R.locals) (hc : cells + rm.cells ≤ R.cells) (hs : slots + rm.slots ≤ R.slots)
    (k : ∀ v T' L, Stand p l e R s m args below meth c T' (locs ++ L) (cells + rm.cells) (slots + rm.slots) → Q v T'.heap L → own_W p e below K T' (mkF m pc' Ls (v.toList ++ rest))) : own_W p e below K T (mkF m pc Ls S) := by
  subst hp hst
  obtain ⟨cq, kq, qa, qb, qc⟩ := isOf hZ eT E
  obtain ⟨v, vm₁, ⟨T', L', k', n'⟩, -, X', ⟨L, hQ, l1, y1, z1⟩, st⟩ := X.virtualBack hx (y := y) (z := y) hown (mvT hZ w1) (mvT hZ w2) (notFace_of_selects (args := #[]) (mvT hZ w5)) (mvT hZ w5) (mvT hZ w6) hy (backOf (W := W) hM hZ w4 w3 hf hl) qa qc (g := mkF m pc Ls (argsL.reverse ++ .ref a :: rest)) rfl hsize (Steps.refl _) (argsL := argsL) (rest := rest) hlen rfl (by show 2 * 0 + _ ≤ _; rw [hW]; omega) hd (fun _ _ => ⟨rfl, eT, hc, hs⟩)
  dsimp only [Pt.U, Pt.locs, Pt.cells, Pt.slots] at X' l1 y1 z1 st hQ
  subst l1 y1 z1
  exact own_s' st (k v T' L X' hQ)
/-- an array of ints (bytes, booleans): n places, place j holds f j -/
def own_AI (Z : State) (h : Heap) (a : Addr) (ty : FieldType) (n : Nat) (f : Nat → Int32) : Prop := ∃ c : Cell, Arr Z h a c ty ∧ c.slots.size = n ∧ ∀ j, j < n → c.slots[j]? = some (.int (f j))
def own_AJ (Z : State) (h : Heap) (a : Addr) (n : Nat) (f : Nat → Int64) : Prop := ∃ c : Cell, Arr Z h a c .long ∧ c.slots.size = n ∧ ∀ j, j < n → c.slots[j]? = some (.long (f j))
section Arrs
variable {a b : Addr} {n i : Nat} {ty : FieldType} {f : Nat → Int32} {fj : Nat → Int64} {j : Int32} {ws : List Addr} {v : Value} {sl : Nat}
theorem own_AI.lt (A : own_AI Z h a ty n f) : a < h.size := by obtain ⟨c, A, -⟩ := A; exact A.lt
theorem own_AJ.lt (A : own_AJ Z h a n fj) : a < h.size := by obtain ⟨c, A, -⟩ := A; exact A.lt
theorem own_AI.ext (A : own_AI Z h a ty n f) (E : Ext h h') : own_AI Z h' a ty n f := by obtain ⟨c, A, r⟩ := A; exact ⟨c, A.ext E, r⟩
theorem own_AJ.ext (A : own_AJ Z h a n fj) (E : Ext h h') : own_AJ Z h' a n fj := by obtain ⟨c, A, r⟩ := A; exact ⟨c, A.ext E, r⟩
theorem own_AI.other (A : own_AI Z h a ty n f) (W : Wr h h' b sl v) (q : a ≠ b) : own_AI Z h' a ty n f := by obtain ⟨c, A, r⟩ := A; exact ⟨c, A.other W q, r⟩
theorem own_AJ.other (A : own_AJ Z h a n fj) (W : Wr h h' b sl v) (q : a ≠ b) : own_AJ Z h' a n fj := by obtain ⟨c, A, r⟩ := A; exact ⟨c, A.other W q, r⟩
theorem own_AI.keep (A : own_AI Z h a ty n f) (K : Keep h h' ws) (q : a ∉ ws) : own_AI Z h' a ty n f := by obtain ⟨c, A, r⟩ := A; exact ⟨c, ⟨K.2.1 a c A.1 q, A.2⟩, r⟩
theorem own_AJ.keep (A : own_AJ Z h a n fj) (K : Keep h h' ws) (q : a ∉ ws) : own_AJ Z h' a n fj := by obtain ⟨c, A, r⟩ := A; exact ⟨c, ⟨K.2.1 a c A.1 q, A.2⟩, r⟩
theorem own_AI.set {x : Int32} (A : own_AI Z h a ty n f) (W : Wr h h' a i (.int x)) : own_AI Z h' a ty n (fun q => if q = i then x else f q) := by
  obtain ⟨c, A, S, H⟩ := A
  refine ⟨_, A.same W, by rw [sz_set]; exact S, fun q hq => ?_⟩
  by_cases e : q = i
  · subst e; simp [Cell.setSlot, S, hq]
  · simp only [Cell.setSlot, if_neg e]; rw [Array.getElem?_setIfInBounds_ne (Ne.symm e)]; exact H q hq
theorem own_AJ.set {x : Int64} (A : own_AJ Z h a n fj) (W : Wr h h' a i (.long x)) : own_AJ Z h' a n (fun q => if q = i then x else fj q) := by
  obtain ⟨c, A, S, H⟩ := A
  refine ⟨_, A.same W, by rw [sz_set]; exact S, fun q hq => ?_⟩
  by_cases e : q = i
  · subst e; simp [Cell.setSlot, S, hq]
  · simp only [Cell.setSlot, if_neg e]; rw [Array.getElem?_setIfInBounds_ne (Ne.symm e)]; exact H q hq
theorem own_AI.congr {g : Nat → Int32} (A : own_AI Z h a ty n f) (q : ∀ j, j < n → f j = g j) : own_AI Z h a ty n g := by obtain ⟨c, A, S, H⟩ := A; exact ⟨c, A, S, fun j hj => by rw [← q j hj]; exact H j hj⟩
theorem own_AJ.congr {g : Nat → Int64} (A : own_AJ Z h a n fj) (q : ∀ j, j < n → fj j = g j) : own_AJ Z h a n g := by obtain ⟨c, A, S, H⟩ := A; exact ⟨c, A, S, fun j hj => by rw [← q j hj]; exact H j hj⟩
theorem own_nat {j : Int32} {i : Nat} (q : j.toInt = i) : j.toNatClampNeg = i := by show j.toInt.toNat = i; rw [q]; exact Int.toNat_natCast i
theorem own_inb {j : Int32} {i n : Nat} (q : j.toInt = i) (r : i < n) {k : Nat} (e : k = n) : ¬ (j < 0 ∨ k ≤ j.toNatClampNeg) := by
  rw [own_nat q]; rintro (u | u)
  · rw [Int32.lt_iff_toInt_lt] at u; rw [q] at u; have : (0 : Int32).toInt = 0 := rfl; omega
  · omega
theorem own_iaload (X : Stand p l e R s m args below meth c T locs cells slots) (hx : p.tables.exec = Jvm.exec) (hZ : Z.Warmed39 s.vm) (eT : T.heap = h) (pc' : Nat) (i : Nat) (A : own_AI Z h a .int n f) (hj : j.toInt = i) (hi : i < n) (hd : decode c.code pc = .ok (.iaload, 1)) (hp : pc + 1 = pc') (k : own_W p e below K T (mkF m pc' Ls (.int (f i) :: S))) : own_W p e below K T (mkF m pc Ls (.int j :: .ref a :: S)) := by
  subst hp
  obtain ⟨cl, A, Sz, H⟩ := A
  exact own_s (fun t => X.iaload hx (j := j) (by rw [eT]; exact A.1) (State.isArrayOf_alike hZ.alike A.2.1) A.2.2 (own_inb hj hi Sz) (by rw [own_nat hj]; exact H i hi) (g := mkF m pc Ls (.int j :: .ref a :: S)) rfl rfl hd t) k
theorem own_baload (X : Stand p l e R s m args below meth c T locs cells slots) (hx : p.tables.exec = Jvm.exec) (hZ : Z.Warmed39 s.vm) (eT : T.heap = h) (pc' : Nat) (i : Nat) (A : own_AI Z h a .byte n f) (hj : j.toInt = i) (hi : i < n) (hd : decode c.code pc = .ok (.baload, 1)) (hp : pc + 1 = pc') (k : own_W p e below K T (mkF m pc' Ls (.int (f i) :: S))) : own_W p e below K T (mkF m pc Ls (.int j :: .ref a :: S)) := by
  subst hp
  obtain ⟨cl, A, Sz, H⟩ := A
  exact own_s (fun t => X.baloadBytes hx (j := j) (by rw [eT]; exact A.1) (State.isArrayOf_alike hZ.alike A.2.1) A.2.2 (own_inb hj hi Sz) (by rw [own_nat hj]; exact H i hi) (g := mkF m pc Ls (.int j :: .ref a :: S)) rfl rfl hd t) k
theorem own_laload (X : Stand p l e R s m args below meth c T locs cells slots) (hx : p.tables.exec = Jvm.exec) (hZ : Z.Warmed39 s.vm) (eT : T.heap = h) (pc' : Nat) (i : Nat) (A : own_AJ Z h a n fj) (hj : j.toInt = i) (hi : i < n) (hd : decode c.code pc = .ok (.laload, 1)) (hp : pc + 1 = pc') (k : own_W p e below K T (mkF m pc' Ls (.long (fj i) :: S))) : own_W p e below K T (mkF m pc Ls (.int j :: .ref a :: S)) := by
  subst hp
  obtain ⟨cl, A, Sz, H⟩ := A
  exact own_s (fun t => X.laload hx (j := j) (by rw [eT]; exact A.1) (State.isArrayOf_alike hZ.alike A.2.1) A.2.2 (own_inb hj hi Sz) (by rw [own_nat hj]; exact H i hi) (g := mkF m pc Ls (.int j :: .ref a :: S)) rfl rfl hd t) k
theorem own_iastore (X : Stand p l e R s m args below meth c T locs cells slots) (hx : p.tables.exec = Jvm.exec) (hZ : Z.Warmed39 s.vm) (eT : T.heap = h) {x : Int32} (pc' : Nat) (i : Nat) (A : own_AI Z h a .int n f) (hj : j.toInt = i) (hi : i < n) (hd : decode c.code pc = .ok (.iastore, 1)) (hp : pc + 1 = pc')
    (k : ∀ T' h', Stand p l e R s m args below meth c T' (locs ++ [⟨a, i⟩]) cells slots → T'.heap = h' → Wr h h' a i (.int x) → own_W p e below K T' (mkF m pc' Ls S)) : own_W p e below K T (mkF m pc Ls (.int x :: .int j :: .ref a :: S)) := by
  subst hp
  obtain ⟨cl, A, Sz, H⟩ := A
  obtain ⟨T', h', X', e', W, st⟩ := stI X hx hZ eT A (j := j) (own_inb hj hi Sz) (g := mkF m pc Ls (.int x :: .int j :: .ref a :: S)) rfl rfl hd
  rw [own_nat hj] at X' W
  exact own_s st (k T' h' X' e' W)
theorem own_bastore (X : Stand p l e R s m args below meth c T locs cells slots) (hx : p.tables.exec = Jvm.exec) (hZ : Z.Warmed39 s.vm) (eT : T.heap = h) {x : Int32} (pc' : Nat) (i : Nat) (A : own_AI Z h a .byte n f) (hj : j.toInt = i) (hi : i < n) (hd : decode c.code pc = .ok (.bastore, 1)) (hp : pc + 1 = pc')
    (k : ∀ T' h', Stand p l e R s m args below meth c T' (locs ++ [⟨a, i⟩]) cells slots → T'.heap = h' → Wr h h' a i (.int x.toInt8.toInt32) → own_W p e below K T' (mkF m pc' Ls S)) : own_W p e below K T (mkF m pc Ls (.int x :: .int j :: .ref a :: S)) := by
  subst hp
  obtain ⟨cl, A, Sz, H⟩ := A
  obtain ⟨T', h', X', e', W, st⟩ := stB X hx hZ eT A (j := j) (own_inb hj hi Sz) (g := mkF m pc Ls (.int x :: .int j :: .ref a :: S)) rfl rfl hd
  rw [own_nat hj] at X' W
  exact own_s st (k T' h' X' e' W)
theorem own_lastore (X : Stand p l e R s m args below meth c T locs cells slots) (hx : p.tables.exec = Jvm.exec) (hZ : Z.Warmed39 s.vm) (eT : T.heap = h) {x : Int64} (pc' : Nat) (i : Nat) (A : own_AJ Z h a n fj) (hj : j.toInt = i) (hi : i < n) (hd : decode c.code pc = .ok (.lastore, 1)) (hp : pc + 1 = pc')
    (k : ∀ T' h', Stand p l e R s m args below meth c T' (locs ++ [⟨a, i⟩]) cells slots → T'.heap = h' → Wr h h' a i (.long x) → own_W p e below K T' (mkF m pc' Ls S)) : own_W p e below K T (mkF m pc Ls (.long x :: .int j :: .ref a :: S)) := by
  subst hp
  obtain ⟨cl, A, Sz, H⟩ := A
  obtain ⟨T', h', X', e', W, st⟩ := stJ X hx hZ eT A (j := j) (own_inb hj hi Sz) (g := mkF m pc Ls (.long x :: .int j :: .ref a :: S)) rfl rfl hd
  rw [own_nat hj] at X' W
  exact own_s st (k T' h' X' e' W)
theorem own_arraylength (X : Stand p l e R s m args below meth c T locs cells slots) (hx : p.tables.exec = Jvm.exec) (hZ : Z.Warmed39 s.vm) (eT : T.heap = h) (pc' : Nat) {z : Int32} (A : own_AI Z h a ty n f) (hz : z.toInt = n) (hd : decode c.code pc = .ok (.arraylength, 1)) (hp : pc + 1 = pc') (k : own_W p e below K T (mkF m pc' Ls (.int z :: S))) : own_W p e below K T (mkF m pc Ls (.ref a :: S)) := by
  subst hp
  obtain ⟨cl, A, Sz, H⟩ := A
  have q : cl.slots.size.toInt32 = z := len_of (by rw [Sz, own_nat hz]) (fun u => by rw [Int32.lt_iff_toInt_lt, hz] at u; have : (0 : Int32).toInt = 0 := rfl; omega)
  rw [← q] at k
  exact own_s (fun t => X.arraylength hx (by rw [eT]; exact A.1) (State.isArrayOf_alike hZ.alike A.2.1) (g := mkF m pc Ls (.ref a :: S)) rfl rfl hd t) k
theorem own_arraylengthJ (X : Stand p l e R s m args below meth c T locs cells slots) (hx : p.tables.exec = Jvm.exec) (hZ : Z.Warmed39 s.vm) (eT : T.heap = h) (pc' : Nat) {z : Int32} (A : own_AJ Z h a n fj) (hz : z.toInt = n) (hd : decode c.code pc = .ok (.arraylength, 1)) (hp : pc + 1 = pc') (k : own_W p e below K T (mkF m pc' Ls (.int z :: S))) : own_W p e below K T (mkF m pc Ls (.ref a :: S)) := by
  subst hp
  obtain ⟨cl, A, Sz, H⟩ := A
  have q : cl.slots.size.toInt32 = z := len_of (by rw [Sz, own_nat hz]) (fun u => by rw [Int32.lt_iff_toInt_lt, hz] at u; have : (0 : Int32).toInt = 0 := rfl; omega)
  rw [← q] at k
  exact own_s (fun t => X.arraylength hx (by rw [eT]; exact A.1) (State.isArrayOf_alike hZ.alike A.2.1) (g := mkF m pc Ls (.ref a :: S)) rfl rfl hd t) k
theorem own_newI (X : Stand p l e R s m args below meth c T locs cells slots) (hx : p.tables.exec = Jvm.exec) (hZ : Z.Warmed39 s.vm) (eT : T.heap = h) {aty : ArrayType} {z : Int32} {n cap : Nat} (pc' : Nat) (ty : FieldType) (hty : newarray.typeOf aty = ty) (hdef : defaultValue ty = .int 0) (w : (Jvm.Cond.arrayClass ty).before a0 Z = true) (hz : z.toInt = n) (hcap : n ≤ cap) (hb : cap * 8 ≤ 536870912) (hd : decode c.code pc = .ok (.newarray aty, 2)) (hp : pc + 2 = pc') (hc : cells + 1 ≤ R.cells) (hl : slots + cap ≤ R.slots)
    (k : ∀ T' h' a, Stand p l e R s m args below meth c T' locs (cells + 1) (slots + cap) → T'.heap = h' → a = h.size → Ext h h' → own_AI Z h' a ty n (fun _ => 0) → own_W p e below K T' (mkF m pc' Ls (.ref a :: S))) : own_W p e below K T (mkF m pc Ls (.int z :: S)) := by
  subst hp hty
  obtain ⟨T', h', cA, X', e', E, A, st⟩ := newP X hx hZ w eT (g := mkF m pc Ls (.int z :: S)) rfl hd rfl (fun u => by rw [Int32.lt_iff_toInt_lt, hz] at u; have : (0 : Int32).toInt = 0 := rfl; omega) (cap := cap) (by rw [own_nat hz]; exact hcap) hb hc hl
  refine own_s st (k T' h' _ X' e' rfl E ⟨_, A, by rw [sz_new, own_nat hz], fun j hj => ?_⟩)
  simp [newA, own_nat hz, hj, hdef]
theorem own_newJ (X : Stand p l e R s m args below meth c T locs cells slots) (hx : p.tables.exec = Jvm.exec) (hZ : Z.Warmed39 s.vm) (eT : T.heap = h) {z : Int32} {n cap : Nat} (pc' : Nat) (w : (Jvm.Cond.arrayClass .long).before a0 Z = true) (hz : z.toInt = n) (hcap : n ≤ cap) (hb : cap * 8 ≤ 536870912) (hd : decode c.code pc = .ok (.newarray .long, 2)) (hp : pc + 2 = pc') (hc : cells + 1 ≤ R.cells) (hl : slots + cap ≤ R.slots)
    (k : ∀ T' h' a, Stand p l e R s m args below meth c T' locs (cells + 1) (slots + cap) → T'.heap = h' → a = h.size → Ext h h' → own_AJ Z h' a n (fun _ => 0) → own_W p e below K T' (mkF m pc' Ls (.ref a :: S))) : own_W p e below K T (mkF m pc Ls (.int z :: S)) := by
  subst hp
  obtain ⟨T', h', cA, X', e', E, A, st⟩ := newP X hx hZ (aty := .long) w eT (g := mkF m pc Ls (.int z :: S)) rfl hd rfl (fun u => by rw [Int32.lt_iff_toInt_lt, hz] at u; have : (0 : Int32).toInt = 0 := rfl; omega) (cap := cap) (by rw [own_nat hz]; exact hcap) hb hc hl
  refine own_s st (k T' h' _ X' e' rfl E ⟨_, A, by rw [sz_new, own_nat hz], fun j hj => ?_⟩)
  simp [newA, own_nat hz, hj, newarray.typeOf, defaultValue]
end Arrs
end Heaps
end OwnLayer
theorem own_n3 (x n : Int32) (h : n = x &&& 3) : n = 0 ∨ n = 1 ∨ n = 2 ∨ n = 3 := by
  have h1 := c_mask x 3 2 (by decide) rfl
  rw [← h] at h1
  have k0 : (0 : Int32).toInt = 0 := rfl
  have k1 : (1 : Int32).toInt = 1 := rfl
  have k2 : (2 : Int32).toInt = 2 := rfl
  have k3 : (3 : Int32).toInt = 3 := rfl
  simp only [← Int32.toInt_inj, k0, k1, k2, k3]
  omega
theorem d1_0 : decode prog_34_method_1_code 0 = .ok (.aload_n 0, 1) := by decide +kernel
theorem d1_1 : decode prog_34_method_1_code 1 = .ok (.invokespecial 1, 3) := by decide +kernel
theorem d1_4 : decode prog_34_method_1_code 4 = .ok (.aload_n 0, 1) := by decide +kernel
theorem d1_5 : decode prog_34_method_1_code 5 = .ok (.bipush 16, 2) := by decide +kernel
theorem d1_7 : decode prog_34_method_1_code 7 = .ok (.newarray .int, 2) := by decide +kernel
theorem d1_9 : decode prog_34_method_1_code 9 = .ok (.putfield 7, 3) := by decide +kernel
theorem d1_12 : decode prog_34_method_1_code 12 = .ok (.aload_n 0, 1) := by decide +kernel
theorem d1_13 : decode prog_34_method_1_code 13 = .ok (.bipush 16, 2) := by decide +kernel
theorem d1_15 : decode prog_34_method_1_code 15 = .ok (.newarray .int, 2) := by decide +kernel
theorem d1_17 : decode prog_34_method_1_code 17 = .ok (.putfield 13, 3) := by decide +kernel
theorem d1_20 : decode prog_34_method_1_code 20 = .ok (.aload_n 0, 1) := by decide +kernel
theorem d1_21 : decode prog_34_method_1_code 21 = .ok (.bipush 16, 2) := by decide +kernel
theorem d1_23 : decode prog_34_method_1_code 23 = .ok (.newarray .int, 2) := by decide +kernel
theorem d1_25 : decode prog_34_method_1_code 25 = .ok (.putfield 16, 3) := by decide +kernel
theorem d1_28 : decode prog_34_method_1_code 28 = .ok (.return_, 1) := by decide +kernel
set_option maxRecDepth 65536 in
set_option maxHeartbeats 40000000 in
theorem rm1 (l : Launch) (Z : State) (a0 : Array Value) (hw : ∀ d ∈ tables_1, d.before a0 Z = true) (a : Addr) (h0 : Heap) (n0 : Nat) (Z0 : n0 ≤ h0.size) (ga : n0 ≤ a) (E_a : Exa Z h0 a site_80.cls) (F_kind : Fld Z h0 a site_80.cls "kind" "[I" .null) (F_start : Fld Z h0 a site_80.cls "start" "[I" .null) (F_end : Fld Z h0 a site_80.cls "end" "[I" .null) (F_size : Fld Z h0 a site_80.cls "size" "I" (.int (0 : Int32))) :
    own_C l Z site_80 prog_34_method_1_code 1 none [] ({ frames := 1, cells := 3, slots := 48, locals := 12 } : Room) #[(.ref a)] h0 (fun v h L => ∃ t1 t2 t3, v = none ∧ Fr n0 L ∧ Keep h0 h [a] ∧ (n0 ≤ t1 ∧ n0 ≤ t2 ∧ n0 ≤ t3) ∧ (a ≠ t1 ∧ a ≠ t2 ∧ a ≠ t3) ∧ (t1 ≠ t2 ∧ t1 ≠ t3 ∧ t2 ≠ t3) ∧ Fld Z h a site_80.cls "kind" "[I" (.ref t1) ∧ Fld Z h a site_80.cls "start" "[I" (.ref t2) ∧ Fld Z h a site_80.cls "end" "[I" (.ref t3) ∧ Fld Z h a site_80.cls "size" "I" (.int (0 : Int32)) ∧ own_AI Z h t1 .int 16 (fun _ => 0) ∧ own_AI Z h t2 .int 16 (fun _ => 0) ∧ own_AI Z h t3 .int 16 (fun _ => 0)) := by
  refine own_body (by first | (simp [plainName, overriddenIn]; done) | decide +kernel) ?_
  intro p e s m below meth c T0 hx hby hml hown hnm hret hlk hZ X0 e0
  have N0 := Fr.nil n0
  refine own_eq (f' := (mkF m 0 #[.val (.ref a)] [])) (by first | (simp [entryFrame, mkF, argsToLocals, Value.category]; done) | rfl) ?_
  refine own_aloadN X0 hx 1 (hb hby d1_0) rfl rfl ?_
  refine own_initO X0 hx hZ hown e0 (W := 0) 4 (hw _ (List.mem_of_getElem? (i := 6) rfl)) (hw _ (List.mem_of_getElem? (i := 7) rfl)) (hw _ (List.mem_of_getElem? (i := 8) rfl)) (by rw [hml]; rfl) (hb hby d1_1) rfl (by decide) rfl (by decide) (fun T1 X2 e3 => ?_)
  refine own_aloadN X2 hx 5 (hb hby d1_4) rfl rfl ?_
  refine own_bipush X2 hx 7 (16 : Int32) (by decide) (hb hby d1_5) rfl ?_
  refine own_newI X2 hx hZ e3 (n := 16) (cap := 16) 9 .int rfl rfl (hw _ (List.mem_of_getElem? (i := 9) rfl)) rfl (by decide) (by decide) (hb hby d1_7) rfl (by decide) (by decide) (fun T4 h5 a6 X7 e8 g9 E10 A11 => ?_)
  have ne12 : a ≠ a6 := fun q => absurd (E_a.lt) (by rw [q, g9]; exact Nat.lt_irrefl _)
  have ga13 : n0 ≤ a6 := by rw [g9]; exact Z0
  have bo14 : h0.size ≤ a6 := by rw [g9]; exact (Keep.refl h0 [a]).1
  have f15 := E_a.ext E10
  have f16 := F_kind.ext E10
  have f17 := F_start.ext E10
  have f18 := F_end.ext E10
  have f19 := F_size.ext E10
  have Z20 : n0 ≤ h5.size := Nat.le_trans Z0 E10.1
  have K21 := (Keep.refl h0 [a]).ext E10
  refine own_putF X7 hx hZ hown e8 12 (hw _ (List.mem_of_getElem? (i := 10) rfl)) f16 f15 (Or.inl (hw _ (List.mem_of_getElem? (i := 11) rfl))) (hw _ (List.mem_of_getElem? (i := 1) rfl)) (ty := (.array .int)) (by decide) rfl rfl (hb hby d1_9) rfl (fun T22 h23 X24 e25 W26 => ?_)
  have f27 := f15.wr W26
  have f28 := f16.same W26
  have f29 := f17.other W26 (Or.inr (slot_ne (Or.inl (hw _ (List.mem_of_getElem? (i := 13) rfl))) (Or.inl (hw _ (List.mem_of_getElem? (i := 11) rfl))) (by decide) (t := (.array .int)) (t' := (.array .int)) (by decide) (by decide)))
  have f30 := f18.other W26 (Or.inr (slot_ne (Or.inl (hw _ (List.mem_of_getElem? (i := 15) rfl))) (Or.inl (hw _ (List.mem_of_getElem? (i := 11) rfl))) (by decide) (t := (.array .int)) (t' := (.array .int)) (by decide) (by decide)))
  have f31 := f19.other W26 (Or.inr (slot_ne (Or.inl (hw _ (List.mem_of_getElem? (i := 22) rfl))) (Or.inl (hw _ (List.mem_of_getElem? (i := 11) rfl))) (by decide) (t := .int) (t' := (.array .int)) (by decide) (by decide)))
  have f32 := A11.other W26 (Ne.symm ne12)
  have Z33 : n0 ≤ h23.size := Nat.le_trans Z20 (Keep.of_wr W26).1
  have K34 := K21.wr W26 (Or.inl (List.mem_of_getElem? (i := 0) rfl))
  have N35 := Fr.snoc X24 N0 ga
  refine own_aloadN X24 hx 13 (hb hby d1_12) rfl rfl ?_
  refine own_bipush X24 hx 15 (16 : Int32) (by decide) (hb hby d1_13) rfl ?_
  refine own_newI X24 hx hZ e25 (n := 16) (cap := 16) 17 .int rfl rfl (hw _ (List.mem_of_getElem? (i := 9) rfl)) rfl (by decide) (by decide) (hb hby d1_15) rfl (by decide) (by decide) (fun T36 h37 a38 X39 e40 g41 E42 A43 => ?_)
  have ne44 : a ≠ a38 := fun q => absurd (f27.lt) (by rw [q, g41]; exact Nat.lt_irrefl _)
  have ne45 : a6 ≠ a38 := fun q => absurd (f32.lt) (by rw [q, g41]; exact Nat.lt_irrefl _)
  have ga46 : n0 ≤ a38 := by rw [g41]; exact Z33
  have bo47 : h0.size ≤ a38 := by rw [g41]; exact K34.1
  have f48 := f27.ext E42
  have f49 := f28.ext E42
  have f50 := f29.ext E42
  have f51 := f30.ext E42
  have f52 := f31.ext E42
  have f53 := f32.ext E42
  have Z54 : n0 ≤ h37.size := Nat.le_trans Z33 E42.1
  have K55 := K34.ext E42
  refine own_putF X39 hx hZ hown e40 20 (hw _ (List.mem_of_getElem? (i := 12) rfl)) f50 f48 (Or.inl (hw _ (List.mem_of_getElem? (i := 13) rfl))) (hw _ (List.mem_of_getElem? (i := 1) rfl)) (ty := (.array .int)) (by decide) rfl rfl (hb hby d1_17) rfl (fun T56 h57 X58 e59 W60 => ?_)
  have f61 := f48.wr W60
  have f62 := f49.other W60 (Or.inr (slot_ne (Or.inl (hw _ (List.mem_of_getElem? (i := 11) rfl))) (Or.inl (hw _ (List.mem_of_getElem? (i := 13) rfl))) (by decide) (t := (.array .int)) (t' := (.array .int)) (by decide) (by decide)))
  have f63 := f50.same W60
  have f64 := f51.other W60 (Or.inr (slot_ne (Or.inl (hw _ (List.mem_of_getElem? (i := 15) rfl))) (Or.inl (hw _ (List.mem_of_getElem? (i := 13) rfl))) (by decide) (t := (.array .int)) (t' := (.array .int)) (by decide) (by decide)))
  have f65 := f52.other W60 (Or.inr (slot_ne (Or.inl (hw _ (List.mem_of_getElem? (i := 22) rfl))) (Or.inl (hw _ (List.mem_of_getElem? (i := 13) rfl))) (by decide) (t := .int) (t' := (.array .int)) (by decide) (by decide)))
  have f66 := f53.other W60 (Ne.symm ne12)
  have f67 := A43.other W60 (Ne.symm ne44)
  have Z68 : n0 ≤ h57.size := Nat.le_trans Z54 (Keep.of_wr W60).1
  have K69 := K55.wr W60 (Or.inl (List.mem_of_getElem? (i := 0) rfl))
  have N70 := Fr.snoc X58 N35 ga
  refine own_aloadN X58 hx 21 (hb hby d1_20) rfl rfl ?_
  refine own_bipush X58 hx 23 (16 : Int32) (by decide) (hb hby d1_21) rfl ?_
  refine own_newI X58 hx hZ e59 (n := 16) (cap := 16) 25 .int rfl rfl (hw _ (List.mem_of_getElem? (i := 9) rfl)) rfl (by decide) (by decide) (hb hby d1_23) rfl (by decide) (by decide) (fun T71 h72 a73 X74 e75 g76 E77 A78 => ?_)
  have ne79 : a ≠ a73 := fun q => absurd (f61.lt) (by rw [q, g76]; exact Nat.lt_irrefl _)
  have ne80 : a6 ≠ a73 := fun q => absurd (f66.lt) (by rw [q, g76]; exact Nat.lt_irrefl _)
  have ne81 : a38 ≠ a73 := fun q => absurd (f67.lt) (by rw [q, g76]; exact Nat.lt_irrefl _)
  have ga82 : n0 ≤ a73 := by rw [g76]; exact Z68
  have bo83 : h0.size ≤ a73 := by rw [g76]; exact K69.1
  have f84 := f61.ext E77
  have f85 := f62.ext E77
  have f86 := f63.ext E77
  have f87 := f64.ext E77
  have f88 := f65.ext E77
  have f89 := f66.ext E77
  have f90 := f67.ext E77
  have Z91 : n0 ≤ h72.size := Nat.le_trans Z68 E77.1
  have K92 := K69.ext E77
  refine own_putF X74 hx hZ hown e75 28 (hw _ (List.mem_of_getElem? (i := 14) rfl)) f87 f84 (Or.inl (hw _ (List.mem_of_getElem? (i := 15) rfl))) (hw _ (List.mem_of_getElem? (i := 1) rfl)) (ty := (.array .int)) (by decide) rfl rfl (hb hby d1_25) rfl (fun T93 h94 X95 e96 W97 => ?_)
  have f98 := f84.wr W97
  have f99 := f85.other W97 (Or.inr (slot_ne (Or.inl (hw _ (List.mem_of_getElem? (i := 11) rfl))) (Or.inl (hw _ (List.mem_of_getElem? (i := 15) rfl))) (by decide) (t := (.array .int)) (t' := (.array .int)) (by decide) (by decide)))
  have f100 := f86.other W97 (Or.inr (slot_ne (Or.inl (hw _ (List.mem_of_getElem? (i := 13) rfl))) (Or.inl (hw _ (List.mem_of_getElem? (i := 15) rfl))) (by decide) (t := (.array .int)) (t' := (.array .int)) (by decide) (by decide)))
  have f101 := f87.same W97
  have f102 := f88.other W97 (Or.inr (slot_ne (Or.inl (hw _ (List.mem_of_getElem? (i := 22) rfl))) (Or.inl (hw _ (List.mem_of_getElem? (i := 15) rfl))) (by decide) (t := .int) (t' := (.array .int)) (by decide) (by decide)))
  have f103 := f89.other W97 (Ne.symm ne12)
  have f104 := f90.other W97 (Ne.symm ne44)
  have f105 := A78.other W97 (Ne.symm ne79)
  have Z106 : n0 ≤ h94.size := Nat.le_trans Z91 (Keep.of_wr W97).1
  have K107 := K92.wr W97 (Or.inl (List.mem_of_getElem? (i := 0) rfl))
  have N108 := Fr.snoc X95 N70 ga
  exact own_retV X95 hx hret hlk (hb hby d1_28) (by decide) (by decide) ⟨a6, a38, a73, rfl, N108, by rw [e96]; exact ⟨K107, ⟨ga13, ga46, ga82⟩, ⟨ne12, ne44, ne79⟩, ⟨ne45, ne80, ne81⟩, f99, f100, f101, f102, f103, f104, f105⟩⟩
theorem d4_0 : decode prog_34_method_4_code 0 = .ok (.aload_n 0, 1) := by decide +kernel
theorem d4_1 : decode prog_34_method_4_code 1 = .ok (.getfield 27, 3) := by decide +kernel
theorem d4_4 : decode prog_34_method_4_code 4 = .ok (.aload_n 0, 1) := by decide +kernel
theorem d4_5 : decode prog_34_method_4_code 5 = .ok (.getfield 7, 3) := by decide +kernel
theorem d4_8 : decode prog_34_method_4_code 8 = .ok (.arraylength, 1) := by decide +kernel
theorem d4_9 : decode prog_34_method_4_code 9 = .ok (.if_icmp .ne 54, 3) := by decide +kernel
theorem d4_63 : decode prog_34_method_4_code 63 = .ok (.aload_n 0, 1) := by decide +kernel
theorem d4_64 : decode prog_34_method_4_code 64 = .ok (.getfield 7, 3) := by decide +kernel
theorem d4_67 : decode prog_34_method_4_code 67 = .ok (.aload_n 0, 1) := by decide +kernel
theorem d4_68 : decode prog_34_method_4_code 68 = .ok (.getfield 27, 3) := by decide +kernel
theorem d4_71 : decode prog_34_method_4_code 71 = .ok (.iload_n 1, 1) := by decide +kernel
theorem d4_72 : decode prog_34_method_4_code 72 = .ok (.iastore, 1) := by decide +kernel
theorem d4_73 : decode prog_34_method_4_code 73 = .ok (.aload_n 0, 1) := by decide +kernel
theorem d4_74 : decode prog_34_method_4_code 74 = .ok (.getfield 13, 3) := by decide +kernel
theorem d4_77 : decode prog_34_method_4_code 77 = .ok (.aload_n 0, 1) := by decide +kernel
theorem d4_78 : decode prog_34_method_4_code 78 = .ok (.getfield 27, 3) := by decide +kernel
theorem d4_81 : decode prog_34_method_4_code 81 = .ok (.iload_n 2, 1) := by decide +kernel
theorem d4_82 : decode prog_34_method_4_code 82 = .ok (.iastore, 1) := by decide +kernel
theorem d4_83 : decode prog_34_method_4_code 83 = .ok (.aload_n 0, 1) := by decide +kernel
theorem d4_84 : decode prog_34_method_4_code 84 = .ok (.getfield 16, 3) := by decide +kernel
theorem d4_87 : decode prog_34_method_4_code 87 = .ok (.aload_n 0, 1) := by decide +kernel
theorem d4_88 : decode prog_34_method_4_code 88 = .ok (.dup, 1) := by decide +kernel
theorem d4_89 : decode prog_34_method_4_code 89 = .ok (.getfield 27, 3) := by decide +kernel
theorem d4_92 : decode prog_34_method_4_code 92 = .ok (.dup_x1, 1) := by decide +kernel
theorem d4_93 : decode prog_34_method_4_code 93 = .ok (.iconst 1, 1) := by decide +kernel
theorem d4_94 : decode prog_34_method_4_code 94 = .ok (.iadd, 1) := by decide +kernel
theorem d4_95 : decode prog_34_method_4_code 95 = .ok (.putfield 27, 3) := by decide +kernel
theorem d4_98 : decode prog_34_method_4_code 98 = .ok (.iload_n 3, 1) := by decide +kernel
theorem d4_99 : decode prog_34_method_4_code 99 = .ok (.iastore, 1) := by decide +kernel
theorem d4_100 : decode prog_34_method_4_code 100 = .ok (.return_, 1) := by decide +kernel
set_option maxRecDepth 65536 in
set_option maxHeartbeats 40000000 in
theorem rm4 (l : Launch) (Z : State) (a0 : Array Value) (hw : ∀ d ∈ tables_1, d.before a0 Z = true) (a t1 t2 t3 : Addr) (p1 p2 p3 z z' : Int32) (i : Nat) (f1 f2 f3 : Nat → Int32) (h0 : Heap) (n0 : Nat) (Z0 : n0 ≤ h0.size) (hz : z.toInt = i) (hi : i < 16) (hz1 : z + 1 = z') (ga : n0 ≤ a) (g1 : n0 ≤ t1) (g2 : n0 ≤ t2) (g3 : n0 ≤ t3) (na1 : a ≠ t1) (na2 : a ≠ t2) (na3 : a ≠ t3) (n12 : t1 ≠ t2) (n13 : t1 ≠ t3) (n23 : t2 ≠ t3) (E_a : Exa Z h0 a site_80.cls) (F_kind : Fld Z h0 a site_80.cls "kind" "[I" (.ref t1)) (F_start : Fld Z h0 a site_80.cls "start" "[I" (.ref t2)) (F_end : Fld Z h0 a site_80.cls "end" "[I" (.ref t3)) (F_size : Fld Z h0 a site_80.cls "size" "I" (.int z)) (A_t1 : own_AI Z h0 t1 .int 16 f1) (A_t2 : own_AI Z h0 t2 .int 16 f2) (A_t3 : own_AI Z h0 t3 .int 16 f3) :
    own_C l Z site_95 prog_34_method_4_code 4 none [] ({ frames := 0, cells := 0, slots := 0, locals := 0 } : Room) #[(.ref a), (.int p1), (.int p2), (.int p3)] h0 (fun v h L => v = none ∧ Fr n0 L ∧ Keep h0 h [a, t1, t2, t3] ∧ Fld Z h a site_80.cls "kind" "[I" (.ref t1) ∧ Fld Z h a site_80.cls "start" "[I" (.ref t2) ∧ Fld Z h a site_80.cls "end" "[I" (.ref t3) ∧ Fld Z h a site_80.cls "size" "I" (.int z') ∧ own_AI Z h t1 .int 16 (fun q => if q = i then p1 else f1 q) ∧ own_AI Z h t2 .int 16 (fun q => if q = i then p2 else f2 q) ∧ own_AI Z h t3 .int 16 (fun q => if q = i then p3 else f3 q)) := by
  refine own_body (by first | (simp [plainName, overriddenIn]; done) | decide +kernel) ?_
  intro p e s m below meth c T0 hx hby hml hown hnm hret hlk hZ X0 e0
  have N0 := Fr.nil n0
  refine own_eq (f' := (mkF m 0 #[.val (.ref a), .val (.int p1), .val (.int p2), .val (.int p3)] [])) (by first | (simp [entryFrame, mkF, argsToLocals, Value.category]; done) | rfl) ?_
  refine own_aloadN X0 hx 1 (hb hby d4_0) rfl rfl ?_
  refine own_getF X0 hx hZ hown e0 4 (hw _ (List.mem_of_getElem? (i := 21) rfl)) F_size (hb hby d4_1) rfl (fun T1 X2 e3 => ?_)
  refine own_aloadN X2 hx 5 (hb hby d4_4) rfl rfl ?_
  refine own_getF X2 hx hZ hown e3 8 (hw _ (List.mem_of_getElem? (i := 10) rfl)) F_kind (hb hby d4_5) rfl (fun T4 X5 e6 => ?_)
  refine own_arraylength X5 hx hZ e6 9 (z := (16 : Int32)) A_t1 rfl (hb hby d4_8) rfl ?_
  refine own_icmp_ne X5 hx 63 12 (hb hby d4_9) (by decide) (by decide) rfl (fun h7 => ?_) (fun h7 => ?_)
  · show own_W p e below _ T4 (mkF m 63 #[.val (.ref a), .val (.int p1), .val (.int p2), .val (.int p3)] [])
    refine own_aloadN X5 hx 64 (hb hby d4_63) rfl rfl ?_
    refine own_getF X5 hx hZ hown e6 67 (hw _ (List.mem_of_getElem? (i := 10) rfl)) F_kind (hb hby d4_64) rfl (fun T8 X9 e10 => ?_)
    refine own_aloadN X9 hx 68 (hb hby d4_67) rfl rfl ?_
    refine own_getF X9 hx hZ hown e10 71 (hw _ (List.mem_of_getElem? (i := 21) rfl)) F_size (hb hby d4_68) rfl (fun T11 X12 e13 => ?_)
    refine own_iloadN X12 hx 72 (hb hby d4_71) rfl rfl ?_
    refine own_iastore X12 hx hZ e13 73 i A_t1 hz hi (hb hby d4_72) rfl (fun T14 h15 X16 e17 W18 => ?_)
    have f19 := E_a.wr W18
    have f20 := F_kind.other W18 (Or.inl na1)
    have f21 := F_start.other W18 (Or.inl na1)
    have f22 := F_end.other W18 (Or.inl na1)
    have f23 := F_size.other W18 (Or.inl na1)
    have f24 := A_t1.set W18
    have f25 := A_t2.other W18 (Ne.symm n12)
    have f26 := A_t3.other W18 (Ne.symm n13)
    have Z27 : n0 ≤ h15.size := Nat.le_trans Z0 (Keep.of_wr W18).1
    have K28 := (Keep.refl h0 [a, t1, t2, t3]).wr W18 (Or.inl (List.mem_of_getElem? (i := 1) rfl))
    have N29 := Fr.snoc X16 N0 g1
    refine own_aloadN X16 hx 74 (hb hby d4_73) rfl rfl ?_
    refine own_getF X16 hx hZ hown e17 77 (hw _ (List.mem_of_getElem? (i := 12) rfl)) f21 (hb hby d4_74) rfl (fun T30 X31 e32 => ?_)
    refine own_aloadN X31 hx 78 (hb hby d4_77) rfl rfl ?_
    refine own_getF X31 hx hZ hown e32 81 (hw _ (List.mem_of_getElem? (i := 21) rfl)) f23 (hb hby d4_78) rfl (fun T33 X34 e35 => ?_)
    refine own_iloadN X34 hx 82 (hb hby d4_81) rfl rfl ?_
    refine own_iastore X34 hx hZ e35 83 i f25 hz hi (hb hby d4_82) rfl (fun T36 h37 X38 e39 W40 => ?_)
    have f41 := f19.wr W40
    have f42 := f20.other W40 (Or.inl na2)
    have f43 := f21.other W40 (Or.inl na2)
    have f44 := f22.other W40 (Or.inl na2)
    have f45 := f23.other W40 (Or.inl na2)
    have f46 := f24.other W40 n12
    have f47 := f25.set W40
    have f48 := f26.other W40 (Ne.symm n23)
    have Z49 : n0 ≤ h37.size := Nat.le_trans Z27 (Keep.of_wr W40).1
    have K50 := K28.wr W40 (Or.inl (List.mem_of_getElem? (i := 2) rfl))
    have N51 := Fr.snoc X38 N29 g2
    refine own_aloadN X38 hx 84 (hb hby d4_83) rfl rfl ?_
    refine own_getF X38 hx hZ hown e39 87 (hw _ (List.mem_of_getElem? (i := 14) rfl)) f44 (hb hby d4_84) rfl (fun T52 X53 e54 => ?_)
    refine own_aloadN X53 hx 88 (hb hby d4_87) rfl rfl ?_
    refine own_dup X53 hx 89 rfl (hb hby d4_88) rfl ?_
    refine own_getF X53 hx hZ hown e54 92 (hw _ (List.mem_of_getElem? (i := 21) rfl)) f45 (hb hby d4_89) rfl (fun T55 X56 e57 => ?_)
    refine own_dupX1 X56 hx 93 rfl rfl (hb hby d4_92) rfl ?_
    refine own_iconst X56 hx 94 (1 : Int32) (by decide) (hb hby d4_93) rfl ?_
    refine own_iadd X56 hx 95 (hb hby d4_94) rfl ?_
    refine own_putF X56 hx hZ hown e57 98 (hw _ (List.mem_of_getElem? (i := 21) rfl)) f45 f41 (Or.inl (hw _ (List.mem_of_getElem? (i := 22) rfl))) (hw _ (List.mem_of_getElem? (i := 1) rfl)) (ty := .int) (by decide) rfl rfl (hb hby d4_95) rfl (fun T58 h59 X60 e61 W62 => ?_)
    have f63 := f41.wr W62
    have f64 := f42.other W62 (Or.inr (slot_ne (Or.inl (hw _ (List.mem_of_getElem? (i := 11) rfl))) (Or.inl (hw _ (List.mem_of_getElem? (i := 22) rfl))) (by decide) (t := (.array .int)) (t' := .int) (by decide) (by decide)))
    have f65 := f43.other W62 (Or.inr (slot_ne (Or.inl (hw _ (List.mem_of_getElem? (i := 13) rfl))) (Or.inl (hw _ (List.mem_of_getElem? (i := 22) rfl))) (by decide) (t := (.array .int)) (t' := .int) (by decide) (by decide)))
    have f66 := f44.other W62 (Or.inr (slot_ne (Or.inl (hw _ (List.mem_of_getElem? (i := 15) rfl))) (Or.inl (hw _ (List.mem_of_getElem? (i := 22) rfl))) (by decide) (t := (.array .int)) (t' := .int) (by decide) (by decide)))
    have f67 := f45.same W62
    have f68 := f46.other W62 (Ne.symm na1)
    have f69 := f47.other W62 (Ne.symm na2)
    have f70 := f48.other W62 (Ne.symm na3)
    have Z71 : n0 ≤ h59.size := Nat.le_trans Z49 (Keep.of_wr W62).1
    have K72 := K50.wr W62 (Or.inl (List.mem_of_getElem? (i := 0) rfl))
    have N73 := Fr.snoc X60 N51 ga
    refine own_iloadN X60 hx 99 (hb hby d4_98) rfl rfl ?_
    refine own_iastore X60 hx hZ e61 100 i f70 hz hi (hb hby d4_99) rfl (fun T74 h75 X76 e77 W78 => ?_)
    have f79 := f63.wr W78
    have f80 := f64.other W78 (Or.inl na3)
    have f81 := f65.other W78 (Or.inl na3)
    have f82 := f66.other W78 (Or.inl na3)
    have f83 := f67.other W78 (Or.inl na3)
    have f84 := f68.other W78 n13
    have f85 := f69.other W78 n23
    have f86 := f70.set W78
    have Z87 : n0 ≤ h75.size := Nat.le_trans Z71 (Keep.of_wr W78).1
    have K88 := K72.wr W78 (Or.inl (List.mem_of_getElem? (i := 3) rfl))
    have N89 := Fr.snoc X76 N73 g3
    exact own_retV X76 hx hret hlk (hb hby d4_100) (by decide) (by decide) ⟨rfl, N89, by rw [e77]; exact ⟨K88, f80, f81, f82, by rw [← hz1]; exact f83, f84, f85, f86⟩⟩
  · exact absurd hz (by rw [h7]; intro q; have : (16 : Int32).toInt = 16 := rfl; omega)
def own_find0 (f1 : Nat → Int32) (p1 : Int32) : Int32 := (0 : Int32)
theorem d30_0 : decode prog_34_method_6_code 0 = .ok (.iconst 0, 1) := by decide +kernel
theorem d30_1 : decode prog_34_method_6_code 1 = .ok (.istore_n 2, 1) := by decide +kernel
theorem d30_2 : decode prog_34_method_6_code 2 = .ok (.iload_n 2, 1) := by decide +kernel
theorem d30_3 : decode prog_34_method_6_code 3 = .ok (.aload_n 0, 1) := by decide +kernel
theorem d30_4 : decode prog_34_method_6_code 4 = .ok (.getfield 27, 3) := by decide +kernel
theorem d30_7 : decode prog_34_method_6_code 7 = .ok (.if_icmp .ge 19, 3) := by decide +kernel
theorem d30_26 : decode prog_34_method_6_code 26 = .ok (.iload_n 2, 1) := by decide +kernel
theorem d30_27 : decode prog_34_method_6_code 27 = .ok (.ireturn, 1) := by decide +kernel
set_option maxRecDepth 65536 in
set_option maxHeartbeats 40000000 in
theorem rm3_0 (l : Launch) (Z : State) (a0 : Array Value) (hw : ∀ d ∈ tables_1, d.before a0 Z = true) (a t1 : Addr) (p1 : Int32) (f1 : Nat → Int32) (h0 : Heap) (n0 : Nat) (Z0 : n0 ≤ h0.size) (E_a : Exa Z h0 a site_80.cls) (F_kind : Fld Z h0 a site_80.cls "kind" "[I" (.ref t1)) (F_size : Fld Z h0 a site_80.cls "size" "I" (.int (0 : Int32))) (A_t1 : own_AI Z h0 t1 .int 16 f1) :
    own_C l Z site_191 prog_34_method_6_code 3 (some .int) [] ({ frames := 0, cells := 0, slots := 0, locals := 0 } : Room) #[(.ref a), (.int p1)] h0 (fun v h L => v = some (.int (own_find0 f1 p1)) ∧ Fr n0 L ∧ h = h0) := by
  refine own_body (by first | (simp [plainName, overriddenIn]; done) | decide +kernel) ?_
  intro p e s m below meth c T0 hx hby hml hown hnm hret hlk hZ X0 e0
  have N0 := Fr.nil n0
  refine own_eq (f' := (mkF m 0 #[.val (.ref a), .val (.int p1), .unset] [])) (by first | (simp [entryFrame, mkF, argsToLocals, Value.category]; done) | rfl) ?_
  refine own_iconst X0 hx 1 (0 : Int32) (by decide) (hb hby d30_0) rfl ?_
  refine own_istoreN X0 hx 2 #[.val (.ref a), .val (.int p1), .val (.int (0 : Int32))] rfl (hb hby d30_1) rfl rfl ?_
  refine own_iloadN X0 hx 3 (hb hby d30_2) rfl rfl ?_
  refine own_aloadN X0 hx 4 (hb hby d30_3) rfl rfl ?_
  refine own_getF X0 hx hZ hown e0 7 (hw _ (List.mem_of_getElem? (i := 21) rfl)) F_size (hb hby d30_4) rfl (fun T1 X2 e3 => ?_)
  refine own_icmp_ge X2 hx 26 10 (hb hby d30_7) (by decide) (by decide) rfl (fun h4 => ?_) (fun h4 => ?_)
  · show own_W p e below _ T1 (mkF m 26 #[.val (.ref a), .val (.int p1), .val (.int (0 : Int32))] [])
    refine own_iloadN X2 hx 27 (hb hby d30_26) rfl rfl ?_
    exact own_retI X2 hx hret hlk (hb hby d30_27) (by decide) (by decide) ⟨by unfold own_find0; skip; rfl, N0, e3⟩
  · exact absurd h4 (by decide)
def own_find1 (f1 : Nat → Int32) (p1 : Int32) : Int32 := (if (f1 0) = p1 then (0 : Int32) else (1 : Int32))
theorem d31_0 : decode prog_34_method_6_code 0 = .ok (.iconst 0, 1) := by decide +kernel
theorem d31_1 : decode prog_34_method_6_code 1 = .ok (.istore_n 2, 1) := by decide +kernel
theorem d31_2 : decode prog_34_method_6_code 2 = .ok (.iload_n 2, 1) := by decide +kernel
theorem d31_3 : decode prog_34_method_6_code 3 = .ok (.aload_n 0, 1) := by decide +kernel
theorem d31_4 : decode prog_34_method_6_code 4 = .ok (.getfield 27, 3) := by decide +kernel
theorem d31_7 : decode prog_34_method_6_code 7 = .ok (.if_icmp .ge 19, 3) := by decide +kernel
theorem d31_10 : decode prog_34_method_6_code 10 = .ok (.aload_n 0, 1) := by decide +kernel
theorem d31_11 : decode prog_34_method_6_code 11 = .ok (.getfield 7, 3) := by decide +kernel
theorem d31_14 : decode prog_34_method_6_code 14 = .ok (.iload_n 2, 1) := by decide +kernel
theorem d31_15 : decode prog_34_method_6_code 15 = .ok (.iaload, 1) := by decide +kernel
theorem d31_16 : decode prog_34_method_6_code 16 = .ok (.iload_n 1, 1) := by decide +kernel
theorem d31_17 : decode prog_34_method_6_code 17 = .ok (.if_icmp .eq 9, 3) := by decide +kernel
theorem d31_20 : decode prog_34_method_6_code 20 = .ok (.iinc 2 1, 3) := by decide +kernel
theorem d31_23 : decode prog_34_method_6_code 23 = .ok (.goto (-21), 3) := by decide +kernel
theorem d31_26 : decode prog_34_method_6_code 26 = .ok (.iload_n 2, 1) := by decide +kernel
theorem d31_27 : decode prog_34_method_6_code 27 = .ok (.ireturn, 1) := by decide +kernel
set_option maxRecDepth 65536 in
set_option maxHeartbeats 40000000 in
theorem rm3_1 (l : Launch) (Z : State) (a0 : Array Value) (hw : ∀ d ∈ tables_1, d.before a0 Z = true) (a t1 : Addr) (p1 : Int32) (f1 : Nat → Int32) (h0 : Heap) (n0 : Nat) (Z0 : n0 ≤ h0.size) (E_a : Exa Z h0 a site_80.cls) (F_kind : Fld Z h0 a site_80.cls "kind" "[I" (.ref t1)) (F_size : Fld Z h0 a site_80.cls "size" "I" (.int (1 : Int32))) (A_t1 : own_AI Z h0 t1 .int 16 f1) :
    own_C l Z site_191 prog_34_method_6_code 3 (some .int) [] ({ frames := 0, cells := 0, slots := 0, locals := 0 } : Room) #[(.ref a), (.int p1)] h0 (fun v h L => v = some (.int (own_find1 f1 p1)) ∧ Fr n0 L ∧ h = h0) := by
  refine own_body (by first | (simp [plainName, overriddenIn]; done) | decide +kernel) ?_
  intro p e s m below meth c T0 hx hby hml hown hnm hret hlk hZ X0 e0
  have N0 := Fr.nil n0
  refine own_eq (f' := (mkF m 0 #[.val (.ref a), .val (.int p1), .unset] [])) (by first | (simp [entryFrame, mkF, argsToLocals, Value.category]; done) | rfl) ?_
  refine own_iconst X0 hx 1 (0 : Int32) (by decide) (hb hby d31_0) rfl ?_
  refine own_istoreN X0 hx 2 #[.val (.ref a), .val (.int p1), .val (.int (0 : Int32))] rfl (hb hby d31_1) rfl rfl ?_
  refine own_iloadN X0 hx 3 (hb hby d31_2) rfl rfl ?_
  refine own_aloadN X0 hx 4 (hb hby d31_3) rfl rfl ?_
  refine own_getF X0 hx hZ hown e0 7 (hw _ (List.mem_of_getElem? (i := 21) rfl)) F_size (hb hby d31_4) rfl (fun T1 X2 e3 => ?_)
  refine own_icmp_ge X2 hx 26 10 (hb hby d31_7) (by decide) (by decide) rfl (fun h4 => ?_) (fun h4 => ?_)
  · exact absurd h4 (by decide)
  · show own_W p e below _ T1 (mkF m 10 #[.val (.ref a), .val (.int p1), .val (.int (0 : Int32))] [])
    refine own_aloadN X2 hx 11 (hb hby d31_10) rfl rfl ?_
    refine own_getF X2 hx hZ hown e3 14 (hw _ (List.mem_of_getElem? (i := 10) rfl)) F_kind (hb hby d31_11) rfl (fun T5 X6 e7 => ?_)
    refine own_iloadN X6 hx 15 (hb hby d31_14) rfl rfl ?_
    refine own_iaload X6 hx hZ e7 16 0 A_t1 rfl (by decide) (hb hby d31_15) rfl ?_
    refine own_iloadN X6 hx 17 (hb hby d31_16) rfl rfl ?_
    refine own_icmp_eq X6 hx 26 20 (hb hby d31_17) (by decide) (by decide) rfl (fun h8 => ?_) (fun h8 => ?_)
    · show own_W p e below _ T5 (mkF m 26 #[.val (.ref a), .val (.int p1), .val (.int (0 : Int32))] [])
      refine own_iloadN X6 hx 27 (hb hby d31_26) rfl rfl ?_
      exact own_retI X6 hx hret hlk (hb hby d31_27) (by decide) (by decide) ⟨by unfold own_find1; rw [if_pos h8], N0, e7⟩
    · show own_W p e below _ T5 (mkF m 20 #[.val (.ref a), .val (.int p1), .val (.int (0 : Int32))] [])
      refine own_iinc X6 hx (1 : Int32) 23 #[.val (.ref a), .val (.int p1), .val (.int (1 : Int32))] (by decide) (hb hby d31_20) rfl rfl rfl ?_
      refine own_goto X6 hx 2 (hb hby d31_23) (by decide) (by decide) ?_
      refine own_iloadN X6 hx 3 (hb hby d31_2) rfl rfl ?_
      refine own_aloadN X6 hx 4 (hb hby d31_3) rfl rfl ?_
      refine own_getF X6 hx hZ hown e7 7 (hw _ (List.mem_of_getElem? (i := 21) rfl)) F_size (hb hby d31_4) rfl (fun T9 X10 e11 => ?_)
      refine own_icmp_ge X10 hx 26 10 (hb hby d31_7) (by decide) (by decide) rfl (fun h12 => ?_) (fun h12 => ?_)
      · show own_W p e below _ T9 (mkF m 26 #[.val (.ref a), .val (.int p1), .val (.int (1 : Int32))] [])
        refine own_iloadN X10 hx 27 (hb hby d31_26) rfl rfl ?_
        exact own_retI X10 hx hret hlk (hb hby d31_27) (by decide) (by decide) ⟨by unfold own_find1; rw [if_neg h8], N0, e11⟩
      · exact absurd h12 (by decide)
def own_find2 (f1 : Nat → Int32) (p1 : Int32) : Int32 := (if (f1 0) = p1 then (0 : Int32) else (if (f1 1) = p1 then (1 : Int32) else (2 : Int32)))
theorem d32_0 : decode prog_34_method_6_code 0 = .ok (.iconst 0, 1) := by decide +kernel
theorem d32_1 : decode prog_34_method_6_code 1 = .ok (.istore_n 2, 1) := by decide +kernel
theorem d32_2 : decode prog_34_method_6_code 2 = .ok (.iload_n 2, 1) := by decide +kernel
theorem d32_3 : decode prog_34_method_6_code 3 = .ok (.aload_n 0, 1) := by decide +kernel
theorem d32_4 : decode prog_34_method_6_code 4 = .ok (.getfield 27, 3) := by decide +kernel
theorem d32_7 : decode prog_34_method_6_code 7 = .ok (.if_icmp .ge 19, 3) := by decide +kernel
theorem d32_10 : decode prog_34_method_6_code 10 = .ok (.aload_n 0, 1) := by decide +kernel
theorem d32_11 : decode prog_34_method_6_code 11 = .ok (.getfield 7, 3) := by decide +kernel
theorem d32_14 : decode prog_34_method_6_code 14 = .ok (.iload_n 2, 1) := by decide +kernel
theorem d32_15 : decode prog_34_method_6_code 15 = .ok (.iaload, 1) := by decide +kernel
theorem d32_16 : decode prog_34_method_6_code 16 = .ok (.iload_n 1, 1) := by decide +kernel
theorem d32_17 : decode prog_34_method_6_code 17 = .ok (.if_icmp .eq 9, 3) := by decide +kernel
theorem d32_20 : decode prog_34_method_6_code 20 = .ok (.iinc 2 1, 3) := by decide +kernel
theorem d32_23 : decode prog_34_method_6_code 23 = .ok (.goto (-21), 3) := by decide +kernel
theorem d32_26 : decode prog_34_method_6_code 26 = .ok (.iload_n 2, 1) := by decide +kernel
theorem d32_27 : decode prog_34_method_6_code 27 = .ok (.ireturn, 1) := by decide +kernel
set_option maxRecDepth 65536 in
set_option maxHeartbeats 40000000 in
theorem rm3_2 (l : Launch) (Z : State) (a0 : Array Value) (hw : ∀ d ∈ tables_1, d.before a0 Z = true) (a t1 : Addr) (p1 : Int32) (f1 : Nat → Int32) (h0 : Heap) (n0 : Nat) (Z0 : n0 ≤ h0.size) (E_a : Exa Z h0 a site_80.cls) (F_kind : Fld Z h0 a site_80.cls "kind" "[I" (.ref t1)) (F_size : Fld Z h0 a site_80.cls "size" "I" (.int (2 : Int32))) (A_t1 : own_AI Z h0 t1 .int 16 f1) :
    own_C l Z site_191 prog_34_method_6_code 3 (some .int) [] ({ frames := 0, cells := 0, slots := 0, locals := 0 } : Room) #[(.ref a), (.int p1)] h0 (fun v h L => v = some (.int (own_find2 f1 p1)) ∧ Fr n0 L ∧ h = h0) := by
  refine own_body (by first | (simp [plainName, overriddenIn]; done) | decide +kernel) ?_
  intro p e s m below meth c T0 hx hby hml hown hnm hret hlk hZ X0 e0
  have N0 := Fr.nil n0
  refine own_eq (f' := (mkF m 0 #[.val (.ref a), .val (.int p1), .unset] [])) (by first | (simp [entryFrame, mkF, argsToLocals, Value.category]; done) | rfl) ?_
  refine own_iconst X0 hx 1 (0 : Int32) (by decide) (hb hby d32_0) rfl ?_
  refine own_istoreN X0 hx 2 #[.val (.ref a), .val (.int p1), .val (.int (0 : Int32))] rfl (hb hby d32_1) rfl rfl ?_
  refine own_iloadN X0 hx 3 (hb hby d32_2) rfl rfl ?_
  refine own_aloadN X0 hx 4 (hb hby d32_3) rfl rfl ?_
  refine own_getF X0 hx hZ hown e0 7 (hw _ (List.mem_of_getElem? (i := 21) rfl)) F_size (hb hby d32_4) rfl (fun T1 X2 e3 => ?_)
  refine own_icmp_ge X2 hx 26 10 (hb hby d32_7) (by decide) (by decide) rfl (fun h4 => ?_) (fun h4 => ?_)
  · exact absurd h4 (by decide)
  · show own_W p e below _ T1 (mkF m 10 #[.val (.ref a), .val (.int p1), .val (.int (0 : Int32))] [])
    refine own_aloadN X2 hx 11 (hb hby d32_10) rfl rfl ?_
    refine own_getF X2 hx hZ hown e3 14 (hw _ (List.mem_of_getElem? (i := 10) rfl)) F_kind (hb hby d32_11) rfl (fun T5 X6 e7 => ?_)
    refine own_iloadN X6 hx 15 (hb hby d32_14) rfl rfl ?_
    refine own_iaload X6 hx hZ e7 16 0 A_t1 rfl (by decide) (hb hby d32_15) rfl ?_
    refine own_iloadN X6 hx 17 (hb hby d32_16) rfl rfl ?_
    refine own_icmp_eq X6 hx 26 20 (hb hby d32_17) (by decide) (by decide) rfl (fun h8 => ?_) (fun h8 => ?_)
    · show own_W p e below _ T5 (mkF m 26 #[.val (.ref a), .val (.int p1), .val (.int (0 : Int32))] [])
      refine own_iloadN X6 hx 27 (hb hby d32_26) rfl rfl ?_
      exact own_retI X6 hx hret hlk (hb hby d32_27) (by decide) (by decide) ⟨by unfold own_find2; rw [if_pos h8], N0, e7⟩
    · show own_W p e below _ T5 (mkF m 20 #[.val (.ref a), .val (.int p1), .val (.int (0 : Int32))] [])
      refine own_iinc X6 hx (1 : Int32) 23 #[.val (.ref a), .val (.int p1), .val (.int (1 : Int32))] (by decide) (hb hby d32_20) rfl rfl rfl ?_
      refine own_goto X6 hx 2 (hb hby d32_23) (by decide) (by decide) ?_
      refine own_iloadN X6 hx 3 (hb hby d32_2) rfl rfl ?_
      refine own_aloadN X6 hx 4 (hb hby d32_3) rfl rfl ?_
      refine own_getF X6 hx hZ hown e7 7 (hw _ (List.mem_of_getElem? (i := 21) rfl)) F_size (hb hby d32_4) rfl (fun T9 X10 e11 => ?_)
      refine own_icmp_ge X10 hx 26 10 (hb hby d32_7) (by decide) (by decide) rfl (fun h12 => ?_) (fun h12 => ?_)
      · exact absurd h12 (by decide)
      · show own_W p e below _ T9 (mkF m 10 #[.val (.ref a), .val (.int p1), .val (.int (1 : Int32))] [])
        refine own_aloadN X10 hx 11 (hb hby d32_10) rfl rfl ?_
        refine own_getF X10 hx hZ hown e11 14 (hw _ (List.mem_of_getElem? (i := 10) rfl)) F_kind (hb hby d32_11) rfl (fun T13 X14 e15 => ?_)
        refine own_iloadN X14 hx 15 (hb hby d32_14) rfl rfl ?_
        refine own_iaload X14 hx hZ e15 16 1 A_t1 rfl (by decide) (hb hby d32_15) rfl ?_
        refine own_iloadN X14 hx 17 (hb hby d32_16) rfl rfl ?_
        refine own_icmp_eq X14 hx 26 20 (hb hby d32_17) (by decide) (by decide) rfl (fun h16 => ?_) (fun h16 => ?_)
        · show own_W p e below _ T13 (mkF m 26 #[.val (.ref a), .val (.int p1), .val (.int (1 : Int32))] [])
          refine own_iloadN X14 hx 27 (hb hby d32_26) rfl rfl ?_
          exact own_retI X14 hx hret hlk (hb hby d32_27) (by decide) (by decide) ⟨by unfold own_find2; rw [if_neg h8, if_pos h16], N0, e15⟩
        · show own_W p e below _ T13 (mkF m 20 #[.val (.ref a), .val (.int p1), .val (.int (1 : Int32))] [])
          refine own_iinc X14 hx (2 : Int32) 23 #[.val (.ref a), .val (.int p1), .val (.int (2 : Int32))] (by decide) (hb hby d32_20) rfl rfl rfl ?_
          refine own_goto X14 hx 2 (hb hby d32_23) (by decide) (by decide) ?_
          refine own_iloadN X14 hx 3 (hb hby d32_2) rfl rfl ?_
          refine own_aloadN X14 hx 4 (hb hby d32_3) rfl rfl ?_
          refine own_getF X14 hx hZ hown e15 7 (hw _ (List.mem_of_getElem? (i := 21) rfl)) F_size (hb hby d32_4) rfl (fun T17 X18 e19 => ?_)
          refine own_icmp_ge X18 hx 26 10 (hb hby d32_7) (by decide) (by decide) rfl (fun h20 => ?_) (fun h20 => ?_)
          · show own_W p e below _ T17 (mkF m 26 #[.val (.ref a), .val (.int p1), .val (.int (2 : Int32))] [])
            refine own_iloadN X18 hx 27 (hb hby d32_26) rfl rfl ?_
            exact own_retI X18 hx hret hlk (hb hby d32_27) (by decide) (by decide) ⟨by unfold own_find2; rw [if_neg h8, if_neg h16], N0, e19⟩
          · exact absurd h20 (by decide)
def own_find3 (f1 : Nat → Int32) (p1 : Int32) : Int32 := (if (f1 0) = p1 then (0 : Int32) else (if (f1 1) = p1 then (1 : Int32) else (if (f1 2) = p1 then (2 : Int32) else (3 : Int32))))
theorem d33_0 : decode prog_34_method_6_code 0 = .ok (.iconst 0, 1) := by decide +kernel
theorem d33_1 : decode prog_34_method_6_code 1 = .ok (.istore_n 2, 1) := by decide +kernel
theorem d33_2 : decode prog_34_method_6_code 2 = .ok (.iload_n 2, 1) := by decide +kernel
theorem d33_3 : decode prog_34_method_6_code 3 = .ok (.aload_n 0, 1) := by decide +kernel
theorem d33_4 : decode prog_34_method_6_code 4 = .ok (.getfield 27, 3) := by decide +kernel
theorem d33_7 : decode prog_34_method_6_code 7 = .ok (.if_icmp .ge 19, 3) := by decide +kernel
theorem d33_10 : decode prog_34_method_6_code 10 = .ok (.aload_n 0, 1) := by decide +kernel
theorem d33_11 : decode prog_34_method_6_code 11 = .ok (.getfield 7, 3) := by decide +kernel
theorem d33_14 : decode prog_34_method_6_code 14 = .ok (.iload_n 2, 1) := by decide +kernel
theorem d33_15 : decode prog_34_method_6_code 15 = .ok (.iaload, 1) := by decide +kernel
theorem d33_16 : decode prog_34_method_6_code 16 = .ok (.iload_n 1, 1) := by decide +kernel
theorem d33_17 : decode prog_34_method_6_code 17 = .ok (.if_icmp .eq 9, 3) := by decide +kernel
theorem d33_20 : decode prog_34_method_6_code 20 = .ok (.iinc 2 1, 3) := by decide +kernel
theorem d33_23 : decode prog_34_method_6_code 23 = .ok (.goto (-21), 3) := by decide +kernel
theorem d33_26 : decode prog_34_method_6_code 26 = .ok (.iload_n 2, 1) := by decide +kernel
theorem d33_27 : decode prog_34_method_6_code 27 = .ok (.ireturn, 1) := by decide +kernel
set_option maxRecDepth 65536 in
set_option maxHeartbeats 40000000 in
theorem rm3_3 (l : Launch) (Z : State) (a0 : Array Value) (hw : ∀ d ∈ tables_1, d.before a0 Z = true) (a t1 : Addr) (p1 : Int32) (f1 : Nat → Int32) (h0 : Heap) (n0 : Nat) (Z0 : n0 ≤ h0.size) (E_a : Exa Z h0 a site_80.cls) (F_kind : Fld Z h0 a site_80.cls "kind" "[I" (.ref t1)) (F_size : Fld Z h0 a site_80.cls "size" "I" (.int (3 : Int32))) (A_t1 : own_AI Z h0 t1 .int 16 f1) :
    own_C l Z site_191 prog_34_method_6_code 3 (some .int) [] ({ frames := 0, cells := 0, slots := 0, locals := 0 } : Room) #[(.ref a), (.int p1)] h0 (fun v h L => v = some (.int (own_find3 f1 p1)) ∧ Fr n0 L ∧ h = h0) := by
  refine own_body (by first | (simp [plainName, overriddenIn]; done) | decide +kernel) ?_
  intro p e s m below meth c T0 hx hby hml hown hnm hret hlk hZ X0 e0
  have N0 := Fr.nil n0
  refine own_eq (f' := (mkF m 0 #[.val (.ref a), .val (.int p1), .unset] [])) (by first | (simp [entryFrame, mkF, argsToLocals, Value.category]; done) | rfl) ?_
  refine own_iconst X0 hx 1 (0 : Int32) (by decide) (hb hby d33_0) rfl ?_
  refine own_istoreN X0 hx 2 #[.val (.ref a), .val (.int p1), .val (.int (0 : Int32))] rfl (hb hby d33_1) rfl rfl ?_
  refine own_iloadN X0 hx 3 (hb hby d33_2) rfl rfl ?_
  refine own_aloadN X0 hx 4 (hb hby d33_3) rfl rfl ?_
  refine own_getF X0 hx hZ hown e0 7 (hw _ (List.mem_of_getElem? (i := 21) rfl)) F_size (hb hby d33_4) rfl (fun T1 X2 e3 => ?_)
  refine own_icmp_ge X2 hx 26 10 (hb hby d33_7) (by decide) (by decide) rfl (fun h4 => ?_) (fun h4 => ?_)
  · exact absurd h4 (by decide)
  · show own_W p e below _ T1 (mkF m 10 #[.val (.ref a), .val (.int p1), .val (.int (0 : Int32))] [])
    refine own_aloadN X2 hx 11 (hb hby d33_10) rfl rfl ?_
    refine own_getF X2 hx hZ hown e3 14 (hw _ (List.mem_of_getElem? (i := 10) rfl)) F_kind (hb hby d33_11) rfl (fun T5 X6 e7 => ?_)
    refine own_iloadN X6 hx 15 (hb hby d33_14) rfl rfl ?_
    refine own_iaload X6 hx hZ e7 16 0 A_t1 rfl (by decide) (hb hby d33_15) rfl ?_
    refine own_iloadN X6 hx 17 (hb hby d33_16) rfl rfl ?_
    refine own_icmp_eq X6 hx 26 20 (hb hby d33_17) (by decide) (by decide) rfl (fun h8 => ?_) (fun h8 => ?_)
    · show own_W p e below _ T5 (mkF m 26 #[.val (.ref a), .val (.int p1), .val (.int (0 : Int32))] [])
      refine own_iloadN X6 hx 27 (hb hby d33_26) rfl rfl ?_
      exact own_retI X6 hx hret hlk (hb hby d33_27) (by decide) (by decide) ⟨by unfold own_find3; rw [if_pos h8], N0, e7⟩
    · show own_W p e below _ T5 (mkF m 20 #[.val (.ref a), .val (.int p1), .val (.int (0 : Int32))] [])
      refine own_iinc X6 hx (1 : Int32) 23 #[.val (.ref a), .val (.int p1), .val (.int (1 : Int32))] (by decide) (hb hby d33_20) rfl rfl rfl ?_
      refine own_goto X6 hx 2 (hb hby d33_23) (by decide) (by decide) ?_
      refine own_iloadN X6 hx 3 (hb hby d33_2) rfl rfl ?_
      refine own_aloadN X6 hx 4 (hb hby d33_3) rfl rfl ?_
      refine own_getF X6 hx hZ hown e7 7 (hw _ (List.mem_of_getElem? (i := 21) rfl)) F_size (hb hby d33_4) rfl (fun T9 X10 e11 => ?_)
      refine own_icmp_ge X10 hx 26 10 (hb hby d33_7) (by decide) (by decide) rfl (fun h12 => ?_) (fun h12 => ?_)
      · exact absurd h12 (by decide)
      · show own_W p e below _ T9 (mkF m 10 #[.val (.ref a), .val (.int p1), .val (.int (1 : Int32))] [])
        refine own_aloadN X10 hx 11 (hb hby d33_10) rfl rfl ?_
        refine own_getF X10 hx hZ hown e11 14 (hw _ (List.mem_of_getElem? (i := 10) rfl)) F_kind (hb hby d33_11) rfl (fun T13 X14 e15 => ?_)
        refine own_iloadN X14 hx 15 (hb hby d33_14) rfl rfl ?_
        refine own_iaload X14 hx hZ e15 16 1 A_t1 rfl (by decide) (hb hby d33_15) rfl ?_
        refine own_iloadN X14 hx 17 (hb hby d33_16) rfl rfl ?_
        refine own_icmp_eq X14 hx 26 20 (hb hby d33_17) (by decide) (by decide) rfl (fun h16 => ?_) (fun h16 => ?_)
        · show own_W p e below _ T13 (mkF m 26 #[.val (.ref a), .val (.int p1), .val (.int (1 : Int32))] [])
          refine own_iloadN X14 hx 27 (hb hby d33_26) rfl rfl ?_
          exact own_retI X14 hx hret hlk (hb hby d33_27) (by decide) (by decide) ⟨by unfold own_find3; rw [if_neg h8, if_pos h16], N0, e15⟩
        · show own_W p e below _ T13 (mkF m 20 #[.val (.ref a), .val (.int p1), .val (.int (1 : Int32))] [])
          refine own_iinc X14 hx (2 : Int32) 23 #[.val (.ref a), .val (.int p1), .val (.int (2 : Int32))] (by decide) (hb hby d33_20) rfl rfl rfl ?_
          refine own_goto X14 hx 2 (hb hby d33_23) (by decide) (by decide) ?_
          refine own_iloadN X14 hx 3 (hb hby d33_2) rfl rfl ?_
          refine own_aloadN X14 hx 4 (hb hby d33_3) rfl rfl ?_
          refine own_getF X14 hx hZ hown e15 7 (hw _ (List.mem_of_getElem? (i := 21) rfl)) F_size (hb hby d33_4) rfl (fun T17 X18 e19 => ?_)
          refine own_icmp_ge X18 hx 26 10 (hb hby d33_7) (by decide) (by decide) rfl (fun h20 => ?_) (fun h20 => ?_)
          · exact absurd h20 (by decide)
          · show own_W p e below _ T17 (mkF m 10 #[.val (.ref a), .val (.int p1), .val (.int (2 : Int32))] [])
            refine own_aloadN X18 hx 11 (hb hby d33_10) rfl rfl ?_
            refine own_getF X18 hx hZ hown e19 14 (hw _ (List.mem_of_getElem? (i := 10) rfl)) F_kind (hb hby d33_11) rfl (fun T21 X22 e23 => ?_)
            refine own_iloadN X22 hx 15 (hb hby d33_14) rfl rfl ?_
            refine own_iaload X22 hx hZ e23 16 2 A_t1 rfl (by decide) (hb hby d33_15) rfl ?_
            refine own_iloadN X22 hx 17 (hb hby d33_16) rfl rfl ?_
            refine own_icmp_eq X22 hx 26 20 (hb hby d33_17) (by decide) (by decide) rfl (fun h24 => ?_) (fun h24 => ?_)
            · show own_W p e below _ T21 (mkF m 26 #[.val (.ref a), .val (.int p1), .val (.int (2 : Int32))] [])
              refine own_iloadN X22 hx 27 (hb hby d33_26) rfl rfl ?_
              exact own_retI X22 hx hret hlk (hb hby d33_27) (by decide) (by decide) ⟨by unfold own_find3; rw [if_neg h8, if_neg h16, if_pos h24], N0, e23⟩
            · show own_W p e below _ T21 (mkF m 20 #[.val (.ref a), .val (.int p1), .val (.int (2 : Int32))] [])
              refine own_iinc X22 hx (3 : Int32) 23 #[.val (.ref a), .val (.int p1), .val (.int (3 : Int32))] (by decide) (hb hby d33_20) rfl rfl rfl ?_
              refine own_goto X22 hx 2 (hb hby d33_23) (by decide) (by decide) ?_
              refine own_iloadN X22 hx 3 (hb hby d33_2) rfl rfl ?_
              refine own_aloadN X22 hx 4 (hb hby d33_3) rfl rfl ?_
              refine own_getF X22 hx hZ hown e23 7 (hw _ (List.mem_of_getElem? (i := 21) rfl)) F_size (hb hby d33_4) rfl (fun T25 X26 e27 => ?_)
              refine own_icmp_ge X26 hx 26 10 (hb hby d33_7) (by decide) (by decide) rfl (fun h28 => ?_) (fun h28 => ?_)
              · show own_W p e below _ T25 (mkF m 26 #[.val (.ref a), .val (.int p1), .val (.int (3 : Int32))] [])
                refine own_iloadN X26 hx 27 (hb hby d33_26) rfl rfl ?_
                exact own_retI X26 hx hret hlk (hb hby d33_27) (by decide) (by decide) ⟨by unfold own_find3; rw [if_neg h8, if_neg h16, if_neg h24], N0, e27⟩
              · exact absurd h28 (by decide)
set_option maxRecDepth 65536 in
set_option maxHeartbeats 40000000 in
theorem rm0 (l : Launch) (Z : State) (a0 : Array Value) (hw : ∀ d ∈ tables_1, d.before a0 Z = true) (p0 : Int32) (p1 : Int32) (p2 : Int32) (p3 : Int32) (p4 : Int32) (p5 : Int32) (h0 : Heap) (n0 : Nat) (Z0 : n0 ≤ h0.size)  :
    own_C l Z x code maxLocals ret tables_1 room_1 #[(.int p0), (.int p1), (.int p2), (.int p3), (.int p4), (.int p5)] h0 (fun v h L => v = some (.int 1) ∧ Fr n0 L) := by
  refine own_body (by first | (simp [plainName, overriddenIn]; done) | decide +kernel) ?_
  intro p e s m below meth c T0 hx hby hml hown hnm hret hlk hZ X0 e0
  have N0 := Fr.nil n0
  refine own_eq (f' := (mkF m 0 #[.val (.int p0), .val (.int p1), .val (.int p2), .val (.int p3), .val (.int p4), .val (.int p5), .unset, .unset, .unset, .unset, .unset, .unset, .unset] [])) (by first | (simp [entryFrame, mkF, argsToLocals, Value.category, maxLocals]; done) | rfl) ?_
  refine own_iloadN X0 hx 1 (hb hby at_0) rfl rfl ?_
  refine own_iconst X0 hx 2 (3 : Int32) (by decide) (hb hby at_1) rfl ?_
  refine own_iand X0 hx 3 (hb hby at_2) rfl ?_
  obtain ⟨vn, e_vn⟩ : ∃ z : Int32, z = (p0 &&& (3 : Int32)) := ⟨_, rfl⟩
  refine own_istore X0 hx 5 #[.val (.int p0), .val (.int p1), .val (.int p2), .val (.int p3), .val (.int p4), .val (.int p5), .val (.int vn), .unset, .unset, .unset, .unset, .unset, .unset] e_vn (hb hby at_3) rfl rfl ?_
  rcases own_n3 p0 vn e_vn with rfl | rfl | rfl | rfl
  · show own_W p e below _ T0 (mkF m 5 #[.val (.int p0), .val (.int p1), .val (.int p2), .val (.int p3), .val (.int p4), .val (.int p5), .val (.int (0 : Int32)), .unset, .unset, .unset, .unset, .unset, .unset] [])
    refine own_iload X0 hx 7 (hb hby at_5) rfl rfl ?_
    refine own_iconst X0 hx 8 (4 : Int32) (by decide) (hb hby at_7) rfl ?_
    refine own_iand X0 hx 9 (hb hby at_8) rfl ?_
    have J1 : ∀ (kb : Int32) (hj2 : True), own_W p e below (own_K s room_1 (fun v h L => v = some (.int 1) ∧ Fr n0 L)) T0 (mkF m 17 #[.val (.int p0), .val (.int p1), .val (.int p2), .val (.int p3), .val (.int p4), .val (.int p5), .val (.int (0 : Int32)), .unset, .unset, .unset, .unset, .unset, .unset] [(.int kb)]) := by
      intro kb hj2
      refine own_istore X0 hx 19 #[.val (.int p0), .val (.int p1), .val (.int p2), .val (.int p3), .val (.int p4), .val (.int p5), .val (.int (0 : Int32)), .val (.int kb), .unset, .unset, .unset, .unset, .unset] rfl (hb hby at_17) rfl rfl ?_
      refine own_iload X0 hx 21 (hb hby at_19) rfl rfl ?_
      refine own_bipush X0 hx 23 (8 : Int32) (by decide) (hb hby at_21) rfl ?_
      refine own_iand X0 hx 24 (hb hby at_23) rfl ?_
      have J3 : ∀ (kc : Int32) (hj4 : True), own_W p e below (own_K s room_1 (fun v h L => v = some (.int 1) ∧ Fr n0 L)) T0 (mkF m 33 #[.val (.int p0), .val (.int p1), .val (.int p2), .val (.int p3), .val (.int p4), .val (.int p5), .val (.int (0 : Int32)), .val (.int kb), .unset, .unset, .unset, .unset, .unset] [(.int kc)]) := by
        intro kc hj4
        refine own_istore X0 hx 35 #[.val (.int p0), .val (.int p1), .val (.int p2), .val (.int p3), .val (.int p4), .val (.int p5), .val (.int (0 : Int32)), .val (.int kb), .val (.int kc), .unset, .unset, .unset, .unset] rfl (hb hby at_33) rfl rfl ?_
        refine own_iload X0 hx 37 (hb hby at_35) rfl rfl ?_
        refine own_iconst X0 hx 38 (3 : Int32) (by decide) (hb hby at_37) rfl ?_
        refine own_iand X0 hx 39 (hb hby at_38) rfl ?_
        obtain ⟨vs, e_vs⟩ : ∃ z : Int32, z = (p5 &&& (3 : Int32)) := ⟨_, rfl⟩
        refine own_istore X0 hx 41 #[.val (.int p0), .val (.int p1), .val (.int p2), .val (.int p3), .val (.int p4), .val (.int p5), .val (.int (0 : Int32)), .val (.int kb), .val (.int kc), .val (.int vs), .unset, .unset, .unset] e_vs (hb hby at_39) rfl rfl ?_
        refine own_iload X0 hx 43 (hb hby at_41) rfl rfl ?_
        have J5 : ∀ (tg : Int32) (hj6 : True), own_W p e below (own_K s room_1 (fun v h L => v = some (.int 1) ∧ Fr n0 L)) T0 (mkF m 74 #[.val (.int p0), .val (.int p1), .val (.int p2), .val (.int p3), .val (.int p4), .val (.int p5), .val (.int (0 : Int32)), .val (.int kb), .val (.int kc), .val (.int vs), .unset, .unset, .unset] [(.int tg)]) := by
          intro tg hj6
          refine own_istore X0 hx 76 #[.val (.int p0), .val (.int p1), .val (.int p2), .val (.int p3), .val (.int p4), .val (.int p5), .val (.int (0 : Int32)), .val (.int kb), .val (.int kc), .val (.int vs), .val (.int tg), .unset, .unset] rfl (hb hby at_74) rfl rfl ?_
          refine own_new X0 hx hZ hown e0 79 (hw _ (List.mem_of_getElem? (i := 0) rfl)) (hw _ (List.mem_of_getElem? (i := 1) rfl)) (hw _ (List.mem_of_getElem? (i := 2) rfl)) (hb hby at_76) rfl (by decide) (by decide) (fun T7 h8 a9 X10 e11 g12 E13 A14 D15 => ?_)
          have ga16 : n0 ≤ a9 := by rw [g12]; exact Z0
          have Z17 : n0 ≤ h8.size := Nat.le_trans Z0 E13.1
          have f18 : Fld Z h8 a9 site_80.cls "kind" "[I" .null := D15 (Or.inl (hw _ (List.mem_of_getElem? (i := 11) rfl))) (ty := (.array .int)) (by decide)
          have f19 : Fld Z h8 a9 site_80.cls "start" "[I" .null := D15 (Or.inl (hw _ (List.mem_of_getElem? (i := 13) rfl))) (ty := (.array .int)) (by decide)
          have f20 : Fld Z h8 a9 site_80.cls "end" "[I" .null := D15 (Or.inl (hw _ (List.mem_of_getElem? (i := 15) rfl))) (ty := (.array .int)) (by decide)
          have f21 : Fld Z h8 a9 site_80.cls "size" "I" (.int (0 : Int32)) := D15 (Or.inl (hw _ (List.mem_of_getElem? (i := 22) rfl))) (ty := .int) (by decide)
          refine own_dup X10 hx 80 rfl (hb hby at_79) rfl ?_
          refine own_callI X10 hx hZ hown e11 (y := site_80) (a := a9) (argsL := []) (rest := [(.ref a9)]) 83 (rm1 l Z a0 hw a9 h8 n0 Z17 ga16 A14 f18 f19 f20 f21) rfl (hw _ (List.mem_of_getElem? (i := 3) rfl)) (hw _ (List.mem_of_getElem? (i := 4) rfl)) (hw _ (List.mem_of_getElem? (i := 2) rfl)) (hw _ (List.mem_of_getElem? (i := 5) rfl)) (by decide) (by rw [hml]; rfl) (lenOf (by decide +kernel : parseMethodDescriptor "()V" = some ⟨[], none⟩) rfl) rfl (hb hby at_80) rfl (W := 1) rfl (by decide) (by decide) (by decide) (by decide) (fun r22 T23 L24 X25 q26 => ?_)
          obtain ⟨t27, t28, t29, rfl, N30q, K31, ⟨g32, g33, g34⟩, ⟨na35, na36, na37⟩, ⟨nn38, nn39, nn40⟩, f41, f42, f43, f44, f45, f46, f47⟩ := q26
          have N30 := Fr.app N0 N30q
          have f48 := A14.keep K31
          have Z53 : n0 ≤ T23.heap.size := Nat.le_trans Z17 K31.1
          show own_W p e below _ T23 (mkF m 83 #[.val (.int p0), .val (.int p1), .val (.int p2), .val (.int p3), .val (.int p4), .val (.int p5), .val (.int (0 : Int32)), .val (.int kb), .val (.int kc), .val (.int vs), .val (.int tg), .unset, .unset] [(.ref a9)])
          refine own_astore X25 hx 85 #[.val (.int p0), .val (.int p1), .val (.int p2), .val (.int p3), .val (.int p4), .val (.int p5), .val (.int (0 : Int32)), .val (.int kb), .val (.int kc), .val (.int vs), .val (.int tg), .val (.ref a9), .unset] rfl (hb hby at_83) rfl rfl ?_
          refine own_iload X25 hx 87 (hb hby at_85) rfl rfl ?_
          refine own_if_le X25 hx 98 90 (hb hby at_87) (by decide) (by decide) rfl (fun h54 => ?_) (fun h54 => ?_)
          · show own_W p e below _ T23 (mkF m 98 #[.val (.int p0), .val (.int p1), .val (.int p2), .val (.int p3), .val (.int p4), .val (.int p5), .val (.int (0 : Int32)), .val (.int kb), .val (.int kc), .val (.int vs), .val (.int tg), .val (.ref a9), .unset] [])
            refine own_iload X25 hx 100 (hb hby at_98) rfl rfl ?_
            refine own_iconst X25 hx 101 (1 : Int32) (by decide) (hb hby at_100) rfl ?_
            refine own_icmp_le X25 hx 113 104 (hb hby at_101) (by decide) (by decide) rfl (fun h55 => ?_) (fun h55 => ?_)
            · show own_W p e below _ T23 (mkF m 113 #[.val (.int p0), .val (.int p1), .val (.int p2), .val (.int p3), .val (.int p4), .val (.int p5), .val (.int (0 : Int32)), .val (.int kb), .val (.int kc), .val (.int vs), .val (.int tg), .val (.ref a9), .unset] [])
              refine own_iload X25 hx 115 (hb hby at_113) rfl rfl ?_
              refine own_iconst X25 hx 116 (2 : Int32) (by decide) (hb hby at_115) rfl ?_
              refine own_icmp_le X25 hx 128 119 (hb hby at_116) (by decide) (by decide) rfl (fun h56 => ?_) (fun h56 => ?_)
              · show own_W p e below _ T23 (mkF m 128 #[.val (.int p0), .val (.int p1), .val (.int p2), .val (.int p3), .val (.int p4), .val (.int p5), .val (.int (0 : Int32)), .val (.int kb), .val (.int kc), .val (.int vs), .val (.int tg), .val (.ref a9), .unset] [])
                refine own_iload X25 hx 130 (hb hby at_128) rfl rfl ?_
                refine own_if_le X25 hx 145 133 (hb hby at_130) (by decide) (by decide) rfl (fun h57 => ?_) (fun h57 => ?_)
                · show own_W p e below _ T23 (mkF m 145 #[.val (.int p0), .val (.int p1), .val (.int p2), .val (.int p3), .val (.int p4), .val (.int p5), .val (.int (0 : Int32)), .val (.int kb), .val (.int kc), .val (.int vs), .val (.int tg), .val (.ref a9), .unset] [])
                  refine own_iload X25 hx 147 (hb hby at_145) rfl rfl ?_
                  refine own_iconst X25 hx 148 (1 : Int32) (by decide) (hb hby at_147) rfl ?_
                  refine own_icmp_le X25 hx 164 151 (hb hby at_148) (by decide) (by decide) rfl (fun h58 => ?_) (fun h58 => ?_)
                  · show own_W p e below _ T23 (mkF m 164 #[.val (.int p0), .val (.int p1), .val (.int p2), .val (.int p3), .val (.int p4), .val (.int p5), .val (.int (0 : Int32)), .val (.int kb), .val (.int kc), .val (.int vs), .val (.int tg), .val (.ref a9), .unset] [])
                    refine own_iload X25 hx 166 (hb hby at_164) rfl rfl ?_
                    refine own_iconst X25 hx 167 (2 : Int32) (by decide) (hb hby at_166) rfl ?_
                    refine own_icmp_le X25 hx 183 170 (hb hby at_167) (by decide) (by decide) rfl (fun h59 => ?_) (fun h59 => ?_)
                    · show own_W p e below _ T23 (mkF m 183 #[.val (.int p0), .val (.int p1), .val (.int p2), .val (.int p3), .val (.int p4), .val (.int p5), .val (.int (0 : Int32)), .val (.int kb), .val (.int kc), .val (.int vs), .val (.int tg), .val (.ref a9), .unset] [])
                      refine own_iload X25 hx 185 (hb hby at_183) rfl rfl ?_
                      refine own_istore X25 hx 187 #[.val (.int p0), .val (.int p1), .val (.int p2), .val (.int p3), .val (.int p4), .val (.int p5), .val (.int (0 : Int32)), .val (.int kb), .val (.int kc), .val (.int vs), .val (.int tg), .val (.ref a9), .val (.int (0 : Int32))] rfl (hb hby at_185) rfl rfl ?_
                      refine own_aload X25 hx 189 (hb hby at_187) rfl rfl ?_
                      refine own_iload X25 hx 191 (hb hby at_189) rfl rfl ?_
                      refine own_callV X25 hx hZ hown rfl (y := site_191) (a := a9) (argsL := [(.int tg)]) (rest := []) 194 (rm3_0 l Z a0 hw a9 t27 tg (fun _ => 0) T23.heap n0 Z53 f48 f41 f44 f45) f48 (hw _ (List.mem_of_getElem? (i := 16) rfl)) (hw _ (List.mem_of_getElem? (i := 17) rfl)) (hw _ (List.mem_of_getElem? (i := 19) rfl)) (hw _ (List.mem_of_getElem? (i := 18) rfl)) (hw _ (List.mem_of_getElem? (i := 2) rfl)) (hw _ (List.mem_of_getElem? (i := 20) rfl)) (by decide) (by rw [hml]; rfl) (lenOf (by decide +kernel : parseMethodDescriptor "(I)I" = some ⟨[.int], some .int⟩) rfl) rfl (hb hby at_191) rfl (W := 0) rfl (by decide) (by decide) (by decide) (by decide) (fun r60 T61 L62 X63 q64 => ?_)
                      obtain ⟨rfl, N65q, e66⟩ := q64
                      have N65 := Fr.app N30 N65q
                      show own_W p e below _ T61 (mkF m 194 #[.val (.int p0), .val (.int p1), .val (.int p2), .val (.int p3), .val (.int p4), .val (.int p5), .val (.int (0 : Int32)), .val (.int kb), .val (.int kc), .val (.int vs), .val (.int tg), .val (.ref a9), .val (.int (0 : Int32))] [(.int (own_find0 (fun _ => 0) tg))])
                      refine own_iload X63 hx 196 (hb hby at_194) rfl rfl ?_
                      refine own_icmp_ne X63 hx 203 199 (hb hby at_196) (by decide) (by decide) rfl (fun h67 => ?_) (fun h67 => ?_)
                      · exact absurd (by simp [own_find0]) h67
                      · show own_W p e below _ T61 (mkF m 199 #[.val (.int p0), .val (.int p1), .val (.int p2), .val (.int p3), .val (.int p4), .val (.int p5), .val (.int (0 : Int32)), .val (.int kb), .val (.int kc), .val (.int vs), .val (.int tg), .val (.ref a9), .val (.int (0 : Int32))] [])
                        refine own_iconst X63 hx 200 (1 : Int32) (by decide) (hb hby at_199) rfl ?_
                        refine own_goto X63 hx 204 (hb hby at_200) (by decide) (by decide) ?_
                        exact own_retZ X63 hx (1 : Int32) (by decide) hret hlk (hb hby at_204) (by decide) (by decide) ⟨rfl, N65⟩
                    · exact absurd h59 (by decide)
                  · exact absurd h58 (by decide)
                · exact absurd h57 (by decide)
              · exact absurd h56 (by decide)
            · exact absurd h55 (by decide)
          · exact absurd h54 (by decide)
        refine own_if_ne X0 hx 50 46 (hb hby at_43) (by decide) (by decide) rfl (fun h68 => ?_) (fun h68 => ?_)
        · show own_W p e below _ T0 (mkF m 50 #[.val (.int p0), .val (.int p1), .val (.int p2), .val (.int p3), .val (.int p4), .val (.int p5), .val (.int (0 : Int32)), .val (.int kb), .val (.int kc), .val (.int vs), .unset, .unset, .unset] [])
          refine own_iload X0 hx 52 (hb hby at_50) rfl rfl ?_
          refine own_iconst X0 hx 53 (1 : Int32) (by decide) (hb hby at_52) rfl ?_
          refine own_icmp_ne X0 hx 61 56 (hb hby at_53) (by decide) (by decide) rfl (fun h69 => ?_) (fun h69 => ?_)
          · show own_W p e below _ T0 (mkF m 61 #[.val (.int p0), .val (.int p1), .val (.int p2), .val (.int p3), .val (.int p4), .val (.int p5), .val (.int (0 : Int32)), .val (.int kb), .val (.int kc), .val (.int vs), .unset, .unset, .unset] [])
            refine own_iload X0 hx 63 (hb hby at_61) rfl rfl ?_
            refine own_iconst X0 hx 64 (2 : Int32) (by decide) (hb hby at_63) rfl ?_
            refine own_icmp_ne X0 hx 72 67 (hb hby at_64) (by decide) (by decide) rfl (fun h70 => ?_) (fun h70 => ?_)
            · show own_W p e below _ T0 (mkF m 72 #[.val (.int p0), .val (.int p1), .val (.int p2), .val (.int p3), .val (.int p4), .val (.int p5), .val (.int (0 : Int32)), .val (.int kb), .val (.int kc), .val (.int vs), .unset, .unset, .unset] [])
              refine own_iload X0 hx 74 (hb hby at_72) rfl rfl ?_
              exact J5 p4 (trivial)
            · show own_W p e below _ T0 (mkF m 67 #[.val (.int p0), .val (.int p1), .val (.int p2), .val (.int p3), .val (.int p4), .val (.int p5), .val (.int (0 : Int32)), .val (.int kb), .val (.int kc), .val (.int vs), .unset, .unset, .unset] [])
              refine own_iload X0 hx 69 (hb hby at_67) rfl rfl ?_
              refine own_goto X0 hx 74 (hb hby at_69) (by decide) (by decide) ?_
              exact J5 kc (trivial)
          · show own_W p e below _ T0 (mkF m 56 #[.val (.int p0), .val (.int p1), .val (.int p2), .val (.int p3), .val (.int p4), .val (.int p5), .val (.int (0 : Int32)), .val (.int kb), .val (.int kc), .val (.int vs), .unset, .unset, .unset] [])
            refine own_iload X0 hx 58 (hb hby at_56) rfl rfl ?_
            refine own_goto X0 hx 74 (hb hby at_58) (by decide) (by decide) ?_
            exact J5 kb (trivial)
        · show own_W p e below _ T0 (mkF m 46 #[.val (.int p0), .val (.int p1), .val (.int p2), .val (.int p3), .val (.int p4), .val (.int p5), .val (.int (0 : Int32)), .val (.int kb), .val (.int kc), .val (.int vs), .unset, .unset, .unset] [])
          refine own_iloadN X0 hx 47 (hb hby at_46) rfl rfl ?_
          refine own_goto X0 hx 74 (hb hby at_47) (by decide) (by decide) ?_
          exact J5 p1 (trivial)
      refine own_if_eq X0 hx 32 27 (hb hby at_24) (by decide) (by decide) rfl (fun h71 => ?_) (fun h71 => ?_)
      · show own_W p e below _ T0 (mkF m 32 #[.val (.int p0), .val (.int p1), .val (.int p2), .val (.int p3), .val (.int p4), .val (.int p5), .val (.int (0 : Int32)), .val (.int kb), .unset, .unset, .unset, .unset, .unset] [])
        refine own_iloadN X0 hx 33 (hb hby at_32) rfl rfl ?_
        exact J3 p3 (trivial)
      · show own_W p e below _ T0 (mkF m 27 #[.val (.int p0), .val (.int p1), .val (.int p2), .val (.int p3), .val (.int p4), .val (.int p5), .val (.int (0 : Int32)), .val (.int kb), .unset, .unset, .unset, .unset, .unset] [])
        refine own_iload X0 hx 29 (hb hby at_27) rfl rfl ?_
        refine own_goto X0 hx 33 (hb hby at_29) (by decide) (by decide) ?_
        exact J3 kb (trivial)
    refine own_if_eq X0 hx 16 12 (hb hby at_9) (by decide) (by decide) rfl (fun h72 => ?_) (fun h72 => ?_)
    · show own_W p e below _ T0 (mkF m 16 #[.val (.int p0), .val (.int p1), .val (.int p2), .val (.int p3), .val (.int p4), .val (.int p5), .val (.int (0 : Int32)), .unset, .unset, .unset, .unset, .unset, .unset] [])
      refine own_iloadN X0 hx 17 (hb hby at_16) rfl rfl ?_
      exact J1 p2 (trivial)
    · show own_W p e below _ T0 (mkF m 12 #[.val (.int p0), .val (.int p1), .val (.int p2), .val (.int p3), .val (.int p4), .val (.int p5), .val (.int (0 : Int32)), .unset, .unset, .unset, .unset, .unset, .unset] [])
      refine own_iloadN X0 hx 13 (hb hby at_12) rfl rfl ?_
      refine own_goto X0 hx 17 (hb hby at_13) (by decide) (by decide) ?_
      exact J1 p1 (trivial)
  · show own_W p e below _ T0 (mkF m 5 #[.val (.int p0), .val (.int p1), .val (.int p2), .val (.int p3), .val (.int p4), .val (.int p5), .val (.int (1 : Int32)), .unset, .unset, .unset, .unset, .unset, .unset] [])
    refine own_iload X0 hx 7 (hb hby at_5) rfl rfl ?_
    refine own_iconst X0 hx 8 (4 : Int32) (by decide) (hb hby at_7) rfl ?_
    refine own_iand X0 hx 9 (hb hby at_8) rfl ?_
    have J73 : ∀ (kb : Int32) (hj74 : True), own_W p e below (own_K s room_1 (fun v h L => v = some (.int 1) ∧ Fr n0 L)) T0 (mkF m 17 #[.val (.int p0), .val (.int p1), .val (.int p2), .val (.int p3), .val (.int p4), .val (.int p5), .val (.int (1 : Int32)), .unset, .unset, .unset, .unset, .unset, .unset] [(.int kb)]) := by
      intro kb hj74
      refine own_istore X0 hx 19 #[.val (.int p0), .val (.int p1), .val (.int p2), .val (.int p3), .val (.int p4), .val (.int p5), .val (.int (1 : Int32)), .val (.int kb), .unset, .unset, .unset, .unset, .unset] rfl (hb hby at_17) rfl rfl ?_
      refine own_iload X0 hx 21 (hb hby at_19) rfl rfl ?_
      refine own_bipush X0 hx 23 (8 : Int32) (by decide) (hb hby at_21) rfl ?_
      refine own_iand X0 hx 24 (hb hby at_23) rfl ?_
      have J75 : ∀ (kc : Int32) (hj76 : True), own_W p e below (own_K s room_1 (fun v h L => v = some (.int 1) ∧ Fr n0 L)) T0 (mkF m 33 #[.val (.int p0), .val (.int p1), .val (.int p2), .val (.int p3), .val (.int p4), .val (.int p5), .val (.int (1 : Int32)), .val (.int kb), .unset, .unset, .unset, .unset, .unset] [(.int kc)]) := by
        intro kc hj76
        refine own_istore X0 hx 35 #[.val (.int p0), .val (.int p1), .val (.int p2), .val (.int p3), .val (.int p4), .val (.int p5), .val (.int (1 : Int32)), .val (.int kb), .val (.int kc), .unset, .unset, .unset, .unset] rfl (hb hby at_33) rfl rfl ?_
        refine own_iload X0 hx 37 (hb hby at_35) rfl rfl ?_
        refine own_iconst X0 hx 38 (3 : Int32) (by decide) (hb hby at_37) rfl ?_
        refine own_iand X0 hx 39 (hb hby at_38) rfl ?_
        obtain ⟨vs, e_vs⟩ : ∃ z : Int32, z = (p5 &&& (3 : Int32)) := ⟨_, rfl⟩
        refine own_istore X0 hx 41 #[.val (.int p0), .val (.int p1), .val (.int p2), .val (.int p3), .val (.int p4), .val (.int p5), .val (.int (1 : Int32)), .val (.int kb), .val (.int kc), .val (.int vs), .unset, .unset, .unset] e_vs (hb hby at_39) rfl rfl ?_
        refine own_iload X0 hx 43 (hb hby at_41) rfl rfl ?_
        have J77 : ∀ (tg : Int32) (hj78 : True), own_W p e below (own_K s room_1 (fun v h L => v = some (.int 1) ∧ Fr n0 L)) T0 (mkF m 74 #[.val (.int p0), .val (.int p1), .val (.int p2), .val (.int p3), .val (.int p4), .val (.int p5), .val (.int (1 : Int32)), .val (.int kb), .val (.int kc), .val (.int vs), .unset, .unset, .unset] [(.int tg)]) := by
          intro tg hj78
          refine own_istore X0 hx 76 #[.val (.int p0), .val (.int p1), .val (.int p2), .val (.int p3), .val (.int p4), .val (.int p5), .val (.int (1 : Int32)), .val (.int kb), .val (.int kc), .val (.int vs), .val (.int tg), .unset, .unset] rfl (hb hby at_74) rfl rfl ?_
          refine own_new X0 hx hZ hown e0 79 (hw _ (List.mem_of_getElem? (i := 0) rfl)) (hw _ (List.mem_of_getElem? (i := 1) rfl)) (hw _ (List.mem_of_getElem? (i := 2) rfl)) (hb hby at_76) rfl (by decide) (by decide) (fun T79 h80 a81 X82 e83 g84 E85 A86 D87 => ?_)
          have ga88 : n0 ≤ a81 := by rw [g84]; exact Z0
          have Z89 : n0 ≤ h80.size := Nat.le_trans Z0 E85.1
          have f90 : Fld Z h80 a81 site_80.cls "kind" "[I" .null := D87 (Or.inl (hw _ (List.mem_of_getElem? (i := 11) rfl))) (ty := (.array .int)) (by decide)
          have f91 : Fld Z h80 a81 site_80.cls "start" "[I" .null := D87 (Or.inl (hw _ (List.mem_of_getElem? (i := 13) rfl))) (ty := (.array .int)) (by decide)
          have f92 : Fld Z h80 a81 site_80.cls "end" "[I" .null := D87 (Or.inl (hw _ (List.mem_of_getElem? (i := 15) rfl))) (ty := (.array .int)) (by decide)
          have f93 : Fld Z h80 a81 site_80.cls "size" "I" (.int (0 : Int32)) := D87 (Or.inl (hw _ (List.mem_of_getElem? (i := 22) rfl))) (ty := .int) (by decide)
          refine own_dup X82 hx 80 rfl (hb hby at_79) rfl ?_
          refine own_callI X82 hx hZ hown e83 (y := site_80) (a := a81) (argsL := []) (rest := [(.ref a81)]) 83 (rm1 l Z a0 hw a81 h80 n0 Z89 ga88 A86 f90 f91 f92 f93) rfl (hw _ (List.mem_of_getElem? (i := 3) rfl)) (hw _ (List.mem_of_getElem? (i := 4) rfl)) (hw _ (List.mem_of_getElem? (i := 2) rfl)) (hw _ (List.mem_of_getElem? (i := 5) rfl)) (by decide) (by rw [hml]; rfl) (lenOf (by decide +kernel : parseMethodDescriptor "()V" = some ⟨[], none⟩) rfl) rfl (hb hby at_80) rfl (W := 1) rfl (by decide) (by decide) (by decide) (by decide) (fun r94 T95 L96 X97 q98 => ?_)
          obtain ⟨t99, t100, t101, rfl, N102q, K103, ⟨g104, g105, g106⟩, ⟨na107, na108, na109⟩, ⟨nn110, nn111, nn112⟩, f113, f114, f115, f116, f117, f118, f119⟩ := q98
          have N102 := Fr.app N0 N102q
          have f120 := A86.keep K103
          have Z125 : n0 ≤ T95.heap.size := Nat.le_trans Z89 K103.1
          show own_W p e below _ T95 (mkF m 83 #[.val (.int p0), .val (.int p1), .val (.int p2), .val (.int p3), .val (.int p4), .val (.int p5), .val (.int (1 : Int32)), .val (.int kb), .val (.int kc), .val (.int vs), .val (.int tg), .unset, .unset] [(.ref a81)])
          refine own_astore X97 hx 85 #[.val (.int p0), .val (.int p1), .val (.int p2), .val (.int p3), .val (.int p4), .val (.int p5), .val (.int (1 : Int32)), .val (.int kb), .val (.int kc), .val (.int vs), .val (.int tg), .val (.ref a81), .unset] rfl (hb hby at_83) rfl rfl ?_
          refine own_iload X97 hx 87 (hb hby at_85) rfl rfl ?_
          refine own_if_le X97 hx 98 90 (hb hby at_87) (by decide) (by decide) rfl (fun h126 => ?_) (fun h126 => ?_)
          · exact absurd h126 (by decide)
          · show own_W p e below _ T95 (mkF m 90 #[.val (.int p0), .val (.int p1), .val (.int p2), .val (.int p3), .val (.int p4), .val (.int p5), .val (.int (1 : Int32)), .val (.int kb), .val (.int kc), .val (.int vs), .val (.int tg), .val (.ref a81), .unset] [])
            refine own_aload X97 hx 92 (hb hby at_90) rfl rfl ?_
            refine own_iloadN X97 hx 93 (hb hby at_92) rfl rfl ?_
            refine own_iconst X97 hx 94 (0 : Int32) (by decide) (hb hby at_93) rfl ?_
            refine own_iconst X97 hx 95 (1 : Int32) (by decide) (hb hby at_94) rfl ?_
            refine own_callV X97 hx hZ hown rfl (y := site_95) (a := a81) (argsL := [(.int p1), (.int (0 : Int32)), (.int (1 : Int32))]) (rest := []) 98 (rm4 l Z a0 hw a81 t99 t100 t101 p1 (0 : Int32) (1 : Int32) (0 : Int32) (1 : Int32) 0 (fun _ => 0) (fun _ => 0) (fun _ => 0) T95.heap n0 Z125 rfl (by decide) (by decide) ga88 g104 g105 g106 na107 na108 na109 nn110 nn111 nn112 f120 f113 f114 f115 f116 f117 f118 f119) f120 (hw _ (List.mem_of_getElem? (i := 23) rfl)) (hw _ (List.mem_of_getElem? (i := 24) rfl)) (hw _ (List.mem_of_getElem? (i := 26) rfl)) (hw _ (List.mem_of_getElem? (i := 25) rfl)) (hw _ (List.mem_of_getElem? (i := 2) rfl)) (hw _ (List.mem_of_getElem? (i := 27) rfl)) (by decide) (by rw [hml]; rfl) (lenOf (by decide +kernel : parseMethodDescriptor "(III)V" = some ⟨[.int, .int, .int], none⟩) rfl) rfl (hb hby at_95) rfl (W := 0) rfl (by decide) (by decide) (by decide) (by decide) (fun r127 T128 L129 X130 q131 => ?_)
            obtain ⟨rfl, N132q, K133, f134, f135, f136, f137, f138, f139, f140⟩ := q131
            have N132 := Fr.app N102 N132q
            have f141 := f120.keep K133
            have Z149 : n0 ≤ T128.heap.size := Nat.le_trans Z125 K133.1
            show own_W p e below _ T128 (mkF m 98 #[.val (.int p0), .val (.int p1), .val (.int p2), .val (.int p3), .val (.int p4), .val (.int p5), .val (.int (1 : Int32)), .val (.int kb), .val (.int kc), .val (.int vs), .val (.int tg), .val (.ref a81), .unset] [])
            refine own_iload X130 hx 100 (hb hby at_98) rfl rfl ?_
            refine own_iconst X130 hx 101 (1 : Int32) (by decide) (hb hby at_100) rfl ?_
            refine own_icmp_le X130 hx 113 104 (hb hby at_101) (by decide) (by decide) rfl (fun h150 => ?_) (fun h150 => ?_)
            · show own_W p e below _ T128 (mkF m 113 #[.val (.int p0), .val (.int p1), .val (.int p2), .val (.int p3), .val (.int p4), .val (.int p5), .val (.int (1 : Int32)), .val (.int kb), .val (.int kc), .val (.int vs), .val (.int tg), .val (.ref a81), .unset] [])
              refine own_iload X130 hx 115 (hb hby at_113) rfl rfl ?_
              refine own_iconst X130 hx 116 (2 : Int32) (by decide) (hb hby at_115) rfl ?_
              refine own_icmp_le X130 hx 128 119 (hb hby at_116) (by decide) (by decide) rfl (fun h151 => ?_) (fun h151 => ?_)
              · show own_W p e below _ T128 (mkF m 128 #[.val (.int p0), .val (.int p1), .val (.int p2), .val (.int p3), .val (.int p4), .val (.int p5), .val (.int (1 : Int32)), .val (.int kb), .val (.int kc), .val (.int vs), .val (.int tg), .val (.ref a81), .unset] [])
                refine own_iload X130 hx 130 (hb hby at_128) rfl rfl ?_
                refine own_if_le X130 hx 145 133 (hb hby at_130) (by decide) (by decide) rfl (fun h152 => ?_) (fun h152 => ?_)
                · exact absurd h152 (by decide)
                · show own_W p e below _ T128 (mkF m 133 #[.val (.int p0), .val (.int p1), .val (.int p2), .val (.int p3), .val (.int p4), .val (.int p5), .val (.int (1 : Int32)), .val (.int kb), .val (.int kc), .val (.int vs), .val (.int tg), .val (.ref a81), .unset] [])
                  refine own_iloadN X130 hx 134 (hb hby at_133) rfl rfl ?_
                  refine own_iload X130 hx 136 (hb hby at_134) rfl rfl ?_
                  refine own_icmp_ne X130 hx 145 139 (hb hby at_136) (by decide) (by decide) rfl (fun h153 => ?_) (fun h153 => ?_)
                  · show own_W p e below _ T128 (mkF m 145 #[.val (.int p0), .val (.int p1), .val (.int p2), .val (.int p3), .val (.int p4), .val (.int p5), .val (.int (1 : Int32)), .val (.int kb), .val (.int kc), .val (.int vs), .val (.int tg), .val (.ref a81), .unset] [])
                    refine own_iload X130 hx 147 (hb hby at_145) rfl rfl ?_
                    refine own_iconst X130 hx 148 (1 : Int32) (by decide) (hb hby at_147) rfl ?_
                    refine own_icmp_le X130 hx 164 151 (hb hby at_148) (by decide) (by decide) rfl (fun h154 => ?_) (fun h154 => ?_)
                    · show own_W p e below _ T128 (mkF m 164 #[.val (.int p0), .val (.int p1), .val (.int p2), .val (.int p3), .val (.int p4), .val (.int p5), .val (.int (1 : Int32)), .val (.int kb), .val (.int kc), .val (.int vs), .val (.int tg), .val (.ref a81), .unset] [])
                      refine own_iload X130 hx 166 (hb hby at_164) rfl rfl ?_
                      refine own_iconst X130 hx 167 (2 : Int32) (by decide) (hb hby at_166) rfl ?_
                      refine own_icmp_le X130 hx 183 170 (hb hby at_167) (by decide) (by decide) rfl (fun h155 => ?_) (fun h155 => ?_)
                      · show own_W p e below _ T128 (mkF m 183 #[.val (.int p0), .val (.int p1), .val (.int p2), .val (.int p3), .val (.int p4), .val (.int p5), .val (.int (1 : Int32)), .val (.int kb), .val (.int kc), .val (.int vs), .val (.int tg), .val (.ref a81), .unset] [])
                        refine own_iload X130 hx 185 (hb hby at_183) rfl rfl ?_
                        refine own_istore X130 hx 187 #[.val (.int p0), .val (.int p1), .val (.int p2), .val (.int p3), .val (.int p4), .val (.int p5), .val (.int (1 : Int32)), .val (.int kb), .val (.int kc), .val (.int vs), .val (.int tg), .val (.ref a81), .val (.int (1 : Int32))] rfl (hb hby at_185) rfl rfl ?_
                        refine own_aload X130 hx 189 (hb hby at_187) rfl rfl ?_
                        refine own_iload X130 hx 191 (hb hby at_189) rfl rfl ?_
                        refine own_callV X130 hx hZ hown rfl (y := site_191) (a := a81) (argsL := [(.int tg)]) (rest := []) 194 (rm3_1 l Z a0 hw a81 t99 tg (fun q => if q = 0 then p1 else (fun _ => 0) q) T128.heap n0 Z149 f141 f134 f137 f138) f141 (hw _ (List.mem_of_getElem? (i := 16) rfl)) (hw _ (List.mem_of_getElem? (i := 17) rfl)) (hw _ (List.mem_of_getElem? (i := 19) rfl)) (hw _ (List.mem_of_getElem? (i := 18) rfl)) (hw _ (List.mem_of_getElem? (i := 2) rfl)) (hw _ (List.mem_of_getElem? (i := 20) rfl)) (by decide) (by rw [hml]; rfl) (lenOf (by decide +kernel : parseMethodDescriptor "(I)I" = some ⟨[.int], some .int⟩) rfl) rfl (hb hby at_191) rfl (W := 0) rfl (by decide) (by decide) (by decide) (by decide) (fun r156 T157 L158 X159 q160 => ?_)
                        obtain ⟨rfl, N161q, e162⟩ := q160
                        have N161 := Fr.app N132 N161q
                        show own_W p e below _ T157 (mkF m 194 #[.val (.int p0), .val (.int p1), .val (.int p2), .val (.int p3), .val (.int p4), .val (.int p5), .val (.int (1 : Int32)), .val (.int kb), .val (.int kc), .val (.int vs), .val (.int tg), .val (.ref a81), .val (.int (1 : Int32))] [(.int (own_find1 (fun q => if q = 0 then p1 else (fun _ => 0) q) tg))])
                        refine own_iload X159 hx 196 (hb hby at_194) rfl rfl ?_
                        refine own_icmp_ne X159 hx 203 199 (hb hby at_196) (by decide) (by decide) rfl (fun h163 => ?_) (fun h163 => ?_)
                        · exact absurd (by simp [own_find1, h153]) h163
                        · show own_W p e below _ T157 (mkF m 199 #[.val (.int p0), .val (.int p1), .val (.int p2), .val (.int p3), .val (.int p4), .val (.int p5), .val (.int (1 : Int32)), .val (.int kb), .val (.int kc), .val (.int vs), .val (.int tg), .val (.ref a81), .val (.int (1 : Int32))] [])
                          refine own_iconst X159 hx 200 (1 : Int32) (by decide) (hb hby at_199) rfl ?_
                          refine own_goto X159 hx 204 (hb hby at_200) (by decide) (by decide) ?_
                          exact own_retZ X159 hx (1 : Int32) (by decide) hret hlk (hb hby at_204) (by decide) (by decide) ⟨rfl, N161⟩
                      · exact absurd h155 (by decide)
                    · exact absurd h154 (by decide)
                  · show own_W p e below _ T128 (mkF m 139 #[.val (.int p0), .val (.int p1), .val (.int p2), .val (.int p3), .val (.int p4), .val (.int p5), .val (.int (1 : Int32)), .val (.int kb), .val (.int kc), .val (.int vs), .val (.int tg), .val (.ref a81), .unset] [])
                    refine own_iconst X130 hx 140 (0 : Int32) (by decide) (hb hby at_139) rfl ?_
                    refine own_istore X130 hx 142 #[.val (.int p0), .val (.int p1), .val (.int p2), .val (.int p3), .val (.int p4), .val (.int p5), .val (.int (1 : Int32)), .val (.int kb), .val (.int kc), .val (.int vs), .val (.int tg), .val (.ref a81), .val (.int (0 : Int32))] rfl (hb hby at_140) rfl rfl ?_
                    refine own_goto X130 hx 187 (hb hby at_142) (by decide) (by decide) ?_
                    refine own_aload X130 hx 189 (hb hby at_187) rfl rfl ?_
                    refine own_iload X130 hx 191 (hb hby at_189) rfl rfl ?_
                    refine own_callV X130 hx hZ hown rfl (y := site_191) (a := a81) (argsL := [(.int tg)]) (rest := []) 194 (rm3_1 l Z a0 hw a81 t99 tg (fun q => if q = 0 then p1 else (fun _ => 0) q) T128.heap n0 Z149 f141 f134 f137 f138) f141 (hw _ (List.mem_of_getElem? (i := 16) rfl)) (hw _ (List.mem_of_getElem? (i := 17) rfl)) (hw _ (List.mem_of_getElem? (i := 19) rfl)) (hw _ (List.mem_of_getElem? (i := 18) rfl)) (hw _ (List.mem_of_getElem? (i := 2) rfl)) (hw _ (List.mem_of_getElem? (i := 20) rfl)) (by decide) (by rw [hml]; rfl) (lenOf (by decide +kernel : parseMethodDescriptor "(I)I" = some ⟨[.int], some .int⟩) rfl) rfl (hb hby at_191) rfl (W := 0) rfl (by decide) (by decide) (by decide) (by decide) (fun r164 T165 L166 X167 q168 => ?_)
                    obtain ⟨rfl, N169q, e170⟩ := q168
                    have N169 := Fr.app N132 N169q
                    show own_W p e below _ T165 (mkF m 194 #[.val (.int p0), .val (.int p1), .val (.int p2), .val (.int p3), .val (.int p4), .val (.int p5), .val (.int (1 : Int32)), .val (.int kb), .val (.int kc), .val (.int vs), .val (.int tg), .val (.ref a81), .val (.int (0 : Int32))] [(.int (own_find1 (fun q => if q = 0 then p1 else (fun _ => 0) q) tg))])
                    refine own_iload X167 hx 196 (hb hby at_194) rfl rfl ?_
                    refine own_icmp_ne X167 hx 203 199 (hb hby at_196) (by decide) (by decide) rfl (fun h171 => ?_) (fun h171 => ?_)
                    · exact absurd (by simp [own_find1, h153]) h171
                    · show own_W p e below _ T165 (mkF m 199 #[.val (.int p0), .val (.int p1), .val (.int p2), .val (.int p3), .val (.int p4), .val (.int p5), .val (.int (1 : Int32)), .val (.int kb), .val (.int kc), .val (.int vs), .val (.int tg), .val (.ref a81), .val (.int (0 : Int32))] [])
                      refine own_iconst X167 hx 200 (1 : Int32) (by decide) (hb hby at_199) rfl ?_
                      refine own_goto X167 hx 204 (hb hby at_200) (by decide) (by decide) ?_
                      exact own_retZ X167 hx (1 : Int32) (by decide) hret hlk (hb hby at_204) (by decide) (by decide) ⟨rfl, N169⟩
              · exact absurd h151 (by decide)
            · exact absurd h150 (by decide)
        refine own_if_ne X0 hx 50 46 (hb hby at_43) (by decide) (by decide) rfl (fun h172 => ?_) (fun h172 => ?_)
        · show own_W p e below _ T0 (mkF m 50 #[.val (.int p0), .val (.int p1), .val (.int p2), .val (.int p3), .val (.int p4), .val (.int p5), .val (.int (1 : Int32)), .val (.int kb), .val (.int kc), .val (.int vs), .unset, .unset, .unset] [])
          refine own_iload X0 hx 52 (hb hby at_50) rfl rfl ?_
          refine own_iconst X0 hx 53 (1 : Int32) (by decide) (hb hby at_52) rfl ?_
          refine own_icmp_ne X0 hx 61 56 (hb hby at_53) (by decide) (by decide) rfl (fun h173 => ?_) (fun h173 => ?_)
          · show own_W p e below _ T0 (mkF m 61 #[.val (.int p0), .val (.int p1), .val (.int p2), .val (.int p3), .val (.int p4), .val (.int p5), .val (.int (1 : Int32)), .val (.int kb), .val (.int kc), .val (.int vs), .unset, .unset, .unset] [])
            refine own_iload X0 hx 63 (hb hby at_61) rfl rfl ?_
            refine own_iconst X0 hx 64 (2 : Int32) (by decide) (hb hby at_63) rfl ?_
            refine own_icmp_ne X0 hx 72 67 (hb hby at_64) (by decide) (by decide) rfl (fun h174 => ?_) (fun h174 => ?_)
            · show own_W p e below _ T0 (mkF m 72 #[.val (.int p0), .val (.int p1), .val (.int p2), .val (.int p3), .val (.int p4), .val (.int p5), .val (.int (1 : Int32)), .val (.int kb), .val (.int kc), .val (.int vs), .unset, .unset, .unset] [])
              refine own_iload X0 hx 74 (hb hby at_72) rfl rfl ?_
              exact J77 p4 (trivial)
            · show own_W p e below _ T0 (mkF m 67 #[.val (.int p0), .val (.int p1), .val (.int p2), .val (.int p3), .val (.int p4), .val (.int p5), .val (.int (1 : Int32)), .val (.int kb), .val (.int kc), .val (.int vs), .unset, .unset, .unset] [])
              refine own_iload X0 hx 69 (hb hby at_67) rfl rfl ?_
              refine own_goto X0 hx 74 (hb hby at_69) (by decide) (by decide) ?_
              exact J77 kc (trivial)
          · show own_W p e below _ T0 (mkF m 56 #[.val (.int p0), .val (.int p1), .val (.int p2), .val (.int p3), .val (.int p4), .val (.int p5), .val (.int (1 : Int32)), .val (.int kb), .val (.int kc), .val (.int vs), .unset, .unset, .unset] [])
            refine own_iload X0 hx 58 (hb hby at_56) rfl rfl ?_
            refine own_goto X0 hx 74 (hb hby at_58) (by decide) (by decide) ?_
            exact J77 kb (trivial)
        · show own_W p e below _ T0 (mkF m 46 #[.val (.int p0), .val (.int p1), .val (.int p2), .val (.int p3), .val (.int p4), .val (.int p5), .val (.int (1 : Int32)), .val (.int kb), .val (.int kc), .val (.int vs), .unset, .unset, .unset] [])
          refine own_iloadN X0 hx 47 (hb hby at_46) rfl rfl ?_
          refine own_goto X0 hx 74 (hb hby at_47) (by decide) (by decide) ?_
          exact J77 p1 (trivial)
      refine own_if_eq X0 hx 32 27 (hb hby at_24) (by decide) (by decide) rfl (fun h175 => ?_) (fun h175 => ?_)
      · show own_W p e below _ T0 (mkF m 32 #[.val (.int p0), .val (.int p1), .val (.int p2), .val (.int p3), .val (.int p4), .val (.int p5), .val (.int (1 : Int32)), .val (.int kb), .unset, .unset, .unset, .unset, .unset] [])
        refine own_iloadN X0 hx 33 (hb hby at_32) rfl rfl ?_
        exact J75 p3 (trivial)
      · show own_W p e below _ T0 (mkF m 27 #[.val (.int p0), .val (.int p1), .val (.int p2), .val (.int p3), .val (.int p4), .val (.int p5), .val (.int (1 : Int32)), .val (.int kb), .unset, .unset, .unset, .unset, .unset] [])
        refine own_iload X0 hx 29 (hb hby at_27) rfl rfl ?_
        refine own_goto X0 hx 33 (hb hby at_29) (by decide) (by decide) ?_
        exact J75 kb (trivial)
    refine own_if_eq X0 hx 16 12 (hb hby at_9) (by decide) (by decide) rfl (fun h176 => ?_) (fun h176 => ?_)
    · show own_W p e below _ T0 (mkF m 16 #[.val (.int p0), .val (.int p1), .val (.int p2), .val (.int p3), .val (.int p4), .val (.int p5), .val (.int (1 : Int32)), .unset, .unset, .unset, .unset, .unset, .unset] [])
      refine own_iloadN X0 hx 17 (hb hby at_16) rfl rfl ?_
      exact J73 p2 (trivial)
    · show own_W p e below _ T0 (mkF m 12 #[.val (.int p0), .val (.int p1), .val (.int p2), .val (.int p3), .val (.int p4), .val (.int p5), .val (.int (1 : Int32)), .unset, .unset, .unset, .unset, .unset, .unset] [])
      refine own_iloadN X0 hx 13 (hb hby at_12) rfl rfl ?_
      refine own_goto X0 hx 17 (hb hby at_13) (by decide) (by decide) ?_
      exact J73 p1 (trivial)
  · show own_W p e below _ T0 (mkF m 5 #[.val (.int p0), .val (.int p1), .val (.int p2), .val (.int p3), .val (.int p4), .val (.int p5), .val (.int (2 : Int32)), .unset, .unset, .unset, .unset, .unset, .unset] [])
    refine own_iload X0 hx 7 (hb hby at_5) rfl rfl ?_
    refine own_iconst X0 hx 8 (4 : Int32) (by decide) (hb hby at_7) rfl ?_
    refine own_iand X0 hx 9 (hb hby at_8) rfl ?_
    have J177 : ∀ (kb : Int32) (hj178 : True), own_W p e below (own_K s room_1 (fun v h L => v = some (.int 1) ∧ Fr n0 L)) T0 (mkF m 17 #[.val (.int p0), .val (.int p1), .val (.int p2), .val (.int p3), .val (.int p4), .val (.int p5), .val (.int (2 : Int32)), .unset, .unset, .unset, .unset, .unset, .unset] [(.int kb)]) := by
      intro kb hj178
      refine own_istore X0 hx 19 #[.val (.int p0), .val (.int p1), .val (.int p2), .val (.int p3), .val (.int p4), .val (.int p5), .val (.int (2 : Int32)), .val (.int kb), .unset, .unset, .unset, .unset, .unset] rfl (hb hby at_17) rfl rfl ?_
      refine own_iload X0 hx 21 (hb hby at_19) rfl rfl ?_
      refine own_bipush X0 hx 23 (8 : Int32) (by decide) (hb hby at_21) rfl ?_
      refine own_iand X0 hx 24 (hb hby at_23) rfl ?_
      have J179 : ∀ (kc : Int32) (hj180 : True), own_W p e below (own_K s room_1 (fun v h L => v = some (.int 1) ∧ Fr n0 L)) T0 (mkF m 33 #[.val (.int p0), .val (.int p1), .val (.int p2), .val (.int p3), .val (.int p4), .val (.int p5), .val (.int (2 : Int32)), .val (.int kb), .unset, .unset, .unset, .unset, .unset] [(.int kc)]) := by
        intro kc hj180
        refine own_istore X0 hx 35 #[.val (.int p0), .val (.int p1), .val (.int p2), .val (.int p3), .val (.int p4), .val (.int p5), .val (.int (2 : Int32)), .val (.int kb), .val (.int kc), .unset, .unset, .unset, .unset] rfl (hb hby at_33) rfl rfl ?_
        refine own_iload X0 hx 37 (hb hby at_35) rfl rfl ?_
        refine own_iconst X0 hx 38 (3 : Int32) (by decide) (hb hby at_37) rfl ?_
        refine own_iand X0 hx 39 (hb hby at_38) rfl ?_
        obtain ⟨vs, e_vs⟩ : ∃ z : Int32, z = (p5 &&& (3 : Int32)) := ⟨_, rfl⟩
        refine own_istore X0 hx 41 #[.val (.int p0), .val (.int p1), .val (.int p2), .val (.int p3), .val (.int p4), .val (.int p5), .val (.int (2 : Int32)), .val (.int kb), .val (.int kc), .val (.int vs), .unset, .unset, .unset] e_vs (hb hby at_39) rfl rfl ?_
        refine own_iload X0 hx 43 (hb hby at_41) rfl rfl ?_
        have J181 : ∀ (tg : Int32) (hj182 : True), own_W p e below (own_K s room_1 (fun v h L => v = some (.int 1) ∧ Fr n0 L)) T0 (mkF m 74 #[.val (.int p0), .val (.int p1), .val (.int p2), .val (.int p3), .val (.int p4), .val (.int p5), .val (.int (2 : Int32)), .val (.int kb), .val (.int kc), .val (.int vs), .unset, .unset, .unset] [(.int tg)]) := by
          intro tg hj182
          refine own_istore X0 hx 76 #[.val (.int p0), .val (.int p1), .val (.int p2), .val (.int p3), .val (.int p4), .val (.int p5), .val (.int (2 : Int32)), .val (.int kb), .val (.int kc), .val (.int vs), .val (.int tg), .unset, .unset] rfl (hb hby at_74) rfl rfl ?_
          refine own_new X0 hx hZ hown e0 79 (hw _ (List.mem_of_getElem? (i := 0) rfl)) (hw _ (List.mem_of_getElem? (i := 1) rfl)) (hw _ (List.mem_of_getElem? (i := 2) rfl)) (hb hby at_76) rfl (by decide) (by decide) (fun T183 h184 a185 X186 e187 g188 E189 A190 D191 => ?_)
          have ga192 : n0 ≤ a185 := by rw [g188]; exact Z0
          have Z193 : n0 ≤ h184.size := Nat.le_trans Z0 E189.1
          have f194 : Fld Z h184 a185 site_80.cls "kind" "[I" .null := D191 (Or.inl (hw _ (List.mem_of_getElem? (i := 11) rfl))) (ty := (.array .int)) (by decide)
          have f195 : Fld Z h184 a185 site_80.cls "start" "[I" .null := D191 (Or.inl (hw _ (List.mem_of_getElem? (i := 13) rfl))) (ty := (.array .int)) (by decide)
          have f196 : Fld Z h184 a185 site_80.cls "end" "[I" .null := D191 (Or.inl (hw _ (List.mem_of_getElem? (i := 15) rfl))) (ty := (.array .int)) (by decide)
          have f197 : Fld Z h184 a185 site_80.cls "size" "I" (.int (0 : Int32)) := D191 (Or.inl (hw _ (List.mem_of_getElem? (i := 22) rfl))) (ty := .int) (by decide)
          refine own_dup X186 hx 80 rfl (hb hby at_79) rfl ?_
          refine own_callI X186 hx hZ hown e187 (y := site_80) (a := a185) (argsL := []) (rest := [(.ref a185)]) 83 (rm1 l Z a0 hw a185 h184 n0 Z193 ga192 A190 f194 f195 f196 f197) rfl (hw _ (List.mem_of_getElem? (i := 3) rfl)) (hw _ (List.mem_of_getElem? (i := 4) rfl)) (hw _ (List.mem_of_getElem? (i := 2) rfl)) (hw _ (List.mem_of_getElem? (i := 5) rfl)) (by decide) (by rw [hml]; rfl) (lenOf (by decide +kernel : parseMethodDescriptor "()V" = some ⟨[], none⟩) rfl) rfl (hb hby at_80) rfl (W := 1) rfl (by decide) (by decide) (by decide) (by decide) (fun r198 T199 L200 X201 q202 => ?_)
          obtain ⟨t203, t204, t205, rfl, N206q, K207, ⟨g208, g209, g210⟩, ⟨na211, na212, na213⟩, ⟨nn214, nn215, nn216⟩, f217, f218, f219, f220, f221, f222, f223⟩ := q202
          have N206 := Fr.app N0 N206q
          have f224 := A190.keep K207
          have Z229 : n0 ≤ T199.heap.size := Nat.le_trans Z193 K207.1
          show own_W p e below _ T199 (mkF m 83 #[.val (.int p0), .val (.int p1), .val (.int p2), .val (.int p3), .val (.int p4), .val (.int p5), .val (.int (2 : Int32)), .val (.int kb), .val (.int kc), .val (.int vs), .val (.int tg), .unset, .unset] [(.ref a185)])
          refine own_astore X201 hx 85 #[.val (.int p0), .val (.int p1), .val (.int p2), .val (.int p3), .val (.int p4), .val (.int p5), .val (.int (2 : Int32)), .val (.int kb), .val (.int kc), .val (.int vs), .val (.int tg), .val (.ref a185), .unset] rfl (hb hby at_83) rfl rfl ?_
          refine own_iload X201 hx 87 (hb hby at_85) rfl rfl ?_
          refine own_if_le X201 hx 98 90 (hb hby at_87) (by decide) (by decide) rfl (fun h230 => ?_) (fun h230 => ?_)
          · exact absurd h230 (by decide)
          · show own_W p e below _ T199 (mkF m 90 #[.val (.int p0), .val (.int p1), .val (.int p2), .val (.int p3), .val (.int p4), .val (.int p5), .val (.int (2 : Int32)), .val (.int kb), .val (.int kc), .val (.int vs), .val (.int tg), .val (.ref a185), .unset] [])
            refine own_aload X201 hx 92 (hb hby at_90) rfl rfl ?_
            refine own_iloadN X201 hx 93 (hb hby at_92) rfl rfl ?_
            refine own_iconst X201 hx 94 (0 : Int32) (by decide) (hb hby at_93) rfl ?_
            refine own_iconst X201 hx 95 (1 : Int32) (by decide) (hb hby at_94) rfl ?_
            refine own_callV X201 hx hZ hown rfl (y := site_95) (a := a185) (argsL := [(.int p1), (.int (0 : Int32)), (.int (1 : Int32))]) (rest := []) 98 (rm4 l Z a0 hw a185 t203 t204 t205 p1 (0 : Int32) (1 : Int32) (0 : Int32) (1 : Int32) 0 (fun _ => 0) (fun _ => 0) (fun _ => 0) T199.heap n0 Z229 rfl (by decide) (by decide) ga192 g208 g209 g210 na211 na212 na213 nn214 nn215 nn216 f224 f217 f218 f219 f220 f221 f222 f223) f224 (hw _ (List.mem_of_getElem? (i := 23) rfl)) (hw _ (List.mem_of_getElem? (i := 24) rfl)) (hw _ (List.mem_of_getElem? (i := 26) rfl)) (hw _ (List.mem_of_getElem? (i := 25) rfl)) (hw _ (List.mem_of_getElem? (i := 2) rfl)) (hw _ (List.mem_of_getElem? (i := 27) rfl)) (by decide) (by rw [hml]; rfl) (lenOf (by decide +kernel : parseMethodDescriptor "(III)V" = some ⟨[.int, .int, .int], none⟩) rfl) rfl (hb hby at_95) rfl (W := 0) rfl (by decide) (by decide) (by decide) (by decide) (fun r231 T232 L233 X234 q235 => ?_)
            obtain ⟨rfl, N236q, K237, f238, f239, f240, f241, f242, f243, f244⟩ := q235
            have N236 := Fr.app N206 N236q
            have f245 := f224.keep K237
            have Z253 : n0 ≤ T232.heap.size := Nat.le_trans Z229 K237.1
            show own_W p e below _ T232 (mkF m 98 #[.val (.int p0), .val (.int p1), .val (.int p2), .val (.int p3), .val (.int p4), .val (.int p5), .val (.int (2 : Int32)), .val (.int kb), .val (.int kc), .val (.int vs), .val (.int tg), .val (.ref a185), .unset] [])
            refine own_iload X234 hx 100 (hb hby at_98) rfl rfl ?_
            refine own_iconst X234 hx 101 (1 : Int32) (by decide) (hb hby at_100) rfl ?_
            refine own_icmp_le X234 hx 113 104 (hb hby at_101) (by decide) (by decide) rfl (fun h254 => ?_) (fun h254 => ?_)
            · exact absurd h254 (by decide)
            · show own_W p e below _ T232 (mkF m 104 #[.val (.int p0), .val (.int p1), .val (.int p2), .val (.int p3), .val (.int p4), .val (.int p5), .val (.int (2 : Int32)), .val (.int kb), .val (.int kc), .val (.int vs), .val (.int tg), .val (.ref a185), .unset] [])
              refine own_aload X234 hx 106 (hb hby at_104) rfl rfl ?_
              refine own_iload X234 hx 108 (hb hby at_106) rfl rfl ?_
              refine own_iconst X234 hx 109 (1 : Int32) (by decide) (hb hby at_108) rfl ?_
              refine own_iconst X234 hx 110 (2 : Int32) (by decide) (hb hby at_109) rfl ?_
              refine own_callV X234 hx hZ hown rfl (y := site_95) (a := a185) (argsL := [(.int kb), (.int (1 : Int32)), (.int (2 : Int32))]) (rest := []) 113 (rm4 l Z a0 hw a185 t203 t204 t205 kb (1 : Int32) (2 : Int32) (1 : Int32) (2 : Int32) 1 (fun q => if q = 0 then p1 else (fun _ => 0) q) (fun q => if q = 0 then (0 : Int32) else (fun _ => 0) q) (fun q => if q = 0 then (1 : Int32) else (fun _ => 0) q) T232.heap n0 Z253 rfl (by decide) (by decide) ga192 g208 g209 g210 na211 na212 na213 nn214 nn215 nn216 f245 f238 f239 f240 f241 f242 f243 f244) f245 (hw _ (List.mem_of_getElem? (i := 23) rfl)) (hw _ (List.mem_of_getElem? (i := 24) rfl)) (hw _ (List.mem_of_getElem? (i := 26) rfl)) (hw _ (List.mem_of_getElem? (i := 25) rfl)) (hw _ (List.mem_of_getElem? (i := 2) rfl)) (hw _ (List.mem_of_getElem? (i := 27) rfl)) (by decide) (by rw [hml]; rfl) (lenOf (by decide +kernel : parseMethodDescriptor "(III)V" = some ⟨[.int, .int, .int], none⟩) rfl) rfl (hb hby at_110) rfl (W := 0) rfl (by decide) (by decide) (by decide) (by decide) (fun r255 T256 L257 X258 q259 => ?_)
              obtain ⟨rfl, N260q, K261, f262, f263, f264, f265, f266, f267, f268⟩ := q259
              have N260 := Fr.app N236 N260q
              have f269 := f245.keep K261
              have Z277 : n0 ≤ T256.heap.size := Nat.le_trans Z253 K261.1
              show own_W p e below _ T256 (mkF m 113 #[.val (.int p0), .val (.int p1), .val (.int p2), .val (.int p3), .val (.int p4), .val (.int p5), .val (.int (2 : Int32)), .val (.int kb), .val (.int kc), .val (.int vs), .val (.int tg), .val (.ref a185), .unset] [])
              refine own_iload X258 hx 115 (hb hby at_113) rfl rfl ?_
              refine own_iconst X258 hx 116 (2 : Int32) (by decide) (hb hby at_115) rfl ?_
              refine own_icmp_le X258 hx 128 119 (hb hby at_116) (by decide) (by decide) rfl (fun h278 => ?_) (fun h278 => ?_)
              · show own_W p e below _ T256 (mkF m 128 #[.val (.int p0), .val (.int p1), .val (.int p2), .val (.int p3), .val (.int p4), .val (.int p5), .val (.int (2 : Int32)), .val (.int kb), .val (.int kc), .val (.int vs), .val (.int tg), .val (.ref a185), .unset] [])
                refine own_iload X258 hx 130 (hb hby at_128) rfl rfl ?_
                refine own_if_le X258 hx 145 133 (hb hby at_130) (by decide) (by decide) rfl (fun h279 => ?_) (fun h279 => ?_)
                · exact absurd h279 (by decide)
                · show own_W p e below _ T256 (mkF m 133 #[.val (.int p0), .val (.int p1), .val (.int p2), .val (.int p3), .val (.int p4), .val (.int p5), .val (.int (2 : Int32)), .val (.int kb), .val (.int kc), .val (.int vs), .val (.int tg), .val (.ref a185), .unset] [])
                  refine own_iloadN X258 hx 134 (hb hby at_133) rfl rfl ?_
                  refine own_iload X258 hx 136 (hb hby at_134) rfl rfl ?_
                  refine own_icmp_ne X258 hx 145 139 (hb hby at_136) (by decide) (by decide) rfl (fun h280 => ?_) (fun h280 => ?_)
                  · show own_W p e below _ T256 (mkF m 145 #[.val (.int p0), .val (.int p1), .val (.int p2), .val (.int p3), .val (.int p4), .val (.int p5), .val (.int (2 : Int32)), .val (.int kb), .val (.int kc), .val (.int vs), .val (.int tg), .val (.ref a185), .unset] [])
                    refine own_iload X258 hx 147 (hb hby at_145) rfl rfl ?_
                    refine own_iconst X258 hx 148 (1 : Int32) (by decide) (hb hby at_147) rfl ?_
                    refine own_icmp_le X258 hx 164 151 (hb hby at_148) (by decide) (by decide) rfl (fun h281 => ?_) (fun h281 => ?_)
                    · exact absurd h281 (by decide)
                    · show own_W p e below _ T256 (mkF m 151 #[.val (.int p0), .val (.int p1), .val (.int p2), .val (.int p3), .val (.int p4), .val (.int p5), .val (.int (2 : Int32)), .val (.int kb), .val (.int kc), .val (.int vs), .val (.int tg), .val (.ref a185), .unset] [])
                      refine own_iload X258 hx 153 (hb hby at_151) rfl rfl ?_
                      refine own_iload X258 hx 155 (hb hby at_153) rfl rfl ?_
                      refine own_icmp_ne X258 hx 164 158 (hb hby at_155) (by decide) (by decide) rfl (fun h282 => ?_) (fun h282 => ?_)
                      · show own_W p e below _ T256 (mkF m 164 #[.val (.int p0), .val (.int p1), .val (.int p2), .val (.int p3), .val (.int p4), .val (.int p5), .val (.int (2 : Int32)), .val (.int kb), .val (.int kc), .val (.int vs), .val (.int tg), .val (.ref a185), .unset] [])
                        refine own_iload X258 hx 166 (hb hby at_164) rfl rfl ?_
                        refine own_iconst X258 hx 167 (2 : Int32) (by decide) (hb hby at_166) rfl ?_
                        refine own_icmp_le X258 hx 183 170 (hb hby at_167) (by decide) (by decide) rfl (fun h283 => ?_) (fun h283 => ?_)
                        · show own_W p e below _ T256 (mkF m 183 #[.val (.int p0), .val (.int p1), .val (.int p2), .val (.int p3), .val (.int p4), .val (.int p5), .val (.int (2 : Int32)), .val (.int kb), .val (.int kc), .val (.int vs), .val (.int tg), .val (.ref a185), .unset] [])
                          refine own_iload X258 hx 185 (hb hby at_183) rfl rfl ?_
                          refine own_istore X258 hx 187 #[.val (.int p0), .val (.int p1), .val (.int p2), .val (.int p3), .val (.int p4), .val (.int p5), .val (.int (2 : Int32)), .val (.int kb), .val (.int kc), .val (.int vs), .val (.int tg), .val (.ref a185), .val (.int (2 : Int32))] rfl (hb hby at_185) rfl rfl ?_
                          refine own_aload X258 hx 189 (hb hby at_187) rfl rfl ?_
                          refine own_iload X258 hx 191 (hb hby at_189) rfl rfl ?_
                          refine own_callV X258 hx hZ hown rfl (y := site_191) (a := a185) (argsL := [(.int tg)]) (rest := []) 194 (rm3_2 l Z a0 hw a185 t203 tg (fun q => if q = 1 then kb else (fun q => if q = 0 then p1 else (fun _ => 0) q) q) T256.heap n0 Z277 f269 f262 f265 f266) f269 (hw _ (List.mem_of_getElem? (i := 16) rfl)) (hw _ (List.mem_of_getElem? (i := 17) rfl)) (hw _ (List.mem_of_getElem? (i := 19) rfl)) (hw _ (List.mem_of_getElem? (i := 18) rfl)) (hw _ (List.mem_of_getElem? (i := 2) rfl)) (hw _ (List.mem_of_getElem? (i := 20) rfl)) (by decide) (by rw [hml]; rfl) (lenOf (by decide +kernel : parseMethodDescriptor "(I)I" = some ⟨[.int], some .int⟩) rfl) rfl (hb hby at_191) rfl (W := 0) rfl (by decide) (by decide) (by decide) (by decide) (fun r284 T285 L286 X287 q288 => ?_)
                          obtain ⟨rfl, N289q, e290⟩ := q288
                          have N289 := Fr.app N260 N289q
                          show own_W p e below _ T285 (mkF m 194 #[.val (.int p0), .val (.int p1), .val (.int p2), .val (.int p3), .val (.int p4), .val (.int p5), .val (.int (2 : Int32)), .val (.int kb), .val (.int kc), .val (.int vs), .val (.int tg), .val (.ref a185), .val (.int (2 : Int32))] [(.int (own_find2 (fun q => if q = 1 then kb else (fun q => if q = 0 then p1 else (fun _ => 0) q) q) tg))])
                          refine own_iload X287 hx 196 (hb hby at_194) rfl rfl ?_
                          refine own_icmp_ne X287 hx 203 199 (hb hby at_196) (by decide) (by decide) rfl (fun h291 => ?_) (fun h291 => ?_)
                          · exact absurd (by simp [own_find2, h280, h282]) h291
                          · show own_W p e below _ T285 (mkF m 199 #[.val (.int p0), .val (.int p1), .val (.int p2), .val (.int p3), .val (.int p4), .val (.int p5), .val (.int (2 : Int32)), .val (.int kb), .val (.int kc), .val (.int vs), .val (.int tg), .val (.ref a185), .val (.int (2 : Int32))] [])
                            refine own_iconst X287 hx 200 (1 : Int32) (by decide) (hb hby at_199) rfl ?_
                            refine own_goto X287 hx 204 (hb hby at_200) (by decide) (by decide) ?_
                            exact own_retZ X287 hx (1 : Int32) (by decide) hret hlk (hb hby at_204) (by decide) (by decide) ⟨rfl, N289⟩
                        · exact absurd h283 (by decide)
                      · show own_W p e below _ T256 (mkF m 158 #[.val (.int p0), .val (.int p1), .val (.int p2), .val (.int p3), .val (.int p4), .val (.int p5), .val (.int (2 : Int32)), .val (.int kb), .val (.int kc), .val (.int vs), .val (.int tg), .val (.ref a185), .unset] [])
                        refine own_iconst X258 hx 159 (1 : Int32) (by decide) (hb hby at_158) rfl ?_
                        refine own_istore X258 hx 161 #[.val (.int p0), .val (.int p1), .val (.int p2), .val (.int p3), .val (.int p4), .val (.int p5), .val (.int (2 : Int32)), .val (.int kb), .val (.int kc), .val (.int vs), .val (.int tg), .val (.ref a185), .val (.int (1 : Int32))] rfl (hb hby at_159) rfl rfl ?_
                        refine own_goto X258 hx 187 (hb hby at_161) (by decide) (by decide) ?_
                        refine own_aload X258 hx 189 (hb hby at_187) rfl rfl ?_
                        refine own_iload X258 hx 191 (hb hby at_189) rfl rfl ?_
                        refine own_callV X258 hx hZ hown rfl (y := site_191) (a := a185) (argsL := [(.int tg)]) (rest := []) 194 (rm3_2 l Z a0 hw a185 t203 tg (fun q => if q = 1 then kb else (fun q => if q = 0 then p1 else (fun _ => 0) q) q) T256.heap n0 Z277 f269 f262 f265 f266) f269 (hw _ (List.mem_of_getElem? (i := 16) rfl)) (hw _ (List.mem_of_getElem? (i := 17) rfl)) (hw _ (List.mem_of_getElem? (i := 19) rfl)) (hw _ (List.mem_of_getElem? (i := 18) rfl)) (hw _ (List.mem_of_getElem? (i := 2) rfl)) (hw _ (List.mem_of_getElem? (i := 20) rfl)) (by decide) (by rw [hml]; rfl) (lenOf (by decide +kernel : parseMethodDescriptor "(I)I" = some ⟨[.int], some .int⟩) rfl) rfl (hb hby at_191) rfl (W := 0) rfl (by decide) (by decide) (by decide) (by decide) (fun r292 T293 L294 X295 q296 => ?_)
                        obtain ⟨rfl, N297q, e298⟩ := q296
                        have N297 := Fr.app N260 N297q
                        show own_W p e below _ T293 (mkF m 194 #[.val (.int p0), .val (.int p1), .val (.int p2), .val (.int p3), .val (.int p4), .val (.int p5), .val (.int (2 : Int32)), .val (.int kb), .val (.int kc), .val (.int vs), .val (.int tg), .val (.ref a185), .val (.int (1 : Int32))] [(.int (own_find2 (fun q => if q = 1 then kb else (fun q => if q = 0 then p1 else (fun _ => 0) q) q) tg))])
                        refine own_iload X295 hx 196 (hb hby at_194) rfl rfl ?_
                        refine own_icmp_ne X295 hx 203 199 (hb hby at_196) (by decide) (by decide) rfl (fun h299 => ?_) (fun h299 => ?_)
                        · exact absurd (by simp [own_find2, h280, h282]) h299
                        · show own_W p e below _ T293 (mkF m 199 #[.val (.int p0), .val (.int p1), .val (.int p2), .val (.int p3), .val (.int p4), .val (.int p5), .val (.int (2 : Int32)), .val (.int kb), .val (.int kc), .val (.int vs), .val (.int tg), .val (.ref a185), .val (.int (1 : Int32))] [])
                          refine own_iconst X295 hx 200 (1 : Int32) (by decide) (hb hby at_199) rfl ?_
                          refine own_goto X295 hx 204 (hb hby at_200) (by decide) (by decide) ?_
                          exact own_retZ X295 hx (1 : Int32) (by decide) hret hlk (hb hby at_204) (by decide) (by decide) ⟨rfl, N297⟩
                  · show own_W p e below _ T256 (mkF m 139 #[.val (.int p0), .val (.int p1), .val (.int p2), .val (.int p3), .val (.int p4), .val (.int p5), .val (.int (2 : Int32)), .val (.int kb), .val (.int kc), .val (.int vs), .val (.int tg), .val (.ref a185), .unset] [])
                    refine own_iconst X258 hx 140 (0 : Int32) (by decide) (hb hby at_139) rfl ?_
                    refine own_istore X258 hx 142 #[.val (.int p0), .val (.int p1), .val (.int p2), .val (.int p3), .val (.int p4), .val (.int p5), .val (.int (2 : Int32)), .val (.int kb), .val (.int kc), .val (.int vs), .val (.int tg), .val (.ref a185), .val (.int (0 : Int32))] rfl (hb hby at_140) rfl rfl ?_
                    refine own_goto X258 hx 187 (hb hby at_142) (by decide) (by decide) ?_
                    refine own_aload X258 hx 189 (hb hby at_187) rfl rfl ?_
                    refine own_iload X258 hx 191 (hb hby at_189) rfl rfl ?_
                    refine own_callV X258 hx hZ hown rfl (y := site_191) (a := a185) (argsL := [(.int tg)]) (rest := []) 194 (rm3_2 l Z a0 hw a185 t203 tg (fun q => if q = 1 then kb else (fun q => if q = 0 then p1 else (fun _ => 0) q) q) T256.heap n0 Z277 f269 f262 f265 f266) f269 (hw _ (List.mem_of_getElem? (i := 16) rfl)) (hw _ (List.mem_of_getElem? (i := 17) rfl)) (hw _ (List.mem_of_getElem? (i := 19) rfl)) (hw _ (List.mem_of_getElem? (i := 18) rfl)) (hw _ (List.mem_of_getElem? (i := 2) rfl)) (hw _ (List.mem_of_getElem? (i := 20) rfl)) (by decide) (by rw [hml]; rfl) (lenOf (by decide +kernel : parseMethodDescriptor "(I)I" = some ⟨[.int], some .int⟩) rfl) rfl (hb hby at_191) rfl (W := 0) rfl (by decide) (by decide) (by decide) (by decide) (fun r300 T301 L302 X303 q304 => ?_)
                    obtain ⟨rfl, N305q, e306⟩ := q304
                    have N305 := Fr.app N260 N305q
                    show own_W p e below _ T301 (mkF m 194 #[.val (.int p0), .val (.int p1), .val (.int p2), .val (.int p3), .val (.int p4), .val (.int p5), .val (.int (2 : Int32)), .val (.int kb), .val (.int kc), .val (.int vs), .val (.int tg), .val (.ref a185), .val (.int (0 : Int32))] [(.int (own_find2 (fun q => if q = 1 then kb else (fun q => if q = 0 then p1 else (fun _ => 0) q) q) tg))])
                    refine own_iload X303 hx 196 (hb hby at_194) rfl rfl ?_
                    refine own_icmp_ne X303 hx 203 199 (hb hby at_196) (by decide) (by decide) rfl (fun h307 => ?_) (fun h307 => ?_)
                    · exact absurd (by simp [own_find2, h280]) h307
                    · show own_W p e below _ T301 (mkF m 199 #[.val (.int p0), .val (.int p1), .val (.int p2), .val (.int p3), .val (.int p4), .val (.int p5), .val (.int (2 : Int32)), .val (.int kb), .val (.int kc), .val (.int vs), .val (.int tg), .val (.ref a185), .val (.int (0 : Int32))] [])
                      refine own_iconst X303 hx 200 (1 : Int32) (by decide) (hb hby at_199) rfl ?_
                      refine own_goto X303 hx 204 (hb hby at_200) (by decide) (by decide) ?_
                      exact own_retZ X303 hx (1 : Int32) (by decide) hret hlk (hb hby at_204) (by decide) (by decide) ⟨rfl, N305⟩
              · exact absurd h278 (by decide)
        refine own_if_ne X0 hx 50 46 (hb hby at_43) (by decide) (by decide) rfl (fun h308 => ?_) (fun h308 => ?_)
        · show own_W p e below _ T0 (mkF m 50 #[.val (.int p0), .val (.int p1), .val (.int p2), .val (.int p3), .val (.int p4), .val (.int p5), .val (.int (2 : Int32)), .val (.int kb), .val (.int kc), .val (.int vs), .unset, .unset, .unset] [])
          refine own_iload X0 hx 52 (hb hby at_50) rfl rfl ?_
          refine own_iconst X0 hx 53 (1 : Int32) (by decide) (hb hby at_52) rfl ?_
          refine own_icmp_ne X0 hx 61 56 (hb hby at_53) (by decide) (by decide) rfl (fun h309 => ?_) (fun h309 => ?_)
          · show own_W p e below _ T0 (mkF m 61 #[.val (.int p0), .val (.int p1), .val (.int p2), .val (.int p3), .val (.int p4), .val (.int p5), .val (.int (2 : Int32)), .val (.int kb), .val (.int kc), .val (.int vs), .unset, .unset, .unset] [])
            refine own_iload X0 hx 63 (hb hby at_61) rfl rfl ?_
            refine own_iconst X0 hx 64 (2 : Int32) (by decide) (hb hby at_63) rfl ?_
            refine own_icmp_ne X0 hx 72 67 (hb hby at_64) (by decide) (by decide) rfl (fun h310 => ?_) (fun h310 => ?_)
            · show own_W p e below _ T0 (mkF m 72 #[.val (.int p0), .val (.int p1), .val (.int p2), .val (.int p3), .val (.int p4), .val (.int p5), .val (.int (2 : Int32)), .val (.int kb), .val (.int kc), .val (.int vs), .unset, .unset, .unset] [])
              refine own_iload X0 hx 74 (hb hby at_72) rfl rfl ?_
              exact J181 p4 (trivial)
            · show own_W p e below _ T0 (mkF m 67 #[.val (.int p0), .val (.int p1), .val (.int p2), .val (.int p3), .val (.int p4), .val (.int p5), .val (.int (2 : Int32)), .val (.int kb), .val (.int kc), .val (.int vs), .unset, .unset, .unset] [])
              refine own_iload X0 hx 69 (hb hby at_67) rfl rfl ?_
              refine own_goto X0 hx 74 (hb hby at_69) (by decide) (by decide) ?_
              exact J181 kc (trivial)
          · show own_W p e below _ T0 (mkF m 56 #[.val (.int p0), .val (.int p1), .val (.int p2), .val (.int p3), .val (.int p4), .val (.int p5), .val (.int (2 : Int32)), .val (.int kb), .val (.int kc), .val (.int vs), .unset, .unset, .unset] [])
            refine own_iload X0 hx 58 (hb hby at_56) rfl rfl ?_
            refine own_goto X0 hx 74 (hb hby at_58) (by decide) (by decide) ?_
            exact J181 kb (trivial)
        · show own_W p e below _ T0 (mkF m 46 #[.val (.int p0), .val (.int p1), .val (.int p2), .val (.int p3), .val (.int p4), .val (.int p5), .val (.int (2 : Int32)), .val (.int kb), .val (.int kc), .val (.int vs), .unset, .unset, .unset] [])
          refine own_iloadN X0 hx 47 (hb hby at_46) rfl rfl ?_
          refine own_goto X0 hx 74 (hb hby at_47) (by decide) (by decide) ?_
          exact J181 p1 (trivial)
      refine own_if_eq X0 hx 32 27 (hb hby at_24) (by decide) (by decide) rfl (fun h311 => ?_) (fun h311 => ?_)
      · show own_W p e below _ T0 (mkF m 32 #[.val (.int p0), .val (.int p1), .val (.int p2), .val (.int p3), .val (.int p4), .val (.int p5), .val (.int (2 : Int32)), .val (.int kb), .unset, .unset, .unset, .unset, .unset] [])
        refine own_iloadN X0 hx 33 (hb hby at_32) rfl rfl ?_
        exact J179 p3 (trivial)
      · show own_W p e below _ T0 (mkF m 27 #[.val (.int p0), .val (.int p1), .val (.int p2), .val (.int p3), .val (.int p4), .val (.int p5), .val (.int (2 : Int32)), .val (.int kb), .unset, .unset, .unset, .unset, .unset] [])
        refine own_iload X0 hx 29 (hb hby at_27) rfl rfl ?_
        refine own_goto X0 hx 33 (hb hby at_29) (by decide) (by decide) ?_
        exact J179 kb (trivial)
    refine own_if_eq X0 hx 16 12 (hb hby at_9) (by decide) (by decide) rfl (fun h312 => ?_) (fun h312 => ?_)
    · show own_W p e below _ T0 (mkF m 16 #[.val (.int p0), .val (.int p1), .val (.int p2), .val (.int p3), .val (.int p4), .val (.int p5), .val (.int (2 : Int32)), .unset, .unset, .unset, .unset, .unset, .unset] [])
      refine own_iloadN X0 hx 17 (hb hby at_16) rfl rfl ?_
      exact J177 p2 (trivial)
    · show own_W p e below _ T0 (mkF m 12 #[.val (.int p0), .val (.int p1), .val (.int p2), .val (.int p3), .val (.int p4), .val (.int p5), .val (.int (2 : Int32)), .unset, .unset, .unset, .unset, .unset, .unset] [])
      refine own_iloadN X0 hx 13 (hb hby at_12) rfl rfl ?_
      refine own_goto X0 hx 17 (hb hby at_13) (by decide) (by decide) ?_
      exact J177 p1 (trivial)
  · show own_W p e below _ T0 (mkF m 5 #[.val (.int p0), .val (.int p1), .val (.int p2), .val (.int p3), .val (.int p4), .val (.int p5), .val (.int (3 : Int32)), .unset, .unset, .unset, .unset, .unset, .unset] [])
    refine own_iload X0 hx 7 (hb hby at_5) rfl rfl ?_
    refine own_iconst X0 hx 8 (4 : Int32) (by decide) (hb hby at_7) rfl ?_
    refine own_iand X0 hx 9 (hb hby at_8) rfl ?_
    have J313 : ∀ (kb : Int32) (hj314 : True), own_W p e below (own_K s room_1 (fun v h L => v = some (.int 1) ∧ Fr n0 L)) T0 (mkF m 17 #[.val (.int p0), .val (.int p1), .val (.int p2), .val (.int p3), .val (.int p4), .val (.int p5), .val (.int (3 : Int32)), .unset, .unset, .unset, .unset, .unset, .unset] [(.int kb)]) := by
      intro kb hj314
      refine own_istore X0 hx 19 #[.val (.int p0), .val (.int p1), .val (.int p2), .val (.int p3), .val (.int p4), .val (.int p5), .val (.int (3 : Int32)), .val (.int kb), .unset, .unset, .unset, .unset, .unset] rfl (hb hby at_17) rfl rfl ?_
      refine own_iload X0 hx 21 (hb hby at_19) rfl rfl ?_
      refine own_bipush X0 hx 23 (8 : Int32) (by decide) (hb hby at_21) rfl ?_
      refine own_iand X0 hx 24 (hb hby at_23) rfl ?_
      have J315 : ∀ (kc : Int32) (hj316 : True), own_W p e below (own_K s room_1 (fun v h L => v = some (.int 1) ∧ Fr n0 L)) T0 (mkF m 33 #[.val (.int p0), .val (.int p1), .val (.int p2), .val (.int p3), .val (.int p4), .val (.int p5), .val (.int (3 : Int32)), .val (.int kb), .unset, .unset, .unset, .unset, .unset] [(.int kc)]) := by
        intro kc hj316
        refine own_istore X0 hx 35 #[.val (.int p0), .val (.int p1), .val (.int p2), .val (.int p3), .val (.int p4), .val (.int p5), .val (.int (3 : Int32)), .val (.int kb), .val (.int kc), .unset, .unset, .unset, .unset] rfl (hb hby at_33) rfl rfl ?_
        refine own_iload X0 hx 37 (hb hby at_35) rfl rfl ?_
        refine own_iconst X0 hx 38 (3 : Int32) (by decide) (hb hby at_37) rfl ?_
        refine own_iand X0 hx 39 (hb hby at_38) rfl ?_
        obtain ⟨vs, e_vs⟩ : ∃ z : Int32, z = (p5 &&& (3 : Int32)) := ⟨_, rfl⟩
        refine own_istore X0 hx 41 #[.val (.int p0), .val (.int p1), .val (.int p2), .val (.int p3), .val (.int p4), .val (.int p5), .val (.int (3 : Int32)), .val (.int kb), .val (.int kc), .val (.int vs), .unset, .unset, .unset] e_vs (hb hby at_39) rfl rfl ?_
        refine own_iload X0 hx 43 (hb hby at_41) rfl rfl ?_
        have J317 : ∀ (tg : Int32) (hj318 : True), own_W p e below (own_K s room_1 (fun v h L => v = some (.int 1) ∧ Fr n0 L)) T0 (mkF m 74 #[.val (.int p0), .val (.int p1), .val (.int p2), .val (.int p3), .val (.int p4), .val (.int p5), .val (.int (3 : Int32)), .val (.int kb), .val (.int kc), .val (.int vs), .unset, .unset, .unset] [(.int tg)]) := by
          intro tg hj318
          refine own_istore X0 hx 76 #[.val (.int p0), .val (.int p1), .val (.int p2), .val (.int p3), .val (.int p4), .val (.int p5), .val (.int (3 : Int32)), .val (.int kb), .val (.int kc), .val (.int vs), .val (.int tg), .unset, .unset] rfl (hb hby at_74) rfl rfl ?_
          refine own_new X0 hx hZ hown e0 79 (hw _ (List.mem_of_getElem? (i := 0) rfl)) (hw _ (List.mem_of_getElem? (i := 1) rfl)) (hw _ (List.mem_of_getElem? (i := 2) rfl)) (hb hby at_76) rfl (by decide) (by decide) (fun T319 h320 a321 X322 e323 g324 E325 A326 D327 => ?_)
          have ga328 : n0 ≤ a321 := by rw [g324]; exact Z0
          have Z329 : n0 ≤ h320.size := Nat.le_trans Z0 E325.1
          have f330 : Fld Z h320 a321 site_80.cls "kind" "[I" .null := D327 (Or.inl (hw _ (List.mem_of_getElem? (i := 11) rfl))) (ty := (.array .int)) (by decide)
          have f331 : Fld Z h320 a321 site_80.cls "start" "[I" .null := D327 (Or.inl (hw _ (List.mem_of_getElem? (i := 13) rfl))) (ty := (.array .int)) (by decide)
          have f332 : Fld Z h320 a321 site_80.cls "end" "[I" .null := D327 (Or.inl (hw _ (List.mem_of_getElem? (i := 15) rfl))) (ty := (.array .int)) (by decide)
          have f333 : Fld Z h320 a321 site_80.cls "size" "I" (.int (0 : Int32)) := D327 (Or.inl (hw _ (List.mem_of_getElem? (i := 22) rfl))) (ty := .int) (by decide)
          refine own_dup X322 hx 80 rfl (hb hby at_79) rfl ?_
          refine own_callI X322 hx hZ hown e323 (y := site_80) (a := a321) (argsL := []) (rest := [(.ref a321)]) 83 (rm1 l Z a0 hw a321 h320 n0 Z329 ga328 A326 f330 f331 f332 f333) rfl (hw _ (List.mem_of_getElem? (i := 3) rfl)) (hw _ (List.mem_of_getElem? (i := 4) rfl)) (hw _ (List.mem_of_getElem? (i := 2) rfl)) (hw _ (List.mem_of_getElem? (i := 5) rfl)) (by decide) (by rw [hml]; rfl) (lenOf (by decide +kernel : parseMethodDescriptor "()V" = some ⟨[], none⟩) rfl) rfl (hb hby at_80) rfl (W := 1) rfl (by decide) (by decide) (by decide) (by decide) (fun r334 T335 L336 X337 q338 => ?_)
          obtain ⟨t339, t340, t341, rfl, N342q, K343, ⟨g344, g345, g346⟩, ⟨na347, na348, na349⟩, ⟨nn350, nn351, nn352⟩, f353, f354, f355, f356, f357, f358, f359⟩ := q338
          have N342 := Fr.app N0 N342q
          have f360 := A326.keep K343
          have Z365 : n0 ≤ T335.heap.size := Nat.le_trans Z329 K343.1
          show own_W p e below _ T335 (mkF m 83 #[.val (.int p0), .val (.int p1), .val (.int p2), .val (.int p3), .val (.int p4), .val (.int p5), .val (.int (3 : Int32)), .val (.int kb), .val (.int kc), .val (.int vs), .val (.int tg), .unset, .unset] [(.ref a321)])
          refine own_astore X337 hx 85 #[.val (.int p0), .val (.int p1), .val (.int p2), .val (.int p3), .val (.int p4), .val (.int p5), .val (.int (3 : Int32)), .val (.int kb), .val (.int kc), .val (.int vs), .val (.int tg), .val (.ref a321), .unset] rfl (hb hby at_83) rfl rfl ?_
          refine own_iload X337 hx 87 (hb hby at_85) rfl rfl ?_
          refine own_if_le X337 hx 98 90 (hb hby at_87) (by decide) (by decide) rfl (fun h366 => ?_) (fun h366 => ?_)
          · exact absurd h366 (by decide)
          · show own_W p e below _ T335 (mkF m 90 #[.val (.int p0), .val (.int p1), .val (.int p2), .val (.int p3), .val (.int p4), .val (.int p5), .val (.int (3 : Int32)), .val (.int kb), .val (.int kc), .val (.int vs), .val (.int tg), .val (.ref a321), .unset] [])
            refine own_aload X337 hx 92 (hb hby at_90) rfl rfl ?_
            refine own_iloadN X337 hx 93 (hb hby at_92) rfl rfl ?_
            refine own_iconst X337 hx 94 (0 : Int32) (by decide) (hb hby at_93) rfl ?_
            refine own_iconst X337 hx 95 (1 : Int32) (by decide) (hb hby at_94) rfl ?_
            refine own_callV X337 hx hZ hown rfl (y := site_95) (a := a321) (argsL := [(.int p1), (.int (0 : Int32)), (.int (1 : Int32))]) (rest := []) 98 (rm4 l Z a0 hw a321 t339 t340 t341 p1 (0 : Int32) (1 : Int32) (0 : Int32) (1 : Int32) 0 (fun _ => 0) (fun _ => 0) (fun _ => 0) T335.heap n0 Z365 rfl (by decide) (by decide) ga328 g344 g345 g346 na347 na348 na349 nn350 nn351 nn352 f360 f353 f354 f355 f356 f357 f358 f359) f360 (hw _ (List.mem_of_getElem? (i := 23) rfl)) (hw _ (List.mem_of_getElem? (i := 24) rfl)) (hw _ (List.mem_of_getElem? (i := 26) rfl)) (hw _ (List.mem_of_getElem? (i := 25) rfl)) (hw _ (List.mem_of_getElem? (i := 2) rfl)) (hw _ (List.mem_of_getElem? (i := 27) rfl)) (by decide) (by rw [hml]; rfl) (lenOf (by decide +kernel : parseMethodDescriptor "(III)V" = some ⟨[.int, .int, .int], none⟩) rfl) rfl (hb hby at_95) rfl (W := 0) rfl (by decide) (by decide) (by decide) (by decide) (fun r367 T368 L369 X370 q371 => ?_)
            obtain ⟨rfl, N372q, K373, f374, f375, f376, f377, f378, f379, f380⟩ := q371
            have N372 := Fr.app N342 N372q
            have f381 := f360.keep K373
            have Z389 : n0 ≤ T368.heap.size := Nat.le_trans Z365 K373.1
            show own_W p e below _ T368 (mkF m 98 #[.val (.int p0), .val (.int p1), .val (.int p2), .val (.int p3), .val (.int p4), .val (.int p5), .val (.int (3 : Int32)), .val (.int kb), .val (.int kc), .val (.int vs), .val (.int tg), .val (.ref a321), .unset] [])
            refine own_iload X370 hx 100 (hb hby at_98) rfl rfl ?_
            refine own_iconst X370 hx 101 (1 : Int32) (by decide) (hb hby at_100) rfl ?_
            refine own_icmp_le X370 hx 113 104 (hb hby at_101) (by decide) (by decide) rfl (fun h390 => ?_) (fun h390 => ?_)
            · exact absurd h390 (by decide)
            · show own_W p e below _ T368 (mkF m 104 #[.val (.int p0), .val (.int p1), .val (.int p2), .val (.int p3), .val (.int p4), .val (.int p5), .val (.int (3 : Int32)), .val (.int kb), .val (.int kc), .val (.int vs), .val (.int tg), .val (.ref a321), .unset] [])
              refine own_aload X370 hx 106 (hb hby at_104) rfl rfl ?_
              refine own_iload X370 hx 108 (hb hby at_106) rfl rfl ?_
              refine own_iconst X370 hx 109 (1 : Int32) (by decide) (hb hby at_108) rfl ?_
              refine own_iconst X370 hx 110 (2 : Int32) (by decide) (hb hby at_109) rfl ?_
              refine own_callV X370 hx hZ hown rfl (y := site_95) (a := a321) (argsL := [(.int kb), (.int (1 : Int32)), (.int (2 : Int32))]) (rest := []) 113 (rm4 l Z a0 hw a321 t339 t340 t341 kb (1 : Int32) (2 : Int32) (1 : Int32) (2 : Int32) 1 (fun q => if q = 0 then p1 else (fun _ => 0) q) (fun q => if q = 0 then (0 : Int32) else (fun _ => 0) q) (fun q => if q = 0 then (1 : Int32) else (fun _ => 0) q) T368.heap n0 Z389 rfl (by decide) (by decide) ga328 g344 g345 g346 na347 na348 na349 nn350 nn351 nn352 f381 f374 f375 f376 f377 f378 f379 f380) f381 (hw _ (List.mem_of_getElem? (i := 23) rfl)) (hw _ (List.mem_of_getElem? (i := 24) rfl)) (hw _ (List.mem_of_getElem? (i := 26) rfl)) (hw _ (List.mem_of_getElem? (i := 25) rfl)) (hw _ (List.mem_of_getElem? (i := 2) rfl)) (hw _ (List.mem_of_getElem? (i := 27) rfl)) (by decide) (by rw [hml]; rfl) (lenOf (by decide +kernel : parseMethodDescriptor "(III)V" = some ⟨[.int, .int, .int], none⟩) rfl) rfl (hb hby at_110) rfl (W := 0) rfl (by decide) (by decide) (by decide) (by decide) (fun r391 T392 L393 X394 q395 => ?_)
              obtain ⟨rfl, N396q, K397, f398, f399, f400, f401, f402, f403, f404⟩ := q395
              have N396 := Fr.app N372 N396q
              have f405 := f381.keep K397
              have Z413 : n0 ≤ T392.heap.size := Nat.le_trans Z389 K397.1
              show own_W p e below _ T392 (mkF m 113 #[.val (.int p0), .val (.int p1), .val (.int p2), .val (.int p3), .val (.int p4), .val (.int p5), .val (.int (3 : Int32)), .val (.int kb), .val (.int kc), .val (.int vs), .val (.int tg), .val (.ref a321), .unset] [])
              refine own_iload X394 hx 115 (hb hby at_113) rfl rfl ?_
              refine own_iconst X394 hx 116 (2 : Int32) (by decide) (hb hby at_115) rfl ?_
              refine own_icmp_le X394 hx 128 119 (hb hby at_116) (by decide) (by decide) rfl (fun h414 => ?_) (fun h414 => ?_)
              · exact absurd h414 (by decide)
              · show own_W p e below _ T392 (mkF m 119 #[.val (.int p0), .val (.int p1), .val (.int p2), .val (.int p3), .val (.int p4), .val (.int p5), .val (.int (3 : Int32)), .val (.int kb), .val (.int kc), .val (.int vs), .val (.int tg), .val (.ref a321), .unset] [])
                refine own_aload X394 hx 121 (hb hby at_119) rfl rfl ?_
                refine own_iload X394 hx 123 (hb hby at_121) rfl rfl ?_
                refine own_iconst X394 hx 124 (2 : Int32) (by decide) (hb hby at_123) rfl ?_
                refine own_iconst X394 hx 125 (3 : Int32) (by decide) (hb hby at_124) rfl ?_
                refine own_callV X394 hx hZ hown rfl (y := site_95) (a := a321) (argsL := [(.int kc), (.int (2 : Int32)), (.int (3 : Int32))]) (rest := []) 128 (rm4 l Z a0 hw a321 t339 t340 t341 kc (2 : Int32) (3 : Int32) (2 : Int32) (3 : Int32) 2 (fun q => if q = 1 then kb else (fun q => if q = 0 then p1 else (fun _ => 0) q) q) (fun q => if q = 1 then (1 : Int32) else (fun q => if q = 0 then (0 : Int32) else (fun _ => 0) q) q) (fun q => if q = 1 then (2 : Int32) else (fun q => if q = 0 then (1 : Int32) else (fun _ => 0) q) q) T392.heap n0 Z413 rfl (by decide) (by decide) ga328 g344 g345 g346 na347 na348 na349 nn350 nn351 nn352 f405 f398 f399 f400 f401 f402 f403 f404) f405 (hw _ (List.mem_of_getElem? (i := 23) rfl)) (hw _ (List.mem_of_getElem? (i := 24) rfl)) (hw _ (List.mem_of_getElem? (i := 26) rfl)) (hw _ (List.mem_of_getElem? (i := 25) rfl)) (hw _ (List.mem_of_getElem? (i := 2) rfl)) (hw _ (List.mem_of_getElem? (i := 27) rfl)) (by decide) (by rw [hml]; rfl) (lenOf (by decide +kernel : parseMethodDescriptor "(III)V" = some ⟨[.int, .int, .int], none⟩) rfl) rfl (hb hby at_125) rfl (W := 0) rfl (by decide) (by decide) (by decide) (by decide) (fun r415 T416 L417 X418 q419 => ?_)
                obtain ⟨rfl, N420q, K421, f422, f423, f424, f425, f426, f427, f428⟩ := q419
                have N420 := Fr.app N396 N420q
                have f429 := f405.keep K421
                have Z437 : n0 ≤ T416.heap.size := Nat.le_trans Z413 K421.1
                show own_W p e below _ T416 (mkF m 128 #[.val (.int p0), .val (.int p1), .val (.int p2), .val (.int p3), .val (.int p4), .val (.int p5), .val (.int (3 : Int32)), .val (.int kb), .val (.int kc), .val (.int vs), .val (.int tg), .val (.ref a321), .unset] [])
                refine own_iload X418 hx 130 (hb hby at_128) rfl rfl ?_
                refine own_if_le X418 hx 145 133 (hb hby at_130) (by decide) (by decide) rfl (fun h438 => ?_) (fun h438 => ?_)
                · exact absurd h438 (by decide)
                · show own_W p e below _ T416 (mkF m 133 #[.val (.int p0), .val (.int p1), .val (.int p2), .val (.int p3), .val (.int p4), .val (.int p5), .val (.int (3 : Int32)), .val (.int kb), .val (.int kc), .val (.int vs), .val (.int tg), .val (.ref a321), .unset] [])
                  refine own_iloadN X418 hx 134 (hb hby at_133) rfl rfl ?_
                  refine own_iload X418 hx 136 (hb hby at_134) rfl rfl ?_
                  refine own_icmp_ne X418 hx 145 139 (hb hby at_136) (by decide) (by decide) rfl (fun h439 => ?_) (fun h439 => ?_)
                  · show own_W p e below _ T416 (mkF m 145 #[.val (.int p0), .val (.int p1), .val (.int p2), .val (.int p3), .val (.int p4), .val (.int p5), .val (.int (3 : Int32)), .val (.int kb), .val (.int kc), .val (.int vs), .val (.int tg), .val (.ref a321), .unset] [])
                    refine own_iload X418 hx 147 (hb hby at_145) rfl rfl ?_
                    refine own_iconst X418 hx 148 (1 : Int32) (by decide) (hb hby at_147) rfl ?_
                    refine own_icmp_le X418 hx 164 151 (hb hby at_148) (by decide) (by decide) rfl (fun h440 => ?_) (fun h440 => ?_)
                    · exact absurd h440 (by decide)
                    · show own_W p e below _ T416 (mkF m 151 #[.val (.int p0), .val (.int p1), .val (.int p2), .val (.int p3), .val (.int p4), .val (.int p5), .val (.int (3 : Int32)), .val (.int kb), .val (.int kc), .val (.int vs), .val (.int tg), .val (.ref a321), .unset] [])
                      refine own_iload X418 hx 153 (hb hby at_151) rfl rfl ?_
                      refine own_iload X418 hx 155 (hb hby at_153) rfl rfl ?_
                      refine own_icmp_ne X418 hx 164 158 (hb hby at_155) (by decide) (by decide) rfl (fun h441 => ?_) (fun h441 => ?_)
                      · show own_W p e below _ T416 (mkF m 164 #[.val (.int p0), .val (.int p1), .val (.int p2), .val (.int p3), .val (.int p4), .val (.int p5), .val (.int (3 : Int32)), .val (.int kb), .val (.int kc), .val (.int vs), .val (.int tg), .val (.ref a321), .unset] [])
                        refine own_iload X418 hx 166 (hb hby at_164) rfl rfl ?_
                        refine own_iconst X418 hx 167 (2 : Int32) (by decide) (hb hby at_166) rfl ?_
                        refine own_icmp_le X418 hx 183 170 (hb hby at_167) (by decide) (by decide) rfl (fun h442 => ?_) (fun h442 => ?_)
                        · exact absurd h442 (by decide)
                        · show own_W p e below _ T416 (mkF m 170 #[.val (.int p0), .val (.int p1), .val (.int p2), .val (.int p3), .val (.int p4), .val (.int p5), .val (.int (3 : Int32)), .val (.int kb), .val (.int kc), .val (.int vs), .val (.int tg), .val (.ref a321), .unset] [])
                          refine own_iload X418 hx 172 (hb hby at_170) rfl rfl ?_
                          refine own_iload X418 hx 174 (hb hby at_172) rfl rfl ?_
                          refine own_icmp_ne X418 hx 183 177 (hb hby at_174) (by decide) (by decide) rfl (fun h443 => ?_) (fun h443 => ?_)
                          · show own_W p e below _ T416 (mkF m 183 #[.val (.int p0), .val (.int p1), .val (.int p2), .val (.int p3), .val (.int p4), .val (.int p5), .val (.int (3 : Int32)), .val (.int kb), .val (.int kc), .val (.int vs), .val (.int tg), .val (.ref a321), .unset] [])
                            refine own_iload X418 hx 185 (hb hby at_183) rfl rfl ?_
                            refine own_istore X418 hx 187 #[.val (.int p0), .val (.int p1), .val (.int p2), .val (.int p3), .val (.int p4), .val (.int p5), .val (.int (3 : Int32)), .val (.int kb), .val (.int kc), .val (.int vs), .val (.int tg), .val (.ref a321), .val (.int (3 : Int32))] rfl (hb hby at_185) rfl rfl ?_
                            refine own_aload X418 hx 189 (hb hby at_187) rfl rfl ?_
                            refine own_iload X418 hx 191 (hb hby at_189) rfl rfl ?_
                            refine own_callV X418 hx hZ hown rfl (y := site_191) (a := a321) (argsL := [(.int tg)]) (rest := []) 194 (rm3_3 l Z a0 hw a321 t339 tg (fun q => if q = 2 then kc else (fun q => if q = 1 then kb else (fun q => if q = 0 then p1 else (fun _ => 0) q) q) q) T416.heap n0 Z437 f429 f422 f425 f426) f429 (hw _ (List.mem_of_getElem? (i := 16) rfl)) (hw _ (List.mem_of_getElem? (i := 17) rfl)) (hw _ (List.mem_of_getElem? (i := 19) rfl)) (hw _ (List.mem_of_getElem? (i := 18) rfl)) (hw _ (List.mem_of_getElem? (i := 2) rfl)) (hw _ (List.mem_of_getElem? (i := 20) rfl)) (by decide) (by rw [hml]; rfl) (lenOf (by decide +kernel : parseMethodDescriptor "(I)I" = some ⟨[.int], some .int⟩) rfl) rfl (hb hby at_191) rfl (W := 0) rfl (by decide) (by decide) (by decide) (by decide) (fun r444 T445 L446 X447 q448 => ?_)
                            obtain ⟨rfl, N449q, e450⟩ := q448
                            have N449 := Fr.app N420 N449q
                            show own_W p e below _ T445 (mkF m 194 #[.val (.int p0), .val (.int p1), .val (.int p2), .val (.int p3), .val (.int p4), .val (.int p5), .val (.int (3 : Int32)), .val (.int kb), .val (.int kc), .val (.int vs), .val (.int tg), .val (.ref a321), .val (.int (3 : Int32))] [(.int (own_find3 (fun q => if q = 2 then kc else (fun q => if q = 1 then kb else (fun q => if q = 0 then p1 else (fun _ => 0) q) q) q) tg))])
                            refine own_iload X447 hx 196 (hb hby at_194) rfl rfl ?_
                            refine own_icmp_ne X447 hx 203 199 (hb hby at_196) (by decide) (by decide) rfl (fun h451 => ?_) (fun h451 => ?_)
                            · exact absurd (by simp [own_find3, h439, h441, h443]) h451
                            · show own_W p e below _ T445 (mkF m 199 #[.val (.int p0), .val (.int p1), .val (.int p2), .val (.int p3), .val (.int p4), .val (.int p5), .val (.int (3 : Int32)), .val (.int kb), .val (.int kc), .val (.int vs), .val (.int tg), .val (.ref a321), .val (.int (3 : Int32))] [])
                              refine own_iconst X447 hx 200 (1 : Int32) (by decide) (hb hby at_199) rfl ?_
                              refine own_goto X447 hx 204 (hb hby at_200) (by decide) (by decide) ?_
                              exact own_retZ X447 hx (1 : Int32) (by decide) hret hlk (hb hby at_204) (by decide) (by decide) ⟨rfl, N449⟩
                          · show own_W p e below _ T416 (mkF m 177 #[.val (.int p0), .val (.int p1), .val (.int p2), .val (.int p3), .val (.int p4), .val (.int p5), .val (.int (3 : Int32)), .val (.int kb), .val (.int kc), .val (.int vs), .val (.int tg), .val (.ref a321), .unset] [])
                            refine own_iconst X418 hx 178 (2 : Int32) (by decide) (hb hby at_177) rfl ?_
                            refine own_istore X418 hx 180 #[.val (.int p0), .val (.int p1), .val (.int p2), .val (.int p3), .val (.int p4), .val (.int p5), .val (.int (3 : Int32)), .val (.int kb), .val (.int kc), .val (.int vs), .val (.int tg), .val (.ref a321), .val (.int (2 : Int32))] rfl (hb hby at_178) rfl rfl ?_
                            refine own_goto X418 hx 187 (hb hby at_180) (by decide) (by decide) ?_
                            refine own_aload X418 hx 189 (hb hby at_187) rfl rfl ?_
                            refine own_iload X418 hx 191 (hb hby at_189) rfl rfl ?_
                            refine own_callV X418 hx hZ hown rfl (y := site_191) (a := a321) (argsL := [(.int tg)]) (rest := []) 194 (rm3_3 l Z a0 hw a321 t339 tg (fun q => if q = 2 then kc else (fun q => if q = 1 then kb else (fun q => if q = 0 then p1 else (fun _ => 0) q) q) q) T416.heap n0 Z437 f429 f422 f425 f426) f429 (hw _ (List.mem_of_getElem? (i := 16) rfl)) (hw _ (List.mem_of_getElem? (i := 17) rfl)) (hw _ (List.mem_of_getElem? (i := 19) rfl)) (hw _ (List.mem_of_getElem? (i := 18) rfl)) (hw _ (List.mem_of_getElem? (i := 2) rfl)) (hw _ (List.mem_of_getElem? (i := 20) rfl)) (by decide) (by rw [hml]; rfl) (lenOf (by decide +kernel : parseMethodDescriptor "(I)I" = some ⟨[.int], some .int⟩) rfl) rfl (hb hby at_191) rfl (W := 0) rfl (by decide) (by decide) (by decide) (by decide) (fun r452 T453 L454 X455 q456 => ?_)
                            obtain ⟨rfl, N457q, e458⟩ := q456
                            have N457 := Fr.app N420 N457q
                            show own_W p e below _ T453 (mkF m 194 #[.val (.int p0), .val (.int p1), .val (.int p2), .val (.int p3), .val (.int p4), .val (.int p5), .val (.int (3 : Int32)), .val (.int kb), .val (.int kc), .val (.int vs), .val (.int tg), .val (.ref a321), .val (.int (2 : Int32))] [(.int (own_find3 (fun q => if q = 2 then kc else (fun q => if q = 1 then kb else (fun q => if q = 0 then p1 else (fun _ => 0) q) q) q) tg))])
                            refine own_iload X455 hx 196 (hb hby at_194) rfl rfl ?_
                            refine own_icmp_ne X455 hx 203 199 (hb hby at_196) (by decide) (by decide) rfl (fun h459 => ?_) (fun h459 => ?_)
                            · exact absurd (by simp [own_find3, h439, h441, h443]) h459
                            · show own_W p e below _ T453 (mkF m 199 #[.val (.int p0), .val (.int p1), .val (.int p2), .val (.int p3), .val (.int p4), .val (.int p5), .val (.int (3 : Int32)), .val (.int kb), .val (.int kc), .val (.int vs), .val (.int tg), .val (.ref a321), .val (.int (2 : Int32))] [])
                              refine own_iconst X455 hx 200 (1 : Int32) (by decide) (hb hby at_199) rfl ?_
                              refine own_goto X455 hx 204 (hb hby at_200) (by decide) (by decide) ?_
                              exact own_retZ X455 hx (1 : Int32) (by decide) hret hlk (hb hby at_204) (by decide) (by decide) ⟨rfl, N457⟩
                      · show own_W p e below _ T416 (mkF m 158 #[.val (.int p0), .val (.int p1), .val (.int p2), .val (.int p3), .val (.int p4), .val (.int p5), .val (.int (3 : Int32)), .val (.int kb), .val (.int kc), .val (.int vs), .val (.int tg), .val (.ref a321), .unset] [])
                        refine own_iconst X418 hx 159 (1 : Int32) (by decide) (hb hby at_158) rfl ?_
                        refine own_istore X418 hx 161 #[.val (.int p0), .val (.int p1), .val (.int p2), .val (.int p3), .val (.int p4), .val (.int p5), .val (.int (3 : Int32)), .val (.int kb), .val (.int kc), .val (.int vs), .val (.int tg), .val (.ref a321), .val (.int (1 : Int32))] rfl (hb hby at_159) rfl rfl ?_
                        refine own_goto X418 hx 187 (hb hby at_161) (by decide) (by decide) ?_
                        refine own_aload X418 hx 189 (hb hby at_187) rfl rfl ?_
                        refine own_iload X418 hx 191 (hb hby at_189) rfl rfl ?_
                        refine own_callV X418 hx hZ hown rfl (y := site_191) (a := a321) (argsL := [(.int tg)]) (rest := []) 194 (rm3_3 l Z a0 hw a321 t339 tg (fun q => if q = 2 then kc else (fun q => if q = 1 then kb else (fun q => if q = 0 then p1 else (fun _ => 0) q) q) q) T416.heap n0 Z437 f429 f422 f425 f426) f429 (hw _ (List.mem_of_getElem? (i := 16) rfl)) (hw _ (List.mem_of_getElem? (i := 17) rfl)) (hw _ (List.mem_of_getElem? (i := 19) rfl)) (hw _ (List.mem_of_getElem? (i := 18) rfl)) (hw _ (List.mem_of_getElem? (i := 2) rfl)) (hw _ (List.mem_of_getElem? (i := 20) rfl)) (by decide) (by rw [hml]; rfl) (lenOf (by decide +kernel : parseMethodDescriptor "(I)I" = some ⟨[.int], some .int⟩) rfl) rfl (hb hby at_191) rfl (W := 0) rfl (by decide) (by decide) (by decide) (by decide) (fun r460 T461 L462 X463 q464 => ?_)
                        obtain ⟨rfl, N465q, e466⟩ := q464
                        have N465 := Fr.app N420 N465q
                        show own_W p e below _ T461 (mkF m 194 #[.val (.int p0), .val (.int p1), .val (.int p2), .val (.int p3), .val (.int p4), .val (.int p5), .val (.int (3 : Int32)), .val (.int kb), .val (.int kc), .val (.int vs), .val (.int tg), .val (.ref a321), .val (.int (1 : Int32))] [(.int (own_find3 (fun q => if q = 2 then kc else (fun q => if q = 1 then kb else (fun q => if q = 0 then p1 else (fun _ => 0) q) q) q) tg))])
                        refine own_iload X463 hx 196 (hb hby at_194) rfl rfl ?_
                        refine own_icmp_ne X463 hx 203 199 (hb hby at_196) (by decide) (by decide) rfl (fun h467 => ?_) (fun h467 => ?_)
                        · exact absurd (by simp [own_find3, h439, h441]) h467
                        · show own_W p e below _ T461 (mkF m 199 #[.val (.int p0), .val (.int p1), .val (.int p2), .val (.int p3), .val (.int p4), .val (.int p5), .val (.int (3 : Int32)), .val (.int kb), .val (.int kc), .val (.int vs), .val (.int tg), .val (.ref a321), .val (.int (1 : Int32))] [])
                          refine own_iconst X463 hx 200 (1 : Int32) (by decide) (hb hby at_199) rfl ?_
                          refine own_goto X463 hx 204 (hb hby at_200) (by decide) (by decide) ?_
                          exact own_retZ X463 hx (1 : Int32) (by decide) hret hlk (hb hby at_204) (by decide) (by decide) ⟨rfl, N465⟩
                  · show own_W p e below _ T416 (mkF m 139 #[.val (.int p0), .val (.int p1), .val (.int p2), .val (.int p3), .val (.int p4), .val (.int p5), .val (.int (3 : Int32)), .val (.int kb), .val (.int kc), .val (.int vs), .val (.int tg), .val (.ref a321), .unset] [])
                    refine own_iconst X418 hx 140 (0 : Int32) (by decide) (hb hby at_139) rfl ?_
                    refine own_istore X418 hx 142 #[.val (.int p0), .val (.int p1), .val (.int p2), .val (.int p3), .val (.int p4), .val (.int p5), .val (.int (3 : Int32)), .val (.int kb), .val (.int kc), .val (.int vs), .val (.int tg), .val (.ref a321), .val (.int (0 : Int32))] rfl (hb hby at_140) rfl rfl ?_
                    refine own_goto X418 hx 187 (hb hby at_142) (by decide) (by decide) ?_
                    refine own_aload X418 hx 189 (hb hby at_187) rfl rfl ?_
                    refine own_iload X418 hx 191 (hb hby at_189) rfl rfl ?_
                    refine own_callV X418 hx hZ hown rfl (y := site_191) (a := a321) (argsL := [(.int tg)]) (rest := []) 194 (rm3_3 l Z a0 hw a321 t339 tg (fun q => if q = 2 then kc else (fun q => if q = 1 then kb else (fun q => if q = 0 then p1 else (fun _ => 0) q) q) q) T416.heap n0 Z437 f429 f422 f425 f426) f429 (hw _ (List.mem_of_getElem? (i := 16) rfl)) (hw _ (List.mem_of_getElem? (i := 17) rfl)) (hw _ (List.mem_of_getElem? (i := 19) rfl)) (hw _ (List.mem_of_getElem? (i := 18) rfl)) (hw _ (List.mem_of_getElem? (i := 2) rfl)) (hw _ (List.mem_of_getElem? (i := 20) rfl)) (by decide) (by rw [hml]; rfl) (lenOf (by decide +kernel : parseMethodDescriptor "(I)I" = some ⟨[.int], some .int⟩) rfl) rfl (hb hby at_191) rfl (W := 0) rfl (by decide) (by decide) (by decide) (by decide) (fun r468 T469 L470 X471 q472 => ?_)
                    obtain ⟨rfl, N473q, e474⟩ := q472
                    have N473 := Fr.app N420 N473q
                    show own_W p e below _ T469 (mkF m 194 #[.val (.int p0), .val (.int p1), .val (.int p2), .val (.int p3), .val (.int p4), .val (.int p5), .val (.int (3 : Int32)), .val (.int kb), .val (.int kc), .val (.int vs), .val (.int tg), .val (.ref a321), .val (.int (0 : Int32))] [(.int (own_find3 (fun q => if q = 2 then kc else (fun q => if q = 1 then kb else (fun q => if q = 0 then p1 else (fun _ => 0) q) q) q) tg))])
                    refine own_iload X471 hx 196 (hb hby at_194) rfl rfl ?_
                    refine own_icmp_ne X471 hx 203 199 (hb hby at_196) (by decide) (by decide) rfl (fun h475 => ?_) (fun h475 => ?_)
                    · exact absurd (by simp [own_find3, h439]) h475
                    · show own_W p e below _ T469 (mkF m 199 #[.val (.int p0), .val (.int p1), .val (.int p2), .val (.int p3), .val (.int p4), .val (.int p5), .val (.int (3 : Int32)), .val (.int kb), .val (.int kc), .val (.int vs), .val (.int tg), .val (.ref a321), .val (.int (0 : Int32))] [])
                      refine own_iconst X471 hx 200 (1 : Int32) (by decide) (hb hby at_199) rfl ?_
                      refine own_goto X471 hx 204 (hb hby at_200) (by decide) (by decide) ?_
                      exact own_retZ X471 hx (1 : Int32) (by decide) hret hlk (hb hby at_204) (by decide) (by decide) ⟨rfl, N473⟩
        refine own_if_ne X0 hx 50 46 (hb hby at_43) (by decide) (by decide) rfl (fun h476 => ?_) (fun h476 => ?_)
        · show own_W p e below _ T0 (mkF m 50 #[.val (.int p0), .val (.int p1), .val (.int p2), .val (.int p3), .val (.int p4), .val (.int p5), .val (.int (3 : Int32)), .val (.int kb), .val (.int kc), .val (.int vs), .unset, .unset, .unset] [])
          refine own_iload X0 hx 52 (hb hby at_50) rfl rfl ?_
          refine own_iconst X0 hx 53 (1 : Int32) (by decide) (hb hby at_52) rfl ?_
          refine own_icmp_ne X0 hx 61 56 (hb hby at_53) (by decide) (by decide) rfl (fun h477 => ?_) (fun h477 => ?_)
          · show own_W p e below _ T0 (mkF m 61 #[.val (.int p0), .val (.int p1), .val (.int p2), .val (.int p3), .val (.int p4), .val (.int p5), .val (.int (3 : Int32)), .val (.int kb), .val (.int kc), .val (.int vs), .unset, .unset, .unset] [])
            refine own_iload X0 hx 63 (hb hby at_61) rfl rfl ?_
            refine own_iconst X0 hx 64 (2 : Int32) (by decide) (hb hby at_63) rfl ?_
            refine own_icmp_ne X0 hx 72 67 (hb hby at_64) (by decide) (by decide) rfl (fun h478 => ?_) (fun h478 => ?_)
            · show own_W p e below _ T0 (mkF m 72 #[.val (.int p0), .val (.int p1), .val (.int p2), .val (.int p3), .val (.int p4), .val (.int p5), .val (.int (3 : Int32)), .val (.int kb), .val (.int kc), .val (.int vs), .unset, .unset, .unset] [])
              refine own_iload X0 hx 74 (hb hby at_72) rfl rfl ?_
              exact J317 p4 (trivial)
            · show own_W p e below _ T0 (mkF m 67 #[.val (.int p0), .val (.int p1), .val (.int p2), .val (.int p3), .val (.int p4), .val (.int p5), .val (.int (3 : Int32)), .val (.int kb), .val (.int kc), .val (.int vs), .unset, .unset, .unset] [])
              refine own_iload X0 hx 69 (hb hby at_67) rfl rfl ?_
              refine own_goto X0 hx 74 (hb hby at_69) (by decide) (by decide) ?_
              exact J317 kc (trivial)
          · show own_W p e below _ T0 (mkF m 56 #[.val (.int p0), .val (.int p1), .val (.int p2), .val (.int p3), .val (.int p4), .val (.int p5), .val (.int (3 : Int32)), .val (.int kb), .val (.int kc), .val (.int vs), .unset, .unset, .unset] [])
            refine own_iload X0 hx 58 (hb hby at_56) rfl rfl ?_
            refine own_goto X0 hx 74 (hb hby at_58) (by decide) (by decide) ?_
            exact J317 kb (trivial)
        · show own_W p e below _ T0 (mkF m 46 #[.val (.int p0), .val (.int p1), .val (.int p2), .val (.int p3), .val (.int p4), .val (.int p5), .val (.int (3 : Int32)), .val (.int kb), .val (.int kc), .val (.int vs), .unset, .unset, .unset] [])
          refine own_iloadN X0 hx 47 (hb hby at_46) rfl rfl ?_
          refine own_goto X0 hx 74 (hb hby at_47) (by decide) (by decide) ?_
          exact J317 p1 (trivial)
      refine own_if_eq X0 hx 32 27 (hb hby at_24) (by decide) (by decide) rfl (fun h479 => ?_) (fun h479 => ?_)
      · show own_W p e below _ T0 (mkF m 32 #[.val (.int p0), .val (.int p1), .val (.int p2), .val (.int p3), .val (.int p4), .val (.int p5), .val (.int (3 : Int32)), .val (.int kb), .unset, .unset, .unset, .unset, .unset] [])
        refine own_iloadN X0 hx 33 (hb hby at_32) rfl rfl ?_
        exact J315 p3 (trivial)
      · show own_W p e below _ T0 (mkF m 27 #[.val (.int p0), .val (.int p1), .val (.int p2), .val (.int p3), .val (.int p4), .val (.int p5), .val (.int (3 : Int32)), .val (.int kb), .unset, .unset, .unset, .unset, .unset] [])
        refine own_iload X0 hx 29 (hb hby at_27) rfl rfl ?_
        refine own_goto X0 hx 33 (hb hby at_29) (by decide) (by decide) ?_
        exact J315 kb (trivial)
    refine own_if_eq X0 hx 16 12 (hb hby at_9) (by decide) (by decide) rfl (fun h480 => ?_) (fun h480 => ?_)
    · show own_W p e below _ T0 (mkF m 16 #[.val (.int p0), .val (.int p1), .val (.int p2), .val (.int p3), .val (.int p4), .val (.int p5), .val (.int (3 : Int32)), .unset, .unset, .unset, .unset, .unset, .unset] [])
      refine own_iloadN X0 hx 17 (hb hby at_16) rfl rfl ?_
      exact J313 p2 (trivial)
    · show own_W p e below _ T0 (mkF m 12 #[.val (.int p0), .val (.int p1), .val (.int p2), .val (.int p3), .val (.int p4), .val (.int p5), .val (.int (3 : Int32)), .unset, .unset, .unset, .unset, .unset, .unset] [])
      refine own_iloadN X0 hx 13 (hb hby at_12) rfl rfl ?_
      refine own_goto X0 hx 17 (hb hby at_13) (by decide) (by decide) ?_
      exact J313 p1 (trivial)
set_option maxRecDepth 65536 in
set_option maxHeartbeats 40000000 in
theorem comes_1 {Post : Tables → Env → Array Value → State → Outcome → State → Prop} (hpost : ∀ tb e args s v u, (limb_1_1.after args s (.returned v) u = true ∧ limb_1_2.after args s (.returned v) u = true ∧ True) → FrameEnd s (.returned v) u (Jvm.fieldLocs frame_1_writes args s ++ Jvm.arrayLocs frame_1_arrays args s ++ Jvm.staticLocs frame_1_statics s) 16 192 → Post tb e args s (.returned v) u) :
    ArmFor flags0 classFile x code maxLocals ret World_1 tables_1 room_1 Calls_1 rest_1 Pre_1 Post := by
  intro l hfl _ _ p e ha hc hk s m args below hf hA hF happ hP
  obtain ⟨hcalls, hrest, hpre⟩ := hP
  obtain ⟨-, -, -, hnamed, -, -, -, hat⟩ := (Spec.applies_iff hf).mp happ
  obtain ⟨hg, hn⟩ := and_e (Cond.before_iff.mp (show (Jvm.Cond.and given_1 narrow_1).before args s = true from hpre))
  obtain ⟨g0, gr0⟩ := and_e hg
  obtain ⟨g1, gr1⟩ := and_e gr0
  obtain ⟨g2, gr2⟩ := and_e gr1
  obtain ⟨g3, gr3⟩ := and_e gr2
  obtain ⟨g4, gr4⟩ := and_e gr3
  obtain ⟨g5, gr5⟩ := and_e gr4
  obtain ⟨w0, w1, w2, w3, w4, w5, rfl⟩ : ∃ w0 w1 w2 w3 w4 w5 : Value, args = #[w0, w1, w2, w3, w4, w5] := by
    have hs : args.size = 6 := by simpa [Cond.value, given_1] using g0
    obtain ⟨L⟩ := args
    match L, hs with
    | [w0, w1, w2, w3, w4, w5], _ => exact ⟨w0, w1, w2, w3, w4, w5, rfl⟩
  have hw := fun d (hd : d ∈ tables_1) => atoms_spec (ws := Jvm.Cond.code x code maxLocals ret :: tables_1) hat d (List.mem_cons_of_mem _ hd)
  obtain ⟨i0, ei0⟩ := is_v g1
  obtain rfl : w0 = (.int i0) := Option.some.inj ei0
  obtain ⟨i1, ei1⟩ := is_v g2
  obtain rfl : w1 = (.int i1) := Option.some.inj ei1
  obtain ⟨i2, ei2⟩ := is_v g3
  obtain rfl : w2 = (.int i2) := Option.some.inj ei2
  obtain ⟨i3, ei3⟩ := is_v g4
  obtain rfl : w3 = (.int i3) := Option.some.inj ei3
  obtain ⟨i4, ei4⟩ := is_v g5
  obtain rfl : w4 = (.int i4) := Option.some.inj ei4
  obtain ⟨i5, ei5⟩ := is_v gr5
  obtain rfl : w5 = (.int i5) := Option.some.inj ei5
  obtain ⟨n, o, h1, h2, h3, _, L, rfl, ⟨rfl, N⟩, hq⟩ := rm0 l s _ hw i0 i1 i2 i3 i4 i5 s.heap s.heap.size (Nat.le_refl _) p e ha hc hk s m _ below hf ((Spec.applies_iff_loose hf).mp happ).1 ⟨rfl, State.Warmed39.refl s, rfl⟩ trivial
  refine ⟨n, _, h1, h2, h3, hpost _ _ _ _ _ _ ⟨Cond.after_iff.mpr rfl, Cond.after_iff.mpr (eq_i res_at (Term.int_eval (1)) rfl), trivial⟩ ⟨hq.1, hq.2.1, (hq.2.2.sift fun y hy => Or.inr (N y hy)).mono (by decide) (by decide)⟩⟩
theorem main_1_1 : Claimed_1_1 := comes_1 fun _ _ _ _ _ _ h hF => ⟨h.1, hF⟩
theorem main_1_2 : Claimed_1_2 := comes_1 fun _ _ _ _ _ _ h hF => ⟨h.2.1, hF⟩
end Jvm.Pilot.@@N@@
namespace Jvm.Pilot.@@N@@
open Jvm Jvm.ClassFile Sem Op Lib Jvm.Free Jvm.Stand Jvm.Pilot.@@N@@.Jvm.D
/-! MADE BY PROGRAM (witnessworld.py) out of the Statement's table words and the real class files: 9 classes; the members and pool entries that the words name. The judged class is class 1, her method 1. -/
namespace start1
open Jvm.ClassFile
def u (s : String) : CpInfo := .utf8 (stringToUtf16 s)
/-- a pool by its gaps: so many unusable entries, then the entry; so many at the end -/
def gap : Nat → List CpInfo → List CpInfo
  | 0, r => r
  | n + 1, r => .unusable :: gap n r
def poolList (es : List (Nat × CpInfo)) (last : Nat) : List CpInfo := es.foldr (fun e r => gap e.1 (e.2 :: r)) (gap last [])
def pool (es : List (Nat × CpInfo)) (last : Nat) : Array CpInfo := ⟨poolList es last⟩
def fileOf (pool : Array CpInfo) (this : Nat) (attrs : Array Attribute := #[]) (ms : Array MethodInfo := #[]) (fl : Nat := 33) (sup : Nat := 0) (ifs : Array Nat := #[]) (fds : Array FieldInfo := #[]) : ClassFile where
  minorVersion := 0
  majorVersion := 65
  constantPool := pool
  accessFlags := fl
  thisClass := this
  superClass := sup
  interfaces := ifs
  fields := fds
  methods := ms
  attributes := attrs
def plain (name : String) (sup : Option ClassId) : Class where
  name := name
  kind := .ordinary
  loader := none
  accessFlags := 33
  super := sup
  interfaces := #[]
  cf := none
  fields := #[]
  methods := #[]
  instanceTypes := #[]
  staticTypes := #[]
  resolved := #[]
  callSites := []
  init := .initialized
  statics := none
  mirror := none

def pool0 : Array CpInfo := pool [(5, u "<init>"), (0, u "()V"), (1, .class_ 10), (1, u "java/lang/Object")] 113

def k0c0 : Code := { maxStack := 0, maxLocals := 1, code := object_method_1_code, exceptionTable := #[], attributes := #[] }
def k0m0 : Method := { name := "<init>", desc := "()V", sig := { parameters := [], returnType := none }, accessFlags := 1, code := some k0c0 }
/-- java/lang/Object -/
def k0 : Class := { plain "java/lang/Object" none with
  accessFlags := 33
  interfaces := #[]
  cf := some (fileOf pool0 8 #[] #[{ accessFlags := 1, nameIndex := 5, descriptorIndex := 6, attributes := #[] }] 33 0 #[] #[])
  fields := #[]
  methods := #[k0m0]
  instanceTypes := #[]
  staticTypes := #[]
  resolved := Array.replicate 124 none
  statics := none }

def pool1 : Array CpInfo := pool [(2, .class_ 4), (0, .nameAndType 5 6), (0, u "java/lang/Object"), (0, u "<init>"), (0, u "()V"), (0, .class_ 8), (0, u site_80.cls), (0, .methodref 7 3), (0, .methodref 7 11), (0, .nameAndType 12 13), (0, u "add"), (0, u "(III)V"), (0, .methodref 7 15), (0, .nameAndType 16 17), (0, u "find"), (0, u "(I)I"), (0, .class_ 19), (0, u x.cls), (2, u "law"), (0, u "(IIIIII)Z")] 3

def k1m0 : Method := { name := "<init>", desc := "()V", sig := { parameters := [], returnType := none }, accessFlags := 1, code := none }
def k1c1 : Code := { maxStack := 4, maxLocals := 13, code := code, exceptionTable := #[], attributes := #[] }
def k1m1 : Method := { name := "law", desc := "(IIIIII)Z", sig := { parameters := [.int, .int, .int, .int, .int, .int], returnType := some .boolean }, accessFlags := 9, code := some k1c1 }
/-- x.cls -/
def k1 : Class := { plain x.cls (some 0) with
  accessFlags := 49
  interfaces := #[]
  cf := some (fileOf pool1 18 #[] #[{ accessFlags := 1, nameIndex := 5, descriptorIndex := 6, attributes := #[] }, { accessFlags := 9, nameIndex := 22, descriptorIndex := 23, attributes := #[] }] 49 2 #[] #[])
  fields := #[]
  methods := #[k1m0, k1m1]
  instanceTypes := #[]
  staticTypes := #[]
  resolved := Array.replicate 27 none
  statics := none }

def pool2 : Array CpInfo := pool [(1, .methodref 2 3), (0, .class_ 4), (0, .nameAndType 5 6), (0, u "java/lang/Object"), (0, u "<init>"), (0, u "()V"), (0, .fieldref 8 9), (0, .class_ 10), (0, .nameAndType 11 12), (0, u site_80.cls), (0, u "kind"), (0, u "[I"), (0, .fieldref 8 14), (0, .nameAndType 15 12), (0, u "start"), (0, .fieldref 8 17), (0, .nameAndType 18 12), (0, u "end"), (2, u "bytes"), (0, u "[B"), (2, u "string"), (0, u "Ljava/lang/String;"), (0, .fieldref 8 28), (0, .nameAndType 29 30), (0, u "size"), (0, u "I"), (26, u "add"), (0, u "(III)V"), (2, u "find"), (0, u "(I)I")] 5

def k2c0 : Code := { maxStack := 2, maxLocals := 1, code := prog_34_method_1_code, exceptionTable := #[], attributes := #[] }
def k2m0 : Method := { name := "<init>", desc := "()V", sig := { parameters := [], returnType := none }, accessFlags := 0, code := some k2c0 }
def k2c1 : Code := { maxStack := 5, maxLocals := 4, code := prog_34_method_4_code, exceptionTable := #[], attributes := #[] }
def k2m1 : Method := { name := "add", desc := "(III)V", sig := { parameters := [.int, .int, .int], returnType := none }, accessFlags := 0, code := some k2c1 }
def k2c2 : Code := { maxStack := 2, maxLocals := 3, code := prog_34_method_6_code, exceptionTable := #[], attributes := #[] }
def k2m2 : Method := { name := "find", desc := "(I)I", sig := { parameters := [.int], returnType := some .int }, accessFlags := 0, code := some k2c2 }
/-- site_80.cls -/
def k2 : Class := { plain site_80.cls (some 0) with
  accessFlags := 32
  interfaces := #[]
  cf := some (fileOf pool2 8 #[] #[{ accessFlags := 0, nameIndex := 5, descriptorIndex := 6, attributes := #[] }, { accessFlags := 0, nameIndex := 57, descriptorIndex := 58, attributes := #[] }, { accessFlags := 0, nameIndex := 61, descriptorIndex := 62, attributes := #[] }] 32 2 #[] #[{ accessFlags := 2, nameIndex := 21, descriptorIndex := 22, attributes := #[] }, { accessFlags := 2, nameIndex := 25, descriptorIndex := 26, attributes := #[] }, { accessFlags := 2, nameIndex := 11, descriptorIndex := 12, attributes := #[] }, { accessFlags := 2, nameIndex := 15, descriptorIndex := 12, attributes := #[] }, { accessFlags := 2, nameIndex := 18, descriptorIndex := 12, attributes := #[] }, { accessFlags := 2, nameIndex := 29, descriptorIndex := 30, attributes := #[] }])
  fields := #[{ name := "bytes", type := (.array .byte), accessFlags := 2, slot := 0, constantValue := 0 }, { name := "string", type := (.object "java/lang/String"), accessFlags := 2, slot := 1, constantValue := 0 }, { name := "kind", type := (.array .int), accessFlags := 2, slot := 2, constantValue := 0 }, { name := "start", type := (.array .int), accessFlags := 2, slot := 3, constantValue := 0 }, { name := "end", type := (.array .int), accessFlags := 2, slot := 4, constantValue := 0 }, { name := "size", type := .int, accessFlags := 2, slot := 5, constantValue := 0 }]
  methods := #[k2m0, k2m1, k2m2]
  instanceTypes := #[(.array .byte), (.object "java/lang/String"), (.array .int), (.array .int), (.array .int), .int]
  staticTypes := #[]
  resolved := Array.replicate 68 none
  statics := none }

def pool3 : Array CpInfo := pool [(1, u "java/lang/Cloneable"), (0, .class_ 1), (0, u "java/lang/Object"), (0, .class_ 3)] 3

/-- java/lang/Cloneable -/
def k3 : Class := { plain "java/lang/Cloneable" (some 0) with
  accessFlags := 1537
  interfaces := #[]
  cf := some (fileOf pool3 2 #[] #[] 1537 4 #[] #[])
  fields := #[]
  methods := #[]
  instanceTypes := #[]
  staticTypes := #[]
  resolved := Array.replicate 8 none
  statics := none }

def pool4 : Array CpInfo := pool [(1, u "java/io/Serializable"), (0, .class_ 1), (0, u "java/lang/Object"), (0, .class_ 3)] 3

/-- java/io/Serializable -/
def k4 : Class := { plain "java/io/Serializable" (some 0) with
  accessFlags := 1537
  interfaces := #[]
  cf := some (fileOf pool4 2 #[] #[] 1537 4 #[] #[])
  fields := #[]
  methods := #[]
  instanceTypes := #[]
  staticTypes := #[]
  resolved := Array.replicate 8 none
  statics := none }

/-- the primitive byte -/
def k5 : Class := { plain "byte" none with kind := .primitive 'B', accessFlags := 0x411 }
/-- [B -/
def k6 : Class := { plain "[B" (some 0) with kind := .array 5 .byte, interfaces := #[3, 4], accessFlags := 1041 }

/-- the primitive int -/
def k7 : Class := { plain "int" none with kind := .primitive 'I', accessFlags := 0x411 }
/-- [I -/
def k8 : Class := { plain "[I" (some 0) with kind := .array 7 .int, interfaces := #[3, 4], accessFlags := 1041 }

def heap : Heap := #[]
def classes : Array Class := #[k0, k1, k2, k3, k4, k5, k6, k7, k8]
def interned : List (Array UInt16 × Addr) := []
def slotsUsed : Nat := 0
def theMethod : MethodId := ⟨1, 1⟩
def args0 : Array Value := #[.int 7, .int 1, .int 2, .int 3, .int 4, .int 5]
def aboutOver (below : List Frame) : State where
  vm := { classes := classes, interned := interned.toArray }
  heap := heap
  slotsUsed := slotsUsed
  threads := #[{ frames := .invoking theMethod args0 :: below }]
def below0 : List Frame := [.native { method := ⟨0, 0⟩, args := #[] }]
def about1 : State := aboutOver below0
def p0 : Program := .bare "" "" ""
def e0 : Env := launch0.env 0 0 0
theorem w_frames : about1.frames = Frame.invoking theMethod args0 :: below0 := rfl
set_option maxRecDepth 65536 in
theorem w_args : argsFit about1.vm theMethod args0 = true := by decide +kernel
set_option maxRecDepth 65536 in
theorem w_heap : heapFits about1 = true := by decide +kernel
set_option maxRecDepth 65536 in
theorem w_runnable : about1.curStatus? = some .runnable := by decide +kernel
set_option maxRecDepth 65536 in
theorem w_alone : about1.alone = true := by decide +kernel
set_option maxRecDepth 65536 in
theorem w_named : about1.methodNamed? x = some theMethod := by decide +kernel
set_option maxRecDepth 65536 in
theorem w_hears : about1.hears theMethod below0 = true := by decide +kernel
set_option maxRecDepth 65536 in
theorem w_ripe : about1.ripe theMethod args0 below0 = true := by decide +kernel
theorem w_running : about1.status = .running := rfl
set_option maxRecDepth 65536 in
theorem w_room : about1.hasRoom e0.platform room_1 = true :=
  launch0.hasRoom_least _ room_1 (by decide +kernel) (by decide +kernel) (by decide +kernel) (by decide +kernel) (by decide +kernel) (by decide +kernel)
theorem allAtoms_all (ts : List Jvm.Cond) (a : Array Jvm.Value) (st : Jvm.State) : (allAtoms ts).before a st = ts.all (fun c => c.before a st) := by
  induction ts with
  | nil => rfl
  | cons c t ih =>
    show (Jvm.Cond.and c (allAtoms t)).before a st = _
    rw [Jvm.Cond.before_and, ih, List.all_cons]
def words1 : List Jvm.Cond := Jvm.Cond.code x code maxLocals ret :: tables_1
/-- a 'code' word, met by the world's own term for the bytes: nothing is compared byte by byte -/
theorem code_word {y : MethodName} {bytes : ByteArray} {mx : Nat} {rt : Option FieldType} {a : Array Value} {s : State} {m : MethodId} {meth : Method} {c : Code} (h1 : s.methodNamed? y = some m) (h2 : s.vm.method? m = some meth) (h3 : meth.code = some c) (h4 : c.code = bytes)
    (h5 : (c.maxLocals == mx && c.exceptionTable.isEmpty && decide (c.maxStack ≤ mostOperands) && decide (meth.sig.returnType = rt) && !meth.locks && decide (parseMethodDescriptor y.desc = some meth.sig)) = true) : (Jvm.Cond.code y bytes mx rt).before a s = true := by
  simp only [Bool.and_eq_true, beq_iff_eq, Bool.not_eq_true', decide_eq_true_eq] at h5
  obtain ⟨⟨⟨⟨⟨g1, g2⟩, g3⟩, g4⟩, g5⟩, g6⟩ := h5
  simp [Cond.before, Cond.holds, Cond.value, h1, h2, h3, h4, g1, g2, g3, g4, g5, g6]
def isCode : Jvm.Cond → Bool
  | .code _ _ _ _ => true
  | _ => false
theorem all_split {L : List Jvm.Cond} {P : Jvm.Cond → Bool} (h1 : L.all (fun c => isCode c || P c) = true) (h2 : ∀ c ∈ L.filter isCode, P c = true) : L.all P = true := by
  refine List.all_eq_true.mpr fun c hc => ?_
  have h := List.all_eq_true.mp h1 c hc
  rcases Bool.eq_false_or_eq_true (isCode c) with hi | hi
  · exact h2 c (List.mem_filter.mpr ⟨hc, hi⟩)
  · simpa [hi] using h
set_option maxRecDepth 65536 in
theorem w_c0 : (Jvm.Cond.code x code maxLocals ret).before args0 about1 = true := code_word (m := ⟨1, 1⟩) (meth := k1m1) (c := k1c1) (by decide +kernel) rfl rfl rfl (by decide +kernel)
set_option maxRecDepth 65536 in
theorem w_c1 : (Jvm.Cond.code ({ cls := site_80.cls, name := "<init>", desc := "()V" } : Jvm.MethodName) prog_34_method_1_code (1 : Nat) (Option.none : Option Jvm.ClassFile.FieldType)).before args0 about1 = true := code_word (m := ⟨2, 0⟩) (meth := k2m0) (c := k2c0) (by decide +kernel) rfl rfl rfl (by decide +kernel)
set_option maxRecDepth 65536 in
theorem w_c2 : (Jvm.Cond.code ({ cls := "java/lang/Object", name := "<init>", desc := "()V" } : Jvm.MethodName) object_method_1_code (1 : Nat) (Option.none : Option Jvm.ClassFile.FieldType)).before args0 about1 = true := code_word (m := ⟨0, 0⟩) (meth := k0m0) (c := k0c0) (by decide +kernel) rfl rfl rfl (by decide +kernel)
set_option maxRecDepth 65536 in
theorem w_c3 : (Jvm.Cond.code ({ cls := site_80.cls, name := "find", desc := "(I)I" } : Jvm.MethodName) prog_34_method_6_code (3 : Nat) (Option.some Jvm.ClassFile.FieldType.int)).before args0 about1 = true := code_word (m := ⟨2, 2⟩) (meth := k2m2) (c := k2c2) (by decide +kernel) rfl rfl rfl (by decide +kernel)
set_option maxRecDepth 65536 in
theorem w_c4 : (Jvm.Cond.code ({ cls := site_80.cls, name := "add", desc := "(III)V" } : Jvm.MethodName) prog_34_method_4_code (4 : Nat) (Option.none : Option Jvm.ClassFile.FieldType)).before args0 about1 = true := code_word (m := ⟨2, 1⟩) (meth := k2m1) (c := k2c1) (by decide +kernel) rfl rfl rfl (by decide +kernel)
def codes1 : List Jvm.Cond := [Jvm.Cond.code x code maxLocals ret, Jvm.Cond.code ({ cls := site_80.cls, name := "<init>", desc := "()V" } : Jvm.MethodName) prog_34_method_1_code (1 : Nat) (Option.none : Option Jvm.ClassFile.FieldType), Jvm.Cond.code ({ cls := "java/lang/Object", name := "<init>", desc := "()V" } : Jvm.MethodName) object_method_1_code (1 : Nat) (Option.none : Option Jvm.ClassFile.FieldType), Jvm.Cond.code ({ cls := site_80.cls, name := "find", desc := "(I)I" } : Jvm.MethodName) prog_34_method_6_code (3 : Nat) (Option.some Jvm.ClassFile.FieldType.int), Jvm.Cond.code ({ cls := site_80.cls, name := "add", desc := "(III)V" } : Jvm.MethodName) prog_34_method_4_code (4 : Nat) (Option.none : Option Jvm.ClassFile.FieldType)]
set_option maxRecDepth 65536 in
theorem codes_eq : words1.filter isCode = codes1 := rfl
theorem w_codes : ∀ c ∈ words1.filter isCode, c.before args0 about1 = true := by
  rw [codes_eq]
  intro c hc
  simp only [codes1, List.mem_cons, List.not_mem_nil, or_false] at hc
  rcases hc with rfl | rfl | rfl | rfl | rfl
  · exact w_c0
  · exact w_c1
  · exact w_c2
  · exact w_c3
  · exact w_c4
set_option maxRecDepth 65536 in
theorem w_t1 : (words1.take 24).all (fun c => isCode c || c.before args0 about1) = true := by decide +kernel
set_option maxRecDepth 65536 in
theorem w_t2 : (words1.drop 24).all (fun c => isCode c || c.before args0 about1) = true := by decide +kernel
theorem w_tables : (allAtoms (Jvm.Cond.code x code maxLocals ret :: tables_1)).before args0 about1 = true := by
  rw [allAtoms_all]
  show words1.all (fun c => c.before args0 about1) = true
  refine all_split ?_ w_codes
  rw [← List.take_append_drop 24 words1, List.all_append, w_t1, w_t2]
  rfl
set_option maxRecDepth 65536 in
theorem w_case : (Jvm.Cond.and given_1 narrow_1).before args0 about1 = true := by decide +kernel
theorem w_applies : (headSpec (Jvm.Cond.code x code maxLocals ret :: tables_1) room_1).applies x e0.platform about1 = true :=
  (Spec.applies_iff w_frames).mpr ⟨w_running, w_runnable, w_alone, w_named, w_hears, w_ripe, w_room, w_tables⟩
theorem atStart : AtStart classFile x code maxLocals ret World_1 tables_1 room_1 Calls_1 rest_1 Pre_1 launch0 p0 e0 about1 theMethod args0 below0 :=
  ⟨lists_1, trivial, launch0.admits_env _ _ _, launch0.least_env, fairChoices_fair.cas, fairChoices_fair.clock, w_frames, w_args, w_heap, w_applies, trivial, trivial, w_case⟩
end start1
theorem witness_1 : WitnessClaimed_1 := ⟨start1.p0, start1.e0, start1.about1, start1.theMethod, start1.args0, start1.below0, start1.atStart⟩
end Jvm.Pilot.@@N@@
