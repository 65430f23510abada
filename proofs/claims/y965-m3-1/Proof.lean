import JvmDerived
import JvmDerived.Pilot.@@N@@Statement
import JvmDerived.Pilot.@@N@@Code
set_option linter.unusedVariables false
set_option linter.unusedSimpArgs false
namespace Jvm.RoadKit
open Sem ClassFile Op Lib Jvm.Stand Jvm.Free Jvm.LawKit
section New
variable {p : Program} {l : Launch} {e : Env} {R : Room} {s : State} {m : MethodId} {args : Array Value} {below : List Frame} {meth : Method} {c : Code} {T : State} {locs : List Loc} {cells slots : Nat}
theorem retI (X : Stand p l e R s m args below meth c T locs cells slots) (hx : p.tables.exec = Jvm.exec) {pc : Nat} {Ls : Array Slot} {z : Int32} {rest : List Value} (hret : meth.sig.returnType = some .int) (hd : decode c.code pc = .ok (.ireturn, 1)) {fs : List Frame}
    (hl : ∀ (f : JFrame) (acts : List Action), f.method = m → f.locked = none → f.entered = [] → (doReturn e (T.setTop f) acts (some (.int z))).1 = T.setFrames fs) : Steps p.tables e below (T.setTop (mkF m pc Ls (.int z :: rest))) (T.setFrames fs) := by
  have hm' : T.vm.method? m = some meth := X.method'
  have hn : narrow .int (.int z) = .int z := rfl
  show Steps p.tables e below (T.setTop { method := m, pc := pc, locals := Ls, stack := _ :: rest, locked := none }) _
  jvm_step X.here [X.here.top, hx, hd, hm', hret, hn]
  first | (intro acts; rw [hl _ acts rfl rfl rfl]) | rw [hl _ _ rfl rfl rfl]
  exact Steps.refl _
end New
end Jvm.RoadKit
namespace Jvm.Pilot.@@N@@
open Jvm Jvm.ClassFile Sem Op Lib Jvm.Free Jvm.Stand Jvm.LawKit Jvm.RoadKit Bundle Jvm.Pilot.@@N@@.Jvm.D
section OwnLayer
variable {p : Program} {l : Launch} {e : Env} {R : Room} {s : State} {m : MethodId} {args : Array Value} {below : List Frame} {meth : Method} {c : Code} {T : State} {locs : List Loc} {cells slots : Nat} {Z : State} {a0 : Array Value} {h h' : Heap} {K : State → Outcome → Prop} {Q : Option Value → Heap → List Loc → Prop} {pc : Nat} {Ls : Array Slot} {S : List Value} {own : String} {index : Nat} {y : MethodName} {bytes : ByteArray} {maxL : Nat} {ret : Option FieldType} {rm : Room} {as' : Array Value} {h0 : Heap} {ws : List Jvm.Cond}
/-- from here the body comes to its end, and K holds of it -/
def own_W (p : Program) (e : Env) (below : List Frame) (K : State → Outcome → Prop) (T : State) (f : JFrame) : Prop :=
  ∃ s₂ o, Steps p.tables e below (T.setTop f) s₂ ∧ s₂.status = .running ∧ Ended s₂ below o ∧ K s₂ o
def own_K (s : State) (R : Room) (Q : Option Value → Heap → List Loc → Prop) (s₂ : State) (o : Outcome) : Prop :=
  ∃ v L, o = .returned v ∧ Q v s₂.heap L ∧ FrameEnd s o s₂ L R.cells R.slots
/-- a body's contract -/
def own_C (l : Launch) (Z : State) (y : MethodName) (bytes : ByteArray) (maxL : Nat) (ret : Option FieldType) (ws : List Jvm.Cond) (rm : Room) (as' : Array Value) (h0 : Heap) (Q : Option Value → Heap → List Loc → Prop) : Prop :=
  MetFree l y (head1 (Jvm.Cond.code y bytes maxL ret :: ws) rm) (fun a U => a = as' ∧ Z.Warmed39 U.vm ∧ U.heap = h0) (fun _ _ _ _ _ => True) (fun _ U o U' => ∃ v L, o = .returned v ∧ Q v U'.heap L ∧ FrameEnd U o U' L rm.cells rm.slots)
theorem own_bodyF (hpl : plainFor y = true)
    (body : ∀ (p : Program) (e : Env) (s : State) (m : MethodId) (below : List Frame) (meth : Method) (c : Code) (T : State), p.tables.exec = Jvm.exec → c.code = bytes → c.maxLocals = maxL → s.vm.findClass y.cls = some m.cls → meth.name = y.name → meth.sig.returnType = ret → meth.locks = false → Z.Warmed39 s.vm →
      Stand p l e rm s m as' below meth c T [] 0 0 → T.heap = h0 → own_W p e below (own_K s rm Q) T (entryFrame m as' maxL)) : own_C l Z y bytes maxL ret ws rm as' h0 Q := by
  refine MetFree.of_bodySF hpl hisR ?_
  intro p e s m args below meth c s₁ Bd hml0 hP hK
  obtain ⟨rfl, hZ, hh⟩ := hP
  exact body p e s m below meth c s₁ Bd.exec Bd.bytes hml0 (findClass_of_methodNamed Bd.named) (name_of_methodNamed Bd.named Bd.method).1 Bd.returns (BodyLoose.notSynchronized Bd) hZ (Stand.of_body Bd) (by rw [← hh, Bd.state]; rfl)
theorem own_body (hpn : plainName y.cls = true)
    (body : ∀ (p : Program) (e : Env) (s : State) (m : MethodId) (below : List Frame) (meth : Method) (c : Code) (T : State), p.tables.exec = Jvm.exec → c.code = bytes → c.maxLocals = maxL → s.vm.findClass y.cls = some m.cls → meth.name = y.name → meth.sig.returnType = ret → meth.locks = false → Z.Warmed39 s.vm →
      Stand p l e rm s m as' below meth c T [] 0 0 → T.heap = h0 → own_W p e below (own_K s rm Q) T (entryFrame m as' maxL)) : own_C l Z y bytes maxL ret ws rm as' h0 Q := own_bodyF (plainFor_of_name hpn) body
theorem own_s {f f' : JFrame} {T' : State} (hs : ∀ t, Steps p.tables e below (T'.setTop f') t → Steps p.tables e below (T.setTop f) t) (k : own_W p e below K T' f') : own_W p e below K T f := by
  obtain ⟨s₂, o, h1, r⟩ := k; exact ⟨s₂, o, hs _ h1, r⟩
theorem own_s' {f f' : JFrame} {T' : State} (hs : Steps p.tables e below (T.setTop f) (T'.setTop f')) (k : own_W p e below K T' f') : own_W p e below K T f := by
  obtain ⟨s₂, o, h1, r⟩ := k; exact ⟨s₂, o, hs.trans h1, r⟩
theorem own_eq {f f' : JFrame} (q : f = f') (k : own_W p e below K T f') : own_W p e below K T f := q ▸ k
section Plain
theorem own_iloadN (X : Stand p l e R s m args below meth c T locs cells slots) (hx : p.tables.exec = Jvm.exec) {i : Fin 4} {v : Int32} (pc' : Nat) (hd : decode c.code pc = .ok (.iload_n i, 1)) (hp : pc + 1 = pc') (hl : Ls[i.val]? = some (.val (.int v))) (k : own_W p e below K T (mkF m pc' Ls (.int v :: S))) : own_W p e below K T (mkF m pc Ls S) := by subst hp; exact own_s (fun _ => XS.iloadN X.here hx rfl hd hl) k
theorem own_iload (X : Stand p l e R s m args below meth c T locs cells slots) (hx : p.tables.exec = Jvm.exec) {i : Nat} {v : Int32} (pc' : Nat) (hd : decode c.code pc = .ok (.iload i, 2)) (hp : pc + 2 = pc') (hl : Ls[i]? = some (.val (.int v))) (k : own_W p e below K T (mkF m pc' Ls (.int v :: S))) : own_W p e below K T (mkF m pc Ls S) := by subst hp; exact own_s (fun _ => XS.iload X.here hx rfl hd hl) k
theorem own_lloadN (X : Stand p l e R s m args below meth c T locs cells slots) (hx : p.tables.exec = Jvm.exec) {i : Fin 4} {v : Int64} (pc' : Nat) (hd : decode c.code pc = .ok (.lload_n i, 1)) (hp : pc + 1 = pc') (hl : Ls[i.val]? = some (.val (.long v))) (k : own_W p e below K T (mkF m pc' Ls (.long v :: S))) : own_W p e below K T (mkF m pc Ls S) := by subst hp; exact own_s (fun _ => XS.lloadN X.here hx rfl hd hl) k
theorem own_lload (X : Stand p l e R s m args below meth c T locs cells slots) (hx : p.tables.exec = Jvm.exec) {i : Nat} {v : Int64} (pc' : Nat) (hd : decode c.code pc = .ok (.lload i, 2)) (hp : pc + 2 = pc') (hl : Ls[i]? = some (.val (.long v))) (k : own_W p e below K T (mkF m pc' Ls (.long v :: S))) : own_W p e below K T (mkF m pc Ls S) := by subst hp; exact own_s (fun _ => XS.lload X.here hx rfl hd hl) k
theorem own_aloadN (X : Stand p l e R s m args below meth c T locs cells slots) (hx : p.tables.exec = Jvm.exec) {i : Fin 4} {v : Addr} (pc' : Nat) (hd : decode c.code pc = .ok (.aload_n i, 1)) (hp : pc + 1 = pc') (hl : Ls[i.val]? = some (.val (.ref v))) (k : own_W p e below K T (mkF m pc' Ls (.ref v :: S))) : own_W p e below K T (mkF m pc Ls S) := by subst hp; exact own_s (fun _ => XS.aloadN X.here hx rfl hd hl rfl) k
theorem own_aload (X : Stand p l e R s m args below meth c T locs cells slots) (hx : p.tables.exec = Jvm.exec) {i : Nat} {v : Addr} (pc' : Nat) (hd : decode c.code pc = .ok (.aload i, 2)) (hp : pc + 2 = pc') (hl : Ls[i]? = some (.val (.ref v))) (k : own_W p e below K T (mkF m pc' Ls (.ref v :: S))) : own_W p e below K T (mkF m pc Ls S) := by subst hp; exact own_s (fun _ => XS.aload X.here hx rfl hd hl rfl) k
theorem own_istoreN (X : Stand p l e R s m args below meth c T locs cells slots) (hx : p.tables.exec = Jvm.exec) {i : Fin 4} {x y : Int32} (pc' : Nat) (l' : Array Slot) (hy : y = x) (hd : decode c.code pc = .ok (.istore_n i, 1)) (hp : pc + 1 = pc') (hl : storeLocals Ls i.val (.int y) = some l') (k : own_W p e below K T (mkF m pc' l' S)) : own_W p e below K T (mkF m pc Ls (.int x :: S)) := by subst hp hy; exact own_s (fun _ => XS.istoreN X.here hx rfl hd rfl hl) k
theorem own_istore (X : Stand p l e R s m args below meth c T locs cells slots) (hx : p.tables.exec = Jvm.exec) {i : Nat} {x y : Int32} (pc' : Nat) (l' : Array Slot) (hy : y = x) (hd : decode c.code pc = .ok (.istore i, 2)) (hp : pc + 2 = pc') (hl : storeLocals Ls i (.int y) = some l') (k : own_W p e below K T (mkF m pc' l' S)) : own_W p e below K T (mkF m pc Ls (.int x :: S)) := by subst hp hy; exact own_s (fun _ => XS.istore X.here hx rfl hd rfl hl) k
theorem own_lstoreN (X : Stand p l e R s m args below meth c T locs cells slots) (hx : p.tables.exec = Jvm.exec) {i : Fin 4} {x y : Int64} (pc' : Nat) (l' : Array Slot) (hy : y = x) (hd : decode c.code pc = .ok (.lstore_n i, 1)) (hp : pc + 1 = pc') (hl : storeLocals Ls i.val (.long y) = some l') (k : own_W p e below K T (mkF m pc' l' S)) : own_W p e below K T (mkF m pc Ls (.long x :: S)) := by subst hp hy; exact own_s (fun _ => XS.lstoreN X.here hx rfl hd rfl hl) k
theorem own_lstore (X : Stand p l e R s m args below meth c T locs cells slots) (hx : p.tables.exec = Jvm.exec) {i : Nat} {x y : Int64} (pc' : Nat) (l' : Array Slot) (hy : y = x) (hd : decode c.code pc = .ok (.lstore i, 2)) (hp : pc + 2 = pc') (hl : storeLocals Ls i (.long y) = some l') (k : own_W p e below K T (mkF m pc' l' S)) : own_W p e below K T (mkF m pc Ls (.long x :: S)) := by subst hp hy; exact own_s (fun _ => XS.lstore X.here hx rfl hd rfl hl) k
theorem own_astoreN (X : Stand p l e R s m args below meth c T locs cells slots) (hx : p.tables.exec = Jvm.exec) {i : Fin 4} {x y : Addr} (pc' : Nat) (l' : Array Slot) (hy : y = x) (hd : decode c.code pc = .ok (.astore_n i, 1)) (hp : pc + 1 = pc') (hl : storeLocals Ls i.val (.ref y) = some l') (k : own_W p e below K T (mkF m pc' l' S)) : own_W p e below K T (mkF m pc Ls (.ref x :: S)) := by subst hp hy; exact own_s (fun _ => XS.astoreN X.here hx rfl hd rfl rfl hl) k
theorem own_astore (X : Stand p l e R s m args below meth c T locs cells slots) (hx : p.tables.exec = Jvm.exec) {i : Nat} {x y : Addr} (pc' : Nat) (l' : Array Slot) (hy : y = x) (hd : decode c.code pc = .ok (.astore i, 2)) (hp : pc + 2 = pc') (hl : storeLocals Ls i (.ref y) = some l') (k : own_W p e below K T (mkF m pc' l' S)) : own_W p e below K T (mkF m pc Ls (.ref x :: S)) := by subst hp hy; exact own_s (fun _ => XS.astore X.here hx rfl hd rfl rfl hl) k
theorem own_iinc (X : Stand p l e R s m args below meth c T locs cells slots) (hx : p.tables.exec = Jvm.exec) {i : Nat} {cst : Int} {x : Int32} (y : Int32) (pc' : Nat) (l' : Array Slot) (hy : y = x + Int32.ofInt cst) (hd : decode c.code pc = .ok (.iinc i cst, 3)) (hp : pc + 3 = pc') (hl : Ls[i]? = some (.val (.int x))) (hl' : storeLocals Ls i (.int y) = some l') (k : own_W p e below K T (mkF m pc' l' S)) : own_W p e below K T (mkF m pc Ls S) := by subst hp hy; exact own_s (fun _ => XS.iinc X.here hx rfl hd hl hl') k
theorem own_iconst (X : Stand p l e R s m args below meth c T locs cells slots) (hx : p.tables.exec = Jvm.exec) {i : Int} (pc' : Nat) (z : Int32) (hz : Int32.ofInt i = z) (hd : decode c.code pc = .ok (.iconst i, 1)) (hp : pc + 1 = pc') (k : own_W p e below K T (mkF m pc' Ls (.int z :: S))) : own_W p e below K T (mkF m pc Ls S) := by subst hp hz; exact own_s (fun _ => XS.iconst X.here hx rfl hd) k
theorem own_bipush (X : Stand p l e R s m args below meth c T locs cells slots) (hx : p.tables.exec = Jvm.exec) {i : Int} (pc' : Nat) (z : Int32) (hz : (Int8.ofInt i).toInt32 = z) (hd : decode c.code pc = .ok (.bipush i, 2)) (hp : pc + 2 = pc') (k : own_W p e below K T (mkF m pc' Ls (.int z :: S))) : own_W p e below K T (mkF m pc Ls S) := by subst hp hz; exact own_s (fun _ => XS.bipush X.here hx rfl hd) k
theorem own_sipush (X : Stand p l e R s m args below meth c T locs cells slots) (hx : p.tables.exec = Jvm.exec) {i : Int} (pc' : Nat) (z : Int32) (hz : (Int16.ofInt i).toInt32 = z) (hd : decode c.code pc = .ok (.sipush i, 3)) (hp : pc + 3 = pc') (k : own_W p e below K T (mkF m pc' Ls (.int z :: S))) : own_W p e below K T (mkF m pc Ls S) := by subst hp hz; exact own_s (fun _ => XS.sipush X.here hx rfl hd) k
theorem own_lconst (X : Stand p l e R s m args below meth c T locs cells slots) (hx : p.tables.exec = Jvm.exec) {i : Fin 2} (pc' : Nat) (z : Int64) (hz : Int64.ofNat i = z) (hd : decode c.code pc = .ok (.lconst i, 1)) (hp : pc + 1 = pc') (k : own_W p e below K T (mkF m pc' Ls (.long z :: S))) : own_W p e below K T (mkF m pc Ls S) := by subst hp hz; exact own_s (fun _ => XS.lconst X.here hx rfl hd) k
theorem own_ldc (X : Stand p l e R s m args below meth c T locs cells slots) (hx : p.tables.exec = Jvm.exec) {v : Int32} (hZ : Z.Warmed39 s.vm) (hown : s.vm.findClass own = some m.cls) (pc' : Nat) (w : (Jvm.Cond.constant own index v).before a0 Z = true) (hd : decode c.code pc = .ok (.ldc index, 2)) (hp : pc + 2 = pc') (k : own_W p e below K T (mkF m pc' Ls (.int v :: S))) : own_W p e below K T (mkF m pc Ls S) := by subst hp; exact own_s (X.ldcInt hx hown (mvT hZ w) (g := mkF m pc Ls S) rfl hd) k
theorem own_ldc2 (X : Stand p l e R s m args below meth c T locs cells slots) (hx : p.tables.exec = Jvm.exec) {v : Int64} (hZ : Z.Warmed39 s.vm) (hown : s.vm.findClass own = some m.cls) (pc' : Nat) (w : (Jvm.Cond.constantLong own index v).before a0 Z = true) (hd : decode c.code pc = .ok (.ldc2_w index, 3)) (hp : pc + 3 = pc') (k : own_W p e below K T (mkF m pc' Ls (.long v :: S))) : own_W p e below K T (mkF m pc Ls S) := by subst hp; exact own_s (X.ldc2Long hx hown (mvT hZ w) (g := mkF m pc Ls S) rfl hd) k
theorem own_goto (X : Stand p l e R s m args below meth c T locs cells slots) (hx : p.tables.exec = Jvm.exec) {o : Int} (pc' : Nat) (hd : decode c.code pc = .ok (.goto o, 3)) (ho : 0 ≤ (pc : Int) + o) (hp : ((pc : Int) + o).toNat = pc') (k : own_W p e below K T (mkF m pc' Ls S)) : own_W p e below K T (mkF m pc Ls S) := own_s (fun _ => XS.goto X.here hx (g := mkF m pc Ls S) rfl rfl hd ho hp) k
theorem own_dup (X : Stand p l e R s m args below meth c T locs cells slots) (hx : p.tables.exec = Jvm.exec) {x : Value} (pc' : Nat) (hc : x.category = 1) (hd : decode c.code pc = .ok (.dup, 1)) (hp : pc + 1 = pc') (k : own_W p e below K T (mkF m pc' Ls (x :: x :: S))) : own_W p e below K T (mkF m pc Ls (x :: S)) := by subst hp; exact own_s (fun _ => XS.dup X.here hx rfl hd rfl hc) k
theorem own_pop (X : Stand p l e R s m args below meth c T locs cells slots) (hx : p.tables.exec = Jvm.exec) {x : Value} (pc' : Nat) (hc : x.category = 1) (hd : decode c.code pc = .ok (.pop, 1)) (hp : pc + 1 = pc') (k : own_W p e below K T (mkF m pc' Ls S)) : own_W p e below K T (mkF m pc Ls (x :: S)) := by subst hp; exact own_s (fun _ => XS.pop X.here hx rfl hd rfl hc) k
theorem own_dupX1 (X : Stand p l e R s m args below meth c T locs cells slots) (hx : p.tables.exec = Jvm.exec) {x y : Value} (pc' : Nat) (hc : x.category = 1) (hc2 : y.category = 1) (hd : decode c.code pc = .ok (.dup_x1, 1)) (hp : pc + 1 = pc') (k : own_W p e below K T (mkF m pc' Ls (x :: y :: x :: S))) : own_W p e below K T (mkF m pc Ls (x :: y :: S)) := by subst hp; exact own_s (fun _ => XS.dupX1 X.here hx rfl hd rfl hc hc2) k
theorem own_dup2 (X : Stand p l e R s m args below meth c T locs cells slots) (hx : p.tables.exec = Jvm.exec) {x y : Value} (pc' : Nat) (hc : x.category = 1) (hc2 : y.category = 1) (hd : decode c.code pc = .ok (.dup2, 1)) (hp : pc + 1 = pc') (k : own_W p e below K T (mkF m pc' Ls (x :: y :: x :: y :: S))) : own_W p e below K T (mkF m pc Ls (x :: y :: S)) := by subst hp; exact own_s (fun _ => XT.dup2 X.here hx rfl hd rfl hc hc2) k
theorem own_iadd (X : Stand p l e R s m args below meth c T locs cells slots) (hx : p.tables.exec = Jvm.exec) {x y : Int32} (pc' : Nat) (hd : decode c.code pc = .ok (.iadd, 1)) (hp : pc + 1 = pc') (k : own_W p e below K T (mkF m pc' Ls (.int (x + y) :: S))) : own_W p e below K T (mkF m pc Ls (.int y :: .int x :: S)) := by subst hp; exact own_s (fun _ => XS.iadd X.here hx rfl hd rfl) k
theorem own_ladd (X : Stand p l e R s m args below meth c T locs cells slots) (hx : p.tables.exec = Jvm.exec) {x y : Int64} (pc' : Nat) (hd : decode c.code pc = .ok (.ladd, 1)) (hp : pc + 1 = pc') (k : own_W p e below K T (mkF m pc' Ls (.long (x + y) :: S))) : own_W p e below K T (mkF m pc Ls (.long y :: .long x :: S)) := by subst hp; exact own_s (fun _ => XS.ladd X.here hx rfl hd rfl) k
theorem own_isub (X : Stand p l e R s m args below meth c T locs cells slots) (hx : p.tables.exec = Jvm.exec) {x y : Int32} (pc' : Nat) (hd : decode c.code pc = .ok (.isub, 1)) (hp : pc + 1 = pc') (k : own_W p e below K T (mkF m pc' Ls (.int (x - y) :: S))) : own_W p e below K T (mkF m pc Ls (.int y :: .int x :: S)) := by subst hp; exact own_s (fun _ => XS.isub X.here hx rfl hd rfl) k
theorem own_lsub (X : Stand p l e R s m args below meth c T locs cells slots) (hx : p.tables.exec = Jvm.exec) {x y : Int64} (pc' : Nat) (hd : decode c.code pc = .ok (.lsub, 1)) (hp : pc + 1 = pc') (k : own_W p e below K T (mkF m pc' Ls (.long (x - y) :: S))) : own_W p e below K T (mkF m pc Ls (.long y :: .long x :: S)) := by subst hp; exact own_s (fun _ => XS.lsub X.here hx rfl hd rfl) k
theorem own_imul (X : Stand p l e R s m args below meth c T locs cells slots) (hx : p.tables.exec = Jvm.exec) {x y : Int32} (pc' : Nat) (hd : decode c.code pc = .ok (.imul, 1)) (hp : pc + 1 = pc') (k : own_W p e below K T (mkF m pc' Ls (.int (x * y) :: S))) : own_W p e below K T (mkF m pc Ls (.int y :: .int x :: S)) := by subst hp; exact own_s (fun _ => XS.imul X.here hx rfl hd rfl) k
theorem own_lmul (X : Stand p l e R s m args below meth c T locs cells slots) (hx : p.tables.exec = Jvm.exec) {x y : Int64} (pc' : Nat) (hd : decode c.code pc = .ok (.lmul, 1)) (hp : pc + 1 = pc') (k : own_W p e below K T (mkF m pc' Ls (.long (x * y) :: S))) : own_W p e below K T (mkF m pc Ls (.long y :: .long x :: S)) := by subst hp; exact own_s (fun _ => XS.lmul X.here hx rfl hd rfl) k
theorem own_iand (X : Stand p l e R s m args below meth c T locs cells slots) (hx : p.tables.exec = Jvm.exec) {x y : Int32} (pc' : Nat) (hd : decode c.code pc = .ok (.iand, 1)) (hp : pc + 1 = pc') (k : own_W p e below K T (mkF m pc' Ls (.int (x &&& y) :: S))) : own_W p e below K T (mkF m pc Ls (.int y :: .int x :: S)) := by subst hp; exact own_s (fun _ => XS.iand X.here hx rfl hd rfl) k
theorem own_land (X : Stand p l e R s m args below meth c T locs cells slots) (hx : p.tables.exec = Jvm.exec) {x y : Int64} (pc' : Nat) (hd : decode c.code pc = .ok (.land, 1)) (hp : pc + 1 = pc') (k : own_W p e below K T (mkF m pc' Ls (.long (x &&& y) :: S))) : own_W p e below K T (mkF m pc Ls (.long y :: .long x :: S)) := by subst hp; exact own_s (fun _ => XS.land X.here hx rfl hd rfl) k
theorem own_ior (X : Stand p l e R s m args below meth c T locs cells slots) (hx : p.tables.exec = Jvm.exec) {x y : Int32} (pc' : Nat) (hd : decode c.code pc = .ok (.ior, 1)) (hp : pc + 1 = pc') (k : own_W p e below K T (mkF m pc' Ls (.int (x ||| y) :: S))) : own_W p e below K T (mkF m pc Ls (.int y :: .int x :: S)) := by subst hp; exact own_s (fun _ => XS.ior X.here hx rfl hd rfl) k
theorem own_lor (X : Stand p l e R s m args below meth c T locs cells slots) (hx : p.tables.exec = Jvm.exec) {x y : Int64} (pc' : Nat) (hd : decode c.code pc = .ok (.lor, 1)) (hp : pc + 1 = pc') (k : own_W p e below K T (mkF m pc' Ls (.long (x ||| y) :: S))) : own_W p e below K T (mkF m pc Ls (.long y :: .long x :: S)) := by subst hp; exact own_s (fun _ => XS.lor X.here hx rfl hd rfl) k
theorem own_ixor (X : Stand p l e R s m args below meth c T locs cells slots) (hx : p.tables.exec = Jvm.exec) {x y : Int32} (pc' : Nat) (hd : decode c.code pc = .ok (.ixor, 1)) (hp : pc + 1 = pc') (k : own_W p e below K T (mkF m pc' Ls (.int (x ^^^ y) :: S))) : own_W p e below K T (mkF m pc Ls (.int y :: .int x :: S)) := by subst hp; exact own_s (fun _ => XS.ixor X.here hx rfl hd rfl) k
theorem own_lxor (X : Stand p l e R s m args below meth c T locs cells slots) (hx : p.tables.exec = Jvm.exec) {x y : Int64} (pc' : Nat) (hd : decode c.code pc = .ok (.lxor, 1)) (hp : pc + 1 = pc') (k : own_W p e below K T (mkF m pc' Ls (.long (x ^^^ y) :: S))) : own_W p e below K T (mkF m pc Ls (.long y :: .long x :: S)) := by subst hp; exact own_s (fun _ => XS.lxor X.here hx rfl hd rfl) k
theorem own_iaddz (X : Stand p l e R s m args below meth c T locs cells slots) (hx : p.tables.exec = Jvm.exec) {x y z : Int32} (pc' : Nat) (hz : x + y = z) (hd : decode c.code pc = .ok (.iadd, 1)) (hp : pc + 1 = pc') (k : own_W p e below K T (mkF m pc' Ls (.int z :: S))) : own_W p e below K T (mkF m pc Ls (.int y :: .int x :: S)) := by subst hz; exact own_iadd X hx pc' hd hp k
theorem own_laddz (X : Stand p l e R s m args below meth c T locs cells slots) (hx : p.tables.exec = Jvm.exec) {x y z : Int64} (pc' : Nat) (hz : x + y = z) (hd : decode c.code pc = .ok (.ladd, 1)) (hp : pc + 1 = pc') (k : own_W p e below K T (mkF m pc' Ls (.long z :: S))) : own_W p e below K T (mkF m pc Ls (.long y :: .long x :: S)) := by subst hz; exact own_ladd X hx pc' hd hp k
theorem own_isubz (X : Stand p l e R s m args below meth c T locs cells slots) (hx : p.tables.exec = Jvm.exec) {x y z : Int32} (pc' : Nat) (hz : x - y = z) (hd : decode c.code pc = .ok (.isub, 1)) (hp : pc + 1 = pc') (k : own_W p e below K T (mkF m pc' Ls (.int z :: S))) : own_W p e below K T (mkF m pc Ls (.int y :: .int x :: S)) := by subst hz; exact own_isub X hx pc' hd hp k
theorem own_lsubz (X : Stand p l e R s m args below meth c T locs cells slots) (hx : p.tables.exec = Jvm.exec) {x y z : Int64} (pc' : Nat) (hz : x - y = z) (hd : decode c.code pc = .ok (.lsub, 1)) (hp : pc + 1 = pc') (k : own_W p e below K T (mkF m pc' Ls (.long z :: S))) : own_W p e below K T (mkF m pc Ls (.long y :: .long x :: S)) := by subst hz; exact own_lsub X hx pc' hd hp k
theorem own_imulz (X : Stand p l e R s m args below meth c T locs cells slots) (hx : p.tables.exec = Jvm.exec) {x y z : Int32} (pc' : Nat) (hz : x * y = z) (hd : decode c.code pc = .ok (.imul, 1)) (hp : pc + 1 = pc') (k : own_W p e below K T (mkF m pc' Ls (.int z :: S))) : own_W p e below K T (mkF m pc Ls (.int y :: .int x :: S)) := by subst hz; exact own_imul X hx pc' hd hp k
theorem own_lmulz (X : Stand p l e R s m args below meth c T locs cells slots) (hx : p.tables.exec = Jvm.exec) {x y z : Int64} (pc' : Nat) (hz : x * y = z) (hd : decode c.code pc = .ok (.lmul, 1)) (hp : pc + 1 = pc') (k : own_W p e below K T (mkF m pc' Ls (.long z :: S))) : own_W p e below K T (mkF m pc Ls (.long y :: .long x :: S)) := by subst hz; exact own_lmul X hx pc' hd hp k
theorem own_iandz (X : Stand p l e R s m args below meth c T locs cells slots) (hx : p.tables.exec = Jvm.exec) {x y z : Int32} (pc' : Nat) (hz : x &&& y = z) (hd : decode c.code pc = .ok (.iand, 1)) (hp : pc + 1 = pc') (k : own_W p e below K T (mkF m pc' Ls (.int z :: S))) : own_W p e below K T (mkF m pc Ls (.int y :: .int x :: S)) := by subst hz; exact own_iand X hx pc' hd hp k
theorem own_landz (X : Stand p l e R s m args below meth c T locs cells slots) (hx : p.tables.exec = Jvm.exec) {x y z : Int64} (pc' : Nat) (hz : x &&& y = z) (hd : decode c.code pc = .ok (.land, 1)) (hp : pc + 1 = pc') (k : own_W p e below K T (mkF m pc' Ls (.long z :: S))) : own_W p e below K T (mkF m pc Ls (.long y :: .long x :: S)) := by subst hz; exact own_land X hx pc' hd hp k
theorem own_iorz (X : Stand p l e R s m args below meth c T locs cells slots) (hx : p.tables.exec = Jvm.exec) {x y z : Int32} (pc' : Nat) (hz : x ||| y = z) (hd : decode c.code pc = .ok (.ior, 1)) (hp : pc + 1 = pc') (k : own_W p e below K T (mkF m pc' Ls (.int z :: S))) : own_W p e below K T (mkF m pc Ls (.int y :: .int x :: S)) := by subst hz; exact own_ior X hx pc' hd hp k
theorem own_lorz (X : Stand p l e R s m args below meth c T locs cells slots) (hx : p.tables.exec = Jvm.exec) {x y z : Int64} (pc' : Nat) (hz : x ||| y = z) (hd : decode c.code pc = .ok (.lor, 1)) (hp : pc + 1 = pc') (k : own_W p e below K T (mkF m pc' Ls (.long z :: S))) : own_W p e below K T (mkF m pc Ls (.long y :: .long x :: S)) := by subst hz; exact own_lor X hx pc' hd hp k
theorem own_ixorz (X : Stand p l e R s m args below meth c T locs cells slots) (hx : p.tables.exec = Jvm.exec) {x y z : Int32} (pc' : Nat) (hz : x ^^^ y = z) (hd : decode c.code pc = .ok (.ixor, 1)) (hp : pc + 1 = pc') (k : own_W p e below K T (mkF m pc' Ls (.int z :: S))) : own_W p e below K T (mkF m pc Ls (.int y :: .int x :: S)) := by subst hz; exact own_ixor X hx pc' hd hp k
theorem own_lxorz (X : Stand p l e R s m args below meth c T locs cells slots) (hx : p.tables.exec = Jvm.exec) {x y z : Int64} (pc' : Nat) (hz : x ^^^ y = z) (hd : decode c.code pc = .ok (.lxor, 1)) (hp : pc + 1 = pc') (k : own_W p e below K T (mkF m pc' Ls (.long z :: S))) : own_W p e below K T (mkF m pc Ls (.long y :: .long x :: S)) := by subst hz; exact own_lxor X hx pc' hd hp k
theorem own_ishl (X : Stand p l e R s m args below meth c T locs cells slots) (hx : p.tables.exec = Jvm.exec) {x : Int32} {y : Int32} (pc' : Nat) (hd : decode c.code pc = .ok (.ishl, 1)) (hp : pc + 1 = pc') (k : own_W p e below K T (mkF m pc' Ls (.int (x <<< (y &&& 31)) :: S))) : own_W p e below K T (mkF m pc Ls (.int y :: .int x :: S)) := by subst hp; exact own_s (fun _ => XS.ishl X.here hx rfl hd rfl) k
theorem own_ishr (X : Stand p l e R s m args below meth c T locs cells slots) (hx : p.tables.exec = Jvm.exec) {x : Int32} {y : Int32} (pc' : Nat) (hd : decode c.code pc = .ok (.ishr, 1)) (hp : pc + 1 = pc') (k : own_W p e below K T (mkF m pc' Ls (.int (x >>> (y &&& 31)) :: S))) : own_W p e below K T (mkF m pc Ls (.int y :: .int x :: S)) := by subst hp; exact own_s (fun _ => XS.ishr X.here hx rfl hd rfl) k
theorem own_iushr (X : Stand p l e R s m args below meth c T locs cells slots) (hx : p.tables.exec = Jvm.exec) {x : Int32} {y : Int32} (pc' : Nat) (hd : decode c.code pc = .ok (.iushr, 1)) (hp : pc + 1 = pc') (k : own_W p e below K T (mkF m pc' Ls (.int ((x.toUInt32 >>> (y &&& 31).toUInt32).toInt32) :: S))) : own_W p e below K T (mkF m pc Ls (.int y :: .int x :: S)) := by subst hp; exact own_s (fun _ => XS.iushr X.here hx rfl hd rfl) k
theorem own_lshl (X : Stand p l e R s m args below meth c T locs cells slots) (hx : p.tables.exec = Jvm.exec) {x : Int64} {y : Int32} (pc' : Nat) (hd : decode c.code pc = .ok (.lshl, 1)) (hp : pc + 1 = pc') (k : own_W p e below K T (mkF m pc' Ls (.long (x <<< (y &&& 0x3f).toInt64) :: S))) : own_W p e below K T (mkF m pc Ls (.int y :: .long x :: S)) := by subst hp; exact own_s (fun _ => XS.lshl X.here hx rfl hd rfl) k
theorem own_lshr (X : Stand p l e R s m args below meth c T locs cells slots) (hx : p.tables.exec = Jvm.exec) {x : Int64} {y : Int32} (pc' : Nat) (hd : decode c.code pc = .ok (.lshr, 1)) (hp : pc + 1 = pc') (k : own_W p e below K T (mkF m pc' Ls (.long (x >>> (y &&& 0x3f).toInt64) :: S))) : own_W p e below K T (mkF m pc Ls (.int y :: .long x :: S)) := by subst hp; exact own_s (fun _ => XS.lshr X.here hx rfl hd rfl) k
theorem own_lushr (X : Stand p l e R s m args below meth c T locs cells slots) (hx : p.tables.exec = Jvm.exec) {x : Int64} {y : Int32} (pc' : Nat) (hd : decode c.code pc = .ok (.lushr, 1)) (hp : pc + 1 = pc') (k : own_W p e below K T (mkF m pc' Ls (.long ((x.toUInt64 >>> (y &&& 0x3f).toInt64.toUInt64).toInt64) :: S))) : own_W p e below K T (mkF m pc Ls (.int y :: .long x :: S)) := by subst hp; exact own_s (fun _ => XS.lushr X.here hx rfl hd rfl) k
theorem own_ineg (X : Stand p l e R s m args below meth c T locs cells slots) (hx : p.tables.exec = Jvm.exec) {x : Int32} (pc' : Nat) (hd : decode c.code pc = .ok (.ineg, 1)) (hp : pc + 1 = pc') (k : own_W p e below K T (mkF m pc' Ls (.int ((-x)) :: S))) : own_W p e below K T (mkF m pc Ls (.int x :: S)) := by subst hp; exact own_s (fun _ => XS.ineg X.here hx rfl hd rfl) k
theorem own_lneg (X : Stand p l e R s m args below meth c T locs cells slots) (hx : p.tables.exec = Jvm.exec) {x : Int64} (pc' : Nat) (hd : decode c.code pc = .ok (.lneg, 1)) (hp : pc + 1 = pc') (k : own_W p e below K T (mkF m pc' Ls (.long ((-x)) :: S))) : own_W p e below K T (mkF m pc Ls (.long x :: S)) := by subst hp; exact own_s (fun _ => XS.lneg X.here hx rfl hd rfl) k
theorem own_i2l (X : Stand p l e R s m args below meth c T locs cells slots) (hx : p.tables.exec = Jvm.exec) {x : Int32} (pc' : Nat) (hd : decode c.code pc = .ok (.i2l, 1)) (hp : pc + 1 = pc') (k : own_W p e below K T (mkF m pc' Ls (.long (x.toInt64) :: S))) : own_W p e below K T (mkF m pc Ls (.int x :: S)) := by subst hp; exact own_s (fun _ => XS.i2l X.here hx rfl hd rfl) k
theorem own_l2i (X : Stand p l e R s m args below meth c T locs cells slots) (hx : p.tables.exec = Jvm.exec) {x : Int64} (pc' : Nat) (hd : decode c.code pc = .ok (.l2i, 1)) (hp : pc + 1 = pc') (k : own_W p e below K T (mkF m pc' Ls (.int (x.toInt32) :: S))) : own_W p e below K T (mkF m pc Ls (.long x :: S)) := by subst hp; exact own_s (fun _ => XS.l2i X.here hx rfl hd rfl) k
theorem own_i2b (X : Stand p l e R s m args below meth c T locs cells slots) (hx : p.tables.exec = Jvm.exec) {x : Int32} (pc' : Nat) (hd : decode c.code pc = .ok (.i2b, 1)) (hp : pc + 1 = pc') (k : own_W p e below K T (mkF m pc' Ls (.int (x.toInt8.toInt32) :: S))) : own_W p e below K T (mkF m pc Ls (.int x :: S)) := by subst hp; exact own_s (fun _ => XS.i2b X.here hx rfl hd rfl) k
theorem own_i2s (X : Stand p l e R s m args below meth c T locs cells slots) (hx : p.tables.exec = Jvm.exec) {x : Int32} (pc' : Nat) (hd : decode c.code pc = .ok (.i2s, 1)) (hp : pc + 1 = pc') (k : own_W p e below K T (mkF m pc' Ls (.int (x.toInt16.toInt32) :: S))) : own_W p e below K T (mkF m pc Ls (.int x :: S)) := by subst hp; exact own_s (fun _ => XS.i2s X.here hx rfl hd rfl) k
theorem own_i2c (X : Stand p l e R s m args below meth c T locs cells slots) (hx : p.tables.exec = Jvm.exec) {x : Int32} (pc' : Nat) (hd : decode c.code pc = .ok (.i2c, 1)) (hp : pc + 1 = pc') (k : own_W p e below K T (mkF m pc' Ls (.int (x.toUInt32.toUInt16.toUInt32.toInt32) :: S))) : own_W p e below K T (mkF m pc Ls (.int x :: S)) := by subst hp; exact own_s (fun _ => XS.i2c X.here hx rfl hd rfl) k
theorem own_i2lz (X : Stand p l e R s m args below meth c T locs cells slots) (hx : p.tables.exec = Jvm.exec) {x : Int32} {z : Int64} (pc' : Nat) (hz : x.toInt64 = z) (hd : decode c.code pc = .ok (.i2l, 1)) (hp : pc + 1 = pc') (k : own_W p e below K T (mkF m pc' Ls (.long z :: S))) : own_W p e below K T (mkF m pc Ls (.int x :: S)) := by subst hz; exact own_i2l X hx pc' hd hp k
theorem own_l2iz (X : Stand p l e R s m args below meth c T locs cells slots) (hx : p.tables.exec = Jvm.exec) {x : Int64} {z : Int32} (pc' : Nat) (hz : x.toInt32 = z) (hd : decode c.code pc = .ok (.l2i, 1)) (hp : pc + 1 = pc') (k : own_W p e below K T (mkF m pc' Ls (.int z :: S))) : own_W p e below K T (mkF m pc Ls (.long x :: S)) := by subst hz; exact own_l2i X hx pc' hd hp k
theorem own_idiv (X : Stand p l e R s m args below meth c T locs cells slots) (hx : p.tables.exec = Jvm.exec) {x y : Int32} (pc' : Nat) (hy : y ≠ 0) (hd : decode c.code pc = .ok (.idiv, 1)) (hp : pc + 1 = pc') (k : own_W p e below K T (mkF m pc' Ls (.int (x / y) :: S))) : own_W p e below K T (mkF m pc Ls (.int y :: .int x :: S)) := by subst hp; exact own_s (fun _ => XS.idiv X.here hx rfl hd rfl hy) k
theorem own_irem (X : Stand p l e R s m args below meth c T locs cells slots) (hx : p.tables.exec = Jvm.exec) {x y : Int32} (pc' : Nat) (hy : y ≠ 0) (hd : decode c.code pc = .ok (.irem, 1)) (hp : pc + 1 = pc') (k : own_W p e below K T (mkF m pc' Ls (.int (x % y) :: S))) : own_W p e below K T (mkF m pc Ls (.int y :: .int x :: S)) := by subst hp; exact own_s (fun _ => iremM X hx rfl hd rfl hy) k
theorem own_ldiv (X : Stand p l e R s m args below meth c T locs cells slots) (hx : p.tables.exec = Jvm.exec) {x y : Int64} (pc' : Nat) (hy : y ≠ 0) (hd : decode c.code pc = .ok (.ldiv, 1)) (hp : pc + 1 = pc') (k : own_W p e below K T (mkF m pc' Ls (.long (x / y) :: S))) : own_W p e below K T (mkF m pc Ls (.long y :: .long x :: S)) := by subst hp; exact own_s (fun _ => XS.ldiv X.here hx rfl hd rfl hy) k
theorem own_lrem (X : Stand p l e R s m args below meth c T locs cells slots) (hx : p.tables.exec = Jvm.exec) {x y : Int64} (pc' : Nat) (hy : y ≠ 0) (hd : decode c.code pc = .ok (.lrem, 1)) (hp : pc + 1 = pc') (k : own_W p e below K T (mkF m pc' Ls (.long (x % y) :: S))) : own_W p e below K T (mkF m pc Ls (.long y :: .long x :: S)) := by subst hp; rw [← lrem_mod] at k; exact own_s (fun _ => XS.lrem X.here hx rfl hd rfl hy) k
theorem own_icmp (X : Stand p l e R s m args below meth c T locs cells slots) (hx : p.tables.exec = Jvm.exec) {cd : ClassFile.Cond} {x y : Int32} {o : Int} (pcT pcF : Nat) (P : Prop) [Decidable P] (hT : P → if_icmp.holds cd x y = true) (hF : ¬ P → if_icmp.holds cd x y = false) (hd : decode c.code pc = .ok (.if_icmp cd o, 3)) (ho : 0 ≤ (pc : Int) + o) (hp : ((pc : Int) + o).toNat = pcT) (hp' : pc + 3 = pcF)
    (kT : P → own_W p e below K T (mkF m pcT Ls S)) (kF : ¬ P → own_W p e below K T (mkF m pcF Ls S)) : own_W p e below K T (mkF m pc Ls (.int y :: .int x :: S)) := by
  subst hp'
  by_cases q : P
  · exact own_s (fun _ => XS.icmpYes X.here hx (g := mkF m pc Ls (.int y :: .int x :: S)) rfl rfl hd rfl (hT q) ho hp) (kT q)
  · exact own_s (fun _ => XS.icmpNo X.here hx (g := mkF m pc Ls (.int y :: .int x :: S)) rfl hd rfl (hF q)) (kF q)
theorem own_if (X : Stand p l e R s m args below meth c T locs cells slots) (hx : p.tables.exec = Jvm.exec) {cd : ClassFile.Cond} {x : Int32} {o : Int} (pcT pcF : Nat) (P : Prop) [Decidable P] (hT : P → if_icmp.holds cd x 0 = true) (hF : ¬ P → if_icmp.holds cd x 0 = false) (hd : decode c.code pc = .ok (.ifCond cd o, 3)) (ho : 0 ≤ (pc : Int) + o) (hp : ((pc : Int) + o).toNat = pcT) (hp' : pc + 3 = pcF)
    (kT : P → own_W p e below K T (mkF m pcT Ls S)) (kF : ¬ P → own_W p e below K T (mkF m pcF Ls S)) : own_W p e below K T (mkF m pc Ls (.int x :: S)) := by
  subst hp'
  by_cases q : P
  · exact own_s (fun _ => XS.ifYes X.here hx (g := mkF m pc Ls (.int x :: S)) rfl rfl hd rfl ((if0 cd x).trans (hT q)) ho hp) (kT q)
  · exact own_s (fun _ => XS.ifNo X.here hx (g := mkF m pc Ls (.int x :: S)) rfl hd rfl ((if0 cd x).trans (hF q))) (kF q)
theorem own_lcmp (X : Stand p l e R s m args below meth c T locs cells slots) (hx : p.tables.exec = Jvm.exec) {x y : Int64} (pc' : Nat) (hd : decode c.code pc = .ok (.lcmp, 1)) (hp : pc + 1 = pc') (k : own_W p e below K T (mkF m pc' Ls (.int (lcmpW x y) :: S))) : own_W p e below K T (mkF m pc Ls (.long y :: .long x :: S)) := by subst hp; exact own_s (fun _ => XS.lcmp X.here hx rfl hd rfl) k
theorem own_icmp_lt (X : Stand p l e R s m args below meth c T locs cells slots) (hx : p.tables.exec = Jvm.exec) {x y : Int32} {o : Int} (pcT pcF : Nat) (hd : decode c.code pc = .ok (.if_icmp .lt o, 3)) (ho : 0 ≤ (pc : Int) + o) (hp : ((pc : Int) + o).toNat = pcT) (hp' : pc + 3 = pcF) (kT : x < y → own_W p e below K T (mkF m pcT Ls S)) (kF : ¬ x < y → own_W p e below K T (mkF m pcF Ls S)) : own_W p e below K T (mkF m pc Ls (.int y :: .int x :: S)) := own_icmp X hx pcT pcF (x < y) (fun q => (tlt q).1) (fun q => (flt q).1) hd ho hp hp' kT kF
theorem own_if_lt (X : Stand p l e R s m args below meth c T locs cells slots) (hx : p.tables.exec = Jvm.exec) {x : Int32} {o : Int} (pcT pcF : Nat) (hd : decode c.code pc = .ok (.ifCond .lt o, 3)) (ho : 0 ≤ (pc : Int) + o) (hp : ((pc : Int) + o).toNat = pcT) (hp' : pc + 3 = pcF) (kT : x < 0 → own_W p e below K T (mkF m pcT Ls S)) (kF : ¬ x < 0 → own_W p e below K T (mkF m pcF Ls S)) : own_W p e below K T (mkF m pc Ls (.int x :: S)) := own_if X hx pcT pcF (x < 0) (fun q => (tlt q).1) (fun q => (flt q).1) hd ho hp hp' kT kF
theorem own_lif_lt (X : Stand p l e R s m args below meth c T locs cells slots) (hx : p.tables.exec = Jvm.exec) {x y : Int64} {o : Int} (pc1 pcT pcF : Nat) (hd1 : decode c.code pc = .ok (.lcmp, 1)) (hp1 : pc + 1 = pc1) (hd : decode c.code pc1 = .ok (.ifCond .lt o, 3)) (ho : 0 ≤ (pc1 : Int) + o) (hp : ((pc1 : Int) + o).toNat = pcT) (hp' : pc1 + 3 = pcF) (kT : x < y → own_W p e below K T (mkF m pcT Ls S)) (kF : ¬ x < y → own_W p e below K T (mkF m pcF Ls S)) : own_W p e below K T (mkF m pc Ls (.long y :: .long x :: S)) := own_lcmp X hx pc1 hd1 hp1 (own_if_lt X hx pcT pcF hd ho hp hp' (fun q => kT ((lw_lt x y).mp q)) (fun q => kF (fun r => q ((lw_lt x y).mpr r))))
theorem own_icmp_ge (X : Stand p l e R s m args below meth c T locs cells slots) (hx : p.tables.exec = Jvm.exec) {x y : Int32} {o : Int} (pcT pcF : Nat) (hd : decode c.code pc = .ok (.if_icmp .ge o, 3)) (ho : 0 ≤ (pc : Int) + o) (hp : ((pc : Int) + o).toNat = pcT) (hp' : pc + 3 = pcF) (kT : ¬ x < y → own_W p e below K T (mkF m pcT Ls S)) (kF : x < y → own_W p e below K T (mkF m pcF Ls S)) : own_W p e below K T (mkF m pc Ls (.int y :: .int x :: S)) := own_icmp X hx pcT pcF (¬ x < y) (fun q => (flt q).2.1) (fun q => (tlt (Decidable.not_not.mp q)).2.1) hd ho hp hp' kT (fun q => kF (Decidable.not_not.mp q))
theorem own_if_ge (X : Stand p l e R s m args below meth c T locs cells slots) (hx : p.tables.exec = Jvm.exec) {x : Int32} {o : Int} (pcT pcF : Nat) (hd : decode c.code pc = .ok (.ifCond .ge o, 3)) (ho : 0 ≤ (pc : Int) + o) (hp : ((pc : Int) + o).toNat = pcT) (hp' : pc + 3 = pcF) (kT : ¬ x < 0 → own_W p e below K T (mkF m pcT Ls S)) (kF : x < 0 → own_W p e below K T (mkF m pcF Ls S)) : own_W p e below K T (mkF m pc Ls (.int x :: S)) := own_if X hx pcT pcF (¬ x < 0) (fun q => (flt q).2.1) (fun q => (tlt (Decidable.not_not.mp q)).2.1) hd ho hp hp' kT (fun q => kF (Decidable.not_not.mp q))
theorem own_lif_ge (X : Stand p l e R s m args below meth c T locs cells slots) (hx : p.tables.exec = Jvm.exec) {x y : Int64} {o : Int} (pc1 pcT pcF : Nat) (hd1 : decode c.code pc = .ok (.lcmp, 1)) (hp1 : pc + 1 = pc1) (hd : decode c.code pc1 = .ok (.ifCond .ge o, 3)) (ho : 0 ≤ (pc1 : Int) + o) (hp : ((pc1 : Int) + o).toNat = pcT) (hp' : pc1 + 3 = pcF) (kT : ¬ x < y → own_W p e below K T (mkF m pcT Ls S)) (kF : x < y → own_W p e below K T (mkF m pcF Ls S)) : own_W p e below K T (mkF m pc Ls (.long y :: .long x :: S)) := own_lcmp X hx pc1 hd1 hp1 (own_if_ge X hx pcT pcF hd ho hp hp' (fun q => kT (fun r => q ((lw_lt x y).mpr r))) (fun q => kF ((lw_lt x y).mp q)))
theorem own_icmp_gt (X : Stand p l e R s m args below meth c T locs cells slots) (hx : p.tables.exec = Jvm.exec) {x y : Int32} {o : Int} (pcT pcF : Nat) (hd : decode c.code pc = .ok (.if_icmp .gt o, 3)) (ho : 0 ≤ (pc : Int) + o) (hp : ((pc : Int) + o).toNat = pcT) (hp' : pc + 3 = pcF) (kT : y < x → own_W p e below K T (mkF m pcT Ls S)) (kF : ¬ y < x → own_W p e below K T (mkF m pcF Ls S)) : own_W p e below K T (mkF m pc Ls (.int y :: .int x :: S)) := own_icmp X hx pcT pcF (y < x) (fun q => (tlt q).2.2.1) (fun q => (flt q).2.2.1) hd ho hp hp' kT kF
theorem own_if_gt (X : Stand p l e R s m args below meth c T locs cells slots) (hx : p.tables.exec = Jvm.exec) {x : Int32} {o : Int} (pcT pcF : Nat) (hd : decode c.code pc = .ok (.ifCond .gt o, 3)) (ho : 0 ≤ (pc : Int) + o) (hp : ((pc : Int) + o).toNat = pcT) (hp' : pc + 3 = pcF) (kT : 0 < x → own_W p e below K T (mkF m pcT Ls S)) (kF : ¬ 0 < x → own_W p e below K T (mkF m pcF Ls S)) : own_W p e below K T (mkF m pc Ls (.int x :: S)) := own_if X hx pcT pcF (0 < x) (fun q => (tlt q).2.2.1) (fun q => (flt q).2.2.1) hd ho hp hp' kT kF
theorem own_lif_gt (X : Stand p l e R s m args below meth c T locs cells slots) (hx : p.tables.exec = Jvm.exec) {x y : Int64} {o : Int} (pc1 pcT pcF : Nat) (hd1 : decode c.code pc = .ok (.lcmp, 1)) (hp1 : pc + 1 = pc1) (hd : decode c.code pc1 = .ok (.ifCond .gt o, 3)) (ho : 0 ≤ (pc1 : Int) + o) (hp : ((pc1 : Int) + o).toNat = pcT) (hp' : pc1 + 3 = pcF) (kT : y < x → own_W p e below K T (mkF m pcT Ls S)) (kF : ¬ y < x → own_W p e below K T (mkF m pcF Ls S)) : own_W p e below K T (mkF m pc Ls (.long y :: .long x :: S)) := own_lcmp X hx pc1 hd1 hp1 (own_if_gt X hx pcT pcF hd ho hp hp' (fun q => kT ((lw_gt x y).mp q)) (fun q => kF (fun r => q ((lw_gt x y).mpr r))))
theorem own_icmp_le (X : Stand p l e R s m args below meth c T locs cells slots) (hx : p.tables.exec = Jvm.exec) {x y : Int32} {o : Int} (pcT pcF : Nat) (hd : decode c.code pc = .ok (.if_icmp .le o, 3)) (ho : 0 ≤ (pc : Int) + o) (hp : ((pc : Int) + o).toNat = pcT) (hp' : pc + 3 = pcF) (kT : ¬ y < x → own_W p e below K T (mkF m pcT Ls S)) (kF : y < x → own_W p e below K T (mkF m pcF Ls S)) : own_W p e below K T (mkF m pc Ls (.int y :: .int x :: S)) := own_icmp X hx pcT pcF (¬ y < x) (fun q => (flt q).2.2.2) (fun q => (tlt (Decidable.not_not.mp q)).2.2.2) hd ho hp hp' kT (fun q => kF (Decidable.not_not.mp q))
theorem own_if_le (X : Stand p l e R s m args below meth c T locs cells slots) (hx : p.tables.exec = Jvm.exec) {x : Int32} {o : Int} (pcT pcF : Nat) (hd : decode c.code pc = .ok (.ifCond .le o, 3)) (ho : 0 ≤ (pc : Int) + o) (hp : ((pc : Int) + o).toNat = pcT) (hp' : pc + 3 = pcF) (kT : ¬ 0 < x → own_W p e below K T (mkF m pcT Ls S)) (kF : 0 < x → own_W p e below K T (mkF m pcF Ls S)) : own_W p e below K T (mkF m pc Ls (.int x :: S)) := own_if X hx pcT pcF (¬ 0 < x) (fun q => (flt q).2.2.2) (fun q => (tlt (Decidable.not_not.mp q)).2.2.2) hd ho hp hp' kT (fun q => kF (Decidable.not_not.mp q))
theorem own_lif_le (X : Stand p l e R s m args below meth c T locs cells slots) (hx : p.tables.exec = Jvm.exec) {x y : Int64} {o : Int} (pc1 pcT pcF : Nat) (hd1 : decode c.code pc = .ok (.lcmp, 1)) (hp1 : pc + 1 = pc1) (hd : decode c.code pc1 = .ok (.ifCond .le o, 3)) (ho : 0 ≤ (pc1 : Int) + o) (hp : ((pc1 : Int) + o).toNat = pcT) (hp' : pc1 + 3 = pcF) (kT : ¬ y < x → own_W p e below K T (mkF m pcT Ls S)) (kF : y < x → own_W p e below K T (mkF m pcF Ls S)) : own_W p e below K T (mkF m pc Ls (.long y :: .long x :: S)) := own_lcmp X hx pc1 hd1 hp1 (own_if_le X hx pcT pcF hd ho hp hp' (fun q => kT (fun r => q ((lw_gt x y).mpr r))) (fun q => kF ((lw_gt x y).mp q)))
theorem own_icmp_eq (X : Stand p l e R s m args below meth c T locs cells slots) (hx : p.tables.exec = Jvm.exec) {x y : Int32} {o : Int} (pcT pcF : Nat) (hd : decode c.code pc = .ok (.if_icmp .eq o, 3)) (ho : 0 ≤ (pc : Int) + o) (hp : ((pc : Int) + o).toNat = pcT) (hp' : pc + 3 = pcF) (kT : x = y → own_W p e below K T (mkF m pcT Ls S)) (kF : ¬ x = y → own_W p e below K T (mkF m pcF Ls S)) : own_W p e below K T (mkF m pc Ls (.int y :: .int x :: S)) := own_icmp X hx pcT pcF (x = y) (fun q => (teq q).1) (fun q => (feq q).1) hd ho hp hp' kT kF
theorem own_if_eq (X : Stand p l e R s m args below meth c T locs cells slots) (hx : p.tables.exec = Jvm.exec) {x : Int32} {o : Int} (pcT pcF : Nat) (hd : decode c.code pc = .ok (.ifCond .eq o, 3)) (ho : 0 ≤ (pc : Int) + o) (hp : ((pc : Int) + o).toNat = pcT) (hp' : pc + 3 = pcF) (kT : x = 0 → own_W p e below K T (mkF m pcT Ls S)) (kF : ¬ x = 0 → own_W p e below K T (mkF m pcF Ls S)) : own_W p e below K T (mkF m pc Ls (.int x :: S)) := own_if X hx pcT pcF (x = 0) (fun q => (teq q).1) (fun q => (feq q).1) hd ho hp hp' kT kF
theorem own_lif_eq (X : Stand p l e R s m args below meth c T locs cells slots) (hx : p.tables.exec = Jvm.exec) {x y : Int64} {o : Int} (pc1 pcT pcF : Nat) (hd1 : decode c.code pc = .ok (.lcmp, 1)) (hp1 : pc + 1 = pc1) (hd : decode c.code pc1 = .ok (.ifCond .eq o, 3)) (ho : 0 ≤ (pc1 : Int) + o) (hp : ((pc1 : Int) + o).toNat = pcT) (hp' : pc1 + 3 = pcF) (kT : x = y → own_W p e below K T (mkF m pcT Ls S)) (kF : ¬ x = y → own_W p e below K T (mkF m pcF Ls S)) : own_W p e below K T (mkF m pc Ls (.long y :: .long x :: S)) := own_lcmp X hx pc1 hd1 hp1 (own_if_eq X hx pcT pcF hd ho hp hp' (fun q => kT ((lw_eq x y).mp q)) (fun q => kF (fun r => q ((lw_eq x y).mpr r))))
theorem own_icmp_ne (X : Stand p l e R s m args below meth c T locs cells slots) (hx : p.tables.exec = Jvm.exec) {x y : Int32} {o : Int} (pcT pcF : Nat) (hd : decode c.code pc = .ok (.if_icmp .ne o, 3)) (ho : 0 ≤ (pc : Int) + o) (hp : ((pc : Int) + o).toNat = pcT) (hp' : pc + 3 = pcF) (kT : ¬ x = y → own_W p e below K T (mkF m pcT Ls S)) (kF : x = y → own_W p e below K T (mkF m pcF Ls S)) : own_W p e below K T (mkF m pc Ls (.int y :: .int x :: S)) := own_icmp X hx pcT pcF (¬ x = y) (fun q => (feq q).2) (fun q => (teq (Decidable.not_not.mp q)).2) hd ho hp hp' kT (fun q => kF (Decidable.not_not.mp q))
theorem own_if_ne (X : Stand p l e R s m args below meth c T locs cells slots) (hx : p.tables.exec = Jvm.exec) {x : Int32} {o : Int} (pcT pcF : Nat) (hd : decode c.code pc = .ok (.ifCond .ne o, 3)) (ho : 0 ≤ (pc : Int) + o) (hp : ((pc : Int) + o).toNat = pcT) (hp' : pc + 3 = pcF) (kT : ¬ x = 0 → own_W p e below K T (mkF m pcT Ls S)) (kF : x = 0 → own_W p e below K T (mkF m pcF Ls S)) : own_W p e below K T (mkF m pc Ls (.int x :: S)) := own_if X hx pcT pcF (¬ x = 0) (fun q => (feq q).2) (fun q => (teq (Decidable.not_not.mp q)).2) hd ho hp hp' kT (fun q => kF (Decidable.not_not.mp q))
theorem own_lif_ne (X : Stand p l e R s m args below meth c T locs cells slots) (hx : p.tables.exec = Jvm.exec) {x y : Int64} {o : Int} (pc1 pcT pcF : Nat) (hd1 : decode c.code pc = .ok (.lcmp, 1)) (hp1 : pc + 1 = pc1) (hd : decode c.code pc1 = .ok (.ifCond .ne o, 3)) (ho : 0 ≤ (pc1 : Int) + o) (hp : ((pc1 : Int) + o).toNat = pcT) (hp' : pc1 + 3 = pcF) (kT : ¬ x = y → own_W p e below K T (mkF m pcT Ls S)) (kF : x = y → own_W p e below K T (mkF m pcF Ls S)) : own_W p e below K T (mkF m pc Ls (.long y :: .long x :: S)) := own_lcmp X hx pc1 hd1 hp1 (own_if_ne X hx pcT pcF hd ho hp hp' (fun q => kT (fun r => q ((lw_eq x y).mpr r))) (fun q => kF ((lw_eq x y).mp q)))
end Plain
section Rets
theorem own_retI (X : Stand p l e R s m args below meth c T locs cells slots) (hx : p.tables.exec = Jvm.exec) {z : Int32} (hret : meth.sig.returnType = some .int) (hlk : meth.locks = false) (hd : decode c.code pc = .ok (.ireturn, 1)) (hc : cells ≤ R.cells) (hl : slots ≤ R.slots) (q : Q (some (.int z)) T.heap locs) : own_W p e below (own_K s R Q) T (mkF m pc Ls (.int z :: S)) := by
  obtain ⟨fs, hr, hrun, hended, hW, hsame⟩ := X.leave (v := some (.int z)) (fun h => by rw [hret] at h; cases h) hlk
  exact ⟨_, _, retI X hx hret hd hr, hrun, hended, _, _, rfl, q, ⟨_, rfl⟩, hW, hsame.mono hc hl⟩
theorem own_retZ (X : Stand p l e R s m args below meth c T locs cells slots) (hx : p.tables.exec = Jvm.exec) {z : Int32} (z' : Int32) (hz : z &&& 1 = z') (hret : meth.sig.returnType = some .boolean) (hlk : meth.locks = false) (hd : decode c.code pc = .ok (.ireturn, 1)) (hc : cells ≤ R.cells) (hl : slots ≤ R.slots) (q : Q (some (.int z')) T.heap locs) : own_W p e below (own_K s R Q) T (mkF m pc Ls (.int z :: S)) := by
  subst hz
  obtain ⟨fs, hr, hrun, hended, hW, hsame⟩ := X.leave (v := some (.int (nar .boolean z))) (fun h => by rw [hret] at h; cases h) hlk
  exact ⟨_, _, retN X hx (t := .boolean) hret (by simp) hd hr, hrun, hended, _, _, rfl, q, ⟨_, rfl⟩, hW, hsame.mono hc hl⟩
theorem own_retJ (X : Stand p l e R s m args below meth c T locs cells slots) (hx : p.tables.exec = Jvm.exec) {z : Int64} (hret : meth.sig.returnType = some .long) (hlk : meth.locks = false) (hd : decode c.code pc = .ok (.lreturn, 1)) (hc : cells ≤ R.cells) (hl : slots ≤ R.slots) (q : Q (some (.long z)) T.heap locs) : own_W p e below (own_K s R Q) T (mkF m pc Ls [.long z]) := by
  obtain ⟨fs, hr, hrun, hended, hW, hsame⟩ := X.leave (v := some (.long z)) (fun h => by rw [hret] at h; cases h) hlk
  exact ⟨_, _, X.lreturnOut hx hret hd hr, hrun, hended, _, _, rfl, q, ⟨_, rfl⟩, hW, hsame.mono hc hl⟩
theorem own_retA (X : Stand p l e R s m args below meth c T locs cells slots) (hx : p.tables.exec = Jvm.exec) {z : Addr} {t : FieldType} (hret : meth.sig.returnType = some t) (ht : t.isReference = true) (hlk : meth.locks = false) (hd : decode c.code pc = .ok (.areturn, 1)) (hc : cells ≤ R.cells) (hl : slots ≤ R.slots) (q : Q (some (.ref z)) T.heap locs) : own_W p e below (own_K s R Q) T (mkF m pc Ls [.ref z]) := by
  obtain ⟨fs, hr, hrun, hended, hW, hsame⟩ := X.leave (v := some (.ref z)) (fun h => by rw [hret] at h; cases h) hlk
  exact ⟨_, _, X.areturnOut hx rfl hret ht hd hr, hrun, hended, _, _, rfl, q, ⟨_, rfl⟩, hW, hsame.mono hc hl⟩
theorem own_retV (X : Stand p l e R s m args below meth c T locs cells slots) (hx : p.tables.exec = Jvm.exec) (hret : meth.sig.returnType = none) (hlk : meth.locks = false) (hd : decode c.code pc = .ok (.return_, 1)) (hc : cells ≤ R.cells) (hl : slots ≤ R.slots) (q : Q none T.heap locs) : own_W p e below (own_K s R Q) T (mkF m pc Ls []) := by
  obtain ⟨fs, hr, hrun, hended, hW, hsame⟩ := X.leave (v := none) (fun _ => rfl) hlk
  exact ⟨_, _, X.returnOut hx hret hd hr, hrun, hended, _, _, rfl, q, ⟨_, rfl⟩, hW, hsame.mono hc hl⟩
end Rets
section Heaps
theorem own_getF (X : Stand p l e R s m args below meth c T locs cells slots) (hx : p.tables.exec = Jvm.exec) (hZ : Z.Warmed39 s.vm) (hown : s.vm.findClass own = some m.cls) (eT : T.heap = h) {O n d : String} {a : Addr} {v : Value} (pc' : Nat) (w : (Jvm.Cond.fieldLink own index O n d).before a0 Z = true) (F : Fld Z h a O n d v) (hd : decode c.code pc = .ok (.getfield index, 3)) (hp : pc + 3 = pc')
    (k : ∀ T', Stand p l e R s m args below meth c T' locs cells slots → T'.heap = h → own_W p e below K T' (mkF m pc' Ls (v :: S))) : own_W p e below K T (mkF m pc Ls (.ref a :: S)) := by
  subst hp
  obtain ⟨T', X', e', st⟩ := getF X hx hZ hown (host := "") (Or.inl w) Via.refl eT F (g := mkF m pc Ls (.ref a :: S)) rfl rfl hd
  exact own_s st (k T' X' e')
theorem own_putF (X : Stand p l e R s m args below meth c T locs cells slots) (hx : p.tables.exec = Jvm.exec) (hZ : Z.Warmed39 s.vm) (hown : s.vm.findClass own = some m.cls) (eT : T.heap = h) {O n d C : String} {a : Addr} {v old : Value} {kk : Nat} {ty : FieldType} (pc' : Nat) (w : (Jvm.Cond.fieldLink own index O n d).before a0 Z = true) (F : Fld Z h a O n d old) (E : Exa Z h a C) (L : (Jvm.Cond.lays C O n d).before a0 Z = true ∨ ((Jvm.Cond.laysFinal C O n d).before a0 Z = true ∧ own = O ∧ meth.name = "<init>")) (wi : (Jvm.Cond.instantiable C kk).before a0 Z = true)
    (hty : parseFieldDescriptor d = some ty) (hn : narrow ty v = v) (hf : fits ty v = true) (hd : decode c.code pc = .ok (.putfield index, 3)) (hp : pc + 3 = pc')
    (k : ∀ T' h', Stand p l e R s m args below meth c T' (locs ++ [⟨a, Jvm.RoadKit.slotOf Z O n d⟩]) cells slots → T'.heap = h' → Wr h h' a (Jvm.RoadKit.slotOf Z O n d) v → own_W p e below K T' (mkF m pc' Ls S)) : own_W p e below K T (mkF m pc Ls (v :: .ref a :: S)) := by
  subst hp
  obtain ⟨T', h', X', e', W, st⟩ := putF X hx hZ hown (host := "") (Or.inl w) Via.refl eT F E L wi hty hn hf (g := mkF m pc Ls (v :: .ref a :: S)) rfl rfl hd
  exact own_s st (k T' h' X' e' W)
theorem own_putZ (X : Stand p l e R s m args below meth c T locs cells slots) (hx : p.tables.exec = Jvm.exec) (hZ : Z.Warmed39 s.vm) (hown : s.vm.findClass own = some m.cls) (eT : T.heap = h) {O n d C : String} {a : Addr} {v : Int32} {old : Value} {kk : Nat} (pc' : Nat) (w : (Jvm.Cond.fieldLink own index O n d).before a0 Z = true) (F : Fld Z h a O n d old) (E : Exa Z h a C) (L : (Jvm.Cond.lays C O n d).before a0 Z = true ∨ ((Jvm.Cond.laysFinal C O n d).before a0 Z = true ∧ own = O ∧ meth.name = "<init>")) (wi : (Jvm.Cond.instantiable C kk).before a0 Z = true)
    (hty : parseFieldDescriptor d = some .boolean) (hd : decode c.code pc = .ok (.putfield index, 3)) (hp : pc + 3 = pc')
    (k : ∀ T' h', Stand p l e R s m args below meth c T' (locs ++ [⟨a, Jvm.RoadKit.slotOf Z O n d⟩]) cells slots → T'.heap = h' → Wr h h' a (Jvm.RoadKit.slotOf Z O n d) (.int (v &&& 1)) → own_W p e below K T' (mkF m pc' Ls S)) : own_W p e below K T (mkF m pc Ls (.int v :: .ref a :: S)) := by
  subst hp
  obtain ⟨T', h', X', e', W, st⟩ := putFN X hx hZ hown w Via.refl eT F E L wi (ty := .boolean) (v' := .int (nar .boolean v)) hty rfl (fits_nar_bool _) (g := mkF m pc Ls (.int v :: .ref a :: S)) rfl rfl hd
  exact own_s st (k T' h' X' e' W)
theorem own_new (X : Stand p l e R s m args below meth c T locs cells slots) (hx : p.tables.exec = Jvm.exec) (hZ : Z.Warmed39 s.vm) (hown : s.vm.findClass own = some m.cls) (eT : T.heap = h) {C : String} {n : Nat} (pc' : Nat) (w : (Jvm.Cond.classLink own index C).before a0 Z = true) (wi : (Jvm.Cond.instantiable C n).before a0 Z = true) (wz : (Jvm.Cond.initialized C).before a0 Z = true) (hd : decode c.code pc = .ok (.new index, 3)) (hp : pc + 3 = pc') (hc : cells + 1 ≤ R.cells) (hl : slots + n ≤ R.slots)
    (k : ∀ T' h' a, Stand p l e R s m args below meth c T' locs (cells + 1) (slots + n) → T'.heap = h' → a = h.size → Ext h h' → Exa Z h' a C → (∀ {O nm d : String} {ty : FieldType}, Laid Z a0 C O nm d → parseFieldDescriptor d = some ty → Fld Z h' a O nm d (defaultValue ty)) → own_W p e below K T' (mkF m pc' Ls (.ref a :: S))) : own_W p e below K T (mkF m pc Ls S) := by
  subst hp
  obtain ⟨T', h', X', e', E, A, D, -, st⟩ := newO X hx hZ hown w wi wz eT (g := mkF m pc Ls S) rfl hd hc hl
  exact own_s st (k T' h' _ X' e' rfl E A D)
theorem own_initO (X : Stand p l e R s m args below meth c T locs cells slots) (hx : p.tables.exec = Jvm.exec) (hZ : Z.Warmed39 s.vm) (hown : s.vm.findClass own = some m.cls) (eT : T.heap = h) {a : Addr} {W : Nat} (pc' : Nat) (w1 : (Jvm.Cond.methodLink own index Lib.objectInit).before a0 Z = true) (w2 : (Jvm.Cond.instanceMethod Lib.objectInit).before a0 Z = true) (w3 : (Jvm.Cond.code Lib.objectInit ⟨#[0xb1]⟩ 1 none).before a0 Z = true) (hsize : Ls.size = c.maxLocals) (hd : decode c.code pc = .ok (.invokespecial index, 3)) (hp : pc + 3 = pc')
    (hf : 1 ≤ R.frames) (hW : (S.map fun v => v.category).sum = W) (hl : W + 12 ≤ R.locals)
    (k : ∀ T', Stand p l e R s m args below meth c T' locs cells slots → T'.heap = h → own_W p e below K T' (mkF m pc' Ls S)) : own_W p e below K T (mkF m pc Ls (.ref a :: S)) := by
  subst hp
  obtain ⟨T', X', e', st⟩ := initO X hx hZ hown w1 w2 w3 eT (g := mkF m pc Ls (.ref a :: S)) rfl hsize rfl hd hf (W := W) (by show 2 * 0 + _ ≤ _; rw [hW]; omega) hl
  exact own_s st (k T' X' e')
theorem own_callS (X : Stand p l e R s m args below meth c T locs cells slots) (hx : p.tables.exec = Jvm.exec) (hZ : Z.Warmed39 s.vm) (hown : s.vm.findClass own = some m.cls) (eT : T.heap = h) {argsL rest : List Value} {W : Nat} (pc' : Nat) (hM : own_C l Z y bytes maxL ret [] rm argsL.toArray h Q) (w1 : (Jvm.Cond.methodLink own index y).before a0 Z = true) (w2 : (Jvm.Cond.static y).before a0 Z = true) (w3 : (Jvm.Cond.initialized y.cls).before a0 Z = true) (w4 : (Jvm.Cond.code y bytes maxL ret).before a0 Z = true)
    (hy : y.cls ≠ "java/lang/invoke/MethodHandle" ∧ y.cls ≠ "java/lang/invoke/VarHandle") (hsize : Ls.size = c.maxLocals) (hlen : ∀ sig, parseMethodDescriptor y.desc = some sig → argsL.length = sig.parameters.length) (hst : S = argsL.reverse ++ rest) (hd : decode c.code pc = .ok (.invokestatic index, 3)) (hp : pc + 3 = pc')
    (hW : (rest.map fun v => v.category).sum = W) (hf : rm.frames + 1 ≤ R.frames) (hl : W + (maxL + 11) + rm.locals ≤ R.locals) (hc : cells + rm.cells ≤ R.cells) (hs : slots + rm.slots ≤ R.slots)
    (k : ∀ v T' L, Stand p l e R s m args below meth c T' (locs ++ L) (cells + rm.cells) (slots + rm.slots) → Q v T'.heap L → own_W p e below K T' (mkF m pc' Ls (v.toList ++ rest))) : own_W p e below K T (mkF m pc Ls S) := by
  subst hp hst
  obtain ⟨v, vm₁, ⟨T', L', k', n'⟩, -, X', ⟨L, hQ, l1, y1, z1⟩, st⟩ := Jvm.LawKit.callS X hx (y := y) hown (mvT hZ w1) (mvT hZ w2) (mvT hZ w3) (mvT hZ w4) hy (backOf (W := W) hM hZ w4 w3 hf hl) (g := mkF m pc Ls (argsL.reverse ++ rest)) rfl hsize (argsL := argsL) (rest := rest) hlen rfl (by show 2 * 0 + _ ≤ _; rw [hW]; omega) hd (fun _ _ => ⟨rfl, eT, hc, hs⟩)
  dsimp only [Pt.U, Pt.locs, Pt.cells, Pt.slots] at X' l1 y1 z1 st hQ
  subst l1 y1 z1
  exact own_s st (k v T' L X' hQ)
theorem own_callI (X : Stand p l e R s m args below meth c T locs cells slots) (hx : p.tables.exec = Jvm.exec) (hZ : Z.Warmed39 s.vm) (hown : s.vm.findClass own = some m.cls) (eT : T.heap = h) {a : Addr} {argsL rest : List Value} {W : Nat} (pc' : Nat) (hM : own_C l Z y bytes maxL none [] rm (.ref a :: argsL).toArray h Q) (hn : y.name = "<init>") (w1 : (Jvm.Cond.methodLink own index y).before a0 Z = true) (w2 : (Jvm.Cond.instanceMethod y).before a0 Z = true) (w3 : (Jvm.Cond.initialized y.cls).before a0 Z = true) (w4 : (Jvm.Cond.code y bytes maxL none).before a0 Z = true)
    (hy : y.cls ≠ "java/lang/invoke/MethodHandle" ∧ y.cls ≠ "java/lang/invoke/VarHandle") (hsize : Ls.size = c.maxLocals) (hlen : ∀ sig, parseMethodDescriptor y.desc = some sig → argsL.length = sig.parameters.length) (hst : S = argsL.reverse ++ .ref a :: rest) (hd : decode c.code pc = .ok (.invokespecial index, 3)) (hp : pc + 3 = pc')
    (hW : (rest.map fun v => v.category).sum = W) (hf : rm.frames + 1 ≤ R.frames) (hl : W + (maxL + 11) + rm.locals ≤ R.locals) (hc : cells + rm.cells ≤ R.cells) (hs : slots + rm.slots ≤ R.slots)
    (k : ∀ v T' L, Stand p l e R s m args below meth c T' (locs ++ L) (cells + rm.cells) (slots + rm.slots) → Q v T'.heap L → own_W p e below K T' (mkF m pc' Ls (v.toList ++ rest))) : own_W p e below K T (mkF m pc Ls S) := by
  subst hp hst
  obtain ⟨v, vm₁, ⟨T', L', k', n'⟩, -, X', ⟨L, hQ, l1, y1, z1⟩, st⟩ := X.specialBack hx (y := y) hn hown (mvT hZ w1) (mvT hZ w2) (mvT hZ w4) hy (backOf (W := W) hM hZ w4 w3 hf hl) (g := mkF m pc Ls (argsL.reverse ++ .ref a :: rest)) rfl hsize (Steps.refl _) (a := a) (argsL := argsL) (rest := rest) hlen rfl (by show 2 * 0 + _ ≤ _; rw [hW]; omega) hd (fun _ _ => ⟨rfl, eT, hc, hs⟩)
  dsimp only [Pt.U, Pt.locs, Pt.cells, Pt.slots] at X' l1 y1 z1 st hQ
  subst l1 y1 z1
  exact own_s' st (k v T' L X' hQ)
theorem own_callV (X : Stand p l e R s m args below meth c T locs cells slots) (hx : p.tables.exec = Jvm.exec) (hZ : Z.Warmed39 s.vm) (hown : s.vm.findClass own = some m.cls) (eT : T.heap = h) {a : Addr} {argsL rest : List Value} {W : Nat} (pc' : Nat) (hM : own_C l Z y bytes maxL ret [] rm (.ref a :: argsL).toArray h Q) (E : Exa Z h a y.cls) (w1 : (Jvm.Cond.methodLink own index y).before a0 Z = true) (w2 : (Jvm.Cond.declares y).before a0 Z = true) (w5 : (Jvm.Cond.selects y.cls y y).before a0 Z = true) (w6 : (Jvm.Cond.instanceMethod y).before a0 Z = true) (w3 : (Jvm.Cond.initialized y.cls).before a0 Z = true) (w4 : (Jvm.Cond.code y bytes maxL ret).before a0 Z = true)
    (hy : y.cls ≠ "java/lang/invoke/MethodHandle" ∧ y.cls ≠ "java/lang/invoke/VarHandle") (hsize : Ls.size = c.maxLocals) (hlen : ∀ sig, parseMethodDescriptor y.desc = some sig → argsL.length = sig.parameters.length) (hst : S = argsL.reverse ++ .ref a :: rest) (hd : decode c.code pc = .ok (.invokevirtual index, 3)) (hp : pc + 3 = pc')
    (hW : (rest.map fun v => v.category).sum = W) (hf : rm.frames + 1 ≤ R.frames) (hl : W + (maxL + 11) + rm.locals ≤ R.locals) (hc : cells + rm.cells ≤ R.cells) (hs : slots + rm.slots ≤ R.slots)
    (k : ∀ v T' L, Stand p l e R s m args below meth c T' (locs ++ L) (cells + rm.cells) (slots + rm.slots) → Q v T'.heap L → own_W p e below K T' (mkF m pc' Ls (v.toList ++ rest))) : own_W p e below K T (mkF m pc Ls S) := by
  subst hp hst
  obtain ⟨cq, kq, qa, qb, qc⟩ := isOf hZ eT E
  obtain ⟨v, vm₁, ⟨T', L', k', n'⟩, -, X', ⟨L, hQ, l1, y1, z1⟩, st⟩ := X.virtualBack hx (y := y) (z := y) hown (mvT hZ w1) (mvT hZ w2) (notFace_of_selects (args := #[]) (mvT hZ w5)) (mvT hZ w5) (mvT hZ w6) hy (backOf (W := W) hM hZ w4 w3 hf hl) qa qc (g := mkF m pc Ls (argsL.reverse ++ .ref a :: rest)) rfl hsize (Steps.refl _) (argsL := argsL) (rest := rest) hlen rfl (by show 2 * 0 + _ ≤ _; rw [hW]; omega) hd (fun _ _ => ⟨rfl, eT, hc, hs⟩)
  dsimp only [Pt.U, Pt.locs, Pt.cells, Pt.slots] at X' l1 y1 z1 st hQ
  subst l1 y1 z1
  exact own_s' st (k v T' L X' hQ)
/-- an array of ints (bytes, booleans): n places, place j holds f j -/
def own_AI (Z : State) (h : Heap) (a : Addr) (ty : FieldType) (n : Nat) (f : Nat → Int32) : Prop := ∃ c : Cell, Arr Z h a c ty ∧ c.slots.size = n ∧ ∀ j, j < n → c.slots[j]? = some (.int (f j))
def own_AJ (Z : State) (h : Heap) (a : Addr) (n : Nat) (f : Nat → Int64) : Prop := ∃ c : Cell, Arr Z h a c .long ∧ c.slots.size = n ∧ ∀ j, j < n → c.slots[j]? = some (.long (f j))
section Arrs
variable {a b : Addr} {n i : Nat} {ty : FieldType} {f : Nat → Int32} {fj : Nat → Int64} {j : Int32} {ws : List Addr} {v : Value} {sl : Nat}
theorem own_AI.lt (A : own_AI Z h a ty n f) : a < h.size := by obtain ⟨c, A, -⟩ := A; exact A.lt
theorem own_AJ.lt (A : own_AJ Z h a n fj) : a < h.size := by obtain ⟨c, A, -⟩ := A; exact A.lt
theorem own_AI.ext (A : own_AI Z h a ty n f) (E : Ext h h') : own_AI Z h' a ty n f := by obtain ⟨c, A, r⟩ := A; exact ⟨c, A.ext E, r⟩
theorem own_AJ.ext (A : own_AJ Z h a n fj) (E : Ext h h') : own_AJ Z h' a n fj := by obtain ⟨c, A, r⟩ := A; exact ⟨c, A.ext E, r⟩
theorem own_AI.other (A : own_AI Z h a ty n f) (W : Wr h h' b sl v) (q : a ≠ b) : own_AI Z h' a ty n f := by obtain ⟨c, A, r⟩ := A; exact ⟨c, A.other W q, r⟩
theorem own_AJ.other (A : own_AJ Z h a n fj) (W : Wr h h' b sl v) (q : a ≠ b) : own_AJ Z h' a n fj := by obtain ⟨c, A, r⟩ := A; exact ⟨c, A.other W q, r⟩
theorem own_AI.keep (A : own_AI Z h a ty n f) (K : Keep h h' ws) (q : a ∉ ws) : own_AI Z h' a ty n f := by obtain ⟨c, A, r⟩ := A; exact ⟨c, ⟨K.2.1 a c A.1 q, A.2⟩, r⟩
theorem own_AJ.keep (A : own_AJ Z h a n fj) (K : Keep h h' ws) (q : a ∉ ws) : own_AJ Z h' a n fj := by obtain ⟨c, A, r⟩ := A; exact ⟨c, ⟨K.2.1 a c A.1 q, A.2⟩, r⟩
theorem own_AI.set {x : Int32} (A : own_AI Z h a ty n f) (W : Wr h h' a i (.int x)) : own_AI Z h' a ty n (fun q => if q = i then x else f q) := by
  obtain ⟨c, A, S, H⟩ := A
  refine ⟨_, A.same W, by rw [sz_set]; exact S, fun q hq => ?_⟩
  by_cases e : q = i
  · subst e; simp [Cell.setSlot, S, hq]
  · simp only [Cell.setSlot, if_neg e]; rw [Array.getElem?_setIfInBounds_ne (Ne.symm e)]; exact H q hq
theorem own_AJ.set {x : Int64} (A : own_AJ Z h a n fj) (W : Wr h h' a i (.long x)) : own_AJ Z h' a n (fun q => if q = i then x else fj q) := by
  obtain ⟨c, A, S, H⟩ := A
  refine ⟨_, A.same W, by rw [sz_set]; exact S, fun q hq => ?_⟩
  by_cases e : q = i
  · subst e; simp [Cell.setSlot, S, hq]
  · simp only [Cell.setSlot, if_neg e]; rw [Array.getElem?_setIfInBounds_ne (Ne.symm e)]; exact H q hq
theorem own_AI.congr {g : Nat → Int32} (A : own_AI Z h a ty n f) (q : ∀ j, j < n → f j = g j) : own_AI Z h a ty n g := by obtain ⟨c, A, S, H⟩ := A; exact ⟨c, A, S, fun j hj => by rw [← q j hj]; exact H j hj⟩
theorem own_AJ.congr {g : Nat → Int64} (A : own_AJ Z h a n fj) (q : ∀ j, j < n → fj j = g j) : own_AJ Z h a n g := by obtain ⟨c, A, S, H⟩ := A; exact ⟨c, A, S, fun j hj => by rw [← q j hj]; exact H j hj⟩
theorem own_nat {j : Int32} {i : Nat} (q : j.toInt = i) : j.toNatClampNeg = i := by show j.toInt.toNat = i; rw [q]; exact Int.toNat_natCast i
theorem own_inb {j : Int32} {i n : Nat} (q : j.toInt = i) (r : i < n) {k : Nat} (e : k = n) : ¬ (j < 0 ∨ k ≤ j.toNatClampNeg) := by
  rw [own_nat q]; rintro (u | u)
  · rw [Int32.lt_iff_toInt_lt] at u; rw [q] at u; have : (0 : Int32).toInt = 0 := rfl; omega
  · omega
theorem own_iaload (X : Stand p l e R s m args below meth c T locs cells slots) (hx : p.tables.exec = Jvm.exec) (hZ : Z.Warmed39 s.vm) (eT : T.heap = h) (pc' : Nat) (i : Nat) (A : own_AI Z h a .int n f) (hj : j.toInt = i) (hi : i < n) (hd : decode c.code pc = .ok (.iaload, 1)) (hp : pc + 1 = pc') (k : own_W p e below K T (mkF m pc' Ls (.int (f i) :: S))) : own_W p e below K T (mkF m pc Ls (.int j :: .ref a :: S)) := by
  subst hp
  obtain ⟨cl, A, Sz, H⟩ := A
  exact own_s (fun t => X.iaload hx (j := j) (by rw [eT]; exact A.1) (State.isArrayOf_alike hZ.alike A.2.1) A.2.2 (own_inb hj hi Sz) (by rw [own_nat hj]; exact H i hi) (g := mkF m pc Ls (.int j :: .ref a :: S)) rfl rfl hd t) k
theorem own_baload (X : Stand p l e R s m args below meth c T locs cells slots) (hx : p.tables.exec = Jvm.exec) (hZ : Z.Warmed39 s.vm) (eT : T.heap = h) (pc' : Nat) (i : Nat) (A : own_AI Z h a .byte n f) (hj : j.toInt = i) (hi : i < n) (hd : decode c.code pc = .ok (.baload, 1)) (hp : pc + 1 = pc') (k : own_W p e below K T (mkF m pc' Ls (.int (f i) :: S))) : own_W p e below K T (mkF m pc Ls (.int j :: .ref a :: S)) := by
  subst hp
  obtain ⟨cl, A, Sz, H⟩ := A
  exact own_s (fun t => X.baloadBytes hx (j := j) (by rw [eT]; exact A.1) (State.isArrayOf_alike hZ.alike A.2.1) A.2.2 (own_inb hj hi Sz) (by rw [own_nat hj]; exact H i hi) (g := mkF m pc Ls (.int j :: .ref a :: S)) rfl rfl hd t) k
theorem own_laload (X : Stand p l e R s m args below meth c T locs cells slots) (hx : p.tables.exec = Jvm.exec) (hZ : Z.Warmed39 s.vm) (eT : T.heap = h) (pc' : Nat) (i : Nat) (A : own_AJ Z h a n fj) (hj : j.toInt = i) (hi : i < n) (hd : decode c.code pc = .ok (.laload, 1)) (hp : pc + 1 = pc') (k : own_W p e below K T (mkF m pc' Ls (.long (fj i) :: S))) : own_W p e below K T (mkF m pc Ls (.int j :: .ref a :: S)) := by
  subst hp
  obtain ⟨cl, A, Sz, H⟩ := A
  exact own_s (fun t => X.laload hx (j := j) (by rw [eT]; exact A.1) (State.isArrayOf_alike hZ.alike A.2.1) A.2.2 (own_inb hj hi Sz) (by rw [own_nat hj]; exact H i hi) (g := mkF m pc Ls (.int j :: .ref a :: S)) rfl rfl hd t) k
theorem own_iastore (X : Stand p l e R s m args below meth c T locs cells slots) (hx : p.tables.exec = Jvm.exec) (hZ : Z.Warmed39 s.vm) (eT : T.heap = h) {x : Int32} (pc' : Nat) (i : Nat) (A : own_AI Z h a .int n f) (hj : j.toInt = i) (hi : i < n) (hd : decode c.code pc = .ok (.iastore, 1)) (hp : pc + 1 = pc')
    (k : ∀ T' h', Stand p l e R s m args below meth c T' (locs ++ [⟨a, i⟩]) cells slots → T'.heap = h' → Wr h h' a i (.int x) → own_W p e below K T' (mkF m pc' Ls S)) : own_W p e below K T (mkF m pc Ls (.int x :: .int j :: .ref a :: S)) := by
  subst hp
  obtain ⟨cl, A, Sz, H⟩ := A
  obtain ⟨T', h', X', e', W, st⟩ := stI X hx hZ eT A (j := j) (own_inb hj hi Sz) (g := mkF m pc Ls (.int x :: .int j :: .ref a :: S)) rfl rfl hd
  rw [own_nat hj] at X' W
  exact own_s st (k T' h' X' e' W)
theorem own_bastore (X : Stand p l e R s m args below meth c T locs cells slots) (hx : p.tables.exec = Jvm.exec) (hZ : Z.Warmed39 s.vm) (eT : T.heap = h) {x : Int32} (pc' : Nat) (i : Nat) (A : own_AI Z h a .byte n f) (hj : j.toInt = i) (hi : i < n) (hd : decode c.code pc = .ok (.bastore, 1)) (hp : pc + 1 = pc')
    (k : ∀ T' h', Stand p l e R s m args below meth c T' (locs ++ [⟨a, i⟩]) cells slots → T'.heap = h' → Wr h h' a i (.int x.toInt8.toInt32) → own_W p e below K T' (mkF m pc' Ls S)) : own_W p e below K T (mkF m pc Ls (.int x :: .int j :: .ref a :: S)) := by
  subst hp
  obtain ⟨cl, A, Sz, H⟩ := A
  obtain ⟨T', h', X', e', W, st⟩ := stB X hx hZ eT A (j := j) (own_inb hj hi Sz) (g := mkF m pc Ls (.int x :: .int j :: .ref a :: S)) rfl rfl hd
  rw [own_nat hj] at X' W
  exact own_s st (k T' h' X' e' W)
theorem own_lastore (X : Stand p l e R s m args below meth c T locs cells slots) (hx : p.tables.exec = Jvm.exec) (hZ : Z.Warmed39 s.vm) (eT : T.heap = h) {x : Int64} (pc' : Nat) (i : Nat) (A : own_AJ Z h a n fj) (hj : j.toInt = i) (hi : i < n) (hd : decode c.code pc = .ok (.lastore, 1)) (hp : pc + 1 = pc')
    (k : ∀ T' h', Stand p l e R s m args below meth c T' (locs ++ [⟨a, i⟩]) cells slots → T'.heap = h' → Wr h h' a i (.long x) → own_W p e below K T' (mkF m pc' Ls S)) : own_W p e below K T (mkF m pc Ls (.long x :: .int j :: .ref a :: S)) := by
  subst hp
  obtain ⟨cl, A, Sz, H⟩ := A
  obtain ⟨T', h', X', e', W, st⟩ := stJ X hx hZ eT A (j := j) (own_inb hj hi Sz) (g := mkF m pc Ls (.long x :: .int j :: .ref a :: S)) rfl rfl hd
  rw [own_nat hj] at X' W
  exact own_s st (k T' h' X' e' W)
theorem own_arraylength (X : Stand p l e R s m args below meth c T locs cells slots) (hx : p.tables.exec = Jvm.exec) (hZ : Z.Warmed39 s.vm) (eT : T.heap = h) (pc' : Nat) {z : Int32} (A : own_AI Z h a ty n f) (hz : z.toInt = n) (hd : decode c.code pc = .ok (.arraylength, 1)) (hp : pc + 1 = pc') (k : own_W p e below K T (mkF m pc' Ls (.int z :: S))) : own_W p e below K T (mkF m pc Ls (.ref a :: S)) := by
  subst hp
  obtain ⟨cl, A, Sz, H⟩ := A
  have q : cl.slots.size.toInt32 = z := len_of (by rw [Sz, own_nat hz]) (fun u => by rw [Int32.lt_iff_toInt_lt, hz] at u; have : (0 : Int32).toInt = 0 := rfl; omega)
  rw [← q] at k
  exact own_s (fun t => X.arraylength hx (by rw [eT]; exact A.1) (State.isArrayOf_alike hZ.alike A.2.1) (g := mkF m pc Ls (.ref a :: S)) rfl rfl hd t) k
theorem own_arraylengthJ (X : Stand p l e R s m args below meth c T locs cells slots) (hx : p.tables.exec = Jvm.exec) (hZ : Z.Warmed39 s.vm) (eT : T.heap = h) (pc' : Nat) {z : Int32} (A : own_AJ Z h a n fj) (hz : z.toInt = n) (hd : decode c.code pc = .ok (.arraylength, 1)) (hp : pc + 1 = pc') (k : own_W p e below K T (mkF m pc' Ls (.int z :: S))) : own_W p e below K T (mkF m pc Ls (.ref a :: S)) := by
  subst hp
  obtain ⟨cl, A, Sz, H⟩ := A
  have q : cl.slots.size.toInt32 = z := len_of (by rw [Sz, own_nat hz]) (fun u => by rw [Int32.lt_iff_toInt_lt, hz] at u; have : (0 : Int32).toInt = 0 := rfl; omega)
  rw [← q] at k
  exact own_s (fun t => X.arraylength hx (by rw [eT]; exact A.1) (State.isArrayOf_alike hZ.alike A.2.1) (g := mkF m pc Ls (.ref a :: S)) rfl rfl hd t) k
theorem own_newI (X : Stand p l e R s m args below meth c T locs cells slots) (hx : p.tables.exec = Jvm.exec) (hZ : Z.Warmed39 s.vm) (eT : T.heap = h) {aty : ArrayType} {z : Int32} {n cap : Nat} (pc' : Nat) (ty : FieldType) (hty : newarray.typeOf aty = ty) (hdef : defaultValue ty = .int 0) (w : (Jvm.Cond.arrayClass ty).before a0 Z = true) (hz : z.toInt = n) (hcap : n ≤ cap) (hb : cap * 8 ≤ 536870912) (hd : decode c.code pc = .ok (.newarray aty, 2)) (hp : pc + 2 = pc') (hc : cells + 1 ≤ R.cells) (hl : slots + cap ≤ R.slots)
    (k : ∀ T' h' a, Stand p l e R s m args below meth c T' locs (cells + 1) (slots + cap) → T'.heap = h' → a = h.size → Ext h h' → own_AI Z h' a ty n (fun _ => 0) → own_W p e below K T' (mkF m pc' Ls (.ref a :: S))) : own_W p e below K T (mkF m pc Ls (.int z :: S)) := by
  subst hp hty
  obtain ⟨T', h', cA, X', e', E, A, st⟩ := newP X hx hZ w eT (g := mkF m pc Ls (.int z :: S)) rfl hd rfl (fun u => by rw [Int32.lt_iff_toInt_lt, hz] at u; have : (0 : Int32).toInt = 0 := rfl; omega) (cap := cap) (by rw [own_nat hz]; exact hcap) hb hc hl
  refine own_s st (k T' h' _ X' e' rfl E ⟨_, A, by rw [sz_new, own_nat hz], fun j hj => ?_⟩)
  simp [newA, own_nat hz, hj, hdef]
theorem own_newJ (X : Stand p l e R s m args below meth c T locs cells slots) (hx : p.tables.exec = Jvm.exec) (hZ : Z.Warmed39 s.vm) (eT : T.heap = h) {z : Int32} {n cap : Nat} (pc' : Nat) (w : (Jvm.Cond.arrayClass .long).before a0 Z = true) (hz : z.toInt = n) (hcap : n ≤ cap) (hb : cap * 8 ≤ 536870912) (hd : decode c.code pc = .ok (.newarray .long, 2)) (hp : pc + 2 = pc') (hc : cells + 1 ≤ R.cells) (hl : slots + cap ≤ R.slots)
    (k : ∀ T' h' a, Stand p l e R s m args below meth c T' locs (cells + 1) (slots + cap) → T'.heap = h' → a = h.size → Ext h h' → own_AJ Z h' a n (fun _ => 0) → own_W p e below K T' (mkF m pc' Ls (.ref a :: S))) : own_W p e below K T (mkF m pc Ls (.int z :: S)) := by
  subst hp
  obtain ⟨T', h', cA, X', e', E, A, st⟩ := newP X hx hZ (aty := .long) w eT (g := mkF m pc Ls (.int z :: S)) rfl hd rfl (fun u => by rw [Int32.lt_iff_toInt_lt, hz] at u; have : (0 : Int32).toInt = 0 := rfl; omega) (cap := cap) (by rw [own_nat hz]; exact hcap) hb hc hl
  refine own_s st (k T' h' _ X' e' rfl E ⟨_, A, by rw [sz_new, own_nat hz], fun j hj => ?_⟩)
  simp [newA, own_nat hz, hj, newarray.typeOf, defaultValue]
end Arrs
end Heaps
end OwnLayer
def own_ok (par made : Nat → Int32) : Prop := ∀ i : Nat, i < 4 → -1 ≤ (par i).toInt ∧ (par i).toInt < i ∧ ((par i).toInt = -1 → (made i).toInt = 0) ∧ (0 ≤ (par i).toInt → (made (par i).toInt.toNat).toInt < (made i).toInt)
theorem own_up1 {par made : Nat → Int32} (ok : own_ok par made) {x r : Int32} (hx : 0 ≤ x.toInt ∧ x.toInt < 4) (hr : ¬ r < 0) (h : r < made x.toInt.toNat) : 0 ≤ (par x.toInt.toNat).toInt ∧ (par x.toInt.toNat).toInt < x.toInt ∧ (par x.toInt.toNat).toInt < 4 := by
  have o := ok x.toInt.toNat (by omega)
  rw [Int32.lt_iff_toInt_lt] at h hr
  have k : (0 : Int32).toInt = 0 := by decide
  omega
theorem own_nn {x : Int32} (h : 0 ≤ x.toInt) : x.toInt = (x.toInt.toNat : Int) := by omega
theorem own_lt4 {x : Int32} (h : x.toInt < 4) : x.toInt.toNat < 4 := by omega
theorem own_ge0 {x : Int32} (h : ¬ x < 0) : 0 ≤ x.toInt := by
  rw [Int32.lt_iff_toInt_lt] at h
  have k : (0 : Int32).toInt = 0 := by decide
  omega
def own_after (par made : Nat → Int32) (p1 p2 : Int32) : Int32 := (if p2 < (made p1.toInt.toNat) then (if p2 < (made (par p1.toInt.toNat).toInt.toNat) then (if p2 < (made (par (par p1.toInt.toNat).toInt.toNat).toInt.toNat) then (par (par (par p1.toInt.toNat).toInt.toNat).toInt.toNat) else (par (par p1.toInt.toNat).toInt.toNat)) else (par p1.toInt.toNat)) else p1)
def own_pick (made : Nat → Int32) (p0 p1 p3 : Int32) : Int32 := (if p1 < (0 : Int32) then p0 else (if p3 < (made p1.toInt.toNat) then p0 else (if p0 < (0 : Int32) then p1 else (if (made p0.toInt.toNat) < (made p1.toInt.toNat) then p1 else p0))))
theorem own_pick_lt (made : Nat → Int32) (p0 p1 p3 : Int32) (h0 : p0.toInt < 4) (h1 : p1.toInt < 4) : (own_pick made p0 p1 p3).toInt < 4 := by
  unfold own_pick; repeat' split
  all_goals assumption
def own_next (par : Nat → Int32) (c : Int32) : Int32 := if c < 0 then -1 else par c.toInt.toNat
theorem own_next_lt {par made : Nat → Int32} (ok : own_ok par made) (c : Int32) (h : c.toInt < 4) : (own_next par c).toInt < 4 := by
  unfold own_next
  split
  · decide
  · rename_i q
    have q := own_ge0 q
    have := ok c.toInt.toNat (by omega)
    omega
theorem own_skip (made : Nat → Int32) (b c r : Int32) (h : c < 0 ∨ r < made c.toInt.toNat) : own_pick made b c r = b := by
  unfold own_pick
  by_cases q : c < 0
  · rw [if_pos q]
  · rw [if_neg q, if_pos (h.resolve_left q)]
theorem own_take (made : Nat → Int32) (c r : Int32) (h : ¬ c < 0) (h2 : ¬ r < made c.toInt.toNat) : own_pick made (-1) c r = c := by
  unfold own_pick
  rw [if_neg h, if_neg h2, if_pos (by decide)]
theorem own_keep (made : Nat → Int32) (b c r : Int32) (hb : ¬ b < 0) (h : c < 0 ∨ (0 ≤ c.toInt ∧ c.toInt < 4 ∧ ¬ made b.toInt.toNat < made c.toInt.toNat)) : own_pick made b c r = b := by
  unfold own_pick
  by_cases q : c < 0
  · rw [if_pos q]
  · rw [if_neg q, if_neg hb, if_neg (h.resolve_left q).2.2]
    by_cases s : r < made c.toInt.toNat
    · rw [if_pos s]
    · rw [if_neg s]
theorem own_neg {d : Int32} (h : d.toInt < 0) : d < 0 := by
  rw [Int32.lt_iff_toInt_lt]; have k0 : (0 : Int32).toInt = 0 := by decide
  omega
theorem own_nneg {d : Int32} (h : 0 ≤ d.toInt) : ¬ d < 0 := by
  rw [Int32.lt_iff_toInt_lt]; have k0 : (0 : Int32).toInt = 0 := by decide
  omega
theorem own_step {par made : Nat → Int32} (ok : own_ok par made) {c d : Int32} (hc : 0 ≤ c.toInt ∧ c.toInt < 4) (e : d = par c.toInt.toNat) : (d < 0 ∧ made c.toInt.toNat = 0) ∨ (¬ d < 0 ∧ made d.toInt.toNat < made c.toInt.toNat ∧ 0 ≤ d.toInt ∧ d.toInt < c.toInt) := by
  have o := ok c.toInt.toNat (by omega)
  rw [← e] at o
  by_cases q : d.toInt < 0
  · left
    refine ⟨own_neg q, ?_⟩
    rw [← Int32.toInt_inj]; have k0 : (0 : Int32).toInt = 0 := by decide
    omega
  · right
    refine ⟨own_nneg (by omega), ?_, by omega, by omega⟩
    rw [Int32.lt_iff_toInt_lt]; omega
theorem own_le_next {par made : Nat → Int32} (ok : own_ok par made) (m : Int32) {c : Int32} (h : c < 0 ∨ (0 ≤ c.toInt ∧ c.toInt < 4 ∧ ¬ m < made c.toInt.toNat)) : own_next par c < 0 ∨ (0 ≤ (own_next par c).toInt ∧ (own_next par c).toInt < 4 ∧ ¬ m < made (own_next par c).toInt.toNat) := by
  by_cases q : c < 0
  · left; unfold own_next; rw [if_pos q]; decide
  · obtain ⟨h1, h2, h3⟩ := h.resolve_left q
    have e : own_next par c = par c.toInt.toNat := by unfold own_next; rw [if_neg q]
    rcases own_step ok ⟨h1, h2⟩ e with s | ⟨s1, s2, s3, s4⟩
    · exact Or.inl s.1
    · right
      refine ⟨s3, by omega, ?_⟩
      rw [Int32.lt_iff_toInt_lt] at *; omega
theorem own_plain (par made : Nat → Int32) (ok : own_ok par made) (c0 c1 c2 c3 r : Int32) (h0 : 0 ≤ c0.toInt ∧ c0.toInt < 4) (hr : ¬ r < 0) (e1 : c1 = par c0.toInt.toNat) (e2 : c2 = own_next par c1) (e3 : c3 = own_next par c2) :
    own_after par made c0 r = own_pick made (own_pick made (own_pick made (own_pick made (-1) c0 r) c1 r) c2 r) c3 r := by
  have n0 : ¬ c0 < 0 := own_nneg h0.1
  have self : ∀ m : Int32, ¬ m < m := fun m => by rw [Int32.lt_iff_toInt_lt]; omega
  have x1 : c1 = own_next par c0 := by rw [e1]; unfold own_next; rw [if_neg n0]
  unfold own_after
  rw [← e1]
  by_cases a0 : r < made c0.toInt.toNat
  · rw [if_pos a0, own_skip made _ c0 r (Or.inr a0)]
    rcases own_step ok h0 e1 with ⟨n1, z1⟩ | ⟨p1, m1, b1, b1'⟩
    · rw [z1] at a0; exact absurd a0 hr
    · have f2 : c2 = par c1.toInt.toNat := by rw [e2]; unfold own_next; rw [if_neg p1]
      rw [← f2]
      by_cases a1 : r < made c1.toInt.toNat
      · rw [if_pos a1, own_skip made _ c1 r (Or.inr a1)]
        rcases own_step ok ⟨b1, by omega⟩ f2 with ⟨n2, z2⟩ | ⟨p2, m2, b2, b2'⟩
        · rw [z2] at a1; exact absurd a1 hr
        · have f3 : c3 = par c2.toInt.toNat := by rw [e3]; unfold own_next; rw [if_neg p2]
          rw [← f3]
          by_cases a2 : r < made c2.toInt.toNat
          · rw [if_pos a2, own_skip made _ c2 r (Or.inr a2)]
            rcases own_step ok ⟨b2, by omega⟩ f3 with ⟨n3, z3⟩ | ⟨p3, m3, b3, b3'⟩
            · rw [z3] at a2; exact absurd a2 hr
            · rcases own_step ok (c := c3) ⟨b3, by omega⟩ rfl with ⟨n4, z4⟩ | ⟨p4, m4, b4, b4'⟩
              · rw [own_take made c3 r p3 (by rw [z4]; exact hr)]
              · omega
          · have l3 := own_le_next ok (made c2.toInt.toNat) (c := c2) (Or.inr ⟨b2, by omega, self _⟩)
            rw [← e3] at l3
            rw [if_neg a2, own_take made c2 r p2 a2, own_keep made c2 c3 r p2 l3]
      · have l2 := own_le_next ok (made c1.toInt.toNat) (c := c1) (Or.inr ⟨b1, by omega, self _⟩)
        rw [← e2] at l2
        have l3 := own_le_next ok _ l2
        rw [← e3] at l3
        rw [if_neg a1, own_take made c1 r p1 a1, own_keep made c1 c2 r p1 l2, own_keep made c1 c3 r p1 l3]
  · have l1 := own_le_next ok (made c0.toInt.toNat) (c := c0) (Or.inr ⟨h0.1, h0.2, self _⟩)
    rw [← x1] at l1
    have l2 := own_le_next ok _ l1
    rw [← e2] at l2
    have l3 := own_le_next ok _ l2
    rw [← e3] at l3
    rw [if_neg a0, own_take made c0 r n0 a0, own_keep made c0 c1 r n0 l1, own_keep made c0 c2 r n0 l2, own_keep made c0 c3 r n0 l3]
def own_st (p m : Int32) (g : Nat → Int32) (b : Int) : Prop := (p.toInt = -1 → m.toInt = 0) ∧ (0 ≤ p.toInt → (g p.toInt.toNat).toInt < m.toInt) ∧ 0 ≤ m.toInt ∧ m.toInt ≤ b
theorem own_st0 (p : Int32) (g : Nat → Int32) (b : Int) (hb : 0 ≤ b) (h : p < 0) : own_st p 0 g b := by
  rw [Int32.lt_iff_toInt_lt] at h
  have k0 : (0 : Int32).toInt = 0 := by decide
  unfold own_st; omega
theorem own_st1 (p m d x : Int32) (g : Nat → Int32) (b : Int) (hb : b ≤ 100) (h : ¬ p < 0) (hg : 0 ≤ (g p.toInt.toNat).toInt ∧ (g p.toInt.toNat).toInt + 4 ≤ b) (hd : d = x &&& 3) (e : m = g p.toInt.toNat + 1 + d) : own_st p m g b := by
  have h1 := own_ge0 h
  have h2 := c_mask x 3 2 (by decide) rfl
  rw [← hd] at h2
  have h3 := c_iadd (g p.toInt.toNat) 1
  have h4 := c_iadd (g p.toInt.toNat + 1) d
  rw [← e] at h4
  have r3 := rng32 (g p.toInt.toNat + 1)
  have r4 := rng32 m
  have k1 : (1 : Int32).toInt = 1 := by decide
  unfold own_st; omega
theorem own_mkok (p1 p2 p3 m1 m2 m3 : Int32) (b1 : p1 = 0 ∨ p1 = -1) (b2 : -1 ≤ p2.toInt ∧ p2.toInt < 2) (b3 : -1 ≤ p3.toInt ∧ p3.toInt < 3) (g0 g1 g2 g3 par : Nat → Int32)
    (e0 : g0 = fun q => if q = 0 then 0 else (fun _ => 0) q) (e1 : g1 = fun q => if q = 1 then m1 else g0 q) (e2 : g2 = fun q => if q = 2 then m2 else g1 q) (e3 : g3 = fun q => if q = 3 then m3 else g2 q)
    (ep : par = fun q => if q = 3 then p3 else (fun q => if q = 2 then p2 else (fun q => if q = 1 then p1 else (fun q => if q = 0 then -1 else (fun _ => 0) q) q) q) q)
    (s1 : own_st p1 m1 g0 4) (s2 : own_st p2 m2 g1 8) (s3 : own_st p3 m3 g2 12) : own_ok par g3 := by
  have km : (-1 : Int32).toInt = -1 := by decide
  have k0 : (0 : Int32).toInt = 0 := by decide
  have c1 : p1.toInt = 0 ∨ p1.toInt = -1 := by rcases b1 with h | h <;> rw [h] <;> decide
  intro i hi
  unfold own_st at *
  have z3 : ∀ j, j < 3 → g3 j = g2 j := fun j hj => by rw [e3]; exact if_neg (by omega)
  have z2 : ∀ j, j < 2 → g2 j = g1 j := fun j hj => by rw [e2]; exact if_neg (by omega)
  have z1 : ∀ j, j < 1 → g1 j = g0 j := fun j hj => by rw [e1]; exact if_neg (by omega)
  have z0 : g0 0 = 0 := by rw [e0]; rfl
  have y1 : g1 1 = m1 := by rw [e1]; rfl
  have y2 : g2 2 = m2 := by rw [e2]; rfl
  have y3 : g3 3 = m3 := by rw [e3]; rfl
  rcases (by omega : i = 0 ∨ i = 1 ∨ i = 2 ∨ i = 3) with rfl | rfl | rfl | rfl
  · have : par 0 = -1 := by rw [ep]; rfl
    rw [this, z3 0 (by decide), z2 0 (by decide), z1 0 (by decide), z0]; omega
  · have : par 1 = p1 := by rw [ep]; rfl
    rw [this, z3 1 (by decide), z2 1 (by decide), y1]
    refine ⟨by omega, by omega, by omega, fun h => ?_⟩
    rw [z3 _ (by omega), z2 _ (by omega), z1 _ (by omega)]; exact s1.2.1 h
  · have : par 2 = p2 := by rw [ep]; rfl
    rw [this, z3 2 (by decide), y2]
    refine ⟨by omega, by omega, by omega, fun h => ?_⟩
    rw [z3 _ (by omega), z2 _ (by omega)]; exact s2.2.1 h
  · have : par 3 = p3 := by rw [ep]; rfl
    rw [this, y3]
    refine ⟨by omega, by omega, by omega, fun h => ?_⟩
    rw [z3 _ (by omega)]; exact s3.2.1 h
theorem own_b0 (g0 : Nat → Int32) (e0 : g0 = fun q => if q = 0 then 0 else (fun _ => 0) q) (j : Nat) : 0 ≤ (g0 j).toInt ∧ (g0 j).toInt ≤ 0 := by
  have k0 : (0 : Int32).toInt = 0 := by decide
  rw [e0]; simp only; split <;> omega
theorem own_bN (g h : Nat → Int32) (i : Nat) (m : Int32) (b c : Int) (hb : ∀ j, 0 ≤ (g j).toInt ∧ (g j).toInt ≤ b) (hm : 0 ≤ m.toInt ∧ m.toInt ≤ c) (hc : b ≤ c) (e : h = fun q => if q = i then m else g q) (j : Nat) : 0 ≤ (h j).toInt ∧ (h j).toInt ≤ c := by
  have := hb j
  rw [e]; simp only; split <;> omega
theorem own_p2 (s p : Int32) (e : p = (((s.toUInt32 >>> ((1 : Int32) &&& 31).toUInt32).toInt32) &&& (3 : Int32)) % (3 : Int32) - (1 : Int32)) : -1 ≤ p.toInt ∧ p.toInt < 2 := by
  have h1 := c_mask ((s.toUInt32 >>> ((1 : Int32) &&& 31).toUInt32).toInt32) 3 2 (by decide) rfl
  generalize (s.toUInt32 >>> ((1 : Int32) &&& 31).toUInt32).toInt32 &&& (3 : Int32) = x at *
  have h2 := (c_irem x 3 3 rfl).1
  have h3 := c_isub (x % 3) 1
  rw [← e] at h3
  have r := rng32 p
  have k1 : (1 : Int32).toInt = 1 := by decide
  omega
theorem own_p3 (s p : Int32) (e : p = (((s.toUInt32 >>> ((3 : Int32) &&& 31).toUInt32).toInt32) &&& (3 : Int32)) - (1 : Int32)) : -1 ≤ p.toInt ∧ p.toInt < 3 := by
  have h1 := c_mask ((s.toUInt32 >>> ((3 : Int32) &&& 31).toUInt32).toInt32) 3 2 (by decide) rfl
  generalize (s.toUInt32 >>> ((3 : Int32) &&& 31).toUInt32).toInt32 &&& (3 : Int32) = x at *
  have h3 := c_isub x 1
  rw [← e] at h3
  have r := rng32 p
  have k1 : (1 : Int32).toInt = 1 := by decide
  omega
theorem own_rd1 (r : Int32) : ¬ (r &&& (2147483647 : Int32)) < 0 := by
  have h := c_mask r 2147483647 31 (by decide) rfl
  rw [Int32.lt_iff_toInt_lt, h]; have k0 : (0 : Int32).toInt = 0 := by decide
  omega
theorem own_rd2 (r : Int32) : ¬ (r &&& (15 : Int32)) < 0 := by
  have h := c_mask r 15 4 (by decide) rfl
  rw [Int32.lt_iff_toInt_lt, h]; have k0 : (0 : Int32).toInt = 0 := by decide
  omega
theorem own_blk (b x : Int32) (e : x = b &&& 3) : 0 ≤ x.toInt ∧ x.toInt < 4 := by
  have h := c_mask b 3 2 (by decide) rfl
  rw [← e] at h; omega
theorem own_p1i (p : Int32) (b : p = 0 ∨ p = -1) (h : ¬ p < 0) : p.toInt < 4 := by
  have h1 := own_ge0 h
  rcases b with h | h <;> rw [h] <;> decide
theorem d1_0 : decode prog_1_method_1_code 0 = .ok (.aload_n 0, 1) := by decide +kernel
theorem d1_1 : decode prog_1_method_1_code 1 = .ok (.invokespecial 1, 3) := by decide +kernel
theorem d1_4 : decode prog_1_method_1_code 4 = .ok (.aload_n 0, 1) := by decide +kernel
theorem d1_5 : decode prog_1_method_1_code 5 = .ok (.aload_n 1, 1) := by decide +kernel
theorem d1_6 : decode prog_1_method_1_code 6 = .ok (.putfield 7, 3) := by decide +kernel
theorem d1_9 : decode prog_1_method_1_code 9 = .ok (.aload_n 0, 1) := by decide +kernel
theorem d1_10 : decode prog_1_method_1_code 10 = .ok (.aload_n 2, 1) := by decide +kernel
theorem d1_11 : decode prog_1_method_1_code 11 = .ok (.putfield 13, 3) := by decide +kernel
theorem d1_14 : decode prog_1_method_1_code 14 = .ok (.aload_n 0, 1) := by decide +kernel
theorem d1_15 : decode prog_1_method_1_code 15 = .ok (.aload_n 3, 1) := by decide +kernel
theorem d1_16 : decode prog_1_method_1_code 16 = .ok (.putfield 16, 3) := by decide +kernel
theorem d1_19 : decode prog_1_method_1_code 19 = .ok (.return_, 1) := by decide +kernel
set_option maxRecDepth 65536 in
set_option maxHeartbeats 40000000 in
theorem rm1 (l : Launch) (Z : State) (a0 : Array Value) (hw : ∀ d ∈ tables_1, d.before a0 Z = true) (a t1 t2 t3 : Addr) (h0 : Heap) (n0 : Nat) (Z0 : n0 ≤ h0.size) (ga : n0 ≤ a) (E_a : Exa Z h0 a "com/example/trubis/trubis/equivalence/BlockHistory") (F_blockOf : Fld Z h0 a "com/example/trubis/trubis/equivalence/BlockHistory" "blockOf" "[I" .null) (F_parentOf : Fld Z h0 a "com/example/trubis/trubis/equivalence/BlockHistory" "parentOf" "[I" .null) (F_madeIn : Fld Z h0 a "com/example/trubis/trubis/equivalence/BlockHistory" "madeIn" "[I" .null) :
    own_C l Z (⟨"com/example/trubis/trubis/equivalence/BlockHistory", "<init>", "([I[I[I)V"⟩ : MethodName) prog_1_method_1_code 4 none [] ({ frames := 1, cells := 0, slots := 0, locals := 12 } : Room) #[(.ref a), (.ref t1), (.ref t2), (.ref t3)] h0 (fun v h L => v = none ∧ Fr n0 L ∧ Keep h0 h [a] ∧ Fld Z h a "com/example/trubis/trubis/equivalence/BlockHistory" "blockOf" "[I" (.ref t1) ∧ Fld Z h a "com/example/trubis/trubis/equivalence/BlockHistory" "parentOf" "[I" (.ref t2) ∧ Fld Z h a "com/example/trubis/trubis/equivalence/BlockHistory" "madeIn" "[I" (.ref t3)) := by
  refine own_body (by first | (simp [plainName, overriddenIn]; done) | decide +kernel) ?_
  intro p e s m below meth c T0 hx hby hml hown hnm hret hlk hZ X0 e0
  have N0 := Fr.nil n0
  refine own_eq (f' := (mkF m 0 #[.val (.ref a), .val (.ref t1), .val (.ref t2), .val (.ref t3)] [])) (by first | (simp [entryFrame, mkF, argsToLocals, Value.category]; done) | rfl) ?_
  refine own_aloadN X0 hx 1 (hb hby d1_0) rfl rfl ?_
  refine own_initO X0 hx hZ hown e0 (W := 0) 4 (hw _ (List.mem_of_getElem? (i := 8) rfl)) (hw _ (List.mem_of_getElem? (i := 9) rfl)) (hw _ (List.mem_of_getElem? (i := 10) rfl)) (by rw [hml]; rfl) (hb hby d1_1) rfl (by decide) rfl (by decide) (fun T1 X2 e3 => ?_)
  refine own_aloadN X2 hx 5 (hb hby d1_4) rfl rfl ?_
  refine own_aloadN X2 hx 6 (hb hby d1_5) rfl rfl ?_
  refine own_putF X2 hx hZ hown e3 9 (hw _ (List.mem_of_getElem? (i := 11) rfl)) F_blockOf E_a (Or.inr ⟨(hw _ (List.mem_of_getElem? (i := 12) rfl)), rfl, hnm⟩) (hw _ (List.mem_of_getElem? (i := 3) rfl)) (ty := (.array .int)) (by decide) rfl rfl (hb hby d1_6) rfl (fun T4 h5 X6 e7 W8 => ?_)
  have f9 := E_a.wr W8
  have f10 := F_blockOf.same W8
  have f11 := F_parentOf.other W8 (Or.inr (slot_ne (Or.inr (hw _ (List.mem_of_getElem? (i := 14) rfl))) (Or.inr (hw _ (List.mem_of_getElem? (i := 12) rfl))) (by decide) (t := (.array .int)) (t' := (.array .int)) (by decide) (by decide)))
  have f12 := F_madeIn.other W8 (Or.inr (slot_ne (Or.inr (hw _ (List.mem_of_getElem? (i := 16) rfl))) (Or.inr (hw _ (List.mem_of_getElem? (i := 12) rfl))) (by decide) (t := (.array .int)) (t' := (.array .int)) (by decide) (by decide)))
  have Z13 : n0 ≤ h5.size := Nat.le_trans Z0 (Keep.of_wr W8).1
  have K14 := (Keep.refl h0 [a]).wr W8 (Or.inl (List.mem_of_getElem? (i := 0) rfl))
  have N15 := Fr.snoc X6 N0 ga
  refine own_aloadN X6 hx 10 (hb hby d1_9) rfl rfl ?_
  refine own_aloadN X6 hx 11 (hb hby d1_10) rfl rfl ?_
  refine own_putF X6 hx hZ hown e7 14 (hw _ (List.mem_of_getElem? (i := 13) rfl)) f11 f9 (Or.inr ⟨(hw _ (List.mem_of_getElem? (i := 14) rfl)), rfl, hnm⟩) (hw _ (List.mem_of_getElem? (i := 3) rfl)) (ty := (.array .int)) (by decide) rfl rfl (hb hby d1_11) rfl (fun T16 h17 X18 e19 W20 => ?_)
  have f21 := f9.wr W20
  have f22 := f10.other W20 (Or.inr (slot_ne (Or.inr (hw _ (List.mem_of_getElem? (i := 12) rfl))) (Or.inr (hw _ (List.mem_of_getElem? (i := 14) rfl))) (by decide) (t := (.array .int)) (t' := (.array .int)) (by decide) (by decide)))
  have f23 := f11.same W20
  have f24 := f12.other W20 (Or.inr (slot_ne (Or.inr (hw _ (List.mem_of_getElem? (i := 16) rfl))) (Or.inr (hw _ (List.mem_of_getElem? (i := 14) rfl))) (by decide) (t := (.array .int)) (t' := (.array .int)) (by decide) (by decide)))
  have Z25 : n0 ≤ h17.size := Nat.le_trans Z13 (Keep.of_wr W20).1
  have K26 := K14.wr W20 (Or.inl (List.mem_of_getElem? (i := 0) rfl))
  have N27 := Fr.snoc X18 N15 ga
  refine own_aloadN X18 hx 15 (hb hby d1_14) rfl rfl ?_
  refine own_aloadN X18 hx 16 (hb hby d1_15) rfl rfl ?_
  refine own_putF X18 hx hZ hown e19 19 (hw _ (List.mem_of_getElem? (i := 15) rfl)) f24 f21 (Or.inr ⟨(hw _ (List.mem_of_getElem? (i := 16) rfl)), rfl, hnm⟩) (hw _ (List.mem_of_getElem? (i := 3) rfl)) (ty := (.array .int)) (by decide) rfl rfl (hb hby d1_16) rfl (fun T28 h29 X30 e31 W32 => ?_)
  have f33 := f21.wr W32
  have f34 := f22.other W32 (Or.inr (slot_ne (Or.inr (hw _ (List.mem_of_getElem? (i := 12) rfl))) (Or.inr (hw _ (List.mem_of_getElem? (i := 16) rfl))) (by decide) (t := (.array .int)) (t' := (.array .int)) (by decide) (by decide)))
  have f35 := f23.other W32 (Or.inr (slot_ne (Or.inr (hw _ (List.mem_of_getElem? (i := 14) rfl))) (Or.inr (hw _ (List.mem_of_getElem? (i := 16) rfl))) (by decide) (t := (.array .int)) (t' := (.array .int)) (by decide) (by decide)))
  have f36 := f24.same W32
  have Z37 : n0 ≤ h29.size := Nat.le_trans Z25 (Keep.of_wr W32).1
  have K38 := K26.wr W32 (Or.inl (List.mem_of_getElem? (i := 0) rfl))
  have N39 := Fr.snoc X30 N27 ga
  exact own_retV X30 hx hret hlk (hb hby d1_19) (by decide) (by decide) ⟨rfl, N39, by rw [e31]; exact ⟨K38, f34, f35, f36⟩⟩
theorem d4_0 : decode prog_1_method_4_code 0 = .ok (.iload_n 1, 1) := by decide +kernel
theorem d4_1 : decode prog_1_method_4_code 1 = .ok (.istore_n 3, 1) := by decide +kernel
theorem d4_2 : decode prog_1_method_4_code 2 = .ok (.aload_n 0, 1) := by decide +kernel
theorem d4_3 : decode prog_1_method_4_code 3 = .ok (.getfield 16, 3) := by decide +kernel
theorem d4_6 : decode prog_1_method_4_code 6 = .ok (.iload_n 3, 1) := by decide +kernel
theorem d4_7 : decode prog_1_method_4_code 7 = .ok (.iaload, 1) := by decide +kernel
theorem d4_8 : decode prog_1_method_4_code 8 = .ok (.iload_n 2, 1) := by decide +kernel
theorem d4_9 : decode prog_1_method_4_code 9 = .ok (.if_icmp .le 13, 3) := by decide +kernel
theorem d4_12 : decode prog_1_method_4_code 12 = .ok (.aload_n 0, 1) := by decide +kernel
theorem d4_13 : decode prog_1_method_4_code 13 = .ok (.getfield 13, 3) := by decide +kernel
theorem d4_16 : decode prog_1_method_4_code 16 = .ok (.iload_n 3, 1) := by decide +kernel
theorem d4_17 : decode prog_1_method_4_code 17 = .ok (.iaload, 1) := by decide +kernel
theorem d4_18 : decode prog_1_method_4_code 18 = .ok (.istore_n 3, 1) := by decide +kernel
theorem d4_19 : decode prog_1_method_4_code 19 = .ok (.goto (-17), 3) := by decide +kernel
theorem d4_22 : decode prog_1_method_4_code 22 = .ok (.iload_n 3, 1) := by decide +kernel
theorem d4_23 : decode prog_1_method_4_code 23 = .ok (.ireturn, 1) := by decide +kernel
set_option maxRecDepth 65536 in
set_option maxHeartbeats 40000000 in
theorem rm4 (l : Launch) (Z : State) (a0 : Array Value) (hw : ∀ d ∈ tables_1, d.before a0 Z = true) (a t2 t3 : Addr) (p1 p2 : Int32) (par made : Nat → Int32) (h0 : Heap) (n0 : Nat) (Z0 : n0 ≤ h0.size) (ok : own_ok par made) (hx0 : 0 ≤ p1.toInt ∧ p1.toInt < 4) (hr : ¬ p2 < 0) (F_parentOf : Fld Z h0 a "com/example/trubis/trubis/equivalence/BlockHistory" "parentOf" "[I" (.ref t2)) (F_madeIn : Fld Z h0 a "com/example/trubis/trubis/equivalence/BlockHistory" "madeIn" "[I" (.ref t3)) (A_par : own_AI Z h0 t2 .int 4 par) (A_made : own_AI Z h0 t3 .int 4 made) :
    own_C l Z (⟨"com/example/trubis/trubis/equivalence/BlockHistory", "after", "(II)I"⟩ : MethodName) prog_1_method_4_code 4 (some .int) [] ({ frames := 0, cells := 0, slots := 0, locals := 0 } : Room) #[(.ref a), (.int p1), (.int p2)] h0 (fun v h L => v = some (.int (own_after par made p1 p2)) ∧ Fr n0 L ∧ h = h0) := by
  refine own_body (by first | (simp [plainName, overriddenIn]; done) | decide +kernel) ?_
  intro p e s m below meth c T0 hx hby hml hown hnm hret hlk hZ X0 e0
  have N0 := Fr.nil n0
  refine own_eq (f' := (mkF m 0 #[.val (.ref a), .val (.int p1), .val (.int p2), .unset] [])) (by first | (simp [entryFrame, mkF, argsToLocals, Value.category]; done) | rfl) ?_
  refine own_iloadN X0 hx 1 (hb hby d4_0) rfl rfl ?_
  refine own_istoreN X0 hx 2 #[.val (.ref a), .val (.int p1), .val (.int p2), .val (.int p1)] rfl (hb hby d4_1) rfl rfl ?_
  refine own_aloadN X0 hx 3 (hb hby d4_2) rfl rfl ?_
  refine own_getF X0 hx hZ hown e0 6 (hw _ (List.mem_of_getElem? (i := 15) rfl)) F_madeIn (hb hby d4_3) rfl (fun T1 X2 e3 => ?_)
  refine own_iloadN X2 hx 7 (hb hby d4_6) rfl rfl ?_
  refine own_iaload X2 hx hZ e3 8 p1.toInt.toNat A_made (own_nn hx0.1) (own_lt4 hx0.2) (hb hby d4_7) rfl ?_
  refine own_iloadN X2 hx 9 (hb hby d4_8) rfl rfl ?_
  refine own_icmp_le X2 hx 22 12 (hb hby d4_9) (by decide) (by decide) rfl (fun h4 => ?_) (fun h4 => ?_)
  · show own_W p e below _ T1 (mkF m 22 #[.val (.ref a), .val (.int p1), .val (.int p2), .val (.int p1)] [])
    refine own_iloadN X2 hx 23 (hb hby d4_22) rfl rfl ?_
    exact own_retI X2 hx hret hlk (hb hby d4_23) (by decide) (by decide) ⟨by unfold own_after; rw [if_neg h4], N0, e3⟩
  · show own_W p e below _ T1 (mkF m 12 #[.val (.ref a), .val (.int p1), .val (.int p2), .val (.int p1)] [])
    have hx1 := own_up1 ok hx0 hr h4
    refine own_aloadN X2 hx 13 (hb hby d4_12) rfl rfl ?_
    refine own_getF X2 hx hZ hown e3 16 (hw _ (List.mem_of_getElem? (i := 13) rfl)) F_parentOf (hb hby d4_13) rfl (fun T5 X6 e7 => ?_)
    refine own_iloadN X6 hx 17 (hb hby d4_16) rfl rfl ?_
    refine own_iaload X6 hx hZ e7 18 p1.toInt.toNat A_par (own_nn hx0.1) (own_lt4 hx0.2) (hb hby d4_17) rfl ?_
    refine own_istoreN X6 hx 19 #[.val (.ref a), .val (.int p1), .val (.int p2), .val (.int (par p1.toInt.toNat))] rfl (hb hby d4_18) rfl rfl ?_
    refine own_goto X6 hx 2 (hb hby d4_19) (by decide) (by decide) ?_
    refine own_aloadN X6 hx 3 (hb hby d4_2) rfl rfl ?_
    refine own_getF X6 hx hZ hown e7 6 (hw _ (List.mem_of_getElem? (i := 15) rfl)) F_madeIn (hb hby d4_3) rfl (fun T8 X9 e10 => ?_)
    refine own_iloadN X9 hx 7 (hb hby d4_6) rfl rfl ?_
    refine own_iaload X9 hx hZ e10 8 (par p1.toInt.toNat).toInt.toNat A_made (own_nn hx1.1) (own_lt4 hx1.2.2) (hb hby d4_7) rfl ?_
    refine own_iloadN X9 hx 9 (hb hby d4_8) rfl rfl ?_
    refine own_icmp_le X9 hx 22 12 (hb hby d4_9) (by decide) (by decide) rfl (fun h11 => ?_) (fun h11 => ?_)
    · show own_W p e below _ T8 (mkF m 22 #[.val (.ref a), .val (.int p1), .val (.int p2), .val (.int (par p1.toInt.toNat))] [])
      refine own_iloadN X9 hx 23 (hb hby d4_22) rfl rfl ?_
      exact own_retI X9 hx hret hlk (hb hby d4_23) (by decide) (by decide) ⟨by unfold own_after; rw [if_pos h4, if_neg h11], N0, e10⟩
    · show own_W p e below _ T8 (mkF m 12 #[.val (.ref a), .val (.int p1), .val (.int p2), .val (.int (par p1.toInt.toNat))] [])
      have hx2 := own_up1 ok ⟨hx1.1, hx1.2.2⟩ hr h11
      refine own_aloadN X9 hx 13 (hb hby d4_12) rfl rfl ?_
      refine own_getF X9 hx hZ hown e10 16 (hw _ (List.mem_of_getElem? (i := 13) rfl)) F_parentOf (hb hby d4_13) rfl (fun T12 X13 e14 => ?_)
      refine own_iloadN X13 hx 17 (hb hby d4_16) rfl rfl ?_
      refine own_iaload X13 hx hZ e14 18 (par p1.toInt.toNat).toInt.toNat A_par (own_nn hx1.1) (own_lt4 hx1.2.2) (hb hby d4_17) rfl ?_
      refine own_istoreN X13 hx 19 #[.val (.ref a), .val (.int p1), .val (.int p2), .val (.int (par (par p1.toInt.toNat).toInt.toNat))] rfl (hb hby d4_18) rfl rfl ?_
      refine own_goto X13 hx 2 (hb hby d4_19) (by decide) (by decide) ?_
      refine own_aloadN X13 hx 3 (hb hby d4_2) rfl rfl ?_
      refine own_getF X13 hx hZ hown e14 6 (hw _ (List.mem_of_getElem? (i := 15) rfl)) F_madeIn (hb hby d4_3) rfl (fun T15 X16 e17 => ?_)
      refine own_iloadN X16 hx 7 (hb hby d4_6) rfl rfl ?_
      refine own_iaload X16 hx hZ e17 8 (par (par p1.toInt.toNat).toInt.toNat).toInt.toNat A_made (own_nn hx2.1) (own_lt4 hx2.2.2) (hb hby d4_7) rfl ?_
      refine own_iloadN X16 hx 9 (hb hby d4_8) rfl rfl ?_
      refine own_icmp_le X16 hx 22 12 (hb hby d4_9) (by decide) (by decide) rfl (fun h18 => ?_) (fun h18 => ?_)
      · show own_W p e below _ T15 (mkF m 22 #[.val (.ref a), .val (.int p1), .val (.int p2), .val (.int (par (par p1.toInt.toNat).toInt.toNat))] [])
        refine own_iloadN X16 hx 23 (hb hby d4_22) rfl rfl ?_
        exact own_retI X16 hx hret hlk (hb hby d4_23) (by decide) (by decide) ⟨by unfold own_after; rw [if_pos h4, if_pos h11, if_neg h18], N0, e17⟩
      · show own_W p e below _ T15 (mkF m 12 #[.val (.ref a), .val (.int p1), .val (.int p2), .val (.int (par (par p1.toInt.toNat).toInt.toNat))] [])
        have hx3 := own_up1 ok ⟨hx2.1, hx2.2.2⟩ hr h18
        refine own_aloadN X16 hx 13 (hb hby d4_12) rfl rfl ?_
        refine own_getF X16 hx hZ hown e17 16 (hw _ (List.mem_of_getElem? (i := 13) rfl)) F_parentOf (hb hby d4_13) rfl (fun T19 X20 e21 => ?_)
        refine own_iloadN X20 hx 17 (hb hby d4_16) rfl rfl ?_
        refine own_iaload X20 hx hZ e21 18 (par (par p1.toInt.toNat).toInt.toNat).toInt.toNat A_par (own_nn hx2.1) (own_lt4 hx2.2.2) (hb hby d4_17) rfl ?_
        refine own_istoreN X20 hx 19 #[.val (.ref a), .val (.int p1), .val (.int p2), .val (.int (par (par (par p1.toInt.toNat).toInt.toNat).toInt.toNat))] rfl (hb hby d4_18) rfl rfl ?_
        refine own_goto X20 hx 2 (hb hby d4_19) (by decide) (by decide) ?_
        refine own_aloadN X20 hx 3 (hb hby d4_2) rfl rfl ?_
        refine own_getF X20 hx hZ hown e21 6 (hw _ (List.mem_of_getElem? (i := 15) rfl)) F_madeIn (hb hby d4_3) rfl (fun T22 X23 e24 => ?_)
        refine own_iloadN X23 hx 7 (hb hby d4_6) rfl rfl ?_
        refine own_iaload X23 hx hZ e24 8 (par (par (par p1.toInt.toNat).toInt.toNat).toInt.toNat).toInt.toNat A_made (own_nn hx3.1) (own_lt4 hx3.2.2) (hb hby d4_7) rfl ?_
        refine own_iloadN X23 hx 9 (hb hby d4_8) rfl rfl ?_
        refine own_icmp_le X23 hx 22 12 (hb hby d4_9) (by decide) (by decide) rfl (fun h25 => ?_) (fun h25 => ?_)
        · show own_W p e below _ T22 (mkF m 22 #[.val (.ref a), .val (.int p1), .val (.int p2), .val (.int (par (par (par p1.toInt.toNat).toInt.toNat).toInt.toNat))] [])
          refine own_iloadN X23 hx 23 (hb hby d4_22) rfl rfl ?_
          exact own_retI X23 hx hret hlk (hb hby d4_23) (by decide) (by decide) ⟨by unfold own_after; rw [if_pos h4, if_pos h11, if_pos h18], N0, e24⟩
        · exact absurd (own_up1 ok ⟨hx3.1, hx3.2.2⟩ hr h25) (by omega)
theorem d5_0 : decode method_2_code 0 = .ok (.iload_n 1, 1) := by decide +kernel
theorem d5_1 : decode method_2_code 1 = .ok (.ifCond .lt 25, 3) := by decide +kernel
theorem d5_4 : decode method_2_code 4 = .ok (.aload_n 2, 1) := by decide +kernel
theorem d5_5 : decode method_2_code 5 = .ok (.iload_n 1, 1) := by decide +kernel
theorem d5_6 : decode method_2_code 6 = .ok (.iaload, 1) := by decide +kernel
theorem d5_7 : decode method_2_code 7 = .ok (.iload_n 3, 1) := by decide +kernel
theorem d5_8 : decode method_2_code 8 = .ok (.if_icmp .gt 18, 3) := by decide +kernel
theorem d5_11 : decode method_2_code 11 = .ok (.iload_n 0, 1) := by decide +kernel
theorem d5_12 : decode method_2_code 12 = .ok (.ifCond .lt 12, 3) := by decide +kernel
theorem d5_15 : decode method_2_code 15 = .ok (.aload_n 2, 1) := by decide +kernel
theorem d5_16 : decode method_2_code 16 = .ok (.iload_n 1, 1) := by decide +kernel
theorem d5_17 : decode method_2_code 17 = .ok (.iaload, 1) := by decide +kernel
theorem d5_18 : decode method_2_code 18 = .ok (.aload_n 2, 1) := by decide +kernel
theorem d5_19 : decode method_2_code 19 = .ok (.iload_n 0, 1) := by decide +kernel
theorem d5_20 : decode method_2_code 20 = .ok (.iaload, 1) := by decide +kernel
theorem d5_21 : decode method_2_code 21 = .ok (.if_icmp .le 5, 3) := by decide +kernel
theorem d5_24 : decode method_2_code 24 = .ok (.iload_n 1, 1) := by decide +kernel
theorem d5_25 : decode method_2_code 25 = .ok (.ireturn, 1) := by decide +kernel
theorem d5_26 : decode method_2_code 26 = .ok (.iload_n 0, 1) := by decide +kernel
theorem d5_27 : decode method_2_code 27 = .ok (.ireturn, 1) := by decide +kernel
set_option maxRecDepth 65536 in
set_option maxHeartbeats 40000000 in
theorem rm5 (l : Launch) (Z : State) (a0 : Array Value) (hw : ∀ d ∈ tables_1, d.before a0 Z = true) (t3 : Addr) (p0 p1 p3 : Int32) (made : Nat → Int32) (h0 : Heap) (n0 : Nat) (Z0 : n0 ≤ h0.size) (l0 : p0.toInt < 4) (l1 : p1.toInt < 4) (A_made : own_AI Z h0 t3 .int 4 made) :
    own_C l Z (⟨"com/example/trubis/trubis/equivalence/BlockHistoryAfterPinLaw", "pick", "(II[II)I"⟩ : MethodName) method_2_code 4 (some .int) [] ({ frames := 0, cells := 0, slots := 0, locals := 0 } : Room) #[(.int p0), (.int p1), (.ref t3), (.int p3)] h0 (fun v h L => v = some (.int (own_pick made p0 p1 p3)) ∧ Fr n0 L ∧ h = h0) := by
  refine own_body (by first | (simp [plainName, overriddenIn]; done) | decide +kernel) ?_
  intro p e s m below meth c T0 hx hby hml hown hnm hret hlk hZ X0 e0
  have N0 := Fr.nil n0
  refine own_eq (f' := (mkF m 0 #[.val (.int p0), .val (.int p1), .val (.ref t3), .val (.int p3)] [])) (by first | (simp [entryFrame, mkF, argsToLocals, Value.category]; done) | rfl) ?_
  refine own_iloadN X0 hx 1 (hb hby d5_0) rfl rfl ?_
  refine own_if_lt X0 hx 26 4 (hb hby d5_1) (by decide) (by decide) rfl (fun h1 => ?_) (fun h1 => ?_)
  · show own_W p e below _ T0 (mkF m 26 #[.val (.int p0), .val (.int p1), .val (.ref t3), .val (.int p3)] [])
    refine own_iloadN X0 hx 27 (hb hby d5_26) rfl rfl ?_
    exact own_retI X0 hx hret hlk (hb hby d5_27) (by decide) (by decide) ⟨by unfold own_pick; rw [if_pos h1], N0, e0⟩
  · show own_W p e below _ T0 (mkF m 4 #[.val (.int p0), .val (.int p1), .val (.ref t3), .val (.int p3)] [])
    refine own_aloadN X0 hx 5 (hb hby d5_4) rfl rfl ?_
    refine own_iloadN X0 hx 6 (hb hby d5_5) rfl rfl ?_
    refine own_iaload X0 hx hZ e0 7 p1.toInt.toNat A_made (own_nn (own_ge0 h1)) (own_lt4 l1) (hb hby d5_6) rfl ?_
    refine own_iloadN X0 hx 8 (hb hby d5_7) rfl rfl ?_
    refine own_icmp_gt X0 hx 26 11 (hb hby d5_8) (by decide) (by decide) rfl (fun h2 => ?_) (fun h2 => ?_)
    · show own_W p e below _ T0 (mkF m 26 #[.val (.int p0), .val (.int p1), .val (.ref t3), .val (.int p3)] [])
      refine own_iloadN X0 hx 27 (hb hby d5_26) rfl rfl ?_
      exact own_retI X0 hx hret hlk (hb hby d5_27) (by decide) (by decide) ⟨by unfold own_pick; rw [if_neg h1, if_pos h2], N0, e0⟩
    · show own_W p e below _ T0 (mkF m 11 #[.val (.int p0), .val (.int p1), .val (.ref t3), .val (.int p3)] [])
      refine own_iloadN X0 hx 12 (hb hby d5_11) rfl rfl ?_
      refine own_if_lt X0 hx 24 15 (hb hby d5_12) (by decide) (by decide) rfl (fun h3 => ?_) (fun h3 => ?_)
      · show own_W p e below _ T0 (mkF m 24 #[.val (.int p0), .val (.int p1), .val (.ref t3), .val (.int p3)] [])
        refine own_iloadN X0 hx 25 (hb hby d5_24) rfl rfl ?_
        exact own_retI X0 hx hret hlk (hb hby d5_25) (by decide) (by decide) ⟨by unfold own_pick; rw [if_neg h1, if_neg h2, if_pos h3], N0, e0⟩
      · show own_W p e below _ T0 (mkF m 15 #[.val (.int p0), .val (.int p1), .val (.ref t3), .val (.int p3)] [])
        refine own_aloadN X0 hx 16 (hb hby d5_15) rfl rfl ?_
        refine own_iloadN X0 hx 17 (hb hby d5_16) rfl rfl ?_
        refine own_iaload X0 hx hZ e0 18 p1.toInt.toNat A_made (own_nn (own_ge0 h1)) (own_lt4 l1) (hb hby d5_17) rfl ?_
        refine own_aloadN X0 hx 19 (hb hby d5_18) rfl rfl ?_
        refine own_iloadN X0 hx 20 (hb hby d5_19) rfl rfl ?_
        refine own_iaload X0 hx hZ e0 21 p0.toInt.toNat A_made (own_nn (own_ge0 h3)) (own_lt4 l0) (hb hby d5_20) rfl ?_
        refine own_icmp_le X0 hx 26 24 (hb hby d5_21) (by decide) (by decide) rfl (fun h4 => ?_) (fun h4 => ?_)
        · show own_W p e below _ T0 (mkF m 26 #[.val (.int p0), .val (.int p1), .val (.ref t3), .val (.int p3)] [])
          refine own_iloadN X0 hx 27 (hb hby d5_26) rfl rfl ?_
          exact own_retI X0 hx hret hlk (hb hby d5_27) (by decide) (by decide) ⟨by unfold own_pick; rw [if_neg h1, if_neg h2, if_neg h3, if_neg h4], N0, e0⟩
        · show own_W p e below _ T0 (mkF m 24 #[.val (.int p0), .val (.int p1), .val (.ref t3), .val (.int p3)] [])
          refine own_iloadN X0 hx 25 (hb hby d5_24) rfl rfl ?_
          exact own_retI X0 hx hret hlk (hb hby d5_25) (by decide) (by decide) ⟨by unfold own_pick; rw [if_neg h1, if_neg h2, if_neg h3, if_pos h4], N0, e0⟩
set_option maxRecDepth 65536 in
set_option maxHeartbeats 40000000 in
theorem rm0 (l : Launch) (Z : State) (a0 : Array Value) (hw : ∀ d ∈ tables_1, d.before a0 Z = true) (p0 p1 p2 p3 : Int32) (h0 : Heap) (n0 : Nat) (Z0 : n0 ≤ h0.size)  :
    own_C l Z x code maxLocals ret tables_1 room_1 #[(.int p0), (.int p1), (.int p2), (.int p3)] h0 (fun v h L => v = some (.int 1) ∧ Fr n0 L) := by
  refine own_body (by first | (simp [plainName, overriddenIn]; done) | decide +kernel) ?_
  intro p e s m below meth c T0 hx hby hml hown hnm hret hlk hZ X0 e0
  have N0 := Fr.nil n0
  refine own_eq (f' := (mkF m 0 #[.val (.int p0), .val (.int p1), .val (.int p2), .val (.int p3), .unset, .unset, .unset, .unset, .unset, .unset, .unset, .unset, .unset, .unset, .unset, .unset, .unset, .unset, .unset, .unset] [])) (by first | (simp [entryFrame, mkF, argsToLocals, Value.category, maxLocals]; done) | rfl) ?_
  refine own_iloadN X0 hx 1 (hb hby at_0) rfl rfl ?_
  refine own_ldc X0 hx hZ hown 3 (hw _ (List.mem_of_getElem? (i := 0) rfl)) (hb hby at_1) rfl ?_
  refine own_iand X0 hx 4 (hb hby at_3) rfl ?_
  obtain ⟨vs, e_vs⟩ : ∃ z : Int32, z = (p0 &&& (2147483647 : Int32)) := ⟨_, rfl⟩
  refine own_istore X0 hx 6 #[.val (.int p0), .val (.int p1), .val (.int p2), .val (.int p3), .val (.int vs), .unset, .unset, .unset, .unset, .unset, .unset, .unset, .unset, .unset, .unset, .unset, .unset, .unset, .unset, .unset] e_vs (hb hby at_4) rfl rfl ?_
  refine own_iload X0 hx 8 (hb hby at_6) rfl rfl ?_
  refine own_iconst X0 hx 9 (1 : Int32) (by decide) (hb hby at_8) rfl ?_
  refine own_iand X0 hx 10 (hb hby at_9) rfl ?_
  have J1 : ∀ (q1 : Int32) (hj2 : q1 = 0 ∨ q1 = -1), own_W p e below (own_K s room_1 (fun v h L => v = some (.int 1) ∧ Fr n0 L)) T0 (mkF m 18 #[.val (.int p0), .val (.int p1), .val (.int p2), .val (.int p3), .val (.int vs), .unset, .unset, .unset, .unset, .unset, .unset, .unset, .unset, .unset, .unset, .unset, .unset, .unset, .unset, .unset] [(.int q1)]) := by
    intro q1 hj2
    have hq1 := hj2
    refine own_istore X0 hx 20 #[.val (.int p0), .val (.int p1), .val (.int p2), .val (.int p3), .val (.int vs), .val (.int q1), .unset, .unset, .unset, .unset, .unset, .unset, .unset, .unset, .unset, .unset, .unset, .unset, .unset, .unset] rfl (hb hby at_18) rfl rfl ?_
    refine own_iload X0 hx 22 (hb hby at_20) rfl rfl ?_
    refine own_iconst X0 hx 23 (1 : Int32) (by decide) (hb hby at_22) rfl ?_
    refine own_iushr X0 hx 24 (hb hby at_23) rfl ?_
    refine own_iconst X0 hx 25 (3 : Int32) (by decide) (hb hby at_24) rfl ?_
    refine own_iand X0 hx 26 (hb hby at_25) rfl ?_
    refine own_iconst X0 hx 27 (3 : Int32) (by decide) (hb hby at_26) rfl ?_
    refine own_irem X0 hx 28 (by decide) (hb hby at_27) rfl ?_
    refine own_iconst X0 hx 29 (1 : Int32) (by decide) (hb hby at_28) rfl ?_
    refine own_isub X0 hx 30 (hb hby at_29) rfl ?_
    obtain ⟨q2, e_q2⟩ : ∃ z : Int32, z = (((((vs.toUInt32 >>> ((1 : Int32) &&& 31).toUInt32).toInt32) &&& (3 : Int32)) % (3 : Int32)) - (1 : Int32)) := ⟨_, rfl⟩
    refine own_istore X0 hx 32 #[.val (.int p0), .val (.int p1), .val (.int p2), .val (.int p3), .val (.int vs), .val (.int q1), .val (.int q2), .unset, .unset, .unset, .unset, .unset, .unset, .unset, .unset, .unset, .unset, .unset, .unset, .unset] e_q2 (hb hby at_30) rfl rfl ?_
    refine own_iload X0 hx 34 (hb hby at_32) rfl rfl ?_
    refine own_iconst X0 hx 35 (3 : Int32) (by decide) (hb hby at_34) rfl ?_
    refine own_iushr X0 hx 36 (hb hby at_35) rfl ?_
    refine own_iconst X0 hx 37 (3 : Int32) (by decide) (hb hby at_36) rfl ?_
    refine own_iand X0 hx 38 (hb hby at_37) rfl ?_
    refine own_iconst X0 hx 39 (1 : Int32) (by decide) (hb hby at_38) rfl ?_
    refine own_isub X0 hx 40 (hb hby at_39) rfl ?_
    obtain ⟨q3, e_q3⟩ : ∃ z : Int32, z = ((((vs.toUInt32 >>> ((3 : Int32) &&& 31).toUInt32).toInt32) &&& (3 : Int32)) - (1 : Int32)) := ⟨_, rfl⟩
    refine own_istore X0 hx 42 #[.val (.int p0), .val (.int p1), .val (.int p2), .val (.int p3), .val (.int vs), .val (.int q1), .val (.int q2), .val (.int q3), .unset, .unset, .unset, .unset, .unset, .unset, .unset, .unset, .unset, .unset, .unset, .unset] e_q3 (hb hby at_40) rfl rfl ?_
    have hq2 := own_p2 vs q2 e_q2
    have hq3 := own_p3 vs q3 e_q3
    refine own_iconst X0 hx 43 (4 : Int32) (by decide) (hb hby at_42) rfl ?_
    refine own_newI X0 hx hZ e0 (n := 4) (cap := 4) 45 .int rfl rfl (hw _ (List.mem_of_getElem? (i := 1) rfl)) rfl (by decide) (by decide) (hb hby at_43) rfl (by decide) (by decide) (fun T3 h4 a5 X6 e7 g8 E9 A10 => ?_)
    have ga11 : n0 ≤ a5 := by rw [g8]; exact Z0
    have Z12 : n0 ≤ h4.size := Nat.le_trans Z0 E9.1
    refine own_dup X6 hx 46 rfl (hb hby at_45) rfl ?_
    refine own_iconst X6 hx 47 (0 : Int32) (by decide) (hb hby at_46) rfl ?_
    refine own_iconst X6 hx 48 (-1 : Int32) (by decide) (hb hby at_47) rfl ?_
    refine own_iastore X6 hx hZ e7 49 0 A10 rfl (by decide) (hb hby at_48) rfl (fun T13 h14 X15 e16 W17 => ?_)
    have f18 := A10.set W17
    have Z19 : n0 ≤ h14.size := Nat.le_trans Z12 (Keep.of_wr W17).1
    have N20 := Fr.snoc X15 N0 ga11
    refine own_dup X15 hx 50 rfl (hb hby at_49) rfl ?_
    refine own_iconst X15 hx 51 (1 : Int32) (by decide) (hb hby at_50) rfl ?_
    refine own_iload X15 hx 53 (hb hby at_51) rfl rfl ?_
    refine own_iastore X15 hx hZ e16 54 1 f18 rfl (by decide) (hb hby at_53) rfl (fun T21 h22 X23 e24 W25 => ?_)
    have f26 := f18.set W25
    have Z27 : n0 ≤ h22.size := Nat.le_trans Z19 (Keep.of_wr W25).1
    have N28 := Fr.snoc X23 N20 ga11
    refine own_dup X23 hx 55 rfl (hb hby at_54) rfl ?_
    refine own_iconst X23 hx 56 (2 : Int32) (by decide) (hb hby at_55) rfl ?_
    refine own_iload X23 hx 58 (hb hby at_56) rfl rfl ?_
    refine own_iastore X23 hx hZ e24 59 2 f26 rfl (by decide) (hb hby at_58) rfl (fun T29 h30 X31 e32 W33 => ?_)
    have f34 := f26.set W33
    have Z35 : n0 ≤ h30.size := Nat.le_trans Z27 (Keep.of_wr W33).1
    have N36 := Fr.snoc X31 N28 ga11
    refine own_dup X31 hx 60 rfl (hb hby at_59) rfl ?_
    refine own_iconst X31 hx 61 (3 : Int32) (by decide) (hb hby at_60) rfl ?_
    refine own_iload X31 hx 63 (hb hby at_61) rfl rfl ?_
    refine own_iastore X31 hx hZ e32 64 3 f34 rfl (by decide) (hb hby at_63) rfl (fun T37 h38 X39 e40 W41 => ?_)
    have f42 := f34.set W41
    have Z43 : n0 ≤ h38.size := Nat.le_trans Z35 (Keep.of_wr W41).1
    have N44 := Fr.snoc X39 N36 ga11
    refine own_astore X39 hx 66 #[.val (.int p0), .val (.int p1), .val (.int p2), .val (.int p3), .val (.int vs), .val (.int q1), .val (.int q2), .val (.int q3), .val (.ref a5), .unset, .unset, .unset, .unset, .unset, .unset, .unset, .unset, .unset, .unset, .unset] rfl (hb hby at_64) rfl rfl ?_
    obtain ⟨par, e_par⟩ : ∃ z : Nat → Int32, z = (fun q => if q = 3 then q3 else (fun q => if q = 2 then q2 else (fun q => if q = 1 then q1 else (fun q => if q = 0 then (-1 : Int32) else (fun _ => 0) q) q) q) q) := ⟨_, rfl⟩
    rw [← e_par] at f42
    refine own_iconst X39 hx 67 (4 : Int32) (by decide) (hb hby at_66) rfl ?_
    refine own_newI X39 hx hZ e40 (n := 4) (cap := 4) 69 .int rfl rfl (hw _ (List.mem_of_getElem? (i := 1) rfl)) rfl (by decide) (by decide) (hb hby at_67) rfl (by decide) (by decide) (fun T45 h46 a47 X48 e49 g50 E51 A52 => ?_)
    have ne53 : a5 ≠ a47 := fun q => absurd (f42.lt) (by rw [q, g50]; exact Nat.lt_irrefl _)
    have ga54 : n0 ≤ a47 := by rw [g50]; exact Z43
    have f55 := f42.ext E51
    have Z56 : n0 ≤ h46.size := Nat.le_trans Z43 E51.1
    refine own_astore X48 hx 71 #[.val (.int p0), .val (.int p1), .val (.int p2), .val (.int p3), .val (.int vs), .val (.int q1), .val (.int q2), .val (.int q3), .val (.ref a5), .val (.ref a47), .unset, .unset, .unset, .unset, .unset, .unset, .unset, .unset, .unset, .unset] rfl (hb hby at_69) rfl rfl ?_
    refine own_aload X48 hx 73 (hb hby at_71) rfl rfl ?_
    refine own_iconst X48 hx 74 (0 : Int32) (by decide) (hb hby at_73) rfl ?_
    refine own_iconst X48 hx 75 (0 : Int32) (by decide) (hb hby at_74) rfl ?_
    refine own_iastore X48 hx hZ e49 76 0 A52 rfl (by decide) (hb hby at_75) rfl (fun T57 h58 X59 e60 W61 => ?_)
    have f62 := f55.other W61 ne53
    have f63 := A52.set W61
    have Z64 : n0 ≤ h58.size := Nat.le_trans Z56 (Keep.of_wr W61).1
    have N65 := Fr.snoc X59 N44 ga54
    obtain ⟨g0, e_g0⟩ : ∃ z : Nat → Int32, z = (fun q => if q = 0 then (0 : Int32) else (fun _ => 0) q) := ⟨_, rfl⟩
    rw [← e_g0] at f63
    have bg0 := own_b0 g0 e_g0
    refine own_aload X59 hx 78 (hb hby at_76) rfl rfl ?_
    refine own_iconst X59 hx 79 (1 : Int32) (by decide) (hb hby at_78) rfl ?_
    refine own_iload X59 hx 81 (hb hby at_79) rfl rfl ?_
    have J66 : ∀ (m1 : Int32) (hj67 : own_st q1 m1 g0 4), own_W p e below (own_K s room_1 (fun v h L => v = some (.int 1) ∧ Fr n0 L)) T57 (mkF m 99 #[.val (.int p0), .val (.int p1), .val (.int p2), .val (.int p3), .val (.int vs), .val (.int q1), .val (.int q2), .val (.int q3), .val (.ref a5), .val (.ref a47), .unset, .unset, .unset, .unset, .unset, .unset, .unset, .unset, .unset, .unset] [(.int m1), (.int (1 : Int32)), (.ref a47)]) := by
      intro m1 hj67
      have hm1 := hj67
      refine own_iastore X59 hx hZ e60 100 1 f63 rfl (by decide) (hb hby at_99) rfl (fun T68 h69 X70 e71 W72 => ?_)
      have f73 := f62.other W72 ne53
      have f74 := f63.set W72
      have Z75 : n0 ≤ h69.size := Nat.le_trans Z64 (Keep.of_wr W72).1
      have N76 := Fr.snoc X70 N65 ga54
      obtain ⟨g1, e_g1⟩ : ∃ z : Nat → Int32, z = (fun q => if q = 1 then m1 else g0 q) := ⟨_, rfl⟩
      rw [← e_g1] at f74
      have bg1 := own_bN g0 g1 1 m1 0 4 bg0 ⟨hm1.2.2.1, hm1.2.2.2⟩ (by decide) e_g1
      refine own_aload X70 hx 102 (hb hby at_100) rfl rfl ?_
      refine own_iconst X70 hx 103 (2 : Int32) (by decide) (hb hby at_102) rfl ?_
      refine own_iload X70 hx 105 (hb hby at_103) rfl rfl ?_
      have J77 : ∀ (m2 : Int32) (hj78 : own_st q2 m2 g1 8), own_W p e below (own_K s room_1 (fun v h L => v = some (.int 1) ∧ Fr n0 L)) T68 (mkF m 125 #[.val (.int p0), .val (.int p1), .val (.int p2), .val (.int p3), .val (.int vs), .val (.int q1), .val (.int q2), .val (.int q3), .val (.ref a5), .val (.ref a47), .unset, .unset, .unset, .unset, .unset, .unset, .unset, .unset, .unset, .unset] [(.int m2), (.int (2 : Int32)), (.ref a47)]) := by
        intro m2 hj78
        have hm2 := hj78
        refine own_iastore X70 hx hZ e71 126 2 f74 rfl (by decide) (hb hby at_125) rfl (fun T79 h80 X81 e82 W83 => ?_)
        have f84 := f73.other W83 ne53
        have f85 := f74.set W83
        have Z86 : n0 ≤ h80.size := Nat.le_trans Z75 (Keep.of_wr W83).1
        have N87 := Fr.snoc X81 N76 ga54
        obtain ⟨g2, e_g2⟩ : ∃ z : Nat → Int32, z = (fun q => if q = 2 then m2 else g1 q) := ⟨_, rfl⟩
        rw [← e_g2] at f85
        have bg2 := own_bN g1 g2 2 m2 4 8 bg1 ⟨hm2.2.2.1, hm2.2.2.2⟩ (by decide) e_g2
        refine own_aload X81 hx 128 (hb hby at_126) rfl rfl ?_
        refine own_iconst X81 hx 129 (3 : Int32) (by decide) (hb hby at_128) rfl ?_
        refine own_iload X81 hx 131 (hb hby at_129) rfl rfl ?_
        have J88 : ∀ (m3 : Int32) (hj89 : own_st q3 m3 g2 12), own_W p e below (own_K s room_1 (fun v h L => v = some (.int 1) ∧ Fr n0 L)) T79 (mkF m 151 #[.val (.int p0), .val (.int p1), .val (.int p2), .val (.int p3), .val (.int vs), .val (.int q1), .val (.int q2), .val (.int q3), .val (.ref a5), .val (.ref a47), .unset, .unset, .unset, .unset, .unset, .unset, .unset, .unset, .unset, .unset] [(.int m3), (.int (3 : Int32)), (.ref a47)]) := by
          intro m3 hj89
          have hm3 := hj89
          refine own_iastore X81 hx hZ e82 152 3 f85 rfl (by decide) (hb hby at_151) rfl (fun T90 h91 X92 e93 W94 => ?_)
          have f95 := f84.other W94 ne53
          have f96 := f85.set W94
          have Z97 : n0 ≤ h91.size := Nat.le_trans Z86 (Keep.of_wr W94).1
          have N98 := Fr.snoc X92 N87 ga54
          obtain ⟨g3, e_g3⟩ : ∃ z : Nat → Int32, z = (fun q => if q = 3 then m3 else g2 q) := ⟨_, rfl⟩
          rw [← e_g3] at f96
          have ok := own_mkok q1 q2 q3 m1 m2 m3 hq1 hq2 hq3 g0 g1 g2 g3 par e_g0 e_g1 e_g2 e_g3 e_par hm1 hm2 hm3
          refine own_iconst X92 hx 153 (4 : Int32) (by decide) (hb hby at_152) rfl ?_
          refine own_newI X92 hx hZ e93 (n := 4) (cap := 4) 155 .int rfl rfl (hw _ (List.mem_of_getElem? (i := 1) rfl)) rfl (by decide) (by decide) (hb hby at_153) rfl (by decide) (by decide) (fun T99 h100 a101 X102 e103 g104 E105 A106 => ?_)
          have ne107 : a5 ≠ a101 := fun q => absurd (f95.lt) (by rw [q, g104]; exact Nat.lt_irrefl _)
          have ne108 : a47 ≠ a101 := fun q => absurd (f96.lt) (by rw [q, g104]; exact Nat.lt_irrefl _)
          have ga109 : n0 ≤ a101 := by rw [g104]; exact Z97
          have f110 := f95.ext E105
          have f111 := f96.ext E105
          have Z112 : n0 ≤ h100.size := Nat.le_trans Z97 E105.1
          refine own_dup X102 hx 156 rfl (hb hby at_155) rfl ?_
          refine own_iconst X102 hx 157 (0 : Int32) (by decide) (hb hby at_156) rfl ?_
          refine own_iconst X102 hx 158 (0 : Int32) (by decide) (hb hby at_157) rfl ?_
          refine own_iastore X102 hx hZ e103 159 0 A106 rfl (by decide) (hb hby at_158) rfl (fun T113 h114 X115 e116 W117 => ?_)
          have f118 := f110.other W117 ne107
          have f119 := f111.other W117 ne108
          have f120 := A106.set W117
          have Z121 : n0 ≤ h114.size := Nat.le_trans Z112 (Keep.of_wr W117).1
          have N122 := Fr.snoc X115 N98 ga109
          refine own_dup X115 hx 160 rfl (hb hby at_159) rfl ?_
          refine own_iconst X115 hx 161 (1 : Int32) (by decide) (hb hby at_160) rfl ?_
          refine own_iconst X115 hx 162 (1 : Int32) (by decide) (hb hby at_161) rfl ?_
          refine own_iastore X115 hx hZ e116 163 1 f120 rfl (by decide) (hb hby at_162) rfl (fun T123 h124 X125 e126 W127 => ?_)
          have f128 := f118.other W127 ne107
          have f129 := f119.other W127 ne108
          have f130 := f120.set W127
          have Z131 : n0 ≤ h124.size := Nat.le_trans Z121 (Keep.of_wr W127).1
          have N132 := Fr.snoc X125 N122 ga109
          refine own_dup X125 hx 164 rfl (hb hby at_163) rfl ?_
          refine own_iconst X125 hx 165 (2 : Int32) (by decide) (hb hby at_164) rfl ?_
          refine own_iconst X125 hx 166 (2 : Int32) (by decide) (hb hby at_165) rfl ?_
          refine own_iastore X125 hx hZ e126 167 2 f130 rfl (by decide) (hb hby at_166) rfl (fun T133 h134 X135 e136 W137 => ?_)
          have f138 := f128.other W137 ne107
          have f139 := f129.other W137 ne108
          have f140 := f130.set W137
          have Z141 : n0 ≤ h134.size := Nat.le_trans Z131 (Keep.of_wr W137).1
          have N142 := Fr.snoc X135 N132 ga109
          refine own_dup X135 hx 168 rfl (hb hby at_167) rfl ?_
          refine own_iconst X135 hx 169 (3 : Int32) (by decide) (hb hby at_168) rfl ?_
          refine own_iconst X135 hx 170 (3 : Int32) (by decide) (hb hby at_169) rfl ?_
          refine own_iastore X135 hx hZ e136 171 3 f140 rfl (by decide) (hb hby at_170) rfl (fun T143 h144 X145 e146 W147 => ?_)
          have f148 := f138.other W147 ne107
          have f149 := f139.other W147 ne108
          have f150 := f140.set W147
          have Z151 : n0 ≤ h144.size := Nat.le_trans Z141 (Keep.of_wr W147).1
          have N152 := Fr.snoc X145 N142 ga109
          refine own_astore X145 hx 173 #[.val (.int p0), .val (.int p1), .val (.int p2), .val (.int p3), .val (.int vs), .val (.int q1), .val (.int q2), .val (.int q3), .val (.ref a5), .val (.ref a47), .val (.ref a101), .unset, .unset, .unset, .unset, .unset, .unset, .unset, .unset, .unset] rfl (hb hby at_171) rfl rfl ?_
          obtain ⟨bo, e_bo⟩ : ∃ z : Nat → Int32, z = (fun q => if q = 3 then (3 : Int32) else (fun q => if q = 2 then (2 : Int32) else (fun q => if q = 1 then (1 : Int32) else (fun q => if q = 0 then (0 : Int32) else (fun _ => 0) q) q) q) q) := ⟨_, rfl⟩
          rw [← e_bo] at f150
          refine own_iloadN X145 hx 174 (hb hby at_173) rfl rfl ?_
          refine own_bipush X145 hx 176 (16 : Int32) (by decide) (hb hby at_174) rfl ?_
          refine own_iand X145 hx 177 (hb hby at_176) rfl ?_
          have J153 : ∀ (rr : Int32) (hj154 : ¬ rr < 0), own_W p e below (own_K s room_1 (fun v h L => v = some (.int 1) ∧ Fr n0 L)) T143 (mkF m 191 #[.val (.int p0), .val (.int p1), .val (.int p2), .val (.int p3), .val (.int vs), .val (.int q1), .val (.int q2), .val (.int q3), .val (.ref a5), .val (.ref a47), .val (.ref a101), .unset, .unset, .unset, .unset, .unset, .unset, .unset, .unset, .unset] [(.int rr)]) := by
            intro rr hj154
            have hrr := hj154
            refine own_istore X145 hx 193 #[.val (.int p0), .val (.int p1), .val (.int p2), .val (.int p3), .val (.int vs), .val (.int q1), .val (.int q2), .val (.int q3), .val (.ref a5), .val (.ref a47), .val (.ref a101), .val (.int rr), .unset, .unset, .unset, .unset, .unset, .unset, .unset, .unset] rfl (hb hby at_191) rfl rfl ?_
            refine own_iloadN X145 hx 194 (hb hby at_193) rfl rfl ?_
            refine own_iconst X145 hx 195 (3 : Int32) (by decide) (hb hby at_194) rfl ?_
            refine own_iand X145 hx 196 (hb hby at_195) rfl ?_
            obtain ⟨vb, e_vb⟩ : ∃ z : Int32, z = (p3 &&& (3 : Int32)) := ⟨_, rfl⟩
            refine own_istore X145 hx 198 #[.val (.int p0), .val (.int p1), .val (.int p2), .val (.int p3), .val (.int vs), .val (.int q1), .val (.int q2), .val (.int q3), .val (.ref a5), .val (.ref a47), .val (.ref a101), .val (.int rr), .val (.int vb), .unset, .unset, .unset, .unset, .unset, .unset, .unset] e_vb (hb hby at_196) rfl rfl ?_
            have hvb := own_blk p3 vb e_vb
            refine own_new X145 hx hZ hown e146 201 (hw _ (List.mem_of_getElem? (i := 2) rfl)) (hw _ (List.mem_of_getElem? (i := 3) rfl)) (hw _ (List.mem_of_getElem? (i := 4) rfl)) (hb hby at_198) rfl (by decide) (by decide) (fun T155 h156 a157 X158 e159 g160 E161 A162 D163 => ?_)
            have ne164 : a5 ≠ a157 := fun q => absurd (f148.lt) (by rw [q, g160]; exact Nat.lt_irrefl _)
            have ne165 : a47 ≠ a157 := fun q => absurd (f149.lt) (by rw [q, g160]; exact Nat.lt_irrefl _)
            have ne166 : a101 ≠ a157 := fun q => absurd (f150.lt) (by rw [q, g160]; exact Nat.lt_irrefl _)
            have ga167 : n0 ≤ a157 := by rw [g160]; exact Z151
            have f168 := f148.ext E161
            have f169 := f149.ext E161
            have f170 := f150.ext E161
            have Z171 : n0 ≤ h156.size := Nat.le_trans Z151 E161.1
            have f172 : Fld Z h156 a157 "com/example/trubis/trubis/equivalence/BlockHistory" "blockOf" "[I" .null := D163 (Or.inr (hw _ (List.mem_of_getElem? (i := 12) rfl))) (ty := (.array .int)) (by decide)
            have f173 : Fld Z h156 a157 "com/example/trubis/trubis/equivalence/BlockHistory" "parentOf" "[I" .null := D163 (Or.inr (hw _ (List.mem_of_getElem? (i := 14) rfl))) (ty := (.array .int)) (by decide)
            have f174 : Fld Z h156 a157 "com/example/trubis/trubis/equivalence/BlockHistory" "madeIn" "[I" .null := D163 (Or.inr (hw _ (List.mem_of_getElem? (i := 16) rfl))) (ty := (.array .int)) (by decide)
            refine own_dup X158 hx 202 rfl (hb hby at_201) rfl ?_
            refine own_aload X158 hx 204 (hb hby at_202) rfl rfl ?_
            refine own_aload X158 hx 206 (hb hby at_204) rfl rfl ?_
            refine own_aload X158 hx 208 (hb hby at_206) rfl rfl ?_
            refine own_callI X158 hx hZ hown e159 (y := (⟨"com/example/trubis/trubis/equivalence/BlockHistory", "<init>", "([I[I[I)V"⟩ : MethodName)) (a := a157) (argsL := [(.ref a101), (.ref a5), (.ref a47)]) (rest := [(.ref a157)]) 211 (rm1 l Z a0 hw a157 a101 a5 a47 h156 n0 Z171 ga167 A162 f172 f173 f174) rfl (hw _ (List.mem_of_getElem? (i := 5) rfl)) (hw _ (List.mem_of_getElem? (i := 6) rfl)) (hw _ (List.mem_of_getElem? (i := 4) rfl)) (hw _ (List.mem_of_getElem? (i := 7) rfl)) (by decide) (by rw [hml]; rfl) (lenOf (by decide +kernel : parseMethodDescriptor "([I[I[I)V" = some ⟨[(.array .int), (.array .int), (.array .int)], none⟩) rfl) rfl (hb hby at_208) rfl (W := 1) rfl (by decide) (by decide) (by decide) (by decide) (fun r175 T176 L177 X178 q179 => ?_)
            obtain ⟨rfl, N180q, K181, f182, f183, f184⟩ := q179
            have N180 := Fr.app N152 N180q
            have f185 := f168.keep K181 (ninS ne164 nin0)
            have f186 := f169.keep K181 (ninS ne165 nin0)
            have f187 := f170.keep K181 (ninS ne166 nin0)
            have f188 := A162.keep K181
            have Z192 : n0 ≤ T176.heap.size := Nat.le_trans Z171 K181.1
            show own_W p e below _ T176 (mkF m 211 #[.val (.int p0), .val (.int p1), .val (.int p2), .val (.int p3), .val (.int vs), .val (.int q1), .val (.int q2), .val (.int q3), .val (.ref a5), .val (.ref a47), .val (.ref a101), .val (.int rr), .val (.int vb), .unset, .unset, .unset, .unset, .unset, .unset, .unset] [(.ref a157)])
            refine own_astore X178 hx 213 #[.val (.int p0), .val (.int p1), .val (.int p2), .val (.int p3), .val (.int vs), .val (.int q1), .val (.int q2), .val (.int q3), .val (.ref a5), .val (.ref a47), .val (.ref a101), .val (.int rr), .val (.int vb), .val (.ref a157), .unset, .unset, .unset, .unset, .unset, .unset] rfl (hb hby at_211) rfl rfl ?_
            refine own_aload X178 hx 215 (hb hby at_213) rfl rfl ?_
            refine own_iload X178 hx 217 (hb hby at_215) rfl rfl ?_
            refine own_iload X178 hx 219 (hb hby at_217) rfl rfl ?_
            refine own_callV X178 hx hZ hown rfl (y := (⟨"com/example/trubis/trubis/equivalence/BlockHistory", "after", "(II)I"⟩ : MethodName)) (a := a157) (argsL := [(.int vb), (.int rr)]) (rest := []) 222 (rm4 l Z a0 hw a157 a5 a47 vb rr par g3 T176.heap n0 Z192 ok hvb hrr f183 f184 f185 f186) f188 (hw _ (List.mem_of_getElem? (i := 17) rfl)) (hw _ (List.mem_of_getElem? (i := 18) rfl)) (hw _ (List.mem_of_getElem? (i := 20) rfl)) (hw _ (List.mem_of_getElem? (i := 19) rfl)) (hw _ (List.mem_of_getElem? (i := 4) rfl)) (hw _ (List.mem_of_getElem? (i := 21) rfl)) (by decide) (by rw [hml]; rfl) (lenOf (by decide +kernel : parseMethodDescriptor "(II)I" = some ⟨[.int, .int], some .int⟩) rfl) rfl (hb hby at_219) rfl (W := 0) rfl (by decide) (by decide) (by decide) (by decide) (fun r193 T194 L195 X196 q197 => ?_)
            obtain ⟨rfl, N198q, e199⟩ := q197
            have N198 := Fr.app N180 N198q
            show own_W p e below _ T194 (mkF m 222 #[.val (.int p0), .val (.int p1), .val (.int p2), .val (.int p3), .val (.int vs), .val (.int q1), .val (.int q2), .val (.int q3), .val (.ref a5), .val (.ref a47), .val (.ref a101), .val (.int rr), .val (.int vb), .val (.ref a157), .unset, .unset, .unset, .unset, .unset, .unset] [(.int (own_after par g3 vb rr))])
            refine own_istore X196 hx 224 #[.val (.int p0), .val (.int p1), .val (.int p2), .val (.int p3), .val (.int vs), .val (.int q1), .val (.int q2), .val (.int q3), .val (.ref a5), .val (.ref a47), .val (.ref a101), .val (.int rr), .val (.int vb), .val (.ref a157), .val (.int (own_after par g3 vb rr)), .unset, .unset, .unset, .unset, .unset] rfl (hb hby at_222) rfl rfl ?_
            refine own_iload X196 hx 226 (hb hby at_224) rfl rfl ?_
            refine own_istore X196 hx 228 #[.val (.int p0), .val (.int p1), .val (.int p2), .val (.int p3), .val (.int vs), .val (.int q1), .val (.int q2), .val (.int q3), .val (.ref a5), .val (.ref a47), .val (.ref a101), .val (.int rr), .val (.int vb), .val (.ref a157), .val (.int (own_after par g3 vb rr)), .val (.int vb), .unset, .unset, .unset, .unset] rfl (hb hby at_226) rfl rfl ?_
            refine own_aload X196 hx 230 (hb hby at_228) rfl rfl ?_
            refine own_iload X196 hx 232 (hb hby at_230) rfl rfl ?_
            refine own_iaload X196 hx hZ e199 233 vb.toInt.toNat f185 (own_nn hvb.1) (own_lt4 hvb.2) (hb hby at_232) rfl ?_
            obtain ⟨c1, e_c1⟩ : ∃ z : Int32, z = (par vb.toInt.toNat) := ⟨_, rfl⟩
            refine own_istore X196 hx 235 #[.val (.int p0), .val (.int p1), .val (.int p2), .val (.int p3), .val (.int vs), .val (.int q1), .val (.int q2), .val (.int q3), .val (.ref a5), .val (.ref a47), .val (.ref a101), .val (.int rr), .val (.int vb), .val (.ref a157), .val (.int (own_after par g3 vb rr)), .val (.int vb), .val (.int c1), .unset, .unset, .unset] e_c1 (hb hby at_233) rfl rfl ?_
            have hc1 : c1.toInt < 4 := by have := ok vb.toInt.toNat (by omega); rw [← e_c1] at this; omega
            refine own_iload X196 hx 237 (hb hby at_235) rfl rfl ?_
            have J200 : ∀ (c2 : Int32) (hj201 : c2 = own_next par c1), own_W p e below (own_K s room_1 (fun v h L => v = some (.int 1) ∧ Fr n0 L)) T194 (mkF m 249 #[.val (.int p0), .val (.int p1), .val (.int p2), .val (.int p3), .val (.int vs), .val (.int q1), .val (.int q2), .val (.int q3), .val (.ref a5), .val (.ref a47), .val (.ref a101), .val (.int rr), .val (.int vb), .val (.ref a157), .val (.int (own_after par g3 vb rr)), .val (.int vb), .val (.int c1), .unset, .unset, .unset] [(.int c2)]) := by
              intro c2 hj201
              have e_c2 := hj201
              have hc2 : c2.toInt < 4 := by rw [e_c2]; exact own_next_lt ok c1 hc1
              refine own_istore X196 hx 251 #[.val (.int p0), .val (.int p1), .val (.int p2), .val (.int p3), .val (.int vs), .val (.int q1), .val (.int q2), .val (.int q3), .val (.ref a5), .val (.ref a47), .val (.ref a101), .val (.int rr), .val (.int vb), .val (.ref a157), .val (.int (own_after par g3 vb rr)), .val (.int vb), .val (.int c1), .val (.int c2), .unset, .unset] rfl (hb hby at_249) rfl rfl ?_
              refine own_iload X196 hx 253 (hb hby at_251) rfl rfl ?_
              have J202 : ∀ (c3 : Int32) (hj203 : c3 = own_next par c2), own_W p e below (own_K s room_1 (fun v h L => v = some (.int 1) ∧ Fr n0 L)) T194 (mkF m 265 #[.val (.int p0), .val (.int p1), .val (.int p2), .val (.int p3), .val (.int vs), .val (.int q1), .val (.int q2), .val (.int q3), .val (.ref a5), .val (.ref a47), .val (.ref a101), .val (.int rr), .val (.int vb), .val (.ref a157), .val (.int (own_after par g3 vb rr)), .val (.int vb), .val (.int c1), .val (.int c2), .unset, .unset] [(.int c3)]) := by
                intro c3 hj203
                have e_c3 := hj203
                have hc3 : c3.toInt < 4 := by rw [e_c3]; exact own_next_lt ok c2 hc2
                refine own_istore X196 hx 267 #[.val (.int p0), .val (.int p1), .val (.int p2), .val (.int p3), .val (.int vs), .val (.int q1), .val (.int q2), .val (.int q3), .val (.ref a5), .val (.ref a47), .val (.ref a101), .val (.int rr), .val (.int vb), .val (.ref a157), .val (.int (own_after par g3 vb rr)), .val (.int vb), .val (.int c1), .val (.int c2), .val (.int c3), .unset] rfl (hb hby at_265) rfl rfl ?_
                refine own_iconst X196 hx 268 (-1 : Int32) (by decide) (hb hby at_267) rfl ?_
                refine own_istore X196 hx 270 #[.val (.int p0), .val (.int p1), .val (.int p2), .val (.int p3), .val (.int vs), .val (.int q1), .val (.int q2), .val (.int q3), .val (.ref a5), .val (.ref a47), .val (.ref a101), .val (.int rr), .val (.int vb), .val (.ref a157), .val (.int (own_after par g3 vb rr)), .val (.int vb), .val (.int c1), .val (.int c2), .val (.int c3), .val (.int (-1 : Int32))] rfl (hb hby at_268) rfl rfl ?_
                refine own_iload X196 hx 272 (hb hby at_270) rfl rfl ?_
                refine own_iload X196 hx 274 (hb hby at_272) rfl rfl ?_
                refine own_aload X196 hx 276 (hb hby at_274) rfl rfl ?_
                refine own_iload X196 hx 278 (hb hby at_276) rfl rfl ?_
                refine own_callS X196 hx hZ hown e199 (y := (⟨"com/example/trubis/trubis/equivalence/BlockHistoryAfterPinLaw", "pick", "(II[II)I"⟩ : MethodName)) (argsL := [(.int (-1 : Int32)), (.int vb), (.ref a47), (.int rr)]) (rest := []) 281 (rm5 l Z a0 hw a47 (-1 : Int32) vb rr g3 T176.heap n0 Z192 (by decide) hvb.2 f186) (hw _ (List.mem_of_getElem? (i := 22) rfl)) (hw _ (List.mem_of_getElem? (i := 23) rfl)) (hw _ (List.mem_of_getElem? (i := 24) rfl)) (hw _ (List.mem_of_getElem? (i := 25) rfl)) (by decide) (by rw [hml]; rfl) (lenOf (by decide +kernel : parseMethodDescriptor "(II[II)I" = some ⟨[.int, .int, (.array .int), .int], some .int⟩) rfl) rfl (hb hby at_278) rfl (W := 0) rfl (by decide) (by decide) (by decide) (by decide) (fun r204 T205 L206 X207 q208 => ?_)
                obtain ⟨rfl, N209q, e210⟩ := q208
                have N209 := Fr.app N198 N209q
                show own_W p e below _ T205 (mkF m 281 #[.val (.int p0), .val (.int p1), .val (.int p2), .val (.int p3), .val (.int vs), .val (.int q1), .val (.int q2), .val (.int q3), .val (.ref a5), .val (.ref a47), .val (.ref a101), .val (.int rr), .val (.int vb), .val (.ref a157), .val (.int (own_after par g3 vb rr)), .val (.int vb), .val (.int c1), .val (.int c2), .val (.int c3), .val (.int (-1 : Int32))] [(.int (own_pick g3 (-1 : Int32) vb rr))])
                refine own_istore X207 hx 283 #[.val (.int p0), .val (.int p1), .val (.int p2), .val (.int p3), .val (.int vs), .val (.int q1), .val (.int q2), .val (.int q3), .val (.ref a5), .val (.ref a47), .val (.ref a101), .val (.int rr), .val (.int vb), .val (.ref a157), .val (.int (own_after par g3 vb rr)), .val (.int vb), .val (.int c1), .val (.int c2), .val (.int c3), .val (.int (own_pick g3 (-1 : Int32) vb rr))] rfl (hb hby at_281) rfl rfl ?_
                refine own_iload X207 hx 285 (hb hby at_283) rfl rfl ?_
                refine own_iload X207 hx 287 (hb hby at_285) rfl rfl ?_
                refine own_aload X207 hx 289 (hb hby at_287) rfl rfl ?_
                refine own_iload X207 hx 291 (hb hby at_289) rfl rfl ?_
                refine own_callS X207 hx hZ hown e210 (y := (⟨"com/example/trubis/trubis/equivalence/BlockHistoryAfterPinLaw", "pick", "(II[II)I"⟩ : MethodName)) (argsL := [(.int (own_pick g3 (-1 : Int32) vb rr)), (.int c1), (.ref a47), (.int rr)]) (rest := []) 294 (rm5 l Z a0 hw a47 (own_pick g3 (-1 : Int32) vb rr) c1 rr g3 T176.heap n0 Z192 (own_pick_lt _ _ _ _ (by decide) hvb.2) hc1 f186) (hw _ (List.mem_of_getElem? (i := 22) rfl)) (hw _ (List.mem_of_getElem? (i := 23) rfl)) (hw _ (List.mem_of_getElem? (i := 24) rfl)) (hw _ (List.mem_of_getElem? (i := 25) rfl)) (by decide) (by rw [hml]; rfl) (lenOf (by decide +kernel : parseMethodDescriptor "(II[II)I" = some ⟨[.int, .int, (.array .int), .int], some .int⟩) rfl) rfl (hb hby at_291) rfl (W := 0) rfl (by decide) (by decide) (by decide) (by decide) (fun r211 T212 L213 X214 q215 => ?_)
                obtain ⟨rfl, N216q, e217⟩ := q215
                have N216 := Fr.app N209 N216q
                show own_W p e below _ T212 (mkF m 294 #[.val (.int p0), .val (.int p1), .val (.int p2), .val (.int p3), .val (.int vs), .val (.int q1), .val (.int q2), .val (.int q3), .val (.ref a5), .val (.ref a47), .val (.ref a101), .val (.int rr), .val (.int vb), .val (.ref a157), .val (.int (own_after par g3 vb rr)), .val (.int vb), .val (.int c1), .val (.int c2), .val (.int c3), .val (.int (own_pick g3 (-1 : Int32) vb rr))] [(.int (own_pick g3 (own_pick g3 (-1 : Int32) vb rr) c1 rr))])
                refine own_istore X214 hx 296 #[.val (.int p0), .val (.int p1), .val (.int p2), .val (.int p3), .val (.int vs), .val (.int q1), .val (.int q2), .val (.int q3), .val (.ref a5), .val (.ref a47), .val (.ref a101), .val (.int rr), .val (.int vb), .val (.ref a157), .val (.int (own_after par g3 vb rr)), .val (.int vb), .val (.int c1), .val (.int c2), .val (.int c3), .val (.int (own_pick g3 (own_pick g3 (-1 : Int32) vb rr) c1 rr))] rfl (hb hby at_294) rfl rfl ?_
                refine own_iload X214 hx 298 (hb hby at_296) rfl rfl ?_
                refine own_iload X214 hx 300 (hb hby at_298) rfl rfl ?_
                refine own_aload X214 hx 302 (hb hby at_300) rfl rfl ?_
                refine own_iload X214 hx 304 (hb hby at_302) rfl rfl ?_
                refine own_callS X214 hx hZ hown e217 (y := (⟨"com/example/trubis/trubis/equivalence/BlockHistoryAfterPinLaw", "pick", "(II[II)I"⟩ : MethodName)) (argsL := [(.int (own_pick g3 (own_pick g3 (-1 : Int32) vb rr) c1 rr)), (.int c2), (.ref a47), (.int rr)]) (rest := []) 307 (rm5 l Z a0 hw a47 (own_pick g3 (own_pick g3 (-1 : Int32) vb rr) c1 rr) c2 rr g3 T176.heap n0 Z192 (own_pick_lt _ _ _ _ (own_pick_lt _ _ _ _ (by decide) hvb.2) hc1) hc2 f186) (hw _ (List.mem_of_getElem? (i := 22) rfl)) (hw _ (List.mem_of_getElem? (i := 23) rfl)) (hw _ (List.mem_of_getElem? (i := 24) rfl)) (hw _ (List.mem_of_getElem? (i := 25) rfl)) (by decide) (by rw [hml]; rfl) (lenOf (by decide +kernel : parseMethodDescriptor "(II[II)I" = some ⟨[.int, .int, (.array .int), .int], some .int⟩) rfl) rfl (hb hby at_304) rfl (W := 0) rfl (by decide) (by decide) (by decide) (by decide) (fun r218 T219 L220 X221 q222 => ?_)
                obtain ⟨rfl, N223q, e224⟩ := q222
                have N223 := Fr.app N216 N223q
                show own_W p e below _ T219 (mkF m 307 #[.val (.int p0), .val (.int p1), .val (.int p2), .val (.int p3), .val (.int vs), .val (.int q1), .val (.int q2), .val (.int q3), .val (.ref a5), .val (.ref a47), .val (.ref a101), .val (.int rr), .val (.int vb), .val (.ref a157), .val (.int (own_after par g3 vb rr)), .val (.int vb), .val (.int c1), .val (.int c2), .val (.int c3), .val (.int (own_pick g3 (own_pick g3 (-1 : Int32) vb rr) c1 rr))] [(.int (own_pick g3 (own_pick g3 (own_pick g3 (-1 : Int32) vb rr) c1 rr) c2 rr))])
                refine own_istore X221 hx 309 #[.val (.int p0), .val (.int p1), .val (.int p2), .val (.int p3), .val (.int vs), .val (.int q1), .val (.int q2), .val (.int q3), .val (.ref a5), .val (.ref a47), .val (.ref a101), .val (.int rr), .val (.int vb), .val (.ref a157), .val (.int (own_after par g3 vb rr)), .val (.int vb), .val (.int c1), .val (.int c2), .val (.int c3), .val (.int (own_pick g3 (own_pick g3 (own_pick g3 (-1 : Int32) vb rr) c1 rr) c2 rr))] rfl (hb hby at_307) rfl rfl ?_
                refine own_iload X221 hx 311 (hb hby at_309) rfl rfl ?_
                refine own_iload X221 hx 313 (hb hby at_311) rfl rfl ?_
                refine own_aload X221 hx 315 (hb hby at_313) rfl rfl ?_
                refine own_iload X221 hx 317 (hb hby at_315) rfl rfl ?_
                refine own_callS X221 hx hZ hown e224 (y := (⟨"com/example/trubis/trubis/equivalence/BlockHistoryAfterPinLaw", "pick", "(II[II)I"⟩ : MethodName)) (argsL := [(.int (own_pick g3 (own_pick g3 (own_pick g3 (-1 : Int32) vb rr) c1 rr) c2 rr)), (.int c3), (.ref a47), (.int rr)]) (rest := []) 320 (rm5 l Z a0 hw a47 (own_pick g3 (own_pick g3 (own_pick g3 (-1 : Int32) vb rr) c1 rr) c2 rr) c3 rr g3 T176.heap n0 Z192 (own_pick_lt _ _ _ _ (own_pick_lt _ _ _ _ (own_pick_lt _ _ _ _ (by decide) hvb.2) hc1) hc2) hc3 f186) (hw _ (List.mem_of_getElem? (i := 22) rfl)) (hw _ (List.mem_of_getElem? (i := 23) rfl)) (hw _ (List.mem_of_getElem? (i := 24) rfl)) (hw _ (List.mem_of_getElem? (i := 25) rfl)) (by decide) (by rw [hml]; rfl) (lenOf (by decide +kernel : parseMethodDescriptor "(II[II)I" = some ⟨[.int, .int, (.array .int), .int], some .int⟩) rfl) rfl (hb hby at_317) rfl (W := 0) rfl (by decide) (by decide) (by decide) (by decide) (fun r225 T226 L227 X228 q229 => ?_)
                obtain ⟨rfl, N230q, e231⟩ := q229
                have N230 := Fr.app N223 N230q
                show own_W p e below _ T226 (mkF m 320 #[.val (.int p0), .val (.int p1), .val (.int p2), .val (.int p3), .val (.int vs), .val (.int q1), .val (.int q2), .val (.int q3), .val (.ref a5), .val (.ref a47), .val (.ref a101), .val (.int rr), .val (.int vb), .val (.ref a157), .val (.int (own_after par g3 vb rr)), .val (.int vb), .val (.int c1), .val (.int c2), .val (.int c3), .val (.int (own_pick g3 (own_pick g3 (own_pick g3 (-1 : Int32) vb rr) c1 rr) c2 rr))] [(.int (own_pick g3 (own_pick g3 (own_pick g3 (own_pick g3 (-1 : Int32) vb rr) c1 rr) c2 rr) c3 rr))])
                refine own_istore X228 hx 322 #[.val (.int p0), .val (.int p1), .val (.int p2), .val (.int p3), .val (.int vs), .val (.int q1), .val (.int q2), .val (.int q3), .val (.ref a5), .val (.ref a47), .val (.ref a101), .val (.int rr), .val (.int vb), .val (.ref a157), .val (.int (own_after par g3 vb rr)), .val (.int vb), .val (.int c1), .val (.int c2), .val (.int c3), .val (.int (own_pick g3 (own_pick g3 (own_pick g3 (own_pick g3 (-1 : Int32) vb rr) c1 rr) c2 rr) c3 rr))] rfl (hb hby at_320) rfl rfl ?_
                refine own_iload X228 hx 324 (hb hby at_322) rfl rfl ?_
                refine own_iload X228 hx 326 (hb hby at_324) rfl rfl ?_
                refine own_icmp_ne X228 hx 333 329 (hb hby at_326) (by decide) (by decide) rfl (fun h232 => ?_) (fun h232 => ?_)
                · exact absurd (own_plain par g3 ok vb c1 c2 c3 rr hvb hrr e_c1 e_c2 e_c3) h232
                · show own_W p e below _ T226 (mkF m 329 #[.val (.int p0), .val (.int p1), .val (.int p2), .val (.int p3), .val (.int vs), .val (.int q1), .val (.int q2), .val (.int q3), .val (.ref a5), .val (.ref a47), .val (.ref a101), .val (.int rr), .val (.int vb), .val (.ref a157), .val (.int (own_after par g3 vb rr)), .val (.int vb), .val (.int c1), .val (.int c2), .val (.int c3), .val (.int (own_pick g3 (own_pick g3 (own_pick g3 (own_pick g3 (-1 : Int32) vb rr) c1 rr) c2 rr) c3 rr))] [])
                  refine own_iconst X228 hx 330 (1 : Int32) (by decide) (hb hby at_329) rfl ?_
                  refine own_goto X228 hx 334 (hb hby at_330) (by decide) (by decide) ?_
                  exact own_retZ X228 hx (1 : Int32) (by decide) hret hlk (hb hby at_334) (by decide) (by decide) ⟨rfl, N230⟩
              refine own_if_ge X196 hx 260 256 (hb hby at_253) (by decide) (by decide) rfl (fun h233 => ?_) (fun h233 => ?_)
              · show own_W p e below _ T194 (mkF m 260 #[.val (.int p0), .val (.int p1), .val (.int p2), .val (.int p3), .val (.int vs), .val (.int q1), .val (.int q2), .val (.int q3), .val (.ref a5), .val (.ref a47), .val (.ref a101), .val (.int rr), .val (.int vb), .val (.ref a157), .val (.int (own_after par g3 vb rr)), .val (.int vb), .val (.int c1), .val (.int c2), .unset, .unset] [])
                refine own_aload X196 hx 262 (hb hby at_260) rfl rfl ?_
                refine own_iload X196 hx 264 (hb hby at_262) rfl rfl ?_
                refine own_iaload X196 hx hZ e199 265 c2.toInt.toNat f185 (own_nn (own_ge0 h233)) (own_lt4 hc2) (hb hby at_264) rfl ?_
                exact J202 (par c2.toInt.toNat) (by unfold own_next; rw [if_neg h233])
              · show own_W p e below _ T194 (mkF m 256 #[.val (.int p0), .val (.int p1), .val (.int p2), .val (.int p3), .val (.int vs), .val (.int q1), .val (.int q2), .val (.int q3), .val (.ref a5), .val (.ref a47), .val (.ref a101), .val (.int rr), .val (.int vb), .val (.ref a157), .val (.int (own_after par g3 vb rr)), .val (.int vb), .val (.int c1), .val (.int c2), .unset, .unset] [])
                refine own_iconst X196 hx 257 (-1 : Int32) (by decide) (hb hby at_256) rfl ?_
                refine own_goto X196 hx 265 (hb hby at_257) (by decide) (by decide) ?_
                exact J202 (-1 : Int32) (by unfold own_next; rw [if_pos h233])
            refine own_if_ge X196 hx 244 240 (hb hby at_237) (by decide) (by decide) rfl (fun h234 => ?_) (fun h234 => ?_)
            · show own_W p e below _ T194 (mkF m 244 #[.val (.int p0), .val (.int p1), .val (.int p2), .val (.int p3), .val (.int vs), .val (.int q1), .val (.int q2), .val (.int q3), .val (.ref a5), .val (.ref a47), .val (.ref a101), .val (.int rr), .val (.int vb), .val (.ref a157), .val (.int (own_after par g3 vb rr)), .val (.int vb), .val (.int c1), .unset, .unset, .unset] [])
              refine own_aload X196 hx 246 (hb hby at_244) rfl rfl ?_
              refine own_iload X196 hx 248 (hb hby at_246) rfl rfl ?_
              refine own_iaload X196 hx hZ e199 249 c1.toInt.toNat f185 (own_nn (own_ge0 h234)) (own_lt4 hc1) (hb hby at_248) rfl ?_
              exact J200 (par c1.toInt.toNat) (by unfold own_next; rw [if_neg h234])
            · show own_W p e below _ T194 (mkF m 240 #[.val (.int p0), .val (.int p1), .val (.int p2), .val (.int p3), .val (.int vs), .val (.int q1), .val (.int q2), .val (.int q3), .val (.ref a5), .val (.ref a47), .val (.ref a101), .val (.int rr), .val (.int vb), .val (.ref a157), .val (.int (own_after par g3 vb rr)), .val (.int vb), .val (.int c1), .unset, .unset, .unset] [])
              refine own_iconst X196 hx 241 (-1 : Int32) (by decide) (hb hby at_240) rfl ?_
              refine own_goto X196 hx 249 (hb hby at_241) (by decide) (by decide) ?_
              exact J200 (-1 : Int32) (by unfold own_next; rw [if_pos h234])
          refine own_if_eq X145 hx 187 180 (hb hby at_177) (by decide) (by decide) rfl (fun h235 => ?_) (fun h235 => ?_)
          · show own_W p e below _ T143 (mkF m 187 #[.val (.int p0), .val (.int p1), .val (.int p2), .val (.int p3), .val (.int vs), .val (.int q1), .val (.int q2), .val (.int q3), .val (.ref a5), .val (.ref a47), .val (.ref a101), .unset, .unset, .unset, .unset, .unset, .unset, .unset, .unset, .unset] [])
            refine own_iloadN X145 hx 188 (hb hby at_187) rfl rfl ?_
            refine own_bipush X145 hx 190 (15 : Int32) (by decide) (hb hby at_188) rfl ?_
            refine own_iand X145 hx 191 (hb hby at_190) rfl ?_
            exact J153 (p2 &&& (15 : Int32)) (own_rd2 _)
          · show own_W p e below _ T143 (mkF m 180 #[.val (.int p0), .val (.int p1), .val (.int p2), .val (.int p3), .val (.int vs), .val (.int q1), .val (.int q2), .val (.int q3), .val (.ref a5), .val (.ref a47), .val (.ref a101), .unset, .unset, .unset, .unset, .unset, .unset, .unset, .unset, .unset] [])
            refine own_iloadN X145 hx 181 (hb hby at_180) rfl rfl ?_
            refine own_ldc X145 hx hZ hown 183 (hw _ (List.mem_of_getElem? (i := 0) rfl)) (hb hby at_181) rfl ?_
            refine own_iand X145 hx 184 (hb hby at_183) rfl ?_
            refine own_goto X145 hx 191 (hb hby at_184) (by decide) (by decide) ?_
            exact J153 (p2 &&& (2147483647 : Int32)) (own_rd1 _)
        refine own_if_ge X81 hx 138 134 (hb hby at_131) (by decide) (by decide) rfl (fun h236 => ?_) (fun h236 => ?_)
        · show own_W p e below _ T79 (mkF m 138 #[.val (.int p0), .val (.int p1), .val (.int p2), .val (.int p3), .val (.int vs), .val (.int q1), .val (.int q2), .val (.int q3), .val (.ref a5), .val (.ref a47), .unset, .unset, .unset, .unset, .unset, .unset, .unset, .unset, .unset, .unset] [(.int (3 : Int32)), (.ref a47)])
          refine own_aload X81 hx 140 (hb hby at_138) rfl rfl ?_
          refine own_iload X81 hx 142 (hb hby at_140) rfl rfl ?_
          refine own_iaload X81 hx hZ e82 143 q3.toInt.toNat f85 (own_nn (own_ge0 h236)) (own_lt4 (by omega)) (hb hby at_142) rfl ?_
          refine own_iconst X81 hx 144 (1 : Int32) (by decide) (hb hby at_143) rfl ?_
          refine own_iadd X81 hx 145 (hb hby at_144) rfl ?_
          refine own_iloadN X81 hx 146 (hb hby at_145) rfl rfl ?_
          refine own_iconst X81 hx 147 (4 : Int32) (by decide) (hb hby at_146) rfl ?_
          refine own_iushr X81 hx 148 (hb hby at_147) rfl ?_
          refine own_iconst X81 hx 149 (3 : Int32) (by decide) (hb hby at_148) rfl ?_
          refine own_iand X81 hx 150 (hb hby at_149) rfl ?_
          refine own_iadd X81 hx 151 (hb hby at_150) rfl ?_
          exact J88 (((g2 q3.toInt.toNat) + (1 : Int32)) + (((p1.toUInt32 >>> ((4 : Int32) &&& 31).toUInt32).toInt32) &&& (3 : Int32))) (own_st1 q3 _ _ _ g2 12 (by decide) h236 (by have := bg2 q3.toInt.toNat; omega) rfl rfl)
        · show own_W p e below _ T79 (mkF m 134 #[.val (.int p0), .val (.int p1), .val (.int p2), .val (.int p3), .val (.int vs), .val (.int q1), .val (.int q2), .val (.int q3), .val (.ref a5), .val (.ref a47), .unset, .unset, .unset, .unset, .unset, .unset, .unset, .unset, .unset, .unset] [(.int (3 : Int32)), (.ref a47)])
          refine own_iconst X81 hx 135 (0 : Int32) (by decide) (hb hby at_134) rfl ?_
          refine own_goto X81 hx 151 (hb hby at_135) (by decide) (by decide) ?_
          exact J88 (0 : Int32) (own_st0 q3 g2 12 (by decide) h236)
      refine own_if_ge X70 hx 112 108 (hb hby at_105) (by decide) (by decide) rfl (fun h237 => ?_) (fun h237 => ?_)
      · show own_W p e below _ T68 (mkF m 112 #[.val (.int p0), .val (.int p1), .val (.int p2), .val (.int p3), .val (.int vs), .val (.int q1), .val (.int q2), .val (.int q3), .val (.ref a5), .val (.ref a47), .unset, .unset, .unset, .unset, .unset, .unset, .unset, .unset, .unset, .unset] [(.int (2 : Int32)), (.ref a47)])
        refine own_aload X70 hx 114 (hb hby at_112) rfl rfl ?_
        refine own_iload X70 hx 116 (hb hby at_114) rfl rfl ?_
        refine own_iaload X70 hx hZ e71 117 q2.toInt.toNat f74 (own_nn (own_ge0 h237)) (own_lt4 (by omega)) (hb hby at_116) rfl ?_
        refine own_iconst X70 hx 118 (1 : Int32) (by decide) (hb hby at_117) rfl ?_
        refine own_iadd X70 hx 119 (hb hby at_118) rfl ?_
        refine own_iloadN X70 hx 120 (hb hby at_119) rfl rfl ?_
        refine own_iconst X70 hx 121 (2 : Int32) (by decide) (hb hby at_120) rfl ?_
        refine own_iushr X70 hx 122 (hb hby at_121) rfl ?_
        refine own_iconst X70 hx 123 (3 : Int32) (by decide) (hb hby at_122) rfl ?_
        refine own_iand X70 hx 124 (hb hby at_123) rfl ?_
        refine own_iadd X70 hx 125 (hb hby at_124) rfl ?_
        exact J77 (((g1 q2.toInt.toNat) + (1 : Int32)) + (((p1.toUInt32 >>> ((2 : Int32) &&& 31).toUInt32).toInt32) &&& (3 : Int32))) (own_st1 q2 _ _ _ g1 8 (by decide) h237 (by have := bg1 q2.toInt.toNat; omega) rfl rfl)
      · show own_W p e below _ T68 (mkF m 108 #[.val (.int p0), .val (.int p1), .val (.int p2), .val (.int p3), .val (.int vs), .val (.int q1), .val (.int q2), .val (.int q3), .val (.ref a5), .val (.ref a47), .unset, .unset, .unset, .unset, .unset, .unset, .unset, .unset, .unset, .unset] [(.int (2 : Int32)), (.ref a47)])
        refine own_iconst X70 hx 109 (0 : Int32) (by decide) (hb hby at_108) rfl ?_
        refine own_goto X70 hx 125 (hb hby at_109) (by decide) (by decide) ?_
        exact J77 (0 : Int32) (own_st0 q2 g1 8 (by decide) h237)
    refine own_if_ge X59 hx 88 84 (hb hby at_81) (by decide) (by decide) rfl (fun h238 => ?_) (fun h238 => ?_)
    · show own_W p e below _ T57 (mkF m 88 #[.val (.int p0), .val (.int p1), .val (.int p2), .val (.int p3), .val (.int vs), .val (.int q1), .val (.int q2), .val (.int q3), .val (.ref a5), .val (.ref a47), .unset, .unset, .unset, .unset, .unset, .unset, .unset, .unset, .unset, .unset] [(.int (1 : Int32)), (.ref a47)])
      refine own_aload X59 hx 90 (hb hby at_88) rfl rfl ?_
      refine own_iload X59 hx 92 (hb hby at_90) rfl rfl ?_
      refine own_iaload X59 hx hZ e60 93 q1.toInt.toNat f63 (own_nn (own_ge0 h238)) (own_lt4 (own_p1i q1 hq1 h238)) (hb hby at_92) rfl ?_
      refine own_iconst X59 hx 94 (1 : Int32) (by decide) (hb hby at_93) rfl ?_
      refine own_iadd X59 hx 95 (hb hby at_94) rfl ?_
      refine own_iloadN X59 hx 96 (hb hby at_95) rfl rfl ?_
      refine own_iconst X59 hx 97 (3 : Int32) (by decide) (hb hby at_96) rfl ?_
      refine own_iand X59 hx 98 (hb hby at_97) rfl ?_
      refine own_iadd X59 hx 99 (hb hby at_98) rfl ?_
      exact J66 (((g0 q1.toInt.toNat) + (1 : Int32)) + (p1 &&& (3 : Int32))) (own_st1 q1 _ _ _ g0 4 (by decide) h238 (by have := bg0 q1.toInt.toNat; omega) rfl rfl)
    · show own_W p e below _ T57 (mkF m 84 #[.val (.int p0), .val (.int p1), .val (.int p2), .val (.int p3), .val (.int vs), .val (.int q1), .val (.int q2), .val (.int q3), .val (.ref a5), .val (.ref a47), .unset, .unset, .unset, .unset, .unset, .unset, .unset, .unset, .unset, .unset] [(.int (1 : Int32)), (.ref a47)])
      refine own_iconst X59 hx 85 (0 : Int32) (by decide) (hb hby at_84) rfl ?_
      refine own_goto X59 hx 99 (hb hby at_85) (by decide) (by decide) ?_
      exact J66 (0 : Int32) (own_st0 q1 g0 4 (by decide) h238)
  refine own_if_eq X0 hx 17 13 (hb hby at_10) (by decide) (by decide) rfl (fun h239 => ?_) (fun h239 => ?_)
  · show own_W p e below _ T0 (mkF m 17 #[.val (.int p0), .val (.int p1), .val (.int p2), .val (.int p3), .val (.int vs), .unset, .unset, .unset, .unset, .unset, .unset, .unset, .unset, .unset, .unset, .unset, .unset, .unset, .unset, .unset] [])
    refine own_iconst X0 hx 18 (-1 : Int32) (by decide) (hb hby at_17) rfl ?_
    exact J1 (-1 : Int32) (by decide)
  · show own_W p e below _ T0 (mkF m 13 #[.val (.int p0), .val (.int p1), .val (.int p2), .val (.int p3), .val (.int vs), .unset, .unset, .unset, .unset, .unset, .unset, .unset, .unset, .unset, .unset, .unset, .unset, .unset, .unset, .unset] [])
    refine own_iconst X0 hx 14 (0 : Int32) (by decide) (hb hby at_13) rfl ?_
    refine own_goto X0 hx 18 (hb hby at_14) (by decide) (by decide) ?_
    exact J1 (0 : Int32) (by decide)
set_option maxRecDepth 65536 in
set_option maxHeartbeats 40000000 in
theorem comes_1 {Post : Tables → Env → Array Value → State → Outcome → State → Prop} (hpost : ∀ tb e args s v u, (limb_1_1.after args s (.returned v) u = true ∧ limb_1_2.after args s (.returned v) u = true ∧ True) → FrameEnd s (.returned v) u (Jvm.fieldLocs frame_1_writes args s ++ Jvm.arrayLocs frame_1_arrays args s ++ Jvm.staticLocs frame_1_statics s) 16 128 → Post tb e args s (.returned v) u) :
    ArmFor flags0 classFile x code maxLocals ret World_1 tables_1 room_1 Calls_1 rest_1 Pre_1 Post := by
  intro l hfl _ _ p e ha hc hk s m args below hf hA hF happ hP
  obtain ⟨hcalls, hrest, hpre⟩ := hP
  obtain ⟨-, -, -, hnamed, -, -, -, hat⟩ := (Spec.applies_iff hf).mp happ
  obtain ⟨hg, hn⟩ := and_e (Cond.before_iff.mp (show (Jvm.Cond.and given_1 narrow_1).before args s = true from hpre))
  obtain ⟨g0, gr0⟩ := and_e hg
  obtain ⟨g1, gr1⟩ := and_e gr0
  obtain ⟨g2, gr2⟩ := and_e gr1
  obtain ⟨g3, gr3⟩ := and_e gr2
  obtain ⟨w0, w1, w2, w3, rfl⟩ : ∃ w0 w1 w2 w3 : Value, args = #[w0, w1, w2, w3] := by
    have hs : args.size = 4 := by simpa [Cond.value, given_1] using g0
    obtain ⟨L⟩ := args
    match L, hs with
    | [w0, w1, w2, w3], _ => exact ⟨w0, w1, w2, w3, rfl⟩
  have hw := fun d (hd : d ∈ tables_1) => atoms_spec (ws := Jvm.Cond.code x code maxLocals ret :: tables_1) hat d (List.mem_cons_of_mem _ hd)
  obtain ⟨i0, ei0⟩ := is_v g1
  obtain rfl : w0 = (.int i0) := Option.some.inj ei0
  obtain ⟨i1, ei1⟩ := is_v g2
  obtain rfl : w1 = (.int i1) := Option.some.inj ei1
  obtain ⟨i2, ei2⟩ := is_v g3
  obtain rfl : w2 = (.int i2) := Option.some.inj ei2
  obtain ⟨i3, ei3⟩ := is_v gr3
  obtain rfl : w3 = (.int i3) := Option.some.inj ei3
  obtain ⟨n, o, h1, h2, h3, _, L, rfl, ⟨rfl, N⟩, hq⟩ := rm0 l s _ hw i0 i1 i2 i3 s.heap s.heap.size (Nat.le_refl _) p e ha hc hk s m _ below hf ((Spec.applies_iff_loose hf).mp happ).1 ⟨rfl, State.Warmed39.refl s, rfl⟩ trivial
  refine ⟨n, _, h1, h2, h3, hpost _ _ _ _ _ _ ⟨Cond.after_iff.mpr rfl, Cond.after_iff.mpr (eq_i res_at (Term.int_eval (1)) rfl), trivial⟩ ⟨hq.1, hq.2.1, (hq.2.2.sift fun y hy => Or.inr (N y hy)).mono (by decide) (by decide)⟩⟩
theorem main_1_1 : Claimed_1_1 := comes_1 fun _ _ _ _ _ _ h hF => ⟨h.1, hF⟩
theorem main_1_2 : Claimed_1_2 := comes_1 fun _ _ _ _ _ _ h hF => ⟨h.2.1, hF⟩
end Jvm.Pilot.@@N@@
namespace Jvm.Pilot.@@N@@
open Jvm Jvm.ClassFile Sem Op Lib Jvm.Free Jvm.Stand Jvm.Pilot.@@N@@.Jvm.D
/-! MADE BY PROGRAM (witnessworld.py) out of the Statement's table words and the real class files: 9 classes; the members and pool entries that the words name. The judged class is class 1, her method 2. -/
namespace start1
open Jvm.ClassFile
def u (s : String) : CpInfo := .utf8 (stringToUtf16 s)
/-- a pool by its gaps: so many unusable entries, then the entry; so many at the end -/
def gap : Nat → List CpInfo → List CpInfo
  | 0, r => r
  | n + 1, r => .unusable :: gap n r
def poolList (es : List (Nat × CpInfo)) (last : Nat) : List CpInfo := es.foldr (fun e r => gap e.1 (e.2 :: r)) (gap last [])
def pool (es : List (Nat × CpInfo)) (last : Nat) : Array CpInfo := ⟨poolList es last⟩
def fileOf (pool : Array CpInfo) (this : Nat) (attrs : Array Attribute := #[]) (ms : Array MethodInfo := #[]) (fl : Nat := 33) (sup : Nat := 0) (ifs : Array Nat := #[]) (fds : Array FieldInfo := #[]) : ClassFile where
  minorVersion := 0
  majorVersion := 65
  constantPool := pool
  accessFlags := fl
  thisClass := this
  superClass := sup
  interfaces := ifs
  fields := fds
  methods := ms
  attributes := attrs
def plain (name : String) (sup : Option ClassId) : Class where
  name := name
  kind := .ordinary
  loader := none
  accessFlags := 33
  super := sup
  interfaces := #[]
  cf := none
  fields := #[]
  methods := #[]
  instanceTypes := #[]
  staticTypes := #[]
  resolved := #[]
  callSites := []
  init := .initialized
  statics := none
  mirror := none

def pool0 : Array CpInfo := pool [(5, u "<init>"), (0, u "()V"), (1, .class_ 10), (1, u "java/lang/Object")] 113

def k0c0 : Code := { maxStack := 0, maxLocals := 1, code := object_method_1_code, exceptionTable := #[], attributes := #[] }
def k0m0 : Method := { name := "<init>", desc := "()V", sig := { parameters := [], returnType := none }, accessFlags := 1, code := some k0c0 }
/-- java/lang/Object -/
def k0 : Class := { plain "java/lang/Object" none with
  accessFlags := 33
  interfaces := #[]
  cf := some (fileOf pool0 8 #[] #[{ accessFlags := 1, nameIndex := 5, descriptorIndex := 6, attributes := #[] }] 33 0 #[] #[])
  fields := #[]
  methods := #[k0m0]
  instanceTypes := #[]
  staticTypes := #[]
  resolved := Array.replicate 124 none
  statics := none }

def pool1 : Array CpInfo := pool [(2, .class_ 4), (1, u "java/lang/Object"), (0, u "<init>"), (0, u "()V"), (0, .integer 2147483647), (0, .class_ 9), (0, u "com/example/trubis/trubis/equivalence/BlockHistory"), (0, .methodref 8 11), (0, .nameAndType 5 12), (0, u "([I[I[I)V"), (0, .methodref 8 14), (0, .nameAndType 15 16), (0, u "after"), (0, u "(II)I"), (0, .methodref 18 19), (0, .class_ 20), (0, .nameAndType 21 22), (0, u "com/example/trubis/trubis/equivalence/BlockHistoryAfterPinLaw"), (0, u "pick"), (0, u "(II[II)I"), (3, u "law"), (0, u "(IIII)Z")] 4

def k1m0 : Method := { name := "<init>", desc := "()V", sig := { parameters := [], returnType := none }, accessFlags := 1, code := none }
def k1c1 : Code := { maxStack := 3, maxLocals := 4, code := method_2_code, exceptionTable := #[], attributes := #[] }
def k1m1 : Method := { name := "pick", desc := "(II[II)I", sig := { parameters := [.int, .int, (.array .int), .int], returnType := some .int }, accessFlags := 10, code := some k1c1 }
def k1c2 : Code := { maxStack := 5, maxLocals := 20, code := code, exceptionTable := #[], attributes := #[] }
def k1m2 : Method := { name := "law", desc := "(IIII)Z", sig := { parameters := [.int, .int, .int, .int], returnType := some .boolean }, accessFlags := 9, code := some k1c2 }
/-- com/example/trubis/trubis/equivalence/BlockHistoryAfterPinLaw -/
def k1 : Class := { plain "com/example/trubis/trubis/equivalence/BlockHistoryAfterPinLaw" (some 0) with
  accessFlags := 49
  interfaces := #[]
  cf := some (fileOf pool1 18 #[] #[{ accessFlags := 1, nameIndex := 5, descriptorIndex := 6, attributes := #[] }, { accessFlags := 10, nameIndex := 21, descriptorIndex := 22, attributes := #[] }, { accessFlags := 9, nameIndex := 26, descriptorIndex := 27, attributes := #[] }] 49 2 #[] #[])
  fields := #[]
  methods := #[k1m0, k1m1, k1m2]
  instanceTypes := #[]
  staticTypes := #[]
  resolved := Array.replicate 32 none
  statics := none }

def pool2 : Array CpInfo := pool [(1, .methodref 2 3), (0, .class_ 4), (0, .nameAndType 5 6), (0, u "java/lang/Object"), (0, u "<init>"), (0, u "()V"), (0, .fieldref 8 9), (0, .class_ 10), (0, .nameAndType 11 12), (0, u "com/example/trubis/trubis/equivalence/BlockHistory"), (0, u "blockOf"), (0, u "[I"), (0, .fieldref 8 14), (0, .nameAndType 15 12), (0, u "parentOf"), (0, .fieldref 8 17), (0, .nameAndType 18 12), (0, u "madeIn"), (3, u "([I[I[I)V"), (5, u "after"), (0, u "(II)I")] 4

def k2c0 : Code := { maxStack := 2, maxLocals := 4, code := prog_1_method_1_code, exceptionTable := #[], attributes := #[] }
def k2m0 : Method := { name := "<init>", desc := "([I[I[I)V", sig := { parameters := [(.array .int), (.array .int), (.array .int)], returnType := none }, accessFlags := 0, code := some k2c0 }
def k2c1 : Code := { maxStack := 2, maxLocals := 4, code := prog_1_method_4_code, exceptionTable := #[], attributes := #[] }
def k2m1 : Method := { name := "after", desc := "(II)I", sig := { parameters := [.int, .int], returnType := some .int }, accessFlags := 0, code := some k2c1 }
/-- com/example/trubis/trubis/equivalence/BlockHistory -/
def k2 : Class := { plain "com/example/trubis/trubis/equivalence/BlockHistory" (some 0) with
  accessFlags := 32
  interfaces := #[]
  cf := some (fileOf pool2 8 #[] #[{ accessFlags := 0, nameIndex := 5, descriptorIndex := 22, attributes := #[] }, { accessFlags := 0, nameIndex := 28, descriptorIndex := 29, attributes := #[] }] 32 2 #[] #[{ accessFlags := 18, nameIndex := 11, descriptorIndex := 12, attributes := #[] }, { accessFlags := 18, nameIndex := 15, descriptorIndex := 12, attributes := #[] }, { accessFlags := 18, nameIndex := 18, descriptorIndex := 12, attributes := #[] }])
  fields := #[{ name := "blockOf", type := (.array .int), accessFlags := 18, slot := 0, constantValue := 0 }, { name := "parentOf", type := (.array .int), accessFlags := 18, slot := 1, constantValue := 0 }, { name := "madeIn", type := (.array .int), accessFlags := 18, slot := 2, constantValue := 0 }]
  methods := #[k2m0, k2m1]
  instanceTypes := #[(.array .int), (.array .int), (.array .int)]
  staticTypes := #[]
  resolved := Array.replicate 34 none
  statics := none }

def pool3 : Array CpInfo := pool [(1, u "java/lang/Cloneable"), (0, .class_ 1), (0, u "java/lang/Object"), (0, .class_ 3)] 3

/-- java/lang/Cloneable -/
def k3 : Class := { plain "java/lang/Cloneable" (some 0) with
  accessFlags := 1537
  interfaces := #[]
  cf := some (fileOf pool3 2 #[] #[] 1537 4 #[] #[])
  fields := #[]
  methods := #[]
  instanceTypes := #[]
  staticTypes := #[]
  resolved := Array.replicate 8 none
  statics := none }

def pool4 : Array CpInfo := pool [(1, u "java/io/Serializable"), (0, .class_ 1), (0, u "java/lang/Object"), (0, .class_ 3)] 3

/-- java/io/Serializable -/
def k4 : Class := { plain "java/io/Serializable" (some 0) with
  accessFlags := 1537
  interfaces := #[]
  cf := some (fileOf pool4 2 #[] #[] 1537 4 #[] #[])
  fields := #[]
  methods := #[]
  instanceTypes := #[]
  staticTypes := #[]
  resolved := Array.replicate 8 none
  statics := none }

/-- the primitive byte -/
def k5 : Class := { plain "byte" none with kind := .primitive 'B', accessFlags := 0x411 }
/-- [B -/
def k6 : Class := { plain "[B" (some 0) with kind := .array 5 .byte, interfaces := #[3, 4], accessFlags := 1041 }

/-- the primitive int -/
def k7 : Class := { plain "int" none with kind := .primitive 'I', accessFlags := 0x411 }
/-- [I -/
def k8 : Class := { plain "[I" (some 0) with kind := .array 7 .int, interfaces := #[3, 4], accessFlags := 1041 }

def heap : Heap := #[]
def classes : Array Class := #[k0, k1, k2, k3, k4, k5, k6, k7, k8]
def interned : List (Array UInt16 × Addr) := []
def slotsUsed : Nat := 0
def theMethod : MethodId := ⟨1, 2⟩
def args0 : Array Value := #[.int 7, .int 8, .int 9, .int 1]
def aboutOver (below : List Frame) : State where
  vm := { classes := classes, interned := interned.toArray }
  heap := heap
  slotsUsed := slotsUsed
  threads := #[{ frames := .invoking theMethod args0 :: below }]
def below0 : List Frame := [.native { method := ⟨0, 0⟩, args := #[] }]
def about1 : State := aboutOver below0
def p0 : Program := .bare "" "" ""
def e0 : Env := launch0.env 0 0 0
theorem w_frames : about1.frames = Frame.invoking theMethod args0 :: below0 := rfl
set_option maxRecDepth 65536 in
theorem w_args : argsFit about1.vm theMethod args0 = true := by decide +kernel
set_option maxRecDepth 65536 in
theorem w_heap : heapFits about1 = true := by decide +kernel
set_option maxRecDepth 65536 in
theorem w_runnable : about1.curStatus? = some .runnable := by decide +kernel
set_option maxRecDepth 65536 in
theorem w_alone : about1.alone = true := by decide +kernel
set_option maxRecDepth 65536 in
theorem w_named : about1.methodNamed? x = some theMethod := by decide +kernel
set_option maxRecDepth 65536 in
theorem w_hears : about1.hears theMethod below0 = true := by decide +kernel
set_option maxRecDepth 65536 in
theorem w_ripe : about1.ripe theMethod args0 below0 = true := by decide +kernel
theorem w_running : about1.status = .running := rfl
set_option maxRecDepth 65536 in
theorem w_room : about1.hasRoom e0.platform room_1 = true :=
  launch0.hasRoom_least _ room_1 (by decide +kernel) (by decide +kernel) (by decide +kernel) (by decide +kernel) (by decide +kernel) (by decide +kernel)
theorem allAtoms_all (ts : List Jvm.Cond) (a : Array Jvm.Value) (st : Jvm.State) : (allAtoms ts).before a st = ts.all (fun c => c.before a st) := by
  induction ts with
  | nil => rfl
  | cons c t ih =>
    show (Jvm.Cond.and c (allAtoms t)).before a st = _
    rw [Jvm.Cond.before_and, ih, List.all_cons]
def words1 : List Jvm.Cond := Jvm.Cond.code x code maxLocals ret :: tables_1
/-- a 'code' word, met by the world's own term for the bytes: nothing is compared byte by byte -/
theorem code_word {y : MethodName} {bytes : ByteArray} {mx : Nat} {rt : Option FieldType} {a : Array Value} {s : State} {m : MethodId} {meth : Method} {c : Code} (h1 : s.methodNamed? y = some m) (h2 : s.vm.method? m = some meth) (h3 : meth.code = some c) (h4 : c.code = bytes)
    (h5 : (c.maxLocals == mx && c.exceptionTable.isEmpty && decide (c.maxStack ≤ mostOperands) && decide (meth.sig.returnType = rt) && !meth.locks && decide (parseMethodDescriptor y.desc = some meth.sig)) = true) : (Jvm.Cond.code y bytes mx rt).before a s = true := by
  simp only [Bool.and_eq_true, beq_iff_eq, Bool.not_eq_true', decide_eq_true_eq] at h5
  obtain ⟨⟨⟨⟨⟨g1, g2⟩, g3⟩, g4⟩, g5⟩, g6⟩ := h5
  simp [Cond.before, Cond.holds, Cond.value, h1, h2, h3, h4, g1, g2, g3, g4, g5, g6]
def isCode : Jvm.Cond → Bool
  | .code _ _ _ _ => true
  | _ => false
theorem all_split {L : List Jvm.Cond} {P : Jvm.Cond → Bool} (h1 : L.all (fun c => isCode c || P c) = true) (h2 : ∀ c ∈ L.filter isCode, P c = true) : L.all P = true := by
  refine List.all_eq_true.mpr fun c hc => ?_
  have h := List.all_eq_true.mp h1 c hc
  rcases Bool.eq_false_or_eq_true (isCode c) with hi | hi
  · exact h2 c (List.mem_filter.mpr ⟨hc, hi⟩)
  · simpa [hi] using h
set_option maxRecDepth 65536 in
theorem w_c0 : (Jvm.Cond.code x code maxLocals ret).before args0 about1 = true := code_word (m := ⟨1, 2⟩) (meth := k1m2) (c := k1c2) (by decide +kernel) rfl rfl rfl (by decide +kernel)
set_option maxRecDepth 65536 in
theorem w_c1 : (Jvm.Cond.code ({ cls := "com/example/trubis/trubis/equivalence/BlockHistory", name := "<init>", desc := "([I[I[I)V" } : Jvm.MethodName) prog_1_method_1_code (4 : Nat) (Option.none : Option Jvm.ClassFile.FieldType)).before args0 about1 = true := code_word (m := ⟨2, 0⟩) (meth := k2m0) (c := k2c0) (by decide +kernel) rfl rfl rfl (by decide +kernel)
set_option maxRecDepth 65536 in
theorem w_c2 : (Jvm.Cond.code ({ cls := "java/lang/Object", name := "<init>", desc := "()V" } : Jvm.MethodName) object_method_1_code (1 : Nat) (Option.none : Option Jvm.ClassFile.FieldType)).before args0 about1 = true := code_word (m := ⟨0, 0⟩) (meth := k0m0) (c := k0c0) (by decide +kernel) rfl rfl rfl (by decide +kernel)
set_option maxRecDepth 65536 in
theorem w_c3 : (Jvm.Cond.code ({ cls := "com/example/trubis/trubis/equivalence/BlockHistory", name := "after", desc := "(II)I" } : Jvm.MethodName) prog_1_method_4_code (4 : Nat) (Option.some Jvm.ClassFile.FieldType.int)).before args0 about1 = true := code_word (m := ⟨2, 1⟩) (meth := k2m1) (c := k2c1) (by decide +kernel) rfl rfl rfl (by decide +kernel)
set_option maxRecDepth 65536 in
theorem w_c4 : (Jvm.Cond.code ({ cls := "com/example/trubis/trubis/equivalence/BlockHistoryAfterPinLaw", name := "pick", desc := "(II[II)I" } : Jvm.MethodName) method_2_code (4 : Nat) (Option.some Jvm.ClassFile.FieldType.int)).before args0 about1 = true := code_word (m := ⟨1, 1⟩) (meth := k1m1) (c := k1c1) (by decide +kernel) rfl rfl rfl (by decide +kernel)
def codes1 : List Jvm.Cond := [Jvm.Cond.code x code maxLocals ret, Jvm.Cond.code ({ cls := "com/example/trubis/trubis/equivalence/BlockHistory", name := "<init>", desc := "([I[I[I)V" } : Jvm.MethodName) prog_1_method_1_code (4 : Nat) (Option.none : Option Jvm.ClassFile.FieldType), Jvm.Cond.code ({ cls := "java/lang/Object", name := "<init>", desc := "()V" } : Jvm.MethodName) object_method_1_code (1 : Nat) (Option.none : Option Jvm.ClassFile.FieldType), Jvm.Cond.code ({ cls := "com/example/trubis/trubis/equivalence/BlockHistory", name := "after", desc := "(II)I" } : Jvm.MethodName) prog_1_method_4_code (4 : Nat) (Option.some Jvm.ClassFile.FieldType.int), Jvm.Cond.code ({ cls := "com/example/trubis/trubis/equivalence/BlockHistoryAfterPinLaw", name := "pick", desc := "(II[II)I" } : Jvm.MethodName) method_2_code (4 : Nat) (Option.some Jvm.ClassFile.FieldType.int)]
set_option maxRecDepth 65536 in
theorem codes_eq : words1.filter isCode = codes1 := rfl
theorem w_codes : ∀ c ∈ words1.filter isCode, c.before args0 about1 = true := by
  rw [codes_eq]
  intro c hc
  simp only [codes1, List.mem_cons, List.not_mem_nil, or_false] at hc
  rcases hc with rfl | rfl | rfl | rfl | rfl
  · exact w_c0
  · exact w_c1
  · exact w_c2
  · exact w_c3
  · exact w_c4
set_option maxRecDepth 65536 in
theorem w_t1 : (words1.take 24).all (fun c => isCode c || c.before args0 about1) = true := by decide +kernel
set_option maxRecDepth 65536 in
theorem w_t2 : (words1.drop 24).all (fun c => isCode c || c.before args0 about1) = true := by decide +kernel
theorem w_tables : (allAtoms (Jvm.Cond.code x code maxLocals ret :: tables_1)).before args0 about1 = true := by
  rw [allAtoms_all]
  show words1.all (fun c => c.before args0 about1) = true
  refine all_split ?_ w_codes
  rw [← List.take_append_drop 24 words1, List.all_append, w_t1, w_t2]
  rfl
set_option maxRecDepth 65536 in
theorem w_case : (Jvm.Cond.and given_1 narrow_1).before args0 about1 = true := by decide +kernel
theorem w_applies : (headSpec (Jvm.Cond.code x code maxLocals ret :: tables_1) room_1).applies x e0.platform about1 = true :=
  (Spec.applies_iff w_frames).mpr ⟨w_running, w_runnable, w_alone, w_named, w_hears, w_ripe, w_room, w_tables⟩
theorem atStart : AtStart classFile x code maxLocals ret World_1 tables_1 room_1 Calls_1 rest_1 Pre_1 launch0 p0 e0 about1 theMethod args0 below0 :=
  ⟨lists_1, trivial, launch0.admits_env _ _ _, launch0.least_env, fairChoices_fair.cas, fairChoices_fair.clock, w_frames, w_args, w_heap, w_applies, trivial, trivial, w_case⟩
end start1
theorem witness_1 : WitnessClaimed_1 := ⟨start1.p0, start1.e0, start1.about1, start1.theMethod, start1.args0, start1.below0, start1.atStart⟩
end Jvm.Pilot.@@N@@
